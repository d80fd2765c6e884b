import PyProof.Rows.All
import Wide.All
import OpenK.AllK
import Wide.FinOn
import PySem.Challenge.RW_re0150_02
set_option Elab.async false
section
set_option maxRecDepth 100000
set_option linter.unusedVariables false
namespace Mine
open PySem PySem.W PySem.Calls PyProof.Rows

theorem wrap_id {α : Type} (x : Sem α) : x.wrap Sem.pure Sem.raise id id = x := by
  induction x <;> simp only [Sem.wrap, id, *]

/-- a straight run: from (p, s) the tree t comes to its value a at (p', s') in n steps of the top's machine, whatever stands behind it -/
def Rn (tb : String → Option Builtin) (pr : Program) (w : World) (n₀ : Nat) (ann : Option Value) {α : Type} (n : Nat) (t : Sem α) (p : Pos) (s : Shared) (a : α) (p' : Pos) (s' : Shared) : Prop :=
  ∀ (K : α → Sem Fin) (H : Value → Sem Fin) (gd : Bool → Bool) (lv : List Value → List Value) (code : Code) (b : Frame) (B : List Frame) (N : Nat) (r : Shared),
    topRun tb pr w n₀ ann N s' ⟨K a, code, p', b :: B⟩ = some r → topRun tb pr w n₀ ann (N + n) s ⟨t.wrap K H gd lv, code, p, b :: B⟩ = some r

section
variable {tb : String → Option Builtin} {pr : Program} {w : World} {n₀ : Nat} {ann : Option Value} {α β : Type} {p p' p₁ : Pos} {s s' s₁ : Shared}

theorem rn_pure {a : α} : Rn tb pr w n₀ ann 0 (pure a) p s a p s := fun _ _ _ _ _ _ _ _ _ h => h

theorem rn_mono {n m : Nat} {t : Sem α} {a : α} (h : Rn tb pr w n₀ ann n t p s a p' s') (hm : n ≤ m) : Rn tb pr w n₀ ann m t p s a p' s' := by
  intro K H gd lv code b B N r hr
  have := topRun_mono (m - n) _ _ _ _ (h K H gd lv code b B N r hr)
  rwa [show N + n + (m - n) = N + m by omega] at this

theorem rn_bind {n k : Nat} {m : Sem α} {f : α → Sem β} {a : α} {b : β} (h : Rn tb pr w n₀ ann n m p s a p₁ s₁) (h' : Rn tb pr w n₀ ann k (f a) p₁ s₁ b p' s') :
    Rn tb pr w n₀ ann (k + n) (m >>= f) p s b p' s' := by
  intro K H gd lv code fr B N r hr
  have h1 := h' K H gd lv code fr B N r hr
  have h2 := h (fun a => (f a).wrap K H gd lv) H gd lv code fr B (N + k) r h1
  rw [Nat.add_assoc] at h2
  have e : (m >>= f).wrap K H gd lv = m.wrap (fun a => (f a).wrap K H gd lv) H gd lv := by
    rw [Sem.bind_eq_wrap', Sem.wrap_wrap]; rfl
  rw [e]; exact h2

theorem rn_then {N : Nat} (n k : Nat) {m : Sem α} {f : α → Sem β} {a : α} {b : β} (h : Rn tb pr w n₀ ann n m p s a p₁ s₁) (h' : Rn tb pr w n₀ ann k (f a) p₁ s₁ b p' s') (hN : k + n ≤ N := by omega) :
    Rn tb pr w n₀ ann N (m >>= f) p s b p' s' := rn_mono (rn_bind h h') hN

/-- one step that the machine makes -/
theorem rn_step {t : Sem α} {k : Sem α} {a : α} {n : Nat}
    (hs : ∀ (K : α → Sem Fin) (H : Value → Sem Fin) (gd : Bool → Bool) (lv : List Value → List Value) (code : Code) (b : Frame) (B : List Frame),
      stepOk n₀ ann ⟨t.wrap K H gd lv, code, p, b :: B⟩ = true ∧ step (denote tb) pr w s ⟨t.wrap K H gd lv, code, p, b :: B⟩ = .go s₁ ⟨k.wrap K H gd lv, code, p₁, b :: B⟩)
    (h : Rn tb pr w n₀ ann n k p₁ s₁ a p' s') : Rn tb pr w n₀ ann (n + 1) t p s a p' s' := by
  intro K H gd lv code b B N r hr
  obtain ⟨h1, h2⟩ := hs K H gd lv code b B
  show topRun tb pr w n₀ ann (N + n + 1) s _ = some r
  unfold topRun
  have ht : through ⟨t.wrap K H gd lv, code, p, b :: B⟩ = false := rfl
  rw [ht, h1, h2]
  exact h K H gd lv code b B N r hr

theorem rn_rule {tag : String} : Rn tb pr w n₀ ann 1 (PySem.rule tag) p s () p s :=
  rn_step (k := .pure ()) (fun K H gd lv code b B => ⟨rfl, rfl⟩) rn_pure
theorem rn_at {q : Pos} : Rn tb pr w n₀ ann 1 (standAt q) p s () q s :=
  rn_step (k := .pure ()) (fun K H gd lv code b B => ⟨rfl, rfl⟩) rn_pure
theorem rn_loadPart {a : Addr} {part : Option Value} {o : Obj} (ho : s.heap.get? a = some o) : Rn tb pr w n₀ ann 1 (loadPart a part) p s o p s :=
  rn_step (k := .pure o) (fun K H gd lv code b B => ⟨rfl, by
    obtain ⟨h, g, d, t, os⟩ := s
    simp only at ho
    simp only [loadPart, Sem.wrap, step, ho]⟩) rn_pure
theorem rn_load {a : Addr} {o : Obj} (ho : s.heap.get? a = some o) : Rn tb pr w n₀ ann 1 (load a) p s o p s := rn_loadPart ho
theorem rn_updatePart {a : Addr} {part : Option Value} {f : Obj → Obj} {o : Obj} (ho : s.heap.get? a = some o) (ha : n₀ ≤ a) : Rn tb pr w n₀ ann 1 (updatePart a part f) p s () p { s with heap := s.heap.update a f } :=
  rn_step (k := .pure ()) (fun K H gd lv code b B => ⟨by
    have : Nat.ble n₀ a = true := Nat.ble_eq_true_of_le ha
    simp only [updatePart, Sem.wrap, stepOk, this, Bool.true_or, Bool.and_true]
    rfl, by
    obtain ⟨h, g, d, t, os⟩ := s
    simp only at ho
    simp only [updatePart, Sem.wrap, step, ho, Option.isSome_some, if_true]⟩) rn_pure
theorem rn_alloc {o : Obj} : Rn tb pr w n₀ ann 1 (alloc o) p s s.heap.objs.size p { s with heap := s.heap.push o } :=
  rn_step (k := .pure _) (fun K H gd lv code b B => ⟨rfl, rfl⟩) rn_pure
theorem rn_fresh : Rn tb pr w n₀ ann 1 fresh p s s.toks p { s with toks := s.toks + 1 } :=
  rn_step (k := .pure _) (fun K H gd lv code b B => ⟨rfl, rfl⟩) rn_pure
theorem rn_ask : Rn tb pr w n₀ ann 1 ask p s ⟨pr, w.params⟩ p s :=
  rn_step (k := .pure _) (fun K H gd lv code b B => ⟨rfl, rfl⟩) rn_pure
theorem rn_point : Rn tb pr w n₀ ann 1 point p s () p s :=
  rn_step (k := .pure ()) (fun K H gd lv code b B => ⟨rfl, rfl⟩) rn_pure

theorem rn_keep {n : Nat} {vs : List Value} {t : Sem α} {a : α} (h : Rn tb pr w n₀ ann n t p s a p' s') : Rn tb pr w n₀ ann n (t.keep vs) p s a p' s' := by
  intro K H gd lv code b B N r hr
  rw [Sem.keep_eq_wrap, Sem.wrap_wrap]
  exact h K _ _ _ code b B N r hr
theorem rn_holding {n : Nat} {vs : List Value} {t : Sem α} {a : α} (h : Rn tb pr w n₀ ann n t p s a p' s') : Rn tb pr w n₀ ann n (holding vs t) p s a p' s' := by
  unfold holding
  split
  · exact h
  · exact rn_keep h
theorem rn_catch {n : Nat} {k : Value → Sem α} {t : Sem α} {a : α} (h : Rn tb pr w n₀ ann n t p s a p' s') : Rn tb pr w n₀ ann n (t.tryCatch k) p s a p' s' := by
  intro K H gd lv code b B N r hr
  rw [Sem.tryCatch_eq_wrap, Sem.wrap_wrap]
  exact h K _ _ _ code b B N r hr
theorem rn_onRaise {n : Nat} {k : Value → Sem Unit} {t : Sem α} {a : α} (h : Rn tb pr w n₀ ann n t p s a p' s') : Rn tb pr w n₀ ann n (t.onRaise k) p s a p' s' := by
  intro K H gd lv code b B N r hr
  rw [Sem.onRaise_eq_wrap, Sem.wrap_wrap]
  exact h K _ _ _ code b B N r hr
theorem rn_map {n : Nat} {f : α → β} {t : Sem α} {a : α} (h : Rn tb pr w n₀ ann n t p s a p' s') : Rn tb pr w n₀ ann n (f <$> t) p s (f a) p' s' := by
  have := rn_bind (f := fun a => pure (f a)) h rn_pure
  rw [Nat.zero_add] at this
  exact this

/-- a piece of code that comes back with v -/
def Rc (tb : String → Option Builtin) (pr : Program) (w : World) (n₀ : Nat) (ann : Option Value) (n : Nat) (c₀ : Code) (t : Sem Fin) (p : Pos) (s : Shared) (v : Value) (s' : Shared) : Prop :=
  ∀ (k : Result → Sem Fin) (h : Option Value) (g : Bool) (l : List Value) (cd : Code) (q : Pos) (kept : List Value) (B : List Frame) (N : Nat) (r : Shared),
    topRun tb pr w n₀ ann N s' ⟨k (.ok (.ret v)), cd, q, B⟩ = some r → topRun tb pr w n₀ ann (N + n) s ⟨t, c₀, p, .ret k h g l cd q kept :: B⟩ = some r

theorem rc_ret {n : Nat} {c₀ : Code} {t : Sem Fin} {v : Value} (h : Rn tb pr w n₀ ann n t p s (.done (.ret v)) p' s') : Rc tb pr w n₀ ann (1 + n) c₀ t p s v s' := by
  intro k hd g l cd q kept B N r hr
  have := h Sem.pure Sem.raise id id c₀ (.ret k hd g l cd q kept) B (N + 1) r (by
    unfold topRun
    have e1 : through ⟨Sem.pure (.done (.ret v)), c₀, p', .ret k hd g l cd q kept :: B⟩ = false := rfl
    have e2 : stepOk n₀ ann ⟨Sem.pure (.done (.ret v)), c₀, p', .ret k hd g l cd q kept :: B⟩ = true := rfl
    have e3 : step (denote tb) pr w s' ⟨Sem.pure (.done (.ret v)), c₀, p', .ret k hd g l cd q kept :: B⟩ = .go s' ⟨k (.ok (.ret v)), cd, q, B⟩ := by
      obtain ⟨h, g, d, t, os⟩ := s'; rfl
    rw [e1, e2, e3]
    exact hr)
  rw [wrap_id] at this
  rwa [show N + 1 + n = N + (1 + n) by omega] at this

theorem rc_again {n m : Nat} {c₀ c : Code} {t : Sem Fin} {v : Value} (hq : c.quiet = true) (h : Rn tb pr w n₀ ann n t p s (.again c) p₁ s₁) (h' : Rc tb pr w n₀ ann m c (denote tb c) p₁ s₁ v s') :
    Rc tb pr w n₀ ann (m + 1 + n) c₀ t p s v s' := by
  intro k hd g l cd q kept B N r hr
  have := h Sem.pure Sem.raise id id c₀ (.ret k hd g l cd q kept) B (N + m + 1) r (by
    unfold topRun
    have e1 : through ⟨Sem.pure (.again c), c₀, p₁, .ret k hd g l cd q kept :: B⟩ = false := rfl
    have e2 : stepOk n₀ ann ⟨Sem.pure (.again c), c₀, p₁, .ret k hd g l cd q kept :: B⟩ = true := by
      have : Thread.loud ⟨.pure (.again c), c, default, []⟩ = false := by simpa [Code.quiet] using hq
      unfold Thread.loud at this
      have e4 : (Thread.atCollectorCode ⟨Sem.pure (.again c), c₀, p₁, .ret k hd g l cd q kept :: B⟩ && !Thread.atExit ⟨Sem.pure (.again c), c₀, p₁, .ret k hd g l cd q kept :: B⟩) = false := (Bool.or_eq_false_iff.mp this).1
      have e5 : (!Thread.atCollectorCode ⟨Sem.pure (.again c), c₀, p₁, .ret k hd g l cd q kept :: B⟩ || Thread.atExit ⟨Sem.pure (.again c), c₀, p₁, .ret k hd g l cd q kept :: B⟩) = true := by
        revert e4
        cases Thread.atCollectorCode ⟨Sem.pure (.again c), c₀, p₁, .ret k hd g l cd q kept :: B⟩ <;> cases Thread.atExit ⟨Sem.pure (.again c), c₀, p₁, .ret k hd g l cd q kept :: B⟩ <;> simp
      simp only [stepOk, Thread.calm, e5]
      rfl
    have e3 : step (denote tb) pr w s₁ ⟨Sem.pure (.again c), c₀, p₁, .ret k hd g l cd q kept :: B⟩ = .go s₁ ⟨denote tb c, c, p₁, .ret k hd g l cd q (keptBy c₀ c l kept) :: B⟩ := by
      obtain ⟨h, g, d, t, os⟩ := s₁; exact step_again
    rw [e1, e2, e3]
    exact h' k hd g l cd q _ B N r hr)
  rw [wrap_id] at this
  rwa [show N + m + 1 + n = N + (m + 1 + n) by omega] at this

theorem rn_call {n : Nat} {f : Value} {pos : List Value} {kw : List (Str × Value)} {v : Value} (h : Rc tb pr w n₀ ann n (.call f ⟨pos, kw⟩) (denote tb (.call f ⟨pos, kw⟩)) p s v s') :
    Rn tb pr w n₀ ann (n + 1) (call f pos kw) p s v p s' := by
  intro K H gd lv code b B N r hr
  obtain ⟨hp, g, d, t, os⟩ := s
  show topRun tb pr w n₀ ann (N + n + 1) _ _ = some r
  unfold topRun
  exact h _ _ _ _ _ _ _ _ N r hr
end
theorem hash_special (k : Int) (t : Tok) : specialOf (.int k t) "__hash__" = pure (some (.builtin "int.__hash__")) := by kernel_rfl
theorem hash_check (k : Int) (t : Tok) : checkBuiltinCall "int.__hash__" ⟨[.int k t], []⟩ = pure () := by kernel_rfl
theorem hash_entry : entryFor treeTable "int.__hash__" = some Builtin.«int.__hash__» := table_eq_tree ▸ entry_int_hash
section
variable {pr : Program} {w : World} {n₀ : Nat} {ann : Option Value} {α β : Type} {p p' p₁ : Pos} {s s' s₁ : Shared}
theorem rn_hashcall {k : Int} {t : Tok} : Rn treeTable pr w n₀ ann 5 (call (.builtin "int.__hash__") [.int k t]) p s (.int (rawHash k) s.toks) p { s with toks := s.toks + 1 } := by
  refine rn_mono (rn_call (n := 3) ?_) (by omega)
  show Rc _ _ _ _ _ _ _ (checkBuiltinCall "int.__hash__" ⟨[.int k t], []⟩ >>= fun _ => again (.builtin "int.__hash__" ⟨[.int k t], []⟩)) _ _ _ _
  rw [hash_check]
  have hb : Rc treeTable pr w n₀ ann 2 (.builtin "int.__hash__" ⟨[.int k t], []⟩) (denote treeTable (.builtin "int.__hash__" ⟨[.int k t], []⟩)) p s (.int (rawHash k) s.toks) { s with toks := s.toks + 1 } := by
    show Rc _ _ _ _ _ _ _ (match entryFor treeTable "int.__hash__" with | some b => b ⟨[.int k t], []⟩ | none => unsupported ((withoutEnding? "int.__hash__" "#data").getD "int.__hash__")) _ _ _ _
    rw [hash_entry]
    show Rc _ _ _ _ _ _ _ (do ret (← mkInt (rawHash k))) _ _ _ _
    refine rc_ret (n := 1) (p' := p) ?_
    refine rn_bind (n := 1) (k := 0) (a := .int (rawHash k) s.toks) ?_ rn_pure
    exact rn_bind (n := 1) (k := 0) rn_fresh rn_pure
  exact rc_again (n := 0) (m := 2) (plainId_quiet (by decide +kernel) _) rn_pure hb
theorem rn_pyHash {k : Int} {t : Tok} : Rn treeTable pr w n₀ ann 10 (pyHash (.int k t)) p s (hashInt k) p { s with toks := s.toks + 1 } := by
  have hr := rawHash_range k
  unfold pyHash
  have hv : [Value.int k t].any Value.onHeap = false := rfl
  show Rn _ _ _ _ _ _ (pyHashByItsType (.int k t)) _ _ _ _ _
  unfold pyHashByItsType
  rw [cRoomFor, if_neg (by rw [hv]; exact Bool.false_ne_true)]
  refine rn_bind (n := 0) (k := 10) rn_pure ?_
  rw [hash_special]
  refine rn_bind (n := 0) (k := 10) rn_pure ?_
  show Rn _ _ _ _ _ _ (if (some (Value.builtin "int.__hash__") == some Value.none) = true then _ else _) _ _ _ _ _
  rw [if_neg (by rw [beq_builtin_none]; exact Bool.false_ne_true)]
  refine rn_bind (n := 0) (k := 10) rn_pure ?_
  show Rn _ _ _ _ _ _ (callSpecialIfBoundUnlessNone? (.int k t) "__hash__" _ >>= _) _ _ _ _ _
  refine rn_mono (rn_bind (n := 6) (k := 0) (a := some (.int (rawHash k) s.toks)) (p₁ := p) (s₁ := { s with toks := s.toks + 1 }) ?_ ?_) (by omega)
  · simp only [callSpecialIfBoundUnlessNone?, bindSpecialIfBound?]
    refine rn_holding ?_
    have fin : Rn treeTable pr w n₀ ann 5 (call (.builtin "int.__hash__") [.int k t] >>= fun v => pure (some v)) p s (some (.int (rawHash k) s.toks)) p { s with toks := s.toks + 1 } :=
      rn_bind (n := 5) (k := 0) rn_hashcall rn_pure
    refine rn_bind (n := 1) (k := 5) (a := some (.builtin "int.__hash__", [.int k t])) (p₁ := p) (s₁ := s) ?_ ?_
    · rw [hash_special]
      refine rn_bind (n := 0) (k := 1) rn_pure ?_
      simp only [slot_int_hash.bind]
      refine rn_bind (n := 1) (k := 0) rn_ask ?_
      split
      · exact rn_bind (n := 0) (k := 0) rn_pure rn_pure
      · exact rn_catch (rn_bind (n := 0) (k := 0) rn_pure rn_pure)
    · simp only [builtin_beq_none, Bool.false_eq_true, if_false]
      exact fin
  · show Rn _ _ _ _ _ _ (if (decide (-(2 : Int) ^ 63 ≤ rawHash k) && decide (rawHash k < 2 ^ 63)) = true then _ else _) _ _ _ _ _
    rw [if_pos (by rw [decide_eq_true hr.1, decide_eq_true hr.2]; rfl)]
    exact rn_pure
end
end Mine

end
section
set_option maxRecDepth 100000
set_option linter.unusedVariables false
namespace Mine
open PySem PySem.W PySem.Calls PyProof.Rows

abbrev D (es : List DictEntry) : Obj := { cls := .type "dict", data := .dict es.toArray es.length }
def HH (h : Heap) (os : List Obj) : Heap := ⟨h.objs ++ os.toArray, h.life⟩
theorem HH_push (h : Heap) (os : List Obj) (o : Obj) : (HH h os).push o = HH h (os ++ [o]) := by
  unfold HH Heap.push
  simp
theorem HH_size (h : Heap) (os : List Obj) : (HH h os).objs.size = h.objs.size + os.length := by simp [HH]
theorem HH_get {h : Heap} {os : List Obj} {i : Nat} {o : Obj} (ho : os[i]? = some o) (hf : o.isFreed = false) : (HH h os).get? (h.objs.size + i) = some o := by
  refine Heap.get?_some_iff.mpr ⟨?_, hf⟩
  show (h.objs ++ os.toArray)[h.objs.size + i]? = some o
  rw [Array.getElem?_append]
  have : ¬ h.objs.size + i < h.objs.size := by omega
  rw [if_neg this, Nat.add_sub_cancel_left, List.getElem?_toArray]
  exact ho
theorem HH_update {h : Heap} {os : List Obj} {i : Nat} {f : Obj → Obj} {o : Obj} (ho : os[i]? = some o) : (HH h os).update (h.objs.size + i) f = HH h (os.set i (f o)) := by
  unfold HH Heap.update
  simp only [Heap.mk.injEq, and_true]
  apply Array.ext_getElem?
  intro j
  rw [Array.getElem?_modify, Array.getElem?_append, Array.getElem?_append]
  by_cases hj : j < h.objs.size
  · have : h.objs.size + i ≠ j := by omega
    simp [hj, this]
  · simp only [hj, if_false]
    by_cases e : h.objs.size + i = j
    · subst e
      have hi : i < os.length := by
        rcases Nat.lt_or_ge i os.length with q | q
        · exact q
        · rw [List.getElem?_eq_none q] at ho; cases ho
      have ho' : os[i] = o := by rw [List.getElem?_eq_getElem hi] at ho; exact Option.some.inj ho
      simp [hi, ho']
    · have : i ≠ j - h.objs.size := by omega
      simp [e, List.getElem?_set, this]

theorem D_push (es : List DictEntry) (e : DictEntry) : Obj.mapDictKeys (·.push e) (D es) = D (es ++ [e]) := by
  unfold D Obj.mapDictKeys
  simp

section
variable {pr : Program} {w : World} {n₀ : Nat} {ann : Option Value} {α β : Type} {p p' p₁ q : Pos} {s s' s₁ : Shared}

theorem places_nil {es : List DictEntry} {h : Int} (hne : ∀ e ∈ es, e.hash ≠ h) : placesWithHash es.toArray.size (fun i => es.toArray[i]?.map (·.hash)) h = [] := by
  unfold placesWithHash
  rw [List.filter_eq_nil_iff]
  intro i hi
  simp only [beq_iff_eq]
  intro q
  cases e : es.toArray[i]? with
  | none => rw [e] at q; cases q
  | some x =>
    rw [e] at q
    have : x ∈ es := by
      rw [List.getElem?_toArray] at e
      exact List.mem_of_getElem? e
    exact hne x this (by simpa using q)

theorem rn_entries {a : Addr} {part : Option Value} {es : List DictEntry} (ho : s.heap.get? a = some (D es)) : Rn treeTable pr w n₀ ann 1 (dictEntries a part) p s es.toArray p s := by
  unfold dictEntries
  exact rn_bind (n := 1) (k := 0) (rn_loadPart ho) rn_pure
theorem rn_epoch {a : Addr} {part : Option Value} {es : List DictEntry} (ho : s.heap.get? a = some (D es)) : Rn treeTable pr w n₀ ann 1 (dictEpoch a part) p s es.length p s := by
  unfold dictEpoch
  exact rn_bind (n := 1) (k := 0) (rn_loadPart ho) rn_pure

theorem rn_find {d : Addr} {es : List DictEntry} {k : Int} {t : Tok} {h : Int} (ho : s.heap.get? d = some (D es)) (hne : ∀ e ∈ es, e.hash ≠ h) :
    Rn treeTable pr w n₀ ann 1 (dictFind d (.int k t) h) p s none p s := by
  unfold dictFind
  refine rn_holding (rn_bind (n := 1) (k := 0) (rn_entries ho) ?_)
  simp only [places_nil hne, List.filterMap_nil, dictWalkPlain, List.forIn_nil]
  exact rn_bind (n := 0) (k := 0) (rn_bind (n := 0) (k := 0) rn_pure rn_pure) rn_pure
theorem rn_keys {d : Addr} {part : Option Value} {es : List DictEntry} {e : DictEntry} (hd : n₀ ≤ d) (ho : s.heap.get? d = some (D es)) (hsz : es.length < sizeLine) :
    Rn treeTable pr w n₀ ann 3 (updateDictKeys d (·.push e) part) p s () p { s with heap := s.heap.update d (Obj.mapDictKeys (·.push e)) } := by
  unfold updateDictKeys
  refine rn_bind (n := 1) (k := 2) (rn_loadPart ho) ?_
  refine rn_bind (n := 1) (k := 1) (rn_updatePart ho hd) ?_
  unfold lookBehind
  have g : ({ s with heap := s.heap.update d (Obj.mapDictKeys (·.push e)) } : Shared).heap.get? d = some (D (es ++ [e])) := by
    rw [← D_push]
    exact Heap.get?_update_self _ ho rfl
  refine rn_bind (n := 1) (k := 0) (rn_loadPart g) ?_
  have : (D (es ++ [e])).data.pastItsLine = none := by
    have : ¬ (es.length + 1 > sizeLine + 1) := by omega
    simp [Data.pastItsLine, this]
  rw [this]
  exact rn_pure
theorem rn_put {d : Addr} {es : List DictEntry} {k : Int} {t : Tok} {h : Int} {v : Value} (hd : n₀ ≤ d) (ho : s.heap.get? d = some (D es)) (hne : ∀ e ∈ es, e.hash ≠ h) (hsz : es.length < sizeLine) :
    Rn treeTable pr w n₀ ann 4 (dictPut d h (.int k t) v) p s () p { s with heap := s.heap.update d (Obj.mapDictKeys (·.push ⟨h, .int k t, v⟩)) } := by
  unfold dictPut
  exact rn_bind (n := 1) (k := 3) (rn_find ho hne) (rn_keys hd ho hsz)
theorem rn_set {d : Addr} {es : List DictEntry} {k : Int} {t : Tok} {v : Value} (hd : n₀ ≤ d) (ho : s.heap.get? d = some (D es)) (hne : ∀ e ∈ es, e.hash ≠ hashInt k) (hsz : es.length < sizeLine) :
    Rn treeTable pr w n₀ ann 15 (dictSet d (.int k t) v) p s () p { s with heap := s.heap.update d (Obj.mapDictKeys (·.push ⟨hashInt k, .int k t, v⟩)), toks := s.toks + 1 } := by
  unfold dictSet
  refine rn_holding (rn_bind (n := 10) (k := 5) rn_pyHash ?_)
  unfold dictSetHashed
  refine rn_holding (rn_bind (n := 1) (k := 4) (rn_find (s := { s with toks := s.toks + 1 }) ho hne) ?_)
  exact rn_bind (n := 1) (k := 3) rn_rule (rn_keys (s := { s with toks := s.toks + 1 }) hd ho hsz)

/-- one entry's text: a key and a value -/
abbrev Pair := Nat × Str
def semPair (pos : Pos) (x : Pair) : Sem Value × Sem Value := (mkInt x.1, do let y ← mkText x.2; standAt pos; pure y)
def ents : Nat → List Pair → List DictEntry
  | _, [] => []
  | T, x :: r => ⟨hashInt x.1, .int x.1 T, .str x.2 (T + 1)⟩ :: ents (T + 3) r
def vals : Nat → List Pair → List (Value × Value)
  | _, [] => []
  | T, x :: r => (.int x.1 T, .str x.2 (T + 1)) :: vals (T + 2) r
def entsS : Nat → List Pair → List DictEntry
  | _, [] => []
  | T, x :: r => ⟨hashInt x.1, .int x.1 T, .str x.2 (T + 1)⟩ :: entsS (T + 2) r

theorem rn_semKey {x : Pair} : Rn treeTable pr w n₀ ann 1 (semPair q x).1 p s (.int x.1 s.toks) p { s with toks := s.toks + 1 } :=
  rn_bind (n := 1) (k := 0) rn_fresh rn_pure
theorem rn_semVal {x : Pair} {q : Pos} : Rn treeTable pr w n₀ ann 2 (semPair q x).2 p s (.str x.2 s.toks) q { s with toks := s.toks + 1 } :=
  rn_bind (n := 1) (k := 1) (rn_bind (n := 1) (k := 0) rn_fresh rn_pure) (rn_bind (n := 1) (k := 0) rn_at rn_pure)

def sorted : Int → List Pair → Prop
  | _, [] => True
  | b, x :: r => b < hashInt x.1 ∧ sorted (hashInt x.1) r

theorem below_snoc {es : List DictEntry} {b : Int} {e : DictEntry} (hb : ∀ e ∈ es, e.hash ≤ b) (h : b < e.hash) : ∀ e' ∈ es ++ [e], e'.hash ≤ e.hash := by
  intro e' he
  rcases List.mem_append.mp he with h' | h'
  · exact Int.le_trans (hb _ h') (Int.le_of_lt h)
  · rw [List.mem_singleton] at h'; subst h'; exact Int.le_refl _
theorem ne_of_below {es : List DictEntry} {b k : Int} (hb : ∀ e ∈ es, e.hash ≤ b) (h : b < k) : ∀ e ∈ es, e.hash ≠ k := fun e he q => by
  have := hb e he; omega

/-- the loop of a long display's piece: the last object takes the entries -/
theorem rn_fill {q : Pos} {h : Heap} {os : List Obj} (hd : n₀ ≤ h.objs.size) : ∀ (l : List Pair) (es : List DictEntry) (b : Int) (p : Pos) (s : Shared), s.heap = HH h (os ++ [D es]) → (∀ e ∈ es, e.hash ≤ b) → sorted b l → es.length + l.length < sizeLine →
    ∃ p', (p' = p ∨ p' = q) ∧ (l ≠ [] → p' = q) ∧ Rn treeTable pr w n₀ ann (18 * l.length) (forIn (l.map (semPair q)) PUnit.unit fun (x : Sem Value × Sem Value) (_ : PUnit) => (do
        let kv ← x.1
        let vv ← holding [kv] x.2
        holding [kv, vv] (dictSet (h.objs.size + os.length) kv vv)
        pure (ForInStep.yield PUnit.unit) : Sem (ForInStep PUnit))) p s PUnit.unit p' { s with heap := HH h (os ++ [D (es ++ ents s.toks l)]), toks := s.toks + 3 * l.length }
  | [], es, b, p, s, hh, _, _, _ => by
    refine ⟨p, .inl rfl, fun h => absurd rfl h, ?_⟩
    simp only [List.map_nil, List.forIn_nil, ents, List.append_nil, List.length_nil, Nat.mul_zero, Nat.add_zero]
    rw [← hh]
    exact rn_pure
  | x :: l, es, b, p, s, hh, hb, hs, hsz => by
    have hg : s.heap.get? (h.objs.size + os.length) = some (D es) := by rw [hh]; exact HH_get (by simp) rfl
    have hu : s.heap.update (h.objs.size + os.length) (Obj.mapDictKeys (·.push ⟨hashInt x.1, .int x.1 s.toks, .str x.2 (s.toks + 1)⟩)) = HH h (os ++ [D (es ++ [⟨hashInt x.1, .int x.1 s.toks, .str x.2 (s.toks + 1)⟩])]) := by
      rw [hh, HH_update (o := D es) (by simp), D_push]; simp
    rw [List.length_cons] at hsz
    obtain ⟨p', hp, hp2, ih⟩ := rn_fill hd l (es ++ [⟨hashInt x.1, .int x.1 s.toks, .str x.2 (s.toks + 1)⟩]) (hashInt x.1) q { s with heap := HH h (os ++ [D (es ++ [⟨hashInt x.1, .int x.1 s.toks, .str x.2 (s.toks + 1)⟩])]), toks := s.toks + 3 } rfl
      (below_snoc hb hs.1) hs.2 (by simp only [List.length_append, List.length_cons, List.length_nil]; omega)
    have hp' : p' = q := by rcases hp with e | e <;> exact e
    subst hp'
    refine ⟨p', .inr rfl, fun _ => rfl, ?_⟩
    rw [List.map_cons, List.forIn_cons]
    rw [show 18 * (x :: l).length = 18 * l.length + 18 by rw [List.length_cons]; omega]
    refine rn_bind (n := 18) (k := 18 * l.length) (a := .yield PUnit.unit) (p₁ := p') (s₁ := { s with heap := HH h (os ++ [D (es ++ [⟨hashInt x.1, .int x.1 s.toks, .str x.2 (s.toks + 1)⟩])]), toks := s.toks + 3 }) ?_ ?_
    · refine rn_bind (n := 1) (k := 17) rn_semKey (rn_bind (n := 2) (k := 15) (rn_holding rn_semVal) (rn_bind (n := 15) (k := 0) (a := ()) (rn_holding ?_) rn_pure))
      have := rn_set (pr := pr) (w := w) (n₀ := n₀) (ann := ann) (p := p') (s := { s with toks := s.toks + 1 + 1 }) (d := h.objs.size + os.length) (es := es) (k := x.1) (t := s.toks) (v := .str x.2 (s.toks + 1)) (by omega) hg (ne_of_below hb hs.1) (by omega)
      rw [show ({ s with toks := s.toks + 1 + 1 } : Shared).heap = s.heap from rfl, hu] at this
      exact this
    · have e : es ++ ents s.toks (x :: l) = es ++ [⟨hashInt x.1, .int x.1 s.toks, .str x.2 (s.toks + 1)⟩] ++ ents (s.toks + 3) l := by simp [ents]
      rw [e, List.length_cons, show s.toks + 3 * (l.length + 1) = s.toks + 3 + 3 * l.length by omega]
      exact ih

theorem rn_evalPairs {q : Pos} : ∀ (l : List Pair) (p : Pos) (s : Shared), ∃ p', (l ≠ [] → p' = q) ∧ (l = [] → p' = p) ∧ Rn treeTable pr w n₀ ann (3 * l.length) (evalPairs (l.map (semPair q))) p s (vals s.toks l) p' { s with toks := s.toks + 2 * l.length }
  | [], p, s => ⟨p, fun h => absurd rfl h, fun _ => rfl, rn_pure⟩
  | x :: l, p, s => by
    obtain ⟨p', h1, h2, ih⟩ := rn_evalPairs (q := q) l q { s with toks := s.toks + 2 }
    have hp : p' = q := by
      cases l with
      | nil => exact h2 rfl
      | cons => exact h1 (by simp)
    subst hp
    refine ⟨p', fun _ => rfl, fun h => (nomatch h), ?_⟩
    rw [List.map_cons, evalPairs, List.length_cons, show 3 * (l.length + 1) = (0 + 3 * l.length) + 2 + 1 by omega, show s.toks + 2 * (l.length + 1) = s.toks + 2 + 2 * l.length by omega]
    refine rn_bind (n := 1) (k := (0 + 3 * l.length) + 2) rn_semKey (rn_bind (n := 2) (k := 0 + 3 * l.length) (rn_holding rn_semVal) (rn_bind (n := 3 * l.length) (k := 0) (rn_holding ih) rn_pure))

/-- the loop of a short display -/
theorem rn_fillS {h : Heap} {os : List Obj} (hd : n₀ ≤ h.objs.size) : ∀ (l : List Pair) (T : Nat) (es : List DictEntry) (b : Int) (p : Pos) (s : Shared), s.heap = HH h (os ++ [D es]) → (∀ e ∈ es, e.hash ≤ b) → sorted b l → es.length + l.length < sizeLine →
    Rn treeTable pr w n₀ ann (15 * l.length) (forIn (vals T l) PUnit.unit fun (x : Value × Value) (_ : PUnit) => (do
        dictSet (h.objs.size + os.length) x.1 x.2
        pure (ForInStep.yield PUnit.unit) : Sem (ForInStep PUnit))) p s PUnit.unit p { s with heap := HH h (os ++ [D (es ++ entsS T l)]), toks := s.toks + l.length }
  | [], T, es, b, p, s, hh, _, _, _ => by
    simp only [vals, List.forIn_nil, entsS, List.append_nil, List.length_nil, Nat.mul_zero, Nat.add_zero]
    rw [← hh]
    exact rn_pure
  | x :: l, T, es, b, p, s, hh, hb, hs, hsz => by
    have hg : s.heap.get? (h.objs.size + os.length) = some (D es) := by rw [hh]; exact HH_get (by simp) rfl
    have hu : s.heap.update (h.objs.size + os.length) (Obj.mapDictKeys (·.push ⟨hashInt x.1, .int x.1 T, .str x.2 (T + 1)⟩)) = HH h (os ++ [D (es ++ [⟨hashInt x.1, .int x.1 T, .str x.2 (T + 1)⟩])]) := by
      rw [hh, HH_update (o := D es) (by simp), D_push]; simp
    rw [List.length_cons] at hsz
    have ih := rn_fillS hd l (T + 2) (es ++ [⟨hashInt x.1, .int x.1 T, .str x.2 (T + 1)⟩]) (hashInt x.1) p { s with heap := HH h (os ++ [D (es ++ [⟨hashInt x.1, .int x.1 T, .str x.2 (T + 1)⟩])]), toks := s.toks + 1 } rfl
      (below_snoc hb hs.1) hs.2 (by simp only [List.length_append, List.length_cons, List.length_nil]; omega)
    rw [vals, List.forIn_cons]
    rw [show 15 * (x :: l).length = 15 * l.length + 15 by rw [List.length_cons]; omega]
    refine rn_bind (n := 15) (k := 15 * l.length) (a := .yield PUnit.unit) (p₁ := p) (s₁ := { s with heap := HH h (os ++ [D (es ++ [⟨hashInt x.1, .int x.1 T, .str x.2 (T + 1)⟩])]), toks := s.toks + 1 }) ?_ ?_
    · refine rn_bind (n := 15) (k := 0) (a := ()) ?_ rn_pure
      have := rn_set (pr := pr) (w := w) (n₀ := n₀) (ann := ann) (p := p) (s := s) (d := h.objs.size + os.length) (es := es) (k := x.1) (t := T) (v := .str x.2 (T + 1)) (by omega) hg (ne_of_below hb hs.1) (by omega)
      rw [hu] at this
      exact this
    · have e : es ++ entsS T (x :: l) = es ++ [⟨hashInt x.1, .int x.1 T, .str x.2 (T + 1)⟩] ++ entsS (T + 2) l := by simp [entsS]
      rw [e, List.length_cons, show s.toks + (l.length + 1) = s.toks + 1 + l.length by omega]
      exact ih

theorem rn_subLong {q : Pos} {h : Heap} {os : List Obj} (hd : n₀ ≤ h.objs.size) (l : List Pair) (hl : 15 < l.length) (hz : l.length < sizeLine) (b : Int) (hs : sorted b l) (hh : s.heap = HH h os) :
    Rn treeTable pr w n₀ ann (18 * l.length + 2) (subDict (l.map (semPair q))) p s (h.objs.size + os.length) q { s with heap := HH h (os ++ [D (ents s.toks l)]), toks := s.toks + 3 * l.length } := by
  unfold subDict
  have hl' : ¬ (l.map (semPair q)).length ≤ 15 := by rw [List.length_map]; omega
  have hsz : s.heap.objs.size = h.objs.size + os.length := by rw [hh, HH_size]
  rw [← hsz]
  refine rn_bind (n := 1) (k := 18 * l.length + 1) rn_alloc ?_
  rw [if_neg hl']
  obtain ⟨p', _, hp, R⟩ := rn_fill (pr := pr) (w := w) (ann := ann) (q := q) hd l [] b p { s with heap := s.heap.push (D []) } (by rw [hh]; exact HH_push ..) (fun e he => by cases he) hs (by simpa using hz)
  obtain rfl : p' = q := hp (by intro e; subst e; simp at hl)
  rw [List.nil_append, ← hsz] at R
  refine rn_then (18 * l.length + 1) 0 (a := PUnit.unit) (rn_holding ?_) rn_pure
  exact rn_bind (n := 1) (k := 18 * l.length) rn_rule (rn_then (18 * l.length) 0 R rn_pure)
theorem rn_subShort {q : Pos} {h : Heap} {os : List Obj} (hd : n₀ ≤ h.objs.size) (l : List Pair) (h0 : l ≠ []) (hl : l.length ≤ 15) (b : Int) (hs : sorted b l) (hh : s.heap = HH h os) :
    Rn treeTable pr w n₀ ann (18 * l.length + 1) (subDict (l.map (semPair q))) p s (h.objs.size + os.length) q { s with heap := HH h (os ++ [D (entsS s.toks l)]), toks := s.toks + 3 * l.length } := by
  unfold subDict
  have hl' : (l.map (semPair q)).length ≤ 15 := by rw [List.length_map]; omega
  have hsz : s.heap.objs.size = h.objs.size + os.length := by rw [hh, HH_size]
  rw [← hsz]
  refine rn_bind (n := 1) (k := 18 * l.length) rn_alloc ?_
  rw [if_pos hl']
  obtain ⟨p', hp, _, R⟩ := rn_evalPairs (pr := pr) (w := w) (n₀ := n₀) (ann := ann) (q := q) l p { s with heap := s.heap.push (D []) }
  obtain rfl : p' = q := hp h0
  have R2 := rn_fillS (pr := pr) (w := w) (ann := ann) (n₀ := n₀) hd l s.toks [] b p' { s with heap := s.heap.push (D []), toks := s.toks + 2 * l.length } (by rw [hh]; exact HH_push ..) (fun e he => by cases he) hs (by
    rw [sizeLine_eq, List.length_nil]; omega)
  rw [List.nil_append, ← hsz] at R2
  have e : s.toks + 2 * l.length + l.length = s.toks + 3 * l.length := by omega
  dsimp only at R2
  rw [e] at R2
  refine rn_then (18 * l.length) 0 (a := PUnit.unit) (rn_holding ?_) rn_pure
  exact rn_then (3 * l.length) (15 * l.length) R (rn_holding (rn_then (15 * l.length) 0 R2 rn_pure))

theorem rn_range {f : Nat → PUnit → Sem (ForInStep PUnit)} {S : Nat → Shared} {c : Nat} : ∀ (cnt m : Nat), (∀ i, m ≤ i → i < m + cnt → Rn treeTable pr w n₀ ann c (f i PUnit.unit) p (S i) (.yield PUnit.unit) p (S (i + 1))) →
    Rn treeTable pr w n₀ ann (c * cnt) (forIn (List.range' m cnt) PUnit.unit f) p (S m) PUnit.unit p (S (m + cnt))
  | 0, m, _ => by
    rw [List.range'_zero, List.forIn_nil]
    exact rn_pure
  | cnt + 1, m, h => by
    rw [List.range'_succ, List.forIn_cons]
    refine rn_then c (c * cnt) (h m (Nat.le_refl _) (by omega)) ?_ (by rw [Nat.mul_add, Nat.mul_one]; exact Nat.le_refl _)
    have := rn_range cnt (m + 1) (fun i h1 h2 => h i (by omega) (by omega))
    rw [show m + 1 + cnt = m + (cnt + 1) by omega] at this
    exact this

theorem dict_isDict : isSubtype (.type "dict") (.type "dict") = pure true := by kernel_rfl
theorem dict_iter : typeLookup (.type "dict") "__iter__" = pure (some (.builtin "dict.__iter__")) := by kernel_rfl

theorem rn_merge {h : Heap} {os : List Obj} {x y : Nat} {es es' : List DictEntry} (hd : n₀ ≤ h.objs.size) (hx : os[x]? = some (D es)) (hy : os[y]? = some (D es')) (hxy : x ≠ y) (h0 : es ≠ []) (hsys : h.objs.size + y ≠ sysModules)
    (hk : ∀ e ∈ es', ∃ k t, e.key = .int k t) (hn : ∀ (i : Nat) (e : DictEntry), es'[i]? = some e → ∀ e' ∈ es ++ es'.take i, e'.hash ≠ e.hash) (hz : es.length + es'.length < sizeLine) (hh : s.heap = HH h os) :
    Rn treeTable pr w n₀ ann (6 * es'.length + 5) (mergeMapping (h.objs.size + x) (.ref (h.objs.size + y)) false) p s () p { s with heap := HH h (os.set x (D (es ++ es'))) } := by
  have gx : s.heap.get? (h.objs.size + x) = some (D es) := by rw [hh]; exact HH_get hx rfl
  have gy : s.heap.get? (h.objs.size + y) = some (D es') := by rw [hh]; exact HH_get hy rfl
  have hxl : x < os.length := by
    rcases Nat.lt_or_ge x os.length with q | q
    · exact q
    · rw [List.getElem?_eq_none q] at hx; cases hx
  unfold mergeMapping
  dsimp only
  refine rn_then 1 (6 * es'.length + 4) (a := true) (s₁ := s) (p₁ := p) ?_ ?_
  · unfold isInstance typeOf
    refine rn_bind (n := 1) (k := 0) (a := .type "dict") (rn_bind (n := 1) (k := 0) (rn_loadPart gy) rn_pure) ?_
    rw [dict_isDict]
    exact rn_pure
  · rw [if_pos rfl]
    refine rn_then 1 (6 * es'.length + 3) (a := some (.builtin "dict.__iter__")) (s₁ := s) (p₁ := p) ?_ ?_
    · unfold specialOf typeOf
      refine rn_bind (n := 1) (k := 0) (a := .type "dict") (rn_bind (n := 1) (k := 0) (rn_loadPart gy) rn_pure) ?_
      rw [dict_iter]
      exact rn_pure
    · refine rn_then 0 (6 * es'.length + 3) rn_pure ?_
      rw [show ((some (Value.builtin "dict.__iter__") : Option Value) == some (.builtin "dict.__iter__")) = true from by decide +kernel]
      dsimp only
      rw [if_neg (by simpa using hsys)]
      refine rn_then 1 (6 * es'.length + 2) (rn_entries gx) ?_
      have : es.toArray.isEmpty = false := by cases es <;> simp_all
      rw [this, if_neg (by simp)]
      refine rn_then 1 (6 * es'.length + 1) (rn_entries gy) ?_
      refine rn_then 1 (6 * es'.length) (rn_epoch gy) ?_
      rw [List.range_eq_range', List.size_toArray]
      have e0 : ({ s with heap := HH h (os.set x (D es)) } : Shared) = s := by
        have : os.set x (D es) = os := by
          apply List.ext_getElem?
          intro j
          rw [List.getElem?_set]
          split
          · rename_i q; subst q; rw [hx]
          · rfl
        rw [this, ← hh]
      have L : ∀ f : Nat → PUnit → Sem (ForInStep PUnit), (∀ i, i < es'.length → Rn treeTable pr w n₀ ann 6 (f i PUnit.unit) p { s with heap := HH h (os.set x (D (es ++ es'.take i))) } (.yield PUnit.unit) p { s with heap := HH h (os.set x (D (es ++ es'.take (i + 1)))) }) →
          Rn treeTable pr w n₀ ann (6 * es'.length) (forIn (List.range' 0 es'.length) PUnit.unit f) p s PUnit.unit p { s with heap := HH h (os.set x (D (es ++ es'))) } := fun f hf => by
        have L := rn_range (pr := pr) (w := w) (n₀ := n₀) (ann := ann) (p := p) (f := f) (c := 6) (S := fun i => { s with heap := HH h (os.set x (D (es ++ es'.take i))) }) es'.length 0 (fun i _ hi => hf i (by omega))
        rw [Nat.zero_add, List.take_zero, List.append_nil, List.take_length, e0] at L
        exact L
      refine rn_then (6 * es'.length) 0 (L _ fun i hi' => ?_) rn_pure
      obtain ⟨k, t, hkt⟩ := hk es'[i] (List.getElem_mem hi')
      have g1 : (HH h (os.set x (D (es ++ es'.take i)))).get? (h.objs.size + y) = some (D es') := HH_get (by rw [List.getElem?_set_ne hxy]; exact hy) rfl
      have g2 : (HH h (os.set x (D (es ++ es'.take i)))).get? (h.objs.size + x) = some (D (es ++ es'.take i)) := HH_get (by rw [List.getElem?_set_self hxl]) rfl
      have hu : (HH h (os.set x (D (es ++ es'.take i)))).update (h.objs.size + x) (Obj.mapDictKeys (·.push ⟨es'[i].hash, .int k t, es'[i].val⟩)) = HH h (os.set x (D (es ++ es'.take (i + 1)))) := by
        rw [HH_update (o := D (es ++ es'.take i)) (by rw [List.getElem?_set_self hxl]), D_push, List.set_set, List.append_assoc]
        congr 4
        rw [List.take_succ_eq_append_getElem hi', ← hkt]
      have g3 : (HH h (os.set x (D (es ++ es'.take (i + 1))))).get? (h.objs.size + y) = some (D es') := HH_get (by rw [List.getElem?_set_ne hxy]; exact hy) rfl
      refine rn_bind (n := 1) (k := 5) (rn_entries (s := { s with heap := HH h (os.set x (D (es ++ es'.take i))) }) g1) ?_
      simp only [List.getElem?_toArray, List.getElem?_eq_getElem hi']
      refine rn_bind (n := 4) (k := 1) (a := ()) (p₁ := p) (s₁ := { s with heap := HH h (os.set x (D (es ++ es'.take (i + 1)))) }) ?_ ?_
      · refine rn_holding ?_
        rw [if_neg (by simp), hkt]
        have := rn_put (pr := pr) (w := w) (n₀ := n₀) (ann := ann) (p := p) (s := { s with heap := HH h (os.set x (D (es ++ es'.take i))) }) (d := h.objs.size + x) (k := k) (t := t) (h := es'[i].hash) (v := es'[i].val) (by omega) g2
          (hn i _ (List.getElem?_eq_getElem hi')) (by simp only [List.length_append, List.length_take]; omega)
        dsimp only at this
        rw [hu] at this
        exact this
      · refine rn_bind (n := 1) (k := 0) (rn_epoch g3) ?_
        rw [if_neg (by simp)]
        exact rn_pure
end
end Mine

end
section
set_option maxRecDepth 100000
set_option linter.unusedVariables false
set_option linter.unusedSimpArgs false
namespace Mine
open PySem PySem.W PySem.Calls PyProof.Rows

theorem ents_len : ∀ (l : List Pair) (T : Nat), (ents T l).length = l.length
  | [], _ => rfl
  | x :: l, T => by simp [ents, ents_len l]
theorem entsS_len : ∀ (l : List Pair) (T : Nat), (entsS T l).length = l.length
  | [], _ => rfl
  | x :: l, T => by simp [entsS, entsS_len l]
theorem ents_app : ∀ (l r : List Pair) (T : Nat), ents T (l ++ r) = ents T l ++ ents (T + 3 * l.length) r
  | [], r, T => rfl
  | x :: l, r, T => by
    simp only [List.cons_append, ents, ents_app l r, List.length_cons]
    rw [show T + 3 * (l.length + 1) = T + 3 + 3 * l.length by omega]

/-- hashes that rise, all above b -/
def Rising (b : Int) (es : List DictEntry) : Prop := (∀ e ∈ es, b < e.hash) ∧ es.Pairwise (fun x y => x.hash < y.hash)
theorem rising_cons {b : Int} {e : DictEntry} {es : List DictEntry} (h : b < e.hash) (r : Rising e.hash es) : Rising b (e :: es) :=
  ⟨fun x hx => by
    rcases List.mem_cons.mp hx with rfl | hx
    · exact h
    · exact Int.lt_trans h (r.1 x hx), List.pairwise_cons.mpr ⟨r.1, r.2⟩⟩
theorem rising_ents : ∀ (l : List Pair) (T : Nat) (b : Int), sorted b l → Rising b (ents T l)
  | [], _, _, _ => ⟨fun _ h => (nomatch h), .nil⟩
  | x :: l, T, b, h => rising_cons h.1 (rising_ents l (T + 3) _ h.2)
theorem rising_entsS : ∀ (l : List Pair) (T : Nat) (b : Int), sorted b l → Rising b (entsS T l)
  | [], _, _, _ => ⟨fun _ h => (nomatch h), .nil⟩
  | x :: l, T, b, h => rising_cons h.1 (rising_entsS l (T + 2) _ h.2)
theorem keys_ents : ∀ (l : List Pair) (T : Nat), ∀ e ∈ ents T l, ∃ k t, e.key = .int k t
  | [], _, _, h => nomatch h
  | x :: l, T, e, h => by
    rcases List.mem_cons.mp h with rfl | h
    · exact ⟨_, _, rfl⟩
    · exact keys_ents l _ e h
theorem keys_entsS : ∀ (l : List Pair) (T : Nat), ∀ e ∈ entsS T l, ∃ k t, e.key = .int k t
  | [], _, _, h => nomatch h
  | x :: l, T, e, h => by
    rcases List.mem_cons.mp h with rfl | h
    · exact ⟨_, _, rfl⟩
    · exact keys_entsS l _ e h
theorem sorted_app : ∀ (l r : List Pair) (T : Nat) (b : Int), sorted b (l ++ r) → sorted b l ∧ ∃ b', b ≤ b' ∧ (∀ e ∈ ents T l, e.hash ≤ b') ∧ sorted b' r
  | [], r, T, b, h => ⟨trivial, b, Int.le_refl _, fun _ h => (nomatch h), h⟩
  | x :: l, r, T, b, h => by
    obtain ⟨a1, b', b1, b2, b3⟩ := sorted_app l r (T + 3) (hashInt x.1) h.2
    refine ⟨⟨h.1, a1⟩, b', by have := h.1; omega, fun e he => ?_, b3⟩
    rcases List.mem_cons.mp he with rfl | he
    · exact b1
    · exact b2 e he
theorem merge_ne {es es' : List DictEntry} {b : Int} (hb : ∀ e ∈ es, e.hash ≤ b) (r : Rising b es') (i : Nat) (e : DictEntry) (he : es'[i]? = some e) : ∀ e' ∈ es ++ es'.take i, e'.hash ≠ e.hash := by
  intro e' h q
  have hi : i < es'.length := by
    rcases Nat.lt_or_ge i es'.length with z | z
    · exact z
    · rw [List.getElem?_eq_none z] at he; cases he
  have hei : es'[i] = e := by rw [List.getElem?_eq_getElem hi] at he; exact Option.some.inj he
  have hgt : b < e.hash := r.1 e (hei ▸ List.getElem_mem hi)
  rcases List.mem_append.mp h with h | h
  · have := hb e' h; omega
  · obtain ⟨j, hj, rfl⟩ := List.mem_iff_getElem.mp h
    rw [List.length_take] at hj
    have := List.pairwise_iff_getElem.mp r.2 j i (by omega) hi (by omega)
    rw [List.getElem_take] at q
    rw [hei] at this
    omega

theorem ne_sys {n y : Nat} (h : @LT.lt Nat _ sysModules n) : n + y ≠ sysModules := Nat.ne_of_gt (Nat.lt_of_lt_of_le h (Nat.le_add_right _ _))
/-- what a display does with a gathered run -/
def flushOf (run : List (Sem Value × Sem Value)) (main : Option Addr) : Sem (Option Addr) :=
  if run.isEmpty = true then pure main
  else match main with
    | none => do let d ← subDict run; pure (some d)
    | some d => do
      let sub ← holding [.ref d] (subDict run)
      (holding [.ref d, .ref sub] (mergeMapping d (.ref sub) false)).onRaise fun x => do
        let _ ← holding [.ref d, x] (runValue (.builtin "proto.let_go" {}))
        pure ()
      pure (some d)

section
variable {pr : Program} {w : World} {n₀ : Nat} {ann : Option Value} {α β : Type} {p p' p₁ q : Pos} {s s' s₁ : Shared}

theorem rn_flush0 {h : Heap} (hd : n₀ ≤ h.objs.size) (g : List Pair) (hg : g.length = 17) (b : Int) (hs : sorted b g) (hh : s.heap = HH h []) :
    Rn treeTable pr w n₀ ann 410 (flushOf (g.map (semPair q)) none) p s (some h.objs.size) q { s with heap := HH h [D (ents s.toks g)], toks := s.toks + 3 * g.length } := by
  unfold flushOf
  have : (g.map (semPair q)).isEmpty = false := by cases g <;> simp_all
  rw [this, if_neg (by simp)]
  exact rn_then (18 * g.length + 2) 0 (rn_subLong hd g (by omega) (by rw [hg, sizeLine_eq]; omega) b hs hh) rn_pure
theorem rn_flush {h : Heap} {es : List DictEntry} {subs : List Obj} (hd : n₀ ≤ h.objs.size) (hsys : @LT.lt Nat _ sysModules h.objs.size) (g : List Pair) (hg : g.length = 17) (b : Int) (h0 : es ≠ []) (hb : ∀ e ∈ es, e.hash ≤ b) (hs : sorted b g) (hz : es.length + 17 < sizeLine) (hh : s.heap = HH h (D es :: subs)) :
    Rn treeTable pr w n₀ ann 520 (flushOf (g.map (semPair q)) (some h.objs.size)) p s (some h.objs.size) q { s with heap := HH h (D (es ++ ents s.toks g) :: (subs ++ [D (ents s.toks g)])), toks := s.toks + 3 * g.length } := by
  unfold flushOf
  have : (g.map (semPair q)).isEmpty = false := by cases g <;> simp_all
  rw [this, if_neg (by simp)]
  refine rn_then (18 * g.length + 2) 110 (rn_holding (rn_subLong hd g (by omega) (by rw [hg, sizeLine_eq]; omega) b hs hh)) ?_
  have M := rn_merge (pr := pr) (w := w) (n₀ := n₀) (ann := ann) (p := q) (s := { s with heap := HH h (D es :: subs ++ [D (ents s.toks g)]), toks := s.toks + 3 * g.length }) (h := h) (os := D es :: subs ++ [D (ents s.toks g)]) (x := 0) (y := (D es :: subs).length)
    (es := es) (es' := ents s.toks g) hd rfl (by rw [List.getElem?_append_right (Nat.le_refl _)]; simp) (by simp) h0 (ne_sys hsys) (keys_ents g _) (merge_ne hb (rising_ents g _ b hs)) (by rw [ents_len, hg]; exact hz) rfl
  rw [ents_len] at M
  exact rn_then (6 * g.length + 5) 0 (rn_onRaise (rn_holding M)) rn_pure
theorem rn_flushS {h : Heap} {es : List DictEntry} {subs : List Obj} (hd : n₀ ≤ h.objs.size) (hsys : @LT.lt Nat _ sysModules h.objs.size) (g : List Pair) (hg0 : g ≠ []) (hg : g.length ≤ 15) (b : Int) (h0 : es ≠ []) (hb : ∀ e ∈ es, e.hash ≤ b) (hs : sorted b g) (hz : es.length + 17 < sizeLine) (hh : s.heap = HH h (D es :: subs)) :
    Rn treeTable pr w n₀ ann 520 (flushOf (g.map (semPair q)) (some h.objs.size)) p s (some h.objs.size) q { s with heap := HH h (D (es ++ entsS s.toks g) :: (subs ++ [D (entsS s.toks g)])), toks := s.toks + 3 * g.length } := by
  unfold flushOf
  have : (g.map (semPair q)).isEmpty = false := by cases g <;> simp_all
  rw [this, if_neg (by simp)]
  refine rn_then (18 * g.length + 1) 110 (rn_holding (rn_subShort hd g hg0 hg b hs hh)) ?_
  have M := rn_merge (pr := pr) (w := w) (n₀ := n₀) (ann := ann) (p := q) (s := { s with heap := HH h (D es :: subs ++ [D (entsS s.toks g)]), toks := s.toks + 3 * g.length }) (h := h) (os := D es :: subs ++ [D (entsS s.toks g)]) (x := 0) (y := (D es :: subs).length)
    (es := es) (es' := entsS s.toks g) hd rfl (by rw [List.getElem?_append_right (Nat.le_refl _)]; simp) (by simp) h0 (ne_sys hsys) (keys_entsS g _) (merge_ne hb (rising_entsS g _ b hs)) (by rw [entsS_len]; omega) rfl
  rw [entsS_len] at M
  exact rn_then (6 * g.length + 5) 0 (rn_onRaise (rn_holding M)) rn_pure

abbrev It := Option (Sem Value) × Sem Value
abbrev St := Option Addr × List (Sem Value × Sem Value)
def itOf (q : Pos) (x : Pair) : It := (some (semPair q x).1, (semPair q x).2)
/-- the display's loop, a turn -/
def turn (x : It) (st : St) (k : Sem Value) : Sem (ForInStep St) :=
  if ((st.2 ++ [(k, x.2)]).length == 17) = true then do
    let main ← flushOf (st.2 ++ [(k, x.2)]) st.1
    pure (.yield (main, []))
  else pure (.yield (st.1, st.2 ++ [(k, x.2)]))

theorem loop_group {f : It → St → Sem (ForInStep St)} (hf : ∀ x st k, x.1 = some k → f x st = turn x st k) (rest : List It) (main : Option Addr) : ∀ (g : List Pair) (run : List (Sem Value × Sem Value)), g ≠ [] → run.length + g.length = 17 →
    forIn (g.map (itOf q) ++ rest) (main, run) f = flushOf (run ++ g.map (semPair q)) main >>= fun m => forIn rest (m, []) f
  | [], _, h, _ => absurd rfl h
  | [x], run, _, h => by
    simp only [List.map_cons, List.map_nil, List.cons_append, List.nil_append, List.forIn_cons]
    rw [hf (itOf q x) _ (semPair q x).1 rfl]
    unfold turn
    have : ((run ++ [((semPair q x).1, (itOf q x).2)]).length == 17) = true := by simpa using h
    rw [if_pos this, bind_assoc]
    simp only [pure_bind]
    rfl
  | x :: y :: g, run, _, h => by
    rw [List.map_cons, List.cons_append, List.forIn_cons, hf (itOf q x) _ (semPair q x).1 rfl]
    unfold turn
    have : ((run ++ [((semPair q x).1, (itOf q x).2)]).length == 17) = false := by
      simp only [List.length_cons] at h
      simp; omega
    rw [this, if_neg (by simp), pure_bind]
    have := loop_group hf rest main (y :: g) (run ++ [((semPair q x).1, (itOf q x).2)]) (by simp) (by simp only [List.length_append, List.length_cons, List.length_nil] at h ⊢; omega)
    dsimp only
    rw [this, List.append_assoc]
    rfl
theorem loop_short {f : It → St → Sem (ForInStep St)} (hf : ∀ x st k, x.1 = some k → f x st = turn x st k) (main : Option Addr) : ∀ (g : List Pair) (run : List (Sem Value × Sem Value)), run.length + g.length < 17 →
    forIn (g.map (itOf q)) (main, run) f = pure (main, run ++ g.map (semPair q))
  | [], run, h => by simp
  | x :: g, run, h => by
    rw [List.map_cons, List.forIn_cons, hf (itOf q x) _ (semPair q x).1 rfl]
    unfold turn
    rw [List.length_cons] at h
    have : ((run ++ [((semPair q x).1, (itOf q x).2)]).length == 17) = false := by
      simp; omega
    rw [this, if_neg (by simp), pure_bind]
    have := loop_short hf main g (run ++ [((semPair q x).1, (itOf q x).2)]) (by simp only [List.length_append, List.length_cons, List.length_nil]; omega)
    dsimp only
    rw [this, List.append_assoc]
    rfl

/-- the garbage pieces -/
def subsOf : Nat → List (List Pair) → List Obj
  | _, [] => []
  | T, g :: r => D (ents T g) :: subsOf (T + 3 * g.length) r
theorem rn_groups {h : Heap} (hd : n₀ ≤ h.objs.size) (hsys : @LT.lt Nat _ sysModules h.objs.size) {f : It → St → Sem (ForInStep St)} (hf : ∀ x st k, x.1 = some k → f x st = turn x st k) (last : List Pair) (hl : last.length < 17) :
    ∀ (gs : List (List Pair)) (es : List DictEntry) (subs : List Obj) (b : Int) (p : Pos) (s : Shared), (∀ g ∈ gs, g.length = 17) → es ≠ [] → (∀ e ∈ es, e.hash ≤ b) → sorted b (gs.flatten ++ last) → es.length + 17 * gs.length < sizeLine → s.heap = HH h (D es :: subs) →
      ∃ p', (gs ≠ [] → p' = q) ∧ (gs = [] → p' = p) ∧ ∃ b', (∀ e ∈ es ++ ents s.toks gs.flatten, e.hash ≤ b') ∧ sorted b' last ∧
      Rn treeTable pr w n₀ ann (520 * gs.length) (forIn ((gs.flatten ++ last).map (itOf q)) (some h.objs.size, []) f) p s (some h.objs.size, last.map (semPair q)) p'
        { s with heap := HH h (D (es ++ ents s.toks gs.flatten) :: (subs ++ subsOf s.toks gs)), toks := s.toks + 3 * gs.flatten.length }
  | [], es, subs, b, p, s, _, _, hb, hs, _, hh => by
    refine ⟨p, fun h => absurd rfl h, fun _ => rfl, b, by simpa [ents] using hb, by simpa using hs, ?_⟩
    simp only [List.flatten_nil, List.nil_append, ents, List.append_nil, subsOf, List.length_nil, Nat.mul_zero, Nat.add_zero]
    rw [loop_short hf _ last [] (by simpa using hl), ← hh, List.nil_append]
    exact rn_pure
  | g :: gs, es, subs, b, p, s, hgs, h0, hb, hs, hz, hh => by
    have hg := hgs g (.head _)
    rw [List.flatten_cons, List.append_assoc] at hs
    obtain ⟨hs1, b', hb1, hb2, hs2⟩ := sorted_app g (gs.flatten ++ last) s.toks b hs
    rw [List.length_cons] at hz
    obtain ⟨p', hp1, hp2, b'', hb3, hs3, R⟩ := rn_groups hd hsys hf last hl gs (es ++ ents s.toks g) (subs ++ [D (ents s.toks g)]) b' q { s with heap := HH h (D (es ++ ents s.toks g) :: (subs ++ [D (ents s.toks g)])), toks := s.toks + 3 * g.length }
      (fun g' hg' => hgs g' (.tail _ hg')) (by simp [h0]) (fun e he => by
        rcases List.mem_append.mp he with he | he
        · have := hb e he; omega
        · exact hb2 e he) hs2 (by rw [List.length_append, ents_len, hg]; omega) rfl
    have hpq : p' = q := by
      by_cases e : gs = []
      · exact hp2 e
      · exact hp1 e
    subst hpq
    dsimp only at hb3 R
    have e1 : es ++ ents s.toks g ++ ents (s.toks + 3 * g.length) gs.flatten = es ++ ents s.toks (g :: gs).flatten := by
      rw [List.flatten_cons, ents_app, List.append_assoc]
    have e2 : subs ++ [D (ents s.toks g)] ++ subsOf (s.toks + 3 * g.length) gs = subs ++ subsOf s.toks (g :: gs) := by simp [subsOf]
    have e3 : s.toks + 3 * g.length + 3 * gs.flatten.length = s.toks + 3 * (g :: gs).flatten.length := by rw [List.flatten_cons, List.length_append]; omega
    rw [e1] at hb3
    rw [e1, e2, e3] at R
    refine ⟨p', fun _ => rfl, fun h => (nomatch h), b'', hb3, hs3, ?_⟩
    rw [List.flatten_cons, List.append_assoc, List.map_append, loop_group hf _ _ g [] (by intro e; subst e; cases hg) (by simpa using hg), List.nil_append]
    refine rn_then 520 (520 * gs.length) (rn_flush hd hsys g hg b h0 hb hs1 (by omega) hh) ?_ (by rw [List.length_cons]; omega)
    rw [List.flatten_cons] at R
    exact R

theorem rn_display {h : Heap} (hd : n₀ ≤ h.objs.size) (hsys : @LT.lt Nat _ sysModules h.objs.size) (g : List Pair) (gs : List (List Pair)) (last : List Pair) (b : Int) (hg : g.length = 17) (hgs : ∀ g ∈ gs, g.length = 17) (hl0 : last ≠ []) (hl : last.length ≤ 15)
    (hs : sorted b ((g :: gs).flatten ++ last)) (hz : 17 * gs.length + 34 < sizeLine) (hh : s.heap = h) :
    Rn treeTable pr w n₀ ann (520 * gs.length + 930) (dictDisplay (((g :: gs).flatten ++ last).map (itOf q))) p s (.ref h.objs.size) q
      { s with heap := HH h (D (ents s.toks (g :: gs).flatten ++ entsS (s.toks + 3 * (g :: gs).flatten.length) last) :: (subsOf (s.toks + 3 * g.length) gs ++ [D (entsS (s.toks + 3 * (g :: gs).flatten.length) last)])), toks := s.toks + 3 * (g :: gs).flatten.length + 3 * last.length } := by
  unfold dictDisplay
  dsimp only
  rw [List.flatten_cons, List.append_assoc] at hs
  obtain ⟨hs1, b', hb1, hb2, hs2⟩ := sorted_app g (gs.flatten ++ last) s.toks b hs
  have F : ∀ (f : It → St → Sem (ForInStep St)), (∀ x st k, x.1 = some k → f x st = turn x st k) → Rn treeTable pr w n₀ ann (520 * gs.length + 410) (forIn (((g :: gs).flatten ++ last).map (itOf q)) ((none, []) : St) f) p s (some h.objs.size, last.map (semPair q)) q
      { s with heap := HH h (D (ents s.toks (g :: gs).flatten) :: subsOf (s.toks + 3 * g.length) gs), toks := s.toks + 3 * (g :: gs).flatten.length } ∧ ∃ b'', (∀ e ∈ ents s.toks (g :: gs).flatten, e.hash ≤ b'') ∧ sorted b'' last := fun f hf => by
    obtain ⟨p', hp1, hp2, b'', hb3, hs3, R⟩ := rn_groups (pr := pr) (w := w) (n₀ := n₀) (ann := ann) (q := q) hd hsys hf last (by omega) gs (ents s.toks g) [] b' q { s with heap := HH h [D (ents s.toks g)], toks := s.toks + 3 * g.length } hgs
      (by intro e; have := ents_len g s.toks; rw [e, hg] at this; cases this) hb2 hs2 (by rw [ents_len, hg]; omega) rfl
    have hpq : p' = q := by
      by_cases e : gs = []
      · exact hp2 e
      · exact hp1 e
    subst hpq
    dsimp only at hb3 R
    rw [← ents_app, ← List.flatten_cons] at hb3
    refine ⟨?_, b'', hb3, hs3⟩
    rw [List.flatten_cons, List.append_assoc, List.map_append, loop_group hf _ _ g [] (by intro e; subst e; cases hg) (by simpa using hg), List.nil_append]
    refine rn_then 410 (520 * gs.length) (rn_flush0 hd g hg b hs1 (by rw [hh]; simp [HH])) ?_
    rw [← ents_app, List.nil_append] at R
    rw [show s.toks + 3 * (g ++ gs.flatten).length = s.toks + 3 * g.length + 3 * gs.flatten.length by rw [List.length_append]; omega]
    exact R
  refine rn_then (520 * gs.length + 410) 520 (F _ ?_).1 ?_
  · intro x st k hk
    obtain ⟨x1, x2⟩ := x
    dsimp only at hk
    subst hk
    rfl
  · obtain ⟨_, b'', hb3, hs3⟩ := F (fun x st => match x.1 with | some k => turn x st k | none => pure (.yield st)) (fun x st k hk => by rw [hk])
    have Z := rn_flushS (pr := pr) (w := w) (n₀ := n₀) (ann := ann) (p := q) (q := q) (s := { s with heap := HH h (D (ents s.toks (g :: gs).flatten) :: subsOf (s.toks + 3 * g.length) gs), toks := s.toks + 3 * (g :: gs).flatten.length }) hd hsys last hl0 hl b''
      (by intro e; have := ents_len (g :: gs).flatten s.toks; rw [e, List.flatten_cons, List.length_append, hg] at this; simp at this; omega) hb3 hs3 (by
        have : ∀ (gs : List (List Pair)), (∀ g ∈ gs, g.length = 17) → gs.flatten.length = 17 * gs.length := fun gs => by
          induction gs with
          | nil => intro _; rfl
          | cons a r ih => intro h; rw [List.flatten_cons, List.length_append, h a (.head _), ih (fun g hg => h g (.tail _ hg)), List.length_cons]; omega
        rw [ents_len, this _ (fun x hx => by rcases List.mem_cons.mp hx with rfl | hx; exact hg; exact hgs _ hx), List.length_cons]; omega) rfl
    exact rn_then 520 0 Z rn_pure
end
end Mine

end
section
set_option maxRecDepth 100000
set_option linter.unusedVariables false
set_option linter.unusedSimpArgs false
namespace Mine
open PySem PySem.W PySem.Calls PyProof.Rows

def insAll : BT → Nat → List Obj → BT
  | T, _, [] => T
  | T, n, o :: r => insAll (T.ins n o) (n + 1) r
def insOk : BT → Nat → List Obj → Bool
  | _, _, [] => true
  | T, n, o :: r => ((T.ins n o).get n).isSome && insOk (T.ins n o) (n + 1) r
theorem HH_cons (h : Heap) (o : Obj) (r : List Obj) : HH h (o :: r) = HH (h.push o) r := by
  unfold HH Heap.push
  simp
theorem HH_abs : ∀ (os : List Obj) (T : BT) (n : Nat) (life : Life), insOk T n os = true → HH (absHeap T n life) os = absHeap (insAll T n os) (n + os.length) life
  | [], T, n, life, _ => by simp [HH, insAll]
  | o :: r, T, n, life, h => by
    obtain ⟨h1, h2⟩ := Bool.and_eq_true_iff.mp h
    rw [HH_cons, ← absHeap_ins h1, HH_abs r _ _ _ h2]
    show _ = absHeap (insAll (T.ins n o) (n + 1) r) (n + (r.length + 1)) life
    rw [show n + (r.length + 1) = n + 1 + r.length by omega]

section
variable {pr : Program} {w : World} {n₀ : Nat} {ann : Option Value} {p p' p₁ q : Pos} {s s' s₁ : Shared}
theorem piece_dict {env : Env} {l : List Pair} {ks : List (Option Expr)} {vs : List Expr} {nm : Str} {np dp sp pos qf : Pos} {c : Code} {rest : List Stmt} {v : Value} {n m N : Nat} {r : Shared}
    (hz : (evalEachOpt ks env).zip ((evalEach vs env).map fun v => do let x ← v; standAt dp; pure x) = l.map (itOf dp))
    (R : Rn treeTable pr w n₀ ann n (dictDisplay (l.map (itOf dp))) dp s v dp s₁)
    (h3 : segRun treeTable pr w n₀ ann 1 m s₁ ⟨(assignStores env v none ((assignEach [.Name nm np] env).map (·.2))).wrap doneF deadEnd id id, c, dp, [topFrame qf]⟩ = some (.next, s', c, p'))
    (k : topRun treeTable pr w n₀ ann N s' (restOf rest env c p' [topFrame qf]) = some r) :
    topRun treeTable pr w n₀ ann (m + N + (n + 2)) s (restOf (.Assign [.Name nm np] (.Dict ks vs dp) sp :: rest) env c pos [topFrame qf]) = some r := by
  unfold restOf
  rw [execs_cons_wrap]
  obtain ⟨a, ha, hN⟩ := seg_top (res := id) (K' := fun f => match f with | .next => (execs rest env).wrap doneF (leaveH env) id id | f => doneF f) (H' := leaveH env) (B := [topFrame qf]) rfl m s₁ ⟨(assignStores env v none ((assignEach [.Name nm np] env).map (·.2))).wrap doneF deadEnd id id, c, dp, [topFrame qf]⟩
    ⟨(assignStores env v none ((assignEach [.Name nm np] env).map (·.2))).wrap (fun f => match f with | .next => (execs rest env).wrap doneF (leaveH env) id id | f => doneF f) (leaveH env) id id, c, dp, [topFrame qf]⟩ _ _ _ _ ⟨rfl, rfl, .inl ⟨rfl, rfl, _, rfl, rfl⟩⟩ h3
  obtain rfl : a = .next := ha
  have k' := hN N r k
  rw [arm_exec_Assign]
  have e : swapsWithSole [.Name nm np] (.Dict ks vs dp) sp.line env = pure false := rfl
  have e2 : swappedStores [.Name nm np] (.Dict ks vs dp) env = pure none := rfl
  rw [e, e2]
  have R' : Rn treeTable pr w n₀ ann (n + 2) (standAt sp >>= fun _ => pure false >>= fun b => (if b = true then (pure .none : Sem Value) else eval (.Dict ks vs dp) env)) pos s v dp s₁ := by
    refine rn_then 1 (n + 1) rn_at (rn_then 0 (n + 1) rn_pure ?_)
    rw [if_neg (by simp), arm_eval_Dict, hz]
    exact rn_then 1 n rn_at R
  have z := R' (fun v => (assignStores env v none ((assignEach [.Name nm np] env).map (·.2))).wrap (fun f => match f with | .next => (execs rest env).wrap doneF (leaveH env) id id | f => doneF f) (leaveH env) id id) (leaveH env) id id c (topFrame qf) [] (m + N) r k'
  have e3 : (standAt sp >>= fun _ => pure false >>= fun b => (if b = true then (do
        evalThenUse (.Dict ks vs dp) env fun v => assignAll v ((assignEach [.Name nm np] env).map (·.2))
        pure .next) else (do
        let v ← eval (.Dict ks vs dp) env
        let x ← pure none
        assignStores env v x ((assignEach [.Name nm np] env).map (·.2))) : Sem Flow)) = (standAt sp >>= fun _ => pure false >>= fun b => (if b = true then (pure .none : Sem Value) else eval (.Dict ks vs dp) env)) >>= fun v => assignStores env v none ((assignEach [.Name nm np] env).map (·.2)) := by
    simp only [bind_assoc, pure_bind]
    rfl
  rw [e3, Sem.bind_eq_wrap', Sem.wrap_wrap]
  exact z
theorem piece_dictT {env : Env} {l : List Pair} {st : Stmt} {ks : List (Option Expr)} {vs : List Expr} {nm : Str} {np dp sp pos qf : Pos} {c : Code} {rest : List Stmt} {v : Value} {n m N : Nat} {r : Shared} {t₁ t' : SharedT}
    (hst : st = .Assign [.Name nm np] (.Dict ks vs dp) sp)
    (hz : (evalEachOpt ks env).zip ((evalEach vs env).map fun v => do let x ← v; standAt dp; pure x) = l.map (itOf dp))
    (R : Rn treeTable pr w n₀ ann n (dictDisplay (l.map (itOf dp))) dp s v dp t₁.abs)
    (h3 : segRunT treeTable pr w n₀ ann 1 m t₁ ⟨(assignStores env v none ((assignEach [.Name nm np] env).map (·.2))).wrap doneF deadEnd id id, c, dp, [topFrame qf]⟩ = some (.next, t', c, p'))
    (k : topRun treeTable pr w n₀ ann N t'.abs (restOf rest env c p' [topFrame qf]) = some r) :
    topRun treeTable pr w n₀ ann (m + N + (n + 2)) s (restOf (st :: rest) env c pos [topFrame qf]) = some r := by
  subst hst
  exact piece_dict hz R (segRun_of h3) k
end
end Mine

end
section
set_option maxRecDepth 100000
set_option linter.unusedVariables false
set_option maxHeartbeats 4000000
namespace Mine
open PySem PySem.W PySem.Calls PyProof.Rows
noncomputable section
abbrev pw : Program := PySem.Challenge.pw_re0150_02
def nthS : Nat → List Stmt → Stmt
  | _, [] => .Pass default
  | 0, s :: _ => s
  | n + 1, _ :: r => nthS n r
def fParams : Stmt → Arguments
  | .FunctionDef _ a _ _ _ _ _ _ _ _ => a
  | _ => default
def fBody : Stmt → List Stmt
  | .FunctionDef _ _ b _ _ _ _ _ _ _ => b
  | _ => []
def fScope : Stmt → Scope
  | .FunctionDef _ _ _ _ _ _ s _ _ _ => s
  | _ => default
abbrev lf : Life := {}
abbrev dr : Drawn := {}
def st0 : Stmt := nthS 0 PySem.Challenge.pw_re0150_02.main.body
def st1 : Stmt := nthS 1 PySem.Challenge.pw_re0150_02.main.body
def st2 : Stmt := nthS 2 PySem.Challenge.pw_re0150_02.main.body
def st3 : Stmt := nthS 3 PySem.Challenge.pw_re0150_02.main.body
def st4 : Stmt := nthS 4 PySem.Challenge.pw_re0150_02.main.body
def st5 : Stmt := nthS 5 PySem.Challenge.pw_re0150_02.main.body
def st6 : Stmt := nthS 6 PySem.Challenge.pw_re0150_02.main.body
def st7 : Stmt := nthS 7 PySem.Challenge.pw_re0150_02.main.body
def st8 : Stmt := nthS 8 PySem.Challenge.pw_re0150_02.main.body
def st9 : Stmt := nthS 9 PySem.Challenge.pw_re0150_02.main.body
def st10 : Stmt := nthS 10 PySem.Challenge.pw_re0150_02.main.body
def st11 : Stmt := nthS 11 PySem.Challenge.pw_re0150_02.main.body
def st12 : Stmt := nthS 12 PySem.Challenge.pw_re0150_02.main.body
def st13 : Stmt := nthS 13 PySem.Challenge.pw_re0150_02.main.body
def st14 : Stmt := nthS 14 PySem.Challenge.pw_re0150_02.main.body
def st15 : Stmt := nthS 15 PySem.Challenge.pw_re0150_02.main.body
def st16 : Stmt := nthS 16 PySem.Challenge.pw_re0150_02.main.body
def env : Env := { scope := PySem.Challenge.pw_re0150_02.main.scope, locals := mainNs, globals := mainNs, cells := [], code := .ref 13, frame := some 14 }
def bE : List Stmt := [st0, st1, st2, st3, st4, st5, st6, st7, st8, st9, st10, st11, st12, st13, st14, st15, st16]
abbrev cE : Code := .body bE env
abbrev qf : Pos := ⟨0, 0, 0, 0⟩
abbrev m0 : Nat := 11
abbrev annE : Option Value := some (.ref 6)
abbrev p0 : Pos := ⟨0, 0, 0, 0⟩
noncomputable def o11_0 (P : Params) : Obj := ⟨.type "tuple", none, .seq #[] 0, #[]⟩
noncomputable def o12_0 (P : Params) : Obj := ⟨.none, none, .fields #[], #[]⟩
noncomputable def o13_0 (P : Params) : Obj := ⟨.type "code", none, .fields #[.str ⟨#[60, 109, 111, 100, 117, 108, 101, 62]⟩ 182, .str ⟨#[60, 109, 111, 100, 117, 108, 101, 62]⟩ 183, .str ⟨#[47, 99, 108, 97, 105, 109, 47, 99, 117, 116, 46, 112, 121]⟩ 184, .int 1 0, .int 0 0, .int 0 0, .int 0 0, .int 0 0, .ref 11, .bool false, .int 181 0, .ref 12, .none, .none, .none, .none, .int 185 0, .int 1 0, .str ⟨#[47, 99, 108, 97, 105, 109, 47, 99, 117, 116, 46, 112, 121]⟩ 186], #[]⟩
noncomputable def o14_0 (P : Params) : Obj := ⟨.type "frame", none, .plain, #[some (.ref 13), some (.ref 3), some (.ref 3), none, some (.str ⟨#[95, 95, 109, 97, 105, 110, 95, 95]⟩ 164), none, some (.ref 0)]⟩
noncomputable def T0 (P : Params) : BT := (.node (boot_o_0 P) (.node (boot_o_1 P) (.node (boot_o_3 P) (.node (boot_o_7 P) .nil .nil) (.node (o11_0 P) .nil .nil)) (.node (boot_o_5 P) (.node (boot_o_9 P) .nil .nil) (.node (o13_0 P) .nil .nil))) (.node (boot_o_2 P) (.node (boot_o_4 P) (.node (boot_o_8 P) .nil .nil) (.node (o12_0 P) .nil .nil)) (.node (boot_o_6 P) (.node (boot_o_10 P) .nil .nil) (.node (o14_0 P) .nil .nil))))
noncomputable def S0 (w : World) (os : OsState) : SharedT := ⟨T0 w.params, 15, lf, #[], dr, 187, os⟩
noncomputable def o3_0 (P : Params) : Obj := ⟨.type "dict", none, .dict #[⟨PySem.PyData.keyHash P ⟨#[95, 95, 110, 97, 109, 101, 95, 95]⟩, .str ⟨#[95, 95, 110, 97, 109, 101, 95, 95]⟩ 165, .str ⟨#[99, 112, 121, 51, 49, 51, 46, 115, 116, 114, 105, 110, 103, 112, 114, 101, 112]⟩ 187⟩, ⟨PySem.PyData.keyHash P ⟨#[95, 95, 100, 111, 99, 95, 95]⟩, .str ⟨#[95, 95, 100, 111, 99, 95, 95]⟩ 166, .none⟩, ⟨PySem.PyData.keyHash P ⟨#[95, 95, 112, 97, 99, 107, 97, 103, 101, 95, 95]⟩, .str ⟨#[95, 95, 112, 97, 99, 107, 97, 103, 101, 95, 95]⟩ 167, .none⟩, ⟨PySem.PyData.keyHash P ⟨#[95, 95, 108, 111, 97, 100, 101, 114, 95, 95]⟩, .str ⟨#[95, 95, 108, 111, 97, 100, 101, 114, 95, 95]⟩ 168, .builtin "__main__.__loader__#opaque"⟩, ⟨PySem.PyData.keyHash P ⟨#[95, 95, 115, 112, 101, 99, 95, 95]⟩, .str ⟨#[95, 95, 115, 112, 101, 99, 95, 95]⟩ 169, .none⟩, ⟨PySem.PyData.keyHash P ⟨#[95, 95, 97, 110, 110, 111, 116, 97, 116, 105, 111, 110, 115, 95, 95]⟩, .str ⟨#[95, 95, 97, 110, 110, 111, 116, 97, 116, 105, 111, 110, 115, 95, 95]⟩ 170, .ref 6⟩, ⟨PySem.PyData.keyHash P ⟨#[95, 95, 98, 117, 105, 108, 116, 105, 110, 115, 95, 95]⟩, .str ⟨#[95, 95, 98, 117, 105, 108, 116, 105, 110, 115, 95, 95]⟩ 171, .ref 4⟩, ⟨PySem.PyData.keyHash P ⟨#[95, 95, 102, 105, 108, 101, 95, 95]⟩, .str ⟨#[95, 95, 102, 105, 108, 101, 95, 95]⟩ 173, .str ⟨#[47, 99, 108, 97, 105, 109, 47, 99, 117, 116, 46, 112, 121]⟩ 172⟩, ⟨PySem.PyData.keyHash P ⟨#[95, 95, 99, 97, 99, 104, 101, 100, 95, 95]⟩, .str ⟨#[95, 95, 99, 97, 99, 104, 101, 100, 95, 95]⟩ 174, .none⟩] 9, #[]⟩
noncomputable def T1 (P : Params) : BT := (.node (boot_o_0 P) (.node (boot_o_1 P) (.node (o3_0 P) (.node (boot_o_7 P) .nil .nil) (.node (o11_0 P) .nil .nil)) (.node (boot_o_5 P) (.node (boot_o_9 P) .nil .nil) (.node (o13_0 P) .nil .nil))) (.node (boot_o_2 P) (.node (boot_o_4 P) (.node (boot_o_8 P) .nil .nil) (.node (o12_0 P) .nil .nil)) (.node (boot_o_6 P) (.node (boot_o_10 P) .nil .nil) (.node (o14_0 P) .nil .nil))))
noncomputable def S1 (w : World) (os : OsState) : SharedT := ⟨T1 w.params, 15, lf, #[], dr, 189, os⟩
abbrev p1 : Pos := ⟨1, 0, 1, 8⟩
noncomputable def o3_1 (P : Params) : Obj := ⟨.type "dict", none, .dict #[⟨PySem.PyData.keyHash P ⟨#[95, 95, 110, 97, 109, 101, 95, 95]⟩, .str ⟨#[95, 95, 110, 97, 109, 101, 95, 95]⟩ 165, .str ⟨#[99, 112, 121, 51, 49, 51, 46, 115, 116, 114, 105, 110, 103, 112, 114, 101, 112]⟩ 187⟩, ⟨PySem.PyData.keyHash P ⟨#[95, 95, 100, 111, 99, 95, 95]⟩, .str ⟨#[95, 95, 100, 111, 99, 95, 95]⟩ 166, .none⟩, ⟨PySem.PyData.keyHash P ⟨#[95, 95, 112, 97, 99, 107, 97, 103, 101, 95, 95]⟩, .str ⟨#[95, 95, 112, 97, 99, 107, 97, 103, 101, 95, 95]⟩ 167, .none⟩, ⟨PySem.PyData.keyHash P ⟨#[95, 95, 108, 111, 97, 100, 101, 114, 95, 95]⟩, .str ⟨#[95, 95, 108, 111, 97, 100, 101, 114, 95, 95]⟩ 168, .builtin "__main__.__loader__#opaque"⟩, ⟨PySem.PyData.keyHash P ⟨#[95, 95, 115, 112, 101, 99, 95, 95]⟩, .str ⟨#[95, 95, 115, 112, 101, 99, 95, 95]⟩ 169, .none⟩, ⟨PySem.PyData.keyHash P ⟨#[95, 95, 97, 110, 110, 111, 116, 97, 116, 105, 111, 110, 115, 95, 95]⟩, .str ⟨#[95, 95, 97, 110, 110, 111, 116, 97, 116, 105, 111, 110, 115, 95, 95]⟩ 170, .ref 6⟩, ⟨PySem.PyData.keyHash P ⟨#[95, 95, 98, 117, 105, 108, 116, 105, 110, 115, 95, 95]⟩, .str ⟨#[95, 95, 98, 117, 105, 108, 116, 105, 110, 115, 95, 95]⟩ 171, .ref 4⟩, ⟨PySem.PyData.keyHash P ⟨#[95, 95, 102, 105, 108, 101, 95, 95]⟩, .str ⟨#[95, 95, 102, 105, 108, 101, 95, 95]⟩ 173, .str ⟨#[47, 99, 108, 97, 105, 109, 47, 99, 117, 116, 46, 112, 121]⟩ 172⟩, ⟨PySem.PyData.keyHash P ⟨#[95, 95, 99, 97, 99, 104, 101, 100, 95, 95]⟩, .str ⟨#[95, 95, 99, 97, 99, 104, 101, 100, 95, 95]⟩ 174, .none⟩, ⟨PySem.PyData.keyHash P ⟨#[98, 49, 95, 115, 101, 116]⟩, .str ⟨#[98, 49, 95, 115, 101, 116]⟩ 248, .ref 22⟩] 10, #[]⟩
noncomputable def o15_0 (P : Params) : Obj := ⟨.type "list", none, .seq #[.int 173 189, .int 847 190, .int 6150 191, .int 6155 192, .int 6156 193, .int 6157 194, .int 8203 195, .int 8204 196, .int 8205 197, .int 8288 198, .int 65279 199] 0, #[]⟩
noncomputable def o16_0 (P : Params) : Obj := ⟨.type "range", none, .fields #[.int 65024 200, .int 65040 201, .int 1 202], #[]⟩
noncomputable def o17_0 (P : Params) : Obj := ⟨.type "list", none, .seq #[.int 65024 205, .int 65025 206, .int 65026 207, .int 65027 208, .int 65028 209, .int 65029 210, .int 65030 211, .int 65031 212, .int 65032 213, .int 65033 214, .int 65034 215, .int 65035 216, .int 65036 217, .int 65037 218, .int 65038 219, .int 65039 220] 18, #[]⟩
noncomputable def o18_0 (P : Params) : Obj := ⟨.type "range_iterator", none, .fields #[.int 65040 0, .int 0 0, .int 1 0], #[]⟩
noncomputable def o19_0 (P : Params) : Obj := ⟨.type "tuple", none, .seq #[] 0, #[]⟩
noncomputable def o20_0 (P : Params) : Obj := ⟨.type "StopIteration", none, .fields #[.ref 19, .none, .none, .none, .bool false, .none], #[]⟩
noncomputable def o21_0 (P : Params) : Obj := ⟨.type "list", none, .seq #[.int 173 189, .int 847 190, .int 6150 191, .int 6155 192, .int 6156 193, .int 6157 194, .int 8203 195, .int 8204 196, .int 8205 197, .int 8288 198, .int 65279 199, .int 65024 205, .int 65025 206, .int 65026 207, .int 65027 208, .int 65028 209, .int 65029 210, .int 65030 211, .int 65031 212, .int 65032 213, .int 65033 214, .int 65034 215, .int 65035 216, .int 65036 217, .int 65037 218, .int 65038 219, .int 65039 220] 0, #[]⟩
noncomputable def o22_0 (P : Params) : Obj := ⟨.type "set", none, .set #[(65024, .int 65024 205), (65025, .int 65025 206), (65026, .int 65026 207), (65027, .int 65027 208), (65028, .int 65028 209), (65029, .int 65029 210), (6150, .int 6150 191), (65030, .int 65030 211), (65031, .int 65031 212), (65032, .int 65032 213), (65033, .int 65033 214), (6155, .int 6155 192), (6156, .int 6156 193), (6157, .int 6157 194), (8203, .int 8203 195), (8204, .int 8204 196), (8205, .int 8205 197), (65034, .int 65034 215), (65035, .int 65035 216), (65036, .int 65036 217), (65037, .int 65037 218), (65038, .int 65038 219), (65039, .int 65039 220), (173, .int 173 189), (847, .int 847 190), (8288, .int 8288 198), (65279, .int 65279 199)] 29 { mask := 127, place := #[0, 1, 2, 3, 4, 5, 6, 7, 8, 9, 10, 11, 12, 13, 14, 15, 16, 17, 18, 19, 20, 21, 22, 45, 79, 96, 127], dummies := #[], finger := 0, led := !P.followText "set-order", moves := 2, plain := true }, #[]⟩
noncomputable def o23_0 (P : Params) : Obj := ⟨.type "list_iterator", none, .fields #[.none, .int 27 0], #[]⟩
noncomputable def o24_0 (P : Params) : Obj := ⟨.type "tuple", none, .seq #[] 0, #[]⟩
noncomputable def o25_0 (P : Params) : Obj := ⟨.type "StopIteration", none, .fields #[.ref 24, .none, .none, .none, .bool false, .none], #[]⟩
noncomputable def T2 (P : Params) : BT := (.node (boot_o_0 P) (.node (boot_o_1 P) (.node (o3_1 P) (.node (boot_o_7 P) (.node (o15_0 P) .nil .nil) (.node (o23_0 P) .nil .nil)) (.node (o11_0 P) (.node (o19_0 P) .nil .nil) .nil)) (.node (boot_o_5 P) (.node (boot_o_9 P) (.node (o17_0 P) .nil .nil) (.node (o25_0 P) .nil .nil)) (.node (o13_0 P) (.node (o21_0 P) .nil .nil) .nil))) (.node (boot_o_2 P) (.node (boot_o_4 P) (.node (boot_o_8 P) (.node (o16_0 P) .nil .nil) (.node (o24_0 P) .nil .nil)) (.node (o12_0 P) (.node (o20_0 P) .nil .nil) .nil)) (.node (boot_o_6 P) (.node (boot_o_10 P) (.node (o18_0 P) .nil .nil) .nil) (.node (o14_0 P) (.node (o22_0 P) .nil .nil) .nil))))
noncomputable def S2 (w : World) (os : OsState) : SharedT := ⟨T2 w.params, 26, lf, #[], dr, 249, os⟩
abbrev p2 : Pos := ⟨2, 0, 2, 6⟩
noncomputable def o3_2 (P : Params) : Obj := ⟨.type "dict", none, .dict #[⟨PySem.PyData.keyHash P ⟨#[95, 95, 110, 97, 109, 101, 95, 95]⟩, .str ⟨#[95, 95, 110, 97, 109, 101, 95, 95]⟩ 165, .str ⟨#[99, 112, 121, 51, 49, 51, 46, 115, 116, 114, 105, 110, 103, 112, 114, 101, 112]⟩ 187⟩, ⟨PySem.PyData.keyHash P ⟨#[95, 95, 100, 111, 99, 95, 95]⟩, .str ⟨#[95, 95, 100, 111, 99, 95, 95]⟩ 166, .none⟩, ⟨PySem.PyData.keyHash P ⟨#[95, 95, 112, 97, 99, 107, 97, 103, 101, 95, 95]⟩, .str ⟨#[95, 95, 112, 97, 99, 107, 97, 103, 101, 95, 95]⟩ 167, .none⟩, ⟨PySem.PyData.keyHash P ⟨#[95, 95, 108, 111, 97, 100, 101, 114, 95, 95]⟩, .str ⟨#[95, 95, 108, 111, 97, 100, 101, 114, 95, 95]⟩ 168, .builtin "__main__.__loader__#opaque"⟩, ⟨PySem.PyData.keyHash P ⟨#[95, 95, 115, 112, 101, 99, 95, 95]⟩, .str ⟨#[95, 95, 115, 112, 101, 99, 95, 95]⟩ 169, .none⟩, ⟨PySem.PyData.keyHash P ⟨#[95, 95, 97, 110, 110, 111, 116, 97, 116, 105, 111, 110, 115, 95, 95]⟩, .str ⟨#[95, 95, 97, 110, 110, 111, 116, 97, 116, 105, 111, 110, 115, 95, 95]⟩ 170, .ref 6⟩, ⟨PySem.PyData.keyHash P ⟨#[95, 95, 98, 117, 105, 108, 116, 105, 110, 115, 95, 95]⟩, .str ⟨#[95, 95, 98, 117, 105, 108, 116, 105, 110, 115, 95, 95]⟩ 171, .ref 4⟩, ⟨PySem.PyData.keyHash P ⟨#[95, 95, 102, 105, 108, 101, 95, 95]⟩, .str ⟨#[95, 95, 102, 105, 108, 101, 95, 95]⟩ 173, .str ⟨#[47, 99, 108, 97, 105, 109, 47, 99, 117, 116, 46, 112, 121]⟩ 172⟩, ⟨PySem.PyData.keyHash P ⟨#[95, 95, 99, 97, 99, 104, 101, 100, 95, 95]⟩, .str ⟨#[95, 95, 99, 97, 99, 104, 101, 100, 95, 95]⟩ 174, .none⟩, ⟨PySem.PyData.keyHash P ⟨#[98, 49, 95, 115, 101, 116]⟩, .str ⟨#[98, 49, 95, 115, 101, 116]⟩ 248, .ref 22⟩, ⟨PySem.PyData.keyHash P ⟨#[105, 110, 95, 116, 97, 98, 108, 101, 95, 98, 49]⟩, .str ⟨#[105, 110, 95, 116, 97, 98, 108, 101, 95, 98, 49]⟩ 255, .ref 32⟩] 11, #[]⟩
noncomputable def o12_1 (P : Params) : Obj := ⟨.none, none, .fields #[.int 3 0, .int 0 0, .ref 31], #[]⟩
noncomputable def o26_0 (P : Params) : Obj := ⟨.type "tuple", none, .seq #[] 0, #[]⟩
noncomputable def o27_0 (P : Params) : Obj := ⟨.none, none, .fields #[], #[]⟩
noncomputable def o28_0 (P : Params) : Obj := ⟨.type "tuple", none, .seq #[.str ⟨#[99, 111, 100, 101]⟩ 252] 0, #[]⟩
noncomputable def o29_0 (P : Params) : Obj := ⟨.type "tuple", none, .seq #[] 0, #[]⟩
noncomputable def o30_0 (P : Params) : Obj := ⟨.none, none, .func { name := ⟨#[105, 110, 95, 116, 97, 98, 108, 101, 95, 98, 49]⟩, qualname := ⟨#[105, 110, 95, 116, 97, 98, 108, 101, 95, 98, 49]⟩, params := fParams st2, body := .stmts (fBody st2), scope := fScope st2, globals := 0, closure := [], defaults := .none, kwdefaults := .none, doc := .none, pyModule := .none, annotations := none, code := .none, closureTuple := .none, builtins := 0 }, #[]⟩
noncomputable def o31_0 (P : Params) : Obj := ⟨.type "code", none, .fields #[.str ⟨#[105, 110, 95, 116, 97, 98, 108, 101, 95, 98, 49]⟩ 249, .str ⟨#[105, 110, 95, 116, 97, 98, 108, 101, 95, 98, 49]⟩ 250, .str ⟨#[47, 99, 108, 97, 105, 109, 47, 99, 117, 116, 46, 112, 121]⟩ 251, .int 3 0, .int 1 0, .int 0 0, .int 0 0, .int 3 0, .ref 26, .bool true, .int 181 0, .ref 27, .none, .ref 28, .ref 29, .ref 30, .int 253 0, .int 3 0, .str ⟨#[47, 99, 108, 97, 105, 109, 47, 99, 117, 116, 46, 112, 121]⟩ 254], #[]⟩
noncomputable def o32_0 (P : Params) : Obj := ⟨.type "function", none, .func { name := ⟨#[105, 110, 95, 116, 97, 98, 108, 101, 95, 98, 49]⟩, qualname := ⟨#[105, 110, 95, 116, 97, 98, 108, 101, 95, 98, 49]⟩, params := fParams st2, body := .stmts (fBody st2), scope := fScope st2, globals := 3, closure := [], defaults := .none, kwdefaults := .none, doc := .none, pyModule := .str ⟨#[99, 112, 121, 51, 49, 51, 46, 115, 116, 114, 105, 110, 103, 112, 114, 101, 112]⟩ 187, annotations := none, code := .ref 31, closureTuple := .none, builtins := 0 }, #[]⟩
noncomputable def T3 (P : Params) : BT := (.node (boot_o_0 P) (.node (boot_o_1 P) (.node (o3_2 P) (.node (boot_o_7 P) (.node (o15_0 P) (.node (o31_0 P) .nil .nil) .nil) (.node (o23_0 P) .nil .nil)) (.node (o11_0 P) (.node (o19_0 P) .nil .nil) (.node (o27_0 P) .nil .nil))) (.node (boot_o_5 P) (.node (boot_o_9 P) (.node (o17_0 P) .nil .nil) (.node (o25_0 P) .nil .nil)) (.node (o13_0 P) (.node (o21_0 P) .nil .nil) (.node (o29_0 P) .nil .nil)))) (.node (boot_o_2 P) (.node (boot_o_4 P) (.node (boot_o_8 P) (.node (o16_0 P) (.node (o32_0 P) .nil .nil) .nil) (.node (o24_0 P) .nil .nil)) (.node (o12_1 P) (.node (o20_0 P) .nil .nil) (.node (o28_0 P) .nil .nil))) (.node (boot_o_6 P) (.node (boot_o_10 P) (.node (o18_0 P) .nil .nil) (.node (o26_0 P) .nil .nil)) (.node (o14_0 P) (.node (o22_0 P) .nil .nil) (.node (o30_0 P) .nil .nil)))))
noncomputable def S3 (w : World) (os : OsState) : SharedT := ⟨T3 w.params, 33, lf, #[], dr, 256, os⟩
abbrev p3 : Pos := ⟨3, 0, 4, 30⟩
noncomputable def b3_0 : List Pair := [(181, ⟨#[956]⟩), (223, ⟨#[115, 115]⟩), (304, ⟨#[105, 775]⟩), (329, ⟨#[700, 110]⟩), (383, ⟨#[115]⟩), (496, ⟨#[106, 780]⟩), (837, ⟨#[953]⟩), (890, ⟨#[32, 953]⟩), (912, ⟨#[953, 776, 769]⟩), (944, ⟨#[965, 776, 769]⟩), (962, ⟨#[963]⟩), (976, ⟨#[946]⟩), (977, ⟨#[952]⟩), (978, ⟨#[965]⟩), (979, ⟨#[973]⟩), (980, ⟨#[971]⟩), (981, ⟨#[966]⟩)]
noncomputable def b3_1 : List Pair := [(982, ⟨#[960]⟩), (1008, ⟨#[954]⟩), (1009, ⟨#[961]⟩), (1010, ⟨#[963]⟩), (1013, ⟨#[949]⟩), (1415, ⟨#[1381, 1410]⟩), (7830, ⟨#[104, 817]⟩), (7831, ⟨#[116, 776]⟩), (7832, ⟨#[119, 778]⟩), (7833, ⟨#[121, 778]⟩), (7834, ⟨#[97, 702]⟩), (7835, ⟨#[7777]⟩), (8016, ⟨#[965, 787]⟩), (8018, ⟨#[965, 787, 768]⟩), (8020, ⟨#[965, 787, 769]⟩), (8022, ⟨#[965, 787, 834]⟩), (8064, ⟨#[7936, 953]⟩)]
noncomputable def b3_2 : List Pair := [(8065, ⟨#[7937, 953]⟩), (8066, ⟨#[7938, 953]⟩), (8067, ⟨#[7939, 953]⟩), (8068, ⟨#[7940, 953]⟩), (8069, ⟨#[7941, 953]⟩), (8070, ⟨#[7942, 953]⟩), (8071, ⟨#[7943, 953]⟩), (8072, ⟨#[7936, 953]⟩), (8073, ⟨#[7937, 953]⟩), (8074, ⟨#[7938, 953]⟩), (8075, ⟨#[7939, 953]⟩), (8076, ⟨#[7940, 953]⟩), (8077, ⟨#[7941, 953]⟩), (8078, ⟨#[7942, 953]⟩), (8079, ⟨#[7943, 953]⟩), (8080, ⟨#[7968, 953]⟩), (8081, ⟨#[7969, 953]⟩)]
noncomputable def b3_3 : List Pair := [(8082, ⟨#[7970, 953]⟩), (8083, ⟨#[7971, 953]⟩), (8084, ⟨#[7972, 953]⟩), (8085, ⟨#[7973, 953]⟩), (8086, ⟨#[7974, 953]⟩), (8087, ⟨#[7975, 953]⟩), (8088, ⟨#[7968, 953]⟩), (8089, ⟨#[7969, 953]⟩), (8090, ⟨#[7970, 953]⟩), (8091, ⟨#[7971, 953]⟩), (8092, ⟨#[7972, 953]⟩), (8093, ⟨#[7973, 953]⟩), (8094, ⟨#[7974, 953]⟩), (8095, ⟨#[7975, 953]⟩), (8096, ⟨#[8032, 953]⟩), (8097, ⟨#[8033, 953]⟩), (8098, ⟨#[8034, 953]⟩)]
noncomputable def b3_4 : List Pair := [(8099, ⟨#[8035, 953]⟩), (8100, ⟨#[8036, 953]⟩), (8101, ⟨#[8037, 953]⟩), (8102, ⟨#[8038, 953]⟩), (8103, ⟨#[8039, 953]⟩), (8104, ⟨#[8032, 953]⟩), (8105, ⟨#[8033, 953]⟩), (8106, ⟨#[8034, 953]⟩), (8107, ⟨#[8035, 953]⟩), (8108, ⟨#[8036, 953]⟩), (8109, ⟨#[8037, 953]⟩), (8110, ⟨#[8038, 953]⟩), (8111, ⟨#[8039, 953]⟩), (8114, ⟨#[8048, 953]⟩), (8115, ⟨#[945, 953]⟩), (8116, ⟨#[940, 953]⟩), (8118, ⟨#[945, 834]⟩)]
noncomputable def b3_5 : List Pair := [(8119, ⟨#[945, 834, 953]⟩), (8124, ⟨#[945, 953]⟩), (8126, ⟨#[953]⟩), (8130, ⟨#[8052, 953]⟩), (8131, ⟨#[951, 953]⟩), (8132, ⟨#[942, 953]⟩), (8134, ⟨#[951, 834]⟩), (8135, ⟨#[951, 834, 953]⟩), (8140, ⟨#[951, 953]⟩), (8146, ⟨#[953, 776, 768]⟩), (8147, ⟨#[953, 776, 769]⟩), (8150, ⟨#[953, 834]⟩), (8151, ⟨#[953, 776, 834]⟩), (8162, ⟨#[965, 776, 768]⟩), (8163, ⟨#[965, 776, 769]⟩), (8164, ⟨#[961, 787]⟩), (8166, ⟨#[965, 834]⟩)]
noncomputable def b3_6 : List Pair := [(8167, ⟨#[965, 776, 834]⟩), (8178, ⟨#[8060, 953]⟩), (8179, ⟨#[969, 953]⟩), (8180, ⟨#[974, 953]⟩), (8182, ⟨#[969, 834]⟩), (8183, ⟨#[969, 834, 953]⟩), (8188, ⟨#[969, 953]⟩), (8360, ⟨#[114, 115]⟩), (8450, ⟨#[99]⟩), (8451, ⟨#[176, 99]⟩), (8455, ⟨#[603]⟩), (8457, ⟨#[176, 102]⟩), (8459, ⟨#[104]⟩), (8460, ⟨#[104]⟩), (8461, ⟨#[104]⟩), (8464, ⟨#[105]⟩), (8465, ⟨#[105]⟩)]
noncomputable def b3_7 : List Pair := [(8466, ⟨#[108]⟩), (8469, ⟨#[110]⟩), (8470, ⟨#[110, 111]⟩), (8473, ⟨#[112]⟩), (8474, ⟨#[113]⟩), (8475, ⟨#[114]⟩), (8476, ⟨#[114]⟩), (8477, ⟨#[114]⟩), (8480, ⟨#[115, 109]⟩), (8481, ⟨#[116, 101, 108]⟩), (8482, ⟨#[116, 109]⟩), (8484, ⟨#[122]⟩), (8488, ⟨#[122]⟩), (8492, ⟨#[98]⟩), (8493, ⟨#[99]⟩), (8496, ⟨#[101]⟩), (8497, ⟨#[102]⟩)]
noncomputable def b3_8 : List Pair := [(8499, ⟨#[109]⟩), (8510, ⟨#[947]⟩), (8511, ⟨#[960]⟩), (8517, ⟨#[100]⟩), (13169, ⟨#[104, 112, 97]⟩), (13171, ⟨#[97, 117]⟩), (13173, ⟨#[111, 118]⟩), (13184, ⟨#[112, 97]⟩), (13185, ⟨#[110, 97]⟩), (13186, ⟨#[956, 97]⟩), (13187, ⟨#[109, 97]⟩), (13188, ⟨#[107, 97]⟩), (13189, ⟨#[107, 98]⟩), (13190, ⟨#[109, 98]⟩), (13191, ⟨#[103, 98]⟩), (13194, ⟨#[112, 102]⟩), (13195, ⟨#[110, 102]⟩)]
noncomputable def b3_9 : List Pair := [(13196, ⟨#[956, 102]⟩), (13200, ⟨#[104, 122]⟩), (13201, ⟨#[107, 104, 122]⟩), (13202, ⟨#[109, 104, 122]⟩), (13203, ⟨#[103, 104, 122]⟩), (13204, ⟨#[116, 104, 122]⟩), (13225, ⟨#[112, 97]⟩), (13226, ⟨#[107, 112, 97]⟩), (13227, ⟨#[109, 112, 97]⟩), (13228, ⟨#[103, 112, 97]⟩), (13236, ⟨#[112, 118]⟩), (13237, ⟨#[110, 118]⟩), (13238, ⟨#[956, 118]⟩), (13239, ⟨#[109, 118]⟩), (13240, ⟨#[107, 118]⟩), (13241, ⟨#[109, 118]⟩), (13242, ⟨#[112, 119]⟩)]
noncomputable def b3_10 : List Pair := [(13243, ⟨#[110, 119]⟩), (13244, ⟨#[956, 119]⟩), (13245, ⟨#[109, 119]⟩), (13246, ⟨#[107, 119]⟩), (13247, ⟨#[109, 119]⟩), (13248, ⟨#[107, 969]⟩), (13249, ⟨#[109, 969]⟩), (13251, ⟨#[98, 113]⟩), (13254, ⟨#[99, 8725, 107, 103]⟩), (13255, ⟨#[99, 111, 46]⟩), (13256, ⟨#[100, 98]⟩), (13257, ⟨#[103, 121]⟩), (13259, ⟨#[104, 112]⟩), (13261, ⟨#[107, 107]⟩), (13262, ⟨#[107, 109]⟩), (13271, ⟨#[112, 104]⟩), (13273, ⟨#[112, 112, 109]⟩)]
noncomputable def b3_11 : List Pair := [(13274, ⟨#[112, 114]⟩), (13276, ⟨#[115, 118]⟩), (13277, ⟨#[119, 98]⟩), (64256, ⟨#[102, 102]⟩), (64257, ⟨#[102, 105]⟩), (64258, ⟨#[102, 108]⟩), (64259, ⟨#[102, 102, 105]⟩), (64260, ⟨#[102, 102, 108]⟩), (64261, ⟨#[115, 116]⟩), (64262, ⟨#[115, 116]⟩), (64275, ⟨#[1396, 1398]⟩), (64276, ⟨#[1396, 1381]⟩), (64277, ⟨#[1396, 1387]⟩), (64278, ⟨#[1406, 1398]⟩), (64279, ⟨#[1396, 1389]⟩), (119808, ⟨#[97]⟩), (119809, ⟨#[98]⟩)]
noncomputable def b3_12 : List Pair := [(119810, ⟨#[99]⟩), (119811, ⟨#[100]⟩), (119812, ⟨#[101]⟩), (119813, ⟨#[102]⟩), (119814, ⟨#[103]⟩), (119815, ⟨#[104]⟩), (119816, ⟨#[105]⟩), (119817, ⟨#[106]⟩), (119818, ⟨#[107]⟩), (119819, ⟨#[108]⟩), (119820, ⟨#[109]⟩), (119821, ⟨#[110]⟩), (119822, ⟨#[111]⟩), (119823, ⟨#[112]⟩), (119824, ⟨#[113]⟩), (119825, ⟨#[114]⟩), (119826, ⟨#[115]⟩)]
noncomputable def b3_13 : List Pair := [(119827, ⟨#[116]⟩), (119828, ⟨#[117]⟩), (119829, ⟨#[118]⟩), (119830, ⟨#[119]⟩), (119831, ⟨#[120]⟩), (119832, ⟨#[121]⟩), (119833, ⟨#[122]⟩), (119860, ⟨#[97]⟩), (119861, ⟨#[98]⟩), (119862, ⟨#[99]⟩), (119863, ⟨#[100]⟩), (119864, ⟨#[101]⟩), (119865, ⟨#[102]⟩), (119866, ⟨#[103]⟩), (119867, ⟨#[104]⟩), (119868, ⟨#[105]⟩), (119869, ⟨#[106]⟩)]
noncomputable def b3_14 : List Pair := [(119870, ⟨#[107]⟩), (119871, ⟨#[108]⟩), (119872, ⟨#[109]⟩), (119873, ⟨#[110]⟩), (119874, ⟨#[111]⟩), (119875, ⟨#[112]⟩), (119876, ⟨#[113]⟩), (119877, ⟨#[114]⟩), (119878, ⟨#[115]⟩), (119879, ⟨#[116]⟩), (119880, ⟨#[117]⟩), (119881, ⟨#[118]⟩), (119882, ⟨#[119]⟩), (119883, ⟨#[120]⟩), (119884, ⟨#[121]⟩), (119885, ⟨#[122]⟩), (119912, ⟨#[97]⟩)]
noncomputable def b3_15 : List Pair := [(119913, ⟨#[98]⟩), (119914, ⟨#[99]⟩), (119915, ⟨#[100]⟩), (119916, ⟨#[101]⟩), (119917, ⟨#[102]⟩), (119918, ⟨#[103]⟩), (119919, ⟨#[104]⟩), (119920, ⟨#[105]⟩), (119921, ⟨#[106]⟩), (119922, ⟨#[107]⟩), (119923, ⟨#[108]⟩), (119924, ⟨#[109]⟩), (119925, ⟨#[110]⟩), (119926, ⟨#[111]⟩), (119927, ⟨#[112]⟩), (119928, ⟨#[113]⟩), (119929, ⟨#[114]⟩)]
noncomputable def b3_16 : List Pair := [(119930, ⟨#[115]⟩), (119931, ⟨#[116]⟩), (119932, ⟨#[117]⟩), (119933, ⟨#[118]⟩), (119934, ⟨#[119]⟩), (119935, ⟨#[120]⟩), (119936, ⟨#[121]⟩), (119937, ⟨#[122]⟩), (119964, ⟨#[97]⟩), (119966, ⟨#[99]⟩), (119967, ⟨#[100]⟩), (119970, ⟨#[103]⟩), (119973, ⟨#[106]⟩), (119974, ⟨#[107]⟩), (119977, ⟨#[110]⟩), (119978, ⟨#[111]⟩), (119979, ⟨#[112]⟩)]
noncomputable def b3_17 : List Pair := [(119980, ⟨#[113]⟩), (119982, ⟨#[115]⟩), (119983, ⟨#[116]⟩), (119984, ⟨#[117]⟩), (119985, ⟨#[118]⟩), (119986, ⟨#[119]⟩), (119987, ⟨#[120]⟩), (119988, ⟨#[121]⟩), (119989, ⟨#[122]⟩), (120016, ⟨#[97]⟩), (120017, ⟨#[98]⟩), (120018, ⟨#[99]⟩), (120019, ⟨#[100]⟩), (120020, ⟨#[101]⟩), (120021, ⟨#[102]⟩), (120022, ⟨#[103]⟩), (120023, ⟨#[104]⟩)]
noncomputable def b3_18 : List Pair := [(120024, ⟨#[105]⟩), (120025, ⟨#[106]⟩), (120026, ⟨#[107]⟩), (120027, ⟨#[108]⟩), (120028, ⟨#[109]⟩), (120029, ⟨#[110]⟩), (120030, ⟨#[111]⟩), (120031, ⟨#[112]⟩), (120032, ⟨#[113]⟩), (120033, ⟨#[114]⟩), (120034, ⟨#[115]⟩), (120035, ⟨#[116]⟩), (120036, ⟨#[117]⟩), (120037, ⟨#[118]⟩), (120038, ⟨#[119]⟩), (120039, ⟨#[120]⟩), (120040, ⟨#[121]⟩)]
noncomputable def b3_19 : List Pair := [(120041, ⟨#[122]⟩), (120068, ⟨#[97]⟩), (120069, ⟨#[98]⟩), (120071, ⟨#[100]⟩), (120072, ⟨#[101]⟩), (120073, ⟨#[102]⟩), (120074, ⟨#[103]⟩), (120077, ⟨#[106]⟩), (120078, ⟨#[107]⟩), (120079, ⟨#[108]⟩), (120080, ⟨#[109]⟩), (120081, ⟨#[110]⟩), (120082, ⟨#[111]⟩), (120083, ⟨#[112]⟩), (120084, ⟨#[113]⟩), (120086, ⟨#[115]⟩), (120087, ⟨#[116]⟩)]
noncomputable def b3_20 : List Pair := [(120088, ⟨#[117]⟩), (120089, ⟨#[118]⟩), (120090, ⟨#[119]⟩), (120091, ⟨#[120]⟩), (120092, ⟨#[121]⟩), (120120, ⟨#[97]⟩), (120121, ⟨#[98]⟩), (120123, ⟨#[100]⟩), (120124, ⟨#[101]⟩), (120125, ⟨#[102]⟩), (120126, ⟨#[103]⟩), (120128, ⟨#[105]⟩), (120129, ⟨#[106]⟩), (120130, ⟨#[107]⟩), (120131, ⟨#[108]⟩), (120132, ⟨#[109]⟩), (120134, ⟨#[111]⟩)]
noncomputable def b3_21 : List Pair := [(120138, ⟨#[115]⟩), (120139, ⟨#[116]⟩), (120140, ⟨#[117]⟩), (120141, ⟨#[118]⟩), (120142, ⟨#[119]⟩), (120143, ⟨#[120]⟩), (120144, ⟨#[121]⟩), (120172, ⟨#[97]⟩), (120173, ⟨#[98]⟩), (120174, ⟨#[99]⟩), (120175, ⟨#[100]⟩), (120176, ⟨#[101]⟩), (120177, ⟨#[102]⟩), (120178, ⟨#[103]⟩), (120179, ⟨#[104]⟩), (120180, ⟨#[105]⟩), (120181, ⟨#[106]⟩)]
noncomputable def b3_22 : List Pair := [(120182, ⟨#[107]⟩), (120183, ⟨#[108]⟩), (120184, ⟨#[109]⟩), (120185, ⟨#[110]⟩), (120186, ⟨#[111]⟩), (120187, ⟨#[112]⟩), (120188, ⟨#[113]⟩), (120189, ⟨#[114]⟩), (120190, ⟨#[115]⟩), (120191, ⟨#[116]⟩), (120192, ⟨#[117]⟩), (120193, ⟨#[118]⟩), (120194, ⟨#[119]⟩), (120195, ⟨#[120]⟩), (120196, ⟨#[121]⟩), (120197, ⟨#[122]⟩), (120224, ⟨#[97]⟩)]
noncomputable def b3_23 : List Pair := [(120225, ⟨#[98]⟩), (120226, ⟨#[99]⟩), (120227, ⟨#[100]⟩), (120228, ⟨#[101]⟩), (120229, ⟨#[102]⟩), (120230, ⟨#[103]⟩), (120231, ⟨#[104]⟩), (120232, ⟨#[105]⟩), (120233, ⟨#[106]⟩), (120234, ⟨#[107]⟩), (120235, ⟨#[108]⟩), (120236, ⟨#[109]⟩), (120237, ⟨#[110]⟩), (120238, ⟨#[111]⟩), (120239, ⟨#[112]⟩), (120240, ⟨#[113]⟩), (120241, ⟨#[114]⟩)]
noncomputable def b3_24 : List Pair := [(120242, ⟨#[115]⟩), (120243, ⟨#[116]⟩), (120244, ⟨#[117]⟩), (120245, ⟨#[118]⟩), (120246, ⟨#[119]⟩), (120247, ⟨#[120]⟩), (120248, ⟨#[121]⟩), (120249, ⟨#[122]⟩), (120276, ⟨#[97]⟩), (120277, ⟨#[98]⟩), (120278, ⟨#[99]⟩), (120279, ⟨#[100]⟩), (120280, ⟨#[101]⟩), (120281, ⟨#[102]⟩), (120282, ⟨#[103]⟩), (120283, ⟨#[104]⟩), (120284, ⟨#[105]⟩)]
noncomputable def b3_25 : List Pair := [(120285, ⟨#[106]⟩), (120286, ⟨#[107]⟩), (120287, ⟨#[108]⟩), (120288, ⟨#[109]⟩), (120289, ⟨#[110]⟩), (120290, ⟨#[111]⟩), (120291, ⟨#[112]⟩), (120292, ⟨#[113]⟩), (120293, ⟨#[114]⟩), (120294, ⟨#[115]⟩), (120295, ⟨#[116]⟩), (120296, ⟨#[117]⟩), (120297, ⟨#[118]⟩), (120298, ⟨#[119]⟩), (120299, ⟨#[120]⟩), (120300, ⟨#[121]⟩), (120301, ⟨#[122]⟩)]
noncomputable def b3_26 : List Pair := [(120328, ⟨#[97]⟩), (120329, ⟨#[98]⟩), (120330, ⟨#[99]⟩), (120331, ⟨#[100]⟩), (120332, ⟨#[101]⟩), (120333, ⟨#[102]⟩), (120334, ⟨#[103]⟩), (120335, ⟨#[104]⟩), (120336, ⟨#[105]⟩), (120337, ⟨#[106]⟩), (120338, ⟨#[107]⟩), (120339, ⟨#[108]⟩), (120340, ⟨#[109]⟩), (120341, ⟨#[110]⟩), (120342, ⟨#[111]⟩), (120343, ⟨#[112]⟩), (120344, ⟨#[113]⟩)]
noncomputable def b3_27 : List Pair := [(120345, ⟨#[114]⟩), (120346, ⟨#[115]⟩), (120347, ⟨#[116]⟩), (120348, ⟨#[117]⟩), (120349, ⟨#[118]⟩), (120350, ⟨#[119]⟩), (120351, ⟨#[120]⟩), (120352, ⟨#[121]⟩), (120353, ⟨#[122]⟩), (120380, ⟨#[97]⟩), (120381, ⟨#[98]⟩), (120382, ⟨#[99]⟩), (120383, ⟨#[100]⟩), (120384, ⟨#[101]⟩), (120385, ⟨#[102]⟩), (120386, ⟨#[103]⟩), (120387, ⟨#[104]⟩)]
noncomputable def b3_28 : List Pair := [(120388, ⟨#[105]⟩), (120389, ⟨#[106]⟩), (120390, ⟨#[107]⟩), (120391, ⟨#[108]⟩), (120392, ⟨#[109]⟩), (120393, ⟨#[110]⟩), (120394, ⟨#[111]⟩), (120395, ⟨#[112]⟩), (120396, ⟨#[113]⟩), (120397, ⟨#[114]⟩), (120398, ⟨#[115]⟩), (120399, ⟨#[116]⟩), (120400, ⟨#[117]⟩), (120401, ⟨#[118]⟩), (120402, ⟨#[119]⟩), (120403, ⟨#[120]⟩), (120404, ⟨#[121]⟩)]
noncomputable def b3_29 : List Pair := [(120405, ⟨#[122]⟩), (120432, ⟨#[97]⟩), (120433, ⟨#[98]⟩), (120434, ⟨#[99]⟩), (120435, ⟨#[100]⟩), (120436, ⟨#[101]⟩), (120437, ⟨#[102]⟩), (120438, ⟨#[103]⟩), (120439, ⟨#[104]⟩), (120440, ⟨#[105]⟩), (120441, ⟨#[106]⟩), (120442, ⟨#[107]⟩), (120443, ⟨#[108]⟩), (120444, ⟨#[109]⟩), (120445, ⟨#[110]⟩), (120446, ⟨#[111]⟩), (120447, ⟨#[112]⟩)]
noncomputable def b3_30 : List Pair := [(120448, ⟨#[113]⟩), (120449, ⟨#[114]⟩), (120450, ⟨#[115]⟩), (120451, ⟨#[116]⟩), (120452, ⟨#[117]⟩), (120453, ⟨#[118]⟩), (120454, ⟨#[119]⟩), (120455, ⟨#[120]⟩), (120456, ⟨#[121]⟩), (120457, ⟨#[122]⟩), (120488, ⟨#[945]⟩), (120489, ⟨#[946]⟩), (120490, ⟨#[947]⟩), (120491, ⟨#[948]⟩), (120492, ⟨#[949]⟩), (120493, ⟨#[950]⟩), (120494, ⟨#[951]⟩)]
noncomputable def b3_31 : List Pair := [(120495, ⟨#[952]⟩), (120496, ⟨#[953]⟩), (120497, ⟨#[954]⟩), (120498, ⟨#[955]⟩), (120499, ⟨#[956]⟩), (120500, ⟨#[957]⟩), (120501, ⟨#[958]⟩), (120502, ⟨#[959]⟩), (120503, ⟨#[960]⟩), (120504, ⟨#[961]⟩), (120505, ⟨#[952]⟩), (120506, ⟨#[963]⟩), (120507, ⟨#[964]⟩), (120508, ⟨#[965]⟩), (120509, ⟨#[966]⟩), (120510, ⟨#[967]⟩), (120511, ⟨#[968]⟩)]
noncomputable def b3_32 : List Pair := [(120512, ⟨#[969]⟩), (120531, ⟨#[963]⟩), (120546, ⟨#[945]⟩), (120547, ⟨#[946]⟩), (120548, ⟨#[947]⟩), (120549, ⟨#[948]⟩), (120550, ⟨#[949]⟩), (120551, ⟨#[950]⟩), (120552, ⟨#[951]⟩), (120553, ⟨#[952]⟩), (120554, ⟨#[953]⟩), (120555, ⟨#[954]⟩), (120556, ⟨#[955]⟩), (120557, ⟨#[956]⟩), (120558, ⟨#[957]⟩), (120559, ⟨#[958]⟩), (120560, ⟨#[959]⟩)]
noncomputable def b3_33 : List Pair := [(120561, ⟨#[960]⟩), (120562, ⟨#[961]⟩), (120563, ⟨#[952]⟩), (120564, ⟨#[963]⟩), (120565, ⟨#[964]⟩), (120566, ⟨#[965]⟩), (120567, ⟨#[966]⟩), (120568, ⟨#[967]⟩), (120569, ⟨#[968]⟩), (120570, ⟨#[969]⟩), (120589, ⟨#[963]⟩), (120604, ⟨#[945]⟩), (120605, ⟨#[946]⟩), (120606, ⟨#[947]⟩), (120607, ⟨#[948]⟩), (120608, ⟨#[949]⟩), (120609, ⟨#[950]⟩)]
noncomputable def b3_34 : List Pair := [(120610, ⟨#[951]⟩), (120611, ⟨#[952]⟩), (120612, ⟨#[953]⟩), (120613, ⟨#[954]⟩), (120614, ⟨#[955]⟩), (120615, ⟨#[956]⟩), (120616, ⟨#[957]⟩), (120617, ⟨#[958]⟩), (120618, ⟨#[959]⟩), (120619, ⟨#[960]⟩), (120620, ⟨#[961]⟩), (120621, ⟨#[952]⟩), (120622, ⟨#[963]⟩), (120623, ⟨#[964]⟩), (120624, ⟨#[965]⟩), (120625, ⟨#[966]⟩), (120626, ⟨#[967]⟩)]
noncomputable def b3_35 : List Pair := [(120627, ⟨#[968]⟩), (120628, ⟨#[969]⟩), (120647, ⟨#[963]⟩), (120662, ⟨#[945]⟩), (120663, ⟨#[946]⟩), (120664, ⟨#[947]⟩), (120665, ⟨#[948]⟩), (120666, ⟨#[949]⟩), (120667, ⟨#[950]⟩), (120668, ⟨#[951]⟩), (120669, ⟨#[952]⟩), (120670, ⟨#[953]⟩), (120671, ⟨#[954]⟩), (120672, ⟨#[955]⟩), (120673, ⟨#[956]⟩), (120674, ⟨#[957]⟩), (120675, ⟨#[958]⟩)]
noncomputable def b3_36 : List Pair := [(120676, ⟨#[959]⟩), (120677, ⟨#[960]⟩), (120678, ⟨#[961]⟩), (120679, ⟨#[952]⟩), (120680, ⟨#[963]⟩), (120681, ⟨#[964]⟩), (120682, ⟨#[965]⟩), (120683, ⟨#[966]⟩), (120684, ⟨#[967]⟩), (120685, ⟨#[968]⟩), (120686, ⟨#[969]⟩), (120705, ⟨#[963]⟩), (120720, ⟨#[945]⟩), (120721, ⟨#[946]⟩), (120722, ⟨#[947]⟩), (120723, ⟨#[948]⟩), (120724, ⟨#[949]⟩)]
noncomputable def b3_37 : List Pair := [(120725, ⟨#[950]⟩), (120726, ⟨#[951]⟩), (120727, ⟨#[952]⟩), (120728, ⟨#[953]⟩), (120729, ⟨#[954]⟩), (120730, ⟨#[955]⟩), (120731, ⟨#[956]⟩), (120732, ⟨#[957]⟩), (120733, ⟨#[958]⟩), (120734, ⟨#[959]⟩), (120735, ⟨#[960]⟩), (120736, ⟨#[961]⟩), (120737, ⟨#[952]⟩), (120738, ⟨#[963]⟩), (120739, ⟨#[964]⟩), (120740, ⟨#[965]⟩), (120741, ⟨#[966]⟩)]
noncomputable def b3_38 : List Pair := [(120742, ⟨#[967]⟩), (120743, ⟨#[968]⟩), (120744, ⟨#[969]⟩), (120763, ⟨#[963]⟩)]
noncomputable def b3gs : List (List Pair) := [b3_1, b3_2, b3_3, b3_4, b3_5, b3_6, b3_7, b3_8, b3_9, b3_10, b3_11, b3_12, b3_13, b3_14, b3_15, b3_16, b3_17, b3_18, b3_19, b3_20, b3_21, b3_22, b3_23, b3_24, b3_25, b3_26, b3_27, b3_28, b3_29, b3_30, b3_31, b3_32, b3_33, b3_34, b3_35, b3_36, b3_37]
noncomputable def b3last : List Pair := b3_38
noncomputable def b3E : List DictEntry := ents 256 (b3_0 :: b3gs).flatten ++ entsS (256 + 3 * (b3_0 :: b3gs).flatten.length) b3last
noncomputable def o3_3 (P : Params) : Obj := ⟨.type "dict", none, .dict #[⟨PySem.PyData.keyHash P ⟨#[95, 95, 110, 97, 109, 101, 95, 95]⟩, .str ⟨#[95, 95, 110, 97, 109, 101, 95, 95]⟩ 165, .str ⟨#[99, 112, 121, 51, 49, 51, 46, 115, 116, 114, 105, 110, 103, 112, 114, 101, 112]⟩ 187⟩, ⟨PySem.PyData.keyHash P ⟨#[95, 95, 100, 111, 99, 95, 95]⟩, .str ⟨#[95, 95, 100, 111, 99, 95, 95]⟩ 166, .none⟩, ⟨PySem.PyData.keyHash P ⟨#[95, 95, 112, 97, 99, 107, 97, 103, 101, 95, 95]⟩, .str ⟨#[95, 95, 112, 97, 99, 107, 97, 103, 101, 95, 95]⟩ 167, .none⟩, ⟨PySem.PyData.keyHash P ⟨#[95, 95, 108, 111, 97, 100, 101, 114, 95, 95]⟩, .str ⟨#[95, 95, 108, 111, 97, 100, 101, 114, 95, 95]⟩ 168, .builtin "__main__.__loader__#opaque"⟩, ⟨PySem.PyData.keyHash P ⟨#[95, 95, 115, 112, 101, 99, 95, 95]⟩, .str ⟨#[95, 95, 115, 112, 101, 99, 95, 95]⟩ 169, .none⟩, ⟨PySem.PyData.keyHash P ⟨#[95, 95, 97, 110, 110, 111, 116, 97, 116, 105, 111, 110, 115, 95, 95]⟩, .str ⟨#[95, 95, 97, 110, 110, 111, 116, 97, 116, 105, 111, 110, 115, 95, 95]⟩ 170, .ref 6⟩, ⟨PySem.PyData.keyHash P ⟨#[95, 95, 98, 117, 105, 108, 116, 105, 110, 115, 95, 95]⟩, .str ⟨#[95, 95, 98, 117, 105, 108, 116, 105, 110, 115, 95, 95]⟩ 171, .ref 4⟩, ⟨PySem.PyData.keyHash P ⟨#[95, 95, 102, 105, 108, 101, 95, 95]⟩, .str ⟨#[95, 95, 102, 105, 108, 101, 95, 95]⟩ 173, .str ⟨#[47, 99, 108, 97, 105, 109, 47, 99, 117, 116, 46, 112, 121]⟩ 172⟩, ⟨PySem.PyData.keyHash P ⟨#[95, 95, 99, 97, 99, 104, 101, 100, 95, 95]⟩, .str ⟨#[95, 95, 99, 97, 99, 104, 101, 100, 95, 95]⟩ 174, .none⟩, ⟨PySem.PyData.keyHash P ⟨#[98, 49, 95, 115, 101, 116]⟩, .str ⟨#[98, 49, 95, 115, 101, 116]⟩ 248, .ref 22⟩, ⟨PySem.PyData.keyHash P ⟨#[105, 110, 95, 116, 97, 98, 108, 101, 95, 98, 49]⟩, .str ⟨#[105, 110, 95, 116, 97, 98, 108, 101, 95, 98, 49]⟩ 255, .ref 32⟩, ⟨PySem.PyData.keyHash P ⟨#[98, 51, 95, 101, 120, 99, 101, 112, 116, 105, 111, 110, 115]⟩, .str ⟨#[98, 51, 95, 101, 120, 99, 101, 112, 116, 105, 111, 110, 115]⟩ 2206, .ref 33⟩] 12, #[]⟩
noncomputable def o33_0 (P : Params) : Obj := D b3E
noncomputable def o34_0 (P : Params) : Obj := D (ents 307 b3_1)
noncomputable def o35_0 (P : Params) : Obj := D (ents 358 b3_2)
noncomputable def o36_0 (P : Params) : Obj := D (ents 409 b3_3)
noncomputable def o37_0 (P : Params) : Obj := D (ents 460 b3_4)
noncomputable def o38_0 (P : Params) : Obj := D (ents 511 b3_5)
noncomputable def o39_0 (P : Params) : Obj := D (ents 562 b3_6)
noncomputable def o40_0 (P : Params) : Obj := D (ents 613 b3_7)
noncomputable def o41_0 (P : Params) : Obj := D (ents 664 b3_8)
noncomputable def o42_0 (P : Params) : Obj := D (ents 715 b3_9)
noncomputable def o43_0 (P : Params) : Obj := D (ents 766 b3_10)
noncomputable def o44_0 (P : Params) : Obj := D (ents 817 b3_11)
noncomputable def o45_0 (P : Params) : Obj := D (ents 868 b3_12)
noncomputable def o46_0 (P : Params) : Obj := D (ents 919 b3_13)
noncomputable def o47_0 (P : Params) : Obj := D (ents 970 b3_14)
noncomputable def o48_0 (P : Params) : Obj := D (ents 1021 b3_15)
noncomputable def o49_0 (P : Params) : Obj := D (ents 1072 b3_16)
noncomputable def o50_0 (P : Params) : Obj := D (ents 1123 b3_17)
noncomputable def o51_0 (P : Params) : Obj := D (ents 1174 b3_18)
noncomputable def o52_0 (P : Params) : Obj := D (ents 1225 b3_19)
noncomputable def o53_0 (P : Params) : Obj := D (ents 1276 b3_20)
noncomputable def o54_0 (P : Params) : Obj := D (ents 1327 b3_21)
noncomputable def o55_0 (P : Params) : Obj := D (ents 1378 b3_22)
noncomputable def o56_0 (P : Params) : Obj := D (ents 1429 b3_23)
noncomputable def o57_0 (P : Params) : Obj := D (ents 1480 b3_24)
noncomputable def o58_0 (P : Params) : Obj := D (ents 1531 b3_25)
noncomputable def o59_0 (P : Params) : Obj := D (ents 1582 b3_26)
noncomputable def o60_0 (P : Params) : Obj := D (ents 1633 b3_27)
noncomputable def o61_0 (P : Params) : Obj := D (ents 1684 b3_28)
noncomputable def o62_0 (P : Params) : Obj := D (ents 1735 b3_29)
noncomputable def o63_0 (P : Params) : Obj := D (ents 1786 b3_30)
noncomputable def o64_0 (P : Params) : Obj := D (ents 1837 b3_31)
noncomputable def o65_0 (P : Params) : Obj := D (ents 1888 b3_32)
noncomputable def o66_0 (P : Params) : Obj := D (ents 1939 b3_33)
noncomputable def o67_0 (P : Params) : Obj := D (ents 1990 b3_34)
noncomputable def o68_0 (P : Params) : Obj := D (ents 2041 b3_35)
noncomputable def o69_0 (P : Params) : Obj := D (ents 2092 b3_36)
noncomputable def o70_0 (P : Params) : Obj := D (ents 2143 b3_37)
noncomputable def o71_0 (P : Params) : Obj := D (entsS 2194 b3last)
noncomputable def T4 (P : Params) : BT := (.node (boot_o_0 P) (.node (boot_o_1 P) (.node (o3_3 P) (.node (boot_o_7 P) (.node (o15_0 P) (.node (o31_0 P) (.node (o63_0 P) .nil .nil) .nil) (.node (o47_0 P) .nil .nil)) (.node (o23_0 P) (.node (o39_0 P) (.node (o71_0 P) .nil .nil) .nil) (.node (o55_0 P) .nil .nil))) (.node (o11_0 P) (.node (o19_0 P) (.node (o35_0 P) (.node (o67_0 P) .nil .nil) .nil) (.node (o51_0 P) .nil .nil)) (.node (o27_0 P) (.node (o43_0 P) .nil .nil) (.node (o59_0 P) .nil .nil)))) (.node (boot_o_5 P) (.node (boot_o_9 P) (.node (o17_0 P) (.node (o33_0 P) (.node (o65_0 P) .nil .nil) .nil) (.node (o49_0 P) .nil .nil)) (.node (o25_0 P) (.node (o41_0 P) .nil .nil) (.node (o57_0 P) .nil .nil))) (.node (o13_0 P) (.node (o21_0 P) (.node (o37_0 P) (.node (o69_0 P) .nil .nil) .nil) (.node (o53_0 P) .nil .nil)) (.node (o29_0 P) (.node (o45_0 P) .nil .nil) (.node (o61_0 P) .nil .nil))))) (.node (boot_o_2 P) (.node (boot_o_4 P) (.node (boot_o_8 P) (.node (o16_0 P) (.node (o32_0 P) (.node (o64_0 P) .nil .nil) .nil) (.node (o48_0 P) .nil .nil)) (.node (o24_0 P) (.node (o40_0 P) .nil .nil) (.node (o56_0 P) .nil .nil))) (.node (o12_1 P) (.node (o20_0 P) (.node (o36_0 P) (.node (o68_0 P) .nil .nil) .nil) (.node (o52_0 P) .nil .nil)) (.node (o28_0 P) (.node (o44_0 P) .nil .nil) (.node (o60_0 P) .nil .nil)))) (.node (boot_o_6 P) (.node (boot_o_10 P) (.node (o18_0 P) (.node (o34_0 P) (.node (o66_0 P) .nil .nil) .nil) (.node (o50_0 P) .nil .nil)) (.node (o26_0 P) (.node (o42_0 P) .nil .nil) (.node (o58_0 P) .nil .nil))) (.node (o14_0 P) (.node (o22_0 P) (.node (o38_0 P) (.node (o70_0 P) .nil .nil) .nil) (.node (o54_0 P) .nil .nil)) (.node (o30_0 P) (.node (o46_0 P) .nil .nil) (.node (o62_0 P) .nil .nil))))))
noncomputable def S4 (w : World) (os : OsState) : SharedT := ⟨T4 w.params, 72, lf, #[], dr, 2207, os⟩
abbrev p4 : Pos := ⟨5, 0, 5, 13⟩
noncomputable def o3_4 (P : Params) : Obj := ⟨.type "dict", none, .dict #[⟨PySem.PyData.keyHash P ⟨#[95, 95, 110, 97, 109, 101, 95, 95]⟩, .str ⟨#[95, 95, 110, 97, 109, 101, 95, 95]⟩ 165, .str ⟨#[99, 112, 121, 51, 49, 51, 46, 115, 116, 114, 105, 110, 103, 112, 114, 101, 112]⟩ 187⟩, ⟨PySem.PyData.keyHash P ⟨#[95, 95, 100, 111, 99, 95, 95]⟩, .str ⟨#[95, 95, 100, 111, 99, 95, 95]⟩ 166, .none⟩, ⟨PySem.PyData.keyHash P ⟨#[95, 95, 112, 97, 99, 107, 97, 103, 101, 95, 95]⟩, .str ⟨#[95, 95, 112, 97, 99, 107, 97, 103, 101, 95, 95]⟩ 167, .none⟩, ⟨PySem.PyData.keyHash P ⟨#[95, 95, 108, 111, 97, 100, 101, 114, 95, 95]⟩, .str ⟨#[95, 95, 108, 111, 97, 100, 101, 114, 95, 95]⟩ 168, .builtin "__main__.__loader__#opaque"⟩, ⟨PySem.PyData.keyHash P ⟨#[95, 95, 115, 112, 101, 99, 95, 95]⟩, .str ⟨#[95, 95, 115, 112, 101, 99, 95, 95]⟩ 169, .none⟩, ⟨PySem.PyData.keyHash P ⟨#[95, 95, 97, 110, 110, 111, 116, 97, 116, 105, 111, 110, 115, 95, 95]⟩, .str ⟨#[95, 95, 97, 110, 110, 111, 116, 97, 116, 105, 111, 110, 115, 95, 95]⟩ 170, .ref 6⟩, ⟨PySem.PyData.keyHash P ⟨#[95, 95, 98, 117, 105, 108, 116, 105, 110, 115, 95, 95]⟩, .str ⟨#[95, 95, 98, 117, 105, 108, 116, 105, 110, 115, 95, 95]⟩ 171, .ref 4⟩, ⟨PySem.PyData.keyHash P ⟨#[95, 95, 102, 105, 108, 101, 95, 95]⟩, .str ⟨#[95, 95, 102, 105, 108, 101, 95, 95]⟩ 173, .str ⟨#[47, 99, 108, 97, 105, 109, 47, 99, 117, 116, 46, 112, 121]⟩ 172⟩, ⟨PySem.PyData.keyHash P ⟨#[95, 95, 99, 97, 99, 104, 101, 100, 95, 95]⟩, .str ⟨#[95, 95, 99, 97, 99, 104, 101, 100, 95, 95]⟩ 174, .none⟩, ⟨PySem.PyData.keyHash P ⟨#[98, 49, 95, 115, 101, 116]⟩, .str ⟨#[98, 49, 95, 115, 101, 116]⟩ 248, .ref 22⟩, ⟨PySem.PyData.keyHash P ⟨#[105, 110, 95, 116, 97, 98, 108, 101, 95, 98, 49]⟩, .str ⟨#[105, 110, 95, 116, 97, 98, 108, 101, 95, 98, 49]⟩ 255, .ref 32⟩, ⟨PySem.PyData.keyHash P ⟨#[98, 51, 95, 101, 120, 99, 101, 112, 116, 105, 111, 110, 115]⟩, .str ⟨#[98, 51, 95, 101, 120, 99, 101, 112, 116, 105, 111, 110, 115]⟩ 2206, .ref 33⟩, ⟨PySem.PyData.keyHash P ⟨#[109, 97, 112, 95, 116, 97, 98, 108, 101, 95, 98, 51]⟩, .str ⟨#[109, 97, 112, 95, 116, 97, 98, 108, 101, 95, 98, 51]⟩ 2214, .ref 78⟩] 13, #[]⟩
noncomputable def o12_2 (P : Params) : Obj := ⟨.none, none, .fields #[.int 3 0, .int 0 0, .ref 31, .int 6 0, .int 0 0, .ref 77], #[]⟩
noncomputable def o72_0 (P : Params) : Obj := ⟨.type "tuple", none, .seq #[] 0, #[]⟩
noncomputable def o73_0 (P : Params) : Obj := ⟨.none, none, .fields #[], #[]⟩
noncomputable def o74_0 (P : Params) : Obj := ⟨.type "tuple", none, .seq #[.str ⟨#[99, 111, 100, 101]⟩ 2210, .str ⟨#[114]⟩ 2211] 0, #[]⟩
noncomputable def o75_0 (P : Params) : Obj := ⟨.type "tuple", none, .seq #[] 0, #[]⟩
noncomputable def o76_0 (P : Params) : Obj := ⟨.none, none, .func { name := ⟨#[109, 97, 112, 95, 116, 97, 98, 108, 101, 95, 98, 51]⟩, qualname := ⟨#[109, 97, 112, 95, 116, 97, 98, 108, 101, 95, 98, 51]⟩, params := fParams st4, body := .stmts (fBody st4), scope := fScope st4, globals := 0, closure := [], defaults := .none, kwdefaults := .none, doc := .none, pyModule := .none, annotations := none, code := .none, closureTuple := .none, builtins := 0 }, #[]⟩
noncomputable def o77_0 (P : Params) : Obj := ⟨.type "code", none, .fields #[.str ⟨#[109, 97, 112, 95, 116, 97, 98, 108, 101, 95, 98, 51]⟩ 2207, .str ⟨#[109, 97, 112, 95, 116, 97, 98, 108, 101, 95, 98, 51]⟩ 2208, .str ⟨#[47, 99, 108, 97, 105, 109, 47, 99, 117, 116, 46, 112, 121]⟩ 2209, .int 6 0, .int 1 0, .int 0 0, .int 0 0, .int 3 0, .ref 72, .bool true, .int 181 0, .ref 73, .none, .ref 74, .ref 75, .ref 76, .int 2212 0, .int 6 0, .str ⟨#[47, 99, 108, 97, 105, 109, 47, 99, 117, 116, 46, 112, 121]⟩ 2213], #[]⟩
noncomputable def o78_0 (P : Params) : Obj := ⟨.type "function", none, .func { name := ⟨#[109, 97, 112, 95, 116, 97, 98, 108, 101, 95, 98, 51]⟩, qualname := ⟨#[109, 97, 112, 95, 116, 97, 98, 108, 101, 95, 98, 51]⟩, params := fParams st4, body := .stmts (fBody st4), scope := fScope st4, globals := 3, closure := [], defaults := .none, kwdefaults := .none, doc := .none, pyModule := .str ⟨#[99, 112, 121, 51, 49, 51, 46, 115, 116, 114, 105, 110, 103, 112, 114, 101, 112]⟩ 187, annotations := none, code := .ref 77, closureTuple := .none, builtins := 0 }, #[]⟩
noncomputable def T5 (P : Params) : BT := (.node (boot_o_0 P) (.node (boot_o_1 P) (.node (o3_4 P) (.node (boot_o_7 P) (.node (o15_0 P) (.node (o31_0 P) (.node (o63_0 P) .nil .nil) .nil) (.node (o47_0 P) .nil .nil)) (.node (o23_0 P) (.node (o39_0 P) (.node (o71_0 P) .nil .nil) .nil) (.node (o55_0 P) .nil .nil))) (.node (o11_0 P) (.node (o19_0 P) (.node (o35_0 P) (.node (o67_0 P) .nil .nil) .nil) (.node (o51_0 P) .nil .nil)) (.node (o27_0 P) (.node (o43_0 P) (.node (o75_0 P) .nil .nil) .nil) (.node (o59_0 P) .nil .nil)))) (.node (boot_o_5 P) (.node (boot_o_9 P) (.node (o17_0 P) (.node (o33_0 P) (.node (o65_0 P) .nil .nil) .nil) (.node (o49_0 P) .nil .nil)) (.node (o25_0 P) (.node (o41_0 P) (.node (o73_0 P) .nil .nil) .nil) (.node (o57_0 P) .nil .nil))) (.node (o13_0 P) (.node (o21_0 P) (.node (o37_0 P) (.node (o69_0 P) .nil .nil) .nil) (.node (o53_0 P) .nil .nil)) (.node (o29_0 P) (.node (o45_0 P) (.node (o77_0 P) .nil .nil) .nil) (.node (o61_0 P) .nil .nil))))) (.node (boot_o_2 P) (.node (boot_o_4 P) (.node (boot_o_8 P) (.node (o16_0 P) (.node (o32_0 P) (.node (o64_0 P) .nil .nil) .nil) (.node (o48_0 P) .nil .nil)) (.node (o24_0 P) (.node (o40_0 P) (.node (o72_0 P) .nil .nil) .nil) (.node (o56_0 P) .nil .nil))) (.node (o12_2 P) (.node (o20_0 P) (.node (o36_0 P) (.node (o68_0 P) .nil .nil) .nil) (.node (o52_0 P) .nil .nil)) (.node (o28_0 P) (.node (o44_0 P) (.node (o76_0 P) .nil .nil) .nil) (.node (o60_0 P) .nil .nil)))) (.node (boot_o_6 P) (.node (boot_o_10 P) (.node (o18_0 P) (.node (o34_0 P) (.node (o66_0 P) .nil .nil) .nil) (.node (o50_0 P) .nil .nil)) (.node (o26_0 P) (.node (o42_0 P) (.node (o74_0 P) .nil .nil) .nil) (.node (o58_0 P) .nil .nil))) (.node (o14_0 P) (.node (o22_0 P) (.node (o38_0 P) (.node (o70_0 P) .nil .nil) .nil) (.node (o54_0 P) .nil .nil)) (.node (o30_0 P) (.node (o46_0 P) (.node (o78_0 P) .nil .nil) .nil) (.node (o62_0 P) .nil .nil))))))
noncomputable def S5 (w : World) (os : OsState) : SharedT := ⟨T5 w.params, 79, lf, #[], dr, 2215, os⟩
abbrev p5 : Pos := ⟨6, 0, 10, 23⟩
noncomputable def o3_5 (P : Params) : Obj := ⟨.type "dict", none, .dict #[⟨PySem.PyData.keyHash P ⟨#[95, 95, 110, 97, 109, 101, 95, 95]⟩, .str ⟨#[95, 95, 110, 97, 109, 101, 95, 95]⟩ 165, .str ⟨#[99, 112, 121, 51, 49, 51, 46, 98, 105, 115, 101, 99, 116]⟩ 2215⟩, ⟨PySem.PyData.keyHash P ⟨#[95, 95, 100, 111, 99, 95, 95]⟩, .str ⟨#[95, 95, 100, 111, 99, 95, 95]⟩ 166, .none⟩, ⟨PySem.PyData.keyHash P ⟨#[95, 95, 112, 97, 99, 107, 97, 103, 101, 95, 95]⟩, .str ⟨#[95, 95, 112, 97, 99, 107, 97, 103, 101, 95, 95]⟩ 167, .none⟩, ⟨PySem.PyData.keyHash P ⟨#[95, 95, 108, 111, 97, 100, 101, 114, 95, 95]⟩, .str ⟨#[95, 95, 108, 111, 97, 100, 101, 114, 95, 95]⟩ 168, .builtin "__main__.__loader__#opaque"⟩, ⟨PySem.PyData.keyHash P ⟨#[95, 95, 115, 112, 101, 99, 95, 95]⟩, .str ⟨#[95, 95, 115, 112, 101, 99, 95, 95]⟩ 169, .none⟩, ⟨PySem.PyData.keyHash P ⟨#[95, 95, 97, 110, 110, 111, 116, 97, 116, 105, 111, 110, 115, 95, 95]⟩, .str ⟨#[95, 95, 97, 110, 110, 111, 116, 97, 116, 105, 111, 110, 115, 95, 95]⟩ 170, .ref 6⟩, ⟨PySem.PyData.keyHash P ⟨#[95, 95, 98, 117, 105, 108, 116, 105, 110, 115, 95, 95]⟩, .str ⟨#[95, 95, 98, 117, 105, 108, 116, 105, 110, 115, 95, 95]⟩ 171, .ref 4⟩, ⟨PySem.PyData.keyHash P ⟨#[95, 95, 102, 105, 108, 101, 95, 95]⟩, .str ⟨#[95, 95, 102, 105, 108, 101, 95, 95]⟩ 173, .str ⟨#[47, 99, 108, 97, 105, 109, 47, 99, 117, 116, 46, 112, 121]⟩ 172⟩, ⟨PySem.PyData.keyHash P ⟨#[95, 95, 99, 97, 99, 104, 101, 100, 95, 95]⟩, .str ⟨#[95, 95, 99, 97, 99, 104, 101, 100, 95, 95]⟩ 174, .none⟩, ⟨PySem.PyData.keyHash P ⟨#[98, 49, 95, 115, 101, 116]⟩, .str ⟨#[98, 49, 95, 115, 101, 116]⟩ 248, .ref 22⟩, ⟨PySem.PyData.keyHash P ⟨#[105, 110, 95, 116, 97, 98, 108, 101, 95, 98, 49]⟩, .str ⟨#[105, 110, 95, 116, 97, 98, 108, 101, 95, 98, 49]⟩ 255, .ref 32⟩, ⟨PySem.PyData.keyHash P ⟨#[98, 51, 95, 101, 120, 99, 101, 112, 116, 105, 111, 110, 115]⟩, .str ⟨#[98, 51, 95, 101, 120, 99, 101, 112, 116, 105, 111, 110, 115]⟩ 2206, .ref 33⟩, ⟨PySem.PyData.keyHash P ⟨#[109, 97, 112, 95, 116, 97, 98, 108, 101, 95, 98, 51]⟩, .str ⟨#[109, 97, 112, 95, 116, 97, 98, 108, 101, 95, 98, 51]⟩ 2214, .ref 78⟩] 13, #[]⟩
noncomputable def T6 (P : Params) : BT := (.node (boot_o_0 P) (.node (boot_o_1 P) (.node (o3_5 P) (.node (boot_o_7 P) (.node (o15_0 P) (.node (o31_0 P) (.node (o63_0 P) .nil .nil) .nil) (.node (o47_0 P) .nil .nil)) (.node (o23_0 P) (.node (o39_0 P) (.node (o71_0 P) .nil .nil) .nil) (.node (o55_0 P) .nil .nil))) (.node (o11_0 P) (.node (o19_0 P) (.node (o35_0 P) (.node (o67_0 P) .nil .nil) .nil) (.node (o51_0 P) .nil .nil)) (.node (o27_0 P) (.node (o43_0 P) (.node (o75_0 P) .nil .nil) .nil) (.node (o59_0 P) .nil .nil)))) (.node (boot_o_5 P) (.node (boot_o_9 P) (.node (o17_0 P) (.node (o33_0 P) (.node (o65_0 P) .nil .nil) .nil) (.node (o49_0 P) .nil .nil)) (.node (o25_0 P) (.node (o41_0 P) (.node (o73_0 P) .nil .nil) .nil) (.node (o57_0 P) .nil .nil))) (.node (o13_0 P) (.node (o21_0 P) (.node (o37_0 P) (.node (o69_0 P) .nil .nil) .nil) (.node (o53_0 P) .nil .nil)) (.node (o29_0 P) (.node (o45_0 P) (.node (o77_0 P) .nil .nil) .nil) (.node (o61_0 P) .nil .nil))))) (.node (boot_o_2 P) (.node (boot_o_4 P) (.node (boot_o_8 P) (.node (o16_0 P) (.node (o32_0 P) (.node (o64_0 P) .nil .nil) .nil) (.node (o48_0 P) .nil .nil)) (.node (o24_0 P) (.node (o40_0 P) (.node (o72_0 P) .nil .nil) .nil) (.node (o56_0 P) .nil .nil))) (.node (o12_2 P) (.node (o20_0 P) (.node (o36_0 P) (.node (o68_0 P) .nil .nil) .nil) (.node (o52_0 P) .nil .nil)) (.node (o28_0 P) (.node (o44_0 P) (.node (o76_0 P) .nil .nil) .nil) (.node (o60_0 P) .nil .nil)))) (.node (boot_o_6 P) (.node (boot_o_10 P) (.node (o18_0 P) (.node (o34_0 P) (.node (o66_0 P) .nil .nil) .nil) (.node (o50_0 P) .nil .nil)) (.node (o26_0 P) (.node (o42_0 P) (.node (o74_0 P) .nil .nil) .nil) (.node (o58_0 P) .nil .nil))) (.node (o14_0 P) (.node (o22_0 P) (.node (o38_0 P) (.node (o70_0 P) .nil .nil) .nil) (.node (o54_0 P) .nil .nil)) (.node (o30_0 P) (.node (o46_0 P) (.node (o78_0 P) .nil .nil) .nil) (.node (o62_0 P) .nil .nil))))))
noncomputable def S6 (w : World) (os : OsState) : SharedT := ⟨T6 w.params, 79, lf, #[], dr, 2217, os⟩
abbrev p6 : Pos := ⟨11, 0, 11, 8⟩
noncomputable def o3_6 (P : Params) : Obj := ⟨.type "dict", none, .dict #[⟨PySem.PyData.keyHash P ⟨#[95, 95, 110, 97, 109, 101, 95, 95]⟩, .str ⟨#[95, 95, 110, 97, 109, 101, 95, 95]⟩ 165, .str ⟨#[99, 112, 121, 51, 49, 51, 46, 98, 105, 115, 101, 99, 116]⟩ 2215⟩, ⟨PySem.PyData.keyHash P ⟨#[95, 95, 100, 111, 99, 95, 95]⟩, .str ⟨#[95, 95, 100, 111, 99, 95, 95]⟩ 166, .none⟩, ⟨PySem.PyData.keyHash P ⟨#[95, 95, 112, 97, 99, 107, 97, 103, 101, 95, 95]⟩, .str ⟨#[95, 95, 112, 97, 99, 107, 97, 103, 101, 95, 95]⟩ 167, .none⟩, ⟨PySem.PyData.keyHash P ⟨#[95, 95, 108, 111, 97, 100, 101, 114, 95, 95]⟩, .str ⟨#[95, 95, 108, 111, 97, 100, 101, 114, 95, 95]⟩ 168, .builtin "__main__.__loader__#opaque"⟩, ⟨PySem.PyData.keyHash P ⟨#[95, 95, 115, 112, 101, 99, 95, 95]⟩, .str ⟨#[95, 95, 115, 112, 101, 99, 95, 95]⟩ 169, .none⟩, ⟨PySem.PyData.keyHash P ⟨#[95, 95, 97, 110, 110, 111, 116, 97, 116, 105, 111, 110, 115, 95, 95]⟩, .str ⟨#[95, 95, 97, 110, 110, 111, 116, 97, 116, 105, 111, 110, 115, 95, 95]⟩ 170, .ref 6⟩, ⟨PySem.PyData.keyHash P ⟨#[95, 95, 98, 117, 105, 108, 116, 105, 110, 115, 95, 95]⟩, .str ⟨#[95, 95, 98, 117, 105, 108, 116, 105, 110, 115, 95, 95]⟩ 171, .ref 4⟩, ⟨PySem.PyData.keyHash P ⟨#[95, 95, 102, 105, 108, 101, 95, 95]⟩, .str ⟨#[95, 95, 102, 105, 108, 101, 95, 95]⟩ 173, .str ⟨#[47, 99, 108, 97, 105, 109, 47, 99, 117, 116, 46, 112, 121]⟩ 172⟩, ⟨PySem.PyData.keyHash P ⟨#[95, 95, 99, 97, 99, 104, 101, 100, 95, 95]⟩, .str ⟨#[95, 95, 99, 97, 99, 104, 101, 100, 95, 95]⟩ 174, .none⟩, ⟨PySem.PyData.keyHash P ⟨#[98, 49, 95, 115, 101, 116]⟩, .str ⟨#[98, 49, 95, 115, 101, 116]⟩ 248, .ref 22⟩, ⟨PySem.PyData.keyHash P ⟨#[105, 110, 95, 116, 97, 98, 108, 101, 95, 98, 49]⟩, .str ⟨#[105, 110, 95, 116, 97, 98, 108, 101, 95, 98, 49]⟩ 255, .ref 32⟩, ⟨PySem.PyData.keyHash P ⟨#[98, 51, 95, 101, 120, 99, 101, 112, 116, 105, 111, 110, 115]⟩, .str ⟨#[98, 51, 95, 101, 120, 99, 101, 112, 116, 105, 111, 110, 115]⟩ 2206, .ref 33⟩, ⟨PySem.PyData.keyHash P ⟨#[109, 97, 112, 95, 116, 97, 98, 108, 101, 95, 98, 51]⟩, .str ⟨#[109, 97, 112, 95, 116, 97, 98, 108, 101, 95, 98, 51]⟩ 2214, .ref 78⟩, ⟨PySem.PyData.keyHash P ⟨#[98, 105, 115, 101, 99, 116, 95, 114, 105, 103, 104, 116]⟩, .str ⟨#[98, 105, 115, 101, 99, 116, 95, 114, 105, 103, 104, 116]⟩ 2230, .ref 87⟩] 14, #[]⟩
noncomputable def o12_3 (P : Params) : Obj := ⟨.none, none, .fields #[.int 3 0, .int 0 0, .ref 31, .int 6 0, .int 0 0, .ref 77, .int 12 0, .int 0 0, .ref 86], #[]⟩
noncomputable def o79_0 (P : Params) : Obj := ⟨.type "tuple", none, .seq #[.int 0 2217, .none] 0, #[]⟩
noncomputable def o80_0 (P : Params) : Obj := ⟨.type "dict", none, .dict #[⟨PySem.PyData.keyHash P ⟨#[107, 101, 121]⟩, .str ⟨#[107, 101, 121]⟩ 2218, .none⟩] 1, #[]⟩
noncomputable def o81_0 (P : Params) : Obj := ⟨.type "tuple", none, .seq #[] 0, #[]⟩
noncomputable def o82_0 (P : Params) : Obj := ⟨.none, none, .fields #[], #[]⟩
noncomputable def o83_0 (P : Params) : Obj := ⟨.type "tuple", none, .seq #[.str ⟨#[97]⟩ 2222, .str ⟨#[120]⟩ 2223, .str ⟨#[108, 111]⟩ 2224, .str ⟨#[104, 105]⟩ 2225, .str ⟨#[107, 101, 121]⟩ 2226, .str ⟨#[109, 105, 100]⟩ 2227] 0, #[]⟩
noncomputable def o84_0 (P : Params) : Obj := ⟨.type "tuple", none, .seq #[] 0, #[]⟩
noncomputable def o85_0 (P : Params) : Obj := ⟨.none, none, .func { name := ⟨#[98, 105, 115, 101, 99, 116, 95, 114, 105, 103, 104, 116]⟩, qualname := ⟨#[98, 105, 115, 101, 99, 116, 95, 114, 105, 103, 104, 116]⟩, params := fParams st6, body := .stmts (fBody st6), scope := fScope st6, globals := 0, closure := [], defaults := .none, kwdefaults := .none, doc := .none, pyModule := .none, annotations := none, code := .none, closureTuple := .none, builtins := 0 }, #[]⟩
noncomputable def o86_0 (P : Params) : Obj := ⟨.type "code", none, .fields #[.str ⟨#[98, 105, 115, 101, 99, 116, 95, 114, 105, 103, 104, 116]⟩ 2219, .str ⟨#[98, 105, 115, 101, 99, 116, 95, 114, 105, 103, 104, 116]⟩ 2220, .str ⟨#[47, 99, 108, 97, 105, 109, 47, 99, 117, 116, 46, 112, 121]⟩ 2221, .int 12 0, .int 4 0, .int 0 0, .int 1 0, .int 3 0, .ref 81, .bool true, .int 181 0, .ref 82, .none, .ref 83, .ref 84, .ref 85, .int 2228 0, .int 12 0, .str ⟨#[47, 99, 108, 97, 105, 109, 47, 99, 117, 116, 46, 112, 121]⟩ 2229], #[]⟩
noncomputable def o87_0 (P : Params) : Obj := ⟨.type "function", none, .func { name := ⟨#[98, 105, 115, 101, 99, 116, 95, 114, 105, 103, 104, 116]⟩, qualname := ⟨#[98, 105, 115, 101, 99, 116, 95, 114, 105, 103, 104, 116]⟩, params := fParams st6, body := .stmts (fBody st6), scope := fScope st6, globals := 3, closure := [], defaults := .ref 79, kwdefaults := .ref 80, doc := .none, pyModule := .str ⟨#[99, 112, 121, 51, 49, 51, 46, 98, 105, 115, 101, 99, 116]⟩ 2215, annotations := none, code := .ref 86, closureTuple := .none, builtins := 0 }, #[]⟩
noncomputable def T7 (P : Params) : BT := (.node (boot_o_0 P) (.node (boot_o_1 P) (.node (o3_6 P) (.node (boot_o_7 P) (.node (o15_0 P) (.node (o31_0 P) (.node (o63_0 P) .nil .nil) .nil) (.node (o47_0 P) (.node (o79_0 P) .nil .nil) .nil)) (.node (o23_0 P) (.node (o39_0 P) (.node (o71_0 P) .nil .nil) .nil) (.node (o55_0 P) (.node (o87_0 P) .nil .nil) .nil))) (.node (o11_0 P) (.node (o19_0 P) (.node (o35_0 P) (.node (o67_0 P) .nil .nil) .nil) (.node (o51_0 P) (.node (o83_0 P) .nil .nil) .nil)) (.node (o27_0 P) (.node (o43_0 P) (.node (o75_0 P) .nil .nil) .nil) (.node (o59_0 P) .nil .nil)))) (.node (boot_o_5 P) (.node (boot_o_9 P) (.node (o17_0 P) (.node (o33_0 P) (.node (o65_0 P) .nil .nil) .nil) (.node (o49_0 P) (.node (o81_0 P) .nil .nil) .nil)) (.node (o25_0 P) (.node (o41_0 P) (.node (o73_0 P) .nil .nil) .nil) (.node (o57_0 P) .nil .nil))) (.node (o13_0 P) (.node (o21_0 P) (.node (o37_0 P) (.node (o69_0 P) .nil .nil) .nil) (.node (o53_0 P) (.node (o85_0 P) .nil .nil) .nil)) (.node (o29_0 P) (.node (o45_0 P) (.node (o77_0 P) .nil .nil) .nil) (.node (o61_0 P) .nil .nil))))) (.node (boot_o_2 P) (.node (boot_o_4 P) (.node (boot_o_8 P) (.node (o16_0 P) (.node (o32_0 P) (.node (o64_0 P) .nil .nil) .nil) (.node (o48_0 P) (.node (o80_0 P) .nil .nil) .nil)) (.node (o24_0 P) (.node (o40_0 P) (.node (o72_0 P) .nil .nil) .nil) (.node (o56_0 P) .nil .nil))) (.node (o12_3 P) (.node (o20_0 P) (.node (o36_0 P) (.node (o68_0 P) .nil .nil) .nil) (.node (o52_0 P) (.node (o84_0 P) .nil .nil) .nil)) (.node (o28_0 P) (.node (o44_0 P) (.node (o76_0 P) .nil .nil) .nil) (.node (o60_0 P) .nil .nil)))) (.node (boot_o_6 P) (.node (boot_o_10 P) (.node (o18_0 P) (.node (o34_0 P) (.node (o66_0 P) .nil .nil) .nil) (.node (o50_0 P) (.node (o82_0 P) .nil .nil) .nil)) (.node (o26_0 P) (.node (o42_0 P) (.node (o74_0 P) .nil .nil) .nil) (.node (o58_0 P) .nil .nil))) (.node (o14_0 P) (.node (o22_0 P) (.node (o38_0 P) (.node (o70_0 P) .nil .nil) .nil) (.node (o54_0 P) (.node (o86_0 P) .nil .nil) .nil)) (.node (o30_0 P) (.node (o46_0 P) (.node (o78_0 P) .nil .nil) .nil) (.node (o62_0 P) .nil .nil))))))
noncomputable def S7 (w : World) (os : OsState) : SharedT := ⟨T7 w.params, 88, lf, #[], dr, 2231, os⟩
abbrev p7 : Pos := ⟨12, 0, 31, 13⟩
noncomputable def o3_7 (P : Params) : Obj := ⟨.type "dict", none, .dict #[⟨PySem.PyData.keyHash P ⟨#[95, 95, 110, 97, 109, 101, 95, 95]⟩, .str ⟨#[95, 95, 110, 97, 109, 101, 95, 95]⟩ 165, .str ⟨#[99, 112, 121, 51, 49, 51, 46, 98, 105, 115, 101, 99, 116]⟩ 2215⟩, ⟨PySem.PyData.keyHash P ⟨#[95, 95, 100, 111, 99, 95, 95]⟩, .str ⟨#[95, 95, 100, 111, 99, 95, 95]⟩ 166, .none⟩, ⟨PySem.PyData.keyHash P ⟨#[95, 95, 112, 97, 99, 107, 97, 103, 101, 95, 95]⟩, .str ⟨#[95, 95, 112, 97, 99, 107, 97, 103, 101, 95, 95]⟩ 167, .none⟩, ⟨PySem.PyData.keyHash P ⟨#[95, 95, 108, 111, 97, 100, 101, 114, 95, 95]⟩, .str ⟨#[95, 95, 108, 111, 97, 100, 101, 114, 95, 95]⟩ 168, .builtin "__main__.__loader__#opaque"⟩, ⟨PySem.PyData.keyHash P ⟨#[95, 95, 115, 112, 101, 99, 95, 95]⟩, .str ⟨#[95, 95, 115, 112, 101, 99, 95, 95]⟩ 169, .none⟩, ⟨PySem.PyData.keyHash P ⟨#[95, 95, 97, 110, 110, 111, 116, 97, 116, 105, 111, 110, 115, 95, 95]⟩, .str ⟨#[95, 95, 97, 110, 110, 111, 116, 97, 116, 105, 111, 110, 115, 95, 95]⟩ 170, .ref 6⟩, ⟨PySem.PyData.keyHash P ⟨#[95, 95, 98, 117, 105, 108, 116, 105, 110, 115, 95, 95]⟩, .str ⟨#[95, 95, 98, 117, 105, 108, 116, 105, 110, 115, 95, 95]⟩ 171, .ref 4⟩, ⟨PySem.PyData.keyHash P ⟨#[95, 95, 102, 105, 108, 101, 95, 95]⟩, .str ⟨#[95, 95, 102, 105, 108, 101, 95, 95]⟩ 173, .str ⟨#[47, 99, 108, 97, 105, 109, 47, 99, 117, 116, 46, 112, 121]⟩ 172⟩, ⟨PySem.PyData.keyHash P ⟨#[95, 95, 99, 97, 99, 104, 101, 100, 95, 95]⟩, .str ⟨#[95, 95, 99, 97, 99, 104, 101, 100, 95, 95]⟩ 174, .none⟩, ⟨PySem.PyData.keyHash P ⟨#[98, 49, 95, 115, 101, 116]⟩, .str ⟨#[98, 49, 95, 115, 101, 116]⟩ 248, .ref 22⟩, ⟨PySem.PyData.keyHash P ⟨#[105, 110, 95, 116, 97, 98, 108, 101, 95, 98, 49]⟩, .str ⟨#[105, 110, 95, 116, 97, 98, 108, 101, 95, 98, 49]⟩ 255, .ref 32⟩, ⟨PySem.PyData.keyHash P ⟨#[98, 51, 95, 101, 120, 99, 101, 112, 116, 105, 111, 110, 115]⟩, .str ⟨#[98, 51, 95, 101, 120, 99, 101, 112, 116, 105, 111, 110, 115]⟩ 2206, .ref 33⟩, ⟨PySem.PyData.keyHash P ⟨#[109, 97, 112, 95, 116, 97, 98, 108, 101, 95, 98, 51]⟩, .str ⟨#[109, 97, 112, 95, 116, 97, 98, 108, 101, 95, 98, 51]⟩ 2214, .ref 78⟩, ⟨PySem.PyData.keyHash P ⟨#[98, 105, 115, 101, 99, 116, 95, 114, 105, 103, 104, 116]⟩, .str ⟨#[98, 105, 115, 101, 99, 116, 95, 114, 105, 103, 104, 116]⟩ 2230, .ref 87⟩, ⟨PySem.PyData.keyHash P ⟨#[98, 105, 115, 101, 99, 116, 95, 108, 101, 102, 116]⟩, .str ⟨#[98, 105, 115, 101, 99, 116, 95, 108, 101, 102, 116]⟩ 2244, .ref 96⟩] 15, #[]⟩
noncomputable def o12_4 (P : Params) : Obj := ⟨.none, none, .fields #[.int 3 0, .int 0 0, .ref 31, .int 6 0, .int 0 0, .ref 77, .int 12 0, .int 0 0, .ref 86, .int 32 0, .int 0 0, .ref 95], #[]⟩
noncomputable def o88_0 (P : Params) : Obj := ⟨.type "tuple", none, .seq #[.int 0 2231, .none] 0, #[]⟩
noncomputable def o89_0 (P : Params) : Obj := ⟨.type "dict", none, .dict #[⟨PySem.PyData.keyHash P ⟨#[107, 101, 121]⟩, .str ⟨#[107, 101, 121]⟩ 2232, .none⟩] 1, #[]⟩
noncomputable def o90_0 (P : Params) : Obj := ⟨.type "tuple", none, .seq #[] 0, #[]⟩
noncomputable def o91_0 (P : Params) : Obj := ⟨.none, none, .fields #[], #[]⟩
noncomputable def o92_0 (P : Params) : Obj := ⟨.type "tuple", none, .seq #[.str ⟨#[97]⟩ 2236, .str ⟨#[120]⟩ 2237, .str ⟨#[108, 111]⟩ 2238, .str ⟨#[104, 105]⟩ 2239, .str ⟨#[107, 101, 121]⟩ 2240, .str ⟨#[109, 105, 100]⟩ 2241] 0, #[]⟩
noncomputable def o93_0 (P : Params) : Obj := ⟨.type "tuple", none, .seq #[] 0, #[]⟩
noncomputable def o94_0 (P : Params) : Obj := ⟨.none, none, .func { name := ⟨#[98, 105, 115, 101, 99, 116, 95, 108, 101, 102, 116]⟩, qualname := ⟨#[98, 105, 115, 101, 99, 116, 95, 108, 101, 102, 116]⟩, params := fParams st7, body := .stmts (fBody st7), scope := fScope st7, globals := 0, closure := [], defaults := .none, kwdefaults := .none, doc := .none, pyModule := .none, annotations := none, code := .none, closureTuple := .none, builtins := 0 }, #[]⟩
noncomputable def o95_0 (P : Params) : Obj := ⟨.type "code", none, .fields #[.str ⟨#[98, 105, 115, 101, 99, 116, 95, 108, 101, 102, 116]⟩ 2233, .str ⟨#[98, 105, 115, 101, 99, 116, 95, 108, 101, 102, 116]⟩ 2234, .str ⟨#[47, 99, 108, 97, 105, 109, 47, 99, 117, 116, 46, 112, 121]⟩ 2235, .int 32 0, .int 4 0, .int 0 0, .int 1 0, .int 3 0, .ref 90, .bool true, .int 181 0, .ref 91, .none, .ref 92, .ref 93, .ref 94, .int 2242 0, .int 32 0, .str ⟨#[47, 99, 108, 97, 105, 109, 47, 99, 117, 116, 46, 112, 121]⟩ 2243], #[]⟩
noncomputable def o96_0 (P : Params) : Obj := ⟨.type "function", none, .func { name := ⟨#[98, 105, 115, 101, 99, 116, 95, 108, 101, 102, 116]⟩, qualname := ⟨#[98, 105, 115, 101, 99, 116, 95, 108, 101, 102, 116]⟩, params := fParams st7, body := .stmts (fBody st7), scope := fScope st7, globals := 3, closure := [], defaults := .ref 88, kwdefaults := .ref 89, doc := .none, pyModule := .str ⟨#[99, 112, 121, 51, 49, 51, 46, 98, 105, 115, 101, 99, 116]⟩ 2215, annotations := none, code := .ref 95, closureTuple := .none, builtins := 0 }, #[]⟩
noncomputable def T8 (P : Params) : BT := (.node (boot_o_0 P) (.node (boot_o_1 P) (.node (o3_7 P) (.node (boot_o_7 P) (.node (o15_0 P) (.node (o31_0 P) (.node (o63_0 P) .nil .nil) (.node (o95_0 P) .nil .nil)) (.node (o47_0 P) (.node (o79_0 P) .nil .nil) .nil)) (.node (o23_0 P) (.node (o39_0 P) (.node (o71_0 P) .nil .nil) .nil) (.node (o55_0 P) (.node (o87_0 P) .nil .nil) .nil))) (.node (o11_0 P) (.node (o19_0 P) (.node (o35_0 P) (.node (o67_0 P) .nil .nil) .nil) (.node (o51_0 P) (.node (o83_0 P) .nil .nil) .nil)) (.node (o27_0 P) (.node (o43_0 P) (.node (o75_0 P) .nil .nil) .nil) (.node (o59_0 P) (.node (o91_0 P) .nil .nil) .nil)))) (.node (boot_o_5 P) (.node (boot_o_9 P) (.node (o17_0 P) (.node (o33_0 P) (.node (o65_0 P) .nil .nil) .nil) (.node (o49_0 P) (.node (o81_0 P) .nil .nil) .nil)) (.node (o25_0 P) (.node (o41_0 P) (.node (o73_0 P) .nil .nil) .nil) (.node (o57_0 P) (.node (o89_0 P) .nil .nil) .nil))) (.node (o13_0 P) (.node (o21_0 P) (.node (o37_0 P) (.node (o69_0 P) .nil .nil) .nil) (.node (o53_0 P) (.node (o85_0 P) .nil .nil) .nil)) (.node (o29_0 P) (.node (o45_0 P) (.node (o77_0 P) .nil .nil) .nil) (.node (o61_0 P) (.node (o93_0 P) .nil .nil) .nil))))) (.node (boot_o_2 P) (.node (boot_o_4 P) (.node (boot_o_8 P) (.node (o16_0 P) (.node (o32_0 P) (.node (o64_0 P) .nil .nil) (.node (o96_0 P) .nil .nil)) (.node (o48_0 P) (.node (o80_0 P) .nil .nil) .nil)) (.node (o24_0 P) (.node (o40_0 P) (.node (o72_0 P) .nil .nil) .nil) (.node (o56_0 P) (.node (o88_0 P) .nil .nil) .nil))) (.node (o12_4 P) (.node (o20_0 P) (.node (o36_0 P) (.node (o68_0 P) .nil .nil) .nil) (.node (o52_0 P) (.node (o84_0 P) .nil .nil) .nil)) (.node (o28_0 P) (.node (o44_0 P) (.node (o76_0 P) .nil .nil) .nil) (.node (o60_0 P) (.node (o92_0 P) .nil .nil) .nil)))) (.node (boot_o_6 P) (.node (boot_o_10 P) (.node (o18_0 P) (.node (o34_0 P) (.node (o66_0 P) .nil .nil) .nil) (.node (o50_0 P) (.node (o82_0 P) .nil .nil) .nil)) (.node (o26_0 P) (.node (o42_0 P) (.node (o74_0 P) .nil .nil) .nil) (.node (o58_0 P) (.node (o90_0 P) .nil .nil) .nil))) (.node (o14_0 P) (.node (o22_0 P) (.node (o38_0 P) (.node (o70_0 P) .nil .nil) .nil) (.node (o54_0 P) (.node (o86_0 P) .nil .nil) .nil)) (.node (o30_0 P) (.node (o46_0 P) (.node (o78_0 P) .nil .nil) .nil) (.node (o62_0 P) (.node (o94_0 P) .nil .nil) .nil))))))
noncomputable def S8 (w : World) (os : OsState) : SharedT := ⟨T8 w.params, 97, lf, #[], dr, 2245, os⟩
abbrev p8 : Pos := ⟨32, 0, 51, 13⟩
noncomputable def o3_8 (P : Params) : Obj := ⟨.type "dict", none, .dict #[⟨PySem.PyData.keyHash P ⟨#[95, 95, 110, 97, 109, 101, 95, 95]⟩, .str ⟨#[95, 95, 110, 97, 109, 101, 95, 95]⟩ 165, .str ⟨#[99, 112, 121, 51, 49, 51, 46, 100, 111, 99, 116, 101, 115, 116]⟩ 2245⟩, ⟨PySem.PyData.keyHash P ⟨#[95, 95, 100, 111, 99, 95, 95]⟩, .str ⟨#[95, 95, 100, 111, 99, 95, 95]⟩ 166, .none⟩, ⟨PySem.PyData.keyHash P ⟨#[95, 95, 112, 97, 99, 107, 97, 103, 101, 95, 95]⟩, .str ⟨#[95, 95, 112, 97, 99, 107, 97, 103, 101, 95, 95]⟩ 167, .none⟩, ⟨PySem.PyData.keyHash P ⟨#[95, 95, 108, 111, 97, 100, 101, 114, 95, 95]⟩, .str ⟨#[95, 95, 108, 111, 97, 100, 101, 114, 95, 95]⟩ 168, .builtin "__main__.__loader__#opaque"⟩, ⟨PySem.PyData.keyHash P ⟨#[95, 95, 115, 112, 101, 99, 95, 95]⟩, .str ⟨#[95, 95, 115, 112, 101, 99, 95, 95]⟩ 169, .none⟩, ⟨PySem.PyData.keyHash P ⟨#[95, 95, 97, 110, 110, 111, 116, 97, 116, 105, 111, 110, 115, 95, 95]⟩, .str ⟨#[95, 95, 97, 110, 110, 111, 116, 97, 116, 105, 111, 110, 115, 95, 95]⟩ 170, .ref 6⟩, ⟨PySem.PyData.keyHash P ⟨#[95, 95, 98, 117, 105, 108, 116, 105, 110, 115, 95, 95]⟩, .str ⟨#[95, 95, 98, 117, 105, 108, 116, 105, 110, 115, 95, 95]⟩ 171, .ref 4⟩, ⟨PySem.PyData.keyHash P ⟨#[95, 95, 102, 105, 108, 101, 95, 95]⟩, .str ⟨#[95, 95, 102, 105, 108, 101, 95, 95]⟩ 173, .str ⟨#[47, 99, 108, 97, 105, 109, 47, 99, 117, 116, 46, 112, 121]⟩ 172⟩, ⟨PySem.PyData.keyHash P ⟨#[95, 95, 99, 97, 99, 104, 101, 100, 95, 95]⟩, .str ⟨#[95, 95, 99, 97, 99, 104, 101, 100, 95, 95]⟩ 174, .none⟩, ⟨PySem.PyData.keyHash P ⟨#[98, 49, 95, 115, 101, 116]⟩, .str ⟨#[98, 49, 95, 115, 101, 116]⟩ 248, .ref 22⟩, ⟨PySem.PyData.keyHash P ⟨#[105, 110, 95, 116, 97, 98, 108, 101, 95, 98, 49]⟩, .str ⟨#[105, 110, 95, 116, 97, 98, 108, 101, 95, 98, 49]⟩ 255, .ref 32⟩, ⟨PySem.PyData.keyHash P ⟨#[98, 51, 95, 101, 120, 99, 101, 112, 116, 105, 111, 110, 115]⟩, .str ⟨#[98, 51, 95, 101, 120, 99, 101, 112, 116, 105, 111, 110, 115]⟩ 2206, .ref 33⟩, ⟨PySem.PyData.keyHash P ⟨#[109, 97, 112, 95, 116, 97, 98, 108, 101, 95, 98, 51]⟩, .str ⟨#[109, 97, 112, 95, 116, 97, 98, 108, 101, 95, 98, 51]⟩ 2214, .ref 78⟩, ⟨PySem.PyData.keyHash P ⟨#[98, 105, 115, 101, 99, 116, 95, 114, 105, 103, 104, 116]⟩, .str ⟨#[98, 105, 115, 101, 99, 116, 95, 114, 105, 103, 104, 116]⟩ 2230, .ref 87⟩, ⟨PySem.PyData.keyHash P ⟨#[98, 105, 115, 101, 99, 116, 95, 108, 101, 102, 116]⟩, .str ⟨#[98, 105, 115, 101, 99, 116, 95, 108, 101, 102, 116]⟩ 2244, .ref 96⟩] 15, #[]⟩
noncomputable def T9 (P : Params) : BT := (.node (boot_o_0 P) (.node (boot_o_1 P) (.node (o3_8 P) (.node (boot_o_7 P) (.node (o15_0 P) (.node (o31_0 P) (.node (o63_0 P) .nil .nil) (.node (o95_0 P) .nil .nil)) (.node (o47_0 P) (.node (o79_0 P) .nil .nil) .nil)) (.node (o23_0 P) (.node (o39_0 P) (.node (o71_0 P) .nil .nil) .nil) (.node (o55_0 P) (.node (o87_0 P) .nil .nil) .nil))) (.node (o11_0 P) (.node (o19_0 P) (.node (o35_0 P) (.node (o67_0 P) .nil .nil) .nil) (.node (o51_0 P) (.node (o83_0 P) .nil .nil) .nil)) (.node (o27_0 P) (.node (o43_0 P) (.node (o75_0 P) .nil .nil) .nil) (.node (o59_0 P) (.node (o91_0 P) .nil .nil) .nil)))) (.node (boot_o_5 P) (.node (boot_o_9 P) (.node (o17_0 P) (.node (o33_0 P) (.node (o65_0 P) .nil .nil) .nil) (.node (o49_0 P) (.node (o81_0 P) .nil .nil) .nil)) (.node (o25_0 P) (.node (o41_0 P) (.node (o73_0 P) .nil .nil) .nil) (.node (o57_0 P) (.node (o89_0 P) .nil .nil) .nil))) (.node (o13_0 P) (.node (o21_0 P) (.node (o37_0 P) (.node (o69_0 P) .nil .nil) .nil) (.node (o53_0 P) (.node (o85_0 P) .nil .nil) .nil)) (.node (o29_0 P) (.node (o45_0 P) (.node (o77_0 P) .nil .nil) .nil) (.node (o61_0 P) (.node (o93_0 P) .nil .nil) .nil))))) (.node (boot_o_2 P) (.node (boot_o_4 P) (.node (boot_o_8 P) (.node (o16_0 P) (.node (o32_0 P) (.node (o64_0 P) .nil .nil) (.node (o96_0 P) .nil .nil)) (.node (o48_0 P) (.node (o80_0 P) .nil .nil) .nil)) (.node (o24_0 P) (.node (o40_0 P) (.node (o72_0 P) .nil .nil) .nil) (.node (o56_0 P) (.node (o88_0 P) .nil .nil) .nil))) (.node (o12_4 P) (.node (o20_0 P) (.node (o36_0 P) (.node (o68_0 P) .nil .nil) .nil) (.node (o52_0 P) (.node (o84_0 P) .nil .nil) .nil)) (.node (o28_0 P) (.node (o44_0 P) (.node (o76_0 P) .nil .nil) .nil) (.node (o60_0 P) (.node (o92_0 P) .nil .nil) .nil)))) (.node (boot_o_6 P) (.node (boot_o_10 P) (.node (o18_0 P) (.node (o34_0 P) (.node (o66_0 P) .nil .nil) .nil) (.node (o50_0 P) (.node (o82_0 P) .nil .nil) .nil)) (.node (o26_0 P) (.node (o42_0 P) (.node (o74_0 P) .nil .nil) .nil) (.node (o58_0 P) (.node (o90_0 P) .nil .nil) .nil))) (.node (o14_0 P) (.node (o22_0 P) (.node (o38_0 P) (.node (o70_0 P) .nil .nil) .nil) (.node (o54_0 P) (.node (o86_0 P) .nil .nil) .nil)) (.node (o30_0 P) (.node (o46_0 P) (.node (o78_0 P) .nil .nil) .nil) (.node (o62_0 P) (.node (o94_0 P) .nil .nil) .nil))))))
noncomputable def S9 (w : World) (os : OsState) : SharedT := ⟨T9 w.params, 97, lf, #[], dr, 2247, os⟩
abbrev p9 : Pos := ⟨52, 0, 52, 8⟩
noncomputable def o3_9 (P : Params) : Obj := ⟨.type "dict", none, .dict #[⟨PySem.PyData.keyHash P ⟨#[95, 95, 110, 97, 109, 101, 95, 95]⟩, .str ⟨#[95, 95, 110, 97, 109, 101, 95, 95]⟩ 165, .str ⟨#[99, 112, 121, 51, 49, 51, 46, 100, 111, 99, 116, 101, 115, 116]⟩ 2245⟩, ⟨PySem.PyData.keyHash P ⟨#[95, 95, 100, 111, 99, 95, 95]⟩, .str ⟨#[95, 95, 100, 111, 99, 95, 95]⟩ 166, .none⟩, ⟨PySem.PyData.keyHash P ⟨#[95, 95, 112, 97, 99, 107, 97, 103, 101, 95, 95]⟩, .str ⟨#[95, 95, 112, 97, 99, 107, 97, 103, 101, 95, 95]⟩ 167, .none⟩, ⟨PySem.PyData.keyHash P ⟨#[95, 95, 108, 111, 97, 100, 101, 114, 95, 95]⟩, .str ⟨#[95, 95, 108, 111, 97, 100, 101, 114, 95, 95]⟩ 168, .builtin "__main__.__loader__#opaque"⟩, ⟨PySem.PyData.keyHash P ⟨#[95, 95, 115, 112, 101, 99, 95, 95]⟩, .str ⟨#[95, 95, 115, 112, 101, 99, 95, 95]⟩ 169, .none⟩, ⟨PySem.PyData.keyHash P ⟨#[95, 95, 97, 110, 110, 111, 116, 97, 116, 105, 111, 110, 115, 95, 95]⟩, .str ⟨#[95, 95, 97, 110, 110, 111, 116, 97, 116, 105, 111, 110, 115, 95, 95]⟩ 170, .ref 6⟩, ⟨PySem.PyData.keyHash P ⟨#[95, 95, 98, 117, 105, 108, 116, 105, 110, 115, 95, 95]⟩, .str ⟨#[95, 95, 98, 117, 105, 108, 116, 105, 110, 115, 95, 95]⟩ 171, .ref 4⟩, ⟨PySem.PyData.keyHash P ⟨#[95, 95, 102, 105, 108, 101, 95, 95]⟩, .str ⟨#[95, 95, 102, 105, 108, 101, 95, 95]⟩ 173, .str ⟨#[47, 99, 108, 97, 105, 109, 47, 99, 117, 116, 46, 112, 121]⟩ 172⟩, ⟨PySem.PyData.keyHash P ⟨#[95, 95, 99, 97, 99, 104, 101, 100, 95, 95]⟩, .str ⟨#[95, 95, 99, 97, 99, 104, 101, 100, 95, 95]⟩ 174, .none⟩, ⟨PySem.PyData.keyHash P ⟨#[98, 49, 95, 115, 101, 116]⟩, .str ⟨#[98, 49, 95, 115, 101, 116]⟩ 248, .ref 22⟩, ⟨PySem.PyData.keyHash P ⟨#[105, 110, 95, 116, 97, 98, 108, 101, 95, 98, 49]⟩, .str ⟨#[105, 110, 95, 116, 97, 98, 108, 101, 95, 98, 49]⟩ 255, .ref 32⟩, ⟨PySem.PyData.keyHash P ⟨#[98, 51, 95, 101, 120, 99, 101, 112, 116, 105, 111, 110, 115]⟩, .str ⟨#[98, 51, 95, 101, 120, 99, 101, 112, 116, 105, 111, 110, 115]⟩ 2206, .ref 33⟩, ⟨PySem.PyData.keyHash P ⟨#[109, 97, 112, 95, 116, 97, 98, 108, 101, 95, 98, 51]⟩, .str ⟨#[109, 97, 112, 95, 116, 97, 98, 108, 101, 95, 98, 51]⟩ 2214, .ref 78⟩, ⟨PySem.PyData.keyHash P ⟨#[98, 105, 115, 101, 99, 116, 95, 114, 105, 103, 104, 116]⟩, .str ⟨#[98, 105, 115, 101, 99, 116, 95, 114, 105, 103, 104, 116]⟩ 2230, .ref 87⟩, ⟨PySem.PyData.keyHash P ⟨#[98, 105, 115, 101, 99, 116, 95, 108, 101, 102, 116]⟩, .str ⟨#[98, 105, 115, 101, 99, 116, 95, 108, 101, 102, 116]⟩ 2244, .ref 96⟩, ⟨PySem.PyData.keyHash P ⟨#[69, 76, 76, 73, 80, 83, 73, 83, 95, 77, 65, 82, 75, 69, 82]⟩, .str ⟨#[69, 76, 76, 73, 80, 83, 73, 83, 95, 77, 65, 82, 75, 69, 82]⟩ 2248, .str ⟨#[46, 46, 46]⟩ 2247⟩] 16, #[]⟩
noncomputable def T10 (P : Params) : BT := (.node (boot_o_0 P) (.node (boot_o_1 P) (.node (o3_9 P) (.node (boot_o_7 P) (.node (o15_0 P) (.node (o31_0 P) (.node (o63_0 P) .nil .nil) (.node (o95_0 P) .nil .nil)) (.node (o47_0 P) (.node (o79_0 P) .nil .nil) .nil)) (.node (o23_0 P) (.node (o39_0 P) (.node (o71_0 P) .nil .nil) .nil) (.node (o55_0 P) (.node (o87_0 P) .nil .nil) .nil))) (.node (o11_0 P) (.node (o19_0 P) (.node (o35_0 P) (.node (o67_0 P) .nil .nil) .nil) (.node (o51_0 P) (.node (o83_0 P) .nil .nil) .nil)) (.node (o27_0 P) (.node (o43_0 P) (.node (o75_0 P) .nil .nil) .nil) (.node (o59_0 P) (.node (o91_0 P) .nil .nil) .nil)))) (.node (boot_o_5 P) (.node (boot_o_9 P) (.node (o17_0 P) (.node (o33_0 P) (.node (o65_0 P) .nil .nil) .nil) (.node (o49_0 P) (.node (o81_0 P) .nil .nil) .nil)) (.node (o25_0 P) (.node (o41_0 P) (.node (o73_0 P) .nil .nil) .nil) (.node (o57_0 P) (.node (o89_0 P) .nil .nil) .nil))) (.node (o13_0 P) (.node (o21_0 P) (.node (o37_0 P) (.node (o69_0 P) .nil .nil) .nil) (.node (o53_0 P) (.node (o85_0 P) .nil .nil) .nil)) (.node (o29_0 P) (.node (o45_0 P) (.node (o77_0 P) .nil .nil) .nil) (.node (o61_0 P) (.node (o93_0 P) .nil .nil) .nil))))) (.node (boot_o_2 P) (.node (boot_o_4 P) (.node (boot_o_8 P) (.node (o16_0 P) (.node (o32_0 P) (.node (o64_0 P) .nil .nil) (.node (o96_0 P) .nil .nil)) (.node (o48_0 P) (.node (o80_0 P) .nil .nil) .nil)) (.node (o24_0 P) (.node (o40_0 P) (.node (o72_0 P) .nil .nil) .nil) (.node (o56_0 P) (.node (o88_0 P) .nil .nil) .nil))) (.node (o12_4 P) (.node (o20_0 P) (.node (o36_0 P) (.node (o68_0 P) .nil .nil) .nil) (.node (o52_0 P) (.node (o84_0 P) .nil .nil) .nil)) (.node (o28_0 P) (.node (o44_0 P) (.node (o76_0 P) .nil .nil) .nil) (.node (o60_0 P) (.node (o92_0 P) .nil .nil) .nil)))) (.node (boot_o_6 P) (.node (boot_o_10 P) (.node (o18_0 P) (.node (o34_0 P) (.node (o66_0 P) .nil .nil) .nil) (.node (o50_0 P) (.node (o82_0 P) .nil .nil) .nil)) (.node (o26_0 P) (.node (o42_0 P) (.node (o74_0 P) .nil .nil) .nil) (.node (o58_0 P) (.node (o90_0 P) .nil .nil) .nil))) (.node (o14_0 P) (.node (o22_0 P) (.node (o38_0 P) (.node (o70_0 P) .nil .nil) .nil) (.node (o54_0 P) (.node (o86_0 P) .nil .nil) .nil)) (.node (o30_0 P) (.node (o46_0 P) (.node (o78_0 P) .nil .nil) .nil) (.node (o62_0 P) (.node (o94_0 P) .nil .nil) .nil))))))
noncomputable def S10 (w : World) (os : OsState) : SharedT := ⟨T10 w.params, 97, lf, #[], dr, 2249, os⟩
abbrev p10 : Pos := ⟨53, 0, 53, 15⟩
noncomputable def o3_10 (P : Params) : Obj := ⟨.type "dict", none, .dict #[⟨PySem.PyData.keyHash P ⟨#[95, 95, 110, 97, 109, 101, 95, 95]⟩, .str ⟨#[95, 95, 110, 97, 109, 101, 95, 95]⟩ 165, .str ⟨#[99, 112, 121, 51, 49, 51, 46, 100, 111, 99, 116, 101, 115, 116]⟩ 2245⟩, ⟨PySem.PyData.keyHash P ⟨#[95, 95, 100, 111, 99, 95, 95]⟩, .str ⟨#[95, 95, 100, 111, 99, 95, 95]⟩ 166, .none⟩, ⟨PySem.PyData.keyHash P ⟨#[95, 95, 112, 97, 99, 107, 97, 103, 101, 95, 95]⟩, .str ⟨#[95, 95, 112, 97, 99, 107, 97, 103, 101, 95, 95]⟩ 167, .none⟩, ⟨PySem.PyData.keyHash P ⟨#[95, 95, 108, 111, 97, 100, 101, 114, 95, 95]⟩, .str ⟨#[95, 95, 108, 111, 97, 100, 101, 114, 95, 95]⟩ 168, .builtin "__main__.__loader__#opaque"⟩, ⟨PySem.PyData.keyHash P ⟨#[95, 95, 115, 112, 101, 99, 95, 95]⟩, .str ⟨#[95, 95, 115, 112, 101, 99, 95, 95]⟩ 169, .none⟩, ⟨PySem.PyData.keyHash P ⟨#[95, 95, 97, 110, 110, 111, 116, 97, 116, 105, 111, 110, 115, 95, 95]⟩, .str ⟨#[95, 95, 97, 110, 110, 111, 116, 97, 116, 105, 111, 110, 115, 95, 95]⟩ 170, .ref 6⟩, ⟨PySem.PyData.keyHash P ⟨#[95, 95, 98, 117, 105, 108, 116, 105, 110, 115, 95, 95]⟩, .str ⟨#[95, 95, 98, 117, 105, 108, 116, 105, 110, 115, 95, 95]⟩ 171, .ref 4⟩, ⟨PySem.PyData.keyHash P ⟨#[95, 95, 102, 105, 108, 101, 95, 95]⟩, .str ⟨#[95, 95, 102, 105, 108, 101, 95, 95]⟩ 173, .str ⟨#[47, 99, 108, 97, 105, 109, 47, 99, 117, 116, 46, 112, 121]⟩ 172⟩, ⟨PySem.PyData.keyHash P ⟨#[95, 95, 99, 97, 99, 104, 101, 100, 95, 95]⟩, .str ⟨#[95, 95, 99, 97, 99, 104, 101, 100, 95, 95]⟩ 174, .none⟩, ⟨PySem.PyData.keyHash P ⟨#[98, 49, 95, 115, 101, 116]⟩, .str ⟨#[98, 49, 95, 115, 101, 116]⟩ 248, .ref 22⟩, ⟨PySem.PyData.keyHash P ⟨#[105, 110, 95, 116, 97, 98, 108, 101, 95, 98, 49]⟩, .str ⟨#[105, 110, 95, 116, 97, 98, 108, 101, 95, 98, 49]⟩ 255, .ref 32⟩, ⟨PySem.PyData.keyHash P ⟨#[98, 51, 95, 101, 120, 99, 101, 112, 116, 105, 111, 110, 115]⟩, .str ⟨#[98, 51, 95, 101, 120, 99, 101, 112, 116, 105, 111, 110, 115]⟩ 2206, .ref 33⟩, ⟨PySem.PyData.keyHash P ⟨#[109, 97, 112, 95, 116, 97, 98, 108, 101, 95, 98, 51]⟩, .str ⟨#[109, 97, 112, 95, 116, 97, 98, 108, 101, 95, 98, 51]⟩ 2214, .ref 78⟩, ⟨PySem.PyData.keyHash P ⟨#[98, 105, 115, 101, 99, 116, 95, 114, 105, 103, 104, 116]⟩, .str ⟨#[98, 105, 115, 101, 99, 116, 95, 114, 105, 103, 104, 116]⟩ 2230, .ref 87⟩, ⟨PySem.PyData.keyHash P ⟨#[98, 105, 115, 101, 99, 116, 95, 108, 101, 102, 116]⟩, .str ⟨#[98, 105, 115, 101, 99, 116, 95, 108, 101, 102, 116]⟩ 2244, .ref 96⟩, ⟨PySem.PyData.keyHash P ⟨#[69, 76, 76, 73, 80, 83, 73, 83, 95, 77, 65, 82, 75, 69, 82]⟩, .str ⟨#[69, 76, 76, 73, 80, 83, 73, 83, 95, 77, 65, 82, 75, 69, 82]⟩ 2248, .str ⟨#[46, 46, 46]⟩ 2247⟩, ⟨PySem.PyData.keyHash P ⟨#[95, 101, 108, 108, 105, 112, 115, 105, 115, 95, 109, 97, 116, 99, 104]⟩, .str ⟨#[95, 101, 108, 108, 105, 112, 115, 105, 115, 95, 109, 97, 116, 99, 104]⟩ 2260, .ref 103⟩] 17, #[]⟩
noncomputable def o12_5 (P : Params) : Obj := ⟨.none, none, .fields #[.int 3 0, .int 0 0, .ref 31, .int 6 0, .int 0 0, .ref 77, .int 12 0, .int 0 0, .ref 86, .int 32 0, .int 0 0, .ref 95, .int 54 0, .int 0 0, .ref 102], #[]⟩
noncomputable def o97_0 (P : Params) : Obj := ⟨.type "tuple", none, .seq #[] 0, #[]⟩
noncomputable def o98_0 (P : Params) : Obj := ⟨.none, none, .fields #[], #[]⟩
noncomputable def o99_0 (P : Params) : Obj := ⟨.type "tuple", none, .seq #[.str ⟨#[119, 97, 110, 116]⟩ 2252, .str ⟨#[103, 111, 116]⟩ 2253, .str ⟨#[119, 115]⟩ 2254, .str ⟨#[115, 116, 97, 114, 116, 112, 111, 115]⟩ 2255, .str ⟨#[101, 110, 100, 112, 111, 115]⟩ 2256, .str ⟨#[119]⟩ 2257] 0, #[]⟩
noncomputable def o100_0 (P : Params) : Obj := ⟨.type "tuple", none, .seq #[] 0, #[]⟩
noncomputable def o101_0 (P : Params) : Obj := ⟨.none, none, .func { name := ⟨#[95, 101, 108, 108, 105, 112, 115, 105, 115, 95, 109, 97, 116, 99, 104]⟩, qualname := ⟨#[95, 101, 108, 108, 105, 112, 115, 105, 115, 95, 109, 97, 116, 99, 104]⟩, params := fParams st10, body := .stmts (fBody st10), scope := fScope st10, globals := 0, closure := [], defaults := .none, kwdefaults := .none, doc := .none, pyModule := .none, annotations := none, code := .none, closureTuple := .none, builtins := 0 }, #[]⟩
noncomputable def o102_0 (P : Params) : Obj := ⟨.type "code", none, .fields #[.str ⟨#[95, 101, 108, 108, 105, 112, 115, 105, 115, 95, 109, 97, 116, 99, 104]⟩ 2249, .str ⟨#[95, 101, 108, 108, 105, 112, 115, 105, 115, 95, 109, 97, 116, 99, 104]⟩ 2250, .str ⟨#[47, 99, 108, 97, 105, 109, 47, 99, 117, 116, 46, 112, 121]⟩ 2251, .int 54 0, .int 2 0, .int 0 0, .int 0 0, .int 3 0, .ref 97, .bool true, .int 181 0, .ref 98, .none, .ref 99, .ref 100, .ref 101, .int 2258 0, .int 54 0, .str ⟨#[47, 99, 108, 97, 105, 109, 47, 99, 117, 116, 46, 112, 121]⟩ 2259], #[]⟩
noncomputable def o103_0 (P : Params) : Obj := ⟨.type "function", none, .func { name := ⟨#[95, 101, 108, 108, 105, 112, 115, 105, 115, 95, 109, 97, 116, 99, 104]⟩, qualname := ⟨#[95, 101, 108, 108, 105, 112, 115, 105, 115, 95, 109, 97, 116, 99, 104]⟩, params := fParams st10, body := .stmts (fBody st10), scope := fScope st10, globals := 3, closure := [], defaults := .none, kwdefaults := .none, doc := .none, pyModule := .str ⟨#[99, 112, 121, 51, 49, 51, 46, 100, 111, 99, 116, 101, 115, 116]⟩ 2245, annotations := none, code := .ref 102, closureTuple := .none, builtins := 0 }, #[]⟩
noncomputable def T11 (P : Params) : BT := (.node (boot_o_0 P) (.node (boot_o_1 P) (.node (o3_10 P) (.node (boot_o_7 P) (.node (o15_0 P) (.node (o31_0 P) (.node (o63_0 P) .nil .nil) (.node (o95_0 P) .nil .nil)) (.node (o47_0 P) (.node (o79_0 P) .nil .nil) .nil)) (.node (o23_0 P) (.node (o39_0 P) (.node (o71_0 P) .nil .nil) (.node (o103_0 P) .nil .nil)) (.node (o55_0 P) (.node (o87_0 P) .nil .nil) .nil))) (.node (o11_0 P) (.node (o19_0 P) (.node (o35_0 P) (.node (o67_0 P) .nil .nil) (.node (o99_0 P) .nil .nil)) (.node (o51_0 P) (.node (o83_0 P) .nil .nil) .nil)) (.node (o27_0 P) (.node (o43_0 P) (.node (o75_0 P) .nil .nil) .nil) (.node (o59_0 P) (.node (o91_0 P) .nil .nil) .nil)))) (.node (boot_o_5 P) (.node (boot_o_9 P) (.node (o17_0 P) (.node (o33_0 P) (.node (o65_0 P) .nil .nil) (.node (o97_0 P) .nil .nil)) (.node (o49_0 P) (.node (o81_0 P) .nil .nil) .nil)) (.node (o25_0 P) (.node (o41_0 P) (.node (o73_0 P) .nil .nil) .nil) (.node (o57_0 P) (.node (o89_0 P) .nil .nil) .nil))) (.node (o13_0 P) (.node (o21_0 P) (.node (o37_0 P) (.node (o69_0 P) .nil .nil) (.node (o101_0 P) .nil .nil)) (.node (o53_0 P) (.node (o85_0 P) .nil .nil) .nil)) (.node (o29_0 P) (.node (o45_0 P) (.node (o77_0 P) .nil .nil) .nil) (.node (o61_0 P) (.node (o93_0 P) .nil .nil) .nil))))) (.node (boot_o_2 P) (.node (boot_o_4 P) (.node (boot_o_8 P) (.node (o16_0 P) (.node (o32_0 P) (.node (o64_0 P) .nil .nil) (.node (o96_0 P) .nil .nil)) (.node (o48_0 P) (.node (o80_0 P) .nil .nil) .nil)) (.node (o24_0 P) (.node (o40_0 P) (.node (o72_0 P) .nil .nil) .nil) (.node (o56_0 P) (.node (o88_0 P) .nil .nil) .nil))) (.node (o12_5 P) (.node (o20_0 P) (.node (o36_0 P) (.node (o68_0 P) .nil .nil) (.node (o100_0 P) .nil .nil)) (.node (o52_0 P) (.node (o84_0 P) .nil .nil) .nil)) (.node (o28_0 P) (.node (o44_0 P) (.node (o76_0 P) .nil .nil) .nil) (.node (o60_0 P) (.node (o92_0 P) .nil .nil) .nil)))) (.node (boot_o_6 P) (.node (boot_o_10 P) (.node (o18_0 P) (.node (o34_0 P) (.node (o66_0 P) .nil .nil) (.node (o98_0 P) .nil .nil)) (.node (o50_0 P) (.node (o82_0 P) .nil .nil) .nil)) (.node (o26_0 P) (.node (o42_0 P) (.node (o74_0 P) .nil .nil) .nil) (.node (o58_0 P) (.node (o90_0 P) .nil .nil) .nil))) (.node (o14_0 P) (.node (o22_0 P) (.node (o38_0 P) (.node (o70_0 P) .nil .nil) (.node (o102_0 P) .nil .nil)) (.node (o54_0 P) (.node (o86_0 P) .nil .nil) .nil)) (.node (o30_0 P) (.node (o46_0 P) (.node (o78_0 P) .nil .nil) .nil) (.node (o62_0 P) (.node (o94_0 P) .nil .nil) .nil))))))
noncomputable def S11 (w : World) (os : OsState) : SharedT := ⟨T11 w.params, 104, lf, #[], dr, 2261, os⟩
abbrev p11 : Pos := ⟨54, 0, 81, 15⟩
noncomputable def o3_11 (P : Params) : Obj := ⟨.type "dict", none, .dict #[⟨PySem.PyData.keyHash P ⟨#[95, 95, 110, 97, 109, 101, 95, 95]⟩, .str ⟨#[95, 95, 110, 97, 109, 101, 95, 95]⟩ 165, .str ⟨#[108, 97, 119, 95, 114, 101, 48, 49, 53, 48, 95, 48, 50]⟩ 2261⟩, ⟨PySem.PyData.keyHash P ⟨#[95, 95, 100, 111, 99, 95, 95]⟩, .str ⟨#[95, 95, 100, 111, 99, 95, 95]⟩ 166, .none⟩, ⟨PySem.PyData.keyHash P ⟨#[95, 95, 112, 97, 99, 107, 97, 103, 101, 95, 95]⟩, .str ⟨#[95, 95, 112, 97, 99, 107, 97, 103, 101, 95, 95]⟩ 167, .none⟩, ⟨PySem.PyData.keyHash P ⟨#[95, 95, 108, 111, 97, 100, 101, 114, 95, 95]⟩, .str ⟨#[95, 95, 108, 111, 97, 100, 101, 114, 95, 95]⟩ 168, .builtin "__main__.__loader__#opaque"⟩, ⟨PySem.PyData.keyHash P ⟨#[95, 95, 115, 112, 101, 99, 95, 95]⟩, .str ⟨#[95, 95, 115, 112, 101, 99, 95, 95]⟩ 169, .none⟩, ⟨PySem.PyData.keyHash P ⟨#[95, 95, 97, 110, 110, 111, 116, 97, 116, 105, 111, 110, 115, 95, 95]⟩, .str ⟨#[95, 95, 97, 110, 110, 111, 116, 97, 116, 105, 111, 110, 115, 95, 95]⟩ 170, .ref 6⟩, ⟨PySem.PyData.keyHash P ⟨#[95, 95, 98, 117, 105, 108, 116, 105, 110, 115, 95, 95]⟩, .str ⟨#[95, 95, 98, 117, 105, 108, 116, 105, 110, 115, 95, 95]⟩ 171, .ref 4⟩, ⟨PySem.PyData.keyHash P ⟨#[95, 95, 102, 105, 108, 101, 95, 95]⟩, .str ⟨#[95, 95, 102, 105, 108, 101, 95, 95]⟩ 173, .str ⟨#[47, 99, 108, 97, 105, 109, 47, 99, 117, 116, 46, 112, 121]⟩ 172⟩, ⟨PySem.PyData.keyHash P ⟨#[95, 95, 99, 97, 99, 104, 101, 100, 95, 95]⟩, .str ⟨#[95, 95, 99, 97, 99, 104, 101, 100, 95, 95]⟩ 174, .none⟩, ⟨PySem.PyData.keyHash P ⟨#[98, 49, 95, 115, 101, 116]⟩, .str ⟨#[98, 49, 95, 115, 101, 116]⟩ 248, .ref 22⟩, ⟨PySem.PyData.keyHash P ⟨#[105, 110, 95, 116, 97, 98, 108, 101, 95, 98, 49]⟩, .str ⟨#[105, 110, 95, 116, 97, 98, 108, 101, 95, 98, 49]⟩ 255, .ref 32⟩, ⟨PySem.PyData.keyHash P ⟨#[98, 51, 95, 101, 120, 99, 101, 112, 116, 105, 111, 110, 115]⟩, .str ⟨#[98, 51, 95, 101, 120, 99, 101, 112, 116, 105, 111, 110, 115]⟩ 2206, .ref 33⟩, ⟨PySem.PyData.keyHash P ⟨#[109, 97, 112, 95, 116, 97, 98, 108, 101, 95, 98, 51]⟩, .str ⟨#[109, 97, 112, 95, 116, 97, 98, 108, 101, 95, 98, 51]⟩ 2214, .ref 78⟩, ⟨PySem.PyData.keyHash P ⟨#[98, 105, 115, 101, 99, 116, 95, 114, 105, 103, 104, 116]⟩, .str ⟨#[98, 105, 115, 101, 99, 116, 95, 114, 105, 103, 104, 116]⟩ 2230, .ref 87⟩, ⟨PySem.PyData.keyHash P ⟨#[98, 105, 115, 101, 99, 116, 95, 108, 101, 102, 116]⟩, .str ⟨#[98, 105, 115, 101, 99, 116, 95, 108, 101, 102, 116]⟩ 2244, .ref 96⟩, ⟨PySem.PyData.keyHash P ⟨#[69, 76, 76, 73, 80, 83, 73, 83, 95, 77, 65, 82, 75, 69, 82]⟩, .str ⟨#[69, 76, 76, 73, 80, 83, 73, 83, 95, 77, 65, 82, 75, 69, 82]⟩ 2248, .str ⟨#[46, 46, 46]⟩ 2247⟩, ⟨PySem.PyData.keyHash P ⟨#[95, 101, 108, 108, 105, 112, 115, 105, 115, 95, 109, 97, 116, 99, 104]⟩, .str ⟨#[95, 101, 108, 108, 105, 112, 115, 105, 115, 95, 109, 97, 116, 99, 104]⟩ 2260, .ref 103⟩] 17, #[]⟩
noncomputable def T12 (P : Params) : BT := (.node (boot_o_0 P) (.node (boot_o_1 P) (.node (o3_11 P) (.node (boot_o_7 P) (.node (o15_0 P) (.node (o31_0 P) (.node (o63_0 P) .nil .nil) (.node (o95_0 P) .nil .nil)) (.node (o47_0 P) (.node (o79_0 P) .nil .nil) .nil)) (.node (o23_0 P) (.node (o39_0 P) (.node (o71_0 P) .nil .nil) (.node (o103_0 P) .nil .nil)) (.node (o55_0 P) (.node (o87_0 P) .nil .nil) .nil))) (.node (o11_0 P) (.node (o19_0 P) (.node (o35_0 P) (.node (o67_0 P) .nil .nil) (.node (o99_0 P) .nil .nil)) (.node (o51_0 P) (.node (o83_0 P) .nil .nil) .nil)) (.node (o27_0 P) (.node (o43_0 P) (.node (o75_0 P) .nil .nil) .nil) (.node (o59_0 P) (.node (o91_0 P) .nil .nil) .nil)))) (.node (boot_o_5 P) (.node (boot_o_9 P) (.node (o17_0 P) (.node (o33_0 P) (.node (o65_0 P) .nil .nil) (.node (o97_0 P) .nil .nil)) (.node (o49_0 P) (.node (o81_0 P) .nil .nil) .nil)) (.node (o25_0 P) (.node (o41_0 P) (.node (o73_0 P) .nil .nil) .nil) (.node (o57_0 P) (.node (o89_0 P) .nil .nil) .nil))) (.node (o13_0 P) (.node (o21_0 P) (.node (o37_0 P) (.node (o69_0 P) .nil .nil) (.node (o101_0 P) .nil .nil)) (.node (o53_0 P) (.node (o85_0 P) .nil .nil) .nil)) (.node (o29_0 P) (.node (o45_0 P) (.node (o77_0 P) .nil .nil) .nil) (.node (o61_0 P) (.node (o93_0 P) .nil .nil) .nil))))) (.node (boot_o_2 P) (.node (boot_o_4 P) (.node (boot_o_8 P) (.node (o16_0 P) (.node (o32_0 P) (.node (o64_0 P) .nil .nil) (.node (o96_0 P) .nil .nil)) (.node (o48_0 P) (.node (o80_0 P) .nil .nil) .nil)) (.node (o24_0 P) (.node (o40_0 P) (.node (o72_0 P) .nil .nil) .nil) (.node (o56_0 P) (.node (o88_0 P) .nil .nil) .nil))) (.node (o12_5 P) (.node (o20_0 P) (.node (o36_0 P) (.node (o68_0 P) .nil .nil) (.node (o100_0 P) .nil .nil)) (.node (o52_0 P) (.node (o84_0 P) .nil .nil) .nil)) (.node (o28_0 P) (.node (o44_0 P) (.node (o76_0 P) .nil .nil) .nil) (.node (o60_0 P) (.node (o92_0 P) .nil .nil) .nil)))) (.node (boot_o_6 P) (.node (boot_o_10 P) (.node (o18_0 P) (.node (o34_0 P) (.node (o66_0 P) .nil .nil) (.node (o98_0 P) .nil .nil)) (.node (o50_0 P) (.node (o82_0 P) .nil .nil) .nil)) (.node (o26_0 P) (.node (o42_0 P) (.node (o74_0 P) .nil .nil) .nil) (.node (o58_0 P) (.node (o90_0 P) .nil .nil) .nil))) (.node (o14_0 P) (.node (o22_0 P) (.node (o38_0 P) (.node (o70_0 P) .nil .nil) (.node (o102_0 P) .nil .nil)) (.node (o54_0 P) (.node (o86_0 P) .nil .nil) .nil)) (.node (o30_0 P) (.node (o46_0 P) (.node (o78_0 P) .nil .nil) .nil) (.node (o62_0 P) (.node (o94_0 P) .nil .nil) .nil))))))
noncomputable def S12 (w : World) (os : OsState) : SharedT := ⟨T12 w.params, 104, lf, #[], dr, 2263, os⟩
abbrev p12 : Pos := ⟨82, 0, 82, 8⟩
noncomputable def o3_12 (P : Params) : Obj := ⟨.type "dict", none, .dict #[⟨PySem.PyData.keyHash P ⟨#[95, 95, 110, 97, 109, 101, 95, 95]⟩, .str ⟨#[95, 95, 110, 97, 109, 101, 95, 95]⟩ 165, .str ⟨#[108, 97, 119, 95, 114, 101, 48, 49, 53, 48, 95, 48, 50]⟩ 2261⟩, ⟨PySem.PyData.keyHash P ⟨#[95, 95, 100, 111, 99, 95, 95]⟩, .str ⟨#[95, 95, 100, 111, 99, 95, 95]⟩ 166, .none⟩, ⟨PySem.PyData.keyHash P ⟨#[95, 95, 112, 97, 99, 107, 97, 103, 101, 95, 95]⟩, .str ⟨#[95, 95, 112, 97, 99, 107, 97, 103, 101, 95, 95]⟩ 167, .none⟩, ⟨PySem.PyData.keyHash P ⟨#[95, 95, 108, 111, 97, 100, 101, 114, 95, 95]⟩, .str ⟨#[95, 95, 108, 111, 97, 100, 101, 114, 95, 95]⟩ 168, .builtin "__main__.__loader__#opaque"⟩, ⟨PySem.PyData.keyHash P ⟨#[95, 95, 115, 112, 101, 99, 95, 95]⟩, .str ⟨#[95, 95, 115, 112, 101, 99, 95, 95]⟩ 169, .none⟩, ⟨PySem.PyData.keyHash P ⟨#[95, 95, 97, 110, 110, 111, 116, 97, 116, 105, 111, 110, 115, 95, 95]⟩, .str ⟨#[95, 95, 97, 110, 110, 111, 116, 97, 116, 105, 111, 110, 115, 95, 95]⟩ 170, .ref 6⟩, ⟨PySem.PyData.keyHash P ⟨#[95, 95, 98, 117, 105, 108, 116, 105, 110, 115, 95, 95]⟩, .str ⟨#[95, 95, 98, 117, 105, 108, 116, 105, 110, 115, 95, 95]⟩ 171, .ref 4⟩, ⟨PySem.PyData.keyHash P ⟨#[95, 95, 102, 105, 108, 101, 95, 95]⟩, .str ⟨#[95, 95, 102, 105, 108, 101, 95, 95]⟩ 173, .str ⟨#[47, 99, 108, 97, 105, 109, 47, 99, 117, 116, 46, 112, 121]⟩ 172⟩, ⟨PySem.PyData.keyHash P ⟨#[95, 95, 99, 97, 99, 104, 101, 100, 95, 95]⟩, .str ⟨#[95, 95, 99, 97, 99, 104, 101, 100, 95, 95]⟩ 174, .none⟩, ⟨PySem.PyData.keyHash P ⟨#[98, 49, 95, 115, 101, 116]⟩, .str ⟨#[98, 49, 95, 115, 101, 116]⟩ 248, .ref 22⟩, ⟨PySem.PyData.keyHash P ⟨#[105, 110, 95, 116, 97, 98, 108, 101, 95, 98, 49]⟩, .str ⟨#[105, 110, 95, 116, 97, 98, 108, 101, 95, 98, 49]⟩ 255, .ref 32⟩, ⟨PySem.PyData.keyHash P ⟨#[98, 51, 95, 101, 120, 99, 101, 112, 116, 105, 111, 110, 115]⟩, .str ⟨#[98, 51, 95, 101, 120, 99, 101, 112, 116, 105, 111, 110, 115]⟩ 2206, .ref 33⟩, ⟨PySem.PyData.keyHash P ⟨#[109, 97, 112, 95, 116, 97, 98, 108, 101, 95, 98, 51]⟩, .str ⟨#[109, 97, 112, 95, 116, 97, 98, 108, 101, 95, 98, 51]⟩ 2214, .ref 78⟩, ⟨PySem.PyData.keyHash P ⟨#[98, 105, 115, 101, 99, 116, 95, 114, 105, 103, 104, 116]⟩, .str ⟨#[98, 105, 115, 101, 99, 116, 95, 114, 105, 103, 104, 116]⟩ 2230, .ref 87⟩, ⟨PySem.PyData.keyHash P ⟨#[98, 105, 115, 101, 99, 116, 95, 108, 101, 102, 116]⟩, .str ⟨#[98, 105, 115, 101, 99, 116, 95, 108, 101, 102, 116]⟩ 2244, .ref 96⟩, ⟨PySem.PyData.keyHash P ⟨#[69, 76, 76, 73, 80, 83, 73, 83, 95, 77, 65, 82, 75, 69, 82]⟩, .str ⟨#[69, 76, 76, 73, 80, 83, 73, 83, 95, 77, 65, 82, 75, 69, 82]⟩ 2248, .str ⟨#[46, 46, 46]⟩ 2247⟩, ⟨PySem.PyData.keyHash P ⟨#[95, 101, 108, 108, 105, 112, 115, 105, 115, 95, 109, 97, 116, 99, 104]⟩, .str ⟨#[95, 101, 108, 108, 105, 112, 115, 105, 115, 95, 109, 97, 116, 99, 104]⟩ 2260, .ref 103⟩, ⟨PySem.PyData.keyHash P ⟨#[95, 108, 97, 119, 95, 115, 105, 103, 110]⟩, .str ⟨#[95, 108, 97, 119, 95, 115, 105, 103, 110]⟩ 2270, .ref 110⟩] 18, #[]⟩
noncomputable def o12_6 (P : Params) : Obj := ⟨.none, none, .fields #[.int 3 0, .int 0 0, .ref 31, .int 6 0, .int 0 0, .ref 77, .int 12 0, .int 0 0, .ref 86, .int 32 0, .int 0 0, .ref 95, .int 54 0, .int 0 0, .ref 102, .int 83 0, .int 0 0, .ref 109], #[]⟩
noncomputable def o104_0 (P : Params) : Obj := ⟨.type "tuple", none, .seq #[] 0, #[]⟩
noncomputable def o105_0 (P : Params) : Obj := ⟨.none, none, .fields #[], #[]⟩
noncomputable def o106_0 (P : Params) : Obj := ⟨.type "tuple", none, .seq #[.str ⟨#[108, 101, 116, 116, 101, 114]⟩ 2266, .str ⟨#[102, 111, 114, 109]⟩ 2267] 0, #[]⟩
noncomputable def o107_0 (P : Params) : Obj := ⟨.type "tuple", none, .seq #[] 0, #[]⟩
noncomputable def o108_0 (P : Params) : Obj := ⟨.none, none, .func { name := ⟨#[95, 108, 97, 119, 95, 115, 105, 103, 110]⟩, qualname := ⟨#[95, 108, 97, 119, 95, 115, 105, 103, 110]⟩, params := fParams st12, body := .stmts (fBody st12), scope := fScope st12, globals := 0, closure := [], defaults := .none, kwdefaults := .none, doc := .none, pyModule := .none, annotations := none, code := .none, closureTuple := .none, builtins := 0 }, #[]⟩
noncomputable def o109_0 (P : Params) : Obj := ⟨.type "code", none, .fields #[.str ⟨#[95, 108, 97, 119, 95, 115, 105, 103, 110]⟩ 2263, .str ⟨#[95, 108, 97, 119, 95, 115, 105, 103, 110]⟩ 2264, .str ⟨#[47, 99, 108, 97, 105, 109, 47, 99, 117, 116, 46, 112, 121]⟩ 2265, .int 83 0, .int 2 0, .int 0 0, .int 0 0, .int 3 0, .ref 104, .bool true, .int 181 0, .ref 105, .none, .ref 106, .ref 107, .ref 108, .int 2268 0, .int 83 0, .str ⟨#[47, 99, 108, 97, 105, 109, 47, 99, 117, 116, 46, 112, 121]⟩ 2269], #[]⟩
noncomputable def o110_0 (P : Params) : Obj := ⟨.type "function", none, .func { name := ⟨#[95, 108, 97, 119, 95, 115, 105, 103, 110]⟩, qualname := ⟨#[95, 108, 97, 119, 95, 115, 105, 103, 110]⟩, params := fParams st12, body := .stmts (fBody st12), scope := fScope st12, globals := 3, closure := [], defaults := .none, kwdefaults := .none, doc := .none, pyModule := .str ⟨#[108, 97, 119, 95, 114, 101, 48, 49, 53, 48, 95, 48, 50]⟩ 2261, annotations := none, code := .ref 109, closureTuple := .none, builtins := 0 }, #[]⟩
noncomputable def T13 (P : Params) : BT := (.node (boot_o_0 P) (.node (boot_o_1 P) (.node (o3_12 P) (.node (boot_o_7 P) (.node (o15_0 P) (.node (o31_0 P) (.node (o63_0 P) .nil .nil) (.node (o95_0 P) .nil .nil)) (.node (o47_0 P) (.node (o79_0 P) .nil .nil) .nil)) (.node (o23_0 P) (.node (o39_0 P) (.node (o71_0 P) .nil .nil) (.node (o103_0 P) .nil .nil)) (.node (o55_0 P) (.node (o87_0 P) .nil .nil) .nil))) (.node (o11_0 P) (.node (o19_0 P) (.node (o35_0 P) (.node (o67_0 P) .nil .nil) (.node (o99_0 P) .nil .nil)) (.node (o51_0 P) (.node (o83_0 P) .nil .nil) .nil)) (.node (o27_0 P) (.node (o43_0 P) (.node (o75_0 P) .nil .nil) (.node (o107_0 P) .nil .nil)) (.node (o59_0 P) (.node (o91_0 P) .nil .nil) .nil)))) (.node (boot_o_5 P) (.node (boot_o_9 P) (.node (o17_0 P) (.node (o33_0 P) (.node (o65_0 P) .nil .nil) (.node (o97_0 P) .nil .nil)) (.node (o49_0 P) (.node (o81_0 P) .nil .nil) .nil)) (.node (o25_0 P) (.node (o41_0 P) (.node (o73_0 P) .nil .nil) (.node (o105_0 P) .nil .nil)) (.node (o57_0 P) (.node (o89_0 P) .nil .nil) .nil))) (.node (o13_0 P) (.node (o21_0 P) (.node (o37_0 P) (.node (o69_0 P) .nil .nil) (.node (o101_0 P) .nil .nil)) (.node (o53_0 P) (.node (o85_0 P) .nil .nil) .nil)) (.node (o29_0 P) (.node (o45_0 P) (.node (o77_0 P) .nil .nil) (.node (o109_0 P) .nil .nil)) (.node (o61_0 P) (.node (o93_0 P) .nil .nil) .nil))))) (.node (boot_o_2 P) (.node (boot_o_4 P) (.node (boot_o_8 P) (.node (o16_0 P) (.node (o32_0 P) (.node (o64_0 P) .nil .nil) (.node (o96_0 P) .nil .nil)) (.node (o48_0 P) (.node (o80_0 P) .nil .nil) .nil)) (.node (o24_0 P) (.node (o40_0 P) (.node (o72_0 P) .nil .nil) (.node (o104_0 P) .nil .nil)) (.node (o56_0 P) (.node (o88_0 P) .nil .nil) .nil))) (.node (o12_6 P) (.node (o20_0 P) (.node (o36_0 P) (.node (o68_0 P) .nil .nil) (.node (o100_0 P) .nil .nil)) (.node (o52_0 P) (.node (o84_0 P) .nil .nil) .nil)) (.node (o28_0 P) (.node (o44_0 P) (.node (o76_0 P) .nil .nil) (.node (o108_0 P) .nil .nil)) (.node (o60_0 P) (.node (o92_0 P) .nil .nil) .nil)))) (.node (boot_o_6 P) (.node (boot_o_10 P) (.node (o18_0 P) (.node (o34_0 P) (.node (o66_0 P) .nil .nil) (.node (o98_0 P) .nil .nil)) (.node (o50_0 P) (.node (o82_0 P) .nil .nil) .nil)) (.node (o26_0 P) (.node (o42_0 P) (.node (o74_0 P) .nil .nil) (.node (o106_0 P) .nil .nil)) (.node (o58_0 P) (.node (o90_0 P) .nil .nil) .nil))) (.node (o14_0 P) (.node (o22_0 P) (.node (o38_0 P) (.node (o70_0 P) .nil .nil) (.node (o102_0 P) .nil .nil)) (.node (o54_0 P) (.node (o86_0 P) .nil .nil) .nil)) (.node (o30_0 P) (.node (o46_0 P) (.node (o78_0 P) .nil .nil) (.node (o110_0 P) .nil .nil)) (.node (o62_0 P) (.node (o94_0 P) .nil .nil) .nil))))))
noncomputable def S13 (w : World) (os : OsState) : SharedT := ⟨T13 w.params, 111, lf, #[], dr, 2271, os⟩
abbrev p13 : Pos := ⟨83, 0, 88, 87⟩
noncomputable def o3_13 (P : Params) : Obj := ⟨.type "dict", none, .dict #[⟨PySem.PyData.keyHash P ⟨#[95, 95, 110, 97, 109, 101, 95, 95]⟩, .str ⟨#[95, 95, 110, 97, 109, 101, 95, 95]⟩ 165, .str ⟨#[108, 97, 119, 95, 114, 101, 48, 49, 53, 48, 95, 48, 50]⟩ 2261⟩, ⟨PySem.PyData.keyHash P ⟨#[95, 95, 100, 111, 99, 95, 95]⟩, .str ⟨#[95, 95, 100, 111, 99, 95, 95]⟩ 166, .none⟩, ⟨PySem.PyData.keyHash P ⟨#[95, 95, 112, 97, 99, 107, 97, 103, 101, 95, 95]⟩, .str ⟨#[95, 95, 112, 97, 99, 107, 97, 103, 101, 95, 95]⟩ 167, .none⟩, ⟨PySem.PyData.keyHash P ⟨#[95, 95, 108, 111, 97, 100, 101, 114, 95, 95]⟩, .str ⟨#[95, 95, 108, 111, 97, 100, 101, 114, 95, 95]⟩ 168, .builtin "__main__.__loader__#opaque"⟩, ⟨PySem.PyData.keyHash P ⟨#[95, 95, 115, 112, 101, 99, 95, 95]⟩, .str ⟨#[95, 95, 115, 112, 101, 99, 95, 95]⟩ 169, .none⟩, ⟨PySem.PyData.keyHash P ⟨#[95, 95, 97, 110, 110, 111, 116, 97, 116, 105, 111, 110, 115, 95, 95]⟩, .str ⟨#[95, 95, 97, 110, 110, 111, 116, 97, 116, 105, 111, 110, 115, 95, 95]⟩ 170, .ref 6⟩, ⟨PySem.PyData.keyHash P ⟨#[95, 95, 98, 117, 105, 108, 116, 105, 110, 115, 95, 95]⟩, .str ⟨#[95, 95, 98, 117, 105, 108, 116, 105, 110, 115, 95, 95]⟩ 171, .ref 4⟩, ⟨PySem.PyData.keyHash P ⟨#[95, 95, 102, 105, 108, 101, 95, 95]⟩, .str ⟨#[95, 95, 102, 105, 108, 101, 95, 95]⟩ 173, .str ⟨#[47, 99, 108, 97, 105, 109, 47, 99, 117, 116, 46, 112, 121]⟩ 172⟩, ⟨PySem.PyData.keyHash P ⟨#[95, 95, 99, 97, 99, 104, 101, 100, 95, 95]⟩, .str ⟨#[95, 95, 99, 97, 99, 104, 101, 100, 95, 95]⟩ 174, .none⟩, ⟨PySem.PyData.keyHash P ⟨#[98, 49, 95, 115, 101, 116]⟩, .str ⟨#[98, 49, 95, 115, 101, 116]⟩ 248, .ref 22⟩, ⟨PySem.PyData.keyHash P ⟨#[105, 110, 95, 116, 97, 98, 108, 101, 95, 98, 49]⟩, .str ⟨#[105, 110, 95, 116, 97, 98, 108, 101, 95, 98, 49]⟩ 255, .ref 32⟩, ⟨PySem.PyData.keyHash P ⟨#[98, 51, 95, 101, 120, 99, 101, 112, 116, 105, 111, 110, 115]⟩, .str ⟨#[98, 51, 95, 101, 120, 99, 101, 112, 116, 105, 111, 110, 115]⟩ 2206, .ref 33⟩, ⟨PySem.PyData.keyHash P ⟨#[109, 97, 112, 95, 116, 97, 98, 108, 101, 95, 98, 51]⟩, .str ⟨#[109, 97, 112, 95, 116, 97, 98, 108, 101, 95, 98, 51]⟩ 2214, .ref 78⟩, ⟨PySem.PyData.keyHash P ⟨#[98, 105, 115, 101, 99, 116, 95, 114, 105, 103, 104, 116]⟩, .str ⟨#[98, 105, 115, 101, 99, 116, 95, 114, 105, 103, 104, 116]⟩ 2230, .ref 87⟩, ⟨PySem.PyData.keyHash P ⟨#[98, 105, 115, 101, 99, 116, 95, 108, 101, 102, 116]⟩, .str ⟨#[98, 105, 115, 101, 99, 116, 95, 108, 101, 102, 116]⟩ 2244, .ref 96⟩, ⟨PySem.PyData.keyHash P ⟨#[69, 76, 76, 73, 80, 83, 73, 83, 95, 77, 65, 82, 75, 69, 82]⟩, .str ⟨#[69, 76, 76, 73, 80, 83, 73, 83, 95, 77, 65, 82, 75, 69, 82]⟩ 2248, .str ⟨#[46, 46, 46]⟩ 2247⟩, ⟨PySem.PyData.keyHash P ⟨#[95, 101, 108, 108, 105, 112, 115, 105, 115, 95, 109, 97, 116, 99, 104]⟩, .str ⟨#[95, 101, 108, 108, 105, 112, 115, 105, 115, 95, 109, 97, 116, 99, 104]⟩ 2260, .ref 103⟩, ⟨PySem.PyData.keyHash P ⟨#[95, 108, 97, 119, 95, 115, 105, 103, 110]⟩, .str ⟨#[95, 108, 97, 119, 95, 115, 105, 103, 110]⟩ 2270, .ref 110⟩, ⟨PySem.PyData.keyHash P ⟨#[95, 108, 97, 119, 95, 110, 111, 116, 104, 105, 110, 103]⟩, .str ⟨#[95, 108, 97, 119, 95, 110, 111, 116, 104, 105, 110, 103]⟩ 2277, .ref 117⟩] 19, #[]⟩
noncomputable def o12_7 (P : Params) : Obj := ⟨.none, none, .fields #[.int 3 0, .int 0 0, .ref 31, .int 6 0, .int 0 0, .ref 77, .int 12 0, .int 0 0, .ref 86, .int 32 0, .int 0 0, .ref 95, .int 54 0, .int 0 0, .ref 102, .int 83 0, .int 0 0, .ref 109, .int 89 0, .int 0 0, .ref 116], #[]⟩
noncomputable def o111_0 (P : Params) : Obj := ⟨.type "tuple", none, .seq #[] 0, #[]⟩
noncomputable def o112_0 (P : Params) : Obj := ⟨.none, none, .fields #[], #[]⟩
noncomputable def o113_0 (P : Params) : Obj := ⟨.type "tuple", none, .seq #[.str ⟨#[107]⟩ 2274] 0, #[]⟩
noncomputable def o114_0 (P : Params) : Obj := ⟨.type "tuple", none, .seq #[] 0, #[]⟩
noncomputable def o115_0 (P : Params) : Obj := ⟨.none, none, .func { name := ⟨#[95, 108, 97, 119, 95, 110, 111, 116, 104, 105, 110, 103]⟩, qualname := ⟨#[95, 108, 97, 119, 95, 110, 111, 116, 104, 105, 110, 103]⟩, params := fParams st13, body := .stmts (fBody st13), scope := fScope st13, globals := 0, closure := [], defaults := .none, kwdefaults := .none, doc := .none, pyModule := .none, annotations := none, code := .none, closureTuple := .none, builtins := 0 }, #[]⟩
noncomputable def o116_0 (P : Params) : Obj := ⟨.type "code", none, .fields #[.str ⟨#[95, 108, 97, 119, 95, 110, 111, 116, 104, 105, 110, 103]⟩ 2271, .str ⟨#[95, 108, 97, 119, 95, 110, 111, 116, 104, 105, 110, 103]⟩ 2272, .str ⟨#[47, 99, 108, 97, 105, 109, 47, 99, 117, 116, 46, 112, 121]⟩ 2273, .int 89 0, .int 1 0, .int 0 0, .int 0 0, .int 3 0, .ref 111, .bool true, .int 181 0, .ref 112, .none, .ref 113, .ref 114, .ref 115, .int 2275 0, .int 89 0, .str ⟨#[47, 99, 108, 97, 105, 109, 47, 99, 117, 116, 46, 112, 121]⟩ 2276], #[]⟩
noncomputable def o117_0 (P : Params) : Obj := ⟨.type "function", none, .func { name := ⟨#[95, 108, 97, 119, 95, 110, 111, 116, 104, 105, 110, 103]⟩, qualname := ⟨#[95, 108, 97, 119, 95, 110, 111, 116, 104, 105, 110, 103]⟩, params := fParams st13, body := .stmts (fBody st13), scope := fScope st13, globals := 3, closure := [], defaults := .none, kwdefaults := .none, doc := .none, pyModule := .str ⟨#[108, 97, 119, 95, 114, 101, 48, 49, 53, 48, 95, 48, 50]⟩ 2261, annotations := none, code := .ref 116, closureTuple := .none, builtins := 0 }, #[]⟩
noncomputable def T14 (P : Params) : BT := (.node (boot_o_0 P) (.node (boot_o_1 P) (.node (o3_13 P) (.node (boot_o_7 P) (.node (o15_0 P) (.node (o31_0 P) (.node (o63_0 P) .nil .nil) (.node (o95_0 P) .nil .nil)) (.node (o47_0 P) (.node (o79_0 P) .nil .nil) (.node (o111_0 P) .nil .nil))) (.node (o23_0 P) (.node (o39_0 P) (.node (o71_0 P) .nil .nil) (.node (o103_0 P) .nil .nil)) (.node (o55_0 P) (.node (o87_0 P) .nil .nil) .nil))) (.node (o11_0 P) (.node (o19_0 P) (.node (o35_0 P) (.node (o67_0 P) .nil .nil) (.node (o99_0 P) .nil .nil)) (.node (o51_0 P) (.node (o83_0 P) .nil .nil) (.node (o115_0 P) .nil .nil))) (.node (o27_0 P) (.node (o43_0 P) (.node (o75_0 P) .nil .nil) (.node (o107_0 P) .nil .nil)) (.node (o59_0 P) (.node (o91_0 P) .nil .nil) .nil)))) (.node (boot_o_5 P) (.node (boot_o_9 P) (.node (o17_0 P) (.node (o33_0 P) (.node (o65_0 P) .nil .nil) (.node (o97_0 P) .nil .nil)) (.node (o49_0 P) (.node (o81_0 P) .nil .nil) (.node (o113_0 P) .nil .nil))) (.node (o25_0 P) (.node (o41_0 P) (.node (o73_0 P) .nil .nil) (.node (o105_0 P) .nil .nil)) (.node (o57_0 P) (.node (o89_0 P) .nil .nil) .nil))) (.node (o13_0 P) (.node (o21_0 P) (.node (o37_0 P) (.node (o69_0 P) .nil .nil) (.node (o101_0 P) .nil .nil)) (.node (o53_0 P) (.node (o85_0 P) .nil .nil) (.node (o117_0 P) .nil .nil))) (.node (o29_0 P) (.node (o45_0 P) (.node (o77_0 P) .nil .nil) (.node (o109_0 P) .nil .nil)) (.node (o61_0 P) (.node (o93_0 P) .nil .nil) .nil))))) (.node (boot_o_2 P) (.node (boot_o_4 P) (.node (boot_o_8 P) (.node (o16_0 P) (.node (o32_0 P) (.node (o64_0 P) .nil .nil) (.node (o96_0 P) .nil .nil)) (.node (o48_0 P) (.node (o80_0 P) .nil .nil) (.node (o112_0 P) .nil .nil))) (.node (o24_0 P) (.node (o40_0 P) (.node (o72_0 P) .nil .nil) (.node (o104_0 P) .nil .nil)) (.node (o56_0 P) (.node (o88_0 P) .nil .nil) .nil))) (.node (o12_7 P) (.node (o20_0 P) (.node (o36_0 P) (.node (o68_0 P) .nil .nil) (.node (o100_0 P) .nil .nil)) (.node (o52_0 P) (.node (o84_0 P) .nil .nil) (.node (o116_0 P) .nil .nil))) (.node (o28_0 P) (.node (o44_0 P) (.node (o76_0 P) .nil .nil) (.node (o108_0 P) .nil .nil)) (.node (o60_0 P) (.node (o92_0 P) .nil .nil) .nil)))) (.node (boot_o_6 P) (.node (boot_o_10 P) (.node (o18_0 P) (.node (o34_0 P) (.node (o66_0 P) .nil .nil) (.node (o98_0 P) .nil .nil)) (.node (o50_0 P) (.node (o82_0 P) .nil .nil) (.node (o114_0 P) .nil .nil))) (.node (o26_0 P) (.node (o42_0 P) (.node (o74_0 P) .nil .nil) (.node (o106_0 P) .nil .nil)) (.node (o58_0 P) (.node (o90_0 P) .nil .nil) .nil))) (.node (o14_0 P) (.node (o22_0 P) (.node (o38_0 P) (.node (o70_0 P) .nil .nil) (.node (o102_0 P) .nil .nil)) (.node (o54_0 P) (.node (o86_0 P) .nil .nil) .nil)) (.node (o30_0 P) (.node (o46_0 P) (.node (o78_0 P) .nil .nil) (.node (o110_0 P) .nil .nil)) (.node (o62_0 P) (.node (o94_0 P) .nil .nil) .nil))))))
noncomputable def S14 (w : World) (os : OsState) : SharedT := ⟨T14 w.params, 118, lf, #[], dr, 2278, os⟩
abbrev p14 : Pos := ⟨89, 0, 90, 114⟩
noncomputable def o3_14 (P : Params) : Obj := ⟨.type "dict", none, .dict #[⟨PySem.PyData.keyHash P ⟨#[95, 95, 110, 97, 109, 101, 95, 95]⟩, .str ⟨#[95, 95, 110, 97, 109, 101, 95, 95]⟩ 165, .str ⟨#[108, 97, 119, 95, 114, 101, 48, 49, 53, 48, 95, 48, 50]⟩ 2261⟩, ⟨PySem.PyData.keyHash P ⟨#[95, 95, 100, 111, 99, 95, 95]⟩, .str ⟨#[95, 95, 100, 111, 99, 95, 95]⟩ 166, .none⟩, ⟨PySem.PyData.keyHash P ⟨#[95, 95, 112, 97, 99, 107, 97, 103, 101, 95, 95]⟩, .str ⟨#[95, 95, 112, 97, 99, 107, 97, 103, 101, 95, 95]⟩ 167, .none⟩, ⟨PySem.PyData.keyHash P ⟨#[95, 95, 108, 111, 97, 100, 101, 114, 95, 95]⟩, .str ⟨#[95, 95, 108, 111, 97, 100, 101, 114, 95, 95]⟩ 168, .builtin "__main__.__loader__#opaque"⟩, ⟨PySem.PyData.keyHash P ⟨#[95, 95, 115, 112, 101, 99, 95, 95]⟩, .str ⟨#[95, 95, 115, 112, 101, 99, 95, 95]⟩ 169, .none⟩, ⟨PySem.PyData.keyHash P ⟨#[95, 95, 97, 110, 110, 111, 116, 97, 116, 105, 111, 110, 115, 95, 95]⟩, .str ⟨#[95, 95, 97, 110, 110, 111, 116, 97, 116, 105, 111, 110, 115, 95, 95]⟩ 170, .ref 6⟩, ⟨PySem.PyData.keyHash P ⟨#[95, 95, 98, 117, 105, 108, 116, 105, 110, 115, 95, 95]⟩, .str ⟨#[95, 95, 98, 117, 105, 108, 116, 105, 110, 115, 95, 95]⟩ 171, .ref 4⟩, ⟨PySem.PyData.keyHash P ⟨#[95, 95, 102, 105, 108, 101, 95, 95]⟩, .str ⟨#[95, 95, 102, 105, 108, 101, 95, 95]⟩ 173, .str ⟨#[47, 99, 108, 97, 105, 109, 47, 99, 117, 116, 46, 112, 121]⟩ 172⟩, ⟨PySem.PyData.keyHash P ⟨#[95, 95, 99, 97, 99, 104, 101, 100, 95, 95]⟩, .str ⟨#[95, 95, 99, 97, 99, 104, 101, 100, 95, 95]⟩ 174, .none⟩, ⟨PySem.PyData.keyHash P ⟨#[98, 49, 95, 115, 101, 116]⟩, .str ⟨#[98, 49, 95, 115, 101, 116]⟩ 248, .ref 22⟩, ⟨PySem.PyData.keyHash P ⟨#[105, 110, 95, 116, 97, 98, 108, 101, 95, 98, 49]⟩, .str ⟨#[105, 110, 95, 116, 97, 98, 108, 101, 95, 98, 49]⟩ 255, .ref 32⟩, ⟨PySem.PyData.keyHash P ⟨#[98, 51, 95, 101, 120, 99, 101, 112, 116, 105, 111, 110, 115]⟩, .str ⟨#[98, 51, 95, 101, 120, 99, 101, 112, 116, 105, 111, 110, 115]⟩ 2206, .ref 33⟩, ⟨PySem.PyData.keyHash P ⟨#[109, 97, 112, 95, 116, 97, 98, 108, 101, 95, 98, 51]⟩, .str ⟨#[109, 97, 112, 95, 116, 97, 98, 108, 101, 95, 98, 51]⟩ 2214, .ref 78⟩, ⟨PySem.PyData.keyHash P ⟨#[98, 105, 115, 101, 99, 116, 95, 114, 105, 103, 104, 116]⟩, .str ⟨#[98, 105, 115, 101, 99, 116, 95, 114, 105, 103, 104, 116]⟩ 2230, .ref 87⟩, ⟨PySem.PyData.keyHash P ⟨#[98, 105, 115, 101, 99, 116, 95, 108, 101, 102, 116]⟩, .str ⟨#[98, 105, 115, 101, 99, 116, 95, 108, 101, 102, 116]⟩ 2244, .ref 96⟩, ⟨PySem.PyData.keyHash P ⟨#[69, 76, 76, 73, 80, 83, 73, 83, 95, 77, 65, 82, 75, 69, 82]⟩, .str ⟨#[69, 76, 76, 73, 80, 83, 73, 83, 95, 77, 65, 82, 75, 69, 82]⟩ 2248, .str ⟨#[46, 46, 46]⟩ 2247⟩, ⟨PySem.PyData.keyHash P ⟨#[95, 101, 108, 108, 105, 112, 115, 105, 115, 95, 109, 97, 116, 99, 104]⟩, .str ⟨#[95, 101, 108, 108, 105, 112, 115, 105, 115, 95, 109, 97, 116, 99, 104]⟩ 2260, .ref 103⟩, ⟨PySem.PyData.keyHash P ⟨#[95, 108, 97, 119, 95, 115, 105, 103, 110]⟩, .str ⟨#[95, 108, 97, 119, 95, 115, 105, 103, 110]⟩ 2270, .ref 110⟩, ⟨PySem.PyData.keyHash P ⟨#[95, 108, 97, 119, 95, 110, 111, 116, 104, 105, 110, 103]⟩, .str ⟨#[95, 108, 97, 119, 95, 110, 111, 116, 104, 105, 110, 103]⟩ 2277, .ref 117⟩, ⟨PySem.PyData.keyHash P ⟨#[95, 108, 97, 119, 95, 115, 112, 101, 108, 108, 101, 100]⟩, .str ⟨#[95, 108, 97, 119, 95, 115, 112, 101, 108, 108, 101, 100]⟩ 2289, .ref 124⟩] 20, #[]⟩
noncomputable def o12_8 (P : Params) : Obj := ⟨.none, none, .fields #[.int 3 0, .int 0 0, .ref 31, .int 6 0, .int 0 0, .ref 77, .int 12 0, .int 0 0, .ref 86, .int 32 0, .int 0 0, .ref 95, .int 54 0, .int 0 0, .ref 102, .int 83 0, .int 0 0, .ref 109, .int 89 0, .int 0 0, .ref 116, .int 91 0, .int 0 0, .ref 123], #[]⟩
noncomputable def o118_0 (P : Params) : Obj := ⟨.type "tuple", none, .seq #[] 0, #[]⟩
noncomputable def o119_0 (P : Params) : Obj := ⟨.none, none, .fields #[], #[]⟩
noncomputable def o120_0 (P : Params) : Obj := ⟨.type "tuple", none, .seq #[.str ⟨#[108, 101, 116, 116, 101, 114]⟩ 2281, .str ⟨#[120]⟩ 2282, .str ⟨#[107, 105, 110, 100]⟩ 2283, .str ⟨#[122]⟩ 2284, .str ⟨#[97, 104, 101, 97, 100]⟩ 2285, .str ⟨#[98, 101, 104, 105, 110, 100]⟩ 2286] 0, #[]⟩
noncomputable def o121_0 (P : Params) : Obj := ⟨.type "tuple", none, .seq #[] 0, #[]⟩
noncomputable def o122_0 (P : Params) : Obj := ⟨.none, none, .func { name := ⟨#[95, 108, 97, 119, 95, 115, 112, 101, 108, 108, 101, 100]⟩, qualname := ⟨#[95, 108, 97, 119, 95, 115, 112, 101, 108, 108, 101, 100]⟩, params := fParams st14, body := .stmts (fBody st14), scope := fScope st14, globals := 0, closure := [], defaults := .none, kwdefaults := .none, doc := .none, pyModule := .none, annotations := none, code := .none, closureTuple := .none, builtins := 0 }, #[]⟩
noncomputable def o123_0 (P : Params) : Obj := ⟨.type "code", none, .fields #[.str ⟨#[95, 108, 97, 119, 95, 115, 112, 101, 108, 108, 101, 100]⟩ 2278, .str ⟨#[95, 108, 97, 119, 95, 115, 112, 101, 108, 108, 101, 100]⟩ 2279, .str ⟨#[47, 99, 108, 97, 105, 109, 47, 99, 117, 116, 46, 112, 121]⟩ 2280, .int 91 0, .int 2 0, .int 0 0, .int 0 0, .int 3 0, .ref 118, .bool true, .int 181 0, .ref 119, .none, .ref 120, .ref 121, .ref 122, .int 2287 0, .int 91 0, .str ⟨#[47, 99, 108, 97, 105, 109, 47, 99, 117, 116, 46, 112, 121]⟩ 2288], #[]⟩
noncomputable def o124_0 (P : Params) : Obj := ⟨.type "function", none, .func { name := ⟨#[95, 108, 97, 119, 95, 115, 112, 101, 108, 108, 101, 100]⟩, qualname := ⟨#[95, 108, 97, 119, 95, 115, 112, 101, 108, 108, 101, 100]⟩, params := fParams st14, body := .stmts (fBody st14), scope := fScope st14, globals := 3, closure := [], defaults := .none, kwdefaults := .none, doc := .none, pyModule := .str ⟨#[108, 97, 119, 95, 114, 101, 48, 49, 53, 48, 95, 48, 50]⟩ 2261, annotations := none, code := .ref 123, closureTuple := .none, builtins := 0 }, #[]⟩
noncomputable def T15 (P : Params) : BT := (.node (boot_o_0 P) (.node (boot_o_1 P) (.node (o3_14 P) (.node (boot_o_7 P) (.node (o15_0 P) (.node (o31_0 P) (.node (o63_0 P) .nil .nil) (.node (o95_0 P) .nil .nil)) (.node (o47_0 P) (.node (o79_0 P) .nil .nil) (.node (o111_0 P) .nil .nil))) (.node (o23_0 P) (.node (o39_0 P) (.node (o71_0 P) .nil .nil) (.node (o103_0 P) .nil .nil)) (.node (o55_0 P) (.node (o87_0 P) .nil .nil) (.node (o119_0 P) .nil .nil)))) (.node (o11_0 P) (.node (o19_0 P) (.node (o35_0 P) (.node (o67_0 P) .nil .nil) (.node (o99_0 P) .nil .nil)) (.node (o51_0 P) (.node (o83_0 P) .nil .nil) (.node (o115_0 P) .nil .nil))) (.node (o27_0 P) (.node (o43_0 P) (.node (o75_0 P) .nil .nil) (.node (o107_0 P) .nil .nil)) (.node (o59_0 P) (.node (o91_0 P) .nil .nil) (.node (o123_0 P) .nil .nil))))) (.node (boot_o_5 P) (.node (boot_o_9 P) (.node (o17_0 P) (.node (o33_0 P) (.node (o65_0 P) .nil .nil) (.node (o97_0 P) .nil .nil)) (.node (o49_0 P) (.node (o81_0 P) .nil .nil) (.node (o113_0 P) .nil .nil))) (.node (o25_0 P) (.node (o41_0 P) (.node (o73_0 P) .nil .nil) (.node (o105_0 P) .nil .nil)) (.node (o57_0 P) (.node (o89_0 P) .nil .nil) (.node (o121_0 P) .nil .nil)))) (.node (o13_0 P) (.node (o21_0 P) (.node (o37_0 P) (.node (o69_0 P) .nil .nil) (.node (o101_0 P) .nil .nil)) (.node (o53_0 P) (.node (o85_0 P) .nil .nil) (.node (o117_0 P) .nil .nil))) (.node (o29_0 P) (.node (o45_0 P) (.node (o77_0 P) .nil .nil) (.node (o109_0 P) .nil .nil)) (.node (o61_0 P) (.node (o93_0 P) .nil .nil) .nil))))) (.node (boot_o_2 P) (.node (boot_o_4 P) (.node (boot_o_8 P) (.node (o16_0 P) (.node (o32_0 P) (.node (o64_0 P) .nil .nil) (.node (o96_0 P) .nil .nil)) (.node (o48_0 P) (.node (o80_0 P) .nil .nil) (.node (o112_0 P) .nil .nil))) (.node (o24_0 P) (.node (o40_0 P) (.node (o72_0 P) .nil .nil) (.node (o104_0 P) .nil .nil)) (.node (o56_0 P) (.node (o88_0 P) .nil .nil) (.node (o120_0 P) .nil .nil)))) (.node (o12_8 P) (.node (o20_0 P) (.node (o36_0 P) (.node (o68_0 P) .nil .nil) (.node (o100_0 P) .nil .nil)) (.node (o52_0 P) (.node (o84_0 P) .nil .nil) (.node (o116_0 P) .nil .nil))) (.node (o28_0 P) (.node (o44_0 P) (.node (o76_0 P) .nil .nil) (.node (o108_0 P) .nil .nil)) (.node (o60_0 P) (.node (o92_0 P) .nil .nil) (.node (o124_0 P) .nil .nil))))) (.node (boot_o_6 P) (.node (boot_o_10 P) (.node (o18_0 P) (.node (o34_0 P) (.node (o66_0 P) .nil .nil) (.node (o98_0 P) .nil .nil)) (.node (o50_0 P) (.node (o82_0 P) .nil .nil) (.node (o114_0 P) .nil .nil))) (.node (o26_0 P) (.node (o42_0 P) (.node (o74_0 P) .nil .nil) (.node (o106_0 P) .nil .nil)) (.node (o58_0 P) (.node (o90_0 P) .nil .nil) (.node (o122_0 P) .nil .nil)))) (.node (o14_0 P) (.node (o22_0 P) (.node (o38_0 P) (.node (o70_0 P) .nil .nil) (.node (o102_0 P) .nil .nil)) (.node (o54_0 P) (.node (o86_0 P) .nil .nil) (.node (o118_0 P) .nil .nil))) (.node (o30_0 P) (.node (o46_0 P) (.node (o78_0 P) .nil .nil) (.node (o110_0 P) .nil .nil)) (.node (o62_0 P) (.node (o94_0 P) .nil .nil) .nil))))))
noncomputable def S15 (w : World) (os : OsState) : SharedT := ⟨T15 w.params, 125, lf, #[], dr, 2290, os⟩
abbrev p15 : Pos := ⟨91, 0, 100, 55⟩
noncomputable def o3_15 (P : Params) : Obj := ⟨.type "dict", none, .dict #[⟨PySem.PyData.keyHash P ⟨#[95, 95, 110, 97, 109, 101, 95, 95]⟩, .str ⟨#[95, 95, 110, 97, 109, 101, 95, 95]⟩ 165, .str ⟨#[108, 97, 119, 95, 114, 101, 48, 49, 53, 48, 95, 48, 50]⟩ 2261⟩, ⟨PySem.PyData.keyHash P ⟨#[95, 95, 100, 111, 99, 95, 95]⟩, .str ⟨#[95, 95, 100, 111, 99, 95, 95]⟩ 166, .none⟩, ⟨PySem.PyData.keyHash P ⟨#[95, 95, 112, 97, 99, 107, 97, 103, 101, 95, 95]⟩, .str ⟨#[95, 95, 112, 97, 99, 107, 97, 103, 101, 95, 95]⟩ 167, .none⟩, ⟨PySem.PyData.keyHash P ⟨#[95, 95, 108, 111, 97, 100, 101, 114, 95, 95]⟩, .str ⟨#[95, 95, 108, 111, 97, 100, 101, 114, 95, 95]⟩ 168, .builtin "__main__.__loader__#opaque"⟩, ⟨PySem.PyData.keyHash P ⟨#[95, 95, 115, 112, 101, 99, 95, 95]⟩, .str ⟨#[95, 95, 115, 112, 101, 99, 95, 95]⟩ 169, .none⟩, ⟨PySem.PyData.keyHash P ⟨#[95, 95, 97, 110, 110, 111, 116, 97, 116, 105, 111, 110, 115, 95, 95]⟩, .str ⟨#[95, 95, 97, 110, 110, 111, 116, 97, 116, 105, 111, 110, 115, 95, 95]⟩ 170, .ref 6⟩, ⟨PySem.PyData.keyHash P ⟨#[95, 95, 98, 117, 105, 108, 116, 105, 110, 115, 95, 95]⟩, .str ⟨#[95, 95, 98, 117, 105, 108, 116, 105, 110, 115, 95, 95]⟩ 171, .ref 4⟩, ⟨PySem.PyData.keyHash P ⟨#[95, 95, 102, 105, 108, 101, 95, 95]⟩, .str ⟨#[95, 95, 102, 105, 108, 101, 95, 95]⟩ 173, .str ⟨#[47, 99, 108, 97, 105, 109, 47, 99, 117, 116, 46, 112, 121]⟩ 172⟩, ⟨PySem.PyData.keyHash P ⟨#[95, 95, 99, 97, 99, 104, 101, 100, 95, 95]⟩, .str ⟨#[95, 95, 99, 97, 99, 104, 101, 100, 95, 95]⟩ 174, .none⟩, ⟨PySem.PyData.keyHash P ⟨#[98, 49, 95, 115, 101, 116]⟩, .str ⟨#[98, 49, 95, 115, 101, 116]⟩ 248, .ref 22⟩, ⟨PySem.PyData.keyHash P ⟨#[105, 110, 95, 116, 97, 98, 108, 101, 95, 98, 49]⟩, .str ⟨#[105, 110, 95, 116, 97, 98, 108, 101, 95, 98, 49]⟩ 255, .ref 32⟩, ⟨PySem.PyData.keyHash P ⟨#[98, 51, 95, 101, 120, 99, 101, 112, 116, 105, 111, 110, 115]⟩, .str ⟨#[98, 51, 95, 101, 120, 99, 101, 112, 116, 105, 111, 110, 115]⟩ 2206, .ref 33⟩, ⟨PySem.PyData.keyHash P ⟨#[109, 97, 112, 95, 116, 97, 98, 108, 101, 95, 98, 51]⟩, .str ⟨#[109, 97, 112, 95, 116, 97, 98, 108, 101, 95, 98, 51]⟩ 2214, .ref 78⟩, ⟨PySem.PyData.keyHash P ⟨#[98, 105, 115, 101, 99, 116, 95, 114, 105, 103, 104, 116]⟩, .str ⟨#[98, 105, 115, 101, 99, 116, 95, 114, 105, 103, 104, 116]⟩ 2230, .ref 87⟩, ⟨PySem.PyData.keyHash P ⟨#[98, 105, 115, 101, 99, 116, 95, 108, 101, 102, 116]⟩, .str ⟨#[98, 105, 115, 101, 99, 116, 95, 108, 101, 102, 116]⟩ 2244, .ref 96⟩, ⟨PySem.PyData.keyHash P ⟨#[69, 76, 76, 73, 80, 83, 73, 83, 95, 77, 65, 82, 75, 69, 82]⟩, .str ⟨#[69, 76, 76, 73, 80, 83, 73, 83, 95, 77, 65, 82, 75, 69, 82]⟩ 2248, .str ⟨#[46, 46, 46]⟩ 2247⟩, ⟨PySem.PyData.keyHash P ⟨#[95, 101, 108, 108, 105, 112, 115, 105, 115, 95, 109, 97, 116, 99, 104]⟩, .str ⟨#[95, 101, 108, 108, 105, 112, 115, 105, 115, 95, 109, 97, 116, 99, 104]⟩ 2260, .ref 103⟩, ⟨PySem.PyData.keyHash P ⟨#[95, 108, 97, 119, 95, 115, 105, 103, 110]⟩, .str ⟨#[95, 108, 97, 119, 95, 115, 105, 103, 110]⟩ 2270, .ref 110⟩, ⟨PySem.PyData.keyHash P ⟨#[95, 108, 97, 119, 95, 110, 111, 116, 104, 105, 110, 103]⟩, .str ⟨#[95, 108, 97, 119, 95, 110, 111, 116, 104, 105, 110, 103]⟩ 2277, .ref 117⟩, ⟨PySem.PyData.keyHash P ⟨#[95, 108, 97, 119, 95, 115, 112, 101, 108, 108, 101, 100]⟩, .str ⟨#[95, 108, 97, 119, 95, 115, 112, 101, 108, 108, 101, 100]⟩ 2289, .ref 124⟩, ⟨PySem.PyData.keyHash P ⟨#[95, 108, 97, 119, 95, 112, 108, 97, 99, 101, 115]⟩, .str ⟨#[95, 108, 97, 119, 95, 112, 108, 97, 99, 101, 115]⟩ 2304, .ref 131⟩] 21, #[]⟩
noncomputable def o12_9 (P : Params) : Obj := ⟨.none, none, .fields #[.int 3 0, .int 0 0, .ref 31, .int 6 0, .int 0 0, .ref 77, .int 12 0, .int 0 0, .ref 86, .int 32 0, .int 0 0, .ref 95, .int 54 0, .int 0 0, .ref 102, .int 83 0, .int 0 0, .ref 109, .int 89 0, .int 0 0, .ref 116, .int 91 0, .int 0 0, .ref 123, .int 101 0, .int 0 0, .ref 130], #[]⟩
noncomputable def o125_0 (P : Params) : Obj := ⟨.type "tuple", none, .seq #[] 0, #[]⟩
noncomputable def o126_0 (P : Params) : Obj := ⟨.none, none, .fields #[], #[]⟩
noncomputable def o127_0 (P : Params) : Obj := ⟨.type "tuple", none, .seq #[.str ⟨#[116, 101, 120, 116]⟩ 2293, .str ⟨#[108, 101, 116, 116, 101, 114]⟩ 2294, .str ⟨#[102, 114, 111, 110, 116, 115]⟩ 2295, .str ⟨#[112, 108, 97, 99, 101, 115]⟩ 2296, .str ⟨#[97, 116]⟩ 2297, .str ⟨#[110]⟩ 2298, .str ⟨#[104, 111, 108, 100, 115]⟩ 2299] 0, #[]⟩
noncomputable def o128_0 (P : Params) : Obj := ⟨.type "tuple", none, .seq #[.str ⟨#[116, 101, 120, 116]⟩ 2300, .str ⟨#[119, 97, 110, 116]⟩ 2301] 0, #[]⟩
noncomputable def o129_0 (P : Params) : Obj := ⟨.none, none, .func { name := ⟨#[95, 108, 97, 119, 95, 112, 108, 97, 99, 101, 115]⟩, qualname := ⟨#[95, 108, 97, 119, 95, 112, 108, 97, 99, 101, 115]⟩, params := fParams st15, body := .stmts (fBody st15), scope := fScope st15, globals := 0, closure := [], defaults := .none, kwdefaults := .none, doc := .none, pyModule := .none, annotations := none, code := .none, closureTuple := .none, builtins := 0 }, #[]⟩
noncomputable def o130_0 (P : Params) : Obj := ⟨.type "code", none, .fields #[.str ⟨#[95, 108, 97, 119, 95, 112, 108, 97, 99, 101, 115]⟩ 2290, .str ⟨#[95, 108, 97, 119, 95, 112, 108, 97, 99, 101, 115]⟩ 2291, .str ⟨#[47, 99, 108, 97, 105, 109, 47, 99, 117, 116, 46, 112, 121]⟩ 2292, .int 101 0, .int 2 0, .int 0 0, .int 0 0, .int 3 0, .ref 125, .bool true, .int 181 0, .ref 126, .none, .ref 127, .ref 128, .ref 129, .int 2302 0, .int 101 0, .str ⟨#[47, 99, 108, 97, 105, 109, 47, 99, 117, 116, 46, 112, 121]⟩ 2303], #[]⟩
noncomputable def o131_0 (P : Params) : Obj := ⟨.type "function", none, .func { name := ⟨#[95, 108, 97, 119, 95, 112, 108, 97, 99, 101, 115]⟩, qualname := ⟨#[95, 108, 97, 119, 95, 112, 108, 97, 99, 101, 115]⟩, params := fParams st15, body := .stmts (fBody st15), scope := fScope st15, globals := 3, closure := [], defaults := .none, kwdefaults := .none, doc := .none, pyModule := .str ⟨#[108, 97, 119, 95, 114, 101, 48, 49, 53, 48, 95, 48, 50]⟩ 2261, annotations := none, code := .ref 130, closureTuple := .none, builtins := 0 }, #[]⟩
noncomputable def T16 (P : Params) : BT := (.node (boot_o_0 P) (.node (boot_o_1 P) (.node (o3_15 P) (.node (boot_o_7 P) (.node (o15_0 P) (.node (o31_0 P) (.node (o63_0 P) (.node (o127_0 P) .nil .nil) .nil) (.node (o95_0 P) .nil .nil)) (.node (o47_0 P) (.node (o79_0 P) .nil .nil) (.node (o111_0 P) .nil .nil))) (.node (o23_0 P) (.node (o39_0 P) (.node (o71_0 P) .nil .nil) (.node (o103_0 P) .nil .nil)) (.node (o55_0 P) (.node (o87_0 P) .nil .nil) (.node (o119_0 P) .nil .nil)))) (.node (o11_0 P) (.node (o19_0 P) (.node (o35_0 P) (.node (o67_0 P) (.node (o131_0 P) .nil .nil) .nil) (.node (o99_0 P) .nil .nil)) (.node (o51_0 P) (.node (o83_0 P) .nil .nil) (.node (o115_0 P) .nil .nil))) (.node (o27_0 P) (.node (o43_0 P) (.node (o75_0 P) .nil .nil) (.node (o107_0 P) .nil .nil)) (.node (o59_0 P) (.node (o91_0 P) .nil .nil) (.node (o123_0 P) .nil .nil))))) (.node (boot_o_5 P) (.node (boot_o_9 P) (.node (o17_0 P) (.node (o33_0 P) (.node (o65_0 P) (.node (o129_0 P) .nil .nil) .nil) (.node (o97_0 P) .nil .nil)) (.node (o49_0 P) (.node (o81_0 P) .nil .nil) (.node (o113_0 P) .nil .nil))) (.node (o25_0 P) (.node (o41_0 P) (.node (o73_0 P) .nil .nil) (.node (o105_0 P) .nil .nil)) (.node (o57_0 P) (.node (o89_0 P) .nil .nil) (.node (o121_0 P) .nil .nil)))) (.node (o13_0 P) (.node (o21_0 P) (.node (o37_0 P) (.node (o69_0 P) .nil .nil) (.node (o101_0 P) .nil .nil)) (.node (o53_0 P) (.node (o85_0 P) .nil .nil) (.node (o117_0 P) .nil .nil))) (.node (o29_0 P) (.node (o45_0 P) (.node (o77_0 P) .nil .nil) (.node (o109_0 P) .nil .nil)) (.node (o61_0 P) (.node (o93_0 P) .nil .nil) (.node (o125_0 P) .nil .nil)))))) (.node (boot_o_2 P) (.node (boot_o_4 P) (.node (boot_o_8 P) (.node (o16_0 P) (.node (o32_0 P) (.node (o64_0 P) (.node (o128_0 P) .nil .nil) .nil) (.node (o96_0 P) .nil .nil)) (.node (o48_0 P) (.node (o80_0 P) .nil .nil) (.node (o112_0 P) .nil .nil))) (.node (o24_0 P) (.node (o40_0 P) (.node (o72_0 P) .nil .nil) (.node (o104_0 P) .nil .nil)) (.node (o56_0 P) (.node (o88_0 P) .nil .nil) (.node (o120_0 P) .nil .nil)))) (.node (o12_9 P) (.node (o20_0 P) (.node (o36_0 P) (.node (o68_0 P) .nil .nil) (.node (o100_0 P) .nil .nil)) (.node (o52_0 P) (.node (o84_0 P) .nil .nil) (.node (o116_0 P) .nil .nil))) (.node (o28_0 P) (.node (o44_0 P) (.node (o76_0 P) .nil .nil) (.node (o108_0 P) .nil .nil)) (.node (o60_0 P) (.node (o92_0 P) .nil .nil) (.node (o124_0 P) .nil .nil))))) (.node (boot_o_6 P) (.node (boot_o_10 P) (.node (o18_0 P) (.node (o34_0 P) (.node (o66_0 P) (.node (o130_0 P) .nil .nil) .nil) (.node (o98_0 P) .nil .nil)) (.node (o50_0 P) (.node (o82_0 P) .nil .nil) (.node (o114_0 P) .nil .nil))) (.node (o26_0 P) (.node (o42_0 P) (.node (o74_0 P) .nil .nil) (.node (o106_0 P) .nil .nil)) (.node (o58_0 P) (.node (o90_0 P) .nil .nil) (.node (o122_0 P) .nil .nil)))) (.node (o14_0 P) (.node (o22_0 P) (.node (o38_0 P) (.node (o70_0 P) .nil .nil) (.node (o102_0 P) .nil .nil)) (.node (o54_0 P) (.node (o86_0 P) .nil .nil) (.node (o118_0 P) .nil .nil))) (.node (o30_0 P) (.node (o46_0 P) (.node (o78_0 P) .nil .nil) (.node (o110_0 P) .nil .nil)) (.node (o62_0 P) (.node (o94_0 P) .nil .nil) (.node (o126_0 P) .nil .nil)))))))
noncomputable def S16 (w : World) (os : OsState) : SharedT := ⟨T16 w.params, 132, lf, #[], dr, 2305, os⟩
abbrev p16 : Pos := ⟨101, 0, 115, 17⟩
noncomputable def o3_16 (P : Params) : Obj := ⟨.type "dict", none, .dict #[⟨PySem.PyData.keyHash P ⟨#[95, 95, 110, 97, 109, 101, 95, 95]⟩, .str ⟨#[95, 95, 110, 97, 109, 101, 95, 95]⟩ 165, .str ⟨#[108, 97, 119, 95, 114, 101, 48, 49, 53, 48, 95, 48, 50]⟩ 2261⟩, ⟨PySem.PyData.keyHash P ⟨#[95, 95, 100, 111, 99, 95, 95]⟩, .str ⟨#[95, 95, 100, 111, 99, 95, 95]⟩ 166, .none⟩, ⟨PySem.PyData.keyHash P ⟨#[95, 95, 112, 97, 99, 107, 97, 103, 101, 95, 95]⟩, .str ⟨#[95, 95, 112, 97, 99, 107, 97, 103, 101, 95, 95]⟩ 167, .none⟩, ⟨PySem.PyData.keyHash P ⟨#[95, 95, 108, 111, 97, 100, 101, 114, 95, 95]⟩, .str ⟨#[95, 95, 108, 111, 97, 100, 101, 114, 95, 95]⟩ 168, .builtin "__main__.__loader__#opaque"⟩, ⟨PySem.PyData.keyHash P ⟨#[95, 95, 115, 112, 101, 99, 95, 95]⟩, .str ⟨#[95, 95, 115, 112, 101, 99, 95, 95]⟩ 169, .none⟩, ⟨PySem.PyData.keyHash P ⟨#[95, 95, 97, 110, 110, 111, 116, 97, 116, 105, 111, 110, 115, 95, 95]⟩, .str ⟨#[95, 95, 97, 110, 110, 111, 116, 97, 116, 105, 111, 110, 115, 95, 95]⟩ 170, .ref 6⟩, ⟨PySem.PyData.keyHash P ⟨#[95, 95, 98, 117, 105, 108, 116, 105, 110, 115, 95, 95]⟩, .str ⟨#[95, 95, 98, 117, 105, 108, 116, 105, 110, 115, 95, 95]⟩ 171, .ref 4⟩, ⟨PySem.PyData.keyHash P ⟨#[95, 95, 102, 105, 108, 101, 95, 95]⟩, .str ⟨#[95, 95, 102, 105, 108, 101, 95, 95]⟩ 173, .str ⟨#[47, 99, 108, 97, 105, 109, 47, 99, 117, 116, 46, 112, 121]⟩ 172⟩, ⟨PySem.PyData.keyHash P ⟨#[95, 95, 99, 97, 99, 104, 101, 100, 95, 95]⟩, .str ⟨#[95, 95, 99, 97, 99, 104, 101, 100, 95, 95]⟩ 174, .none⟩, ⟨PySem.PyData.keyHash P ⟨#[98, 49, 95, 115, 101, 116]⟩, .str ⟨#[98, 49, 95, 115, 101, 116]⟩ 248, .ref 22⟩, ⟨PySem.PyData.keyHash P ⟨#[105, 110, 95, 116, 97, 98, 108, 101, 95, 98, 49]⟩, .str ⟨#[105, 110, 95, 116, 97, 98, 108, 101, 95, 98, 49]⟩ 255, .ref 32⟩, ⟨PySem.PyData.keyHash P ⟨#[98, 51, 95, 101, 120, 99, 101, 112, 116, 105, 111, 110, 115]⟩, .str ⟨#[98, 51, 95, 101, 120, 99, 101, 112, 116, 105, 111, 110, 115]⟩ 2206, .ref 33⟩, ⟨PySem.PyData.keyHash P ⟨#[109, 97, 112, 95, 116, 97, 98, 108, 101, 95, 98, 51]⟩, .str ⟨#[109, 97, 112, 95, 116, 97, 98, 108, 101, 95, 98, 51]⟩ 2214, .ref 78⟩, ⟨PySem.PyData.keyHash P ⟨#[98, 105, 115, 101, 99, 116, 95, 114, 105, 103, 104, 116]⟩, .str ⟨#[98, 105, 115, 101, 99, 116, 95, 114, 105, 103, 104, 116]⟩ 2230, .ref 87⟩, ⟨PySem.PyData.keyHash P ⟨#[98, 105, 115, 101, 99, 116, 95, 108, 101, 102, 116]⟩, .str ⟨#[98, 105, 115, 101, 99, 116, 95, 108, 101, 102, 116]⟩ 2244, .ref 96⟩, ⟨PySem.PyData.keyHash P ⟨#[69, 76, 76, 73, 80, 83, 73, 83, 95, 77, 65, 82, 75, 69, 82]⟩, .str ⟨#[69, 76, 76, 73, 80, 83, 73, 83, 95, 77, 65, 82, 75, 69, 82]⟩ 2248, .str ⟨#[46, 46, 46]⟩ 2247⟩, ⟨PySem.PyData.keyHash P ⟨#[95, 101, 108, 108, 105, 112, 115, 105, 115, 95, 109, 97, 116, 99, 104]⟩, .str ⟨#[95, 101, 108, 108, 105, 112, 115, 105, 115, 95, 109, 97, 116, 99, 104]⟩ 2260, .ref 103⟩, ⟨PySem.PyData.keyHash P ⟨#[95, 108, 97, 119, 95, 115, 105, 103, 110]⟩, .str ⟨#[95, 108, 97, 119, 95, 115, 105, 103, 110]⟩ 2270, .ref 110⟩, ⟨PySem.PyData.keyHash P ⟨#[95, 108, 97, 119, 95, 110, 111, 116, 104, 105, 110, 103]⟩, .str ⟨#[95, 108, 97, 119, 95, 110, 111, 116, 104, 105, 110, 103]⟩ 2277, .ref 117⟩, ⟨PySem.PyData.keyHash P ⟨#[95, 108, 97, 119, 95, 115, 112, 101, 108, 108, 101, 100]⟩, .str ⟨#[95, 108, 97, 119, 95, 115, 112, 101, 108, 108, 101, 100]⟩ 2289, .ref 124⟩, ⟨PySem.PyData.keyHash P ⟨#[95, 108, 97, 119, 95, 112, 108, 97, 99, 101, 115]⟩, .str ⟨#[95, 108, 97, 119, 95, 112, 108, 97, 99, 101, 115]⟩ 2304, .ref 131⟩, ⟨PySem.PyData.keyHash P ⟨#[108, 97, 119]⟩, .str ⟨#[108, 97, 119]⟩ 2310, .ref 136⟩] 22, #[]⟩
noncomputable def o12_10 (P : Params) : Obj := ⟨.none, none, .fields #[.int 3 0, .int 0 0, .ref 31, .int 6 0, .int 0 0, .ref 77, .int 12 0, .int 0 0, .ref 86, .int 32 0, .int 0 0, .ref 95, .int 54 0, .int 0 0, .ref 102, .int 83 0, .int 0 0, .ref 109, .int 89 0, .int 0 0, .ref 116, .int 91 0, .int 0 0, .ref 123, .int 101 0, .int 0 0, .ref 130, .int 116 0, .int 0 0, .ref 135], #[]⟩
noncomputable def o132_0 (P : Params) : Obj := ⟨.type "tuple", none, .seq #[] 0, #[]⟩
noncomputable def o133_0 (P : Params) : Obj := ⟨.none, none, .fields #[], #[]⟩
noncomputable def o134_0 (P : Params) : Obj := ⟨.none, none, .func { name := ⟨#[108, 97, 119]⟩, qualname := ⟨#[108, 97, 119]⟩, params := fParams st16, body := .stmts (fBody st16), scope := fScope st16, globals := 0, closure := [], defaults := .none, kwdefaults := .none, doc := .none, pyModule := .none, annotations := none, code := .none, closureTuple := .none, builtins := 0 }, #[]⟩
noncomputable def o135_0 (P : Params) : Obj := ⟨.type "code", none, .fields #[.str ⟨#[108, 97, 119]⟩ 2305, .str ⟨#[108, 97, 119]⟩ 2306, .str ⟨#[47, 99, 108, 97, 105, 109, 47, 99, 117, 116, 46, 112, 121]⟩ 2307, .int 116 0, .int 1 0, .int 0 0, .int 0 0, .int 3 0, .ref 132, .bool true, .int 181 0, .ref 133, .none, .none, .none, .ref 134, .int 2308 0, .int 116 0, .str ⟨#[47, 99, 108, 97, 105, 109, 47, 99, 117, 116, 46, 112, 121]⟩ 2309], #[]⟩
noncomputable def o136_0 (P : Params) : Obj := ⟨.type "function", none, .func { name := ⟨#[108, 97, 119]⟩, qualname := ⟨#[108, 97, 119]⟩, params := fParams st16, body := .stmts (fBody st16), scope := fScope st16, globals := 3, closure := [], defaults := .none, kwdefaults := .none, doc := .none, pyModule := .str ⟨#[108, 97, 119, 95, 114, 101, 48, 49, 53, 48, 95, 48, 50]⟩ 2261, annotations := none, code := .ref 135, closureTuple := .none, builtins := 0 }, #[]⟩
noncomputable def T17 (P : Params) : BT := (.node (boot_o_0 P) (.node (boot_o_1 P) (.node (o3_16 P) (.node (boot_o_7 P) (.node (o15_0 P) (.node (o31_0 P) (.node (o63_0 P) (.node (o127_0 P) .nil .nil) .nil) (.node (o95_0 P) .nil .nil)) (.node (o47_0 P) (.node (o79_0 P) .nil .nil) (.node (o111_0 P) .nil .nil))) (.node (o23_0 P) (.node (o39_0 P) (.node (o71_0 P) (.node (o135_0 P) .nil .nil) .nil) (.node (o103_0 P) .nil .nil)) (.node (o55_0 P) (.node (o87_0 P) .nil .nil) (.node (o119_0 P) .nil .nil)))) (.node (o11_0 P) (.node (o19_0 P) (.node (o35_0 P) (.node (o67_0 P) (.node (o131_0 P) .nil .nil) .nil) (.node (o99_0 P) .nil .nil)) (.node (o51_0 P) (.node (o83_0 P) .nil .nil) (.node (o115_0 P) .nil .nil))) (.node (o27_0 P) (.node (o43_0 P) (.node (o75_0 P) .nil .nil) (.node (o107_0 P) .nil .nil)) (.node (o59_0 P) (.node (o91_0 P) .nil .nil) (.node (o123_0 P) .nil .nil))))) (.node (boot_o_5 P) (.node (boot_o_9 P) (.node (o17_0 P) (.node (o33_0 P) (.node (o65_0 P) (.node (o129_0 P) .nil .nil) .nil) (.node (o97_0 P) .nil .nil)) (.node (o49_0 P) (.node (o81_0 P) .nil .nil) (.node (o113_0 P) .nil .nil))) (.node (o25_0 P) (.node (o41_0 P) (.node (o73_0 P) .nil .nil) (.node (o105_0 P) .nil .nil)) (.node (o57_0 P) (.node (o89_0 P) .nil .nil) (.node (o121_0 P) .nil .nil)))) (.node (o13_0 P) (.node (o21_0 P) (.node (o37_0 P) (.node (o69_0 P) (.node (o133_0 P) .nil .nil) .nil) (.node (o101_0 P) .nil .nil)) (.node (o53_0 P) (.node (o85_0 P) .nil .nil) (.node (o117_0 P) .nil .nil))) (.node (o29_0 P) (.node (o45_0 P) (.node (o77_0 P) .nil .nil) (.node (o109_0 P) .nil .nil)) (.node (o61_0 P) (.node (o93_0 P) .nil .nil) (.node (o125_0 P) .nil .nil)))))) (.node (boot_o_2 P) (.node (boot_o_4 P) (.node (boot_o_8 P) (.node (o16_0 P) (.node (o32_0 P) (.node (o64_0 P) (.node (o128_0 P) .nil .nil) .nil) (.node (o96_0 P) .nil .nil)) (.node (o48_0 P) (.node (o80_0 P) .nil .nil) (.node (o112_0 P) .nil .nil))) (.node (o24_0 P) (.node (o40_0 P) (.node (o72_0 P) (.node (o136_0 P) .nil .nil) .nil) (.node (o104_0 P) .nil .nil)) (.node (o56_0 P) (.node (o88_0 P) .nil .nil) (.node (o120_0 P) .nil .nil)))) (.node (o12_10 P) (.node (o20_0 P) (.node (o36_0 P) (.node (o68_0 P) (.node (o132_0 P) .nil .nil) .nil) (.node (o100_0 P) .nil .nil)) (.node (o52_0 P) (.node (o84_0 P) .nil .nil) (.node (o116_0 P) .nil .nil))) (.node (o28_0 P) (.node (o44_0 P) (.node (o76_0 P) .nil .nil) (.node (o108_0 P) .nil .nil)) (.node (o60_0 P) (.node (o92_0 P) .nil .nil) (.node (o124_0 P) .nil .nil))))) (.node (boot_o_6 P) (.node (boot_o_10 P) (.node (o18_0 P) (.node (o34_0 P) (.node (o66_0 P) (.node (o130_0 P) .nil .nil) .nil) (.node (o98_0 P) .nil .nil)) (.node (o50_0 P) (.node (o82_0 P) .nil .nil) (.node (o114_0 P) .nil .nil))) (.node (o26_0 P) (.node (o42_0 P) (.node (o74_0 P) .nil .nil) (.node (o106_0 P) .nil .nil)) (.node (o58_0 P) (.node (o90_0 P) .nil .nil) (.node (o122_0 P) .nil .nil)))) (.node (o14_0 P) (.node (o22_0 P) (.node (o38_0 P) (.node (o70_0 P) (.node (o134_0 P) .nil .nil) .nil) (.node (o102_0 P) .nil .nil)) (.node (o54_0 P) (.node (o86_0 P) .nil .nil) (.node (o118_0 P) .nil .nil))) (.node (o30_0 P) (.node (o46_0 P) (.node (o78_0 P) .nil .nil) (.node (o110_0 P) .nil .nil)) (.node (o62_0 P) (.node (o94_0 P) .nil .nil) (.node (o126_0 P) .nil .nil)))))))
noncomputable def S17 (w : World) (os : OsState) : SharedT := ⟨T17 w.params, 137, lf, #[], dr, 2311, os⟩
abbrev p17 : Pos := ⟨116, 0, 133, 38⟩
end
end Mine

end
section
set_option maxRecDepth 100000
set_option linter.unusedVariables false
set_option maxHeartbeats 4000000
namespace Mine
open PySem PySem.W PySem.Calls PyProof.Rows
noncomputable section
theorem pre (w : World) (os : OsState) : topGo treeTable pw w m0 annE 12 ⟨boot_heap w.params, #[], boot_drawn, boot_toks, os⟩ (topStub pw) = some ((S0 w os).abs, ⟨denote treeTable cE, cE, ⟨0, 0, 0, 0⟩, [topFrame qf]⟩) := by kernel_rfl
theorem blk (w : World) (os : OsState) : segRun treeTable pw w m0 annE 1 1 (S0 w os).abs (blockOf bE env cE ⟨0, 0, 0, 0⟩ [topFrame qf]) = some (.next, (S0 w os).abs, cE, p0) := by kernel_rfl
theorem pc0 (w : World) (os : OsState) : segRunT treeTable pw w m0 annE 1 10 (S0 w os) (pieceOf st0 env cE p0 [topFrame qf]) = some (.next, S1 w os, cE, p1) := by kernel_rfl
theorem pc2 (w : World) (os : OsState) : segRunT treeTable pw w m0 annE 1 30 (S2 w os) (pieceOf st2 env cE p2 [topFrame qf]) = some (.next, S3 w os, cE, p3) := by kernel_rfl
theorem pc4 (w : World) (os : OsState) : segRunT treeTable pw w m0 annE 1 31 (S4 w os) (pieceOf st4 env cE p4 [topFrame qf]) = some (.next, S5 w os, cE, p5) := by kernel_rfl
theorem pc5 (w : World) (os : OsState) : segRunT treeTable pw w m0 annE 1 10 (S5 w os) (pieceOf st5 env cE p5 [topFrame qf]) = some (.next, S6 w os, cE, p6) := by kernel_rfl
theorem pc6 (w : World) (os : OsState) : segRunT treeTable pw w m0 annE 1 42 (S6 w os) (pieceOf st6 env cE p6 [topFrame qf]) = some (.next, S7 w os, cE, p7) := by kernel_rfl
theorem pc7 (w : World) (os : OsState) : segRunT treeTable pw w m0 annE 1 42 (S7 w os) (pieceOf st7 env cE p7 [topFrame qf]) = some (.next, S8 w os, cE, p8) := by kernel_rfl
theorem pc8 (w : World) (os : OsState) : segRunT treeTable pw w m0 annE 1 10 (S8 w os) (pieceOf st8 env cE p8 [topFrame qf]) = some (.next, S9 w os, cE, p9) := by kernel_rfl
theorem pc9 (w : World) (os : OsState) : segRunT treeTable pw w m0 annE 1 10 (S9 w os) (pieceOf st9 env cE p9 [topFrame qf]) = some (.next, S10 w os, cE, p10) := by kernel_rfl
theorem pc10 (w : World) (os : OsState) : segRunT treeTable pw w m0 annE 1 35 (S10 w os) (pieceOf st10 env cE p10 [topFrame qf]) = some (.next, S11 w os, cE, p11) := by kernel_rfl
theorem pc11 (w : World) (os : OsState) : segRunT treeTable pw w m0 annE 1 10 (S11 w os) (pieceOf st11 env cE p11 [topFrame qf]) = some (.next, S12 w os, cE, p12) := by kernel_rfl
theorem pc12 (w : World) (os : OsState) : segRunT treeTable pw w m0 annE 1 31 (S12 w os) (pieceOf st12 env cE p12 [topFrame qf]) = some (.next, S13 w os, cE, p13) := by kernel_rfl
theorem pc13 (w : World) (os : OsState) : segRunT treeTable pw w m0 annE 1 30 (S13 w os) (pieceOf st13 env cE p13 [topFrame qf]) = some (.next, S14 w os, cE, p14) := by kernel_rfl
theorem pc14 (w : World) (os : OsState) : segRunT treeTable pw w m0 annE 1 35 (S14 w os) (pieceOf st14 env cE p14 [topFrame qf]) = some (.next, S15 w os, cE, p15) := by kernel_rfl
theorem pc15 (w : World) (os : OsState) : segRunT treeTable pw w m0 annE 1 38 (S15 w os) (pieceOf st15 env cE p15 [topFrame qf]) = some (.next, S16 w os, cE, p16) := by kernel_rfl
theorem pc16 (w : World) (os : OsState) : segRunT treeTable pw w m0 annE 1 27 (S16 w os) (pieceOf st16 env cE p16 [topFrame qf]) = some (.next, S17 w os, cE, p17) := by kernel_rfl
end
end Mine

end
section
set_option maxRecDepth 100000
set_option linter.unusedVariables false
set_option maxHeartbeats 4000000
namespace Mine
open PySem PySem.W PySem.Calls PyProof.Rows
noncomputable section
abbrev setP : World → Prop := fun w : World => (fun os => segRunT treeTable pw w m0 annE 1 999 (S1 w os) (pieceOf st1 env cE p1 [topFrame qf])) = fun os => some (.next, S2 w os, cE, p2)
theorem set_false_false (w : World) : setP (((w.withFollow "set-order" false).withFollow "special-get-raises" false)) := by
  show (fun os => segRunT _ _ _ _ _ _ _ _ _) = _
  rw [PySem.W.Fast.te10110043849684766642, PySem.W.Fast.te14364793385576792824]
  kernel_rfl
theorem set_false_true (w : World) : setP (((w.withFollow "set-order" false).withFollow "special-get-raises" true)) := by
  show (fun os => segRunT _ _ _ _ _ _ _ _ _) = _
  rw [PySem.W.Fast.te10110043849684766642, PySem.W.Fast.te14364793385576792824]
  kernel_rfl
theorem set_true_false (w : World) : setP (((w.withFollow "set-order" true).withFollow "special-get-raises" false)) := by
  show (fun os => segRunT _ _ _ _ _ _ _ _ _) = _
  rw [PySem.W.Fast.te10110043849684766642, PySem.W.Fast.te14364793385576792824]
  kernel_rfl
theorem set_true_true (w : World) : setP (((w.withFollow "set-order" true).withFollow "special-get-raises" true)) := by
  show (fun os => segRunT _ _ _ _ _ _ _ _ _) = _
  rw [PySem.W.Fast.te10110043849684766642, PySem.W.Fast.te14364793385576792824]
  kernel_rfl
theorem pc1 (w : World) (os : OsState) : segRunT treeTable pw w m0 annE 1 999 (S1 w os) (pieceOf st1 env cE p1 [topFrame qf]) = some (.next, S2 w os, cE, p2) :=
  congrFun (byRow2 "special-get-raises" (P := setP) (byRow2 "set-order" (P := fun w => setP (w.withFollow "special-get-raises" false)) set_false_false set_true_false) (byRow2 "set-order" (P := fun w => setP (w.withFollow "special-get-raises" true)) set_false_true set_true_true) w) os
end
end Mine

end
section
set_option maxRecDepth 100000
set_option linter.unusedVariables false
set_option maxHeartbeats 4000000
namespace Mine
open PySem PySem.W PySem.Calls PyProof.Rows
noncomputable section
def dKs : Stmt → List (Option Expr)
  | .Assign _ (.Dict ks _ _) _ => ks
  | _ => []
def dVs : Stmt → List Expr
  | .Assign _ (.Dict _ vs _) _ => vs
  | _ => []
def dPos : Stmt → Pos
  | .Assign _ (.Dict _ _ p) _ => p
  | _ => default
def aPos : Stmt → Pos
  | .Assign _ _ p => p
  | _ => default
def aNm : Stmt → Str
  | .Assign [.Name n _] _ _ => n
  | _ => default
def aNp : Stmt → Pos
  | .Assign [.Name _ p] _ _ => p
  | _ => default
theorem st3_eq : st3 = .Assign [.Name (aNm st3) (aNp st3)] (.Dict (dKs st3) (dVs st3) (dPos st3)) (aPos st3) := by kernel_rfl
theorem b3_zip : (evalEachOpt (dKs st3) env).zip ((evalEach (dVs st3) env).map fun v => do let x ← v; standAt (dPos st3); pure x) = ((b3_0 :: b3gs).flatten ++ b3last).map (itOf (dPos st3)) := by kernel_rfl
abbrev b3objs (P : Params) : List Obj := [o33_0 P, o34_0 P, o35_0 P, o36_0 P, o37_0 P, o38_0 P, o39_0 P, o40_0 P, o41_0 P, o42_0 P, o43_0 P, o44_0 P, o45_0 P, o46_0 P, o47_0 P, o48_0 P, o49_0 P, o50_0 P, o51_0 P, o52_0 P, o53_0 P, o54_0 P, o55_0 P, o56_0 P, o57_0 P, o58_0 P, o59_0 P, o60_0 P, o61_0 P, o62_0 P, o63_0 P, o64_0 P, o65_0 P, o66_0 P, o67_0 P, o68_0 P, o69_0 P, o70_0 P, o71_0 P]
def S3d (w : World) (os : OsState) : SharedT := ⟨insAll (T3 w.params) 33 (b3objs w.params), 72, lf, #[], dr, 256 + 3 * 646 + 3 * 4, os⟩
theorem b3_objs (P : Params) : D (ents 256 (b3_0 :: b3gs).flatten ++ entsS (256 + 3 * (b3_0 :: b3gs).flatten.length) b3last) :: (subsOf (256 + 3 * b3_0.length) b3gs ++ [D (entsS (256 + 3 * (b3_0 :: b3gs).flatten.length) b3last)]) = b3objs P := by kernel_rfl
theorem b3_ok (P : Params) : insOk (T3 P) 33 (b3objs P) = true := by kernel_rfl
theorem b3_len : (b3_0 :: b3gs).flatten.length = 646 := by kernel_rfl
theorem b3_len2 : b3last.length = 4 := by kernel_rfl
theorem b3_seventeen : ∀ g ∈ b3gs, g.length = 17 := by decide +kernel
def sortedB : Int → List Pair → Bool
  | _, [] => true
  | b, x :: r => decide (b < hashInt x.1) && sortedB (hashInt x.1) r
theorem sorted_of : ∀ (l : List Pair) (b : Int), sortedB b l = true → sorted b l
  | [], _, _ => trivial
  | x :: r, b, h => by
    obtain ⟨h1, h2⟩ := Bool.and_eq_true_iff.mp h
    exact ⟨of_decide_eq_true h1, sorted_of r _ h2⟩
theorem b3_sorted : sorted (-1) ((b3_0 :: b3gs).flatten ++ b3last) := sorted_of _ _ (by decide +kernel)
theorem S3d_eq (w : World) (os : OsState) : ({ (S3 w os).abs with heap := HH (S3 w os).abs.heap (b3objs w.params), toks := 256 + 3 * 646 + 3 * 4 } : Shared) = (S3d w os).abs := by
  have := HH_abs (b3objs w.params) (T3 w.params) 33 lf (b3_ok w.params)
  unfold S3d SharedT.abs S3
  dsimp only at this ⊢
  rw [this]
  rfl
theorem pc3t (w : World) (os : OsState) : segRunT treeTable pw w m0 annE 1 20 (S3d w os) ⟨(assignStores env (.ref 33) none ((assignEach [.Name (aNm st3) (aNp st3)] env).map (·.2))).wrap doneF deadEnd id id, cE, dPos st3, [topFrame qf]⟩ = some (.next, S4 w os, cE, p4) := by kernel_rfl
theorem pc3 (w : World) (os : OsState) {rest : List Stmt} {N : Nat} {r : Shared} (k : topRun treeTable pw w m0 annE N (S4 w os).abs (restOf rest env cE p4 [topFrame qf]) = some r) :
    topRun treeTable pw w m0 annE (20 + N + (20170 + 2)) (S3 w os).abs (restOf (st3 :: rest) env cE p3 [topFrame qf]) = some r := by
  have hsz : (S3 w os).abs.heap.objs.size = 33 := absHeap_size _ _ _
  have R := rn_display (pr := pw) (w := w) (n₀ := m0) (ann := annE) (p := dPos st3) (q := dPos st3) (s := (S3 w os).abs) (h := (S3 w os).abs.heap) (by rw [hsz]; decide) (by rw [hsz]; decide) b3_0 b3gs b3last (-1) (by decide +kernel) b3_seventeen (by decide +kernel) (by rw [b3_len2]; decide) b3_sorted
    (by rw [sizeLine_eq, show b3gs.length = 37 from by decide +kernel]; decide) rfl
  have t0 : (S3 w os).abs.toks = 256 := rfl
  rw [t0, b3_objs w.params, b3_len, b3_len2, S3d_eq, hsz, show b3gs.length = 37 from by decide +kernel] at R
  exact piece_dictT (t₁ := S3d w os) (t' := S4 w os) (n := 20170) (m := 20) st3_eq b3_zip R (pc3t w os) k
end
end Mine

end
section
set_option maxRecDepth 100000
set_option linter.unusedVariables false
set_option maxHeartbeats 4000000
namespace Mine
open PySem PySem.W PySem.Calls PyProof.Rows
noncomputable section
def view1 : Program := { pw with main := { pw.main with body := [st1, st2, st3, st4, st9, st10, st12, st13, st14, st15, st16] } }
def loose1 : List Str := [Str.ofString "bisect_right", Str.ofString "bisect_left", Str.ofString "b1_set", Str.ofString "b3_exceptions"]
def K1 (P : Params) : Frag := (nat_lit 2, boot_o_2 P) :: (nat_lit 3, o3_16 P) :: (nat_lit 6, boot_o_6 P) :: (nat_lit 22, o22_0 P) :: (nat_lit 26, o26_0 P) :: (nat_lit 28, o28_0 P) :: (nat_lit 29, o29_0 P) :: (nat_lit 31, o31_0 P) :: (nat_lit 32, o32_0 P) :: (nat_lit 33, o33_0 P) :: (nat_lit 72, o72_0 P) :: (nat_lit 74, o74_0 P) :: (nat_lit 75, o75_0 P) :: (nat_lit 77, o77_0 P) :: (nat_lit 78, o78_0 P) :: (nat_lit 79, o79_0 P) :: (nat_lit 80, o80_0 P) :: (nat_lit 81, o81_0 P) :: (nat_lit 83, o83_0 P) :: (nat_lit 84, o84_0 P) :: (nat_lit 86, o86_0 P) :: (nat_lit 87, o87_0 P) :: (nat_lit 88, o88_0 P) :: (nat_lit 89, o89_0 P) :: (nat_lit 90, o90_0 P) :: (nat_lit 92, o92_0 P) :: (nat_lit 93, o93_0 P) :: (nat_lit 95, o95_0 P) :: (nat_lit 96, o96_0 P) :: (nat_lit 97, o97_0 P) :: (nat_lit 99, o99_0 P) :: (nat_lit 100, o100_0 P) :: (nat_lit 102, o102_0 P) :: (nat_lit 103, o103_0 P) :: (nat_lit 104, o104_0 P) :: (nat_lit 106, o106_0 P) :: (nat_lit 107, o107_0 P) :: (nat_lit 109, o109_0 P) :: (nat_lit 110, o110_0 P) :: (nat_lit 111, o111_0 P) :: (nat_lit 113, o113_0 P) :: (nat_lit 114, o114_0 P) :: (nat_lit 116, o116_0 P) :: (nat_lit 117, o117_0 P) :: (nat_lit 118, o118_0 P) :: (nat_lit 120, o120_0 P) :: (nat_lit 121, o121_0 P) :: (nat_lit 123, o123_0 P) :: (nat_lit 124, o124_0 P) :: (nat_lit 125, o125_0 P) :: (nat_lit 127, o127_0 P) :: (nat_lit 128, o128_0 P) :: (nat_lit 130, o130_0 P) :: (nat_lit 131, o131_0 P) :: (nat_lit 132, o132_0 P) :: (nat_lit 135, o135_0 P) :: (nat_lit 136, o136_0 P) :: []
def as1 : List Addr := [nat_lit 2, nat_lit 3, nat_lit 6, nat_lit 22, nat_lit 26, nat_lit 28, nat_lit 29, nat_lit 31, nat_lit 32, nat_lit 33, nat_lit 72, nat_lit 74, nat_lit 75, nat_lit 77, nat_lit 78, nat_lit 79, nat_lit 80, nat_lit 81, nat_lit 83, nat_lit 84, nat_lit 86, nat_lit 87, nat_lit 88, nat_lit 89, nat_lit 90, nat_lit 92, nat_lit 93, nat_lit 95, nat_lit 96, nat_lit 97, nat_lit 99, nat_lit 100, nat_lit 102, nat_lit 103, nat_lit 104, nat_lit 106, nat_lit 107, nat_lit 109, nat_lit 110, nat_lit 111, nat_lit 113, nat_lit 114, nat_lit 116, nat_lit 117, nat_lit 118, nat_lit 120, nat_lit 121, nat_lit 123, nat_lit 124, nat_lit 125, nat_lit 127, nat_lit 128, nat_lit 130, nat_lit 131, nat_lit 132, nat_lit 135, nat_lit 136]
theorem e1 : ∀ P, as1 = (K1 P).map (·.1) := fun P => by kernel_rfl
abbrev hook1 : Hook := kHook K1 as1 e1
theorem fin1 (w : World) (os : OsState) : topRun treeTable pw w m0 annE 2 (S17 w os).abs ⟨doneF .next, cE, p17, [topFrame qf]⟩ = some (S17 w os).abs := by kernel_rfl
theorem r17 (w : World) (os : OsState) : topRun treeTable pw w m0 annE 2 (S17 w os).abs (restOf [] env cE p17 [topFrame qf]) = some (S17 w os).abs := piece_nil (fin1 w os)
theorem r16 (w : World) (os : OsState) : topRun treeTable pw w m0 annE (27 + (2)) (S16 w os).abs (restOf [st16] env cE p16 [topFrame qf]) = some (S17 w os).abs := piece_cons (segRun_of (pc16 w os)) (r17 w os)
theorem r15 (w : World) (os : OsState) : topRun treeTable pw w m0 annE (38 + (27 + (2))) (S15 w os).abs (restOf [st15, st16] env cE p15 [topFrame qf]) = some (S17 w os).abs := piece_cons (segRun_of (pc15 w os)) (r16 w os)
theorem r14 (w : World) (os : OsState) : topRun treeTable pw w m0 annE (35 + (38 + (27 + (2)))) (S14 w os).abs (restOf [st14, st15, st16] env cE p14 [topFrame qf]) = some (S17 w os).abs := piece_cons (segRun_of (pc14 w os)) (r15 w os)
theorem r13 (w : World) (os : OsState) : topRun treeTable pw w m0 annE (30 + (35 + (38 + (27 + (2))))) (S13 w os).abs (restOf [st13, st14, st15, st16] env cE p13 [topFrame qf]) = some (S17 w os).abs := piece_cons (segRun_of (pc13 w os)) (r14 w os)
theorem r12 (w : World) (os : OsState) : topRun treeTable pw w m0 annE (31 + (30 + (35 + (38 + (27 + (2)))))) (S12 w os).abs (restOf [st12, st13, st14, st15, st16] env cE p12 [topFrame qf]) = some (S17 w os).abs := piece_cons (segRun_of (pc12 w os)) (r13 w os)
theorem r11 (w : World) (os : OsState) : topRun treeTable pw w m0 annE (10 + (31 + (30 + (35 + (38 + (27 + (2))))))) (S11 w os).abs (restOf [st11, st12, st13, st14, st15, st16] env cE p11 [topFrame qf]) = some (S17 w os).abs := piece_cons (segRun_of (pc11 w os)) (r12 w os)
theorem r10 (w : World) (os : OsState) : topRun treeTable pw w m0 annE (35 + (10 + (31 + (30 + (35 + (38 + (27 + (2)))))))) (S10 w os).abs (restOf [st10, st11, st12, st13, st14, st15, st16] env cE p10 [topFrame qf]) = some (S17 w os).abs := piece_cons (segRun_of (pc10 w os)) (r11 w os)
theorem r9 (w : World) (os : OsState) : topRun treeTable pw w m0 annE (10 + (35 + (10 + (31 + (30 + (35 + (38 + (27 + (2))))))))) (S9 w os).abs (restOf [st9, st10, st11, st12, st13, st14, st15, st16] env cE p9 [topFrame qf]) = some (S17 w os).abs := piece_cons (segRun_of (pc9 w os)) (r10 w os)
theorem r8 (w : World) (os : OsState) : topRun treeTable pw w m0 annE (10 + (10 + (35 + (10 + (31 + (30 + (35 + (38 + (27 + (2)))))))))) (S8 w os).abs (restOf [st8, st9, st10, st11, st12, st13, st14, st15, st16] env cE p8 [topFrame qf]) = some (S17 w os).abs := piece_cons (segRun_of (pc8 w os)) (r9 w os)
theorem r7 (w : World) (os : OsState) : topRun treeTable pw w m0 annE (42 + (10 + (10 + (35 + (10 + (31 + (30 + (35 + (38 + (27 + (2))))))))))) (S7 w os).abs (restOf [st7, st8, st9, st10, st11, st12, st13, st14, st15, st16] env cE p7 [topFrame qf]) = some (S17 w os).abs := piece_cons (segRun_of (pc7 w os)) (r8 w os)
theorem r6 (w : World) (os : OsState) : topRun treeTable pw w m0 annE (42 + (42 + (10 + (10 + (35 + (10 + (31 + (30 + (35 + (38 + (27 + (2)))))))))))) (S6 w os).abs (restOf [st6, st7, st8, st9, st10, st11, st12, st13, st14, st15, st16] env cE p6 [topFrame qf]) = some (S17 w os).abs := piece_cons (segRun_of (pc6 w os)) (r7 w os)
theorem r5 (w : World) (os : OsState) : topRun treeTable pw w m0 annE (10 + (42 + (42 + (10 + (10 + (35 + (10 + (31 + (30 + (35 + (38 + (27 + (2))))))))))))) (S5 w os).abs (restOf [st5, st6, st7, st8, st9, st10, st11, st12, st13, st14, st15, st16] env cE p5 [topFrame qf]) = some (S17 w os).abs := piece_cons (segRun_of (pc5 w os)) (r6 w os)
theorem r4 (w : World) (os : OsState) : topRun treeTable pw w m0 annE (31 + (10 + (42 + (42 + (10 + (10 + (35 + (10 + (31 + (30 + (35 + (38 + (27 + (2)))))))))))))) (S4 w os).abs (restOf [st4, st5, st6, st7, st8, st9, st10, st11, st12, st13, st14, st15, st16] env cE p4 [topFrame qf]) = some (S17 w os).abs := piece_cons (segRun_of (pc4 w os)) (r5 w os)
theorem r3 (w : World) (os : OsState) : topRun treeTable pw w m0 annE (20 + (31 + (10 + (42 + (42 + (10 + (10 + (35 + (10 + (31 + (30 + (35 + (38 + (27 + (2)))))))))))))) + 20172) (S3 w os).abs (restOf [st3, st4, st5, st6, st7, st8, st9, st10, st11, st12, st13, st14, st15, st16] env cE p3 [topFrame qf]) = some (S17 w os).abs := pc3 w os (r4 w os)
theorem r2 (w : World) (os : OsState) : topRun treeTable pw w m0 annE (30 + (20 + (31 + (10 + (42 + (42 + (10 + (10 + (35 + (10 + (31 + (30 + (35 + (38 + (27 + (2)))))))))))))) + 20172)) (S2 w os).abs (restOf [st2, st3, st4, st5, st6, st7, st8, st9, st10, st11, st12, st13, st14, st15, st16] env cE p2 [topFrame qf]) = some (S17 w os).abs := piece_cons (segRun_of (pc2 w os)) (r3 w os)
theorem r1 (w : World) (os : OsState) : topRun treeTable pw w m0 annE (999 + (30 + (20 + (31 + (10 + (42 + (42 + (10 + (10 + (35 + (10 + (31 + (30 + (35 + (38 + (27 + (2)))))))))))))) + 20172))) (S1 w os).abs (restOf [st1, st2, st3, st4, st5, st6, st7, st8, st9, st10, st11, st12, st13, st14, st15, st16] env cE p1 [topFrame qf]) = some (S17 w os).abs := piece_cons (segRun_of (pc1 w os)) (r2 w os)
theorem r0 (w : World) (os : OsState) : topRun treeTable pw w m0 annE (10 + (999 + (30 + (20 + (31 + (10 + (42 + (42 + (10 + (10 + (35 + (10 + (31 + (30 + (35 + (38 + (27 + (2)))))))))))))) + 20172)))) (S0 w os).abs (restOf [st0, st1, st2, st3, st4, st5, st6, st7, st8, st9, st10, st11, st12, st13, st14, st15, st16] env cE p0 [topFrame qf]) = some (S17 w os).abs := piece_cons (segRun_of (pc0 w os)) (r1 w os)
theorem run1 (w : World) (os : OsState) : topRun treeTable pw w m0 annE (12 + (1 + (10 + (999 + (30 + (20 + (31 + (10 + (42 + (42 + (10 + (10 + (35 + (10 + (31 + (30 + (35 + (38 + (27 + (2)))))))))))))) + 20172)))))) ⟨boot_heap w.params, #[], boot_drawn, boot_toks, os⟩ (topStub pw) = some (S17 w os).abs :=
  go_top (pre w os) (piece_block (blk w os) (r0 w os))
theorem open1 : ∀ w : World, (fencedOpening treeTable pw w 60000).map (fun s => (s.heap, s.gens, s.drawn, s.toks)) = some (boot_heap w.params, Array.mk [], boot_drawn, boot_toks) :=
  boot_open (by kernel_rfl) (by decide) (fun s => by kernel_rfl)
theorem size1 (w : World) : ((boot_heap w.params).isNs mainGlobals && (#[] : Array GenState).size == 0, (boot_heap w.params).objs.size, (boot_heap w.params).nsMap mainGlobals "__annotations__") = (true, m0, annE) := by kernel_rfl
abbrev HF (P : Params) : Heap := absHeap (T17 P) 137 lf
/-- a table whose keys go up -/
def upInts : Int → List (PyData × PyData) → Bool
  | _, [] => true
  | b, (.int k, _) :: D => decide (b < k) && upInts k D
  | _, _ => false
theorem no_key : ∀ {D : List (PyData × PyData)} {b k : Int}, upInts b D = true → k ≤ b → hasIntKey k D = false
  | [], _, _, _, _ => rfl
  | (.int j, _) :: D, b, k, h, hk => by
    simp only [upInts, Bool.and_eq_true, decide_eq_true_eq] at h
    have hj : (j == k) = false := by
      rw [beq_eq_false_iff_ne]
      omega
    show ((j == k) || hasIntKey k D) = false
    rw [hj, no_key h.2 (by omega), Bool.false_or]
  | (.none, _) :: _, _, _, h, _ => nomatch h
  | (.bool _, _) :: _, _, _, h, _ => nomatch h
  | (.str _, _) :: _, _, _, h, _ => nomatch h
  | (.list _, _) :: _, _, _, h, _ => nomatch h
  | (.tuple _, _) :: _, _, _, h, _ => nomatch h
  | (.dict _, _) :: _, _, _, h, _ => nomatch h
theorem apart_up : ∀ {D : List (PyData × PyData)} {b : Int}, upInts b D = true → keysApartInt D = true
  | [], _, _ => rfl
  | (.int j, _) :: D, b, h => by
    simp only [upInts, Bool.and_eq_true, decide_eq_true_eq] at h
    show (!hasIntKey j D && keysApartInt D) = true
    rw [no_key h.2 (Int.le_refl j), apart_up h.2]
    rfl
  | (.none, _) :: _, _, h => nomatch h
  | (.bool _, _) :: _, _, h => nomatch h
  | (.str _, _) :: _, _, h => nomatch h
  | (.list _, _) :: _, _, h => nomatch h
  | (.tuple _, _) :: _, _, h => nomatch h
  | (.dict _, _) :: _, _, h => nomatch h
/-- the table's pairs -/
def b3D : List (PyData × PyData) := ((b3_0 :: b3gs).flatten ++ b3last).map fun x => (.int x.1, .str x.2)
theorem b3_tab : tabIntOf view1 (Str.ofString "b3_exceptions") = some b3D := by kernel_rfl
theorem b3_apart : keysApartInt b3D = true := apart_up (b := -1) (by kernel_rfl)
theorem b3_tabOk (P : Params) : (HF P).tabIntOk (Str.ofString "b3_exceptions") b3D = true := by
  unfold Heap.tabIntOk
  rw [b3_apart]
  kernel_rfl
theorem val_names : valNames view1 = [Str.ofString "b1_set", Str.ofString "b3_exceptions", Str.ofString "ELLIPSIS_MARKER"] := by kernel_rfl
theorem tables1 (w : World) : tablesOk view1 (HF w.params) = true := by
  unfold tablesOk
  rw [val_names]
  simp only [List.all_cons, List.all_nil, Bool.and_true]
  rw [b3_tab]
  dsimp only
  rw [b3_tabOk]
  kernel_rfl
theorem look1 (w : World) (os : OsState) : (staticsOk (importedModules pw.main.body) (boot_heap w.params) (HF w.params) && namesBound pw (HF w.params) && gensDone ⟨HF w.params, #[], dr, 2311, os⟩ && laidKept (boot_heap w.params) (HF w.params)) = true := by kernel_rfl
theorem look2 (w : World) (os : OsState) : openSeen view1 loose1 (importedModules pw.main.body) (fun s => xlAt view1 [] s && recOk [] s) true ⟨HF w.params, #[], dr, 2311, os⟩ = openGood view1 loose1 := by
  unfold openSeen
  rw [tables1 w]
  kernel_rfl
theorem look3 (w : World) (os : OsState) : hook1.obs ⟨HF w.params, #[], dr, 2311, os⟩ = hook1.val w := by kernel_rfl
theorem left1 : LeftO pw view1 loose1 (fun s => xlAt view1 [] s && recOk [] s) hook1.obs hook1.val 60000 :=
  LeftO.of_pieces (H₀ := boot_heap) (H₁ := HF) (gs₀ := #[]) (gs₁ := #[]) (d₀ := boot_drawn) (d₁ := dr) (k₀ := boot_toks) (k₁ := 2311) (m₀ := m0) (ann := annE) (M := 21597) open1 size1 (fun w os => run1 w os) (by decide +kernel) (fun w => funext fun os => by rw [look1, look2, look3])
end
end Mine

end
section
set_option maxRecDepth 100000
set_option linter.unusedVariables false
set_option maxHeartbeats 4000000
namespace Mine
open PySem PySem.W PySem.Calls PySem.Spec PyProof.Rows

/-- a call from any frame of a def, over any heap that holds g: it comes back with a v such that V v, and all that stood stands -/
abbrev Tells (prog : Program) (w : World) (K : Frag) (p : Program) (loose : List Str) (mean : ExcName → Option Value) (mg mb : Str → Option Value) (g : Heap) (f : Value) (vs : List Value) (kw : List (Str × Value)) (d u : Nat) (V : Value → Prop) : Prop :=
  ∀ (dp un : Nat) (gd : Option (List Code)) (cn : Str) (cs : Scope) (a : Addr) (ccd : Value) (cl : List (Str × Addr)) (outer : List Env) (A₀ : Around) (base h₀ : Heap) (L : Addr) (m : Str → Option Value) (s : Shared)
    (Q E : Value → Shared → Prop),
    Below A₀ base outer h₀ → Fr h₀ L s.heap m → K.In h₀ → Top p loose mean mg mb h₀ → cs.kind = .function → g.StaysIn s.heap → dp + d < recursionLimit → un + u < cLine →
    (∀ v h' tk', V v → s.heap.StaysIn h' → Q v { s with heap := h', toks := tk' }) →
    wpAny (model prog w) (ktrTop dp un gd cn cs L a ccd cl outer) (call f vs kw) Q E s

theorem fr_stays {h₀ h h' : Heap} {L : Addr} {m : Str → Option Value} (F : Fr h₀ L h m) (st : h.StaysIn h') : Fr h₀ L h' m := by
  obtain ⟨⟨oL, es, ep, hL, r⟩, k, ab⟩ := F
  exact ⟨⟨oL, es, ep, st _ _ hL, r⟩, fun b o e => st _ _ (k b o e), ab⟩
theorem news_stays {h₀ h h' : Heap} {L : Addr} {news : List (Addr × Obj)} (N : News h₀ L h news) (st : h.StaysIn h') : News h₀ L h' news := fun p hp => ⟨st _ _ (N p hp).1, (N p hp).2⟩
theorem stays_trans {a b c : Heap} (x : a.StaysIn b) (y : b.StaysIn c) : a.StaysIn c := fun q o e => y _ _ (x _ _ e)

section
variable {prog : Program} {w : World} {K : Frag} {p : Program} {loose : List Str} {mean : ExcName → Option Value} {mg mb : Str → Option Value} {f : Value} {vs : List Value} {kw : List (Str × Value)} {news : List (Addr × Obj)} {d u : Nat} {V : Value → Prop} {g : Heap}
    {dp un : Nat} {gd : Option (List Code)} {cn : Str} {cs : Scope} {a : Addr} {ccd : Value} {cl : List (Str × Addr)} {outer : List Env} {A₀ : Around} {base h₀ : Heap} {L : Addr} {m : Str → Option Value} {s : Shared} {Q E : Value → Shared → Prop}
theorem tells_use (C : Tells prog w K p loose mean mg mb g f vs kw d u V) (B : Below A₀ base outer h₀) (F : Fr h₀ L s.heap m) (X : K.In h₀) (N : News h₀ L s.heap news) (T : Top p loose mean mg mb h₀) (hk : cs.kind = .function) (st : g.StaysIn s.heap) (hd : dp + d < recursionLimit) (hu : un + u < cLine)
    (h : ∀ v h' tk', V v → Fr h₀ L h' m → News h₀ L h' news → s.heap.StaysIn h' → Q v { s with heap := h', toks := tk' }) : wpAny (model prog w) (ktrTop dp un gd cn cs L a ccd cl outer) (call f vs kw) Q E s :=
  C _ _ _ _ _ _ _ _ _ _ _ _ _ _ _ _ _ B F X T hk st hd hu fun v h' tk' hv hs => h v h' tk' hv (fr_stays F hs) (news_stays N hs) hs
theorem tells_up {g' : Heap} (C : Tells prog w K p loose mean mg mb g f vs kw d u V) (st : g.StaysIn g') : Tells prog w K p loose mean mg mb g' f vs kw d u V := by
  intro dp un gd cn cs a ccd cl outer A₀ base h₀ L m s Q E B F X T hk st' hd hu hret
  exact C _ _ _ _ _ _ _ _ _ _ _ _ _ _ _ _ _ B F X T hk (stays_trans st st') hd hu hret
theorem tells_room {d' u' : Nat} (C : Tells prog w K p loose mean mg mb g f vs kw d u V) (hd' : d ≤ d') (hu' : u ≤ u') : Tells prog w K p loose mean mg mb g f vs kw d' u' V := by
  intro dp un gd cn cs a ccd cl outer A₀ base h₀ L m s Q E B F X T hk st' hd hu hret
  exact C _ _ _ _ _ _ _ _ _ _ _ _ _ _ _ _ _ B F X T hk st' (by omega) (by omega) hret

/-- entering a def: the ground is all that stands at the call -/
theorem enter {R : Result → Shared → Prop} {name qual : Str} {params : Arguments} {body : List Stmt} {scope : Scope} {dV kV doc pm cdv ct oc : Value} {an od : Option Addr} {osl : Array (Option Value)} {fa : Addr} {args : Args} (binds : List (Str × Value))
    (B : Below A₀ base outer h₀) (F : Fr h₀ L s.heap m) (X₀ : K.In h₀) (T : Top p loose mean mg mb h₀) (hke : cs.kind = .function)
    (ho : K.lookup fa = some ⟨oc, od, .func (fnOf name qual params body scope dV kV doc pm an cdv ct), osl⟩) (hcd : codeIn K cdv qual = true) (hroom : dp < recursionLimit)
    (hbind : BindsTo s (fnOf name qual params body scope dV kV doc pm an cdv ct) args binds) (hloc : ∀ y ∈ binds, scope.names.lookup y.1 = some .local)
    (h : ∀ L' h₁, Fr s.heap L' h₁ (fun y => binds.reverse.lookup y) → News s.heap L' h₁ [] → Below (ktrTop dp un gd cn cs L a ccd cl outer) base (envX cn cs L a ccd cl :: outer) s.heap → K.In s.heap → Top p loose mean mg mb s.heap →
      wpAny (model prog w) (ktrTop (dp + 1) (un + 3) gd qual scope L' fa cdv [] (envX cn cs L a ccd cl :: outer)) (execs body (envOf qual scope L' fa cdv))
        (fun fl s' => LeaveK h₀ L m s.heap R (match fl with | .ret v => v | _ => .none) s')
        (fun e s' => wpAny (model prog w) (ktrTop (dp + 1) (un + 3) gd qual scope L' fa cdv [] (envX cn cs L a ccd cl :: outer)) (leaving (envOf qual scope L' fa cdv) e) (fun _ s'' => R (.error e) s'') (fun e' s'' => R (.error e') s'') s')
        { s with heap := h₁, toks := s.toks + binds.length })
    (hco : scope.isCoroutine = false) (hgen : scope.isGenerator = false) (hk : scope.kind = .function)
    (hcell : ∀ x ∈ scope.names, x.2 ≠ .cell) : codeAny (model prog w) (ktrTop dp un gd cn cs L a ccd cl outer) (.call (.ref fa) args) R s := by
  have X := X₀.keeps F.keep
  refine codeAny_call_def (fd := fnOf name qual params body scope dV kV doc pm an cdv ct) (body := body) (binds := binds) hroom (X _ _ ho) rfl (T.nolimit.keeps F.keep) (codeRec_of X hcd) rfl hbind hcell hloc (fun h₁ hns hk₁ => ?_) hco hgen hk
  have B₁ := pushX (env := envX cn cs L a ccd cl) B F rfl hke
  refine wpAny_mono (h s.heap.objs.size h₁ ⟨hns, hk₁, Nat.le_refl _⟩ News.nil ⟨rfl, B₁.stays, B₁.frames⟩ X (T.keeps F.keep)) (fun fl s' hl => ?_) fun _ _ y => y
  obtain ⟨L', m', news', F', N', k⟩ := hl
  refine k (fr_stays F F'.keep) fun p hp => ⟨(N' p hp).1, fun q => ?_, ?_⟩
  · obtain ⟨oL, es, ep, hL, r⟩ := F.ns
    have := (N' p hp).2.2
    rw [q, hL] at this; cases this
  · cases q : h₀.get? p.1 with
    | none => rfl
    | some o => have := (N' p hp).2.2; rw [F.keep _ _ q] at this; cases this
end

theorem cw_led {M : Model} {A : Around} {E : Value → Shared → Prop} {s : Shared} {env : Env} {pos : Pos} {Q : Value → Shared → Prop} {e : Expr} {rest : List Expr} {q : Addr} {c : Value} {od : Option Addr} {fd : FuncData} {sl : Array (Option Value)}
    (h : wpAny M A (spliced (backTo pos (starEach (e :: rest) env))) (fun vs s₁ => s₁.heap.get? q = some ⟨c, od, .func fd, sl⟩ ∧ wpAny M A (call (.ref q) ([] ++ vs)) Q E s₁) E s)
    (he : starEach (e :: rest) env = (false, eval e env) :: starEach rest env := by rfl) (hplain : (backTo pos (starEach rest env)).any (·.1) = false := by rfl) :
    wpAny M A (callWith pos (.ref q) [] (backTo pos (starEach (e :: rest) env)) []) Q E s := by
  rw [he] at h ⊢
  exact callWith_of (P := fun h => h.get? q = some ⟨c, od, .func fd, sl⟩) (by show ((false || (backTo pos (starEach rest env)).any (·.1)) || false) = false; rw [hplain]; rfl)
    (fun h hp => ⟨.frame, .inl rfl, (Looks.ld (part := none) hp).andThen .now⟩) (evalArgs_plain h)

/-- the halving of a line of signs: the first that is true -/
def bis (f : Nat → Bool) : Nat → Nat → Nat → Nat
  | 0, lo, _ => lo
  | n + 1, lo, hi => if lo < hi then (if f ((lo + hi) / 2) then bis f n lo ((lo + hi) / 2) else bis f n ((lo + hi) / 2 + 1) hi) else lo

theorem bis_fuel (f : Nat → Bool) : ∀ (j lo hi : Nat), hi - lo ≤ j → bis f j lo hi = bis f (hi - lo) lo hi := by
  intro j
  induction j using Nat.strongRecOn with
  | ind j ih =>
    intro lo hi h
    cases j with
    | zero => rw [show hi - lo = 0 by omega]
    | succ j =>
      cases e : hi - lo with
      | zero =>
        have : ¬ lo < hi := by omega
        simp [bis, this]
      | succ d =>
        have hlt : lo < hi := by omega
        simp only [bis, hlt, if_true]
        rw [ih j (by omega) lo ((lo + hi) / 2) (by omega), ih j (by omega) ((lo + hi) / 2 + 1) hi (by omega)]
        by_cases hd : d = j
        · subst hd
          rw [ih d (by omega) lo ((lo + hi) / 2) (by omega), ih d (by omega) ((lo + hi) / 2 + 1) hi (by omega)]
        · rw [ih d (by omega) lo ((lo + hi) / 2) (by omega), ih d (by omega) ((lo + hi) / 2 + 1) hi (by omega)]
def BisInv (f : Nat → Bool) (n lo₀ : Nat) (lo hi : Int) : Prop := 0 ≤ lo ∧ lo ≤ hi ∧ hi ≤ n ∧ bis f n lo₀ n = bis f (hi - lo).toNat lo.toNat hi.toNat
theorem BisInv.start (f : Nat → Bool) {n lo₀ : Nat} (h : lo₀ ≤ n) : BisInv f n lo₀ lo₀ n := by
  refine ⟨by omega, by omega, by omega, ?_⟩
  rw [Int.toNat_natCast, Int.toNat_natCast, show ((n : Int) - lo₀).toNat = n - lo₀ by omega]
  exact bis_fuel f n lo₀ n (by omega)
theorem bis_mid {lo hi : Int} (h0 : 0 ≤ lo) (h : lo < hi) : ((lo + hi).fdiv 2).toNat = (lo.toNat + hi.toNat) / 2 ∧ lo ≤ (lo + hi).fdiv 2 ∧ (lo + hi).fdiv 2 < hi := by
  rw [Int.fdiv_eq_ediv_of_nonneg _ (by omega)]
  omega
theorem BisInv.up {f : Nat → Bool} {n lo₀ : Nat} {lo hi : Int} (I : BisInv f n lo₀ lo hi) (h : lo < hi) (hf : f ((lo + hi).fdiv 2).toNat = false) : BisInv f n lo₀ ((lo + hi).fdiv 2 + 1) hi := by
  obtain ⟨h0, h1, h2, e⟩ := I
  obtain ⟨m1, m2, m3⟩ := bis_mid h0 h
  refine ⟨by omega, by omega, h2, ?_⟩
  rw [e]
  rw [m1] at hf
  obtain ⟨d, hd⟩ : ∃ d, (hi - lo).toNat = d + 1 := ⟨(hi - lo).toNat - 1, by omega⟩
  have hlt : lo.toNat < hi.toNat := by omega
  rw [hd]
  simp only [bis, hlt, if_true, hf]
  have e1 : ((lo + hi).fdiv 2 + 1).toNat = (lo.toNat + hi.toNat) / 2 + 1 := by omega
  rw [e1, show (hi - ((lo + hi).fdiv 2 + 1)).toNat = hi.toNat - ((lo.toNat + hi.toNat) / 2 + 1) by omega]
  simp only [Bool.false_eq_true, if_false]
  exact bis_fuel f d _ _ (by omega)
theorem BisInv.down {f : Nat → Bool} {n lo₀ : Nat} {lo hi : Int} (I : BisInv f n lo₀ lo hi) (h : lo < hi) (hf : f ((lo + hi).fdiv 2).toNat = true) : BisInv f n lo₀ lo ((lo + hi).fdiv 2) := by
  obtain ⟨h0, h1, h2, e⟩ := I
  obtain ⟨m1, m2, m3⟩ := bis_mid h0 h
  refine ⟨h0, m2, by omega, ?_⟩
  rw [e]
  rw [m1] at hf
  obtain ⟨d, hd⟩ : ∃ d, (hi - lo).toNat = d + 1 := ⟨(hi - lo).toNat - 1, by omega⟩
  have hlt : lo.toNat < hi.toNat := by omega
  rw [hd]
  simp only [bis, hlt, if_true, hf]
  rw [bis_fuel f d _ _ (by omega), m1, show ((lo + hi).fdiv 2 - lo).toNat = (lo.toNat + hi.toNat) / 2 - lo.toNat by omega]
theorem BisInv.at {f : Nat → Bool} {n lo₀ : Nat} {lo hi : Int} (I : BisInv f n lo₀ lo hi) (h : lo < hi) (hz : n ≤ 1000) : ((lo + hi).fdiv 2).toNat < n ∧ 0 ≤ (lo + hi).fdiv 2 ∧ (lo + hi).fdiv 2 < 2 ^ 63 := by
  obtain ⟨m1, m2, m3⟩ := bis_mid I.1 h
  obtain ⟨h0, h1, h2, _⟩ := I
  omega
theorem lt_true {b : Bool} (h : b2i b < b2i true) : b = false := by cases b <;> simp_all [b2i]
theorem not_lt_true {b : Bool} (h : ¬ b2i b < b2i true) : b = true := by cases b <;> simp_all [b2i]
theorem BisInv.done {f : Nat → Bool} {n lo₀ : Nat} {lo hi : Int} (I : BisInv f n lo₀ lo hi) (h : ¬ lo < hi) : lo = bis f n lo₀ n := by
  obtain ⟨h0, h1, h2, e⟩ := I
  rw [e, show (hi - lo).toNat = 0 by omega]
  simp only [bis]
  omega

theorem gt_false {b : Bool} (h : b2i false < b2i b) : b = true := by cases b <;> simp_all [b2i]
theorem not_gt_false {b : Bool} (h : ¬ b2i false < b2i b) : b = false := by cases b <;> simp_all [b2i]
end Mine

end
section
set_option maxRecDepth 100000
namespace Mine
open PySem PySem.W PySem.Calls PySem.Spec PyProof.Rows Builtin Builtin.Str StrLaws
def find4 (x y : Str) (i j : Int) : Int := match occurrences x y (fromIndex x.length i) (min (fromIndex x.length j) x.length) 1 with | k :: _ => (k : Int) | [] => -1
theorem gives_find4 (x y : Str) (i j : Int) (t u v v' : Tok) : Gives («str.find» ⟨[.str x t, .str y u, .int i v, .int j v'], []⟩) (.int (find4 x y i j)) := by
  show Gives (match occurrences x y (fromIndex x.length i) (min (fromIndex x.length j) x.length) 1 with | k :: _ => retInt k | [] => (do rule "str.find.not-found"; retInt (-1))) _
  unfold find4
  cases occurrences x y (fromIndex x.length i) (min (fromIndex x.length j) x.length) 1 with
  | nil => exact .rule (.of_eq rfl)
  | cons k r => exact .of_eq rfl
theorem call_find4 {prog : Program} {w : World} {A : Around} {E : Value → Shared → Prop} {s : Shared} {Q : Value → Shared → Prop} {x y : Str} {i j : Int} {t u v v' : Tok} (hq : Q (.int (find4 x y i j) s.toks) { s with toks := s.toks + 1 }) :
    wpAny (model prog w) A (call (.builtin "str.find") [.str x t, .str y u, .int i v, .int j v']) Q E s :=
  call_gives F.slot_str_find (typeIs_str _ _ _) F.entry_str_find (F.args_str_find_4 _ _ _ _) (gives_find4 x y i j t u v v') hq

/-- the first place between two bounds -/
theorem occ_head_in (x y : Str) (lo hi : Nat) :
    (occurrences x y lo hi 1 = [] ∧ ∀ i, lo ≤ i → ¬ At x y hi i) ∨ ∃ i r, occurrences x y lo hi 1 = i :: r ∧ lo ≤ i ∧ At x y hi i ∧ ∀ k, lo ≤ k → k < i → ¬ At x y hi k := by
  rw [occ_eq]
  rcases occ_first x y hi 1 (Nat.le_refl 1) (List.range' lo (hi + 1 - lo)) lo (fun i hi => (List.mem_range'_1.mp hi).1) with ⟨h0, hn⟩ | ⟨pre, a, post, e, h0, ha, hn⟩
  · exact .inl ⟨by rw [h0], fun i hlo hat => hn i (List.mem_range'_1.mpr ⟨hlo, by have := hat.1; omega⟩) hat⟩
  · have hs := range'_split_from e
    generalize (forIn (List.range' lo (hi + 1 - lo)) ((#[] : Array Nat), lo) (occBody x y hi 1)).run.fst = arr at h0
    have h1 : arr.toList[0]? = some a := by simpa using h0
    cases hL : arr.toList with
    | nil => rw [hL] at h1; cases h1
    | cons b t =>
      rw [hL] at h1
      obtain rfl : b = a := by simpa using h1
      exact .inr ⟨b, t, rfl, hs.1, ha, fun k hk0 hk => hn k (hs.2 k hk0 hk)⟩
theorem from_nat (n k : Nat) : fromIndex n (k : Int) = k := by
  unfold fromIndex
  have : ¬ ((k : Int) < 0) := by omega
  rw [if_neg this]
  omega
theorem at_empty (x : Str) (hi i : Nat) : At x Str.empty hi i ↔ i ≤ hi := by
  constructor
  · intro h; have := h.1; simp [Str.length, Str.empty] at this; omega
  · intro h
    refine ⟨by simp [Str.length, Str.empty]; omega, ?_⟩
    rw [subAt_eq]
    simp [Str.length, Str.empty]
theorem find4_empty {x : Str} {i j : Nat} (h : i ≤ j) (hj : j ≤ x.length) : find4 x Str.empty i j = i := by
  unfold find4
  rw [from_nat, from_nat, Nat.min_eq_left hj]
  rcases occ_head_in x Str.empty i j with ⟨_, hn⟩ | ⟨k, r, e, h1, h2, h3⟩
  · exact absurd ((at_empty x j i).mpr h) (hn i (Nat.le_refl _))
  · rw [e]
    have : ¬ i < k := fun q => h3 i (Nat.le_refl _) q ((at_empty x j i).mpr h)
    have : k = i := by omega
    rw [this]
theorem starts_empty (x : Str) : Txt.startswith x Str.empty = true := by
  unfold Txt.startswith
  have := (at_empty x x.length 0).mpr (Nat.zero_le _)
  rw [this.2]
  simp [Str.length, Str.empty]

abbrev dots : Str := Str.ofString "..."
def plainS (a : Str) : Prop := ∀ c ∈ a.cps.toList, c ≠ 46
theorem dots_cps : dots.cps.toList = [46, 46, 46] := by decide +kernel
theorem dots_len : dots.length = 3 := by decide +kernel
theorem app_toList (a b : Str) : (a ++ b).cps.toList = a.cps.toList ++ b.cps.toList := by
  show (a.cps ++ b.cps).toList = _
  simp
theorem at_dots {a : Str} (h : plainS a) (i : Nat) : At (a ++ dots) dots (a ++ dots).length i ↔ i = a.length := by
  have hl : (a ++ dots).length = a.length + 3 := by rw [Str.length_append, dots_len]
  have ha : a.cps.toList.length = a.length := by simp [Str.length]
  unfold At
  rw [subAt_eq, hl, dots_len, app_toList, dots_cps]
  constructor
  · rintro ⟨h1, h2⟩
    rcases Nat.lt_or_ge i a.length with q | q
    · exfalso
      have hi : i < a.cps.toList.length := by omega
      have e : ((a.cps.toList ++ [46, 46, 46]).drop i).take 3 = [46, 46, 46] := by simpa using h2
      have e0 := congrArg (·[0]?) e
      simp only [List.getElem?_take, List.getElem?_drop] at e0
      rw [if_pos (by omega), List.getElem?_append_left (by omega), List.getElem?_eq_getElem (by omega)] at e0
      have e1 : a.cps.toList[i + 0] = 46 := by simpa using e0
      exact h _ (List.getElem_mem (by omega)) e1
    · omega
  · rintro rfl
    refine ⟨Nat.le_refl _, ?_⟩
    rw [← ha, List.drop_left]
    rfl
theorem occ_dots {a : Str} (h : plainS a) : (occurrences (a ++ dots) dots 0 (a ++ dots).length 1).isEmpty = false := by
  have hl : (a ++ dots).length = a.length + 3 := by rw [Str.length_append, dots_len]
  rcases occ_head_in (a ++ dots) dots 0 (a ++ dots).length with ⟨_, hn⟩ | ⟨k, r, e, _⟩
  · exact absurd ((at_dots h a.length).mpr rfl) (hn _ (Nat.zero_le _))
  · rw [e]; rfl
theorem chain_le {s sub : Str} {hi : Nat} (hw : 1 ≤ sub.length) {p : Nat} (hp : ∀ i, At s sub hi i ↔ i = p) : ∀ {a : Nat} {cuts : List Nat} {f : Nat}, ChainG s sub hi a cuts f → (∀ k, f ≤ k → ¬ At s sub hi k) → a ≤ p → cuts = [p]
  | a, [], f, h, hn, ha => by
    have : f = a := h
    exact absurd ((hp p).mpr rfl) (hn p (by omega))
  | a, i :: r, f, h, hn, ha => by
    obtain ⟨h1, h2, h3, h4⟩ := h
    have hip : i = p := (hp i).mp h2
    subst hip
    have : r = [] := by
      cases r with
      | nil => rfl
      | cons j r' =>
        obtain ⟨g1, g2, _, _⟩ := h4
        have := (hp j).mp g2
        omega
    rw [this]
theorem occ_all_dots {a : Str} (h : plainS a) : occurrences (a ++ dots) dots 0 (a ++ dots).length ((a ++ dots).length + 1) = [a.length] := by
  obtain ⟨f, hc, hn⟩ := occ_tight (a ++ dots) dots (by rw [dots_len]; omega)
  exact chain_le (by rw [dots_len]; omega) (at_dots h) hc hn (Nat.zero_le _)
theorem split_dots {a : Str} (h : plainS a) : Txt.split (a ++ dots) dots = [a, Str.empty] := by
  have hl : (a ++ dots).length = a.length + 3 := by rw [Str.length_append, dots_len]
  unfold Txt.split
  have h1 : ¬ (a ++ dots).length < dots.length := by rw [hl, dots_len]; omega
  have hk : Builtin.Str.strKind dots = 1 := by decide +kernel
  have h2 : ¬ Builtin.Str.strKind (a ++ dots) < Builtin.Str.strKind dots := by rw [hk]; unfold Builtin.Str.strKind; split <;> (try split) <;> omega
  rw [if_neg (by simp [h1, h2]), occ_all_dots h, if_neg (by simp)]
  unfold partsBetween
  simp only [List.map_cons, List.map_nil, List.zip_cons_cons, List.cons_append, List.nil_append, List.zip_nil_right]
  have e1 : strSub (a ++ dots) 0 a.length = a := by
    apply Str.ext'
    apply Array.toList_inj.mp
    rw [strSub_toList, app_toList]
    have ha : a.cps.toList.length = a.length := by simp [Str.length]
    rw [← ha]
    simp
  have e2 : strSub (a ++ dots) (a.length + dots.length) (a ++ dots).length = Str.empty := by
    apply Str.ext'
    apply Array.toList_inj.mp
    rw [strSub_toList, hl, dots_len]
    simp [Str.empty]
  rw [e1, e2]
end Mine

end
section
set_option maxRecDepth 100000
set_option linter.unusedVariables false
namespace Mine
open PySem PySem.W PySem.Calls PySem.Spec PyProof.Rows Builtin Builtin.Str StrLaws
/-- a text by its signs' numbers -/
abbrev Sx (l : List Nat) : Str := ⟨l.toArray⟩
theorem sx_len (l : List Nat) : (Sx l).length = l.length := by simp [Str.length]
theorem sx_list (l : List Nat) : (Sx l).cps.toList = l := rfl
/-- whether the text's stretch of k signs from i on is the one that begins q behind -/
def alikeL (l : List Nat) (i q k : Nat) : Bool := (l.drop (i + q)).take k == (l.drop i).take k
theorem slice_ab (l : List Nat) {i k : Nat} (h : i + k ≤ l.length) : Txt.slice (Sx l) (some (i : Int)) (some ((i : Int) + (k : Int))) = Sx ((l.drop i).take k) := by
  have e := beq_iff_eq.mp (slice_closesL (x := Sx l) (i := (i : Int)) (j := (i : Int) + k) (by omega) (by omega) (by rw [sx_len]; omega))
  rw [e, Int.toNat_natCast, show ((i : Int) + k - i).toNat = k by omega]
theorem slice_a (l : List Nat) {i q : Nat} (h : i + q ≤ l.length) : Txt.slice (Sx l) (some ((i : Int) + (q : Int))) none = Sx (l.drop (i + q)) := by
  rw [slice_from_eq (x := Sx l) (i := (i : Int) + q) (b := (Sx l).length) (by omega) (by rw [sx_len]; omega) rfl, sx_len, sx_list, show ((i : Int) + q).toNat = i + q by omega, List.take_of_length_le (by rw [List.length_drop]; omega)]
theorem starts_sx (l r : List Nat) : Txt.startswith (Sx l) (Sx r) = (decide (r.length ≤ l.length) && l.take r.length == r) := by
  unfold Txt.startswith
  rw [subAt_eq, sx_len, sx_len, sx_list, sx_list, List.drop_zero, Nat.zero_add]
theorem starts_slices (l : List Nat) {i q k : Nat} (h : i + q + k ≤ l.length) : Txt.startswith (Sx (l.drop (i + q))) (Sx ((l.drop i).take k)) = alikeL l i q k := by
  rw [starts_sx]
  have e : ((l.drop i).take k).length = k := by rw [List.length_take, List.length_drop]; omega
  rw [e, List.length_drop, decide_eq_true (by omega), Bool.true_and]
  rfl
theorem plain_sx {l : List Nat} (h : ∀ c ∈ l, c ≠ 46) (i k : Nat) : plainS (Sx ((l.drop i).take k)) := fun c hc => h c (List.mem_of_mem_drop (List.mem_of_mem_take hc))
end Mine

end
section
set_option maxRecDepth 100000
set_option linter.unusedVariables false
set_option maxHeartbeats 1000000
namespace Mine
open PySem PySem.W PySem.Calls PySem.Spec PyProof.Rows PyProof.V
section
variable {prog : Program} {w : World} {K : Frag} {p : Program} {loose : List Str} {mean : ExcName → Option Value} {mg mb : Str → Option Value}
    {dp un : Nat} {gd : Option (List Code)} {cn : Str} {cs : Scope} {a : Addr} {ccd : Value} {cl : List (Str × Addr)} {outer : List Env} {A₀ : Around} {base h₀ : Heap} {L : Addr} {m : Str → Option Value} {s : Shared}
/-- entering a lambda's body: the ground is all that stands at the call -/
theorem enterL {R : Result → Shared → Prop} {name qual : Str} {params : Arguments} {body : Expr} {scope : Scope} {clos : List (Str × Addr)} {pm ctv : Value} {c' f : Addr} {args : Args} (binds : List (Str × Value))
    (B : Below A₀ base outer h₀) (F : Fr h₀ L s.heap m) (X₀ : K.In h₀) (T : Top p loose mean mg mb h₀) (hke : cs.kind = .function)
    (ho : s.heap.get? f = some (kla_obj name qual params body scope clos pm c' ctv)) (hcd : s.heap.CodeRec (.ref c') qual) (hroom : dp < recursionLimit)
    (hbind : bindArgs (kla_fn name qual params body scope clos pm (.ref c') ctv) args = pure binds) (hloc : ∀ y ∈ binds, scope.names.lookup y.1 = some .local)
    (h : ∀ L' h₁, Fr s.heap L' h₁ (fun y => binds.reverse.lookup y) → News s.heap L' h₁ [] → Below (ktrTop dp un gd cn cs L a ccd cl outer) base (envX cn cs L a ccd cl :: outer) s.heap → K.In s.heap → Top p loose mean mg mb s.heap →
      wpAny (model prog w) (ktrTop (dp + 1) (un + 3) gd qual scope L' f (.ref c') clos (envX cn cs L a ccd cl :: outer)) (eval body (envX qual scope L' f (.ref c') clos))
        (fun v s' => LeaveK h₀ L m s.heap R v s')
        (fun e s' => wpAny (model prog w) (ktrTop (dp + 1) (un + 3) gd qual scope L' f (.ref c') clos (envX cn cs L a ccd cl :: outer)) (leaving (envX qual scope L' f (.ref c') clos) e) (fun _ s'' => R (.error e) s'') (fun e' s'' => R (.error e') s'') s')
        { s with heap := h₁, toks := s.toks + binds.length })
    (hco : scope.isCoroutine = false) (hgen : scope.isGenerator = false) (hk : scope.kind = .function)
    (hcell : ∀ x ∈ scope.names, x.2 ≠ .cell) : codeAny (model prog w) (ktrTop dp un gd cn cs L a ccd cl outer) (.call (.ref f) args) R s := by
  have X := X₀.keeps F.keep
  refine kla_callFunE hroom ho rfl hco hgen rfl hcd ?_
  rw [hbind]
  refine wpAny_pure (wpAny_newFunctionEnv hcell hloc (fun h₁ hns hsb => ⟨((T.nolimit).keeps F.keep).fresh _ hsb, ?_⟩) hk)
  have hk₁ : ∀ b o, s.heap.get? b = some o → h₁.get? b = some o := fun b o e => hsb.extBut b o (Nat.ne_of_lt (Heap.lt_size e)) (Heap.get?_push_of_some _ e)
  have B₁ := pushX (env := envX cn cs L a ccd cl) B F rfl hke
  show codeAny _ _ (.expr body (envX qual scope s.heap.objs.size f (.ref c') clos)) _ _
  refine kla_codeExpr (wpAny_mono (h s.heap.objs.size h₁ ⟨hns, hk₁, Nat.le_refl _⟩ News.nil ⟨rfl, B₁.stays, B₁.frames⟩ X (T.keeps F.keep)) (fun v s' hl => ?_) fun _ _ y => y)
  obtain ⟨L', m', news', F', N', k⟩ := hl
  refine k (fr_stays F F'.keep) fun p hp => ⟨(N' p hp).1, fun q => ?_, ?_⟩
  · obtain ⟨oL, es, ep, hL, r⟩ := F.ns
    have := (N' p hp).2.2
    rw [q, hL] at this; cases this
  · cases q : h₀.get? p.1 with
    | none => rfl
    | some o => have := (N' p hp).2.2; rw [F.keep _ _ q] at this; cases this
end
theorem nameX_Fg {M : Model} {A : Around} {E : Value → Shared → Prop} {s : Shared} {h₀ : Heap} {L a : Addr} {m : Str → Option Value} {cn : Str} {cs : Scope} {ccd : Value} {cl : List (Str × Addr)} {x : Str} {pos : Pos} {v : Value} {Q : Value → Shared → Prop} {c : Addr} {o : Obj}
    (F : Fr h₀ L s.heap m) (hg : h₀.get? c = some o) (hd : o.data = .cell (some v)) (hc : cl.lookup x = some c) (h : Q v s)
    (hk : cs.kind = .function := by rfl) (hx : (envX cn cs L a ccd cl).kindOf x = some .free := by rfl) (hb : (x == ("__debug__" : Str)) = false := by decide) (hn : (x == ("__classdict__" : Str)) = false := by decide) :
    wpAny M A (eval (.Name x pos) (envX cn cs L a ccd cl)) Q E s := wpAny_Name (wpAny_loadName_free hk hx hc ⟨o, F.keep _ _ hg, hd⟩ h hn) hb
def lamOf : Stmt → Expr
  | .Assign _ v _ => v
  | _ => default
def lamP : Expr → Arguments
  | .Lambda p _ _ _ => p
  | _ => default
def lamB : Expr → Expr
  | .Lambda _ b _ _ => b
  | _ => default
def lamS : Expr → Scope
  | .Lambda _ _ s _ => s
  | _ => default
def lamQ : Str := (Str.ofString "_law_places" ++ Str.ofString ".<locals>.") ++ Str.ofString "<lambda>"
/-- the table of _law_places's code: empty, or holding the lambda's code -/
def TabN (tn : List (Addr × Obj)) : Prop := tn = [(126, tabObj #[])] ∨ ∃ c' oc vs t, tn = [(126, tabObj #[rawInt 107, rawInt 16, .ref c']), (c', oc)] ∧ oc.data = .fields vs ∧ vs[1]? = some (.str lamQ t) ∧ 126 < c'
theorem TabN.one {tn : List (Addr × Obj)} (h : TabN tn) : ∃ ps, (126, tabObj ps) ∈ tn := by
  rcases h with rfl | ⟨c', oc, vs, t, rfl, _⟩
  · exact ⟨_, .head _⟩
  · exact ⟨_, .head _⟩
/-- a call that may fill the table -/
abbrev TellsT (prog : Program) (w : World) (K : Frag) (p : Program) (loose : List Str) (mean : ExcName → Option Value) (mg mb : Str → Option Value) (f : Value) (vs : List Value) (kw : List (Str × Value)) (d u : Nat) (V : Value → List (Addr × Obj) → Prop) : Prop :=
  ∀ (dp un : Nat) (gd : Option (List Code)) (cn : Str) (cs : Scope) (a : Addr) (ccd : Value) (cl : List (Str × Addr)) (outer : List Env) (A₀ : Around) (base h₀ : Heap) (L : Addr) (m : Str → Option Value) (s : Shared) (tn : List (Addr × Obj))
    (Q E : Value → Shared → Prop),
    Below A₀ base outer h₀ → Fr h₀ L s.heap m → K.In h₀ → Top p loose mean mg mb h₀ → cs.kind = .function → News h₀ L s.heap tn → TabN tn → dp + d < recursionLimit → un + u < cLine →
    (∀ v h' tk' tn' nx, V v nx → Heap.ExtBut 126 s.heap h' → News h₀ L h' (tn' ++ nx) → TabN tn' → (∀ p ∈ tn' ++ nx, (∃ q ∈ tn, q.1 = p.1) ∨ s.heap.get? p.1 = none) → (∀ q ∈ tn, q.1 ≠ 126 → q ∈ tn') → Q v { s with heap := h', toks := tk' }) →
    wpAny (model prog w) (ktrTop dp un gd cn cs L a ccd cl outer) (call f vs kw) Q E s

theorem leN {a b : Nat} (h : a ≤ b) : a ≤ b := h
theorem news_sub {h₀ h : Heap} {L : Addr} {a b : List (Addr × Obj)} (N : News h₀ L h b) (h9 : ∀ p ∈ a, p ∈ b) : News h₀ L h a := fun p hp => N p (h9 p hp)
section
variable {prog : Program} {w : World} {K : Frag} {p : Program} {loose : List Str} {mean : ExcName → Option Value} {mg mb : Str → Option Value}
    {dp un : Nat} {gd : Option (List Code)} {cn : Str} {cs : Scope} {a : Addr} {ccd : Value} {cl : List (Str × Addr)} {outer : List Env} {A₀ : Around} {base h₀ : Heap} {L : Addr} {m : Str → Option Value} {s : Shared} {tn : List (Addr × Obj)}
/-- what stands apart from the table stands at the end -/
theorem ext_of {g h' : Heap} {L' : Addr} {m' : Str → Option Value} {news' : List (Addr × Obj)} (hK : ∀ b o, s.heap.get? b = some o → (∀ q ∈ tn, q.1 ≠ b) → g.get? b = some o) (F : Fr g L' h' m') (N' : News g L' h' news')
    (N : News h₀ L s.heap tn) (ht : ∀ q ∈ tn, q.1 ≠ 126 → q ∈ news') : Heap.ExtBut 126 s.heap h' := by
  intro b o hb e
  by_cases hq : ∃ q ∈ tn, q.1 = b
  · obtain ⟨q, hq, rfl⟩ := hq
    have e2 := (N q hq).1
    rw [e] at e2
    rw [Option.some.inj e2]
    exact (N' q (ht q hq hb)).1
  · exact F.keep b o (hK b o e fun q hm e2 => hq ⟨q, hm, e2⟩)
/-- entering a def with cells: the ground is all that stands at the call, but for what is laid aside -/
theorem enterC {R : Result → Shared → Prop} {name qual : Str} {params : Arguments} {body : List Stmt} {scope : Scope} {dV kV doc pm cdv ct oc : Value} {an od : Option Addr} {osl : Array (Option Value)} {fa : Addr} {args : Args} (binds : List (Str × Value))
    (B : Below A₀ base outer h₀) (F : Fr h₀ L s.heap m) (X₀ : K.In h₀) (T : Top p loose mean mg mb h₀) (hke : cs.kind = .function) (N : News h₀ L s.heap tn)
    (ho : K.lookup fa = some ⟨oc, od, .func (fnOf name qual params body scope dV kV doc pm an cdv ct), osl⟩) (hcd : codeIn K cdv qual = true) (hroom : dp < recursionLimit)
    (hbind : BindsTo s (fnOf name qual params body scope dV kV doc pm an cdv ct) args binds) (hkind : (binds.all fun y => scope.names.lookup y.1 == some .local || scope.names.lookup y.1 == some .cell) = true)
    (hnd : ((cellsFrom 0 scope.names []).map (·.1)).Nodup)
    (h : ∀ g L' h₁ tk cells, s.heap.objs.size ≤ L' → (∀ b o, s.heap.get? b = some o → (∀ q ∈ tn, q.1 ≠ b) → g.get? b = some o) → Fr g L' h₁ (bindL (envOfC qual scope L' fa cdv).kindOf binds fun _ => none) → News g L' h₁ (cells ++ tn) →
      CellsAre (bindC (envOfC qual scope L' fa cdv).kindOf binds fun _ => none) (cellsFrom (L' + 1) scope.names []) cells → Below (ktrTop dp un gd cn cs L a ccd cl outer) base (envX cn cs L a ccd cl :: outer) g → K.In g → Top p loose mean mg mb g → (∀ q ∈ tn, q.1 < L') →
      wpAny (model prog w) ((ktrTop dp un gd cn cs L a ccd cl outer).deeper (envOfC qual scope L' fa cdv)) (execs body (envOfC qual scope L' fa cdv))
        (fun fl s' => LeaveK h₀ L m g R (match fl with | .ret v => v | _ => .none) s')
        (fun e s' => wpAny (model prog w) ((ktrTop dp un gd cn cs L a ccd cl outer).deeper (envOfC qual scope L' fa cdv)) (leaving (envOfC qual scope L' fa cdv) e) (fun _ s'' => R (.error e) s'') (fun e' s'' => R (.error e') s'') s')
        { s with heap := h₁, toks := tk })
    (hco : scope.isCoroutine = false) (hgen : scope.isGenerator = false) (hk : scope.kind = .function) : codeAny (model prog w) (ktrTop dp un gd cn cs L a ccd cl outer) (.call (.ref fa) args) R s := by
  have X := X₀.keeps F.keep
  obtain ⟨FG, BG, st, lv⟩ := groundX (R := R) B F N (A := ktrTop dp un gd cn cs L a ccd cl outer) (env := envX cn cs L a ccd cl) rfl rfl hke
  refine codeAny_call_function hroom (X _ _ ho) rfl hco hgen rfl (codeRec_of X hcd) (hbind _ _ _ _ ?_)
  refine wpAny_newFunctionEnv_cells hk (kindsX hkind _) fun env' he s' x => ?_
  subst he
  refine ⟨(T.nolimit.keeps F.keep).keeps x.toInCall.keep, codeAny_func ?_⟩
  obtain ⟨h₁, tk, rfl, _⟩ := x.done
  have hk₁ := x.toInCall.keep
  obtain ⟨cells, NC, Y⟩ := Cl.news (h₀ := s.heap) (Nat.le_refl _) fun n c hm => ⟨x.cell n c (lookup_of_mem_nodup (cellsFrom_names scope.names 0 (s.heap.objs.size + 1) [] [] rfl ▸ hnd) hm), x.above n c hm⟩
  have hid : ∀ b o, s.heap.get? b = some o → (∀ q ∈ tn, q.1 ≠ b) → (hideAll s.heap (tn.map (·.1))).get? b = some o := fun b o e hq => hideAll_get _ e fun hm => by
    obtain ⟨q, hq', e2⟩ := List.mem_map.mp hm
    exact hq q hq' e2
  refine wpAny_mono (h _ s.heap.objs.size h₁ tk cells (Nat.le_refl _) hid ⟨x.toInCall.ns, fun b o e => hk₁ b o (of_hideAll _ e), Nat.le_of_eq (hideAll_size _ _)⟩ (fun q hq => ?_) Y BG (X₀.keeps st) (T.keeps st) (fun q hq => Heap.lt_size (N q hq).1)) (fun fl s' hl => lv _ _ hl) fun _ _ y => y
  rcases List.mem_append.mp hq with hq | hq
  · refine ⟨(NC q hq).1, (NC q hq).2.1, ?_⟩
    cases q2 : (hideAll s.heap (tn.map (·.1))).get? q.1 with
    | none => rfl
    | some o => have := of_hideAll _ q2; rw [(NC q hq).2.2] at this; cases this
  · exact ⟨hk₁ _ _ (N q hq).1, Nat.ne_of_lt (Heap.lt_size (N q hq).1), hideAll_none _ (List.mem_map_of_mem hq)⟩
end
theorem isList_of {g h : Heap} {L d : Addr} {o : Obj} {vs : Array Value} {news : List (Addr × Obj)} (N : News g L h news) (hm : (d, o) ∈ news) (hc : o.cls = .type "list") (hd : ∃ n, o.data = .seq vs n) : h.IsList d vs :=
  ⟨o, (N _ hm).1, hc, hd⟩
theorem steps_int {vs : List Value} {n : Nat} {x : Int} (h : IntsAre vs (rangeKs 0 x.toNat)) (hn : x.toNat = n) : (∀ i, i < n → ∃ t, vs[i]? = some (.int i t)) ∧ vs.length = n := by
  subst hn
  have key : ∀ (n a : Nat) (vs : List Value), IntsAre vs ((List.range' a n).map fun (i : Nat) => (0 : Int) + (i : Int)) → (∀ i, i < n → ∃ t, vs[i]? = some (.int ((a + i : Nat) : Int) t)) ∧ vs.length = n := by
    intro n
    induction n with
    | zero => intro a vs h; cases h; exact ⟨fun i hi => absurd hi (Nat.not_lt_zero _), rfl⟩
    | succ n ih =>
      intro a vs h
      rw [List.range'_succ, List.map_cons] at h
      cases h with
      | cons k t r =>
        obtain ⟨h1, h2⟩ := ih (a + 1) _ r
        refine ⟨fun i hi => ?_, by rw [List.length_cons, h2]⟩
        cases i with
        | zero => exact ⟨t, by simp⟩
        | succ i =>
          obtain ⟨t', e⟩ := h1 i (by omega)
          exact ⟨t', by rw [List.getElem?_cons_succ, e]; congr 3; omega⟩
  have e : rangeKs 0 x.toNat = (List.range' 0 x.toNat).map fun (i : Nat) => (0 : Int) + (i : Int) := by rw [rangeKs, List.range_eq_range']
  rw [e] at h
  obtain ⟨h1, h2⟩ := key _ _ _ h
  exact ⟨fun i hi => by simpa using h1 i hi, h2⟩
theorem tab_fin {h₀ h' h9 : Heap} {L : Addr} {news' tn : List (Addr × Obj)} {c' : Addr} {oc : Obj} {vs : Array Value} {t : Tok} (kN : News h₀ L h' news') (hv : oc.data = .fields vs) (hvs : vs[1]? = some (.str lamQ t)) (hc : (c', oc) ∈ news') (hm : (126, tabObj #[rawInt 107, rawInt 16, .ref c']) ∈ news') (hlt : 126 < c')
    (hf : ∃ q ∈ tn, q.1 = 126) (hf' : (∃ q ∈ tn, q.1 = c') ∨ h9.get? c' = none) (hmo : ∀ q ∈ tn, q.1 ≠ 126 → q = (c', oc)) :
    ∃ tn', News h₀ L h' (tn' ++ []) ∧ TabN tn' ∧ (∀ p ∈ tn' ++ [], (∃ q ∈ tn, q.1 = p.1) ∨ h9.get? p.1 = none) ∧ ∀ q ∈ tn, q.1 ≠ 126 → q ∈ tn' := by
  refine ⟨_, news_sub kN fun x hx => ?_, .inr ⟨c', oc, vs, t, rfl, hv, hvs, hlt⟩, fun x hx => ?_, fun q hq hne => by rw [hmo q hq hne]; exact .tail _ (.head _)⟩
  · rcases List.mem_cons.mp hx with rfl | hx
    · exact hm
    · rcases List.mem_cons.mp hx with rfl | hx
      · exact hc
      · cases hx
  · rcases List.mem_cons.mp hx with rfl | hx
    · exact .inl hf
    · rcases List.mem_cons.mp hx with rfl | hx
      · exact hf'
      · cases hx
/-- a halt of the walk -/
def Halt (P : Prop) : Prop := P
theorem halt {P : Prop} (h : Halt P) : P := h
theorem go_on {P : Prop} (h : P) : Halt P := h
theorem name_it {P : Prop} {α : Type} {D : α} {A : α → Prop} (hA : A D) (h : ∀ D, A D → P) : P := h D hA
theorem fr_know {h₀ h : Heap} {L : Addr} {m : Str → Option Value} (ps : List (Str × Value)) (hk : ∀ q ∈ ps, m q.1 = some q.2) (F : Fr h₀ L h m) : Fr h₀ L h (kstB m ps) := by
  have e : kstB m ps = m := funext fun y => kstB_eq hk fun _ => rfl
  rw [e]; exact F
theorem fr_turn {h₀ h : Heap} {L : Addr} {m : Str → Option Value} {x : Str} {v : Value} (ps : List (Str × Value)) (hk : ∀ q ∈ ps, m q.1 = some q.2) (F : Fr h₀ L h (fun y => if y = x then some v else m y)) : Fr h₀ L h (kstB m ((x, v) :: ps)) := by
  have e : kstB m ps = m := funext fun y => kstB_eq hk fun _ => rfl
  show Fr h₀ L h (fun z => if z = x then some v else kstB m ps z)
  rw [e]; exact F
/-- a range's iterator; a tuple -/
def isIt (o : Obj) : Prop := o.cls = .type "range_iterator" ∧ ∃ a b c, o.data = .fields #[rawInt a, rawInt b, rawInt c]
def isTup (o : Obj) : Prop := o.cls = .type "tuple" ∧ ∃ vs n, o.data = .seq vs n
section
variable {prog : Program} {w : World} {A : Around} {E : Value → Shared → Prop} {s : Shared} {env : Env} {h₀ : Heap} {x : Str} {body : List Stmt} {Q : Flow → Shared → Prop}
/-- a for over a range by ones, by what holds of it -/
theorem range_for {r : Addr} {a₀ b₀ : Int} {t₀ u₀ v₀ : Tok} {n : Nat} {m₀ : Str → Option Value} {news : List (Addr × Obj)} (J : Nat → (Str → Option Value) → List (Addr × Obj) → Prop)
    (hh : A.handled = none) (hr : IsRange s.heap r a₀ b₀ 1 t₀ u₀ v₀) (hsmall : Builtin.Range.small a₀ b₀ 1 = true) (hsz : Builtin.Range.rangeSize a₀ b₀ 1 = (n : Int)) (F : Fr h₀ env.locals s.heap m₀) (N : News h₀ env.locals s.heap news) (hj : J 0 m₀ news)
    (turn : ∀ (i : Nat) t m₁ nx h tk own, i < n → (∀ p ∈ own, isIt p.2) → OwnOff own (nx.map (·.1)) → J i m₁ nx → Fr h₀ env.locals h (fun y => if y = x then some (.int (a₀ + (i : Int)) t) else m₁ y) → News h₀ env.locals h (nx ++ own) →
      wpAny (model prog w) A (execs body env) (InvPostG h₀ env.locals (J (i + 1)) own { s with heap := h, toks := tk } Q) E { s with heap := h, toks := tk })
    (done : ∀ m₁ nx h tk, J n m₁ nx → Fr h₀ env.locals h m₁ → News h₀ env.locals h nx → Q .next { s with heap := h, toks := tk }) :
    wpAny (model prog w) A (pyIter (.ref r)) (fun it s₂ => LoopAtV prog w A h₀ env x body Q E it s₂) E s := by
  refine wpAny_pyIter_range hr hsmall ?_
  have W : Walks prog w A s.heap.objs.size [s.heap.objs.size] [s.heap.objs.size] n (fun i v => i < n ∧ ∃ t, v = .int (a₀ + i * 1) t)
      (fun i h => IsRangeIter h s.heap.objs.size (a₀ + (i : Nat) * 1) ((n : Int) - (i : Nat)) 1) := (Walks.range hh _ a₀ 1 n).bound
  refine ⟨_, _, _, n, _, _, m₀, news, J, rfl, W, ?_, ?_, ?_, (by show IsRangeIter _ _ _ _ _; rw [hsz]; simpa using Heap.get?_push_size _ rfl), F.push _, (fun p hp => ⟨Heap.get?_push_of_some _ (N p hp).1, (N p hp).2⟩), hj, ?_, ?_⟩
  · intro hm
    exact absurd F.ns.lt ((List.mem_singleton.mp hm) ▸ Nat.lt_irrefl _)
  · intro b hb
    rw [List.mem_singleton.mp hb]
    exact next_is_new F
  · intro p hp hI
    exact absurd (Heap.lt_size (N p hp).1) ((List.mem_singleton.mp hI) ▸ Nat.lt_irrefl _)
  · rintro i v m₁ nx s₁ own ⟨hh', tk', rfl⟩ hi ⟨_, t, rfl⟩ hJ hoff hown hget hmem hst' F₁ N₁
    have e1 : a₀ + (i : Int) * 1 = a₀ + (i : Int) := by omega
    rw [e1] at F₁
    have hit : ∀ p ∈ own, isIt p.2 := fun p hp => by
      have h1 := hget p hp
      rw [List.mem_singleton.mp (hown p hp)] at h1
      have h2 : hh'.get? s.heap.objs.size = _ := hst'
      rw [h2] at h1
      rw [← Option.some.inj h1]
      exact ⟨rfl, _, _, _, rfl⟩
    have hsep : OwnOff own (nx.map (·.1)) := by
      intro p hp b hb e
      obtain ⟨q, hq, rfl⟩ := List.mem_map.mp hb
      exact hoff q hq (e ▸ hown p hp)
    have N₂ : News h₀ env.locals hh' (nx ++ own) := fun p hp => N₁ p ((List.mem_append.mp hp).elim (fun h => List.mem_append.mpr (.inr h)) fun h => List.mem_append.mpr (.inl h))
    refine wpAny_mono (turn i t m₁ nx hh' tk' own hi hit hsep hJ F₁ N₂) (fun f s₂ p => ?_) fun _ _ e => e
    have fin : InvEndG h₀ env.locals (J (i + 1)) own { s with heap := hh', toks := tk' } s₂ → LoopStepU h₀ env.locals [s.heap.objs.size] own (J (i + 1)) { s with heap := hh', toks := tk' } .next s₂ := by
      rintro ⟨h', tk, m', news', nx', e, F', N', hn, ho, ha, hm⟩
      refine ⟨rfl, h', tk, m', nx', e, F', fun p hp => N' p ((List.mem_append.mp hp).elim (ho p) (hn p)), fun p hp hq => ?_, hm⟩
      have hb := hmem s.heap.objs.size (List.mem_singleton.mpr rfl) (next_is_new F) _ (show hh'.get? s.heap.objs.size = _ from hst')
      exact ha _ hb p.1 (List.mem_map.mpr ⟨p, hp, rfl⟩) (List.mem_singleton.mp hq).symm
    cases f with
    | ret v => exact .ret p
    | brk => exact .brk p
    | next => exact .next (fin p)
    | cont => exact .cont (fin p)
  · rintro h' tk m' nx F' N' _ hJ
    exact done m' nx h' tk hJ F' N'
end
theorem ne_of {h₀ h : Heap} {L : Addr} {news : List (Addr × Obj)} {p q : Addr × Obj} (N : News h₀ L h news) (hp : p ∈ news) (hq : q ∈ news) (hne : p.2 ≠ q.2) : p.1 ≠ q.1 := fun e => by
  have h1 := (N p hp).1
  rw [e, (N q hq).1] at h1
  exact hne (Option.some.inj h1).symm
theorem TabN.data {tn : List (Addr × Obj)} (h : TabN tn) {p : Addr × Obj} (hp : p ∈ tn) : ∃ vs, p.2.data = .fields vs := by
  rcases h with rfl | ⟨c', oc, vs, t, rfl, hd, _⟩
  · rcases List.mem_cons.mp hp with rfl | hp
    · exact ⟨_, rfl⟩
    · cases hp
  · rcases List.mem_cons.mp hp with rfl | hp
    · exact ⟨_, rfl⟩
    · rcases List.mem_cons.mp hp with rfl | hp
      · exact ⟨_, hd⟩
      · cases hp
theorem TabN.notIt {tn : List (Addr × Obj)} (h : TabN tn) {p : Addr × Obj} (hp : p ∈ tn) {o : Obj} (ho : isIt o) : p.2 ≠ o := by
  rintro rfl
  obtain ⟨h1, a, b, c, h2⟩ := ho
  rcases h with rfl | ⟨c', oc, vs, t, rfl, hd, hv, _⟩
  · rcases List.mem_cons.mp hp with rfl | hp
    · cases h1
    · cases hp
  · rcases List.mem_cons.mp hp with rfl | hp
    · cases h1
    · rcases List.mem_cons.mp hp with rfl | hp
      · rw [hd] at h2
        cases h2
        cases hv
      · cases hp
theorem isIt.notSeq {o : Obj} (h : isIt o) {vs : Array Value} {n : Nat} : o.data ≠ .seq vs n := by
  obtain ⟨_, a, b, c, e⟩ := h
  rw [e]; nofun
section
variable {prog : Program} {w : World} {K : Frag} {p : Program} {loose : List Str} {mean : ExcName → Option Value} {mg mb : Str → Option Value} {f : Value} {vs : List Value} {kw : List (Str × Value)} {news tn : List (Addr × Obj)} {d u : Nat} {V : Value → List (Addr × Obj) → Prop}
    {dp un : Nat} {gd : Option (List Code)} {cn : Str} {cs : Scope} {a : Addr} {ccd : Value} {cl : List (Str × Addr)} {outer : List Env} {A₀ : Around} {base h₀ : Heap} {L : Addr} {m : Str → Option Value} {s : Shared} {Q E : Value → Shared → Prop}
theorem tellsT_use (C : TellsT prog w K p loose mean mg mb f vs kw d u V) (B : Below A₀ base outer h₀) (F : Fr h₀ L s.heap m) (X : K.In h₀) (N : News h₀ L s.heap news) (T : Top p loose mean mg mb h₀) (hk : cs.kind = .function) (hs : ∀ q ∈ tn, q ∈ news) (hT : TabN tn) (rest : List (Addr × Obj)) (hr : ∀ q ∈ rest, q ∈ news ∧ q.1 ≠ 126) (hd : dp + d < recursionLimit) (hu : un + u < cLine)
    (h : ∀ v h' tk' tn' nx, V v nx → Fr h₀ L h' m → News h₀ L h' (rest ++ (tn' ++ nx)) → TabN tn' → (∀ q ∈ tn' ++ nx, (∃ q' ∈ tn, q'.1 = q.1) ∨ s.heap.get? q.1 = none) → (∀ q ∈ tn, q.1 ≠ 126 → q ∈ tn') → Heap.ExtBut 126 s.heap h' → Q v { s with heap := h', toks := tk' }) :
    wpAny (model prog w) (ktrTop dp un gd cn cs L a ccd cl outer) (call f vs kw) Q E s := by
  obtain ⟨ps, hps⟩ := hT.one
  have z := N _ (hs _ hps)
  refine C _ _ _ _ _ _ _ _ _ _ _ _ _ _ _ _ _ _ B F X T hk (news_sub N hs) hT hd hu fun v h' tk' tn' nx hv hx hN hT' hf hm => h v h' tk' tn' nx hv ?_ ?_ hT' hf hm hx
  · exact ⟨F.ns.extBut hx z.2.1.symm, fun b o e => hx b o (fun q => by rw [q, z.2.2] at e; cases e) (F.keep b o e), F.above⟩
  · intro q hq
    rcases List.mem_append.mp hq with hq | hq
    · have y := N q (hr q hq).1
      exact ⟨hx _ _ (hr q hq).2 y.1, y.2⟩
    · exact hN q hq
end
theorem rest_ok {h₀ h : Heap} {L : Addr} {news tn : List (Addr × Obj)} (N : News h₀ L h news) (hT : TabN tn) (hs : ∀ q ∈ tn, q ∈ news) {q : Addr × Obj} (hq : q ∈ news) (hc : q.2.cls ≠ .none) : q.1 ≠ 126 := by
  obtain ⟨ps, hps⟩ := hT.one
  exact ne_of N hq (hs _ hps) fun e => hc (by rw [e])
theorem isIt.cls {o : Obj} (h : isIt o) : o.cls ≠ .none := by rw [h.1]; nofun
theorem isTup.cls {o : Obj} (h : isTup o) : o.cls ≠ .none := by rw [h.1]; nofun
theorem isTup.notList {o : Obj} (h : isTup o) {vs : Array Value} {n : Nat} : o ≠ listOf vs n := by rintro rfl; exact absurd h.1 (by show Value.type "list" ≠ _; decide)
theorem isIt.notList {o : Obj} (h : isIt o) {vs : Array Value} {n : Nat} : o ≠ listOf vs n := by rintro rfl; exact absurd h.1 (by show Value.type "list" ≠ _; decide)
theorem TabN.notList {tn : List (Addr × Obj)} (h : TabN tn) {p : Addr × Obj} (hp : p ∈ tn) {vs : Array Value} {n : Nat} : p.2 ≠ listOf vs n := by
  intro e
  obtain ⟨ws, hw⟩ := h.data hp
  rw [e] at hw
  cases hw
theorem fresh_of {g h h' : Heap} {L : Addr} {news tn : List (Addr × Obj)} (hK : ∀ b o, h.get? b = some o → (∀ q ∈ tn, q.1 ≠ b) → g.get? b = some o) (N : News g L h' news) : ∀ p ∈ news, (∃ q ∈ tn, q.1 = p.1) ∨ h.get? p.1 = none := by
  intro p hp
  by_cases hq : ∃ q ∈ tn, q.1 = p.1
  · exact .inl hq
  · refine .inr ?_
    cases e : h.get? p.1 with
    | none => rfl
    | some o =>
      have := hK _ _ e fun q hm e2 => hq ⟨q, hm, e2⟩
      rw [(N p hp).2.2] at this
      cases this
theorem ws2 {h₀ h' : Heap} {L : Addr} {s : Shared} {J : Nat → (Str → Option Value) → List (Addr × Obj) → Prop} {Q : Flow → Shared → Prop} {n n' tk : Nat} {m₂ : Str → Option Value} {nx : List (Addr × Obj)}
    (F : Fr h₀ L h' m₂) (N : News h₀ L h' nx) (hlt : n' < n) (hJ : J n' m₂ nx) : WhileStep2 h₀ L s J Q n .next { s with heap := h', toks := tk } := ⟨h', tk, m₂, nx, n', rfl, F, N, hlt, hJ⟩
end Mine

end
section
set_option maxRecDepth 100000
set_option linter.unusedVariables false
namespace Mine
open PySem PySem.W PySem.Calls PySem.Spec PyProof.Rows Builtin Builtin.Str StrLaws
/-- n letters, three dots ahead, between and behind -/
def wantL (c n : Nat) : List Nat := [46, 46, 46] ++ (List.replicate n [c, 46, 46, 46]).flatten
def partsL (c n : Nat) : List Str := Sx [] :: (List.replicate n (Sx [c]) ++ [Sx []])
theorem want_h : ∀ n : Fin 17, Txt.split (Sx (wantL 104 (n.val + 1))) dots = partsL 104 (n.val + 1) := by decide +kernel
theorem want_p : ∀ n : Fin 17, Txt.split (Sx (wantL 112 (n.val + 1))) dots = partsL 112 (n.val + 1) := by decide +kernel
theorem want_split {c n : Nat} (hc : c = 104 ∨ c = 112) (h1 : 1 ≤ n) (h2 : n ≤ 17) : Txt.split (Sx (wantL c n)) dots = partsL c n := by
  obtain ⟨k, rfl⟩ : ∃ k, n = k + 1 := ⟨n - 1, by omega⟩
  rcases hc with rfl | rfl
  · exact want_h ⟨k, by omega⟩
  · exact want_p ⟨k, by omega⟩
theorem want_len (c n : Nat) : (wantL c n).length = 3 + 4 * n := by
  have : ∀ n, ((List.replicate n [c, 46, 46, 46]).flatten).length = 4 * n := by
    intro n
    induction n with
    | zero => rfl
    | succ n ih => rw [List.replicate_succ, List.flatten_cons, List.length_append, ih, List.length_cons, List.length_cons, List.length_cons, List.length_cons, List.length_nil]; omega
  unfold wantL
  rw [List.length_append, this]
  rfl
theorem want_occ (c n : Nat) : (occurrences (Sx (wantL c n)) dots 0 (Sx (wantL c n)).length 1).isEmpty = false := by
  rcases occ_head_in (Sx (wantL c n)) dots 0 (Sx (wantL c n)).length with ⟨_, hn⟩ | ⟨k, r, e, _⟩
  · refine absurd ⟨?_, ?_⟩ (hn 0 (Nat.le_refl _))
    · rw [sx_len (wantL c n), want_len, dots_len]; omega
    · rw [subAt_eq, dots_len, dots_cps, sx_list]; rfl
  · rw [e]; rfl
theorem at_one {l : List Nat} {c i : Nat} : At (Sx l) (Sx [c]) l.length i ↔ l[i]? = some c := by
  unfold At
  rw [subAt_eq, sx_len, sx_list, sx_list]
  constructor
  · rintro ⟨h1, h2⟩
    have e : (l.drop i).take 1 = [c] := by simpa using h2
    have e0 := congrArg (·[0]?) e
    simp only [List.getElem?_take, List.getElem?_drop] at e0
    simpa using e0
  · intro h
    obtain ⟨hi, he⟩ := List.getElem?_eq_some_iff.mp h
    refine ⟨by simp only [List.length_cons, List.length_nil]; omega, ?_⟩
    have : (l.drop i).take 1 = [c] := by rw [List.drop_eq_getElem_cons hi, he]; rfl
    simp only [List.length_cons, List.length_nil, Nat.zero_add]
    rw [this]
    simp
/-- a letter's place from p on -/
theorem find_one {l : List Nat} {c p : Nat} (hp : p ≤ l.length) :
    (find4 (Sx l) (Sx [c]) p l.length = -1 ∧ ∀ i, p ≤ i → l[i]? ≠ some c) ∨ ∃ k : Nat, find4 (Sx l) (Sx [c]) p l.length = k ∧ p ≤ k ∧ l[k]? = some c ∧ ∀ i, p ≤ i → i < k → l[i]? ≠ some c := by
  unfold find4
  rw [from_nat, from_nat, sx_len, Nat.min_self]
  rcases occ_head_in (Sx l) (Sx [c]) p l.length with ⟨e, hn⟩ | ⟨k, r, e, h1, h2, h3⟩
  · exact .inl ⟨by rw [e], fun i hi h => hn i hi (at_one.mpr h)⟩
  · exact .inr ⟨k, by rw [e], h1, at_one.mp h2, fun i hi hk h => h3 i hi hk (at_one.mpr h)⟩
theorem find_none {l : List Nat} {p : Nat} (hp : p ≤ l.length) : find4 (Sx l) (Sx []) p l.length = p := find4_empty (x := Sx l) hp (by rw [sx_len]; exact Nat.le_refl _)
/-- how many there are -/
def cnt (c : Nat) : List Nat → Nat
  | [] => 0
  | x :: l => (if x = c then 1 else 0) + cnt c l
theorem cnt_append (c : Nat) : ∀ a b : List Nat, cnt c (a ++ b) = cnt c a + cnt c b
  | [], b => by simp [cnt]
  | x :: a, b => by rw [List.cons_append, cnt, cnt, cnt_append c a b]; omega
theorem cnt_zero {c : Nat} : ∀ {l : List Nat}, (∀ i : Nat, l[i]? ≠ some c) → cnt c l = 0
  | [], _ => rfl
  | x :: l, h => by
    have h0 : x ≠ c := fun e => h 0 (by rw [e]; rfl)
    rw [cnt, if_neg h0, cnt_zero fun i hi => h (i + 1) (by simpa using hi)]
theorem cnt_split (c : Nat) (l : List Nat) (p : Nat) : cnt c l = cnt c (l.take p) + cnt c (l.drop p) := by
  rw [← cnt_append, List.take_append_drop]
theorem cnt_stop {c p : Nat} {l : List Nat} (h : ∀ i : Nat, p ≤ i → l[i]? ≠ some c) : cnt c l = cnt c (l.take p) := by
  rw [cnt_split c l p, cnt_zero (l := l.drop p) fun i => by rw [List.getElem?_drop]; exact h _ (Nat.le_add_right _ _)]
  rfl
theorem cnt_step {c p k : Nat} {l : List Nat} (hpk : p ≤ k) (hk : l[k]? = some c) (h : ∀ i : Nat, p ≤ i → i < k → l[i]? ≠ some c) : cnt c (l.take (k + 1)) = cnt c (l.take p) + 1 := by
  have hkl : k < l.length := (List.getElem?_eq_some_iff.mp hk).1
  rw [List.take_add_one, hk, cnt_append, cnt_split c (l.take k) p, List.take_take, Nat.min_eq_left hpk, cnt_zero (l := (l.take k).drop p)]
  · simp [cnt]
  · intro i
    rw [List.getElem?_drop, List.getElem?_take]
    split
    · exact h _ (Nat.le_add_right _ _) (by assumption)
    · nofun
end Mine

end
section
set_option maxRecDepth 100000
set_option linter.unusedVariables false
set_option maxHeartbeats 1000000
namespace Mine
open PySem PySem.W PySem.Calls PySem.Spec PyProof.Rows
/-- what a turn over a made list leaves -/
def ForPost (h₀ : Heap) (L I : Addr) (o : Obj) (news : List (Addr × Obj)) (J : (Str → Option Value) → Prop) (s : Shared) (Q : Flow → Shared → Prop) (f : Flow) (s' : Shared) : Prop := match f with
  | .ret v => Q (.ret v) s'
  | .brk => Q .next s'
  | _ => ∃ h' tk m', s' = { s with heap := h', toks := tk } ∧ Fr h₀ L h' m' ∧ News h₀ L h' ((I, o) :: news) ∧ J m'
section
variable {prog : Program} {w : World} {A : Around} {E : Value → Shared → Prop} {s : Shared} {env : Env} {h₀ : Heap} {x : Str} {body : List Stmt} {Q : Flow → Shared → Prop}
/-- a for over a list of the ledger that stays, by what holds of it -/
theorem list_for {r : Addr} {vs : List Value} {c : Nat} {m₀ : Str → Option Value} {news : List (Addr × Obj)} (J : Nat → (Str → Option Value) → Prop)
    (hh : A.handled = none) (hm : (r, listOf vs.toArray c) ∈ news) (F : Fr h₀ env.locals s.heap m₀) (N : News h₀ env.locals s.heap news) (hj : J 0 m₀)
    (turn : ∀ (i : Nat) v m₁ h tk I o, vs[i]? = some v → J i m₁ → Fr h₀ env.locals h (fun y => if y = x then some v else m₁ y) → News h₀ env.locals h ((I, o) :: news) → (∀ p ∈ news, p.1 ≠ I) →
      wpAny (model prog w) A (execs body env) (ForPost h₀ env.locals I o news (J (i + 1)) s Q) E { s with heap := h, toks := tk })
    (done : ∀ m₁ h tk, J vs.length m₁ → Fr h₀ env.locals h m₁ → News h₀ env.locals h news → Q .next { s with heap := h, toks := tk }) :
    wpAny (model prog w) A (pyIter (.ref r)) (fun it s₂ => LoopAtV prog w A h₀ env x body Q E it s₂) E s := by
  have hl : s.heap.IsList r vs.toArray := ⟨_, (N _ hm).1, rfl, _, rfl⟩
  have hlt : r < s.heap.objs.size := Heap.lt_size (N _ hm).1
  refine wpAny_pyIter_list hl ?_
  have up : ∀ b o, s.heap.get? b = some o → (s.heap.push { cls := .type "list_iterator", data := .fields #[.ref r, .int 0 0] }).get? b = some o := fun b o e => Heap.get?_push_of_some _ e
  have W := Walks.list (prog := prog) (w := w) hh s.heap.objs.size r (Nat.ne_of_lt hlt) vs.toArray
  have nI : ∀ p ∈ news, p.1 ≠ s.heap.objs.size := fun p hp => Nat.ne_of_lt (Heap.lt_size (N p hp).1)
  refine ⟨_, _, _, _, _, _, m₀, news, fun i m nx => nx = news ∧ J i m, rfl, W, ?_, ?_, ?_, ⟨⟨_, Heap.get?_push_size _ rfl, rfl, rfl⟩, hl.push _⟩, F.push _, N.grown up, ⟨rfl, hj⟩, ?_, ?_⟩
  · intro hm'
    rcases List.mem_cons.mp hm' with e | e
    · exact absurd F.ns.lt (e ▸ Nat.lt_irrefl _)
    · have e := List.mem_singleton.mp e
      exact (N _ hm).2.1 e.symm
  · intro b hb
    rw [List.mem_singleton.mp hb]
    exact next_is_new F
  · intro p hp hI
    exact nI p hp (List.mem_singleton.mp hI)
  · rintro i v m₁ nx s₁ own ⟨h₁, t₁, rfl⟩ hi hv ⟨rfl, hJ⟩ hoff hown hget hmem hst F₁ N₁
    obtain ⟨oI, eI, cI, dI⟩ := hst.1
    have N₂ : News h₀ env.locals h₁ ((s.heap.objs.size, oI) :: nx) := fun p hp => by
      rcases List.mem_cons.mp hp with rfl | hp
      · exact ⟨eI, Ne.symm (Nat.ne_of_lt F.ns.lt), next_is_new F⟩
      · exact N₁ p (List.mem_append_right _ hp)
    refine wpAny_mono (turn i v m₁ h₁ t₁ s.heap.objs.size oI (by simpa using hv) hJ F₁ N₂ nI) (fun f s₂ p => ?_) fun _ _ e => e
    have fin : (∃ h' tk m', s₂ = { s with heap := h', toks := tk } ∧ Fr h₀ env.locals h' m' ∧ News h₀ env.locals h' ((s.heap.objs.size, oI) :: nx) ∧ J (i + 1) m') →
        LoopStepU h₀ env.locals [s.heap.objs.size] own (fun m nx' => nx' = nx ∧ J (i + 1) m) { s with heap := h₁, toks := t₁ } .next s₂ := by
      rintro ⟨h', tk, m', rfl, F', N', hJ'⟩
      refine ⟨rfl, h', tk, m', nx, rfl, F', fun p hp => ?_, fun p hp hq => nI p hp (List.mem_singleton.mp hq), rfl, hJ'⟩
      rcases List.mem_append.mp hp with hp | hp
      · have hg := hget p hp
        have h9 := N₁ p (List.mem_append_left _ hp)
        refine ⟨?_, h9.2⟩
        rcases List.mem_cons.mp (hown p hp) with e | e
        · have : h₁.get? p.1 = some p.2 := hg
          rw [e, eI] at this
          rw [e, ← Option.some.inj this]
          exact (N' _ (.head _)).1
        · have e := List.mem_singleton.mp e
          have h1 : h₁.get? p.1 = some p.2 := hg
          have h2 := (N₂ _ (.tail _ hm)).1
          rw [e] at h1
          rw [show h₁.get? r = some (listOf vs.toArray c) from h2] at h1
          rw [e, ← Option.some.inj h1]
          exact (N' _ (.tail _ hm)).1
      · exact N' p (.tail _ hp)
    cases f with
    | ret v => exact .ret p
    | brk => exact .brk p
    | next => exact .next (fin p)
    | cont => exact .cont (fin p)
  · rintro h' tk m' nx F' N' _ ⟨rfl, hJ⟩
    exact done m' h' tk (by simpa using hJ) F' N'
end
end Mine

end
section
set_option maxRecDepth 100000
set_option linter.unusedVariables false
set_option maxHeartbeats 1000000
namespace Mine
open PySem PySem.W PySem.Calls PySem.Spec PyProof.Rows
theorem parts_len (c n : Nat) : (partsL c n).length = n + 2 := by
  unfold partsL
  rw [List.length_cons, List.length_append, List.length_replicate, List.length_cons, List.length_nil]
theorem parts_last {c n : Nat} {l : List (Str × Tok)} (h : l.map (fun x => x.fst) = partsL c n) : (l.map (fun x => x.fst)).getD (-1 + ((l.map (fun x => x.fst)).length : Int)).toNat Str.empty = Sx [] := by
  rw [h, parts_len, show (-1 + ((n + 2 : Nat) : Int)).toNat = n + 1 by omega]
  unfold partsL
  rw [List.getD_cons_succ, List.getD_eq_getElem?_getD, List.getElem?_append_right (by rw [List.length_replicate]; exact Nat.le_refl _), List.length_replicate, Nat.sub_self]
  rfl
theorem parts_at {c n i : Nat} {y : Str} (h : (partsL c n)[i]? = some y) : (y = Sx [] ∧ (i = 0 ∨ i = n + 1)) ∨ (y = Sx [c] ∧ 1 ≤ i ∧ i ≤ n) := by
  unfold partsL at h
  cases i with
  | zero => exact .inl ⟨(Option.some.inj h).symm, .inl rfl⟩
  | succ i =>
    rw [List.getElem?_cons_succ] at h
    rcases Nat.lt_or_ge i n with hi | hi
    · rw [List.getElem?_append_left (by rw [List.length_replicate]; exact hi), List.getElem?_replicate, if_pos hi] at h
      exact .inr ⟨(Option.some.inj h).symm, by omega, by omega⟩
    · rw [List.getElem?_append_right (by rw [List.length_replicate]; exact hi), List.length_replicate] at h
      have h0 : i - n = 0 := by
        rcases Nat.eq_zero_or_pos (i - n) with e | e
        · exact e
        · rw [List.getElem?_eq_none (by rw [List.length_cons, List.length_nil]; omega)] at h; cases h
      rw [h0] at h
      exact .inl ⟨(Option.some.inj h).symm, .inr (by omega)⟩
theorem strs_at {lw : List (Str × Tok)} {i : Nat} {v : Value} (h : (strValues lw)[i]? = some v) : ∃ y t, v = .str y t ∧ (lw.map (fun x => x.1))[i]? = some y := by
  unfold strValues at h
  rw [List.getElem?_map] at h
  obtain ⟨x, h1, h2⟩ := Option.map_eq_some_iff.mp h
  exact ⟨x.1, x.2, h2.symm, by rw [List.getElem?_map, h1]; rfl⟩
local macro_rules | `(tactic| walk_at "pyIter ref") => `(tactic| (refine halt ?_))
theorem el2 {prog : Program} {w : World} {p : Program} {loose : List Str} {mean : ExcName → Option Value} {mg mb : Str → Option Value} {g : Heap} {c n : Nat} {l : List Nat} {t1 t2 : Tok} (hc : c = 104 ∨ c = 112) (hn1 : 1 ≤ n) (hn2 : n ≤ 17) (hg : l.length ≤ 16) :
    Tells prog w (K1 w.params) p loose mean mg mb g (.ref 103) [.str (Sx (wantL c n)) t1, .str (Sx l) t2] [] 1 8 (fun v => v = .bool (decide (n ≤ cnt c l))) := by
  w_on
  k_with_none
  w_strict (
    refine (fun (h : PySem.Challenge.rw_re0150_02 = PySem.Challenge.rw_re0150_02 → _) => h rfl) ?_
    k_fill
    intro kk9
    clear kk9
    intro dp un gd cn cs aa ccd cl outer A₀ base h₀ L m s Q E B F X T hk st9 hd hu hret
    have hw : (Sx (wantL c n)).length ≤ 103 := by rw [sx_len, want_len]; omega
    have hoc := want_occ c n
    have hsplit := want_split hc hn1 hn2
    have hgl : (Sx l).length ≤ 100 := by rw [sx_len]; omega
    refine wpAny_call ?_
    (k_dflt (refine' enter [(Str.ofString "want", .str (Sx (wantL c n)) t1), (Str.ofString "got", .str (Sx l) t2)] B F X T hk ?k6 ?k7 ?k8 ?k9 ?kB ?_ ?c2 ?c3 ?c4 ?c5; (case k6 => k_is); (case k7 => k_is); (case k8 => omega); (case k9 => exact BindsTo.of_eq rfl); (case c5 => decide); (case kB => exact locs rfl); (case c2 => exact rfl); (case c3 => exact rfl); (case c4 => exact rfl)))
    intro L' h' F' N' B' X' T'
    k_fold
    dsimp only [fBody, fScope, st10, nthS, PySem.Challenge.pw_re0150_02]
    k_steps
    · (rename List.map _ _ = Txt.split _ _ => hsp)
      (rename (_ : Option Str) = some _ => hy)
      have hsp' := hsp.trans hsplit
      rw [hsp'] at hy
      obtain rfl : Sx [] = _ := Option.some.inj hy
      clear hy
      k_steps
      have last9 := parts_last hsp'
      (rename Fr _ _ _ _ => F9)
      rw [last9] at F9 ⊢
      k_steps
      refine go_on ?_
      (rename News _ _ _ _ => N8)
      (rename Fr _ _ _ _ => F8)
      k_dflt (refine list_for (fun i m => m (Str.ofString "got") = some (.str (Sx l) t2) ∧ (∃ te, m (Str.ofString "endpos") = some (.int (↑(Sx l).length) te)) ∧ ∃ (p : Nat) (tp : Tok), m (Str.ofString "startpos") = some (.int (p : Int) tp) ∧ p ≤ l.length ∧ cnt c (l.take p) = min (i - 1) n) rfl (.tail _ (.head _)) F8 N8 ⟨rfl, ⟨_, rfl⟩, 0, _, rfl, Nat.zero_le _, by simp [cnt]⟩ ?_ ?_)
      · intro i v m1 h1 tk1 I9 o9 hv hJ F7 N7 nI
        obtain ⟨j1, ⟨te, j2⟩, p9, tp, j3, hp9, hcn⟩ := hJ
        obtain ⟨y, ty, rfl, hy⟩ := strs_at hv
        rw [hsp'] at hy
        have F6 := fr_turn [(Str.ofString "got", .str (Sx l) t2), (Str.ofString "endpos", .int (↑(Sx l).length) te), (Str.ofString "startpos", .int (p9 : Int) tp)] (by intro q hq; rcases List.mem_cons.mp hq with rfl | hq; exact j1; rcases List.mem_cons.mp hq with rfl | hq; exact j2; rcases List.mem_cons.mp hq with rfl | hq; exact j3; cases hq) F7
        clear F7
        have hyl : y.length ≤ 100 := by rcases parts_at hy with ⟨rfl, _⟩ | ⟨rfl, _⟩ <;> simp [Str.length]
        have hgl0 : ((Sx l).length : Int) = (l.length : Int) := by rw [sx_len]
        k_steps
        k_dflt (refine call_find4 ?_)
        rw [hgl0]
        rcases parts_at hy with ⟨rfl, hi⟩ | ⟨rfl, hi1, hi2⟩
        · rw [find_none hp9]
          k_steps
          (rename News _ _ _ _ => N5)
          (rename Fr _ _ _ _ => F5)
          k_dflt (refine ⟨_, _, _, rfl, F5, N5, rfl, ⟨_, rfl⟩, p9, _, rfl, hp9, ?_⟩)
          rw [hcn]
          rcases hi with rfl | rfl <;> omega
        · rcases find_one (c := c) hp9 with ⟨e9, hno⟩ | ⟨k9, e9, hk1, hk2, hk3⟩
          · rw [e9]
            k_steps
            have hlt : cnt c l = i - 1 := by rw [cnt_stop hno, hcn]; omega
            dsimp only [ForPost]
            k_steps
            k_dflt (refine hret _ _ _ ?_ (Fr.keep (by assumption)))
            rw [decide_eq_false (by omega)]
          · rw [e9]
            have hkl : k9 < l.length := (List.getElem?_eq_some_iff.mp hk2).1
            k_steps
            (rename News _ _ _ _ => N5)
            (rename Fr _ _ _ _ => F5)
            k_dflt (refine ⟨_, _, _, rfl, F5, N5, rfl, ⟨_, rfl⟩, k9 + 1, _, rfl, hkl, ?_⟩)
            rw [cnt_step hk1 hk2 hk3, hcn]
            omega
      · intro m1 h1 tk1 hJ F7 N7
        obtain ⟨j1, ⟨te, j2⟩, p9, tp, j3, hp9, hcn⟩ := hJ
        have hlv : (strValues _).length = n + 2 := (by (rename List.map _ _ = partsL _ _ => hh9); have := congrArg List.length hh9; rw [List.length_map, parts_len] at this; unfold strValues; rw [List.length_map]; exact this)
        rw [hlv] at hcn
        k_steps
        k_dflt (refine hret _ _ _ ?_ (Fr.keep (by assumption)))
        rw [decide_eq_true (by have := cnt_split c l p9; omega)]
    · exfalso
      (rename List.map _ _ = Txt.split _ _ => hsp)
      have hl2 := congrArg List.length (hsp.trans hsplit)
      rw [List.length_map] at hl2
      unfold partsL at hl2
      rw [List.length_cons, List.length_append, List.length_replicate, List.length_cons, List.length_nil] at hl2
      omega)
end Mine

end
section
set_option maxRecDepth 100000
set_option linter.unusedVariables false
set_option maxHeartbeats 4000000
namespace Mine
open PySem PySem.W PySem.Calls PySem.Spec PyProof.Rows
theorem bisl1 {prog : Program} {w : World} {p : Program} {loose : List Str} {mean : ExcName → Option Value} {mg mb : Str → Option Value} {g : Heap} {l q : Addr} {vs : List Value} {n d u : Nat} {qc : Value} {qd : Option Addr} {fd : FuncData} {qs : Array (Option Value)} (f : Nat → Bool)
    (hl : g.IsList l vs.toArray) (hq : g.get? q = some ⟨qc, qd, .func fd, qs⟩) (hv : ∀ i, i < n → ∃ t, vs[i]? = some (.int i t)) (hn : vs.length = n) (hz : n ≤ 1000) {lo₀ : Nat} {tl : Tok} (hlo : lo₀ ≤ n) 
    (hkey : ∀ (k : Nat) (t : Tok), k < n → Tells prog w (K1 w.params) p loose mean mg mb g (.ref q) [.int k t] [] d u (fun v => v = .bool (f k))) :
    Tells prog w (K1 w.params) p loose mean mg mb g (.ref 96) [.ref l, .bool true, .int lo₀ tl] [(Str.ofString "key", .ref q)] (d + 1) (u + 8) (fun v => ∃ t, v = .int (bis f n lo₀ n) t) := by
  w_on
  k_with_none
  k_with "exec While Compare cons nil" => k_while (fun script lo hi => BisInv f n lo₀ lo hi) (fun script lo hi => (hi - lo).toNat) "lo" "hi"
  k_with "state" => first | exact hst | exact hst' | exact hI.up hlt9 (lt_true (by assumption)) | exact hI.down hlt9 (not_lt_true (by assumption))
  w_strict (
    refine (fun (h : PySem.Challenge.rw_re0150_02 = PySem.Challenge.rw_re0150_02 → _) => h rfl) ?_
    k_fill
    intro kk9
    clear kk9
    intro dp un gd cn cs a ccd cl outer A₀ base h₀ L m s Q E B F X T hk st9 hd hu hret
    have hl' := stays_list st9 hl
    have hq' := st9 _ _ hq
    refine wpAny_call ?_
    (k_dflt (refine' enter [(Str.ofString "a", .ref l), (Str.ofString "x", .bool true), (Str.ofString "lo", .int lo₀ tl), (Str.ofString "hi", .none), (Str.ofString "key", .ref q)] B F X T hk ?k6 ?k7 ?k8 ?k9 ?kB ?_ ?c2 ?c3 ?c4 ?c5; (case k6 => k_is); (case k7 => k_is); (case k8 => omega); (case k9 => exact binds_K (by k_in) rfl (by k_is) rfl rfl rfl); (case c5 => decide); (case kB => exact locs rfl); (case c2 => exact rfl); (case c3 => exact rfl); (case c4 => exact rfl)))
    intro L' h' F' N' B' X' T'
    k_fold
    dsimp only [fBody, fScope, st7, nthS, PySem.Challenge.pw_re0150_02]
    have hst : BisInv f n lo₀ lo₀ (vs.length : Int) := by
      have := BisInv.start f (n := n) (lo₀ := lo₀) hlo
      rw [hn]
      exact this
    have hst' : BisInv f n lo₀ lo₀ (vs.toArray.size : Int) := by rw [List.size_toArray]; exact hst
    have hlen' : vs.length ≤ 1000 := by omega
    k_steps
    refine len_list (items := vs.toArray) (hl'.at fun o e => F'.keep l o e) (by simp; omega) ?_
    k_steps
    · refine cw_led (c := qc) (od := qd) (fd := fd) (sl := qs) ?_
      k_steps
      (rename BisInv _ _ _ _ _ => hI)
      (rename News _ _ _ _ => N9)
      (rename Fr _ _ _ _ => F9)
      (rename @LT.lt Int _ _ _ => hlt9)
      obtain ⟨m1, m2, m3⟩ := hI.at hlt9 hz
      obtain ⟨t9, ht9⟩ := hv _ m1
      obtain ⟨_, b1, b2⟩ := bis_mid hI.1 hlt9
      refine item_listL (l := vs) (hl'.at fun o e => F9.keep l o e) m2 m3 ht9 ?_
      k_steps
      k_dflt (refine tells_use (hkey _ _ m1) B' F9 X' N9 T' rfl (fun o b e => F9.keep _ _ (st9 _ _ e)) (by omega) (by omega) ?_)
      intro v10 h10 tk10 hv10 F10 N10 s10
      subst hv10
      k_steps
    · (rename BisInv _ _ _ _ _ => hI)
      rw [hI.done (by assumption)]
      exact hret _ _ _ ⟨_, rfl⟩ (Fr.keep (by assumption)))
end Mine

end
section
set_option maxRecDepth 100000
set_option linter.unusedVariables false
set_option maxHeartbeats 4000000
namespace Mine
open PySem PySem.W PySem.Calls PySem.Spec PyProof.Rows
theorem bisr1 {prog : Program} {w : World} {p : Program} {loose : List Str} {mean : ExcName → Option Value} {mg mb : Str → Option Value} {g : Heap} {l q : Addr} {vs : List Value} {n d u : Nat} {qc : Value} {qd : Option Addr} {fd : FuncData} {qs : Array (Option Value)} (f : Nat → Bool)
    (hl : g.IsList l vs.toArray) (hq : g.get? q = some ⟨qc, qd, .func fd, qs⟩) (hv : ∀ i, i < n → ∃ t, vs[i]? = some (.int i t)) (hn : vs.length = n) (hz : n ≤ 1000) {lo₀ : Nat} {tl : Tok} (hlo : lo₀ ≤ n) 
    (hkey : ∀ (k : Nat) (t : Tok), k < n → Tells prog w (K1 w.params) p loose mean mg mb g (.ref q) [.int k t] [] d u (fun v => v = .bool (f k))) :
    Tells prog w (K1 w.params) p loose mean mg mb g (.ref 87) [.ref l, .bool false, .int lo₀ tl] [(Str.ofString "key", .ref q)] (d + 1) (u + 8) (fun v => ∃ t, v = .int (bis f n lo₀ n) t) := by
  w_on
  k_with_none
  k_with "exec While Compare cons nil" => k_while (fun script lo hi => BisInv f n lo₀ lo hi) (fun script lo hi => (hi - lo).toNat) "lo" "hi"
  k_with "state" => first | exact hst | exact hst' | exact hI.up hlt9 (not_gt_false (by assumption)) | exact hI.down hlt9 (gt_false (by assumption))
  w_strict (
    refine (fun (h : PySem.Challenge.rw_re0150_02 = PySem.Challenge.rw_re0150_02 → _) => h rfl) ?_
    k_fill
    intro kk9
    clear kk9
    intro dp un gd cn cs a ccd cl outer A₀ base h₀ L m s Q E B F X T hk st9 hd hu hret
    have hl' := stays_list st9 hl
    have hq' := st9 _ _ hq
    refine wpAny_call ?_
    (k_dflt (refine' enter [(Str.ofString "a", .ref l), (Str.ofString "x", .bool false), (Str.ofString "lo", .int lo₀ tl), (Str.ofString "hi", .none), (Str.ofString "key", .ref q)] B F X T hk ?k6 ?k7 ?k8 ?k9 ?kB ?_ ?c2 ?c3 ?c4 ?c5; (case k6 => k_is); (case k7 => k_is); (case k8 => omega); (case k9 => exact binds_K (by k_in) rfl (by k_is) rfl rfl rfl); (case c5 => decide); (case kB => exact locs rfl); (case c2 => exact rfl); (case c3 => exact rfl); (case c4 => exact rfl)))
    intro L' h' F' N' B' X' T'
    k_fold
    dsimp only [fBody, fScope, st6, nthS, PySem.Challenge.pw_re0150_02]
    have hst : BisInv f n lo₀ lo₀ (vs.length : Int) := by
      have := BisInv.start f (n := n) (lo₀ := lo₀) hlo
      rw [hn]
      exact this
    have hst' : BisInv f n lo₀ lo₀ (vs.toArray.size : Int) := by rw [List.size_toArray]; exact hst
    have hlen' : vs.length ≤ 1000 := by omega
    k_steps
    refine len_list (items := vs.toArray) (hl'.at fun o e => F'.keep l o e) (by simp; omega) ?_
    k_steps
    · refine cw_led (c := qc) (od := qd) (fd := fd) (sl := qs) ?_
      k_steps
      (rename BisInv _ _ _ _ _ => hI)
      (rename News _ _ _ _ => N9)
      (rename Fr _ _ _ _ => F9)
      (rename @LT.lt Int _ _ _ => hlt9)
      obtain ⟨m1, m2, m3⟩ := hI.at hlt9 hz
      obtain ⟨t9, ht9⟩ := hv _ m1
      obtain ⟨_, b1, b2⟩ := bis_mid hI.1 hlt9
      refine item_listL (l := vs) (hl'.at fun o e => F9.keep l o e) m2 m3 ht9 ?_
      k_steps
      k_dflt (refine tells_use (hkey _ _ m1) B' F9 X' N9 T' rfl (fun o b e => F9.keep _ _ (st9 _ _ e)) (by omega) (by omega) ?_)
      intro v10 h10 tk10 hv10 F10 N10 s10
      subst hv10
      k_steps
    · (rename BisInv _ _ _ _ _ => hI)
      rw [hI.done (by assumption)]
      exact hret _ _ _ ⟨_, rfl⟩ (Fr.keep (by assumption)))
end Mine

end
section
set_option maxRecDepth 100000
set_option linter.unusedVariables false
set_option maxHeartbeats 1000000
namespace Mine
open PySem PySem.W PySem.Calls PySem.Spec PyProof.Rows
def forBody : Stmt → List Stmt
  | .For _ _ b _ _ => b
  | _ => []
abbrev la2 : Expr := lamOf (nthS 1 (forBody (nthS 3 (fBody st15))))
theorem slice_front (l : List Nat) {k : Nat} (h : k ≤ l.length) : Txt.slice (Sx l) none (some (k : Int)) = Sx (l.take k) := by
  have e := beq_iff_eq.mp (slice_closes_toL (x := Sx l) (j := (k : Int)) (by omega) (by rw [sx_len]; omega))
  rw [e, sx_list, show ((k : Int) - 0).toNat = k by omega]
  rfl
local macro_rules | `(tactic| walk_at "eval Name") => `(tactic| (k_here; kc_free; k_dflt (refine' nameX_Fg ?F ?g ?d ?c ?_ ?a ?b; (case a => rfl); (case b => rfl); (case c => rfl); (case F => k_asm); (case g => assumption); (case d => assumption); k_whole)))
local macro_rules | `(tactic| walk_at "call ref") => `(tactic| (refine halt ?_))
theorem lam2 {prog : Program} {w : World} {p : Program} {loose : List Str} {mean : ExcName → Option Value} {mg mb : Str → Option Value} {g : Heap} {l : List Nat} {c n k : Nat} {t : Tok} {tt tw : Tok} {f c' c1 c2 : Addr} {o1 o2 : Obj} {qual : Str} {pm ctv : Value}
    (ho : g.get? f = some (kla_obj (Str.ofString "<lambda>") qual (lamP la2) (lamB la2) (lamS la2) [(Str.ofString "want", c2), (Str.ofString "text", c1)] pm c' ctv)) (hcd : g.CodeRec (.ref c') qual)
    (h1 : g.get? c1 = some o1) (d1 : o1.data = .cell (some (.str (Sx l) tt))) (h2 : g.get? c2 = some o2) (d2 : o2.data = .cell (some (.str (Sx (wantL c n)) tw)))
    (hc : c = 104 ∨ c = 112) (hn1 : 1 ≤ n) (hn2 : n ≤ 17) (hl : l.length ≤ 16) (hk9 : k ≤ l.length) :
    Tells prog w (K1 w.params) p loose mean mg mb g (.ref f) [.int k t] [] 2 16 (fun v => v = .bool (decide (n ≤ cnt c (l.take k)))) := by
  w_on
  k_with_none
  w_strict (
    refine (fun (h : PySem.Challenge.rw_re0150_02 = PySem.Challenge.rw_re0150_02 → _) => h rfl) ?_
    k_fill
    intro kk9
    clear kk9
    intro dp un gd cn cs a ccd cl outer A₀ base h₀ L m s Q E B F X T hk st9 hd hu hret
    have hf' := st9 _ _ ho
    have h1' := st9 _ _ h1
    have h2' := st9 _ _ h2
    refine wpAny_call ?_
    (k_dflt (refine' enterL [(Str.ofString "k", .int k t)] B F X T hk hf' (hcd.keeps st9) ?k8 rfl ?kB ?_ ?c2 ?c3 ?c4 ?c5; (case k8 => omega); (case c5 => decide); (case kB => exact locs rfl); (case c2 => exact rfl); (case c3 => exact rfl); (case c4 => exact rfl)))
    intro L' h' F' N' B' X' T'
    k_fold
    dsimp only [la2, forBody, lamB, lamS, lamOf, fBody, fScope, st15, nthS, PySem.Challenge.pw_re0150_02]
    have hl0 := sx_len l
    have hl1 : (Sx l).length ≤ 100 := by omega
    k_steps
    refine go_on ?_
    rw [slice_front l hk9]
    (rename News _ _ _ _ => N9)
    (rename Fr _ _ _ _ => F9)
    k_dflt (refine tells_use (el2 (n := n) (c := c) (l := l.take k) hc hn1 hn2 (by rw [List.length_take]; omega)) B' F9 X' N9 T' rfl (fun o b e => F9.keep _ _ (st9 _ _ e)) (by omega) (by omega) ?_)
    intro v10 h10 tk10 hv10 F10 N10 s10
    subst hv10
    k_steps
    exact hret _ _ _ rfl (Fr.keep (by assumption)))
end Mine

end
section
set_option maxRecDepth 100000
set_option linter.unusedVariables false
set_option maxHeartbeats 1000000
namespace Mine
open PySem PySem.W PySem.Calls PySem.Spec PyProof.Rows
/-- the places of a letter, by halving on from the last -/
def placesGo (l : List Nat) (c : Nat) : Nat → Nat → Nat → List Nat
  | 0, _, _ => []
  | r + 1, n, a => if bis (fun k => decide (n ≤ cnt c (l.take k))) (l.length + 1) a (l.length + 1) = l.length + 1 then [] else (bis (fun k => decide (n ≤ cnt c (l.take k))) (l.length + 1) a (l.length + 1) - 1) :: placesGo l c r (n + 1) (bis (fun k => decide (n ≤ cnt c (l.take k))) (l.length + 1) a (l.length + 1))
def placesL (l : List Nat) (c : Nat) : List Nat := placesGo l c (l.length + 1) 1 0
theorem cnt_le (c : Nat) : ∀ l : List Nat, cnt c l ≤ l.length
  | [] => Nat.le_refl _
  | x :: l => by
    have := cnt_le c l
    rw [cnt, List.length_cons]
    split <;> omega
theorem want_mul_h : ∀ n : Fin 17, Str.ofString "..." ++ Txt.mul (Sx [104] ++ Str.ofString "...") ((n.val + 1 : Nat) : Int) = Sx (wantL 104 (n.val + 1)) := by decide +kernel
theorem want_mul_p : ∀ n : Fin 17, Str.ofString "..." ++ Txt.mul (Sx [112] ++ Str.ofString "...") ((n.val + 1 : Nat) : Int) = Sx (wantL 112 (n.val + 1)) := by decide +kernel
theorem want_mul {c i : Nat} (hc : c = 104 ∨ c = 112) (hi : i < 17) : Str.ofString "..." ++ Txt.mul (Sx [c] ++ Str.ofString "...") ((i + 1 : Nat) : Int) = Sx (wantL c (i + 1)) := by
  rcases hc with rfl | rfl
  · exact want_mul_h ⟨i, hi⟩
  · exact want_mul_p ⟨i, hi⟩
theorem mul_len_h : ∀ n : Fin 17, (Txt.mul (Sx [104] ++ Str.ofString "...") ((n.val + 1 : Nat) : Int)).length ≤ 100 := by decide +kernel
theorem mul_len_p : ∀ n : Fin 17, (Txt.mul (Sx [112] ++ Str.ofString "...") ((n.val + 1 : Nat) : Int)).length ≤ 100 := by decide +kernel
theorem mul_len {c i : Nat} (hc : c = 104 ∨ c = 112) (hi : i < 17) : (Txt.mul (Sx [c] ++ Str.ofString "...") ((i + 1 : Nat) : Int)).length ≤ 100 := by
  rcases hc with rfl | rfl
  · exact mul_len_h ⟨i, hi⟩
  · exact mul_len_p ⟨i, hi⟩
theorem updF_of {d : Addr} {o : Obj} {post : List (Addr × Obj)} : ∀ (pre : List (Addr × Obj)), (∀ p ∈ pre, p.1 ≠ d) → (∀ p ∈ post, p.1 ≠ d) → UpdF d o (pre ++ (d, o) :: post) (fun o' => pre ++ (d, o') :: post)
  | [], _, h => .head h
  | p :: r, h, h' => .tail (h p (.head _)) (updF_of r (fun q hq => h q (.tail _ hq)) h')
theorem cell_off {g h : Heap} {L c : Addr} {ow : Obj} {v : Option Value} {news some' : List (Addr × Obj)} (N : News g L h news) (hd : ow.data = .cell v) (hs : ∀ p ∈ some', p ∈ news ∧ ∀ v, p.2.data ≠ .cell v) (hm : (c, ow) ∈ news) : ∀ p ∈ some', p.1 ≠ c := fun p hp =>
  ne_of N (hs p hp).1 hm fun e => (hs p hp).2 v (by rw [e]; exact hd)
theorem tab_off {g h : Heap} {L : Addr} {ps : Array Value} {news some' : List (Addr × Obj)} (N : News g L h news) (hs : ∀ p ∈ some', p ∈ news ∧ p.2 ≠ tabObj ps) (hm : (126, tabObj ps) ∈ news) : ∀ p ∈ some', p.1 ≠ 126 := fun p hp => ne_of N (hs p hp).1 hm (hs p hp).2
theorem placesKey {prog : Program} {w : World} {p : Program} {loose : List Str} {mean : ExcName → Option Value} {mg mb : Str → Option Value} {l : List Nat} {c n : Nat} {tt tw : Tok} {g h' : Heap} {L' : Addr} {news : List (Addr × Obj)} {f c' c1 c2 : Addr} {o1 o2 oc : Obj} {vs : Array Value} {t : Tok} {qual : Str} {pm ctv : Value}
    (hc : c = 104 ∨ c = 112) (hn1 : 1 ≤ n) (hn2 : n ≤ 17) (hl : l.length ≤ 16) (N : News g L' h' news) (hf : (f, kla_obj (Str.ofString "<lambda>") qual (lamP la2) (lamB la2) (lamS la2) [(Str.ofString "want", c2), (Str.ofString "text", c1)] pm c' ctv) ∈ news)
    (hcc : (c', oc) ∈ news) (hv : oc.data = .fields vs) (hvs : vs[1]? = some (.str qual t)) (h1 : (c1, o1) ∈ news) (d1 : o1.data = .cell (some (.str (Sx l) tt))) (h2 : (c2, o2) ∈ news) (d2 : o2.data = .cell (some (.str (Sx (wantL c n)) tw)))
    (k : Nat) (tk : Tok) (hk : k < l.length + 1) : Tells prog w (K1 w.params) p loose mean mg mb h' (.ref f) [.int k tk] [] 2 16 (fun v => v = .bool ((fun k => decide (n ≤ cnt c (l.take k))) k)) :=
  lam2 (N _ hf).1 (codeRec_news N hcc hv hvs) (N _ h1).1 d1 (N _ h2).1 d2 hc hn1 hn2 hl (by omega)
theorem bis_le (f : Nat → Bool) : ∀ (j lo hi : Nat), lo ≤ hi → bis f j lo hi ≤ hi
  | 0, lo, hi, h => h
  | j + 1, lo, hi, h => by
    unfold bis
    split
    · split
      · exact Nat.le_trans (bis_le f j lo ((lo + hi) / 2) (by omega)) (by omega)
      · exact bis_le f j ((lo + hi) / 2 + 1) hi (by omega)
    · exact h
theorem bis_true {N : Nat} (f : Nat → Bool) : ∀ (j lo hi : Nat), lo ≤ hi → hi - lo ≤ j → (f hi = true ∨ hi = N) → (f (bis f j lo hi) = true ∨ bis f j lo hi = N)
  | 0, lo, hi, h, hj, hf => by
    have e : lo = hi := by omega
    subst e
    exact hf
  | j + 1, lo, hi, h, hj, hf => by
    unfold bis
    by_cases hlt : lo < hi
    · rw [if_pos hlt]
      cases hm : f ((lo + hi) / 2) with
      | true => exact bis_true f j lo ((lo + hi) / 2) (by omega) (by omega) (.inl hm)
      | false => exact bis_true f j ((lo + hi) / 2 + 1) hi (by omega) (by omega) hf
    · rw [if_neg hlt]
      have e : lo = hi := by omega
      subst e
      exact hf
theorem it_not_cell {o : Obj} (h : isIt o) (v : Option Value) : o.data ≠ .cell v := by
  obtain ⟨_, a, b, c, e⟩ := h
  rw [e]; nofun
section
variable {prog : Program} {w : World} {A : Around} {E : Value → Shared → Prop} {s : Shared} {h₀ h' : Heap} {L Dp Df Lw Lt : Addr} {m m' : Str → Option Value} {pvs fvs : List Value} {kp cf : Nat} {o5 ot : Obj} {vw vt : Option Value} {tn tn' own news news' : List (Addr × Obj)}
/-- a place is added -/
theorem places_append {x : Value} {Q : Value → Shared → Prop} (F : Fr h₀ L s.heap m) (N : News h₀ L s.heap news) (hs : ∀ q ∈ (Dp, listOf pvs.toArray kp) :: (Df, listOf fvs.toArray cf) :: (Lw, o5) :: (Lt, ot) :: (tn' ++ own), q ∈ news)
    (hne : pvs.length ≠ fvs.length) (d5 : o5.data = .cell vw) (dt : ot.data = .cell vt) (hT : TabN tn') (hit : ∀ p ∈ own, isIt p.2) (hsz : pvs.length ≤ 100)
    (h : ∀ h', Fr h₀ L h' m → News h₀ L h' ((Dp, listOf (pvs ++ [x]).toArray (kp + 1)) :: (Df, listOf fvs.toArray cf) :: (Lw, o5) :: (Lt, ot) :: (tn' ++ own)) → Q .none { s with heap := h' }) :
    wpAny (model prog w) A (call (.builtin "list.append") [.ref Dp, x]) Q E s := by
  have N1 := news_sub N hs
  refine append_K (its := pvs.toArray) (news' := (Dp, listOf (pvs.toArray.push x) (kp + 1)) :: (Df, listOf fvs.toArray cf) :: (Lw, o5) :: (Lt, ot) :: (tn' ++ own)) F N1 (.head fun q hq => ?_) (fun h' F' N' => h h' F' (by rw [List.push_toArray] at N'; exact N')) (by rw [List.size_toArray]; exact Nat.le_trans hsz (by decide))
  refine ne_of N1 (.tail _ hq) (.head _) ?_
  rcases List.mem_cons.mp hq with rfl | hq
  · intro e
    have e2 : Data.seq fvs.toArray cf = Data.seq pvs.toArray kp := congrArg Obj.data e
    cases e2
    exact hne rfl
  rcases List.mem_cons.mp hq with rfl | hq
  · intro e
    have e2 : o5.data = _ := congrArg Obj.data e
    rw [d5] at e2
    cases e2
  rcases List.mem_cons.mp hq with rfl | hq
  · intro e
    have e2 : ot.data = _ := congrArg Obj.data e
    rw [dt] at e2
    cases e2
  rcases List.mem_append.mp hq with hq | hq
  · exact hT.notList hq
  · exact (hit _ hq).notList
/-- a turn's end -/
theorem places_end {J : (Str → Option Value) → List (Addr × Obj) → Prop} {s₁ : Shared} {tk : Nat} (F : Fr h₀ L h' m') (N : News h₀ L h' news) (hs : ∀ q ∈ (Dp, listOf pvs.toArray kp) :: (Df, listOf fvs.toArray cf) :: (Lw, o5) :: (Lt, ot) :: (tn' ++ own), q ∈ news)
    (d5 : o5.data = .cell vw) (dt : ot.data = .cell vt) (hT : TabN tn') (hit : ∀ p ∈ own, isIt p.2)
    (hJ : J m' ((Dp, listOf pvs.toArray kp) :: (Df, listOf fvs.toArray cf) :: (Lw, o5) :: (Lt, ot) :: tn')) : InvEndG h₀ L J own s₁ { s₁ with heap := h', toks := tk } := by
  have N1 := news_sub N hs
  refine InvEndG.intro F N1 hJ ?_ ?_ ?_
  · intro p hp b hb
    obtain ⟨q, hq, rfl⟩ := List.mem_map.mp hb
    have hp1 : p ∈ (Dp, listOf pvs.toArray kp) :: (Df, listOf fvs.toArray cf) :: (Lw, o5) :: (Lt, ot) :: (tn' ++ own) := by simp [hp]
    have hq1 : q ∈ (Dp, listOf pvs.toArray kp) :: (Df, listOf fvs.toArray cf) :: (Lw, o5) :: (Lt, ot) :: (tn' ++ own) := by
      simp only [List.mem_cons, List.mem_append] at hq ⊢
      rcases hq with h | h | h | h | h <;> simp [h]
    have z := hit p hp
    refine ne_of N1 hp1 hq1 ?_
    rcases List.mem_cons.mp hq with rfl | hq
    · exact z.notList
    rcases List.mem_cons.mp hq with rfl | hq
    · exact z.notList
    rcases List.mem_cons.mp hq with rfl | hq
    · intro e
      exact it_not_cell z _ (by rw [e]; exact d5)
    rcases List.mem_cons.mp hq with rfl | hq
    · intro e
      exact it_not_cell z _ (by rw [e]; exact dt)
    exact fun e => hT.notIt hq z e.symm
  · intro q hq
    simp only [List.mem_cons, List.mem_append] at hq ⊢
    rcases hq with h | h | h | h | h <;> simp [h]
  · intro q hq
    simp [hq]
end
theorem placesGo_stop {l : List Nat} {c r n a : Nat} (h : bis (fun k => decide (n ≤ cnt c (l.take k))) (l.length + 1) a (l.length + 1) = l.length + 1) : placesGo l c r n a = [] := by
  cases r with
  | zero => rfl
  | succ r => exact if_pos h
theorem placesGo_go {l : List Nat} {c r n a b : Nat} (h : bis (fun k => decide (n ≤ cnt c (l.take k))) (l.length + 1) a (l.length + 1) = b) (hb : b ≠ l.length + 1) : placesGo l c (r + 1) n a = (b - 1) :: placesGo l c r (n + 1) b := by
  subst h
  exact if_neg hb
theorem sub3 {h₀ h : Heap} {L : Addr} {news : List (Addr × Obj)} {a b d : Addr × Obj} (N : News h₀ L h news) (ha : a ∈ news) (hb : b ∈ news) (hd : d ∈ news) : ∀ q ∈ [a, b] ++ [d], q ∈ news := by
  intro q hq
  rcases List.mem_cons.mp hq with rfl | hq
  · exact ha
  rcases List.mem_cons.mp hq with rfl | hq
  · exact hb
  rcases List.mem_cons.mp hq with rfl | hq
  · exact hd
  · cases hq
theorem cnt_pos {c n b : Nat} {l : List Nat} (h : n + 1 ≤ cnt c (l.take b)) : 1 ≤ b := by
  cases b with
  | zero => rw [List.take_zero] at h; exact absurd h (Nat.not_succ_le_zero _)
  | succ b => exact Nat.succ_le_succ (Nat.zero_le _)
local macro_rules | `(tactic| walk_at "InvEndG") => `(tactic| (refine halt ?_))
local macro_rules | `(tactic| walk_at "call builtin:list.append") => `(tactic| (refine halt ?_))
local macro_rules | `(tactic| walk_at "eval Lambda") => `(tactic| (refine halt ?_))
local macro_rules | `(tactic| walk_at "call ref") => `(tactic| (refine halt ?_))
local macro_rules | `(tactic| walk_at "storeName") => `(tactic| ((with_reducible show wpAny _ _ (storeName _ (Str.ofString "want") (Value.str (Str.ofString "..." ++ _) _)) _ _ _); refine halt ?_))
local macro_rules | `(tactic| walk_at "pyIter ref") => `(tactic| (refine halt ?_))
theorem places1 {prog : Program} {w : World} {p : Program} {loose : List Str} {mean : ExcName → Option Value} {mg mb : Str → Option Value} {l : List Nat} {c : Nat} {tt tl : Tok}
    (hc : c = 104 ∨ c = 112) (hl : l.length = 16) :
    TellsT prog w (K1 w.params) p loose mean mg mb (.ref 131) [.str (Sx l) tt, .str (Sx [c]) tl] [] 4 60 (fun v nx => ∃ D vs k, v = .ref D ∧ nx = [(D, listOf vs.toArray k)] ∧ IntsAre vs ((placesL l c).map fun x : Nat => (x : Int))) := by
  w_on
  k_with_none
  w_strict (
    refine (fun (h : PySem.Challenge.rw_re0150_02 = PySem.Challenge.rw_re0150_02 → _) => h rfl) ?_
    k_fill
    intro kk9
    clear kk9
    intro dp un gd cn cs a ccd cl outer A₀ base h₀ L m s tn Q E B F X T hk N hT hd hu hret
    refine wpAny_call ?_
    (k_dflt (refine' enterC [(Str.ofString "text", .str (Sx l) tt), (Str.ofString "letter", .str (Sx [c]) tl)] B F X T hk N ?k6 ?k7 ?k8 ?k9 ?kB ?kD ?_ ?c2 ?c3 ?c4; (case k6 => k_is); (case k7 => k_is); (case k9 => exact BindsTo.of_eq rfl); (case k8 => (show dp < recursionLimit; omega)); (case kB => exact rfl); (case kD => decide +kernel); (case c2 => exact rfl); (case c3 => exact rfl); (case c4 => exact rfl)))
    intro g' L' h' tk' cells' hz9 hK9 F' N' Y' B' X' T' l1
    k_cells Y'
    (rename Obj.data _ = _ => dT)
    revert dT
    (rename Obj.data _ = _ => dW)
    intro dT
    (try simp only [List.cons_append, List.nil_append] at N')
    have CH : CodeHd g' 130 126 := ⟨_, _, _, _, _, _, _, _, _, X' 130 _ rfl, rfl, rfl, rfl, rfl, rfl, rfl, rfl, rfl, by decide⟩
    k_whole
    (try dsimp only)
    (try k_fold)
    dsimp only [fBody, fScope, st15, nthS, PySem.Challenge.pw_re0150_02]
    have hl0 := sx_len l
    have hl1 : (Sx l).length ≤ 100 := by omega
    k_steps
    refine go_on ?_
    (rename News _ _ _ _ => N1)
    (rename Fr _ _ _ _ => F1)
    (rename IsRange _ _ _ _ _ _ _ _ => rg2)
    (rename IntsAre _ (rangeKs _ _) => hI1)
    have hs9 := steps_int (n := l.length + 1) hI1 (by omega)
    k_dflt (refine name_it (A := fun z : Addr × Addr × List Value × Nat × Addr × Obj × Addr × Obj => ∃ m, News g' L' _ ((z.1, W.listOf #[] 0) :: (z.2.1, W.listOf z.2.2.1.toArray z.2.2.2.1) :: (z.2.2.2.2.1, z.2.2.2.2.2.1) :: (z.2.2.2.2.2.2.1, z.2.2.2.2.2.2.2) :: tn) ∧ Fr g' L' _ m ∧ m (Str.ofString "fronts") = some (.ref z.2.1) ∧ m (Str.ofString "places") = some (.ref z.1) ∧ m (Str.ofString "letter") = some (.str (Sx [c]) tl) ∧ (∃ ta, m (Str.ofString "at") = some (.int ((0 : Nat) : Int) ta)) ∧ ((∀ i, i < l.length + 1 → ∃ t, z.2.2.1[i]? = some (.int i t)) ∧ z.2.2.1.length = l.length + 1) ∧ z.2.2.2.2.1 = L' + 1 + 1 ∧ z.2.2.2.2.2.2.1 = L' + 1 ∧ (∃ v, z.2.2.2.2.2.1.data = .cell v) ∧ z.2.2.2.2.2.2.2.data = .cell (some (.str (Sx l) tt))) (D := (_, _, _, _, _, _, _, _)) ⟨_, N1, F1, rfl, rfl, rfl, ⟨_, rfl⟩, hs9, rfl, rfl, ⟨_, dW⟩, dT⟩ ?_)
    rintro ⟨Dp, Df, fvs, cf, Lw, ow, Lt, ot⟩ ⟨m2, N2, F2, hm1, hm2, hm3, ⟨ta2, hm4⟩, hfv, hLw, hLt, how, hot⟩
    dsimp only at N2 F2 hm1 hm2 hm3 hfv hLw hLt how hot
    subst hLw
    subst hLt
    k_dflt (refine' range_for (fun i m nx => m (Str.ofString "fronts") = some (.ref Df) ∧ m (Str.ofString "places") = some (.ref Dp) ∧ m (Str.ofString "letter") = some (.str (Sx [c]) tl) ∧ ∃ (a : Nat) (ta : Tok) (acc : List Nat) (pvs : List Value) (kp : Nat) (ow : Obj) (tn' : List (Addr × Obj)), m (Str.ofString "at") = some (.int (a : Int) ta) ∧ a ≤ l.length ∧ i ≤ cnt c (l.take a) ∧
        nx = (Dp, listOf pvs.toArray kp) :: (Df, listOf fvs.toArray cf) :: (L' + 1 + 1, ow) :: (L' + 1, ot) :: tn' ∧ (∃ v, ow.data = .cell v) ∧ TabN tn' ∧ (∀ q ∈ tn, q.1 ≠ 126 → q ∈ tn') ∧ IntsAre pvs (acc.map fun x : Nat => (x : Int)) ∧ acc.length = i ∧ acc ++ placesGo l c (l.length + 1 - i) (i + 1) a = placesL l c) rfl rg2 ?sm (rangeSize_nat _ _) F2 N2 ?hj ?turn ?done; (case sm => exact small_one (by omega) (by omega) (by omega) (by omega)); (case hj => exact ⟨hm1, hm2, hm3, 0, ta2, [], [], 0, ow, tn, hm4, Nat.zero_le _, Nat.zero_le _, rfl, how, hT, (fun _ h _ => h), .nil, rfl, rfl⟩))
    · intro i9 t9 m9 nx9 h9 tk9 own9 hi9 hit9 hoff9 hJ9 F9 N9
      obtain ⟨g1, g2, g3, a9, ta9, acc9, pvs9, kp9, ow9, tn9, g4, ha9, hcn9, rfl, ⟨vw9, how9⟩, hT9, hmo9, hI9, hal9, hgo9⟩ := hJ9
      rw [show (1 : Int) + (i9 : Int) = ((i9 + 1 : Nat) : Int) by omega] at F9
      have F8 := fr_turn [(Str.ofString "fronts", .ref Df), (Str.ofString "places", .ref Dp), (Str.ofString "letter", .str (Sx [c]) tl), (Str.ofString "at", .int (a9 : Int) ta9)] (by intro q hq; rcases List.mem_cons.mp hq with rfl | hq; exact g1; rcases List.mem_cons.mp hq with rfl | hq; exact g2; rcases List.mem_cons.mp hq with rfl | hq; exact g3; rcases List.mem_cons.mp hq with rfl | hq; exact g4; cases hq) F9
      clear F9
      have hi17 : i9 < 17 := by omega
      have hml := mul_len hc hi17
      rcases hT9 with rfl | ⟨c7, oc7, vs7, t7', rfl, d6, d7, lt0⟩
      all_goals (try simp only [List.cons_append, List.nil_append] at N9)
      all_goals k_steps
      all_goals (k_dflt (refine SB.mul (mulOk_of 16 1048576 (by show ([c].toArray ++ (Str.ofString "...").cps).size ≤ 16; rw [Array.size_append]; exact Nat.le_of_ble_eq_true rfl) (by omega) (by omega) (by decide) (by decide)) ?_))
      all_goals intro t7 k7
      all_goals k_steps
      focus
        refine go_on ?_
        rw [want_mul hc hi17]
        (rename News _ _ _ _ => N3)
        (rename Fr _ _ _ _ => F3)
        have hU3 := updF_of (d := L' + 1 + 1) (o := ow9) [(Dp, W.listOf pvs9.toArray kp9), (Df, W.listOf fvs.toArray cf)] (post := (L' + 1, ot) :: (126, tabObj #[]) :: own9) (cell_off N3 how9 (fun p hp => by rcases List.mem_cons.mp hp with rfl | hp; exact ⟨.head _, fun v => nofun⟩; rcases List.mem_cons.mp hp with rfl | hp; exact ⟨.tail _ (.head _), fun v => nofun⟩; cases hp) (.tail _ (.tail _ (.head _))))
          (fun p hp => by
            rcases List.mem_cons.mp hp with rfl | hp
            · exact Nat.ne_of_lt (Nat.lt_succ_self _)
            · exact cell_off N3 how9 (fun q hq => ⟨.tail _ (.tail _ (.tail _ (.tail _ hq))), fun v => by rcases List.mem_cons.mp hq with rfl | hq; nofun; exact it_not_cell (hit9 q hq) v⟩) (.tail _ (.tail _ (.head _))) p hp)
        k_dflt (refine storeX_C F3 N3 rfl hU3 how9 (fun h5 o5 F5 N5 d5 => ?_) rfl rfl)
        simp only [List.cons_append, List.nil_append] at N5
        clear hU3
        k_steps
        refine go_on ?_
        (rename News _ _ _ _ => N7)
        (rename Fr _ _ _ _ => F7)
        have hU7 := updF_of (d := 126) (o := tabObj #[]) [(Dp, W.listOf pvs9.toArray kp9), (Df, W.listOf fvs.toArray cf), (L' + 1 + 1, o5), (L' + 1, ot)] (post := own9)
          (tab_off N7 (fun p hp => by
            rcases List.mem_cons.mp hp with rfl | hp
            · exact ⟨.head _, fun e => by cases congrArg Obj.data e⟩
            rcases List.mem_cons.mp hp with rfl | hp
            · exact ⟨.tail _ (.head _), fun e => by cases congrArg Obj.data e⟩
            rcases List.mem_cons.mp hp with rfl | hp
            · exact ⟨.tail _ (.tail _ (.head _)), fun e => by have := congrArg Obj.data e; rw [show (L' + 1 + 1, o5).2.data = _ from d5] at this; cases this⟩
            rcases List.mem_cons.mp hp with rfl | hp
            · exact ⟨.tail _ (.tail _ (.tail _ (.head _))), fun e => by have := congrArg Obj.data e; rw [show (L' + 1, ot).2.data = _ from hot] at this; cases this⟩
            cases hp) (.tail _ (.tail _ (.tail _ (.tail _ (.head _))))))
          (tab_off N7 (fun p hp => ⟨.tail _ (.tail _ (.tail _ (.tail _ (.tail _ hp)))), fun e => by have := (hit9 p hp).1; rw [e] at this; cases this⟩) (.tail _ (.tail _ (.tail _ (.tail _ (.head _))))))
        k_dflt (refine' kla_eval ?d0 ?_; (case d0 => exact rfl))
        k_dflt (refine' kla_nest F7 N7 T' CH rfl hU7 ?t9 ?n9 rfl ?_; (case t9 => kn_triples); (case n9 => kn_among))
        intro f7 c7 oc7 vs7 t7' ct7 h7 tk7 F6 N6 d6 d7 lt1 lt2
        simp only [List.cons_append, List.nil_append] at N6
        clear hU7
        clear N3 N7
        k_steps
      rotate_left 2
      focus
        refine go_on ?_
        rw [want_mul hc hi17]
        (rename News _ _ _ _ => N3)
        (rename Fr _ _ _ _ => F3)
        have hU3 := updF_of (d := L' + 1 + 1) (o := ow9) [(Dp, W.listOf pvs9.toArray kp9), (Df, W.listOf fvs.toArray cf)] (post := (L' + 1, ot) :: (126, tabObj #[rawInt 107, rawInt 16, .ref c7]) :: (c7, oc7) :: own9) (cell_off N3 how9 (fun p hp => by rcases List.mem_cons.mp hp with rfl | hp; exact ⟨.head _, fun v => nofun⟩; rcases List.mem_cons.mp hp with rfl | hp; exact ⟨.tail _ (.head _), fun v => nofun⟩; cases hp) (.tail _ (.tail _ (.head _))))
          (fun p hp => by
            rcases List.mem_cons.mp hp with rfl | hp
            · exact Nat.ne_of_lt (Nat.lt_succ_self _)
            · exact cell_off N3 how9 (fun q hq => ⟨.tail _ (.tail _ (.tail _ (.tail _ hq))), fun v => by rcases List.mem_cons.mp hq with rfl | hq; nofun; rcases List.mem_cons.mp hq with rfl | hq; (rw [show (c7, oc7).2.data = _ from d6]; nofun); exact it_not_cell (hit9 q hq) v⟩) (.tail _ (.tail _ (.head _))) p hp)
        k_dflt (refine storeX_C F3 N3 rfl hU3 how9 (fun h5 o5 F5 N5 d5 => ?_) rfl rfl)
        simp only [List.cons_append, List.nil_append] at N5
        clear hU3
        k_steps
        refine go_on ?_
        (rename News _ _ _ _ => N7)
        (rename Fr _ _ _ _ => F7)
        k_dflt (refine' kla_eval ?d1 ?_; (case d1 => exact rfl))
        k_dflt (refine' kla_hit (c' := c7) F7 N7 T' CH rfl (.tail _ (.tail _ (.tail _ (.tail _ (.head _))))) ?t8 ?n8 rfl ?_; (case t8 => kn_triples); (case n8 => kn_hit))
        intro f7 ct7 h7 tk7 F6 N6 lt1
        clear N3 N7
        k_steps
      all_goals refine go_on ?_
      all_goals (rename News _ _ _ _ => N4)
      all_goals (rename Fr _ _ _ _ => F4)
      all_goals have hkey := placesKey (prog := prog) (w := w) (p := p) (loose := loose) (mean := mean) (mg := mg) (mb := mb) hc (show 1 ≤ i9 + 1 by omega) (show i9 + 1 ≤ 17 by omega) (show l.length ≤ 16 by omega) N4 (by k_mem) (show (c7, oc7) ∈ _ by k_mem) d6 d7 (show (L' + 1, ot) ∈ _ by k_mem) hot (show (L' + 1 + 1, o5) ∈ _ by k_mem) d5
      all_goals have hlst := isList_of N4 (show (Df, W.listOf fvs.toArray cf) ∈ _ by k_mem) rfl ⟨_, rfl⟩
      all_goals have hfun := (N4 _ (show (f7, _) ∈ _ by k_mem)).1
      all_goals (k_dflt (first
        | (refine tells_use (bisl1 (lo₀ := a9) (fun k => decide (i9 + 1 ≤ cnt c (l.take k))) hlst hfun hfv.1 hfv.2 (by omega) (by omega) hkey) B' F4 X' N4 T' rfl (fun _ _ e => e) (by show dp + 1 + (2 + 1) < recursionLimit; omega) (by show un + 3 + (16 + 8) < cLine; omega) ?_)
        | (refine tells_use (bisr1 (lo₀ := a9) (fun k => decide (i9 + 1 ≤ cnt c (l.take k))) hlst hfun hfv.1 hfv.2 (by omega) (by omega) hkey) B' F4 X' N4 T' rfl (fun _ _ e => e) (by show dp + 1 + (2 + 1) < recursionLimit; omega) (by show un + 3 + (16 + 8) < cLine; omega) ?_)))
      all_goals intro v8 h8 tk8 hv8 F3 N3 st8
      all_goals obtain ⟨t8, rfl⟩ := hv8
      all_goals clear hkey hlst hfun st8
      all_goals have hb1 := bis_le (fun k => decide (i9 + 1 ≤ cnt c (l.take k))) (l.length + 1) a9 (l.length + 1) (by omega)
      all_goals have hb2 := bis_true (fun k => decide (i9 + 1 ≤ cnt c (l.take k))) (l.length + 1) a9 (l.length + 1) (by omega) (by omega) (.inr rfl)
      all_goals generalize hb : bis (fun k => decide (i9 + 1 ≤ cnt c (l.take k))) (l.length + 1) a9 (l.length + 1) = b8 at hb1 hb2 ⊢
      all_goals k_steps
      all_goals (k_dflt (refine len_list (items := fvs.toArray) ⟨_, ((by assumption : News _ _ _ _) _ (show (Df, W.listOf fvs.toArray cf) ∈ _ by k_mem)).1, rfl, _, rfl⟩ (by rw [List.size_toArray, hfv.2]; omega) ?_))
      all_goals rw [show ((fvs.toArray.size : Nat) : Int) = ((l.length + 1 : Nat) : Int) by rw [List.size_toArray, hfv.2]]
      all_goals k_steps
      all_goals have hT8 : TabN [(126, tabObj #[rawInt 107, rawInt 16, .ref c7]), (c7, oc7)] := .inr ⟨c7, oc7, vs7, t7', rfl, d6, d7, by first | exact lt0 | exact lt1 (126, tabObj #[]) (by k_mem)⟩
      all_goals have hmo8 : ∀ q ∈ tn, q.1 ≠ 126 → q ∈ [(126, tabObj #[rawInt 107, rawInt 16, .ref c7]), (c7, oc7)] := by first | exact hmo9 | exact fun q hq hne => by rcases List.mem_cons.mp (hmo9 q hq hne) with rfl | h; exact absurd rfl hne; cases h
      all_goals (rename News g' L' _ _ => N10)
      all_goals (rename Fr g' L' _ _ => F10)
      · rw [placesGo_stop (by rw [hb]; omega), List.append_nil] at hgo9
        rw [hgo9] at hI9
        (rename News h₀ L _ _ => kN9)
        have hsub := (fun q (hq : q ∈ [(126, tabObj #[rawInt 107, rawInt 16, .ref c7]), (c7, oc7)] ++ [(Dp, W.listOf pvs9.toArray kp9)]) => sub3 N10 (show (126, _) ∈ _ by k_mem) (show (c7, _) ∈ _ by k_mem) (show (Dp, _) ∈ _ by k_mem) q hq)
        k_dflt (exact hret _ _ _ [(126, tabObj #[rawInt 107, rawInt 16, .ref c7]), (c7, oc7)] [(Dp, W.listOf pvs9.toArray kp9)] ⟨Dp, pvs9, kp9, rfl, rfl, hI9⟩ (ext_of hK9 F10 N10 N (fun q hq hne => hsub q (List.mem_append_left _ (hmo8 q hq hne)))) (news_sub kN9 hsub) hT8 (fresh_of hK9 (news_sub N10 hsub)) hmo8)
      · have hcn8 : i9 + 1 ≤ cnt c (l.take b8) := by
          rcases hb2 with h | h
          · exact of_decide_eq_true h
          · omega
        have hb8 : 1 ≤ b8 := cnt_pos hcn8
        have hpl : pvs9.length = i9 := by have := hI9.length; rw [List.length_map] at this; omega
        rw [show l.length + 1 - i9 = (l.length - i9) + 1 by omega, placesGo_go hb (by omega)] at hgo9
        k_dflt (refine places_append (Dp := Dp) (pvs := pvs9) (kp := kp9) (Df := Df) (fvs := fvs) (cf := cf) (Lw := L' + 1 + 1) (Lt := L' + 1) (own := own9) F10 N10 (fun q hq => ?_) (by rw [hpl, hfv.2]; omega) d5 hot hT8 hit9 (by omega) ?_)
        · simp only [List.mem_cons, List.mem_append, List.not_mem_nil, or_false] at hq ⊢
          rcases hq with h | h | h | h | (h | h) | h <;> (first | exact .inl h | exact .inr (.inl h) | exact .inr (.inr (.inl h)) | exact .inr (.inr (.inr (.inl h))) | exact .inr (.inr (.inr (.inr (.inl h)))) | exact .inr (.inr (.inr (.inr (.inr (.inl h))))) | exact .inr (.inr (.inr (.inr (.inr (.inr (.inl h)))))) | exact .inr (.inr (.inr (.inr (.inr (.inr (.inr (.inl h))))))) | exact .inr (.inr (.inr (.inr (.inr (.inr (.inr h)))))) | exact .inr (.inr (.inr (.inr (.inr (.inr h))))))
        intro h11 F11 N11
        k_steps
        refine go_on ?_
        (rename News _ _ _ _ => N12)
        (rename Fr _ _ _ _ => F12)
        k_dflt (refine places_end (own := own9) F12 N12 (fun q hq => hq) d5 hot hT8 hit9 ⟨rfl, rfl, rfl, b8, _, acc9 ++ [b8 - 1], _, _, o5, _, rfl, by omega, hcn8, rfl, ⟨_, d5⟩, hT8, hmo8, ?_, by rw [List.length_append, hal9]; rfl, by rw [List.append_assoc, show l.length + 1 - (i9 + 1) = l.length - i9 by omega]; exact hgo9⟩)
        rw [List.map_append, show ((b8 : Int) - 1) = ((b8 - 1 : Nat) : Int) by omega]
        exact ksk_snoc hI9
      · rw [placesGo_stop (by rw [hb]; omega), List.append_nil] at hgo9
        rw [hgo9] at hI9
        (rename News h₀ L _ _ => kN9)
        have hsub := (fun q (hq : q ∈ [(126, tabObj #[rawInt 107, rawInt 16, .ref c7]), (c7, oc7)] ++ [(Dp, W.listOf pvs9.toArray kp9)]) => sub3 N10 (show (126, _) ∈ _ by k_mem) (show (c7, _) ∈ _ by k_mem) (show (Dp, _) ∈ _ by k_mem) q hq)
        k_dflt (exact hret _ _ _ [(126, tabObj #[rawInt 107, rawInt 16, .ref c7]), (c7, oc7)] [(Dp, W.listOf pvs9.toArray kp9)] ⟨Dp, pvs9, kp9, rfl, rfl, hI9⟩ (ext_of hK9 F10 N10 N (fun q hq hne => hsub q (List.mem_append_left _ (hmo8 q hq hne)))) (news_sub kN9 hsub) hT8 (fresh_of hK9 (news_sub N10 hsub)) hmo8)
      · have hcn8 : i9 + 1 ≤ cnt c (l.take b8) := by
          rcases hb2 with h | h
          · exact of_decide_eq_true h
          · omega
        have hb8 : 1 ≤ b8 := cnt_pos hcn8
        have hpl : pvs9.length = i9 := by have := hI9.length; rw [List.length_map] at this; omega
        rw [show l.length + 1 - i9 = (l.length - i9) + 1 by omega, placesGo_go hb (by omega)] at hgo9
        k_dflt (refine places_append (Dp := Dp) (pvs := pvs9) (kp := kp9) (Df := Df) (fvs := fvs) (cf := cf) (Lw := L' + 1 + 1) (Lt := L' + 1) (own := own9) F10 N10 (fun q hq => ?_) (by rw [hpl, hfv.2]; omega) d5 hot hT8 hit9 (by omega) ?_)
        · simp only [List.mem_cons, List.mem_append, List.not_mem_nil, or_false] at hq ⊢
          rcases hq with h | h | h | h | (h | h) | h <;> (first | exact .inl h | exact .inr (.inl h) | exact .inr (.inr (.inl h)) | exact .inr (.inr (.inr (.inl h))) | exact .inr (.inr (.inr (.inr (.inl h)))) | exact .inr (.inr (.inr (.inr (.inr (.inl h))))) | exact .inr (.inr (.inr (.inr (.inr (.inr (.inl h)))))) | exact .inr (.inr (.inr (.inr (.inr (.inr (.inr (.inl h))))))) | exact .inr (.inr (.inr (.inr (.inr (.inr (.inr h)))))) | exact .inr (.inr (.inr (.inr (.inr (.inr h))))))
        intro h11 F11 N11
        k_steps
        refine go_on ?_
        (rename News _ _ _ _ => N12)
        (rename Fr _ _ _ _ => F12)
        k_dflt (refine places_end (own := own9) F12 N12 (fun q hq => hq) d5 hot hT8 hit9 ⟨rfl, rfl, rfl, b8, _, acc9 ++ [b8 - 1], _, _, o5, _, rfl, by omega, hcn8, rfl, ⟨_, d5⟩, hT8, hmo8, ?_, by rw [List.length_append, hal9]; rfl, by rw [List.append_assoc, show l.length + 1 - (i9 + 1) = l.length - i9 by omega]; exact hgo9⟩)
        rw [List.map_append, show ((b8 : Int) - 1) = ((b8 - 1 : Nat) : Int) by omega]
        exact ksk_snoc hI9
      · rw [placesGo_stop (by rw [hb]; omega), List.append_nil] at hgo9
        rw [hgo9] at hI9
        (rename News h₀ L _ _ => kN9)
        have hsub := (fun q (hq : q ∈ [(126, tabObj #[rawInt 107, rawInt 16, .ref c7]), (c7, oc7)] ++ [(Dp, W.listOf pvs9.toArray kp9)]) => sub3 N10 (show (126, _) ∈ _ by k_mem) (show (c7, _) ∈ _ by k_mem) (show (Dp, _) ∈ _ by k_mem) q hq)
        k_dflt (exact hret _ _ _ [(126, tabObj #[rawInt 107, rawInt 16, .ref c7]), (c7, oc7)] [(Dp, W.listOf pvs9.toArray kp9)] ⟨Dp, pvs9, kp9, rfl, rfl, hI9⟩ (ext_of hK9 F10 N10 N (fun q hq hne => hsub q (List.mem_append_left _ (hmo8 q hq hne)))) (news_sub kN9 hsub) hT8 (fresh_of hK9 (news_sub N10 hsub)) hmo8)
      · have hcn8 : i9 + 1 ≤ cnt c (l.take b8) := by
          rcases hb2 with h | h
          · exact of_decide_eq_true h
          · omega
        have hb8 : 1 ≤ b8 := cnt_pos hcn8
        have hpl : pvs9.length = i9 := by have := hI9.length; rw [List.length_map] at this; omega
        rw [show l.length + 1 - i9 = (l.length - i9) + 1 by omega, placesGo_go hb (by omega)] at hgo9
        k_dflt (refine places_append (Dp := Dp) (pvs := pvs9) (kp := kp9) (Df := Df) (fvs := fvs) (cf := cf) (Lw := L' + 1 + 1) (Lt := L' + 1) (own := own9) F10 N10 (fun q hq => ?_) (by rw [hpl, hfv.2]; omega) d5 hot hT8 hit9 (by omega) ?_)
        · simp only [List.mem_cons, List.mem_append, List.not_mem_nil, or_false] at hq ⊢
          rcases hq with h | h | h | h | (h | h) | h <;> (first | exact .inl h | exact .inr (.inl h) | exact .inr (.inr (.inl h)) | exact .inr (.inr (.inr (.inl h))) | exact .inr (.inr (.inr (.inr (.inl h)))) | exact .inr (.inr (.inr (.inr (.inr (.inl h))))) | exact .inr (.inr (.inr (.inr (.inr (.inr (.inl h)))))) | exact .inr (.inr (.inr (.inr (.inr (.inr (.inr (.inl h))))))) | exact .inr (.inr (.inr (.inr (.inr (.inr (.inr h)))))) | exact .inr (.inr (.inr (.inr (.inr (.inr h))))))
        intro h11 F11 N11
        k_steps
        refine go_on ?_
        (rename News _ _ _ _ => N12)
        (rename Fr _ _ _ _ => F12)
        k_dflt (refine places_end (own := own9) F12 N12 (fun q hq => hq) d5 hot hT8 hit9 ⟨rfl, rfl, rfl, b8, _, acc9 ++ [b8 - 1], _, _, o5, _, rfl, by omega, hcn8, rfl, ⟨_, d5⟩, hT8, hmo8, ?_, by rw [List.length_append, hal9]; rfl, by rw [List.append_assoc, show l.length + 1 - (i9 + 1) = l.length - i9 by omega]; exact hgo9⟩)
        rw [List.map_append, show ((b8 : Int) - 1) = ((b8 - 1 : Nat) : Int) by omega]
        exact ksk_snoc hI9
      · rw [placesGo_stop (by rw [hb]; omega), List.append_nil] at hgo9
        rw [hgo9] at hI9
        (rename News h₀ L _ _ => kN9)
        have hsub := (fun q (hq : q ∈ [(126, tabObj #[rawInt 107, rawInt 16, .ref c7]), (c7, oc7)] ++ [(Dp, W.listOf pvs9.toArray kp9)]) => sub3 N10 (show (126, _) ∈ _ by k_mem) (show (c7, _) ∈ _ by k_mem) (show (Dp, _) ∈ _ by k_mem) q hq)
        k_dflt (exact hret _ _ _ [(126, tabObj #[rawInt 107, rawInt 16, .ref c7]), (c7, oc7)] [(Dp, W.listOf pvs9.toArray kp9)] ⟨Dp, pvs9, kp9, rfl, rfl, hI9⟩ (ext_of hK9 F10 N10 N (fun q hq hne => hsub q (List.mem_append_left _ (hmo8 q hq hne)))) (news_sub kN9 hsub) hT8 (fresh_of hK9 (news_sub N10 hsub)) hmo8)
      · have hcn8 : i9 + 1 ≤ cnt c (l.take b8) := by
          rcases hb2 with h | h
          · exact of_decide_eq_true h
          · omega
        have hb8 : 1 ≤ b8 := cnt_pos hcn8
        have hpl : pvs9.length = i9 := by have := hI9.length; rw [List.length_map] at this; omega
        rw [show l.length + 1 - i9 = (l.length - i9) + 1 by omega, placesGo_go hb (by omega)] at hgo9
        k_dflt (refine places_append (Dp := Dp) (pvs := pvs9) (kp := kp9) (Df := Df) (fvs := fvs) (cf := cf) (Lw := L' + 1 + 1) (Lt := L' + 1) (own := own9) F10 N10 (fun q hq => ?_) (by rw [hpl, hfv.2]; omega) d5 hot hT8 hit9 (by omega) ?_)
        · simp only [List.mem_cons, List.mem_append, List.not_mem_nil, or_false] at hq ⊢
          rcases hq with h | h | h | h | (h | h) | h <;> (first | exact .inl h | exact .inr (.inl h) | exact .inr (.inr (.inl h)) | exact .inr (.inr (.inr (.inl h))) | exact .inr (.inr (.inr (.inr (.inl h)))) | exact .inr (.inr (.inr (.inr (.inr (.inl h))))) | exact .inr (.inr (.inr (.inr (.inr (.inr (.inl h)))))) | exact .inr (.inr (.inr (.inr (.inr (.inr (.inr (.inl h))))))) | exact .inr (.inr (.inr (.inr (.inr (.inr (.inr h)))))) | exact .inr (.inr (.inr (.inr (.inr (.inr h))))))
        intro h11 F11 N11
        k_steps
        refine go_on ?_
        (rename News _ _ _ _ => N12)
        (rename Fr _ _ _ _ => F12)
        k_dflt (refine places_end (own := own9) F12 N12 (fun q hq => hq) d5 hot hT8 hit9 ⟨rfl, rfl, rfl, b8, _, acc9 ++ [b8 - 1], _, _, o5, _, rfl, by omega, hcn8, rfl, ⟨_, d5⟩, hT8, hmo8, ?_, by rw [List.length_append, hal9]; rfl, by rw [List.append_assoc, show l.length + 1 - (i9 + 1) = l.length - i9 by omega]; exact hgo9⟩)
        rw [List.map_append, show ((b8 : Int) - 1) = ((b8 - 1 : Nat) : Int) by omega]
        exact ksk_snoc hI9
    · intro m8 nx8 h8 tk8 hJ8 F8 N8
      exfalso
      obtain ⟨g1, g2, g3, a9, ta9, acc9, pvs9, kp9, ow9, tn9, g4, ha9, hcn9, _⟩ := hJ8
      have := cnt_le c (l.take a9)
      rw [List.length_take] at this
      rw [hl0] at hcn9
      omega)
end Mine

end
section
set_option maxRecDepth 100000
set_option linter.unusedVariables false
set_option maxHeartbeats 1000000
namespace Mine
open PySem PySem.W PySem.Calls PySem.Spec PyProof.Rows
/-- the parts of a zip of two, apart -/
structure ZOff (z TI TO i1 i2 : Addr) (f1 f2 : List Addr) : Prop where
  a1 : TI ≠ z
  a2 : TO ≠ z
  a3 : TI ≠ TO
  b1 : z ∉ f1
  b2 : z ∉ f2
  c1 : TO ∉ f1
  c2 : TO ∉ f2
  d1 : i1 ∈ f1
  d2 : i2 ∈ f2
  e1 : i1 ∉ f2
  e2 : i2 ∉ f1
  g1 : TI ≠ i1
  g2 : TI ≠ i2
section
variable {prog : Program} {w : World} {A : Around} {E : Value → Shared → Prop} {s : Shared} {z TI TO i1 i2 : Addr} {f1 f2 : List Addr} {n1 n2 k : Nat} {P1 P2 : Nat → Value → Prop} {St1 St2 : Nat → Heap → Prop} {a b : Value}
theorem in_ne {a b : Addr} {f : List Addr} (h : a ∈ f) (h' : b ∉ f) : a ≠ b := fun e => h' (e ▸ h)
theorem out_ext {a : Addr} {f : List Addr} {h h' : Heap} (ha : a ∉ f) (hs : Heap.ExtBut a h h') : ∀ b ∈ f, ∀ o, h.get? b = some o → h'.get? b = some o := fun b hb o e => hs b o (fun q => ha (q ▸ hb)) e
theorem zipD_item {Q : Value → Shared → Prop} (O : ZOff z TI TO i1 i2 f1 f2) (D1 : Draws prog w A i1 f1 n1 P1 St1) (D2 : Draws prog w A i2 f2 n2 P2 St2) (h1 : k < n1) (h2 : k < n2)
    (hz : IsZip s.heap z TI TO .none) (hTI : IsPair s.heap TI (.ref i1) (.ref i2)) (hTO : IsPair s.heap TO a b) (s1 : St1 k s.heap) (s2 : St2 k s.heap)
    (hQ : ∀ x y h' tk, P1 k x → P2 k y → IsZip h' z TI TO (rawInt s.heap.objs.size) → IsPair h' TO x y → St1 (k + 1) h' → St2 (k + 1) h' → IsPair h' s.heap.objs.size x y → h'.objs.size = s.heap.objs.size + 1 →
      (∀ c o, c ≠ z → c ≠ TO → c ≠ i1 → c ≠ i2 → s.heap.get? c = some o → h'.get? c = some o) → Q (.ref s.heap.objs.size) { s with heap := h', toks := tk }) :
    wpAny (model prog w) A (Builtin.«zip.__next__» ⟨[.ref z], []⟩) (fun fin s' => ∃ v, fin = .done (.ret v) ∧ Q v s') E s := by
  obtain ⟨hp, g, d, t0, os⟩ := s
  have z1 : i1 ≠ z := in_ne O.d1 O.b1
  have z2 : i2 ≠ z := in_ne O.d2 O.b2
  have t1 : i1 ≠ TO := in_ne O.d1 O.c1
  have t2 : i2 ≠ TO := in_ne O.d2 O.c2
  show wpAny _ _ (field (.ref z) 2 >>= _) _ _ _
  refine wpAny_bind (wpAny_field hz rfl (x := .bool false) rfl ?_)
  show wpAny _ _ (field (.ref z) 3 >>= _) _ _ _
  refine wpAny_bind (wpAny_field hz rfl (x := .ref TI) rfl ?_)
  refine wpAny_bind (wpAny_seqItems hTI rfl ?_)
  show wpAny _ _ (Builtin.SmallTypes.ownedTupleIsFree (.ref z) >>= _) _ _ _
  refine wpAny_bind ?_
  unfold Builtin.SmallTypes.ownedTupleIsFree
  refine wpAny_bind (wpAny_field hz rfl (x := .none) rfl (wpAny_pure ?_))
  simp only [if_true]
  refine wpAny_bind (wpAny_rule ?_)
  refine wpAny_bind (wpAny_field hz rfl (x := .ref TO) rfl ?_)
  refine wpAny_bind (wpAny_setField_rec hz (by simp) fun q1 hz1 hs1 => ?_)
  replace hz1 : IsZip q1 z TI TO .ellipsis := hz1
  replace hs1 : Heap.SameBut z hp q1 := hs1
  refine wpAny_bind ?_
  simp only [List.zipIdx_cons, List.zipIdx_nil, List.forIn_cons, List.forIn_nil]
  refine wpAny_bind (wpAny_bind (wpAny_onRaise ?_))
  show wpAny _ _ (Builtin.SmallTypes.nextOf (.ref i1) >>= _) _ _ _
  refine wpAny_bind (D1.item k _ _ _ h1 (D1.frame _ _ _ s1 (out_ext O.b1 hs1.extBut)) fun x q2 k2 hx s1' hs2 => wpAny_pure ?_)
  replace hs2 : Heap.SameBut i1 q1 q2 := hs2
  have hTO2 : IsPair q2 TO a b := hs2.extBut _ _ t1.symm (hs1.extBut _ _ O.a2 hTO)
  refine wpAny_bind (wpAny_seqItems hTO2 rfl ?_)
  refine wpAny_bind (wpAny_updateSeq_pair hTO2 fun q3 hTO3 hs3 => ?_)
  replace hTO3 : IsPair q3 TO x b := hTO3
  replace hs3 : Heap.SameBut TO q2 q3 := hs3
  refine wpAny_bind (wpAny_letGo (wpAny_pure ?_))
  refine wpAny_bind (wpAny_bind (wpAny_onRaise ?_))
  show wpAny _ _ (Builtin.SmallTypes.nextOf (.ref i2) >>= _) _ _ _
  have s2a : St2 k q3 := D2.frame _ _ _ (D2.frame _ _ _ (D2.frame _ _ _ s2 (out_ext O.b2 hs1.extBut)) (out_ext O.e1 hs2.extBut)) (out_ext O.c2 hs3.extBut)
  refine wpAny_bind (D2.item k _ _ _ h2 s2a fun y q4 k4 hy s2' hs4 => wpAny_pure ?_)
  replace hs4 : Heap.SameBut i2 q3 q4 := hs4
  have hTO4 : IsPair q4 TO x b := hs4.extBut _ _ t2.symm hTO3
  refine wpAny_bind (wpAny_seqItems hTO4 rfl ?_)
  refine wpAny_bind (wpAny_updateSeq_pair hTO4 fun q5 hTO5 hs5 => ?_)
  replace hTO5 : IsPair q5 TO x y := hTO5
  replace hs5 : Heap.SameBut TO q4 q5 := hs5
  refine wpAny_bind (wpAny_letGo (wpAny_pure (wpAny_pure ?_)))
  refine wpAny_bind (wpAny_seqItems hTO5 rfl ?_)
  refine wpAny_bind (wpAny_newTuple ?_)
  have hsz : q5.objs.size = hp.objs.size := by rw [hs5.1, hs4.1, hs3.1, hs2.1, hs1.1]
  have hz5 : IsZip q5 z TI TO .ellipsis := hs5.extBut _ _ O.a2.symm (hs4.extBut _ _ z2.symm (hs3.extBut _ _ O.a2.symm (hs2.extBut _ _ z1.symm hz1)))
  have hk5 : ∀ c o, c ≠ z → c ≠ TO → c ≠ i1 → c ≠ i2 → hp.get? c = some o → q5.get? c = some o := fun c o c1 c2 c3 c4 e =>
    hs5.extBut _ _ c2 (hs4.extBut _ _ c4 (hs3.extBut _ _ c2 (hs2.extBut _ _ c3 (hs1.extBut _ _ c1 e))))
  have s15 : St1 (k + 1) q5 := D1.frame _ _ _ (D1.frame _ _ _ (D1.frame _ _ _ s1' (out_ext O.c1 hs3.extBut)) (out_ext O.e2 hs4.extBut)) (out_ext O.c1 hs5.extBut)
  have s25 : St2 (k + 1) q5 := D2.frame _ _ _ s2' (out_ext O.c2 hs5.extBut)
  show wpAny _ _ (Builtin.SmallTypes.ownedTupleHandOut (.ref z) (.ref q5.objs.size) >>= _) _ _ _
  refine wpAny_bind ?_
  unfold Builtin.SmallTypes.ownedTupleHandOut
  have hz6 : IsZip (q5.push { cls := .type "tuple", data := .seq #[x, y] }) z TI TO .ellipsis := Heap.get?_push_of_some _ hz5
  refine wpAny_bind (wpAny_setField_rec hz6 (by simp) fun q7 hz7 hs7 => ?_)
  replace hz7 : IsZip q7 z TI TO (rawInt q5.objs.size) := hz7
  refine wpAny_setField_rec hz7 (by simp) fun q8 hz8 hs8 => ?_
  replace hz8 : IsZip q8 z TI TO (rawInt q5.objs.size) := hz8
  have up : ∀ c o, c ≠ z → q5.get? c = some o → q8.get? c = some o := fun c o c1 e => hs8.extBut _ _ c1 (hs7.extBut _ _ c1 (Heap.get?_push_of_some _ e))
  have zlt : z < q5.objs.size := Heap.lt_size hz5
  have hT8 : IsPair q8 q5.objs.size x y := hs8.extBut _ _ (Nat.ne_of_gt zlt) (hs7.extBut _ _ (Nat.ne_of_gt zlt) (Heap.get?_push_size _ rfl))
  have hs8' : q8.objs.size = q5.objs.size + 1 := by rw [hs8.1, hs7.1, Heap.size_push]
  rw [hsz] at hz8 hT8 hs8'
  refine wpAny_pure ⟨_, rfl, ?_⟩
  show Q (.ref q5.objs.size) _
  rw [hsz]
  exact hQ x y q8 k4 hx hy hz8 (up _ _ O.a2 hTO5) (D1.frame _ _ _ s15 fun b hb o e => up b o (in_ne hb O.b1) e) (D2.frame _ _ _ s25 fun b hb o e => up b o (in_ne hb O.b2) e) hT8 hs8'
    fun c o c1 c2 c3 c4 e => up c o c1 (hk5 c o c1 c2 c3 c4 e)
/-- the first of the two is at its end -/
theorem zipD_end {Q : Fin → Shared → Prop} (O : ZOff z TI TO i1 i2 f1 f2) (D1 : Draws prog w A i1 f1 n1 P1 St1)
    (hz : IsZip s.heap z TI TO .none) (hTI : IsPair s.heap TI (.ref i1) (.ref i2)) (s1 : St1 n1 s.heap)
    (hE : ∀ h' e, (∀ c o, c ≠ z → c ≠ i1 → s.heap.get? c = some o → h'.get? c = some o) → (∃ o, h'.get? e = some o ∧ o.cls = .type "StopIteration") → E (.ref e) { s with heap := h' }) :
    wpAny (model prog w) A (Builtin.«zip.__next__» ⟨[.ref z], []⟩) Q E s := by
  obtain ⟨hp, g, d, t0, os⟩ := s
  have z1 : i1 ≠ z := in_ne O.d1 O.b1
  show wpAny _ _ (field (.ref z) 2 >>= _) _ _ _
  refine wpAny_bind (wpAny_field hz rfl (x := .bool false) rfl ?_)
  show wpAny _ _ (field (.ref z) 3 >>= _) _ _ _
  refine wpAny_bind (wpAny_field hz rfl (x := .ref TI) rfl ?_)
  refine wpAny_bind (wpAny_seqItems hTI rfl ?_)
  show wpAny _ _ (Builtin.SmallTypes.ownedTupleIsFree (.ref z) >>= _) _ _ _
  refine wpAny_bind ?_
  unfold Builtin.SmallTypes.ownedTupleIsFree
  refine wpAny_bind (wpAny_field hz rfl (x := .none) rfl (wpAny_pure ?_))
  simp only [if_true]
  refine wpAny_bind (wpAny_rule ?_)
  refine wpAny_bind (wpAny_field hz rfl (x := .ref TO) rfl ?_)
  refine wpAny_bind (wpAny_setField_rec hz (by simp) fun q1 hz1 hs1 => ?_)
  replace hz1 : IsZip q1 z TI TO .ellipsis := hz1
  replace hs1 : Heap.SameBut z hp q1 := hs1
  refine wpAny_bind ?_
  simp only [List.zipIdx_cons, List.zipIdx_nil, List.forIn_cons, List.forIn_nil]
  refine wpAny_bind (wpAny_bind (wpAny_onRaise ?_))
  show wpAny _ _ (Builtin.SmallTypes.nextOf (.ref i1) >>= _) _ _ _
  refine wpAny_bind (D1.done _ _ _ (D1.frame _ _ _ s1 (out_ext O.b1 hs1.extBut)) fun q2 e hs2 he => ?_)
  replace hs2 : Heap.ExtBut i1 q1 q2 := hs2
  obtain ⟨oe, hoe, hce⟩ := he
  have hz2 : IsZip q2 z TI TO .ellipsis := hs2 _ _ z1.symm hz1
  have hez : e ≠ z := fun x => by subst x; rw [hz2] at hoe; cases hoe; simp at hce
  refine wpAny_setField_rec hz2 (by simp) fun q3 _ hs3 => hE q3 e (fun c o c1 c3 x => hs3.extBut _ _ c1 (hs2 _ _ c3 (hs1.extBut _ _ c1 x))) ⟨oe, hs3.extBut _ _ hez hoe, hce⟩
end
/-- a zip of two that draw -/
theorem zipD {prog : Program} {w : World} {A : Around} {z TI TO i1 i2 : Addr} {f1 f2 : List Addr} {n n2 : Nat} {P1 P2 : Nat → Value → Prop} {St1 St2 : Nat → Heap → Prop} (hh : A.handled = none) (hn : n ≤ n2) (O : ZOff z TI TO i1 i2 f1 f2)
    (D1 : ∀ A' : Around, A'.handled = none → Draws prog w A' i1 f1 n P1 St1) (D2 : ∀ A' : Around, A'.handled = none → Draws prog w A' i2 f2 n2 P2 St2) :
    WalksT prog w A z (z :: TI :: TO :: (f1 ++ f2)) [z, TO, i1, i2] n (fun i vals => ∃ x y, P1 i x ∧ P2 i y ∧ vals = #[x, y])
      (fun i h => IsZip h z TI TO .none ∧ IsPair h TI (.ref i1) (.ref i2) ∧ (∃ a b, IsPair h TO a b) ∧ St1 i h ∧ St2 i h)
      (fun i T h => IsZip h z TI TO (rawInt T) ∧ IsPair h TI (.ref i1) (.ref i2) ∧ (∃ a b, IsPair h TO a b) ∧ St1 (i + 1) h ∧ St2 (i + 1) h ∧ T ≠ z ∧ T ≠ TO ∧ T ≠ i1 ∧ T ≠ i2) where
  sub := fun c hc => by
    simp only [List.mem_cons, List.not_mem_nil, or_false] at hc
    rcases hc with rfl | rfl | rfl | rfl
    · simp
    · simp
    · simp [O.d1]
    · simp [O.d2]
  frame := fun i h h' hst hk => by
    obtain ⟨hz, hTI, ⟨a, b, hTO⟩, s1, s2⟩ := hst
    have m1 : ∀ b ∈ f1, b ∈ z :: TI :: TO :: (f1 ++ f2) := fun b hb => by simp [hb]
    have m2 : ∀ b ∈ f2, b ∈ z :: TI :: TO :: (f1 ++ f2) := fun b hb => by simp [hb]
    exact ⟨hk z (by simp) _ hz, hk TI (by simp) _ hTI, ⟨a, b, hk TO (by simp) _ hTO⟩, (D1 {} rfl).frame _ _ _ s1 fun b hb o e => hk b (m1 b hb) o e, (D2 {} rfl).frame _ _ _ s2 fun b hb o e => hk b (m2 b hb) o e⟩
  item := fun i s Q E hi hst hQ => by
    obtain ⟨hz, hTI, ⟨a, b, hTO⟩, s1, s2⟩ := hst
    have hT : s.TypeIs (.ref z) "zip" := ⟨_, hz, rfl⟩
    have lt : ∀ {c o}, s.heap.get? c = some o → s.heap.objs.size ≠ c := fun e => Nat.ne_of_gt (Heap.lt_size e)
    obtain ⟨o1, ho1⟩ := (D1 {} rfl).live _ _ s1
    obtain ⟨o2, ho2⟩ := (D2 {} rfl).live _ _ s2
    unfold pyNext
    refine wpAny_bind (wpAny_attempt (wpAny_callSpecial?_slot (name := Str.ofString "__next__") hT F.slot_zip_next
      (wpAny_call_entry F.slot_zip_next hT F.entry_zip_next
        (zipD_item O (D1 _ (by first | exact hh | rfl)) (D2 _ (by first | exact hh | rfl)) hi (Nat.lt_of_lt_of_le hi hn) hz hTI hTO s1 s2 fun x y h' tk px py b1 b2 b3 b4 b5 b6 hk => wpAny_pure ?_) (F.args_zip_next_1 _))))
    exact hQ s.heap.objs.size #[x, y] h' tk ⟨x, y, px, py, rfl⟩ (Nat.le_refl _) ⟨_, b5, rfl, _, rfl⟩
      ⟨b1, hk _ _ O.a1 O.a3 O.g1 O.g2 hTI, ⟨_, _, b2⟩, b3, b4, lt hz, lt hTO, lt ho1, lt ho2⟩
      fun c o hc e => hk c o (fun x => hc (by simp [x])) (fun x => hc (by simp [x])) (fun x => hc (by simp [x])) (fun x => hc (by simp [x])) e
  go := fun elts k pos i T s Q E hm hQ => by
    obtain ⟨hz, hTI, ⟨a, b, hTO⟩, s1, s2, _⟩ := hm
    refine wpAny_letOwnedTupleGo_zip hz fun h' hz' hs' => hQ h' ⟨hz', hs'.extBut _ _ O.a1 hTI, ⟨a, b, hs'.extBut _ _ O.a2 hTO⟩, (D1 {} rfl).frame _ _ _ s1 (out_ext O.b1 hs'.extBut), (D2 {} rfl).frame _ _ _ s2 (out_ext O.b2 hs'.extBut)⟩
      fun c o hc e => hs'.extBut _ _ (fun x => hc (by simp [x])) e
  apart := fun i T h hm hT => by
    obtain ⟨_, _, _, _, _, t1, t2, t3, t4⟩ := hm
    simp only [List.mem_cons, List.not_mem_nil, or_false] at hT
    rcases hT with rfl | rfl | rfl | rfl
    · exact t1 rfl
    · exact t2 rfl
    · exact t3 rfl
    · exact t4 rfl
  done := fun s Q E hst hQ => by
    obtain ⟨hz, hTI, ⟨a, b, hTO⟩, s1, s2⟩ := hst
    have hT : s.TypeIs (.ref z) "zip" := ⟨_, hz, rfl⟩
    unfold pyNext
    refine wpAny_bind (wpAny_attempt (wpAny_callSpecial?_slot (name := Str.ofString "__next__") hT F.slot_zip_next
      (wpAny_call_entry F.slot_zip_next hT F.entry_zip_next (zipD_end O (D1 _ (by first | exact hh | rfl)) hz hTI s1 fun h' e hk he => ?_) (F.args_zip_next_1 _))))
    obtain ⟨o, ho, hc⟩ := he
    refine wpAny_bind (wpAny_isInstance (T := "StopIteration") (b := true) ⟨o, ho, hc⟩ isSubtype_stop ?_)
    exact wpAny_pure (hQ h' s.toks fun c o hc e => hk c o (fun x => hc (by simp [x])) (fun x => hc (by simp [x])) e)
  self := fun i s Q E hst hQ => wpAny_pyIter_zip hst.1 hQ
end Mine

end
section
set_option maxRecDepth 100000
set_option linter.unusedVariables false
set_option maxHeartbeats 1000000
namespace Mine
open PySem PySem.W PySem.Calls PySem.Spec PyProof.Rows
abbrev txIt (x : Str) (t : Tok) : Obj := { cls := .type (strIterType x), data := .fields #[.str x t, .int 0 0] }
abbrev zsA (h : Heap) (x : Str) (t : Tok) : Heap := h.push (txIt x t)
abbrev zsB (h : Heap) (x : Str) (t : Tok) (l : Addr) : Heap := (zsA h x t).push { cls := .type "list_iterator", data := .fields #[.ref l, .int 0 0] }
abbrev zsC (h : Heap) (x : Str) (t : Tok) (l : Addr) : Heap := (zsB h x t l).push { cls := .type "tuple", data := .seq #[.ref h.objs.size, .ref (zsA h x t).objs.size] }
abbrev zsD (h : Heap) (x : Str) (t : Tok) (l : Addr) : Heap := (zsC h x t l).push { cls := .type "tuple", data := .seq #[.none, .none] }
abbrev zsE (h : Heap) (x : Str) (t : Tok) (l : Addr) : Heap := (zsD h x t l).push { cls := .type "zip", data := .fields #[.none, .bool false, .bool false, .ref (zsB h x t l).objs.size, .ref (zsC h x t l).objs.size] }
theorem meets_zip_sl (x : Str) (t : Tok) (l : Addr) (ys : Array Value) :
    Meets (Builtin.«zip.__new__» ⟨[.type "zip", .str x t, .ref l], []⟩) (fun _ R s => s.heap.IsList l ys ∧ R (.ok (.ret (.ref (zsD s.heap x t l).objs.size))) { s with heap := zsE s.heap x t l }) :=
  .of_wp fun prog w A R s h => by
    obtain ⟨hp, g, d, tk, os⟩ := s
    obtain ⟨hl, h⟩ := h
    have hsub := sub_zip
    have hL : Heap.IsList (Shared.heap ⟨hp.push (txIt x t), g, d, tk, os⟩) l ys := Heap.IsList.push hl _
    wp_walk using wpAny_pyIter_strU, wpAny_pyIter_list hL
    exact ⟨_, rfl, h⟩
theorem not_two {a b c : Nat} (h : a ≠ b) (h' : a ≠ c) : ¬ a ∈ [b, c] := by simp [h, h']
theorem not_one {a b : Nat} (h : a ≠ b) : ¬ a ∈ [b] := by simp [h]
theorem zoff_mk (I l : Nat) (h : l < I) : ZOff (I + 4) (I + 2) (I + 3) I (I + 1) [I] [I + 1, l] where
  a1 := show (I + 2 : Nat) ≠ I + 4 by omega
  a2 := show (I + 3 : Nat) ≠ I + 4 by omega
  a3 := show (I + 2 : Nat) ≠ I + 3 by omega
  b1 := not_one (by omega)
  b2 := not_two (by omega) (by omega)
  c1 := not_one (by omega)
  c2 := not_two (by omega) (by omega)
  d1 := .head _
  d2 := .head _
  e1 := not_two (by omega) (by omega)
  e2 := not_one (by omega)
  g1 := show (I + 2 : Nat) ≠ I by omega
  g2 := show (I + 2 : Nat) ≠ I + 1 by omega
theorem five_lt {I l : Nat} (h : l < I) : ∀ b ∈ (I + 4) :: (I + 2) :: (I + 3) :: ([I] ++ [I + 1, l]), b < I + 5 := by
  intro b hb
  simp only [List.mem_cons, List.mem_append, List.not_mem_nil, or_false] at hb
  omega
theorem four_ge {I : Nat} : ∀ b ∈ [I + 4, I + 3, I, I + 1], I ≤ b := by
  intro b hb
  simp only [List.mem_cons, List.not_mem_nil, or_false] at hb
  omega
section
variable {prog : Program} {w : World} {A : Around} {E : Value → Shared → Prop} {s : Shared}
theorem call_zip_sl {x : Str} {t : Tok} {l : Addr} {ys : Array Value} {Q : Value → Shared → Prop} (hl : s.heap.IsList l ys)
    (h : ∀ h', IsZip h' (s.heap.objs.size + 4) (s.heap.objs.size + 2) (s.heap.objs.size + 3) .none → IsPair h' (s.heap.objs.size + 2) (.ref s.heap.objs.size) (.ref (s.heap.objs.size + 1)) →
      IsPair h' (s.heap.objs.size + 3) .none .none → h'.get? s.heap.objs.size = some (txIt x t) → h'.IsListIter (s.heap.objs.size + 1) l 0 → h'.objs.size = s.heap.objs.size + 5 →
      (∀ c o, s.heap.get? c = some o → h'.get? c = some o) → Q (.ref (s.heap.objs.size + 4)) { s with heap := h' }) :
    wpAny (model prog w) A (call (.type "zip") [.str x t, .ref l]) Q E s := by
  refine callType_new F.called_zip (by decide) (F.typeCall_zip_2 _ _) (F.newCall_zip_2 _ _) (fun obj => F.args_object_init_3 obj _ _) F.entry_zip_new (meets_zip_sl x t l ys) ⟨hl, ?_⟩
  have z1 : (zsA s.heap x t).objs.size = s.heap.objs.size + 1 := Heap.size_push ..
  have z2 : (zsB s.heap x t l).objs.size = s.heap.objs.size + 2 := by rw [Heap.size_push, z1]
  have z3 : (zsC s.heap x t l).objs.size = s.heap.objs.size + 3 := by rw [Heap.size_push, z2]
  have z4 : (zsD s.heap x t l).objs.size = s.heap.objs.size + 4 := by rw [Heap.size_push, z3]
  have z5 : (zsE s.heap x t l).objs.size = s.heap.objs.size + 5 := by rw [Heap.size_push, z4]
  have g5 : (zsE s.heap x t l).get? (zsD s.heap x t l).objs.size = some _ := Heap.get?_push_size _ rfl
  have g4 : (zsE s.heap x t l).get? (zsC s.heap x t l).objs.size = some _ := Heap.get?_push_of_some _ (Heap.get?_push_size _ rfl)
  have g3 : (zsE s.heap x t l).get? (zsB s.heap x t l).objs.size = some _ := Heap.get?_push_of_some _ (Heap.get?_push_of_some _ (Heap.get?_push_size _ rfl))
  have g2 : (zsE s.heap x t l).get? (zsA s.heap x t).objs.size = some _ := Heap.get?_push_of_some _ (Heap.get?_push_of_some _ (Heap.get?_push_of_some _ (Heap.get?_push_size _ rfl)))
  have g1 : (zsE s.heap x t l).get? s.heap.objs.size = some (txIt x t) := Heap.get?_push_of_some _ (Heap.get?_push_of_some _ (Heap.get?_push_of_some _ (Heap.get?_push_of_some _ (Heap.get?_push_size _ rfl))))
  show _ ∧ _
  rw [z2, z3, z4] at g5
  rw [z1, z2] at g3
  rw [z3] at g4
  rw [z1] at g2
  rw [z4]
  exact ⟨⟨_, g5, rfl⟩, h _ g5 g3 g4 g1 ⟨_, g2, rfl, rfl⟩ z5 fun c o e =>
    Heap.get?_push_of_some _ (Heap.get?_push_of_some _ (Heap.get?_push_of_some _ (Heap.get?_push_of_some _ (Heap.get?_push_of_some _ e))))⟩
/-- what a comprehension over pairs asks of its source -/
def PairSrc (prog : Program) (w : World) (A : Around) (h₀ : Heap) (L : Addr) (m : Str → Option Value) (news : List (Addr × Obj)) (n : Nat) (P : Nat → Value → Value → Prop) (xv : Value) (s₁ : Shared) : Prop :=
  ∃ (z : Addr) (fp wr : List Addr) (Pt : Nat → Array Value → Prop) (St : Nat → Heap → Prop) (Mid : Nat → Addr → Heap → Prop), xv = .ref z ∧ WalksT prog w A z fp wr n Pt St Mid ∧ (∀ i vals, Pt i vals → ∃ v0 v1, vals = #[v0, v1] ∧ P i v0 v1) ∧ St 0 s₁.heap ∧
    (∀ b ∈ fp, b < s₁.heap.objs.size) ∧ (∀ b ∈ wr, h₀.get? b = none ∧ b ≠ L) ∧ (∀ p ∈ news, p.1 ∉ wr) ∧ Fr h₀ L s₁.heap m ∧ News h₀ L s₁.heap news
theorem zip_src {h₀ : Heap} {L : Addr} {m : Str → Option Value} {news : List (Addr × Obj)} {x : Str} {t : Tok} {l : Addr} {c : Nat} {vs : List Value} (hh : A.handled = none) (F : Fr h₀ L s.heap m) (N : News h₀ L s.heap news)
    (hm : (l, listOf vs.toArray c) ∈ news) (ha : x.cps.all (· < 128) = true) (hn : x.cps.size ≤ vs.length) :
    wpAny (model prog w) A (call (.type "zip") [.str x t, .ref l]) (fun xv s₁ => PairSrc prog w A h₀ L m news x.cps.size (fun i v0 v1 => (∃ c u, x.cps[i]? = some c ∧ v0 = .str ⟨#[c]⟩ u) ∧ vs[i]? = some v1) xv s₁ ∧ ∃ h', s₁ = { s with heap := h' }) E s := by
  have hl : s.heap.IsList l vs.toArray := ⟨_, (N _ hm).1, rfl, _, rfl⟩
  have hlt : l < s.heap.objs.size := Heap.lt_size (N _ hm).1
  have hL := F.ns.lt
  refine call_zip_sl hl fun h' a1 a2 a3 a4 a5 a6 k => ⟨?_, h', rfl⟩
  have O := zoff_mk s.heap.objs.size l hlt
  have hty : strIterType x = "str_ascii_iterator" := by unfold strIterType; rw [ha]; rfl
  have D1 : ∀ A' : Around, A'.handled = none → Draws prog w A' s.heap.objs.size [s.heap.objs.size] x.cps.size (fun i v => ∃ c u, x.cps[i]? = some c ∧ v = .str ⟨#[c]⟩ u) (fun i h => h.IsStrIter s.heap.objs.size "str_ascii_iterator" x t i) := fun A' hA => by
    exact Draws.strAscii hA _ x t
  have D2 : ∀ A' : Around, A'.handled = none → Draws prog w A' (s.heap.objs.size + 1) [s.heap.objs.size + 1, l] vs.length (fun i v => vs.toArray[i]? = some v) (fun i h => h.IsListIter (s.heap.objs.size + 1) l i ∧ h.IsList l vs.toArray) := fun A' hA => by
    rw [show vs.length = vs.toArray.size from rfl]; exact Draws.list hA _ l (Nat.ne_of_lt (Nat.lt_succ_of_lt hlt)) vs.toArray
  refine ⟨_, _, _, _, _, _, rfl, zipD hh hn O D1 D2, ?_, ?_, ?_, ?_, ?_, F.keeps k, N.grown k⟩
  · rintro i vals ⟨v0, v1, h0, h1, rfl⟩
    exact ⟨v0, v1, rfl, h0, by simpa using h1⟩
  · refine ⟨a1, a2, ⟨_, _, a3⟩, ⟨_, a4, congrArg Value.type hty, rfl⟩, a5, hl.at fun o e => k _ o e⟩
  · intro b hb
    show b < h'.objs.size
    rw [a6]
    exact five_lt hlt b hb
  · intro b hb
    have hge := four_ge b hb
    refine ⟨?_, fun q => ?_⟩
    · cases e : h₀.get? b with
      | none => rfl
      | some o => exact absurd (Heap.lt_size (F.keep _ _ e)) (Nat.not_lt.mpr hge)
    · rw [q] at hge; exact absurd hL (Nat.not_lt.mpr hge)
  · intro p hp hb
    exact absurd (Heap.lt_size (N p hp).1) (Nat.not_lt.mpr (four_ge _ hb))
end
end Mine

end
section
set_option maxRecDepth 100000
set_option linter.unusedVariables false
set_option maxHeartbeats 1000000
namespace Mine
open PySem PySem.W PySem.Calls PySem.Spec PyProof.Rows
section
variable {prog : Program} {w : World} {A : Around} {E : Value → Shared → Prop} {s : Shared} {h₀ : Heap} {L : Addr} {m : Str → Option Value} {env : Env}
/-- what an element of a comprehension leaves -/
def EltEnd (s₂ : Shared) (h : Heap) (R : Value → Prop) (y : Value) (s' : Shared) : Prop := ∃ h' tk', s' = { s₂ with heap := h', toks := tk' } ∧ h.StaysIn h' ∧ R y
theorem block_Z {elt iter : PySem.Expr} {x x₂ : Str} {px px₂ tp : Pos} {tk} {scope : Scope} {cl : List (Str × Addr)} {pos : Pos} {s₂ : Shared} {z : Addr} {fp wr : List Addr} {n : Nat} {Pt : Nat → Array Value → Prop} {St : Nat → Heap → Prop} {Mid : Nat → Addr → Heap → Prop} {P : Nat → Value → Value → Prop} {R : Nat → List Value → Prop} {news : List (Addr × Obj)}
    {RR : Value → Addr → Result → Shared → Prop}
    (W : WalksT prog w A z fp wr n Pt St Mid) (hP : ∀ i vals, Pt i vals → ∃ v0 v1, vals = #[v0, v1] ∧ P i v0 v1) (hsz : n ≤ sizeLine)
    (hcell : ∀ y ∈ scope.names, y.2 ≠ .cell) (hkind : scope.kind = .function) (hx : scope.names.lookup x = some .local) (hx₂ : scope.names.lookup x₂ = some .local) (hxx : x ≠ x₂) (hh : A.handled = none)
    (hst : St 0 s₂.heap) (hfp : ∀ b ∈ fp, b < s₂.heap.objs.size) (hwr : ∀ b ∈ wr, h₀.get? b = none ∧ b ≠ L) (off : ∀ p ∈ news, p.1 ∉ wr) (F : Fr h₀ L s₂.heap m) (N : News h₀ L s₂.heap news) (r0 : R 0 [])
    (turn : ∀ i v0 v1 C oC D m₂ ys h tk (E' : Value → Shared → Prop), i < n → P i v0 v1 → R i ys → LCg.NsObj oC m₂ → m₂ x = some v0 → m₂ x₂ = some v1 → Fr h₀ L h m → News h₀ L h ((C, oC) :: (D, LCg.lst ys) :: news) →
      wpAny (model prog w) A (eval elt (compEnvC scope cl C env)) (EltEnd s₂ h fun y => R (i + 1) (ys ++ [y])) E' { s₂ with heap := h, toks := tk })
    (hRR : ∀ D C h tk m' ys, R n ys → Fr h₀ L h m → News h₀ L h ((D, LCg.lst ys) :: news) → (∀ p ∈ news, p.1 ≠ D) → h.Ns C m' → h₀.get? C = none → C ≠ L → C ≠ D → (∀ p ∈ news, p.1 ≠ C) → RR (.ref D) C (.ok .next) { s₂ with heap := h, toks := tk }) :
    wpAny (model prog w) A (newList []) (fun acc s₃ => wpAny (model prog w) A (newFunctionEnv scope env.globals cl [] env.qual none .none (some env)) (fun cenv s₄ =>
      codeAny (model prog w) A (.compStart (.ListComp elt [⟨.Tuple [.Name x px, .Name x₂ px₂] tk tp, iter, [], 0⟩] scope pos) 0 (.ref z) acc { cenv with scope := relabel scope env }) (RR acc cenv.locals) s₄) E s₃) E s₂ := by
  refine wpAny_newObj_type (wpAny_newFunctionEnv hcell (by intro y hy; simp at hy) (fun h₁ hns hsb => ?_) hkind)
  dsimp only at hns hsb ⊢
  generalize hH : s₂.heap.push { cls := .type "list", dict := none, data := .seq ([] : List Value).toArray } = H at hns hsb ⊢
  have hC : H.objs.size = s₂.heap.objs.size + 1 := by rw [← hH, Heap.size_push]
  generalize hCe : H.objs.size = C at hns hsb hC ⊢
  generalize hDe : s₂.heap.objs.size = D at hfp hC ⊢
  have hDC : D ≠ C := by rw [hC]; exact Nat.ne_of_lt (Nat.lt_succ_of_le (Nat.le_refl D))
  have below : ∀ b, b < D → b ≠ D ∧ b ≠ C := fun b hb => ⟨Nat.ne_of_lt hb, by rw [hC]; exact Nat.ne_of_lt (Nat.lt_succ_of_lt hb)⟩
  have old : ∀ b o, s₂.heap.get? b = some o → h₁.get? b = some o := fun b o e => hsb.extBut b o (below b (hDe ▸ Heap.lt_size e)).2 (Heap.get?_push_of_some _ (hH ▸ Heap.get?_push_of_some _ e))
  have hacc : h₁.get? D = some (LCg.lst []) := hsb.extBut _ _ hDC (Heap.get?_push_of_some _ (hDe ▸ hH ▸ Heap.get?_push_size _ rfl))
  have fresh : ∀ a, D ≤ a → h₀.get? a = none := fun a ha => by
    cases e : h₀.get? a with
    | none => rfl
    | some o => exact absurd (Heap.lt_size (F.keep _ _ e)) (Nat.not_lt.mpr (hDe ▸ ha))
  have hD₀ := fresh D (Nat.le_refl _)
  have hC₀ := fresh C (by rw [hC]; exact Nat.le_succ _)
  have hLlt : L < D := hDe ▸ F.ns.lt
  have hDL : D ≠ L := (below L hLlt).1.symm
  have hCL : C ≠ L := (below L hLlt).2.symm
  have nD : ∀ p ∈ news, p.1 ≠ D ∧ p.1 ≠ C := fun p hp => below _ (hDe ▸ Heap.lt_size (N p hp).1)
  have fD : ∀ b ∈ fp, b ≠ D ∧ b ≠ C := fun b hb => below b (hfp b hb)
  have wD : D ∉ wr := fun q => (fD _ (W.sub _ q)).1 rfl
  have wC : C ∉ wr := fun q => (fD _ (W.sub _ q)).2 rfl
  have wL : L ∉ wr := fun q => (hwr _ q).2 rfl
  have frw : ∀ {h h' : Heap}, Fr h₀ L h m → (∀ b o, b ∉ wr → h.get? b = some o → h'.get? b = some o) → Fr h₀ L h' m := fun F hk => ⟨F.ns.at' fun o e => hk L o wL e, fun b o e => hk b o (fun q => by rw [(hwr _ q).1] at e; cases e) (F.keep b o e), F.above⟩
  have newsw : ∀ {h h' : Heap} {l : List (Addr × Obj)}, (∀ p ∈ l, p.1 ∉ wr) → News h₀ L h l → (∀ b o, b ∉ wr → h.get? b = some o → h'.get? b = some o) → News h₀ L h' l := fun hl N hk p hp => ⟨hk _ _ (hl p hp) (N p hp).1, (N p hp).2⟩
  have offD : ∀ ys : List Value, ∀ p ∈ (D, LCg.lst ys) :: news, p.1 ∉ wr := fun ys p hp => by
    rcases List.mem_cons.mp hp with rfl | hp
    · exact wD
    · exact off p hp
  have loop : ∀ s₃ : Shared, s₃ = { s₂ with heap := h₁, toks := s₂.toks + ([] : List (Str × Value)).length } →
      codeAny (model prog w) A (.compLoop (.ListComp elt [⟨.Tuple [.Name x px, .Name x₂ px₂] tk tp, iter, [], 0⟩] scope pos) 0 (.ref z) (.ref D) (compEnvC scope cl C env)) (RR (.ref D) C) s₃ := by
    rintro s₃ rfl
    refine LCp.codeAny_compLoop_pair (fun k s' => ∃ h' tk i ys m', s' = { s₂ with heap := h', toks := tk } ∧ i ≤ n ∧ k = n + 1 - i ∧ ys.length = i ∧ St i h' ∧ Fr h₀ L h' m ∧ h'.Ns C m' ∧ News h₀ L h' ((D, LCg.lst ys) :: news) ∧ R i ys) ?_ (n + 1)
      ⟨h₁, _, 0, [], _, rfl, Nat.zero_le _, rfl, rfl, W.frame _ _ _ hst fun b _ o e => old b o e, F.keeps old, hns, fun p hp => ?_, r0⟩
    · rintro k s' ⟨h', tk', i, ys, m', rfl, hi, rfl, hyl, hst', F', hn', N', hR⟩
      by_cases hlt : i < n
      · refine W.item i _ _ _ hlt hst' fun T vals q1 t1 hPt hTge hT hMid hk1 => ?_
        obtain ⟨v0, v1, rfl, hPv⟩ := hP i vals hPt
        have hTw := W.apart _ _ _ hMid
        refine W.go _ _ _ i T _ _ _ hMid fun q2 hst2 hk2 => ?_
        obtain ⟨oT, hoT, hcT, nT, hdT⟩ := hT
        have hT2 : IsTup q2 T #[v0, v1] := ⟨oT, hk2 _ _ hTw hoT, hcT, nT, hdT⟩
        have k12 : ∀ b o, b ∉ wr → h'.get? b = some o → q2.get? b = some o := fun b o hb e => hk2 b o hb (hk1 b o hb e)
        have F2 := frw F' k12
        have N2 := newsw (offD ys) N' k12
        have n2 := hn'.at' fun o e => k12 C o wC e
        refine assign_Tuple_tuple hh hT2 rfl rfl fun q3 he => ?_
        have he' : ∀ b o, q2.get? b = some o → q3.get? b = some o := fun b o e => he b o (Nat.ne_of_lt (Heap.lt_size e)) e
        refine assignInOrder_cons (wpAny_assign_Name (wpAny_storeName_local (lookup_relabel_local hx) (n2.at' fun o e => he' _ o e) (fun q4 hn4 hs4 => ?_) (by simp [compEnvC, relabel, hkind])))
        refine assignInOrder_cons (wpAny_assign_Name (wpAny_storeName_local (lookup_relabel_local hx₂) hn4 (fun q5 hn5 hs5 => ?_) (by simp [compEnvC, relabel, hkind])))
        refine assignInOrder_nil ?_
        have k25 : ∀ b o, b ≠ C → q2.get? b = some o → q5.get? b = some o := fun b o hb e => hs5.extBut b o hb (hs4.extBut b o hb (he' b o e))
        have st5 : St (i + 1) q5 := W.frame _ _ _ hst2 fun b hb o e => k25 b o (fD b hb).2 e
        obtain ⟨oC, heC, hoC⟩ := LCg.ns_obj hn5
        have F5 : Fr h₀ L q5 m := ((F2.keeps he').change hs4 hCL hC₀).change hs5 hCL hC₀
        have N5 : News h₀ L q5 ((C, oC) :: (D, LCg.lst ys) :: news) := fun p hp => by
          rcases List.mem_cons.mp hp with rfl | hp
          · exact ⟨heC, hCL, hC₀⟩
          · refine ⟨k25 _ _ ?_ (N2 p hp).1, (N2 p hp).2⟩
            rcases List.mem_cons.mp hp with rfl | hp
            · exact hDC
            · exact (nD p hp).2
        refine wpAny_mono (turn i v0 v1 C oC D _ ys q5 _ _ hlt hPv hR hoC (by simp [hxx]) (by simp) F5 N5) (fun y s₄ h₄ => ?_) fun _ _ e => e
        obtain ⟨q6, t6, rfl, k56, hR6⟩ := h₄
        have zD := k56 _ _ (N5 (D, LCg.lst ys) (.tail _ (.head _))).1
        refine append_at (hsz := by show ys.toArray.size ≤ sizeLine; rw [List.size_toArray, hyl]; exact Nat.le_trans hi hsz) zD fun q7 hs7 hD7 => ?_
        refine ⟨n + 1 - (i + 1), by omega, q7, t6, i + 1, ys ++ [y], _, rfl, hlt, rfl, by rw [List.length_append, List.length_singleton, hyl], ?_, (fr_stays F5 k56).change hs7 hDL hD₀, (hn5.at' fun o e => k56 _ _ e).sameBut hs7 hDC.symm, fun p hp => ?_, hR6⟩
        · exact W.frame _ _ _ (W.frame _ _ _ st5 fun b hb o e => k56 b o e) fun b hb o e => hs7.extBut b o (fD b hb).1 e
        · rcases List.mem_cons.mp hp with rfl | hp
          · exact ⟨hD7.trans (congrArg some (LCg.lst_snoc ys y)), hDL, hD₀⟩
          · have z := N5 p (.tail _ (.tail _ hp))
            exact ⟨hs7.extBut _ _ (nD p hp).1 (k56 _ _ z.1), z.2⟩
      · obtain rfl : i = n := Nat.le_antisymm hi (Nat.not_lt.mp hlt)
        refine W.done _ _ _ hst' fun q2 t2 hk2 => ?_
        exact hRR D C q2 t2 m' ys hR (frw F' hk2) (newsw (offD ys) N' hk2) (fun p hp => (nD p hp).1) (hn'.at' fun o e => hk2 C o wC e) hC₀ hCL hDC.symm (fun p hp => (nD p hp).2)
    · rcases List.mem_cons.mp hp with rfl | hp
      · exact ⟨hacc, hDL, hD₀⟩
      · exact ⟨old _ _ (N p hp).1, (N p hp).2⟩
  exact codeAny_compStart_list (loop _ rfl) (W.self 0 _ _ _ (W.frame _ _ _ hst fun b _ o e => old b o e) (loop _ rfl))
/-- a comprehension over pairs -/
theorem ListComp_Z {elt iter : PySem.Expr} {x x₂ : Str} {px px₂ tp : Pos} {tk} {scope : Scope} {cl : List (Str × Addr)} {pos : Pos} {n : Nat} {P : Nat → Value → Value → Prop} {R : Nat → List Value → Prop} {news : List (Addr × Obj)} {Q : Value → Shared → Prop} (_F : Fr h₀ L s.heap m) (_N : News h₀ L s.heap news) (hh : A.handled = none)
    (hclos : closureFor scope env = pure cl) (hcell : ∀ y ∈ scope.names, y.2 ≠ .cell) (hkind : scope.kind = .function) (hnames : ∀ y ∈ scope.names, y.2 = .local → scope.names.lookup y.1 = some .local)
    (hx : scope.names.lookup x = some .local) (hx₂ : scope.names.lookup x₂ = some .local) (hxx : x ≠ x₂) (hsz : n ≤ sizeLine) (r0 : R 0 [])
    (turn : ∀ i v0 v1 C oC D m₂ ys h tk (E' : Value → Shared → Prop), i < n → P i v0 v1 → R i ys → LCg.NsObj oC m₂ → m₂ x = some v0 → m₂ x₂ = some v1 → Fr h₀ L h m → News h₀ L h ((C, oC) :: (D, LCg.lst ys) :: news) →
      wpAny (model prog w) A (eval elt (compEnvC scope cl C env)) (EltEnd s h fun y => R (i + 1) (ys ++ [y])) E' { s with heap := h, toks := tk })
    (fin : ∀ D ys h tk, R n ys → Fr h₀ L h m → News h₀ L h ((D, LCg.lst ys) :: news) → Q (.ref D) { s with heap := h, toks := tk })
    (h : wpAny (model prog w) A (eval iter env) (fun xv s₁ => PairSrc prog w A h₀ L m news n P xv s₁ ∧ ∃ h' tk', s₁ = { s with heap := h', toks := tk' }) E s)
    (hs : ∀ x, foldedSetIterable iter env x = pure x := by intro _; rfl) :
    wpAny (model prog w) A (eval (.ListComp elt [⟨.Tuple [.Name x px, .Name x₂ px₂] tk tp, iter, [], 0⟩] scope pos) env) Q E s := by
  rw [eval_ListComp]
  refine wpAny_comprehension_free (use := none) rfl hs hclos hkind hnames (wpAny_mono h (fun xv s₁ h₁ => ?_) fun _ _ e => e)
  obtain ⟨⟨z, fp, wr, Pt, St, Mid, rfl, W, hP, hst, hfp, hwr, off, F, N⟩, g, tk', rfl⟩ := h₁
  refine W.self 0 _ _ _ hst ?_
  refine block_Z W hP hsz hcell hkind hx hx₂ hxx hh hst hfp hwr off F N r0 (fun i v0 v1 C oC D m₂ ys h tk E' => turn i v0 v1 C oC D m₂ ys h tk E') ?_
  intro D C h tk m' ys hR F' N' nD hn hC₀ hCL hCD nC
  refine ⟨m', hn, fun h'' hs'' => fin D ys h'' tk hR (F'.change hs'' hCL hC₀) fun p hp => ⟨hs''.extBut _ _ ?_ (N' p hp).1, (N' p hp).2⟩⟩
  rcases List.mem_cons.mp hp with rfl | hp
  · exact hCD.symm
  · exact nC p hp
end
end Mine

end
section
set_option maxRecDepth 100000
set_option linter.unusedVariables false
set_option maxHeartbeats 1000000
namespace Mine
open PySem PySem.W PySem.Calls PySem.Spec PyProof.Rows
section
variable {prog : Program} {w : World} {A : Around} {E : Value → Shared → Prop} {s : Shared} {h₀ : Heap} {L : Addr} {m : Str → Option Value} {env : Env}
theorem news_three {h h' : Heap} {I C D : Addr} {oI oC oD : Obj} {news : List (Addr × Obj)} (N : News h₀ L h ((I, oI) :: (C, oC) :: (D, oD) :: news)) : News h₀ L h ((C, oC) :: (D, oD) :: news) := fun p hp => N p (.tail _ hp)
/-- the turns of a comprehension with a test, by what holds of them -/
theorem restT {ct elt : PySem.Expr} {x : Str} {scope : Scope} {cl : List (Str × Addr)} {P : Nat → Value → Prop} {Fin : List Value → List (Addr × Obj) → Prop} {n : Nat} {R : Nat → List Value → Prop} {news : List (Addr × Obj)} {S : List (Addr × Obj) → Prop} (hS : S news)
    (turn : ∀ i v C oC D m₂ ys h tk (E' : Value → Shared → Prop), P i v → R i ys → LCg.NsObj oC m₂ → m₂ x = some v → Fr h₀ L h m → News h₀ L h ((C, oC) :: (D, LCg.lst ys) :: news) →
      wpAny (model prog w) A (isTrue ct (compEnvC scope cl C env) (eval ct (compEnvC scope cl C env))) (fun ok s' => if ok = true then wpAny (model prog w) A (eval elt (compEnvC scope cl C env)) (EltEnd s h fun y => R (i + 1) (ys ++ [y])) E' s'
        else EltEnd s h (fun _ => R (i + 1) ys) .none s') E' { s with heap := h, toks := tk })
    (fin : ∀ ys, R n ys → Fin ys news) : ∀ k i ys, i + k = n → R i ys → LCt.CompRestT prog w A h₀ L m env ct elt x scope cl s S P Fin k i ys news
  | 0, i, ys, e, r => by
    have : i = n := by omega
    exact LCt.CompRestT.zero (fin ys (this ▸ r))
  | k + 1, i, ys, e, r => by
    refine LCt.CompRestT.succ ?_
    intro v I oI C oC D m₂ h tk E' hv hC hx F N off ne
    refine wpAny_mono (turn i v C oC D m₂ ys h tk E' hv r hC hx F (fun p hp => N p (.tail _ hp))) (fun ok s' hq => ?_) fun _ _ e => e
    cases ok with
    | true =>
      simp only [if_true] at hq ⊢
      refine wpAny_mono hq (fun y s'' hz => ?_) fun _ _ e => e
      obtain ⟨h', tk', rfl, st, r'⟩ := hz
      exact ⟨h', tk', news, rfl, fr_stays F st, news_stays N st, off, hS, restT hS turn fin k (i + 1) _ (by omega) r'⟩
    | false =>
      simp only [Bool.false_eq_true, if_false] at hq ⊢
      obtain ⟨h', tk', rfl, st, r'⟩ := hq
      exact ⟨h', tk', news, rfl, fr_stays F st, news_stays N st, off, hS, restT hS turn fin k (i + 1) _ (by omega) r'⟩
theorem restU {elt : PySem.Expr} {x : Str} {scope : Scope} {cl : List (Str × Addr)} {P : Nat → Value → Prop} {Fin : List Value → List (Addr × Obj) → Prop} {n : Nat} {R : Nat → List Value → Prop} {news : List (Addr × Obj)} {S : List (Addr × Obj) → Prop} (hS : S news)
    (turn : ∀ i v C oC D m₂ ys h tk (E' : Value → Shared → Prop), P i v → R i ys → LCg.NsObj oC m₂ → m₂ x = some v → Fr h₀ L h m → News h₀ L h ((C, oC) :: (D, LCg.lst ys) :: news) →
      wpAny (model prog w) A (eval elt (compEnvC scope cl C env)) (EltEnd s h fun y => R (i + 1) (ys ++ [y])) E' { s with heap := h, toks := tk })
    (fin : ∀ ys, R n ys → Fin ys news) : ∀ k i ys, i + k = n → R i ys → LCg.CompRest prog w A h₀ L m env elt x scope cl s S P Fin k i ys news
  | 0, i, ys, e, r => by
    have : i = n := by omega
    exact LCg.CompRest.zero (fin ys (this ▸ r))
  | k + 1, i, ys, e, r => by
    refine LCg.CompRest.succ ?_
    intro v I oI C oC D m₂ h tk E' hv hC hx F N off ne
    refine wpAny_mono (turn i v C oC D m₂ ys h tk E' hv r hC hx F (fun p hp => N p (.tail _ hp))) (fun y s'' hz => ?_) fun _ _ e => e
    obtain ⟨h', tk', rfl, st, r'⟩ := hz
    exact ⟨h', tk', news, rfl, fr_stays F st, news_stays N st, off, hS, restU hS turn fin k (i + 1) _ (by omega) r'⟩
theorem pyIter_text {x : Str} {t : Tok} {Q : Value → Shared → Prop} (hh : A.handled = none)
    (hQ : ∀ (nm : String) (o : Obj), Walks prog w A s.heap.objs.size [s.heap.objs.size] [s.heap.objs.size] x.cps.size (SignAt x) (fun i h => h.IsStrIter s.heap.objs.size nm x t i) → (s.heap.push o).IsStrIter s.heap.objs.size nm x t 0 →
      Q (.ref s.heap.objs.size) { s with heap := s.heap.push o }) : wpAny (model prog w) A (pyIter (.str x t)) Q E s := by
  cases ha : x.cps.all (· < 128)
  · exact wpAny_pyIter_wide ha (hQ "str_iterator" _ (Walks.strWide hh _ x t) ⟨_, Heap.get?_push_size _ rfl, rfl, rfl⟩)
  · exact wpAny_pyIter_ascii ha (hQ "str_ascii_iterator" _ (Walks.strAscii hh _ x t) ⟨_, Heap.get?_push_size _ rfl, rfl, rfl⟩)
/-- a text as a comprehension's source -/
def TextSrc (h₀ : Heap) (L : Addr) (m : Str → Option Value) (news : List (Addr × Obj)) (s : Shared) (zx : Str) (xv : Value) (s₁ : Shared) : Prop :=
  (∃ t, xv = .str zx t) ∧ Fr h₀ L s₁.heap m ∧ News h₀ L s₁.heap news ∧ ∃ h' tk', s₁ = { s with heap := h', toks := tk' }
theorem ListComp_ST {ct elt iter : PySem.Expr} {x : Str} {px : Pos} {scope : Scope} {cl : List (Str × Addr)} {pos : Pos} {zx : Str} {R : Nat → List Value → Prop} {news : List (Addr × Obj)} {Q : Value → Shared → Prop} (_F : Fr h₀ L s.heap m) (_N : News h₀ L s.heap news) (hh : A.handled = none)
    (hclos : closureFor scope env = pure cl) (hcell : ∀ y ∈ scope.names, y.2 ≠ .cell) (hkind : scope.kind = .function) (hnames : ∀ y ∈ scope.names, y.2 = .local → scope.names.lookup y.1 = some .local)
    (hx : scope.names.lookup x = some .local) (hsz : zx.cps.size ≤ sizeLine) (r0 : R 0 [])
    (turn : ∀ i v C oC D m₂ ys h tk (E' : Value → Shared → Prop), SignAt zx i v → R i ys → LCg.NsObj oC m₂ → m₂ x = some v → Fr h₀ L h m → News h₀ L h ((C, oC) :: (D, LCg.lst ys) :: news) →
      wpAny (model prog w) A (isTrue ct (compEnvC scope cl C env) (eval ct (compEnvC scope cl C env))) (fun ok s' => if ok = true then wpAny (model prog w) A (eval elt (compEnvC scope cl C env)) (EltEnd s h fun y => R (i + 1) (ys ++ [y])) E' s'
        else EltEnd s h (fun _ => R (i + 1) ys) .none s') E' { s with heap := h, toks := tk })
    (fin : ∀ D ys h tk, R zx.cps.size ys → Fr h₀ L h m → News h₀ L h ((D, LCg.lst ys) :: news) → Q (.ref D) { s with heap := h, toks := tk })
    (h : wpAny (model prog w) A (eval iter env) (TextSrc h₀ L m news s zx) E s)
    (hs : ∀ x, foldedSetIterable iter env x = pure x := by intro _; rfl) :
    wpAny (model prog w) A (eval (.ListComp elt [⟨.Name x px, iter, [ct], 0⟩] scope pos) env) Q E s := by
  rw [eval_ListComp]
  refine wpAny_comprehension_free (use := none) rfl hs hclos hkind hnames (wpAny_mono h (fun xv s₁ h₁ => ?_) fun _ _ e => e)
  obtain ⟨⟨t, rfl⟩, F, N, g, tk', rfl⟩ := h₁
  refine pyIter_text hh fun nm o W hst => ?_
  have up : ∀ b o', g.get? b = some o' → (g.push o).get? b = some o' := fun b o' e => Heap.get?_push_of_some _ e
  refine LCt.block_T (S := fun _ => True) (Fin := fun ys nw => nw = news ∧ R zx.cps.size ys) W hsz (fun i h' st => by obtain ⟨o', e', _⟩ := st; exact ⟨o', e'⟩)
    (fun i h' h'' o' nw st e e' _ _ _ => W.frame _ _ _ st fun b hb o2 e2 => by rw [List.mem_singleton.mp hb] at e2 ⊢; rw [e', ← e]; exact e2) hcell hkind hx hst (fun b hb => ?_) (F.keeps up) (N.grown up)
    (Nat.ne_of_lt F.ns.lt) (next_is_new F) (fun p hp => Nat.ne_of_lt (Heap.lt_size (N p hp).1)) trivial
    (restT (S := fun _ => True) trivial (s := { s with heap := g.push o, toks := tk' }) (R := R) (n := zx.cps.size) (fun i v C oC D m₂ ys h tk E' => turn i v C oC D m₂ ys h tk E') (fun ys r => ⟨rfl, r⟩) zx.cps.size 0 [] (Nat.zero_add _) r0) ?_
  · rw [List.mem_singleton.mp hb]
    show g.objs.size < (g.push o).objs.size
    rw [Heap.size_push]; exact Nat.lt_succ_self _
  · rintro D C h tk m' ys news' F' N' o1 hn hC₀ hD₀ hCL hDL hCD offC ⟨rfl, hR⟩
    refine ⟨m', hn, fun h'' hs'' => fin D ys h'' tk hR (F'.change hs'' hCL hC₀) fun p hp => ⟨hs''.extBut _ _ ?_ (N' p hp).1, (N' p hp).2⟩⟩
    rcases List.mem_cons.mp hp with rfl | hp
    · exact hCD.symm
    · exact offC p hp
theorem ListComp_SU {elt iter : PySem.Expr} {x : Str} {px : Pos} {scope : Scope} {cl : List (Str × Addr)} {pos : Pos} {zx : Str} {R : Nat → List Value → Prop} {news : List (Addr × Obj)} {Q : Value → Shared → Prop} (_F : Fr h₀ L s.heap m) (_N : News h₀ L s.heap news) (hh : A.handled = none)
    (hclos : closureFor scope env = pure cl) (hcell : ∀ y ∈ scope.names, y.2 ≠ .cell) (hkind : scope.kind = .function) (hnames : ∀ y ∈ scope.names, y.2 = .local → scope.names.lookup y.1 = some .local)
    (hx : scope.names.lookup x = some .local) (hsz : zx.cps.size ≤ sizeLine) (r0 : R 0 [])
    (turn : ∀ i v C oC D m₂ ys h tk (E' : Value → Shared → Prop), SignAt zx i v → R i ys → LCg.NsObj oC m₂ → m₂ x = some v → Fr h₀ L h m → News h₀ L h ((C, oC) :: (D, LCg.lst ys) :: news) →
      wpAny (model prog w) A (eval elt (compEnvC scope cl C env)) (EltEnd s h fun y => R (i + 1) (ys ++ [y])) E' { s with heap := h, toks := tk })
    (fin : ∀ D ys h tk, R zx.cps.size ys → Fr h₀ L h m → News h₀ L h ((D, LCg.lst ys) :: news) → Q (.ref D) { s with heap := h, toks := tk })
    (h : wpAny (model prog w) A (eval iter env) (TextSrc h₀ L m news s zx) E s)
    (hs : ∀ x, foldedSetIterable iter env x = pure x := by intro _; rfl) :
    wpAny (model prog w) A (eval (.ListComp elt [⟨.Name x px, iter, [], 0⟩] scope pos) env) Q E s := by
  rw [eval_ListComp]
  refine wpAny_comprehension_free (use := none) rfl hs hclos hkind hnames (wpAny_mono h (fun xv s₁ h₁ => ?_) fun _ _ e => e)
  obtain ⟨⟨t, rfl⟩, F, N, g, tk', rfl⟩ := h₁
  refine pyIter_text hh fun nm o W hst => ?_
  have up : ∀ b o', g.get? b = some o' → (g.push o).get? b = some o' := fun b o' e => Heap.get?_push_of_some _ e
  refine LCg.block_U (S := fun _ => True) (Fin := fun ys nw => nw = news ∧ R zx.cps.size ys) W hsz (fun i h' st => by obtain ⟨o', e', _⟩ := st; exact ⟨o', e'⟩)
    (fun i h' h'' o' nw st e e' _ _ _ => W.frame _ _ _ st fun b hb o2 e2 => by rw [List.mem_singleton.mp hb] at e2 ⊢; rw [e', ← e]; exact e2) hcell hkind hx hst (fun b hb => ?_) (F.keeps up) (N.grown up)
    (Nat.ne_of_lt F.ns.lt) (next_is_new F) (fun p hp => Nat.ne_of_lt (Heap.lt_size (N p hp).1)) trivial
    (restU (S := fun _ => True) trivial (s := { s with heap := g.push o, toks := tk' }) (R := R) (n := zx.cps.size) (fun i v C oC D m₂ ys h tk E' => turn i v C oC D m₂ ys h tk E') (fun ys r => ⟨rfl, r⟩) zx.cps.size 0 [] (Nat.zero_add _) r0) ?_
  · rw [List.mem_singleton.mp hb]
    show g.objs.size < (g.push o).objs.size
    rw [Heap.size_push]; exact Nat.lt_succ_self _
  · rintro D C h tk m' ys news' F' N' o1 hn hC₀ hD₀ hCL hDL hCD offC ⟨rfl, hR⟩
    refine ⟨m', hn, fun h'' hs'' => fin D ys h'' tk hR (F'.change hs'' hCL hC₀) fun p hp => ⟨hs''.extBut _ _ ?_ (N' p hp).1, (N' p hp).2⟩⟩
    rcases List.mem_cons.mp hp with rfl | hp
    · exact hCD.symm
    · exact offC p hp
end
end Mine

end
section
set_option maxRecDepth 100000
set_option linter.unusedVariables false
set_option maxHeartbeats 400000
namespace Mine
open PySem PySem.W PySem.Calls PySem.Spec PyProof.Rows
/-- a letter's sign in a form -/
def signC (c f : Nat) : Nat := if f = 0 then c else if f = 1 then c - 32 else 119711 + 52 * [0, 1, 2, 4, 7, 8, 9, 10, 11, 12].getD (f - 2) 0 + c
theorem str_one {n m : Nat} {t : Tok} (h : n = m) : Value.str ⟨#[n]⟩ t = Value.str (Sx [m]) t := by subst h; rfl
def signT : List Nat := [0, 1, 2, 4, 7, 8, 9, 10, 11, 12]
theorem ten_at {a0 a1 a2 a3 a4 a5 a6 a7 a8 a9 : Tok} {k : Nat} (hk : k < 10) : ∃ t, (#[.int 0 a0, .int 1 a1, .int 2 a2, .int 4 a3, .int 7 a4, .int 8 a5, .int 9 a6, .int 10 a7, .int 11 a8, .int 12 a9] : Array Value)[k]? = some (.int ((signT.getD k 0 : Nat) : Int) t) := by
  have h : k = 0 ∨ k = 1 ∨ k = 2 ∨ k = 3 ∨ k = 4 ∨ k = 5 ∨ k = 6 ∨ k = 7 ∨ k = 8 ∨ k = 9 := by omega
  rcases h with rfl | rfl | rfl | rfl | rfl | rfl | rfl | rfl | rfl | rfl <;> exact ⟨_, rfl⟩
theorem sign_le {k : Nat} (hk : k < 10) : signT.getD k 0 ≤ 12 := by
  have h : k = 0 ∨ k = 1 ∨ k = 2 ∨ k = 3 ∨ k = 4 ∨ k = 5 ∨ k = 6 ∨ k = 7 ∨ k = 8 ∨ k = 9 := by omega
  rcases h with rfl | rfl | rfl | rfl | rfl | rfl | rfl | rfl | rfl | rfl <;> decide
theorem seq_nat {k n : Nat} (h : k < n) : seqIndex? (k : Int) n = some k := by
  have h1 : ¬ ((k : Int) < 0) := by omega
  have h2 : 0 ≤ (k : Int) := by omega
  have h3 : (k : Int) < (n : Int) := by omega
  simp [seqIndex?, h1, h2, h3]
theorem sign_item {prog : Program} {w : World} {A : Around} {E : Value → Shared → Prop} {s : Shared} {h₀ : Heap} {L T : Addr} {news : List (Addr × Obj)} {n : Nat} {a0 a1 a2 a3 a4 a5 a6 a7 a8 a9 u : Tok} {f : Nat} {value slice : PySem.Expr} {Q : Value → Shared → Prop}
    (N : News h₀ L s.heap news) (hm : (T, ({ cls := .type "tuple", data := .seq #[.int 0 a0, .int 1 a1, .int 2 a2, .int 4 a3, .int 7 a4, .int 8 a5, .int 9 a6, .int 10 a7, .int 11 a8, .int 12 a9] n } : Obj)) ∈ news) (h2 : 2 ≤ f) (hf : f < 12)
    (h : ∀ (v : Nat) t, v = signT.getD (f - 2) 0 → v ≤ 12 → Q (.int (v : Int) t) s)
    (hs : ∀ k u, subscripted slice false (.ref T) (.int k u) = operate [.ref T, .int k u] (getItem (.ref T) (.int k u))) :
    wpAny (model prog w) A (subscriptTail value slice (.ref T) (.int ((f : Int) - 2) u)) Q E s := by
  have e : ((f : Int) - 2) = ((f - 2 : Nat) : Int) := by omega
  rw [e]
  obtain ⟨t, ht⟩ := ten_at (a0 := a0) (a1 := a1) (a2 := a2) (a3 := a3) (a4 := a4) (a5 := a5) (a6 := a6) (a7 := a7) (a8 := a8) (a9 := a9) (k := f - 2) (by omega)
  have hT : IsTup s.heap T #[.int 0 a0, .int 1 a1, .int 2 a2, .int 4 a3, .int 7 a4, .int 8 a5, .int 9 a6, .int 10 a7, .int 11 a8, .int 12 a9] := ⟨_, (N _ hm).1, rfl, _, rfl⟩
  exact tail_any hT.typeIs slot_tuple_getitem.lookup (getItem_tuple hT (by omega) (by omega) (seq_nat (show f - 2 < 10 by omega)) ht (h _ t rfl (sign_le (by omega)))) (hs _ _)
local macro_rules | `(tactic| walk_at "no such step") => `(tactic| (refine halt ?_))
local macro_rules | `(tactic| walk_at "no such step") => `(tactic| (refine halt ?_))
local macro_rules | `(tactic| walk_at "subscriptTail") => `(tactic| (refine halt ?_))
theorem sign1 {prog : Program} {w : World} {p : Program} {loose : List Str} {mean : ExcName → Option Value} {mg mb : Str → Option Value} {g : Heap} {c f : Nat} {t1 t2 : Tok}
    (hc1 : 104 ≤ c) (hc2 : c ≤ 112) (hf : f < 12) :
    Tells prog w (K1 w.params) p loose mean mg mb g (.ref 110) [.str (Sx [c]) t1, .int f t2] [] 1 8 (fun v => ∃ t, v = .str (Sx [signC c f]) t) := by
  w_on
  k_with_none
  w_strict (
    refine (fun (h : PySem.Challenge.rw_re0150_02 = PySem.Challenge.rw_re0150_02 → _) => h rfl) ?_
    k_fill
    intro kk9
    clear kk9
    intro dp un gd cn cs aa ccd cl outer A₀ base h₀ L m s Q E B F X T hk st9 hd hu hret
    refine wpAny_call ?_
    (k_dflt (refine' enter [(Str.ofString "letter", .str (Sx [c]) t1), (Str.ofString "form", .int f t2)] B F X T hk ?k6 ?k7 ?k8 ?k9 ?kB ?_ ?c2 ?c3 ?c4 ?c5; (case k6 => k_is); (case k7 => k_is); (case k8 => omega); (case k9 => exact BindsTo.of_eq rfl); (case c5 => decide); (case kB => exact locs rfl); (case c2 => exact rfl); (case c3 => exact rfl); (case c4 => exact rfl)))
    intro L' h' F' N' B' X' T'
    k_fold
    dsimp only [fBody, fScope, st12, nthS, PySem.Challenge.pw_re0150_02]
    have hl0 : (Sx [c]).length = 1 := rfl
    have hg0 : (Sx [c]).cps.getD 0 0 = c := rfl
    have hg1 : 104 ≤ (Sx [c]).cps.getD 0 0 := hc1
    have hg2 : (Sx [c]).cps.getD 0 0 ≤ 112 := hc2
    k_steps
    · (rename (f : Int) = 0 => h0)
      obtain rfl : f = 0 := by omega
      k_dflt (refine hret _ _ _ ?_ (Fr.keep (by assumption)))
      exact ⟨_, rfl⟩
    · (rename (f : Int) = 1 => h0)
      obtain rfl : f = 1 := by omega
      k_dflt (refine hret _ _ _ ?_ (Fr.keep (by assumption)))
      exact ⟨_, str_one (by rw [hg0]; simp only [signC]; simp <;> omega)⟩
    · refine go_on ?_
      (rename (f : Int) ≠ 0 => h0)
      (rename (f : Int) ≠ 1 => h1)
      (rename News _ _ _ _ => N9)
      have h2f : 2 ≤ f := by omega
      k_dflt (refine' sign_item N9 (.head _) h2f hf ?_ ?s9; (case s9 => intro _ _; with_unfolding_all rfl))
      intro v t9 hv hv2
      k_steps
      k_dflt (refine hret _ _ _ ?_ (Fr.keep (by assumption)))
      refine ⟨_, str_one ?_⟩
      rw [hg0, signC, if_neg (by omega), if_neg (by omega), ← show signT = [0, 1, 2, 4, 7, 8, 9, 10, 11, 12] from rfl, ← hv]
      omega)
end Mine

end
section
set_option maxRecDepth 100000
set_option linter.unusedVariables false
set_option maxHeartbeats 400000
namespace Mine
open PySem PySem.W PySem.Calls PySem.Spec PyProof.Rows
def b1Ks : List Int := [65024, 65025, 65026, 65027, 65028, 65029, 6150, 65030, 65031, 65032, 65033, 6155, 6156, 6157, 8203, 8204, 8205, 65034, 65035, 65036, 65037, 65038, 65039, 173, 847, 8288, 65279]
def elOk : Int × Value → Bool
  | (n, .int k _) => n == k && n == hashInt k
  | _ => false
theorem elOk_shape {e : Int × Value} (h : elOk e = true) : ∃ t, e.2 = .int e.1 t ∧ e.1 = hashInt e.1 := by
  obtain ⟨n, v⟩ := e
  cases v with
  | int k t =>
    simp only [elOk, Bool.and_eq_true, beq_iff_eq] at h
    obtain ⟨rfl, h2⟩ := h
    exact ⟨t, rfl, h2⟩
  | _ => simp [elOk] at h
theorem any_els (k : Int) : ∀ (l : List (Int × Value)), l.all elOk = true → l.any (fun e => Value.isInt k e.2) = (l.map (·.1)).contains k
  | [], _ => rfl
  | e :: l, h => by
    simp only [List.all_cons, Bool.and_eq_true] at h
    obtain ⟨t, h1, h2⟩ := elOk_shape h.1
    rw [List.any_cons, List.map_cons, List.contains_cons, any_els k l h.2, h1]
    have : Value.isInt k (.int e.1 t) = (k == e.1) := by
      show (e.1 == k) = (k == e.1)
      exact Bool.beq_comm
    rw [this]
theorem setOf_els {prog : Program} {w : World} {h : Heap} {a : Addr} {o : Obj} {es : Array (Int × Value)} {ep : Nat} {t : SetTable} (hg : h.get? a = some o) (he : o.ExactSet) (hd : o.data = .set es ep t) (hok : es.toList.all elOk = true) (hz : es.size < scanBound) (hf : t.fits es.size = true) :
    h.SetOf (intKind prog w) a (fun k => (es.toList.map (·.1)).contains k) es.size := by
  refine ⟨o, es, ep, t, hg, he, hd, fun e hm => ?_, fun k => ?_, hz, hf, rfl⟩
  · obtain ⟨t, h1, h2⟩ := elOk_shape (List.all_eq_true.mp hok e hm)
    rw [h1]
    exact ⟨⟨e.1, by simp [intKind, Value.isInt], h2⟩, rfl⟩
  · show (es.toList.map (·.1)).contains k = true ↔ _
    rw [← any_els k _ hok, List.any_eq_true]
    rfl
theorem b1_at {prog : Program} {w : World} {P : Params} {h : Heap} (hg : h.get? 22 = some (o22_0 P)) : h.SetOf (intKind prog w) 22 (fun k => b1Ks.contains k) 27 :=
  setOf_els hg ⟨rfl, rfl, rfl⟩ rfl (by kernel_rfl) (by show 27 < scanBound; decide) (by kernel_rfl)
local macro_rules | `(tactic| walk_at "no such step") => `(tactic| (refine halt ?_))
local macro_rules | `(tactic| walk_at "no such step") => `(tactic| (refine halt ?_))
local macro_rules | `(tactic| walk_at "no such step") => `(tactic| (refine halt ?_))
local macro_rules | `(tactic| walk_at "compareOp In int ref") => `(tactic| (refine halt ?_))
theorem intab1 {prog : Program} {w : World} {p : Program} {loose : List Str} {mean : ExcName → Option Value} {mg mb : Str → Option Value} {g : Heap} {c : Nat} {t1 : Tok} :
    Tells prog w (K1 w.params) p loose mean mg mb g (.ref 32) [.str (Sx [c]) t1] [] 1 8 (fun v => v = .bool (b1Ks.contains (c : Int))) := by
  w_on
  k_with_none
  w_strict (
    refine (fun (h : PySem.Challenge.rw_re0150_02 = PySem.Challenge.rw_re0150_02 → _) => h rfl) ?_
    k_fill
    intro kk9
    clear kk9
    intro dp un gd cn cs aa ccd cl outer A₀ base h₀ L m s Q E B F X T hk st9 hd hu hret
    refine wpAny_call ?_
    (k_dflt (refine' enter [(Str.ofString "code", .str (Sx [c]) t1)] B F X T hk ?k6 ?k7 ?k8 ?k9 ?kB ?_ ?c2 ?c3 ?c4 ?c5; (case k6 => k_is); (case k7 => k_is); (case k8 => omega); (case k9 => exact BindsTo.of_eq rfl); (case c5 => decide); (case kB => exact locs rfl); (case c2 => exact rfl); (case c3 => exact rfl); (case c4 => exact rfl)))
    intro L' h' F' N' B' X' T'
    k_fold
    dsimp only [fBody, fScope, st2, nthS, PySem.Challenge.pw_re0150_02]
    have hl0 : (Sx [c]).length = 1 := rfl
    have hg0 : (Sx [c]).cps.getD 0 0 = c := rfl
    k_steps
    refine go_on ?_
    (rename Fr _ _ _ _ => F1)
    refine wpAny_inSet_of (knd := intKind prog w) (PySem.intKind_is prog w _ _) rfl (b1_at (F1.keep _ _ (X' 22 _ rfl))) ?_
    k_steps
    k_dflt (exact hret _ _ _ rfl (Fr.keep (by assumption))))
end Mine

end
section
set_option maxRecDepth 100000
set_option linter.unusedVariables false
set_option maxHeartbeats 400000
namespace Mine
open PySem PySem.W PySem.Calls PySem.Spec PyProof.Rows
noncomputable def mapP : List Pair := (b3_0 :: b3gs).flatten ++ b3last
noncomputable def mapAt (c : Int) : Option Str := (mapP.find? (fun x => x.1 == c)).map (·.2)
theorem ents_find (c : Int) : ∀ (T : Nat) (l : List Pair), ((ents T l).find? (fun e => Value.isInt c e.key)).map (·.val) = none ∧ l.find? (fun x => x.1 == c) = none ∨ ∃ x t, ((ents T l).find? (fun e => Value.isInt c e.key)).map (·.val) = some (.str x t) ∧ (l.find? (fun x => x.1 == c)).map (·.2) = some x
  | _, [] => .inl ⟨rfl, rfl⟩
  | T, x :: l => by
    by_cases hx : (x.1 == c) = true
    · exact .inr ⟨x.2, T + 1, by rw [ents, List.find?_cons, show Value.isInt c (.int x.1 T) = true from hx]; rfl, by rw [List.find?_cons, hx]; rfl⟩
    · rw [ents, List.find?_cons, List.find?_cons, show Value.isInt c (.int x.1 T) = false from Bool.eq_false_iff.mpr hx, Bool.eq_false_iff.mpr hx]
      exact ents_find c _ l
theorem entsS_find (c : Int) : ∀ (T : Nat) (l : List Pair), ((entsS T l).find? (fun e => Value.isInt c e.key)).map (·.val) = none ∧ l.find? (fun x => x.1 == c) = none ∨ ∃ x t, ((entsS T l).find? (fun e => Value.isInt c e.key)).map (·.val) = some (.str x t) ∧ (l.find? (fun x => x.1 == c)).map (·.2) = some x
  | _, [] => .inl ⟨rfl, rfl⟩
  | T, x :: l => by
    by_cases hx : (x.1 == c) = true
    · exact .inr ⟨x.2, T + 1, by rw [entsS, List.find?_cons, show Value.isInt c (.int x.1 T) = true from hx]; rfl, by rw [List.find?_cons, hx]; rfl⟩
    · rw [entsS, List.find?_cons, List.find?_cons, show Value.isInt c (.int x.1 T) = false from Bool.eq_false_iff.mpr hx, Bool.eq_false_iff.mpr hx]
      exact entsS_find c _ l
theorem ents_key : ∀ (T : Nat) (l : List Pair), ∀ e ∈ ents T l, ∃ k, Value.isInt k e.key = true ∧ e.hash = hashInt k
  | _, [], e, h => nomatch h
  | T, x :: l, e, h => by
    rcases List.mem_cons.mp h with rfl | h
    · exact ⟨x.1, by simp [Value.isInt], rfl⟩
    · exact ents_key _ l e h
theorem entsS_key : ∀ (T : Nat) (l : List Pair), ∀ e ∈ entsS T l, ∃ k, Value.isInt k e.key = true ∧ e.hash = hashInt k
  | _, [], e, h => nomatch h
  | T, x :: l, e, h => by
    rcases List.mem_cons.mp h with rfl | h
    · exact ⟨x.1, by simp [Value.isInt], rfl⟩
    · exact entsS_key _ l e h
/-- what the table says of a number -/
theorem b3_find (c : Int) : (findBy Value.isInt b3E.toArray c = none ∧ mapAt c = none) ∨ ∃ x t, findBy Value.isInt b3E.toArray c = some (.str x t) ∧ mapAt c = some x := by
  unfold findBy mapAt mapP b3E
  rw [List.find?_toArray, List.find?_append, List.find?_append]
  rcases ents_find c 256 (b3_0 :: b3gs).flatten with ⟨h1, h2⟩ | ⟨x, t, h1, h2⟩
  · rw [Option.map_eq_none_iff.mp h1, h2, Option.none_or, Option.none_or]
    rcases entsS_find c (256 + 3 * (b3_0 :: b3gs).flatten.length) b3last with ⟨h3, h4⟩ | ⟨x, t, h3, h4⟩
    · exact .inl ⟨h3, by rw [h4]; rfl⟩
    · exact .inr ⟨x, t, h3, h4⟩
  · refine .inr ⟨x, t, ?_, ?_⟩
    · obtain ⟨e, he1, he2⟩ := Option.map_eq_some_iff.mp h1
      rw [he1, Option.some_or, Option.map_some, he2]
    · obtain ⟨e, he1, he2⟩ := Option.map_eq_some_iff.mp h2
      rw [he1, Option.some_or, Option.map_some, he2]
theorem b3_at {prog : Program} {w : World} {P : Params} {h : Heap} (hg : h.get? 33 = some (o33_0 P)) : h.MapOf (intKind prog w) 33 (fun c => findBy Value.isInt b3E.toArray c) := by
  refine ⟨_, b3E.toArray, b3E.length, hg, ⟨rfl, rfl, rfl⟩, rfl, fun e he => ?_, fun _ => rfl⟩
  rcases List.mem_append.mp (List.mem_toArray.mp he) with h | h
  · exact ents_key _ _ e h
  · exact entsS_key _ _ e h
/-- what the table gives -/
theorem b3_get {prog : Program} {w : World} {A : Around} {E : Value → Shared → Prop} {s : Shared} {c : Int} {t : Tok} {Q : Value → Shared → Prop} (hg : s.heap.get? 33 = some (o33_0 w.params))
    (h1 : ∀ x t', mapAt c = some x → Q (.str x t') { s with toks := s.toks + 1 }) (h2 : mapAt c = none → Q .none { s with toks := s.toks + 1 }) :
    wpAny (model prog w) A (call (.builtin "dict.get") [.ref 33, .int c t]) Q E s := by
  have hm := b3_at (prog := prog) (w := w) hg
  refine call_meetsIn PySem.F.slot_dict_get hm.typeIs PySem.F.entry_dict_get (PySem.F.args_dict_get_2 _ _) (meets_dict_get (intKind prog w) 33 (PySem.intKind_is prog w c t) rfl) ⟨_, hm, ?_⟩
  rcases b3_find c with ⟨e1, e2⟩ | ⟨x, t', e1, e2⟩
  · rw [e1]; exact h2 e2
  · rw [e1]; exact h1 x t' e2
/-- what a sign is folded to -/
noncomputable def mapV (c : Nat) : Str := match mapAt (c : Int) with
  | some x => x
  | none => Txt.lower (Sx [c])
theorem mapV_some {c : Nat} {x : Str} (h : mapAt (c : Int) = some x) : x = mapV c := by unfold mapV; rw [h]
theorem mapV_none {c : Nat} (h : mapAt (c : Int) = none) : Txt.lower (Sx [c]) = mapV c := by unfold mapV; rw [h]
def hCodes : List Nat := (List.range 12).map (signC 104)
def pCodes : List Nat := (List.range 12).map (signC 112)

theorem map_h : ∀ f : Fin 12, mapV (signC 104 f.val) = Sx [104] := by decide +kernel
theorem map_p : ∀ f : Fin 12, mapV (signC 112 f.val) = Sx [112] := by decide +kernel
theorem map_hp : mapV 13259 = Sx [104, 112] ∧ mapV 13271 = Sx [112, 104] := by decide +kernel
local macro_rules | `(tactic| walk_at "no such step") => `(tactic| (refine halt ?_))
local macro_rules | `(tactic| walk_at "no such step") => `(tactic| (refine halt ?_))
local macro_rules | `(tactic| walk_at "no such step") => `(tactic| (refine halt ?_))
local macro_rules | `(tactic| walk_at "getMethod ref") => `(tactic| (refine halt ?_))
local macro_rules | `(tactic| walk_at "call builtin:dict.get") => `(tactic| (refine halt ?_))
theorem map1 {prog : Program} {w : World} {p : Program} {loose : List Str} {mean : ExcName → Option Value} {mg mb : Str → Option Value} {g : Heap} {c : Nat} {t1 : Tok} :
    Tells prog w (K1 w.params) p loose mean mg mb g (.ref 78) [.str (Sx [c]) t1] [] 1 8 (fun v => ∃ t, v = .str (mapV c) t) := by
  w_on
  k_with_none
  w_strict (
    refine (fun (h : PySem.Challenge.rw_re0150_02 = PySem.Challenge.rw_re0150_02 → _) => h rfl) ?_
    k_fill
    intro kk9
    clear kk9
    intro dp un gd cn cs aa ccd cl outer A₀ base h₀ L m s Q E B F X T hk st9 hd hu hret
    refine wpAny_call ?_
    (k_dflt (refine' enter [(Str.ofString "code", .str (Sx [c]) t1)] B F X T hk ?k6 ?k7 ?k8 ?k9 ?kB ?_ ?c2 ?c3 ?c4 ?c5; (case k6 => k_is); (case k7 => k_is); (case k8 => omega); (case k9 => exact BindsTo.of_eq rfl); (case c5 => decide); (case kB => exact locs rfl); (case c2 => exact rfl); (case c3 => exact rfl); (case c4 => exact rfl)))
    intro L' h' F' N' B' X' T'
    k_fold
    dsimp only [fBody, fScope, st4, nthS, PySem.Challenge.pw_re0150_02]
    have hl0 : (Sx [c]).length = 1 := rfl
    have hg0 : (Sx [c]).cps.getD 0 0 = c := rfl
    k_steps
    refine go_on ?_
    (rename Fr _ _ _ _ => F1)
    have hm := b3_at (prog := prog) (w := w) (F1.keep _ _ (X' 33 _ rfl))
    refine getMethod_builtin hm.typeIs PySem.F.plainAttrs_dict PySem.F.slot_dict_get PySem.F.type_dict_get hm.noDict ?_
    k_steps
    refine go_on ?_
    refine b3_get (F1.keep _ _ (X' 33 _ rfl)) ?_ ?_
    · intro x t' hx
      k_steps
      rw [mapV_some hx]
      k_dflt (exact hret _ _ _ ⟨_, rfl⟩ (Fr.keep (by assumption)))
    · intro hx
      k_steps
      rw [show Txt.lower (Sx [c]) = mapV c from mapV_none hx]
      k_dflt (exact hret _ _ _ ⟨_, rfl⟩ (Fr.keep (by assumption))))
end Mine

end
section
set_option maxRecDepth 100000
set_option linter.unusedVariables false
set_option maxHeartbeats 400000
namespace Mine
open PySem PySem.W PySem.Calls PySem.Spec PyProof.Rows
local macro_rules | `(tactic| walk_at "no such step") => `(tactic| (refine halt ?_))
local macro_rules | `(tactic| walk_at "no such step") => `(tactic| (refine halt ?_))
local macro_rules | `(tactic| walk_at "no such step") => `(tactic| (refine halt ?_))
local macro_rules | `(tactic| walk_at "no such step") => `(tactic| (refine halt ?_))
local macro_rules | `(tactic| walk_at "subscriptTail") => `(tactic| (refine halt ?_))
local macro_rules | `(tactic| walk_at "call type:list") => `(tactic| (refine halt ?_))
local macro_rules | `(tactic| walk_at "binaryOp Add ref ref") => `(tactic| (refine halt ?_))
def noth0 : List Int := [173, 847, 6150, 6155, 6156, 6157, 8203, 8204, 8205, 8288, 65279]
theorem noth_len : (noth0 ++ rangeKs 65024 16).length = 27 := by decide +kernel
theorem noth_ok : ∀ k : Fin 27, b1Ks.contains (((noth0 ++ rangeKs 65024 16).getD k.val 0).toNat : Int) = true ∧ ((noth0 ++ rangeKs 65024 16).getD k.val 0).toNat < 65280 ∧ 0 ≤ (noth0 ++ rangeKs 65024 16).getD k.val 0 := by decide +kernel
/-- a sign of the table of nothings -/
def isNoth (n : Nat) : Prop := b1Ks.contains (n : Int) = true
theorem noth_item {prog : Program} {w : World} {A : Around} {E : Value → Shared → Prop} {s : Shared} {value slice : PySem.Expr} {l : Addr} {vs : List Value} {k : Nat} {u : Tok} {Q : Value → Shared → Prop} (hl : s.heap.IsList l vs.toArray) (hi : IntsAre vs (noth0 ++ rangeKs 65024 16)) (hk : k < 27)
    (h : ∀ (n : Nat) t, isNoth n → n < 65280 → Q (.int (n : Int) t) s)
    (hs : subscripted slice false (.ref l) (.int k u) = operate [.ref l, .int k u] (getItem (.ref l) (.int k u))) :
    wpAny (model prog w) A (subscriptTail value slice (.ref l) (.int (k : Int) u)) Q E s := by
  refine item_anyK hl hi (Int.natCast_nonneg k) (by rw [noth_len]; omega) (by omega) (fun t => ?_) hs
  rw [Int.toNat_natCast]
  have z := noth_ok ⟨k, hk⟩
  rw [show (noth0 ++ rangeKs 65024 16).getD k 0 = ((((noth0 ++ rangeKs 65024 16).getD k 0).toNat : Nat) : Int) from (Int.toNat_of_nonneg z.2.2).symm]
  exact h _ t z.1 z.2.1
theorem noth1 {prog : Program} {w : World} {p : Program} {loose : List Str} {mean : ExcName → Option Value} {mg mb : Str → Option Value} {g : Heap} {k : Nat} {t2 : Tok}
    (hf : k < 27) :
    Tells prog w (K1 w.params) p loose mean mg mb g (.ref 117) [.int k t2] [] 1 8 (fun v => ∃ n t, v = .str (Sx [n]) t ∧ isNoth n) := by
  w_on
  k_with_none
  w_strict (
    refine (fun (h : PySem.Challenge.rw_re0150_02 = PySem.Challenge.rw_re0150_02 → _) => h rfl) ?_
    k_fill
    intro kk9
    clear kk9
    intro dp un gd cn cs aa ccd cl outer A₀ base h₀ L m s Q E B F X T hk st9 hd hu hret
    refine wpAny_call ?_
    (k_dflt (refine' enter [(Str.ofString "k", .int k t2)] B F X T hk ?k6 ?k7 ?k8 ?k9 ?kB ?_ ?c2 ?c3 ?c4 ?c5; (case k6 => k_is); (case k7 => k_is); (case k8 => omega); (case k9 => exact BindsTo.of_eq rfl); (case c5 => decide); (case kB => exact locs rfl); (case c2 => exact rfl); (case c3 => exact rfl); (case c4 => exact rfl)))
    intro L' h' F' N' B' X' T'
    k_fold
    dsimp only [fBody, fScope, st13, nthS, PySem.Challenge.pw_re0150_02]
    k_steps
    refine go_on ?_
    (rename News _ _ _ _ => N1)
    (rename Fr _ _ _ _ => F1)
    (rename IsRange _ _ _ _ _ _ _ _ => rg)
    (with_unfolding_all refine' kll_range (n := 16) rfl F1 N1 rg ?k4 ?k5 ?k6 ?_; (case k4 => decide +kernel); (case k5 => decide +kernel); (case k6 => decide))
    intro D2 vs2 c2 h2 tk2 F2 N2 l2 hI2
    k_steps
    refine go_on ?_
    (k_dflt (refine' kmk_add_ints (ns := noth0) F2 N2 ?a ?b ?i hI2 ?_ ?z; (case a => exact (News.isList N2 (.tail _ (.head _)))); (case b => exact News.isList N2 (.head _)); (case i => (unfold noth0; exact IntsAre.cons _ _ (IntsAre.cons _ _ (IntsAre.cons _ _ (IntsAre.cons _ _ (IntsAre.cons _ _ (IntsAre.cons _ _ (IntsAre.cons _ _ (IntsAre.cons _ _ (IntsAre.cons _ _ (IntsAre.cons _ _ (IntsAre.cons _ _ IntsAre.nil)))))))))))); (case z => decide)))
    intro D3 us3 h3 F3 N3 l3 hI3
    k_steps
    refine go_on ?_
    refine noth_item (News.isList N3 (.head _)) hI3 hf (fun n t9 hn9 hn8 => ?_) (by with_unfolding_all rfl)
    clear hI3 hI2
    k_steps
    k_dflt (refine hret _ _ _ ?_ (Fr.keep (by assumption)))
    exact ⟨n, _, str_one (Int.toNat_natCast n), hn9⟩)
end Mine

end
section
set_option maxRecDepth 100000
set_option linter.unusedVariables false
set_option maxHeartbeats 400000
namespace Mine
open PySem PySem.W PySem.Calls PySem.Spec PyProof.Rows
/-- the other letter -/
def other (c : Nat) : Nat := 216 - c
/-- a letter's spelling -/
def Spelled (c : Nat) (ws : List Nat) : Prop :=
  ws = [if c = 104 then 13259 else 13271] ∨ ∃ f1 f2, f1 < 12 ∧ f2 < 12 ∧ (ws = [signC c f1, signC (other c) f2] ∨ ∃ n, isNoth n ∧ ws = [signC c f1, n, signC (other c) f2])
theorem div_nat (x k : Nat) : ((x : Int).fdiv (k : Int)) = ((x / k : Nat) : Int) := by
  rw [Int.fdiv_eq_ediv_of_nonneg _ (Int.natCast_nonneg k)]; rfl
theorem mod_nat (x k : Nat) : ((x : Int).fmod (k : Int)) = ((x % k : Nat) : Int) := by
  rw [Int.fmod_eq_emod_of_nonneg _ (Int.natCast_nonneg k)]; rfl
theorem sx_app (l r : List Nat) : Sx l ++ Sx r = Sx (l ++ r) := by
  show (⟨l.toArray ++ r.toArray⟩ : Str) = ⟨(l ++ r).toArray⟩
  rw [List.append_toArray]
theorem str_eq {a b : Str} {t : Tok} (h : a = b) : Value.str a t = Value.str b t := by rw [h]
theorem zq1 (x : Nat) : ((x : Int).fdiv 6).fmod 12 = ((x / 6 % 12 : Nat) : Int) := by rw [show (6 : Int) = ((6 : Nat) : Int) from rfl, div_nat, show (12 : Int) = ((12 : Nat) : Int) from rfl, mod_nat]
theorem zq2 (x : Nat) : (((x : Int).fdiv 6).fdiv 12).fmod 12 = ((x / 6 / 12 % 12 : Nat) : Int) := by rw [show (6 : Int) = ((6 : Nat) : Int) from rfl, div_nat, show (12 : Int) = ((12 : Nat) : Int) from rfl, div_nat, mod_nat]
theorem zq3 (x : Nat) : (((x : Int).fdiv 6).fdiv 144).fmod 27 = ((x / 6 / 144 % 27 : Nat) : Int) := by rw [show (6 : Int) = ((6 : Nat) : Int) from rfl, div_nat, show (144 : Int) = ((144 : Nat) : Int) from rfl, div_nat, show (27 : Int) = ((27 : Nat) : Int) from rfl, mod_nat]
local macro_rules | `(tactic| walk_at "no such step") => `(tactic| (refine halt ?_))
local macro_rules | `(tactic| walk_at "no such step") => `(tactic| (refine halt ?_))
local macro_rules | `(tactic| walk_at "no such step") => `(tactic| (refine halt ?_))
local macro_rules | `(tactic| walk_at "no such step") => `(tactic| (refine halt ?_))
local macro_rules | `(tactic| walk_at "no such step") => `(tactic| (refine halt ?_))
local macro_rules | `(tactic| walk_at "no such step") => `(tactic| (refine halt ?_))
local macro_rules | `(tactic| walk_at "no such step") => `(tactic| (refine halt ?_))
local macro_rules | `(tactic| walk_at "call ref") => `(tactic| (refine halt ?_))
theorem spell1 {prog : Program} {w : World} {p : Program} {loose : List Str} {mean : ExcName → Option Value} {mg mb : Str → Option Value} {g : Heap} {c x : Nat} {t1 t2 : Tok}
    (hc : c = 104 ∨ c = 112) (hx : x < 1000000) :
    Tells prog w (K1 w.params) p loose mean mg mb g (.ref 124) [.str (Sx [c]) t1, .int x t2] [] 2 12 (fun v => ∃ ws t, v = .str (Sx ws) t ∧ Spelled c ws) := by
  w_on
  k_with_none
  w_strict (
    refine (fun (h : PySem.Challenge.rw_re0150_02 = PySem.Challenge.rw_re0150_02 → _) => h rfl) ?_
    k_fill
    intro kk9
    clear kk9
    intro dp un gd cn cs aa ccd cl outer A₀ base h₀ L m s Q E B F X T hk st9 hd hu hret
    refine wpAny_call ?_
    (k_dflt (refine' enter [(Str.ofString "letter", .str (Sx [c]) t1), (Str.ofString "x", .int x t2)] B F X T hk ?k6 ?k7 ?k8 ?k9 ?kB ?_ ?c2 ?c3 ?c4 ?c5; (case k6 => k_is); (case k7 => k_is); (case k8 => (show dp < recursionLimit; omega)); (case k9 => exact BindsTo.of_eq rfl); (case c5 => decide); (case kB => exact locs rfl); (case c2 => exact rfl); (case c3 => exact rfl); (case c4 => exact rfl)))
    intro L' h' F' N' B' X' T'
    k_fold
    dsimp only [fBody, fScope, st14, nthS, PySem.Challenge.pw_re0150_02]
    rcases hc with rfl | rfl
    all_goals k_steps
    · k_dflt (refine hret _ _ _ ?_ (Fr.keep (by assumption)))
      exact ⟨_, _, rfl, .inl rfl⟩
    · refine go_on ?_
      (rename News _ _ _ _ => N1)
      (rename Fr _ _ _ _ => F1)
      rw [zq1 x]
      k_dflt (refine tells_use (sign1 (f := x / 6 % 12) (by decide) (by decide) (Nat.mod_lt _ (by decide))) B' F1 X' N1 T' rfl (fun _ _ e => e) ?_ ?_ ?_)
      · show dp + 1 + 1 < recursionLimit
        omega
      · show un + 3 + 8 < cLine
        omega
      intro v2 h2 tk2 hv2 F2 N2 st2
      obtain ⟨t2', rfl⟩ := hv2
      k_steps
      refine go_on ?_
      (rename News _ _ _ _ => N3)
      (rename Fr _ _ _ _ => F3)
      rw [zq2 x]
      k_dflt (refine tells_use (sign1 (c := 112) (f := x / 6 / 12 % 12) (by decide) (by decide) (Nat.mod_lt _ (by decide))) B' F3 X' N3 T' rfl (fun _ _ e => e) ?_ ?_ ?_)
      · show dp + 1 + 1 < recursionLimit
        omega
      · show un + 3 + 8 < cLine
        omega
      intro v4 h4 tk4 hv4 F4 N4 st4
      obtain ⟨t4, rfl⟩ := hv4
      k_steps
      · k_dflt (refine hret _ _ _ ?_ (Fr.keep (by assumption)))
        exact ⟨_, _, str_eq (sx_app _ _), .inr ⟨_, _, Nat.mod_lt _ (by decide), Nat.mod_lt _ (by decide), .inl rfl⟩⟩
      · refine go_on ?_
        (rename News _ _ _ _ => N5)
        (rename Fr _ _ _ _ => F5)
        rw [zq3 x]
        k_dflt (refine tells_use (noth1 (k := x / 6 / 144 % 27) (Nat.mod_lt _ (by decide))) B' F5 X' N5 T' rfl (fun _ _ e => e) ?_ ?_ ?_)
        · show dp + 1 + 1 < recursionLimit
          omega
        · show un + 3 + 8 < cLine
          omega
        intro v6 h6 tk6 hv6 F6 N6 st6
        obtain ⟨n6, t6, rfl, hn6⟩ := hv6
        k_steps
        k_dflt (refine hret _ _ _ ?_ (Fr.keep (by assumption)))
        exact ⟨_, _, str_eq ((congrArg (· ++ _) (sx_app _ _)).trans (sx_app _ _)), .inr ⟨_, _, Nat.mod_lt _ (by decide), Nat.mod_lt _ (by decide), .inr ⟨n6, hn6, rfl⟩⟩⟩
    · k_dflt (refine hret _ _ _ ?_ (Fr.keep (by assumption)))
      exact ⟨_, _, rfl, .inl rfl⟩
    · refine go_on ?_
      (rename News _ _ _ _ => N1)
      (rename Fr _ _ _ _ => F1)
      rw [zq1 x]
      k_dflt (refine tells_use (sign1 (f := x / 6 % 12) (by decide) (by decide) (Nat.mod_lt _ (by decide))) B' F1 X' N1 T' rfl (fun _ _ e => e) ?_ ?_ ?_)
      · show dp + 1 + 1 < recursionLimit
        omega
      · show un + 3 + 8 < cLine
        omega
      intro v2 h2 tk2 hv2 F2 N2 st2
      obtain ⟨t2', rfl⟩ := hv2
      k_steps
      refine go_on ?_
      (rename News _ _ _ _ => N3)
      (rename Fr _ _ _ _ => F3)
      rw [zq2 x]
      k_dflt (refine tells_use (sign1 (c := 104) (f := x / 6 / 12 % 12) (by decide) (by decide) (Nat.mod_lt _ (by decide))) B' F3 X' N3 T' rfl (fun _ _ e => e) ?_ ?_ ?_)
      · show dp + 1 + 1 < recursionLimit
        omega
      · show un + 3 + 8 < cLine
        omega
      intro v4 h4 tk4 hv4 F4 N4 st4
      obtain ⟨t4, rfl⟩ := hv4
      k_steps
      · k_dflt (refine hret _ _ _ ?_ (Fr.keep (by assumption)))
        exact ⟨_, _, str_eq (sx_app _ _), .inr ⟨_, _, Nat.mod_lt _ (by decide), Nat.mod_lt _ (by decide), .inl rfl⟩⟩
      · refine go_on ?_
        (rename News _ _ _ _ => N5)
        (rename Fr _ _ _ _ => F5)
        rw [zq3 x]
        k_dflt (refine tells_use (noth1 (k := x / 6 / 144 % 27) (Nat.mod_lt _ (by decide))) B' F5 X' N5 T' rfl (fun _ _ e => e) ?_ ?_ ?_)
        · show dp + 1 + 1 < recursionLimit
          omega
        · show un + 3 + 8 < cLine
          omega
        intro v6 h6 tk6 hv6 F6 N6 st6
        obtain ⟨n6, t6, rfl, hn6⟩ := hv6
        k_steps
        k_dflt (refine hret _ _ _ ?_ (Fr.keep (by assumption)))
        exact ⟨_, _, str_eq ((congrArg (· ++ _) (sx_app _ _)).trans (sx_app _ _)), .inr ⟨_, _, Nat.mod_lt _ (by decide), Nat.mod_lt _ (by decide), .inr ⟨n6, hn6, rfl⟩⟩⟩)
end Mine

end
section
set_option maxRecDepth 100000
set_option linter.unusedVariables false
set_option maxHeartbeats 1000000
namespace Mine
open PySem PySem.W PySem.Calls PySem.Spec PyProof.Rows
theorem join_sx : ∀ ls : List (List Nat), PySem.Txt.join (Str.ofString "") (ls.map Sx) = Sx ls.flatten := by
  intro ls
  unfold PySem.Txt.join
  rw [PySem.StrLaws.glued_eq_join, show Str.ofString "" = ⟨#[]⟩ from rfl]
  induction ls with
  | nil => rfl
  | cons l r ih => rw [List.map_cons, PyProof.Rows.join_nil_cons, ih, List.flatten_cons, ← sx_app]
theorem flat_ones (f : Nat → Nat) : ∀ xs : List Nat, (xs.map fun x => [f x]).flatten = xs.map f
  | [] => rfl
  | x :: r => by rw [List.map_cons, List.flatten_cons, flat_ones f r]; rfl
theorem sum_ones (f : Nat → Nat) : ∀ xs : List Nat, (((xs.map fun x => [f x]).map Sx).map (·.length)).sum = xs.length
  | [] => rfl
  | x :: r => by rw [List.map_cons, List.map_cons, List.map_cons, List.sum_cons, sum_ones f r, sx_len, List.length_cons, List.length_cons, List.length_nil]; omega
/-- the letter of a number -/
def letterN (x : Nat) : Nat := if x % 2 = 1 then 112 else 104
def wordL (xs : List Nat) : List Nat := xs.map letterN
theorem strs_take {ys : List Value} {ls : List (List Nat)} {i : Nat} {l : List Nat} {t : Tok} (h : StrsAre ys ((ls.take i).map Sx)) (hl : ls[i]? = some l) : StrsAre (ys ++ [Value.str (Sx l) t]) ((ls.take (i + 1)).map Sx) := by
  rw [List.take_add_one, hl, List.map_append]
  exact kct_snoc h
theorem join_strs {prog : Program} {w : World} {A : Around} {E : Value → Shared → Prop} {s : Shared} {D : Addr} {ys : List Value} {c : Nat} {ls : List (List Nat)} {t : Tok} {Q : Value → Shared → Prop} (hl : s.heap.get? D = some (listOf ys.toArray c)) (hi : StrsAre ys (ls.map Sx)) (hw : ((ls.map Sx).map (·.length)).sum + (ls.map Sx).length ≤ 1048576)
    (h : ∀ t' k, Q (.str (Sx ls.flatten) t') { s with toks := k }) : wpAny (model prog w) A (call (.builtin "str.join") [.str (Str.ofString "") t, .ref D]) Q E s :=
  join_listW ⟨_, hl, rfl, _, rfl⟩ hi (by decide) hw fun t' k => by rw [join_sx]; exact h t' k
theorem join_flat {prog : Program} {w : World} {A : Around} {E : Value → Shared → Prop} {s : Shared} {D : Addr} {ys : List Value} {c : Nat} {ls : List (List Nat)} {l : List Nat} {t : Tok} {Q : Value → Shared → Prop} (hl : s.heap.get? D = some (listOf ys.toArray c)) (hi : StrsAre ys (ls.map Sx)) (hf : ls.flatten = l) (hw : ((ls.map Sx).map (·.length)).sum + (ls.map Sx).length ≤ 1048576)
    (h : ∀ t' k, Q (.str (Sx l) t') { s with toks := k }) : wpAny (model prog w) A (call (.builtin "str.join") [.str (Str.ofString "") t, .ref D]) Q E s := by
  subst hf
  exact join_strs hl hi hw h
theorem strs_full {ys : List Value} {ls : List (List Nat)} {n : Nat} (h : StrsAre ys ((ls.take n).map Sx)) (hn : ls.length ≤ n) : StrsAre ys (ls.map Sx) := by
  rw [List.take_of_length_le hn] at h
  exact h
/-- each letter is spelled -/
inductive Spells : List Nat → List (List Nat) → Prop
  | nil : Spells [] []
  | cons {c : Nat} {l : List Nat} {cs : List Nat} {ls : List (List Nat)} : Spelled c l → Spells cs ls → Spells (c :: cs) (l :: ls)
theorem Spells.snoc {c : Nat} {l : List Nat} (h : Spelled c l) : ∀ {cs : List Nat} {ls : List (List Nat)}, Spells cs ls → Spells (cs ++ [c]) (ls ++ [l])
  | _, _, .nil => .cons h .nil
  | _, _, .cons h' r => .cons h' (Spells.snoc h r)
theorem Spelled.len {c : Nat} {l : List Nat} (h : Spelled c l) : l.length ≤ 3 := by
  rcases h with rfl | ⟨f1, f2, _, _, rfl | ⟨n, _, rfl⟩⟩ <;> simp
theorem Spells.weight : ∀ {cs : List Nat} {ls : List (List Nat)}, Spells cs ls → ((ls.map Sx).map (·.length)).sum + (ls.map Sx).length ≤ 4 * cs.length
  | _, _, .nil => Nat.zero_le _
  | _, _, .cons (c := c) (l := l) (cs := cs) (ls := ls) h r => by
    have h1 := h.len
    have h2 := Spells.weight r
    simp only [List.map_cons, List.sum_cons, List.length_cons, sx_len] at h2 ⊢
    omega
theorem letter_or (x : Nat) : letterN x = 104 ∨ letterN x = 112 := by unfold letterN; split <;> simp
/-- letters h and p alone -/
abbrev HP (l : List Nat) : Prop := ∀ c ∈ l, c = 104 ∨ c = 112
theorem word_or (xs : List Nat) : HP (wordL xs) := by
  intro c hc
  obtain ⟨x, _, rfl⟩ := List.mem_map.mp hc
  exact letter_or x
theorem hp_ascii {l : List Nat} (h : HP l) : (Sx l).cps.all (· < 128) = true := by
  rw [← Array.all_toList]
  refine List.all_eq_true.mpr fun c hc => ?_
  rcases h c hc with h | h <;> rw [h] <;> rfl
/-- the signs that stay, folded -/
noncomputable def foldS (l : List Nat) : List Str := (l.filter fun c : Nat => !b1Ks.contains (c : Int)).map mapV
/-- the word with each letter doubled -/
def dblL (l : List Nat) : List Nat := (l.map fun c => [c, other c]).flatten
theorem foldS_yes {l : List Nat} {i c : Nat} (hi : l[i]? = some c) (h : b1Ks.contains (c : Int) = false) : foldS (l.take (i + 1)) = foldS (l.take i) ++ [mapV c] := by
  unfold foldS
  rw [List.take_add_one, hi, List.filter_append, List.map_append]
  congr 1
  show ([c].filter _).map mapV = _
  rw [List.filter_cons, h]
  rfl
theorem foldS_no {l : List Nat} {i c : Nat} (hi : l[i]? = some c) (h : b1Ks.contains (c : Int) = true) : foldS (l.take (i + 1)) = foldS (l.take i) := by
  unfold foldS
  rw [List.take_add_one, hi, List.filter_append, List.map_append]
  show _ ++ ([c].filter _).map mapV = _
  rw [List.filter_cons, h]
  exact List.append_nil _
theorem foldS_weight : ∀ {l : List Nat}, (∀ c ∈ l, (mapV c).length ≤ 2) → ((foldS l).map (·.length)).sum + (foldS l).length ≤ 3 * l.length
  | [], _ => Nat.zero_le _
  | c :: l, h => by
    have h1 := h c (.head _)
    have h2 := foldS_weight (l := l) fun x hx => h x (.tail _ hx)
    unfold foldS at h2 ⊢
    rw [List.filter_cons]
    split
    · simp only [List.map_cons, List.sum_cons, List.length_cons] at h2 ⊢
      omega
    · simp only [List.length_cons] at h2 ⊢
      omega
/-- the plain texts -/
theorem joinS_nil : PySem.Txt.join (Str.ofString "") [] = Sx [] := rfl
theorem joinS_cons (x : Str) (r : List Str) : PySem.Txt.join (Str.ofString "") (x :: r) = x ++ PySem.Txt.join (Str.ofString "") r := by
  unfold PySem.Txt.join
  rw [PySem.StrLaws.glued_eq_join, PySem.StrLaws.glued_eq_join, show Str.ofString "" = ⟨#[]⟩ from rfl]
  exact PyProof.Rows.join_nil_cons x r
theorem sx_nil_app (x : Str) : Sx [] ++ x = x := Str.ext' (by simp [Str.cps_append])
theorem joinS_append : ∀ (a b : List Str), PySem.Txt.join (Str.ofString "") (a ++ b) = PySem.Txt.join (Str.ofString "") a ++ PySem.Txt.join (Str.ofString "") b
  | [], b => by rw [List.nil_append, joinS_nil, sx_nil_app]
  | x :: r, b => by rw [List.cons_append, joinS_cons, joinS_cons, joinS_append r b, Str.append_assoc]
theorem foldS_append (a b : List Nat) : foldS (a ++ b) = foldS a ++ foldS b := by
  unfold foldS
  rw [List.filter_append, List.map_append]
theorem sign_free_h : ∀ f : Fin 12, b1Ks.contains ((signC 104 f.val : Nat) : Int) = false := by decide +kernel
theorem sign_free_p : ∀ f : Fin 12, b1Ks.contains ((signC 112 f.val : Nat) : Int) = false := by decide +kernel
theorem foldS_one {c : Nat} (h : b1Ks.contains (c : Int) = false) (l : List Nat) : foldS (c :: l) = mapV c :: foldS l := by
  unfold foldS
  rw [List.filter_cons, h]
  rfl
theorem foldS_skip {c : Nat} (h : b1Ks.contains (c : Int) = true) (l : List Nat) : foldS (c :: l) = foldS l := by
  unfold foldS
  rw [List.filter_cons, h]
  rfl
theorem fold_sign {c f : Nat} (hc : c = 104 ∨ c = 112) (hf : f < 12) (l : List Nat) : foldS (signC c f :: l) = Sx [c] :: foldS l := by
  rcases hc with rfl | rfl
  · rw [foldS_one (sign_free_h ⟨f, hf⟩), map_h ⟨f, hf⟩]
  · rw [foldS_one (sign_free_p ⟨f, hf⟩), map_p ⟨f, hf⟩]
theorem other_or {c : Nat} (hc : c = 104 ∨ c = 112) : other c = 104 ∨ other c = 112 := by
  rcases hc with rfl | rfl
  · exact .inr rfl
  · exact .inl rfl
theorem join_two (a b : Nat) : PySem.Txt.join (Str.ofString "") [Sx [a], Sx [b]] = Sx [a, b] := join_sx [[a], [b]]
theorem spelled_join {c : Nat} {l : List Nat} (hc : c = 104 ∨ c = 112) (h : Spelled c l) : PySem.Txt.join (Str.ofString "") (foldS l) = Sx [c, other c] := by
  rcases h with rfl | ⟨f1, f2, h1, h2, rfl | ⟨n, hn, rfl⟩⟩
  · rcases hc with rfl | rfl
    · show PySem.Txt.join _ (foldS [13259]) = _
      rw [foldS_one (by decide), map_hp.1]
      exact join_sx [[104, 112]]
    · show PySem.Txt.join _ (foldS [13271]) = _
      rw [foldS_one (by decide), map_hp.2]
      exact join_sx [[112, 104]]
  · rw [fold_sign hc h1, fold_sign (other_or hc) h2]
    exact join_two _ _
  · rw [fold_sign hc h1, foldS_skip hn, fold_sign (other_or hc) h2]
    exact join_two _ _
theorem spells_join : ∀ {cs : List Nat} {ls : List (List Nat)}, Spells cs ls → HP cs → PySem.Txt.join (Str.ofString "") (foldS ls.flatten) = Sx (dblL cs)
  | _, _, .nil, _ => rfl
  | _, _, .cons (c := c) (l := l) (cs := cs) (ls := ls) h r, hp => by
    rw [List.flatten_cons, foldS_append, joinS_append, spelled_join (hp c (.head _)) h, spells_join r (fun x hx => hp x (.tail _ hx)), sx_app]
    rfl
theorem spells_len : ∀ {cs : List Nat} {ls : List (List Nat)}, Spells cs ls → ls.flatten.length ≤ 3 * cs.length
  | _, _, .nil => Nat.zero_le _
  | _, _, .cons (c := c) (l := l) (cs := cs) (ls := ls) h r => by
    have h1 := h.len
    have h2 := spells_len r
    rw [List.flatten_cons, List.length_append, List.length_cons]
    omega
theorem noth_map : ∀ k : Fin 27, (mapV (b1Ks.getD k.val 0).toNat).length ≤ 2 := by decide +kernel
theorem noth_len2 {n : Nat} (h : isNoth n) : (mapV n).length ≤ 2 := by
  have h1 : (n : Int) ∈ b1Ks := List.contains_iff_mem.mp h
  obtain ⟨k, hk, he⟩ := List.getElem_of_mem h1
  have hk' : k < 27 := hk
  have z := noth_map ⟨k, hk'⟩
  have e2 : b1Ks.getD k 0 = (n : Int) := by rw [List.getD_eq_getElem?_getD, List.getElem?_eq_getElem hk, he]; rfl
  rw [e2, Int.toNat_natCast] at z
  exact z
theorem sign_len {c f : Nat} (hc : c = 104 ∨ c = 112) (hf : f < 12) : (mapV (signC c f)).length ≤ 2 := by
  rcases hc with rfl | rfl
  · rw [map_h ⟨f, hf⟩]; decide
  · rw [map_p ⟨f, hf⟩]; decide
theorem spelled_small {c : Nat} {l : List Nat} (hc : c = 104 ∨ c = 112) (h : Spelled c l) : ∀ x ∈ l, (mapV x).length ≤ 2 := by
  rcases h with rfl | ⟨f1, f2, h1, h2, rfl | ⟨n, hn, rfl⟩⟩
  · intro x hx
    rw [List.mem_singleton.mp hx]
    rcases hc with rfl | rfl
    · show (mapV 13259).length ≤ 2
      rw [map_hp.1]; decide
    · show (mapV 13271).length ≤ 2
      rw [map_hp.2]; decide
  · intro x hx
    simp only [List.mem_cons, List.not_mem_nil, or_false] at hx
    rcases hx with rfl | rfl
    · exact sign_len hc h1
    · exact sign_len (other_or hc) h2
  · intro x hx
    simp only [List.mem_cons, List.not_mem_nil, or_false] at hx
    rcases hx with rfl | rfl | rfl
    · exact sign_len hc h1
    · exact noth_len2 hn
    · exact sign_len (other_or hc) h2
theorem spells_small : ∀ {cs : List Nat} {ls : List (List Nat)}, Spells cs ls → HP cs → ∀ c ∈ ls.flatten, (mapV c).length ≤ 2
  | _, _, .nil, _ => fun c hc => nomatch hc
  | _, _, .cons (c := c) (l := l) (cs := cs) (ls := ls) h r, hp => by
    intro x hx
    rw [List.flatten_cons] at hx
    rcases List.mem_append.mp hx with hx | hx
    · exact spelled_small (hp c (.head _)) h x hx
    · exact spells_small r (fun x hx => hp x (.tail _ hx)) x hx
theorem dbl_or {l : List Nat} (h : HP l) : HP (dblL l) := by
  intro c hc
  obtain ⟨p, hp, hcp⟩ := List.mem_flatten.mp hc
  obtain ⟨x, hx, rfl⟩ := List.mem_map.mp hp
  simp only [List.mem_cons, List.not_mem_nil, or_false] at hcp
  rcases hcp with rfl | rfl
  · exact h _ hx
  · exact other_or (h _ hx)
theorem dbl_len : ∀ l : List Nat, (dblL l).length = 2 * l.length
  | [] => rfl
  | c :: l => by
    have := dbl_len l
    unfold dblL at this ⊢
    rw [List.map_cons, List.flatten_cons, List.length_append, this, List.length_cons, List.length_cons, List.length_cons, List.length_nil]
    omega
/-- the word doubled so many times -/
def dblN : Nat → List Nat → List Nat
  | 0, l => l
  | n + 1, l => dblL (dblN n l)
theorem dblN_len : ∀ (n : Nat) (l : List Nat), (dblN n l).length = 2 ^ n * l.length
  | 0, l => by rw [dblN, Nat.pow_zero, Nat.one_mul]
  | n + 1, l => by rw [dblN, dbl_len, dblN_len n l, Nat.pow_succ]; simp [Nat.mul_comm, Nat.mul_left_comm]
theorem dblN_or {l : List Nat} (h : HP l) : ∀ n, HP (dblN n l)
  | 0 => h
  | n + 1 => dbl_or (dblN_or h n)
/-- the numbers that are drawn -/
theorem fmod_nat_of (k : Int) : ∃ x : Nat, k.fmod (10 ^ Int.toNat 6) = (x : Int) ∧ x < 1000000 := by
  have h0 : (10 : Int) ^ Int.toNat 6 = 1000000 := by decide
  rw [h0, Int.fmod_eq_emod_of_nonneg _ (by decide)]
  have h1 := Int.emod_nonneg k (show (1000000 : Int) ≠ 0 by decide)
  have h2 := Int.emod_lt_of_pos k (show (0 : Int) < 1000000 by decide)
  exact ⟨(k % 1000000).toNat, (Int.toNat_of_nonneg h1).symm, by omega⟩
theorem map_nat_of : ∀ ns : List Int, ∃ xs : List Nat, ns.map (fun k : Int => k.fmod (10 ^ Int.toNat 6)) = xs.map (fun x : Nat => (x : Int)) ∧ xs.length = ns.length ∧ ∀ x ∈ xs, x < 1000000
  | [] => ⟨[], rfl, rfl, fun _ h => nomatch h⟩
  | k :: ns => by
    obtain ⟨x, h1, h2⟩ := fmod_nat_of k
    obtain ⟨xs, h3, h4, h5⟩ := map_nat_of ns
    refine ⟨x :: xs, by rw [List.map_cons, List.map_cons, h1, h3], by rw [List.length_cons, List.length_cons, h4], ?_⟩
    intro y hy
    rcases List.mem_cons.mp hy with rfl | hy
    · exact h2
    · exact h5 y hy
def rest8 : List Nat := [2, 5, 4, 152, 22606, 0, 6, 2]
theorem drawn_of (ns : List Int) : ∃ xs : List Nat, (List.map (fun k' : Int => k'.fmod (10 ^ Int.toNat 6)) (List.take 8 ns) ++ List.drop (((List.map (fun k' : Int => k'.fmod (10 ^ Int.toNat 6)) (List.take 8 ns)).length : Nat) : Int).toNat [2, 5, 4, 152, 22606, 0, 6, 2]) = xs.map (fun x : Nat => (x : Int)) ∧ xs.length = 8 ∧ ∀ x ∈ xs, x < 1000000 := by
  obtain ⟨xs, h1, h2, h3⟩ := map_nat_of (ns.take 8)
  have hl : xs.length ≤ 8 := by rw [h2, List.length_take]; omega
  refine ⟨xs ++ rest8.drop xs.length, ?_, ?_, ?_⟩
  · rw [Int.toNat_natCast, List.length_map, ← h2, h1, List.map_append, List.map_drop]
    rfl
  · rw [List.length_append, List.length_drop, show rest8.length = 8 from rfl]
    omega
  · intro x hx
    rcases List.mem_append.mp hx with hx | hx
    · exact h3 x hx
    · have := List.mem_of_mem_drop hx
      simp only [rest8, List.mem_cons, List.not_mem_nil, or_false] at this
      omega
/-- the cells of the law's names -/
abbrev lawCl (L : Addr) : List (Str × Addr) := [(Str.ofString "move", L + 1 + 1 + 1), (Str.ofString "tails", L + 1 + 1), (Str.ofString "heads", L + 1)]
end Mine

end
section
set_option maxRecDepth 100000
set_option linter.unusedVariables false
set_option maxHeartbeats 1000000
namespace Mine
open PySem PySem.W PySem.Calls PySem.Spec PyProof.Rows
section lawA
local macro_rules | `(tactic| walk_at "no such step") => `(tactic| (refine halt ?_))
local macro_rules | `(tactic| walk_at "no such step") => `(tactic| (refine halt ?_))
local macro_rules | `(tactic| walk_at "no such step") => `(tactic| (refine halt ?_))
local macro_rules | `(tactic| walk_at "no such step") => `(tactic| (refine halt ?_))
local macro_rules | `(tactic| walk_at "no such step") => `(tactic| (refine halt ?_))
local macro_rules | `(tactic| walk_at "no such step") => `(tactic| (refine halt ?_))
local macro_rules | `(tactic| walk_at "no such step") => `(tactic| (refine halt ?_))
local macro_rules | `(tactic| walk_at "subscriptTail Name Slice ref ref") => `(tactic| ((with_reducible show wpAny _ _ (subscriptTail (PySem.Expr.Name (Str.ofString "rest") _) _ _ _) _ _ _); refine halt ?_))
local macro_rules | `(tactic| walk_at "execs cons") => `(tactic| ((with_reducible show wpAny _ _ (execs (PySem.Stmt.Assign [PySem.Expr.Name (Str.ofString "times") _] _ _ :: _) _) _ _ _); refine halt ?_))
theorem lawA {prog : Program} {w : World} {p : Program} {loose : List Str} {mean : ExcName → Option Value} {mg mb : Str → Option Value} {dp un : Nat} {gd : Option (List Code)} {fa : Addr} {cd : Value} {base h₀ : Heap} {L a : Addr} {m : Str → Option Value} {s : Shared} {vs : List Value} {ns : List Int} {o1 o2 o3 : Obj} {Q : Flow → Shared → Prop} {E : Value → Shared → Prop}
    (B : Below callerA base [] h₀) (F : Fr h₀ L s.heap m)
    (X : (K1 w.params).In h₀) (T : Top p loose mean mg mb h₀) (N : News h₀ L s.heap [(L + 1 + 1 + 1, o3), (L + 1 + 1, o2), (L + 1, o1), (126, tabObj #[])]) (l1 : 126 < L)
    (hm : m (Str.ofString "script") = some (.ref a)) (hL : h₀.IsList a vs.toArray) (hI : IntsAre vs ns) (hlen : ns.length ≤ 63) (hd : dp + 10 < recursionLimit) (hu : un + 100 < cLine)
    (next : ∀ h' tk' m' D vs' c (xs : List Nat), Fr h₀ L h' m' → News h₀ L h' [(D, listOf vs'.toArray c), (L + 1 + 1 + 1, o3), (L + 1 + 1, o2), (L + 1, o1), (126, tabObj #[])] → m' (Str.ofString "script") = some (.ref a) → m' (Str.ofString "drawn") = some (.ref D) → IntsAre vs' (xs.map fun x : Nat => (x : Int)) → xs.length = 8 → (∀ x ∈ xs, x < 1000000) →
      wpAny (model prog w) (ktrTop dp un gd (Str.ofString "law") (fScope st16) L fa cd (lawCl L) []) (execs ((fBody st16).drop 3) (envX (Str.ofString "law") (fScope st16) L fa cd (lawCl L))) Q E { s with heap := h', toks := tk' }) :
    wpAny (model prog w) (ktrTop dp un gd (Str.ofString "law") (fScope st16) L fa cd (lawCl L) []) (execs (fBody st16) (envX (Str.ofString "law") (fScope st16) L fa cd (lawCl L))) Q E s := by
  w_on
  k_with_none
  w_strict (
    revert B F X T N l1 hm hL hI hlen hd hu next
    refine (fun (h : PySem.Challenge.rw_re0150_02 = PySem.Challenge.rw_re0150_02 → _) => h rfl) ?_
    k_fill
    intro kk9
    clear kk9
    intro B F₀ X T N l1 hm hL hI hlen hd hu next
    have F := fr_know [(Str.ofString "script", .ref a)] (by intro q hq; rcases List.mem_cons.mp hq with rfl | hq; exact hm; cases hq) F₀
    clear F₀
    dsimp only [fBody, fScope, st16, nthS, PySem.Challenge.pw_re0150_02, lawCl]
    k_steps
    refine go_on ?_
    (rename News _ _ _ _ => N1)
    (rename Fr _ _ _ _ => F1)
    (rename IntsAre _ (List.map _ _) => hI1)
    k_dflt (refine' kmk_slice_ints (ns := [2, 5, 4, 152, 22606, 0, 6, 2]) F1 N1 ?y1 ?y2 ?y3 ?y4 (kmk_from ?y5 ?y6) rfl ?_ ?y7 ?y8 ?y9; (case y1 => exact News.isList N1 (.tail _ (.tail _ (.head _)))); (case y2 => kmk_part); (case y3 => kmk_part); (case y4 => l_ints); (case y5 => l_ints); (case y6 => exact Int.natCast_nonneg _); (case y7 => with_unfolding_all rfl); (case y8 => kmk_pure); (case y9 => exact Nat.le_of_ble_eq_true rfl))
    intro D2 ws2 h2 F2 N2 l2 hI2 hC2 hL2
    clear hC2 hL2
    k_steps
    refine go_on ?_
    (rename News _ _ _ _ => N3)
    (rename Fr _ _ _ _ => F3)
    (rename IntsAre _ (List.map _ _ ++ List.drop _ _) => hI3)
    obtain ⟨xs, hx1, hx2, hx3⟩ := drawn_of ns
    rw [hx1] at hI3
    k_dflt (exact next _ _ _ _ _ _ xs F3 (news_sub N3 (by intro q hq; rcases List.mem_cons.mp hq with rfl | hq; (k_mem); exact .tail _ (.tail _ (.tail _ (.tail _ (.tail _ hq)))))) rfl rfl hI3 hx2 hx3))
end lawA
end Mine

end
section
set_option maxRecDepth 100000
set_option linter.unusedVariables false
set_option maxHeartbeats 1000000
namespace Mine
open PySem PySem.W PySem.Calls PySem.Spec PyProof.Rows
section lawB
theorem times_of (S : Int) : ∃ t : Nat, 1 + S.fmod 4 = (t : Int) ∧ 1 ≤ t ∧ t ≤ 4 := by
  rw [Int.fmod_eq_emod_of_nonneg _ (by decide)]
  exact ⟨(1 + S % 4).toNat, by omega, by omega, by omega⟩
local macro_rules | `(tactic| walk_at "no such step") => `(tactic| (refine halt ?_))
local macro_rules | `(tactic| walk_at "no such step") => `(tactic| (refine halt ?_))
local macro_rules | `(tactic| walk_at "no such step") => `(tactic| (refine halt ?_))
local macro_rules | `(tactic| walk_at "no such step") => `(tactic| (refine halt ?_))
local macro_rules | `(tactic| walk_at "no such step") => `(tactic| (refine halt ?_))
local macro_rules | `(tactic| walk_at "no such step") => `(tactic| (refine halt ?_))
local macro_rules | `(tactic| walk_at "no such step") => `(tactic| (refine halt ?_))
local macro_rules | `(tactic| walk_at "no such step") => `(tactic| (refine halt ?_))
local macro_rules | `(tactic| walk_at "no such step") => `(tactic| (refine halt ?_))
local macro_rules | `(tactic| walk_at "execs cons") => `(tactic| ((with_reducible show wpAny _ _ (execs (PySem.Stmt.Assign [PySem.Expr.Name (Str.ofString "word") _] _ _ :: _) _) _ _ _); refine halt ?_))
theorem lawB {prog : Program} {w : World} {p : Program} {loose : List Str} {mean : ExcName → Option Value} {mg mb : Str → Option Value} {dp un : Nat} {gd : Option (List Code)} {fa : Addr} {cd : Value} {base h₀ : Heap} {L a D : Addr} {m : Str → Option Value} {s : Shared} {vs : List Value} {c : Nat} {xs : List Nat} {o1 o2 o3 : Obj} {Q : Flow → Shared → Prop} {E : Value → Shared → Prop}
    (B : Below callerA base [] h₀) (F : Fr h₀ L s.heap m)
    (X : (K1 w.params).In h₀) (T : Top p loose mean mg mb h₀) (N : News h₀ L s.heap [(D, listOf vs.toArray c), (L + 1 + 1 + 1, o3), (L + 1 + 1, o2), (L + 1, o1), (126, tabObj #[])]) (l1 : 126 < L)
    (hm : m (Str.ofString "script") = some (.ref a)) (hm2 : m (Str.ofString "drawn") = some (.ref D)) (hI : IntsAre vs (xs.map fun x : Nat => (x : Int))) (hlen : xs.length = 8) (hd : dp + 10 < recursionLimit) (hu : un + 100 < cLine)
    (next : ∀ h' tk' m' (t : Nat) tt, Fr h₀ L h' m' → News h₀ L h' [(D, listOf vs.toArray c), (L + 1 + 1 + 1, o3), (L + 1 + 1, o2), (L + 1, o1), (126, tabObj #[])] → m' (Str.ofString "script") = some (.ref a) → m' (Str.ofString "drawn") = some (.ref D) → m' (Str.ofString "times") = some (.int (t : Int) tt) → 1 ≤ t → t ≤ 4 →
      wpAny (model prog w) (ktrTop dp un gd (Str.ofString "law") (fScope st16) L fa cd (lawCl L) []) (execs ((fBody st16).drop 4) (envX (Str.ofString "law") (fScope st16) L fa cd (lawCl L))) Q E { s with heap := h', toks := tk' }) :
    wpAny (model prog w) (ktrTop dp un gd (Str.ofString "law") (fScope st16) L fa cd (lawCl L) []) (execs ((fBody st16).drop 3) (envX (Str.ofString "law") (fScope st16) L fa cd (lawCl L))) Q E s := by
  w_on
  k_with_none
  w_strict (
    revert B F X T N l1 hm hm2 hI hlen hd hu next
    refine (fun (h : PySem.Challenge.rw_re0150_02 = PySem.Challenge.rw_re0150_02 → _) => h rfl) ?_
    k_fill
    intro kk9
    clear kk9
    intro B F₀ X T N l1 hm hm2 hI hlen hd hu next
    have F := fr_know [(Str.ofString "script", .ref a), (Str.ofString "drawn", .ref D)] (by intro q hq; rcases List.mem_cons.mp hq with rfl | hq; exact hm; rcases List.mem_cons.mp hq with rfl | hq; exact hm2; cases hq) F₀
    clear F₀
    dsimp only [fBody, fScope, st16, nthS, PySem.Challenge.pw_re0150_02, lawCl, List.drop]
    k_steps
    refine go_on ?_
    (rename News _ _ _ _ => N3)
    (rename Fr _ _ _ _ => F3)
    obtain ⟨t, ht, h1, h2⟩ := times_of (List.map (fun x : Nat => (x : Int)) xs).sum
    k_dflt (exact next _ _ _ t _ F3 N3 rfl rfl (congrArg (fun k => some (Value.int k _)) ht) h1 h2))
end lawB
end Mine

end
section
set_option maxRecDepth 100000
set_option linter.unusedVariables false
set_option maxHeartbeats 1000000
namespace Mine
open PySem PySem.W PySem.Calls PySem.Spec PyProof.Rows
section lawC
theorem odd_of {x : Nat} (h : (x : Int).fmod 2 = 1) : letterN x = 112 := by
  rw [Int.fmod_eq_emod_of_nonneg _ (by decide)] at h
  exact if_pos (by omega)
theorem even_of {x : Nat} (h : (x : Int).fmod 2 ≠ 1) : letterN x = 104 := by
  rw [Int.fmod_eq_emod_of_nonneg _ (by decide)] at h
  exact if_neg (by omega)
theorem front_of {t : Nat} (h1 : 1 ≤ t) (h2 : t ≤ 4) : (Int.fdiv 16 (2 ^ Int.toNat (t : Int))).toNat = 16 / 2 ^ t ∧ 0 ≤ Int.fdiv 16 (2 ^ Int.toNat (t : Int)) := by
  have h : t = 1 ∨ t = 2 ∨ t = 3 ∨ t = 4 := by omega
  rcases h with rfl | rfl | rfl | rfl <;> decide
local macro_rules | `(tactic| walk_at "no such step") => `(tactic| (refine halt ?_))
local macro_rules | `(tactic| walk_at "no such step") => `(tactic| (refine halt ?_))
local macro_rules | `(tactic| walk_at "no such step") => `(tactic| (refine halt ?_))
local macro_rules | `(tactic| walk_at "no such step") => `(tactic| (refine halt ?_))
local macro_rules | `(tactic| walk_at "no such step") => `(tactic| (refine halt ?_))
local macro_rules | `(tactic| walk_at "no such step") => `(tactic| (refine halt ?_))
local macro_rules | `(tactic| walk_at "eval ListComp") => `(tactic| (refine halt ?_))
local macro_rules | `(tactic| walk_at "CompSrc") => `(tactic| (refine halt ?_))
local macro_rules | `(tactic| walk_at "subscriptTail Name Slice ref ref") => `(tactic| (refine halt ?_))
local macro_rules | `(tactic| walk_at "call builtin:str.join") => `(tactic| (refine halt ?_))
local macro_rules | `(tactic| walk_at "execs cons") => `(tactic| ((with_reducible show wpAny _ _ (execs (PySem.Stmt.For _ _ _ _ _ :: _) _) _ _ _); refine halt ?_))
theorem lawC {prog : Program} {w : World} {p : Program} {loose : List Str} {mean : ExcName → Option Value} {mg mb : Str → Option Value} {dp un : Nat} {gd : Option (List Code)} {fa : Addr} {cd : Value} {base h₀ : Heap} {L a D : Addr} {m : Str → Option Value} {s : Shared} {vs : List Value} {c t : Nat} {tt : Tok} {xs : List Nat} {o1 o2 o3 : Obj} {Q : Flow → Shared → Prop} {E : Value → Shared → Prop}
    (B : Below callerA base [] h₀) (F : Fr h₀ L s.heap m)
    (X : (K1 w.params).In h₀) (T : Top p loose mean mg mb h₀) (N : News h₀ L s.heap [(D, listOf vs.toArray c), (L + 1 + 1 + 1, o3), (L + 1 + 1, o2), (L + 1, o1), (126, tabObj #[])]) (l1 : 126 < L)
    (hm : m (Str.ofString "script") = some (.ref a)) (hm2 : m (Str.ofString "drawn") = some (.ref D)) (hm3 : m (Str.ofString "times") = some (.int (t : Int) tt)) (ht1 : 1 ≤ t) (ht2 : t ≤ 4) (hI : IntsAre vs (xs.map fun x : Nat => (x : Int))) (hlen : xs.length = 8) (hd : dp + 10 < recursionLimit) (hu : un + 100 < cLine)
    (next : ∀ h' tk' m' tw tx, Fr h₀ L h' m' → News h₀ L h' [(D, listOf vs.toArray c), (L + 1 + 1 + 1, o3), (L + 1 + 1, o2), (L + 1, o1), (126, tabObj #[])] → m' (Str.ofString "script") = some (.ref a) → m' (Str.ofString "drawn") = some (.ref D) → m' (Str.ofString "times") = some (.int (t : Int) tt) →
      m' (Str.ofString "word") = some (.str (Sx (wordL (xs.take (16 / 2 ^ t)))) tw) → m' (Str.ofString "text") = some (.str (Sx (wordL (xs.take (16 / 2 ^ t)))) tx) →
      wpAny (model prog w) (ktrTop dp un gd (Str.ofString "law") (fScope st16) L fa cd (lawCl L) []) (execs ((fBody st16).drop 6) (envX (Str.ofString "law") (fScope st16) L fa cd (lawCl L))) Q E { s with heap := h', toks := tk' }) :
    wpAny (model prog w) (ktrTop dp un gd (Str.ofString "law") (fScope st16) L fa cd (lawCl L) []) (execs ((fBody st16).drop 4) (envX (Str.ofString "law") (fScope st16) L fa cd (lawCl L))) Q E s := by
  w_on
  k_with_none
  w_strict (
    revert B F X T N l1 hm hm2 hm3 ht1 ht2 hI hlen hd hu next
    refine (fun (h : PySem.Challenge.rw_re0150_02 = PySem.Challenge.rw_re0150_02 → _) => h rfl) ?_
    k_fill
    intro kk9
    clear kk9
    intro B F₀ X T N l1 hm hm2 hm3 ht1 ht2 hI hlen hd hu next
    have F := fr_know [(Str.ofString "script", .ref a), (Str.ofString "drawn", .ref D), (Str.ofString "times", .int (t : Int) tt)] (by intro q hq; rcases List.mem_cons.mp hq with rfl | hq; exact hm; rcases List.mem_cons.mp hq with rfl | hq; exact hm2; rcases List.mem_cons.mp hq with rfl | hq; exact hm3; cases hq) F₀
    clear F₀
    dsimp only [fBody, fScope, st16, nthS, PySem.Challenge.pw_re0150_02, lawCl, List.drop]
    have hvl : vs.length = xs.length := by have := hI.length; rw [List.length_map] at this; exact this
    k_steps
    refine go_on ?_
    (try dsimp only)
    k_dflt (refine LCg.ListComp_U (F₀ := F) (by with_unfolding_all rfl) (by decide) (by rfl) (by decide) (by rfl) ?_)
    k_steps
    refine go_on ?_
    k_dflt (refine' kmk_slice_ints (ns := xs.map fun x : Nat => (x : Int)) F N ?y1 ?y2 ?y3 hI (kmk_upto hI ?y6) rfl ?_ ?y7 ?y8 ?y9; (case y1 => exact News.isList N (.head _)); (case y2 => kmk_part); (case y3 => kmk_part); (case y6 => exact (front_of ht1 ht2).2); (case y7 => with_unfolding_all rfl); (case y8 => kmk_pure); (case y9 => (rw [List.size_toArray, hvl, hlen]; exact Nat.le_of_ble_eq_true rfl)))
    intro D2 ws2 h2 F2 N2 l2 hI2 hC2 hL2
    clear hC2 hL2
    (try dsimp only)
    rw [(front_of ht1 ht2).1, ← List.map_take] at hI2
    generalize hys : xs.take (16 / 2 ^ t) = ys9 at hI2 next ⊢
    k_steps
    refine go_on ?_
    have hyl : ys9.length ≤ 8 := by rw [← hys, List.length_take]; omega
    have hvl2 : ws2.length = ys9.length := by have := hI2.length; rw [List.length_map] at this; exact this
    (try dsimp only)
    k_dflt (refine LCg.CompSrc.ledger rfl F2 N2 (.head _) ?_ (fun g9 => restU (S := LCg.SrcAt h₀ D2 ws2.toArray) ?_ (n := ws2.toArray.size) (R := fun i ys => StrsAre ys (((ys9.map fun x => [letterN x]).take i).map Sx)) ?_ ?_ _ 0 [] (Nat.zero_add _) .nil))
    · rw [List.size_toArray, hvl2]; exact Nat.le_trans hyl (Nat.le_of_ble_eq_true rfl)
    · exact .inr ⟨_, .head _, rfl, _, rfl⟩
    · intro i v C oC D3 m2 ys h tk E' hv hR hC hx F9 N9
      obtain ⟨k, tk9, hk, hk2⟩ := IntsAre.at hI2 i v (by simpa using hv)
      subst hk
      rw [List.getElem?_map] at hk2
      obtain ⟨x, hx2, hx3⟩ := Option.map_eq_some_iff.mp hk2
      subst hx3
      have hli : ∀ d, letterN x = d → (ys9.map fun x => [letterN x])[i]? = some [d] := fun d hd => by rw [List.getElem?_map, hx2, ← hd]; rfl
      clear hk2
      (try dsimp only)
      k_steps
      · (rename Int.fmod _ _ = _ => h1)
        have h2 := hli _ (odd_of h1)
        exact ⟨_, _, rfl, fun _ _ e => e, strs_take (l := [112]) hR h2⟩
      · (rename Int.fmod _ _ ≠ _ => h1)
        have h2 := hli _ (even_of h1)
        exact ⟨_, _, rfl, fun _ _ e => e, strs_take (l := [104]) hR h2⟩
    · intro ys hR
      intro D4 h2 tk2 F2 N2 o2
      k_steps
      refine go_on ?_
      have hR9 := strs_full hR (by rw [List.length_map, List.size_toArray, hvl2]; exact Nat.le_refl _)
      k_dflt (refine join_flat (N2 _ (.head _)).1 hR9 (flat_ones letterN ys9) ?_ fun t9 k9 => ?_)
      · rw [sum_ones, List.length_map, List.length_map]
        exact Nat.le_trans (Nat.add_le_add hyl hyl) (by decide)
      k_steps
      refine go_on ?_
      (rename Fr _ _ _ _ => F7)
      (rename News _ _ _ _ => N7)
      k_dflt (exact next _ _ _ _ _ F7 (fun q hq => N7 q (.tail _ (.tail _ hq))) rfl rfl rfl rfl rfl))
end lawC
end Mine

end
section
set_option maxRecDepth 100000
set_option linter.unusedVariables false
set_option maxHeartbeats 1000000
namespace Mine
open PySem PySem.W PySem.Calls PySem.Spec PyProof.Rows
section lawD
theorem dbl_small {t i : Nat} {l : List Nat} (h1 : 1 ≤ t) (h2 : t ≤ 4) (hl : l.length = 16 / 2 ^ t) (hi : i < t) : (dblN i l).length ≤ 8 := by
  rw [dblN_len, hl]
  have h : t = 1 ∨ t = 2 ∨ t = 3 ∨ t = 4 := by omega
  have h' : i = 0 ∨ i = 1 ∨ i = 2 ∨ i = 3 := by omega
  rcases h with rfl | rfl | rfl | rfl <;> rcases h' with rfl | rfl | rfl | rfl <;> first | decide | omega
theorem spells_full {l : List Nat} {ls : List (List Nat)} (h : Spells (l.take (Sx l).cps.size) ls) : Spells l ls := by
  rw [show (Sx l).cps.size = l.length from rfl, List.take_length] at h
  exact h
theorem strs_fold {l : List Nat} {ys : List Value} (h : StrsAre ys (foldS (l.take (Sx l).cps.size))) : StrsAre ys (foldS l) := by
  rw [show (Sx l).cps.size = l.length from rfl, List.take_length] at h
  exact h
theorem str_to {x y : Str} {t : Tok} (h : x = y) : (some (Value.str x t)) = some (Value.str y t) := by rw [h]
local macro_rules | `(tactic| walk_at "no such step") => `(tactic| (refine halt ?_))
local macro_rules | `(tactic| walk_at "no such step") => `(tactic| (refine halt ?_))
local macro_rules | `(tactic| walk_at "no such step") => `(tactic| (refine halt ?_))
local macro_rules | `(tactic| walk_at "no such step") => `(tactic| (refine halt ?_))
local macro_rules | `(tactic| walk_at "no such step") => `(tactic| (refine halt ?_))
local macro_rules | `(tactic| walk_at "eval ListComp") => `(tactic| (refine halt ?_))
local macro_rules | `(tactic| walk_at "pyIter ref") => `(tactic| (refine halt ?_))
local macro_rules | `(tactic| walk_at "call type:zip") => `(tactic| (refine halt ?_))
local macro_rules | `(tactic| walk_at "call ref") => `(tactic| (refine halt ?_))
local macro_rules | `(tactic| walk_at "call builtin:str.join") => `(tactic| (refine halt ?_))
local macro_rules | `(tactic| walk_at "InvEndG") => `(tactic| (refine halt ?_))
local macro_rules | `(tactic| walk_at "execs cons") => `(tactic| ((with_reducible show wpAny _ _ (execs (PySem.Stmt.Assign [PySem.Expr.Name (Str.ofString "heads") _] _ _ :: _) _) _ _ _); refine halt ?_))
theorem lawD {prog : Program} {w : World} {p : Program} {loose : List Str} {mean : ExcName → Option Value} {mg mb : Str → Option Value} {dp un : Nat} {gd : Option (List Code)} {fa : Addr} {cd : Value} {base h₀ : Heap} {L a D : Addr} {m : Str → Option Value} {s : Shared} {vs : List Value} {c t : Nat} {tt tw tx : Tok} {xs wl : List Nat} {o1 o2 o3 : Obj} {Q : Flow → Shared → Prop} {E : Value → Shared → Prop}
    (B : Below callerA base [] h₀) (F : Fr h₀ L s.heap m)
    (X : (K1 w.params).In h₀) (T : Top p loose mean mg mb h₀) (N : News h₀ L s.heap [(D, listOf vs.toArray c), (L + 1 + 1 + 1, o3), (L + 1 + 1, o2), (L + 1, o1), (126, tabObj #[])]) (l1 : 126 < L)
    (hm : m (Str.ofString "script") = some (.ref a)) (hm2 : m (Str.ofString "drawn") = some (.ref D)) (hm3 : m (Str.ofString "times") = some (.int (t : Int) tt)) (hm4 : m (Str.ofString "word") = some (.str (Sx wl) tw)) (hm5 : m (Str.ofString "text") = some (.str (Sx wl) tx)) (ht1 : 1 ≤ t) (ht2 : t ≤ 4)
    (hI : IntsAre vs (xs.map fun x : Nat => (x : Int))) (hlen : xs.length = 8) (hxs : ∀ x ∈ xs, x < 1000000) (hw : HP wl) (hwl : wl.length = 16 / 2 ^ t) (hd : dp + 10 < recursionLimit) (hu : un + 100 < cLine)
    (hE : PassesOwn (model prog w) (ktrTop dp un gd (Str.ofString "law") (fScope st16) L fa cd (lawCl L) []) (envX (Str.ofString "law") (fScope st16) L fa cd (lawCl L)) E)
    (next : ∀ h' tk' m' tx, Fr h₀ L h' m' → News h₀ L h' [(D, listOf vs.toArray c), (L + 1 + 1 + 1, o3), (L + 1 + 1, o2), (L + 1, o1), (126, tabObj #[])] → m' (Str.ofString "script") = some (.ref a) → m' (Str.ofString "times") = some (.int (t : Int) tt) →
      m' (Str.ofString "word") = some (.str (Sx wl) tw) → m' (Str.ofString "text") = some (.str (Sx (dblN t wl)) tx) →
      wpAny (model prog w) (ktrTop dp un gd (Str.ofString "law") (fScope st16) L fa cd (lawCl L) []) (execs ((fBody st16).drop 7) (envX (Str.ofString "law") (fScope st16) L fa cd (lawCl L))) Q E { s with heap := h', toks := tk' }) :
    wpAny (model prog w) (ktrTop dp un gd (Str.ofString "law") (fScope st16) L fa cd (lawCl L) []) (execs ((fBody st16).drop 6) (envX (Str.ofString "law") (fScope st16) L fa cd (lawCl L))) Q E s := by
  w_on
  k_with_none
  w_strict (
    revert B F X T N l1 hm hm2 hm3 hm4 hm5 ht1 ht2 hI hlen hxs hw hwl hd hu hE next
    refine (fun (h : PySem.Challenge.rw_re0150_02 = PySem.Challenge.rw_re0150_02 → _) => h rfl) ?_
    k_fill
    intro kk9
    clear kk9
    intro B F₀ X T N l1 hm hm2 hm3 hm4 hm5 ht1 ht2 hI hlen hxs hw hwl hd hu hE next
    have F := fr_know [(Str.ofString "script", .ref a), (Str.ofString "drawn", .ref D), (Str.ofString "times", .int (t : Int) tt), (Str.ofString "word", .str (Sx wl) tw), (Str.ofString "text", .str (Sx wl) tx)] (by intro q hq; rcases List.mem_cons.mp hq with rfl | hq; exact hm; rcases List.mem_cons.mp hq with rfl | hq; exact hm2; rcases List.mem_cons.mp hq with rfl | hq; exact hm3; rcases List.mem_cons.mp hq with rfl | hq; exact hm4; rcases List.mem_cons.mp hq with rfl | hq; exact hm5; cases hq) F₀
    clear F₀
    dsimp only [fBody, fScope, st16, nthS, PySem.Challenge.pw_re0150_02, lawCl, List.drop]
    have hvl : vs.length = xs.length := by have := hI.length; rw [List.length_map] at this; exact this
    k_steps
    refine go_on ?_
    (rename News _ _ _ _ => N1)
    (rename Fr _ _ _ _ => F1)
    (rename IsRange _ _ _ _ _ _ _ _ => rg2)
    k_dflt (refine' range_for (fun i m nx => m (Str.ofString "script") = some (.ref a) ∧ m (Str.ofString "drawn") = some (.ref D) ∧ m (Str.ofString "times") = some (.int (t : Int) tt) ∧ m (Str.ofString "word") = some (.str (Sx wl) tw) ∧ (∃ tx, m (Str.ofString "text") = some (.str (Sx (dblN i wl)) tx)) ∧ nx = [(D, listOf vs.toArray c), (L + 1 + 1 + 1, o3), (L + 1 + 1, o2), (L + 1, o1), (126, tabObj #[])]) rfl rg2 ?sm (rangeSize_nat _ _) F1 N1 ?hj ?turn ?done; (case sm => exact small_one (by omega) (by omega) (by omega) (by omega)); (case hj => exact ⟨rfl, rfl, rfl, rfl, ⟨_, rfl⟩, rfl⟩))
    · intro i9 t9 m9 nx9 h9 tk9 own9 hi9 hit9 hoff9 hJ9 F9 N9
      obtain ⟨g1, g2, g3, g4, ⟨tx9, g5⟩, rfl⟩ := hJ9
      have F8 := fr_turn [(Str.ofString "script", .ref a), (Str.ofString "drawn", .ref D), (Str.ofString "times", .int (t : Int) tt), (Str.ofString "word", .str (Sx wl) tw), (Str.ofString "text", .str (Sx (dblN i9 wl)) tx9)] (by intro q hq; rcases List.mem_cons.mp hq with rfl | hq; exact g1; rcases List.mem_cons.mp hq with rfl | hq; exact g2; rcases List.mem_cons.mp hq with rfl | hq; exact g3; rcases List.mem_cons.mp hq with rfl | hq; exact g4; rcases List.mem_cons.mp hq with rfl | hq; exact g5; cases hq) F9
      clear F9
      have hsm := dbl_small ht1 ht2 hwl hi9
      have hp9 := dblN_or hw i9
      simp only [List.cons_append, List.nil_append] at N9
      (rename IntsAre _ _ => hI)
      have hts : i9 < t := by omega
      (try dsimp only)
      k_steps
      refine go_on ?_
      (try dsimp only)
      k_dflt (refine ListComp_Z (P := fun i v0 v1 => (∃ c u, (Sx (dblN i9 wl)).cps[i]? = some c ∧ v0 = .str ⟨#[c]⟩ u) ∧ vs[i]? = some v1) (R := fun i ys => ∃ ls, Spells ((dblN i9 wl).take i) ls ∧ StrsAre ys (ls.map Sx)) (n := (Sx (dblN i9 wl)).cps.size) F8 N9 rfl (by with_unfolding_all rfl) (by decide) (by rfl) (by decide) (by rfl) (by rfl) (by decide) ?_ ⟨[], .nil, .nil⟩ ?_ ?_ ?_)
      · show (dblN i9 wl).length ≤ sizeLine
        exact Nat.le_trans hsm (by decide)
      · intro i v0 v1 C oC D2 m2 ys h tk E' hi hP hR hC hx1 hx2 F9 N9
        obtain ⟨⟨c9, u9, hc9, rfl⟩, hv⟩ := hP
        obtain ⟨ls, hsp, hst⟩ := hR
        obtain ⟨k, tk3, hk, hk2⟩ := IntsAre.at hI i v1 hv
        subst hk
        rw [List.getElem?_map] at hk2
        obtain ⟨x, hxi, hxk⟩ := Option.map_eq_some_iff.mp hk2
        subst hxk
        have hcx : (dblN i9 wl)[i]? = some c9 := by rw [← hc9]; exact (List.getElem?_toArray ..).symm
        have hco := hp9 c9 (List.mem_of_getElem? hcx)
        have hxm : x < 1000000 := hxs x (List.mem_of_getElem? hxi)
        have htk : List.take (i + 1) (dblN i9 wl) = List.take i (dblN i9 wl) ++ [c9] := by rw [List.take_add_one, hcx]; rfl
        clear hk2 hv hc9
        (try dsimp only)
        k_steps
        refine go_on ?_
        (rename Fr _ _ _ _ => F1)
        (rename News _ _ _ _ => N1)
        k_dflt (refine tells_use (spell1 (c := c9) (x := x) (t1 := u9) (t2 := tk3) hco hxm) B F1 X N1 T rfl (fun _ _ e => e) ?_ ?_ ?_)
        · omega
        · omega
        intro v h' tk' hv F2 N2 st2
        obtain ⟨ws, t3, rfl, hws⟩ := hv
        (try dsimp only)
        k_unfold
        have z9 := hsp.snoc hws
        rw [← htk] at z9
        have z8 : StrsAre (ys ++ [Value.str (Sx ws) t3]) ((ls ++ [ws]).map Sx) := by rw [List.map_append]; exact kct_snoc hst
        exact ⟨_, _, rfl, st2, _, z9, z8⟩
      · intro D2 ys h2 tk2 hR F2 N2
        obtain ⟨ls, hsp, hst⟩ := hR
        have hsp := spells_full hsp
        have hsl := spells_len hsp
        have hss := spells_small hsp hp9
        have hsj := spells_join hsp hp9
        (try dsimp only)
        k_steps
        refine go_on ?_
        k_dflt (refine join_strs (N2 _ (.head _)).1 hst ?_ fun t9 k9 => ?_)
        · exact Nat.le_trans hsp.weight (Nat.le_trans (Nat.mul_le_mul_left 4 hsm) (by decide))
        (try dsimp only)
        k_steps
        refine go_on ?_
        (rename Fr _ _ _ _ => F3)
        (rename News _ _ _ _ => N3)
        generalize ls.flatten = l5 at hsl hss hsj F3
        (try dsimp only)
        k_dflt (refine ListComp_ST (zx := Sx l5) (R := fun i ys => StrsAre ys (foldS (l5.take i))) F3 N3 rfl (by with_unfolding_all rfl) (by decide) (by rfl) (by decide) (by rfl) ?_ .nil ?_ ?_ ?_)
        · show l5.length ≤ sizeLine
          exact Nat.le_trans hsl (Nat.le_trans (Nat.mul_le_mul_left 3 hsm) (by decide))
        · intro i v C oC D5 m2 ys h tk E' hv hR hC hx1 F9 N9
          obtain ⟨c9, u9, hc9, rfl⟩ := hv
          have hli : l5[i]? = some c9 := by rw [← hc9]; exact (List.getElem?_toArray ..).symm
          clear hc9
          (try dsimp only)
          k_steps
          refine go_on ?_
          (rename Fr _ _ _ _ => F1)
          (rename News _ _ _ _ => N1)
          k_dflt (refine tells_use (intab1 (c := c9) (t1 := u9)) B F1 X N1 T rfl (fun _ _ e => e) ?_ ?_ ?_)
          · omega
          · omega
          intro v h' tk' hv F2 N2 st2
          subst hv
          (try dsimp only)
          k_steps
          · have z9 : StrsAre ys (foldS (l5.take (i + 1))) := by rw [foldS_no hli (by assumption)]; exact hR
            exact ⟨_, _, rfl, st2, z9⟩
          · refine go_on ?_
            (rename Fr _ _ _ _ => F3)
            (rename News _ _ _ _ => N3)
            k_dflt (refine tells_use (map1 (c := c9) (t1 := u9)) B F3 X N3 T rfl (fun _ _ e => e) ?_ ?_ ?_)
            · omega
            · omega
            intro v h'' tk'' hv F4 N4 st4
            obtain ⟨t5, rfl⟩ := hv
            (try dsimp only)
            k_unfold
            have z9 : StrsAre (ys ++ [Value.str (mapV c9) t5]) (foldS (l5.take (i + 1))) := by rw [foldS_yes hli (by assumption)]; exact kct_snoc hR
            exact ⟨_, _, rfl, stays_trans st2 st4, z9⟩
        · intro D6 ys h2 tk2 hR F2 N2
          have hR := strs_fold hR
          (try dsimp only)
          k_steps
          refine go_on ?_
          k_dflt (refine join_listW ⟨_, (N2 _ (.head _)).1, rfl, _, rfl⟩ hR (by decide) (Nat.le_trans (foldS_weight hss) (Nat.le_trans (Nat.mul_le_mul_left 3 (Nat.le_trans hsl (Nat.mul_le_mul_left 3 hsm))) (by decide))) fun t9 k9 => ?_)
          (try dsimp only)
          k_steps
          refine go_on ?_
          (rename Fr _ _ _ _ => F7)
          (rename News _ _ _ _ => N7)
          k_dflt (exact InvEndG.intro (nx := [(D, listOf vs.toArray c), (L + 1 + 1 + 1, o3), (L + 1 + 1, o2), (L + 1, o1), (126, tabObj #[])]) F7 N7 ⟨rfl, rfl, rfl, rfl, ⟨_, str_to hsj⟩, rfl⟩ hoff9 (fun q hq => .tail _ (.tail _ (List.mem_append_left own9 hq))) (fun q hq => .tail _ (.tail _ (List.mem_append_right [(D, listOf vs.toArray c), (L + 1 + 1 + 1, o3), (L + 1 + 1, o2), (L + 1, o1), (126, tabObj #[])] hq))))
        · k_steps
          exact ⟨⟨_, rfl⟩, F3, N3, _, _, rfl⟩
      · k_steps
        refine go_on ?_
        (rename Fr _ _ _ _ => F7)
        (rename News _ _ _ _ => N7)
        k_dflt (refine wpAny_mono (zip_src (A := ktrTop _ _ _ _ _ _ _ _ _ _) rfl F7 N7 (.head _) (hp_ascii hp9) ?_) (fun xv s1 hz => ⟨hz.1, hz.2.elim fun h' e => ⟨h', _, e⟩⟩) fun _ _ e => e)
        show (dblN i9 wl).length ≤ vs.length
        omega
    · intro m8 nx8 h8 tk8 hJ8 F8 N8
      obtain ⟨g1, g2, g3, g4, ⟨tx8, g5⟩, rfl⟩ := hJ8
      have hn8 : ((t : Int) - 0).toNat = t := by omega
      rw [hn8] at g5
      (try dsimp only)
      k_dflt (exact next _ _ _ _ F8 N8 g1 g3 g4 g5))
end lawD
end Mine

end
section
set_option maxRecDepth 100000
set_option linter.unusedVariables false
set_option maxHeartbeats 1000000
namespace Mine
open PySem PySem.W PySem.Calls PySem.Spec PyProof.Rows
section lawE
theorem tabN_noCell {tn : List (Addr × Obj)} (h : TabN tn) {p : Addr × Obj} (hp : p ∈ tn) (v : Option Value) : p.2.data ≠ .cell v := by
  rcases h with rfl | ⟨c', oc, vs, t, rfl, hd, _⟩
  · rw [List.mem_singleton.mp hp]; nofun
  · rcases List.mem_cons.mp hp with rfl | hp
    · nofun
    · rw [List.mem_singleton.mp hp]
      show oc.data ≠ _
      rw [hd]; nofun
theorem ne126 {L : Nat} (h : 126 < L) : L + 1 + 1 + 1 ≠ 126 ∧ L + 1 + 1 ≠ 126 ∧ L + 1 ≠ 126 := by omega
theorem ne_cells (L : Nat) : L + 1 + 1 + 1 ≠ L + 1 ∧ L + 1 + 1 ≠ L + 1 ∧ L + 1 + 1 + 1 ≠ L + 1 + 1 ∧ L + 1 ≠ L + 1 + 1 := by omega
local macro_rules | `(tactic| walk_at "no such step") => `(tactic| (refine halt ?_))
local macro_rules | `(tactic| walk_at "no such step") => `(tactic| (refine halt ?_))
local macro_rules | `(tactic| walk_at "no such step") => `(tactic| (refine halt ?_))
local macro_rules | `(tactic| walk_at "no such step") => `(tactic| (refine halt ?_))
local macro_rules | `(tactic| walk_at "no such step") => `(tactic| (refine halt ?_))
local macro_rules | `(tactic| walk_at "no such step") => `(tactic| (refine halt ?_))
local macro_rules | `(tactic| walk_at "no such step") => `(tactic| (refine halt ?_))
local macro_rules | `(tactic| walk_at "no such step") => `(tactic| (refine halt ?_))
local macro_rules | `(tactic| walk_at "no such step") => `(tactic| (refine halt ?_))
local macro_rules | `(tactic| walk_at "no such step") => `(tactic| (refine halt ?_))
local macro_rules | `(tactic| walk_at "call ref") => `(tactic| (refine halt ?_))
local macro_rules | `(tactic| walk_at "storeName") => `(tactic| (refine halt ?_))
local macro_rules | `(tactic| walk_at "execs cons") => `(tactic| ((with_reducible show wpAny _ _ (execs (PySem.Stmt.If _ _ _ _ :: _) _) _ _ _); refine halt ?_))
theorem lawE {prog : Program} {w : World} {p : Program} {loose : List Str} {mean : ExcName → Option Value} {mg mb : Str → Option Value} {dp un : Nat} {gd : Option (List Code)} {fa : Addr} {cd : Value} {base h₀ : Heap} {L a D : Addr} {m : Str → Option Value} {s : Shared} {vs : List Value} {c t : Nat} {tt tw tx : Tok} {tl wl : List Nat} {o1 o2 o3 : Obj} {v1 v2 : Option Value} {Q : Flow → Shared → Prop} {E : Value → Shared → Prop}
    (B : Below callerA base [] h₀) (F : Fr h₀ L s.heap m)
    (X : (K1 w.params).In h₀) (T : Top p loose mean mg mb h₀) (N : News h₀ L s.heap [(D, listOf vs.toArray c), (L + 1 + 1 + 1, o3), (L + 1 + 1, o2), (L + 1, o1), (126, tabObj #[])]) (l1 : 126 < L) (d1 : o1.data = .cell v1) (d2 : o2.data = .cell v2)
    (hm : m (Str.ofString "script") = some (.ref a)) (hm3 : m (Str.ofString "times") = some (.int (t : Int) tt)) (hm4 : m (Str.ofString "word") = some (.str (Sx wl) tw)) (hm5 : m (Str.ofString "text") = some (.str (Sx tl) tx)) (hlen : tl.length = 16) (hd : dp + 10 < recursionLimit) (hu : un + 100 < cLine)
    (next : ∀ h' tk' m' Dh Dt hs ts kh kt ps o1' o2', Fr h₀ L h' m' → News h₀ L h' [(Dh, listOf (List.toArray hs) kh), (Dt, listOf (List.toArray ts) kt), (L + 1 + 1 + 1, o3), (L + 1 + 1, o2'), (L + 1, o1'), (126, tabObj ps)] → o1'.data = .cell (some (.ref Dh)) → o2'.data = .cell (some (.ref Dt)) → IntsAre hs ((placesL tl 104).map fun x : Nat => (x : Int)) → IntsAre ts ((placesL tl 112).map fun x : Nat => (x : Int)) →
      m' (Str.ofString "script") = some (.ref a) → m' (Str.ofString "times") = some (.int (t : Int) tt) → m' (Str.ofString "word") = some (.str (Sx wl) tw) →
      wpAny (model prog w) (ktrTop dp un gd (Str.ofString "law") (fScope st16) L fa cd (lawCl L) []) (execs ((fBody st16).drop 9) (envX (Str.ofString "law") (fScope st16) L fa cd (lawCl L))) Q E { s with heap := h', toks := tk' }) :
    wpAny (model prog w) (ktrTop dp un gd (Str.ofString "law") (fScope st16) L fa cd (lawCl L) []) (execs ((fBody st16).drop 7) (envX (Str.ofString "law") (fScope st16) L fa cd (lawCl L))) Q E s := by
  w_on
  k_with_none
  w_strict (
    revert B F X T N l1 d1 d2 hm hm3 hm4 hm5 hlen hd hu next
    refine (fun (h : PySem.Challenge.rw_re0150_02 = PySem.Challenge.rw_re0150_02 → _) => h rfl) ?_
    k_fill
    intro kk9
    clear kk9
    intro B F₀ X T N l1 d1 d2 hm hm3 hm4 hm5 hlen hd hu next
    have F := fr_know [(Str.ofString "script", .ref a), (Str.ofString "times", .int (t : Int) tt), (Str.ofString "word", .str (Sx wl) tw), (Str.ofString "text", .str (Sx tl) tx)] (by intro q hq; rcases List.mem_cons.mp hq with rfl | hq; exact hm; rcases List.mem_cons.mp hq with rfl | hq; exact hm3; rcases List.mem_cons.mp hq with rfl | hq; exact hm4; rcases List.mem_cons.mp hq with rfl | hq; exact hm5; cases hq) F₀
    clear F₀
    dsimp only [fBody, fScope, st16, nthS, PySem.Challenge.pw_re0150_02, lawCl, List.drop]
    k_steps
    refine go_on ?_
    (rename News _ _ _ _ => N1)
    (rename Fr _ _ _ _ => F1)
    (try dsimp only)
    k_dflt (refine tellsT_use (tn := [(126, tabObj #[])]) (places1 (l := tl) (c := 104) (tt := tx) (.inl rfl) hlen) B F1 X N1 T rfl (fun q hq => by rw [List.mem_singleton.mp hq]; k_mem) (.inl rfl) [(L + 1 + 1 + 1, o3), (L + 1 + 1, o2), (L + 1, o1)] ?_ (by omega) (by omega) ?_)
    · intro q hq
      rcases List.mem_cons.mp hq with rfl | hq
      · exact ⟨by k_mem, (ne126 l1).1⟩
      rcases List.mem_cons.mp hq with rfl | hq
      · exact ⟨by k_mem, (ne126 l1).2.1⟩
      rcases List.mem_cons.mp hq with rfl | hq
      · exact ⟨by k_mem, (ne126 l1).2.2⟩
      · cases hq
    intro v1 h1 tk1 tn1 nx1 hv1 F2 N2 hT1 fr1 mo1 ex1
    obtain ⟨Dh, hs, kh, rfl, rfl, hIh⟩ := hv1
    clear fr1 mo1 ex1
    (try dsimp only)
    k_steps
    refine go_on ?_
    simp only [List.cons_append, List.nil_append] at N2
    (rename News _ _ _ _ => N3)
    (rename Fr _ _ _ _ => F3)
    have hU3 := updF_of (d := L + 1) (o := o1) [(L + 1 + 1 + 1, o3), (L + 1 + 1, o2)] (post := tn1 ++ [(Dh, W.listOf hs.toArray kh)]) (fun p hp => by
        rcases List.mem_cons.mp hp with rfl | hp
        · exact (ne_cells L).1
        · rw [List.mem_singleton.mp hp]; exact (ne_cells L).2.1)
      (cell_off N3 d1 (fun p hp => ⟨.tail _ (.tail _ (.tail _ hp)), fun v => by
        rcases List.mem_append.mp hp with hp | hp
        · exact tabN_noCell hT1 hp v
        · rw [List.mem_singleton.mp hp]; nofun⟩) (.tail _ (.tail _ (.head _))))
    k_dflt (refine storeX_C F3 N3 rfl hU3 d1 (fun h4 o1' F4 N4 d1' => ?_) rfl rfl)
    simp only [List.cons_append, List.nil_append] at N4
    clear hU3 N3 F3 N1 F1
    (try dsimp only)
    k_steps
    refine go_on ?_
    (rename News _ _ _ _ => N5)
    (rename Fr _ _ _ _ => F5)
    k_dflt (refine tellsT_use (tn := tn1) (places1 (l := tl) (c := 112) (tt := tx) (.inr rfl) hlen) B F5 X N5 T rfl (fun q hq => .tail _ (.tail _ (.tail _ (List.mem_append_left _ hq)))) hT1 [(Dh, W.listOf hs.toArray kh), (L + 1 + 1 + 1, o3), (L + 1 + 1, o2), (L + 1, o1')] ?_ (by omega) (by omega) ?_)
    · intro q hq
      rcases List.mem_cons.mp hq with rfl | hq
      · have hm9 : (Dh, W.listOf hs.toArray kh) ∈ (L + 1 + 1 + 1, o3) :: (L + 1 + 1, o2) :: (L + 1, o1') :: (tn1 ++ [(Dh, W.listOf hs.toArray kh)]) := .tail _ (.tail _ (.tail _ (List.mem_append_right _ (.head _))))
        exact ⟨hm9, rest_ok N5 hT1 (fun q hq => .tail _ (.tail _ (.tail _ (List.mem_append_left _ hq)))) hm9 (by show Value.type "list" ≠ _; nofun)⟩
      rcases List.mem_cons.mp hq with rfl | hq
      · exact ⟨by k_mem, (ne126 l1).1⟩
      rcases List.mem_cons.mp hq with rfl | hq
      · exact ⟨by k_mem, (ne126 l1).2.1⟩
      rcases List.mem_cons.mp hq with rfl | hq
      · exact ⟨by k_mem, (ne126 l1).2.2⟩
      · cases hq
    intro v6 h6 tk6 tn6 nx6 hv6 F6 N6 hT6 fr6 mo6 ex6
    obtain ⟨Dt, ts, kt, rfl, rfl, hIt⟩ := hv6
    clear fr6 mo6 ex6
    (try dsimp only)
    k_steps
    refine go_on ?_
    simp only [List.cons_append, List.nil_append] at N6
    (rename News _ _ _ _ => N7)
    (rename Fr _ _ _ _ => F7)
    have hU7 := updF_of (d := L + 1 + 1) (o := o2) [(Dh, W.listOf hs.toArray kh), (L + 1 + 1 + 1, o3)] (post := (L + 1, o1') :: (tn6 ++ [(Dt, W.listOf ts.toArray kt)]))
      (fun p hp => by
        rcases List.mem_cons.mp hp with rfl | hp
        · exact cell_off (some' := [(Dh, W.listOf hs.toArray kh)]) N7 d2 (fun p hp => ⟨by rw [List.mem_singleton.mp hp]; exact .head _, fun v => by rw [List.mem_singleton.mp hp]; nofun⟩) (.tail _ (.tail _ (.head _))) _ (.head _)
        · rw [List.mem_singleton.mp hp]; exact (ne_cells L).2.2.1)
      (fun p hp => by
        rcases List.mem_cons.mp hp with rfl | hp
        · exact (ne_cells L).2.2.2
        · exact cell_off (some' := tn6 ++ [(Dt, W.listOf ts.toArray kt)]) N7 d2 (fun p hp => ⟨.tail _ (.tail _ (.tail _ (.tail _ hp))), fun v => by
            rcases List.mem_append.mp hp with hp | hp
            · exact tabN_noCell hT6 hp v
            · rw [List.mem_singleton.mp hp]; nofun⟩) (.tail _ (.tail _ (.head _))) _ hp)
    k_dflt (refine storeX_C F7 N7 rfl hU7 d2 (fun h8 o2' F8 N8 d2' => ?_) rfl rfl)
    simp only [List.cons_append, List.nil_append] at N8
    clear hU7 N7 F7 N5 F5
    (try dsimp only)
    k_steps
    refine go_on ?_
    (rename News _ _ _ _ => N9)
    (rename Fr _ _ _ _ => F9)
    obtain ⟨ps, hps⟩ := hT6.one
    k_dflt (exact next _ _ _ Dh Dt hs ts kh kt ps o1' o2' F9 (news_sub N9 (fun q hq => by
      rcases List.mem_cons.mp hq with rfl | hq
      · exact .head _
      rcases List.mem_cons.mp hq with rfl | hq
      · exact .tail _ (.tail _ (.tail _ (.tail _ (List.mem_append_right _ (.head _)))))
      rcases List.mem_cons.mp hq with rfl | hq
      · exact .tail _ (.head _)
      rcases List.mem_cons.mp hq with rfl | hq
      · exact .tail _ (.tail _ (.head _))
      rcases List.mem_cons.mp hq with rfl | hq
      · exact .tail _ (.tail _ (.tail _ (.head _)))
      rw [List.mem_singleton.mp hq]
      exact .tail _ (.tail _ (.tail _ (.tail _ (List.mem_append_left _ hps)))))) d1' d2' hIh hIt rfl rfl rfl))
end lawE
end Mine

end
section
set_option maxRecDepth 100000
set_option linter.unusedVariables false
set_option maxHeartbeats 1000000
namespace Mine
open PySem PySem.W PySem.Calls PySem.Spec PyProof.Rows
section lawF
theorem range_sorted : List.Pairwise (fun x1 x2 : Int => x1 ≤ x2) (rangeKs 0 16) := by decide
theorem sorted_is {ns : List Int} {hl tl : List Nat} (hp : (hl ++ tl).Perm (List.range 16)) (p : ns.Perm (hl.map (fun x : Nat => (x : Int)) ++ tl.map (fun x : Nat => (x : Int)))) (o : List.Pairwise (fun x1 x2 => x1 ≤ x2) ns) : ns = rangeKs 0 16 := by
  refine List.Perm.eq_of_pairwise (fun a b _ _ h1 h2 => Int.le_antisymm h1 h2) o range_sorted (p.trans ?_)
  rw [← List.map_append]
  refine (hp.map _).trans (List.Perm.of_eq ?_)
  decide
local macro_rules | `(tactic| walk_at "no such step") => `(tactic| (refine halt ?_))
local macro_rules | `(tactic| walk_at "no such step") => `(tactic| (refine halt ?_))
local macro_rules | `(tactic| walk_at "no such step") => `(tactic| (refine halt ?_))
local macro_rules | `(tactic| walk_at "no such step") => `(tactic| (refine halt ?_))
local macro_rules | `(tactic| walk_at "no such step") => `(tactic| (refine halt ?_))
local macro_rules | `(tactic| walk_at "no such step") => `(tactic| (refine halt ?_))
local macro_rules | `(tactic| walk_at "no such step") => `(tactic| (refine halt ?_))
local macro_rules | `(tactic| walk_at "no such step") => `(tactic| (refine halt ?_))
local macro_rules | `(tactic| walk_at "no such step") => `(tactic| (refine halt ?_))
local macro_rules | `(tactic| walk_at "no such step") => `(tactic| (refine halt ?_))
local macro_rules | `(tactic| walk_at "compareOp NotEq ref ref") => `(tactic| (refine halt ?_))
local macro_rules | `(tactic| walk_at "call type:list") => `(tactic| (refine halt ?_))
local macro_rules | `(tactic| walk_at "binaryOp Add ref ref") => `(tactic| (refine halt ?_))
local macro_rules | `(tactic| walk_at "execs cons") => `(tactic| ((with_reducible show wpAny _ _ (execs (PySem.Stmt.Assign [PySem.Expr.Name (Str.ofString "move") _] _ _ :: _) _) _ _ _); refine halt ?_))
theorem lawF {prog : Program} {w : World} {p : Program} {loose : List Str} {mean : ExcName → Option Value} {mg mb : Str → Option Value} {dp un : Nat} {gd : Option (List Code)} {fa : Addr} {cd : Value} {base h₀ : Heap} {L a Dh Dt : Addr} {m : Str → Option Value} {s : Shared} {hs ts : List Value} {kh kt t : Nat} {tt tw : Tok} {hl tl wl : List Nat} {o1 o2 o3 : Obj} {ps : Array Value} {Q : Flow → Shared → Prop} {E : Value → Shared → Prop}
    (B : Below callerA base [] h₀) (F : Fr h₀ L s.heap m)
    (X : (K1 w.params).In h₀) (T : Top p loose mean mg mb h₀) (N : News h₀ L s.heap [(Dh, listOf hs.toArray kh), (Dt, listOf ts.toArray kt), (L + 1 + 1 + 1, o3), (L + 1 + 1, o2), (L + 1, o1), (126, tabObj ps)]) (l1 : 126 < L) (d1 : o1.data = .cell (some (.ref Dh))) (d2 : o2.data = .cell (some (.ref Dt)))
    (hIh : IntsAre hs (hl.map fun x : Nat => (x : Int))) (hIt : IntsAre ts (tl.map fun x : Nat => (x : Int)))
    (hm : m (Str.ofString "script") = some (.ref a)) (hm3 : m (Str.ofString "times") = some (.int (t : Int) tt)) (hm4 : m (Str.ofString "word") = some (.str (Sx wl) tw)) (hpm : (hl ++ tl).Perm (List.range 16)) (hzh : hl.length ≤ 16) (hzt : tl.length ≤ 16) (hd : dp + 10 < recursionLimit) (hu : un + 100 < cLine)
    (next : ∀ h' tk' m', Fr h₀ L h' m' → News h₀ L h' [(Dh, listOf hs.toArray kh), (Dt, listOf ts.toArray kt), (L + 1 + 1 + 1, o3), (L + 1 + 1, o2), (L + 1, o1), (126, tabObj ps)] →
      m' (Str.ofString "script") = some (.ref a) → m' (Str.ofString "times") = some (.int (t : Int) tt) → m' (Str.ofString "word") = some (.str (Sx wl) tw) →
      wpAny (model prog w) (ktrTop dp un gd (Str.ofString "law") (fScope st16) L fa cd (lawCl L) []) (execs ((fBody st16).drop 10) (envX (Str.ofString "law") (fScope st16) L fa cd (lawCl L))) Q E { s with heap := h', toks := tk' }) :
    wpAny (model prog w) (ktrTop dp un gd (Str.ofString "law") (fScope st16) L fa cd (lawCl L) []) (execs ((fBody st16).drop 9) (envX (Str.ofString "law") (fScope st16) L fa cd (lawCl L))) Q E s := by
  w_on
  k_with_none
  w_strict (
    revert B F X T N l1 d1 d2 hIh hIt hm hm3 hm4 hpm hzh hzt hd hu next
    refine (fun (h : PySem.Challenge.rw_re0150_02 = PySem.Challenge.rw_re0150_02 → _) => h rfl) ?_
    k_fill
    intro kk9
    clear kk9
    intro B F₀ X T N l1 d1 d2 hIh hIt hm hm3 hm4 hpm hzh hzt hd hu next
    have F := fr_know [(Str.ofString "script", .ref a), (Str.ofString "times", .int (t : Int) tt), (Str.ofString "word", .str (Sx wl) tw)] (by intro q hq; rcases List.mem_cons.mp hq with rfl | hq; exact hm; rcases List.mem_cons.mp hq with rfl | hq; exact hm3; rcases List.mem_cons.mp hq with rfl | hq; exact hm4; cases hq) F₀
    clear F₀
    dsimp only [fBody, fScope, st16, nthS, PySem.Challenge.pw_re0150_02, lawCl, List.drop]
    k_steps
    refine go_on ?_
    have hvh := hIh.length
    have hvt := hIt.length
    rw [List.length_map] at hvh hvt
    (k_dflt (refine' kmk_add_ints F N ?a ?b hIh hIt ?_ ?z; (case a => exact News.isList N (.head _)); (case b => exact News.isList N (.tail _ (.head _))); (case z => (rw [List.length_map, List.length_map]; exact Nat.le_trans (Nat.add_le_add hzh hzt) (Nat.le_of_ble_eq_true rfl)))))
    intro D3 us3 h3 F3 N3 l3 hI3
    (try dsimp only)
    k_steps
    refine go_on ?_
    (try dsimp only)
    (rename News _ _ _ _ => N5)
    (rename Fr _ _ _ _ => F5)
    (rename IsRange _ _ _ _ _ _ _ _ => rg)
    (rename List.Perm _ _ => p5)
    (rename List.Pairwise _ _ => o5)
    (rename IntsAre _ _ => hI5)
    have e5 := sorted_is hpm p5 o5
    (with_unfolding_all refine' kll_range (n := 16) rfl F5 N5 rg ?k4 ?k5 ?k6 ?_; (case k4 => decide +kernel); (case k5 => decide +kernel); (case k6 => decide))
    intro D6 us6 c6 h6 tk6 F6 N6 l6 hI6
    (try dsimp only)
    k_steps
    refine go_on ?_
    k_dflt (refine ke_ne_ints (News.isList N6 (.tail _ (.head _))) (News.isList N6 (.head _)) hI5 hI6 (by show un + 64 < cLine; omega) ?_)
    rw [decide_eq_true e5]
    (try dsimp only)
    k_steps
    refine go_on ?_
    (rename News _ _ _ _ => N9)
    (rename Fr _ _ _ _ => F9)
    k_dflt (exact next _ _ _ F9 (news_sub N9 (fun q hq => .tail _ (.tail _ (.tail _ hq)))) rfl rfl rfl))
end lawF
end Mine

end
section
set_option maxRecDepth 100000
set_option linter.unusedVariables false
set_option maxHeartbeats 1000000
namespace Mine
open PySem PySem.W PySem.Calls PySem.Spec PyProof.Rows
section lawG
theorem ten40 : (10 : Int) ^ Int.toNat 40 = ((10 ^ 40 : Nat) : Int) := by decide
theorem move_of (S : Int) : ∃ mv : Nat, S.fmod (10 ^ Int.toNat 40) = (mv : Int) ∧ mv < 10 ^ 40 := by
  rw [ten40, Int.fmod_eq_emod_of_nonneg _ (Int.natCast_nonneg _)]
  have h0 : ((10 ^ 40 : Nat) : Int) ≠ 0 := by decide
  have h1 := Int.emod_nonneg S h0
  have h2 := Int.emod_lt_of_pos S (show (0 : Int) < ((10 ^ 40 : Nat) : Int) by decide)
  exact ⟨(S % ((10 ^ 40 : Nat) : Int)).toNat, (Int.toNat_of_nonneg h1).symm, by omega⟩
local macro_rules | `(tactic| walk_at "no such step") => `(tactic| (refine halt ?_))
local macro_rules | `(tactic| walk_at "no such step") => `(tactic| (refine halt ?_))
local macro_rules | `(tactic| walk_at "no such step") => `(tactic| (refine halt ?_))
local macro_rules | `(tactic| walk_at "no such step") => `(tactic| (refine halt ?_))
local macro_rules | `(tactic| walk_at "no such step") => `(tactic| (refine halt ?_))
local macro_rules | `(tactic| walk_at "no such step") => `(tactic| (refine halt ?_))
local macro_rules | `(tactic| walk_at "no such step") => `(tactic| (refine halt ?_))
local macro_rules | `(tactic| walk_at "no such step") => `(tactic| (refine halt ?_))
local macro_rules | `(tactic| walk_at "no such step") => `(tactic| (refine halt ?_))
local macro_rules | `(tactic| walk_at "no such step") => `(tactic| (refine halt ?_))
local macro_rules | `(tactic| walk_at "no such step") => `(tactic| (refine halt ?_))
local macro_rules | `(tactic| walk_at "no such step") => `(tactic| (refine halt ?_))
local macro_rules | `(tactic| walk_at "no such step") => `(tactic| (refine halt ?_))
local macro_rules | `(tactic| walk_at "storeName") => `(tactic| (refine halt ?_))
local macro_rules | `(tactic| walk_at "execs cons") => `(tactic| ((with_reducible show wpAny _ _ (execs (PySem.Stmt.Assign [PySem.Expr.Name (Str.ofString "gaps") _] _ _ :: _) _) _ _ _); refine halt ?_))
theorem lawG {prog : Program} {w : World} {p : Program} {loose : List Str} {mean : ExcName → Option Value} {mg mb : Str → Option Value} {dp un : Nat} {gd : Option (List Code)} {fa : Addr} {cd : Value} {base h₀ : Heap} {L a Dh Dt : Addr} {m : Str → Option Value} {s : Shared} {hs ts vs : List Value} {ns : List Int} {kh kt t : Nat} {tt tw : Tok} {wl : List Nat} {o1 o2 o3 : Obj} {v3 : Option Value} {ps : Array Value} {Q : Flow → Shared → Prop} {E : Value → Shared → Prop}
    (B : Below callerA base [] h₀) (F : Fr h₀ L s.heap m)
    (X : (K1 w.params).In h₀) (T : Top p loose mean mg mb h₀) (N : News h₀ L s.heap [(Dh, listOf hs.toArray kh), (Dt, listOf ts.toArray kt), (L + 1 + 1 + 1, o3), (L + 1 + 1, o2), (L + 1, o1), (126, tabObj ps)]) (l1 : 126 < L) (d1 : o1.data = .cell (some (.ref Dh))) (d2 : o2.data = .cell (some (.ref Dt))) (d3 : o3.data = .cell v3)
    (hL : h₀.IsList a vs.toArray) (hI : IntsAre vs ns) (hlen : ns.length ≤ 63)
    (hm : m (Str.ofString "script") = some (.ref a)) (hm3 : m (Str.ofString "times") = some (.int (t : Int) tt)) (hm4 : m (Str.ofString "word") = some (.str (Sx wl) tw)) (hd : dp + 10 < recursionLimit) (hu : un + 100 < cLine)
    (next : ∀ h' tk' m' o3' (mv : Nat) tm, Fr h₀ L h' m' → News h₀ L h' [(Dh, listOf hs.toArray kh), (Dt, listOf ts.toArray kt), (L + 1 + 1 + 1, o3'), (L + 1 + 1, o2), (L + 1, o1), (126, tabObj ps)] → o3'.data = .cell (some (.int (mv : Int) tm)) → mv < 10 ^ 40 →
      m' (Str.ofString "times") = some (.int (t : Int) tt) → m' (Str.ofString "word") = some (.str (Sx wl) tw) →
      wpAny (model prog w) (ktrTop dp un gd (Str.ofString "law") (fScope st16) L fa cd (lawCl L) []) (execs ((fBody st16).drop 11) (envX (Str.ofString "law") (fScope st16) L fa cd (lawCl L))) Q E { s with heap := h', toks := tk' }) :
    wpAny (model prog w) (ktrTop dp un gd (Str.ofString "law") (fScope st16) L fa cd (lawCl L) []) (execs ((fBody st16).drop 10) (envX (Str.ofString "law") (fScope st16) L fa cd (lawCl L))) Q E s := by
  w_on
  k_with_none
  w_strict (
    revert B F X T N l1 d1 d2 d3 hL hI hlen hm hm3 hm4 hd hu next
    refine (fun (h : PySem.Challenge.rw_re0150_02 = PySem.Challenge.rw_re0150_02 → _) => h rfl) ?_
    k_fill
    intro kk9
    clear kk9
    intro B F₀ X T N l1 d1 d2 d3 hL hI hlen hm hm3 hm4 hd hu next
    have F := fr_know [(Str.ofString "script", .ref a), (Str.ofString "times", .int (t : Int) tt), (Str.ofString "word", .str (Sx wl) tw)] (by intro q hq; rcases List.mem_cons.mp hq with rfl | hq; exact hm; rcases List.mem_cons.mp hq with rfl | hq; exact hm3; rcases List.mem_cons.mp hq with rfl | hq; exact hm4; cases hq) F₀
    clear F₀
    dsimp only [fBody, fScope, st16, nthS, PySem.Challenge.pw_re0150_02, lawCl, List.drop]
    k_steps
    refine go_on ?_
    (try dsimp only)
    (rename News _ _ _ _ => N3)
    (rename Fr _ _ _ _ => F3)
    have hU3 := updF_of (d := L + 1 + 1 + 1) (o := o3) [(Dh, W.listOf hs.toArray kh), (Dt, W.listOf ts.toArray kt)] (post := [(L + 1 + 1, o2), (L + 1, o1), (126, tabObj ps)])
      (cell_off N3 d3 (fun p hp => ⟨by rcases List.mem_cons.mp hp with rfl | hp; exact .head _; rw [List.mem_singleton.mp hp]; exact .tail _ (.head _), fun v => by rcases List.mem_cons.mp hp with rfl | hp; nofun; rw [List.mem_singleton.mp hp]; nofun⟩) (.tail _ (.tail _ (.head _))))
      (fun p hp => by
        rcases List.mem_cons.mp hp with rfl | hp
        · exact Ne.symm (ne_cells L).2.2.1
        rcases List.mem_cons.mp hp with rfl | hp
        · exact Ne.symm (ne_cells L).1
        rw [List.mem_singleton.mp hp]
        exact Ne.symm (ne126 l1).1)
    obtain ⟨mv, hmv, hmv2⟩ := move_of ns.sum
    k_dflt (refine storeX_C F3 N3 rfl hU3 d3 (fun h4 o3' F4 N4 d4 => ?_) rfl rfl)
    simp only [List.cons_append, List.nil_append] at N4
    clear hU3 N3 F3
    (try dsimp only)
    k_steps
    refine go_on ?_
    (rename News _ _ _ _ => N9)
    (rename Fr _ _ _ _ => F9)
    rw [hmv] at d4
    k_dflt (exact next _ _ _ o3' mv _ F9 N9 d4 hmv2 rfl rfl))
end lawG
end Mine

end
section
set_option maxRecDepth 100000
set_option linter.unusedVariables false
set_option maxHeartbeats 1000000
namespace Mine
open PySem PySem.W PySem.Calls PySem.Spec PyProof.Rows
/-- the names of a comprehension of which one is a cell -/
theorem newEnvC_one {M : Model} {A : Around} {E : Value → Shared → Prop} {s : Shared} {scope : Scope} {globals : Addr} {cl : List (Str × Addr)} {qual : Str} {env : Env} {x : Str} {Q : Env → Shared → Prop}
    (hcf : ∀ n, cellsFrom n scope.names cl = (x, n) :: cl) (hpc : ∀ h, pushCells h scope.names = h.push { cls := .type "cell", data := .cell none })
    (h : Q { scope := scope, locals := s.heap.objs.size, globals := globals, cells := (x, s.heap.objs.size + 1) :: cl, qual := qual, func := none, code := env.code, frame := env.frame, builtins := env.builtins }
      { s with heap := (s.heap.push { cls := .type "dict", data := .dict #[] }).push { cls := .type "cell", data := .cell none } }) :
    wpAny M A (newFunctionEnv scope globals cl [] qual none .none (some env)) Q E s := by
  simp only [newFunctionEnv, Option.isSome_some, if_true]
  refine wpAny_bind (wpAny_alloc ?_)
  refine wpAny_bind (wpAny_layCells _ (fun name kind cells => by cases hkc : kind == NameKind.cell <;> simp) _ _ _ _ ?_)
  rw [hcf, hpc]
  refine wpAny_bind ?_
  rw [List.forIn_nil]
  refine wpAny_pure (wpAny_pure ?_)
  rw [show ({ s with heap := s.heap.push { cls := .type "dict", data := .dict #[] } } : Shared).heap.objs.size = s.heap.objs.size + 1 from Heap.size_push ..]
  exact h
section
variable {prog : Program} {w : World} {A : Around} {E : Value → Shared → Prop} {s : Shared} {h₀ : Heap} {L : Addr} {m : Str → Option Value} {env : Env}
/-- what an element leaves, by the ledger -/
def EltEndC (h₀ : Heap) (L : Addr) (m : Str → Option Value) (s₂ : Shared) (news : List (Addr × Obj)) (R : Value → Prop) (y : Value) (s' : Shared) : Prop :=
  ∃ h' tk', s' = { s₂ with heap := h', toks := tk' } ∧ Fr h₀ L h' m ∧ News h₀ L h' news ∧ R y
theorem block_C {elt iter : PySem.Expr} {x : Str} {px : Pos} {scope : Scope} {cl : List (Str × Addr)} {pos : Pos} {s₂ : Shared} {I : Addr} {a : Int} {n : Nat} {R : Nat → List Value → Prop} {news : List (Addr × Obj)} {RR : Value → Addr → Result → Shared → Prop}
    (hh : A.handled = none) (hsz : n ≤ sizeLine)
    (hcf : ∀ n, cellsFrom n scope.names cl = (x, n) :: cl) (hpc : ∀ h, pushCells h scope.names = h.push { cls := .type "cell", data := .cell none })
    (hkind : scope.kind = .function) (hx : (relabel scope env).names.lookup x = some .cell)
    (hst : IsRangeIter s₂.heap I (a + ((0 : Nat) : Int) * 1) ((n : Int) - ((0 : Nat) : Int)) 1) (F : Fr h₀ L s₂.heap m) (N : News h₀ L s₂.heap news) (hIL : L ≠ I) (hI₀ : h₀.get? I = none) (off : ∀ p ∈ news, p.1 ≠ I) (r0 : R 0 [])
    (turn : ∀ i t oI C oC c oc D ys h tk (E' : Value → Shared → Prop), i < n → R i ys → oc.data = .cell (some (.int (a + (i : Int)) t)) → Fr h₀ L h m → News h₀ L h ((I, oI) :: (C, oC) :: (c, oc) :: (D, LCg.lst ys) :: news) →
      wpAny (model prog w) A (eval elt (compEnvC scope ((x, c) :: cl) C env)) (EltEndC h₀ L m s₂ ((I, oI) :: (C, oC) :: (c, oc) :: (D, LCg.lst ys) :: news) fun y => R (i + 1) (ys ++ [y])) E' { s₂ with heap := h, toks := tk })
    (hRR : ∀ D C h tk m' ys, R n ys → Fr h₀ L h m → News h₀ L h ((D, LCg.lst ys) :: news) → h.Ns C m' → h₀.get? C = none → C ≠ L → C ≠ D → (∀ p ∈ news, p.1 ≠ C) → RR (.ref D) C (.ok .next) { s₂ with heap := h, toks := tk }) :
    wpAny (model prog w) A (newList []) (fun acc s₃ => wpAny (model prog w) A (newFunctionEnv scope env.globals cl [] env.qual none .none (some env)) (fun cenv s₄ =>
      codeAny (model prog w) A (.compStart (.ListComp elt [⟨.Name x px, iter, [], 0⟩] scope pos) 0 (.ref I) acc { cenv with scope := relabel scope env }) (RR acc cenv.locals) s₄) E s₃) E s₂ := by
  refine wpAny_newObj_type (newEnvC_one hcf hpc ?_)
  dsimp only
  generalize hH : s₂.heap.push { cls := .type "list", dict := none, data := .seq ([] : List Value).toArray } = H
  have hC : H.objs.size = s₂.heap.objs.size + 1 := by rw [← hH, Heap.size_push]
  generalize hH1 : (H.push { cls := .type "dict", data := .dict #[] }).push { cls := .type "cell", data := .cell none } = h₁
  have hIlt : I < s₂.heap.objs.size := Heap.lt_size (show s₂.heap.get? I = some _ from hst)
  have e0 : ∀ b o, s₂.heap.get? b = some o → h₁.get? b = some o := fun b o e => by
    rw [← hH1]; exact Heap.get?_push_of_some _ (Heap.get?_push_of_some _ (hH ▸ Heap.get?_push_of_some _ e))
  have eD : h₁.get? s₂.heap.objs.size = some (LCg.lst []) := by
    rw [← hH1]; exact Heap.get?_push_of_some _ (Heap.get?_push_of_some _ (hH ▸ Heap.get?_push_size _ rfl))
  have eC : h₁.Ns H.objs.size (fun _ => none) := by
    rw [← hH1]; exact (Heap.Ns.new H (.type "dict")).keeps fun b o e => Heap.get?_push_of_some _ e
  have ec : h₁.IsCell (H.objs.size + 1) none := by
    rw [← hH1]
    have e := Heap.get?_push_size (H.push { cls := .type "dict", data := .dict #[] }) (o := { cls := .type "cell", data := .cell none }) rfl
    rw [Heap.size_push] at e
    exact ⟨_, e, rfl⟩
  generalize hCe : H.objs.size = C at hC eC ec ⊢
  generalize hDe : s₂.heap.objs.size = D at hC hIlt eD ⊢
  generalize hce : C + 1 = c at ec ⊢
  have hDC : D ≠ C := by rw [hC]; exact Nat.ne_of_lt (Nat.lt_succ_of_le (Nat.le_refl D))
  have hCc : C ≠ c := by rw [← hce]; exact Nat.ne_of_lt (Nat.lt_succ_of_le (Nat.le_refl C))
  have hDc : D ≠ c := by rw [← hce, hC]; exact Nat.ne_of_lt (Nat.lt_succ_of_lt (Nat.lt_succ_of_le (Nat.le_refl D)))
  have below : ∀ b, b < D → b ≠ D ∧ b ≠ C ∧ b ≠ c := fun b hb => ⟨Nat.ne_of_lt hb, by rw [hC]; exact Nat.ne_of_lt (Nat.lt_succ_of_lt hb), by rw [← hce, hC]; exact Nat.ne_of_lt (Nat.lt_succ_of_lt (Nat.lt_succ_of_lt hb))⟩
  have fresh : ∀ a, D ≤ a → h₀.get? a = none := fun a ha => by
    cases e : h₀.get? a with
    | none => rfl
    | some o => exact absurd (Heap.lt_size (F.keep _ _ e)) (Nat.not_lt.mpr (hDe ▸ ha))
  have hD₀ := fresh D (Nat.le_refl _)
  have hC₀ := fresh C (by rw [hC]; exact Nat.le_succ _)
  have hc₀ := fresh c (by rw [← hce, hC]; exact Nat.le_succ_of_le (Nat.le_succ _))
  have hLlt : L < D := hDe ▸ F.ns.lt
  have hDL : D ≠ L := (below L hLlt).1.symm
  have hCL : C ≠ L := (below L hLlt).2.1.symm
  have hcL : c ≠ L := (below L hLlt).2.2.symm
  have hI3 := below I hIlt
  have n3 : ∀ p ∈ news, p.1 ≠ D ∧ p.1 ≠ C ∧ p.1 ≠ c := fun p hp => below _ (hDe ▸ Heap.lt_size (N p hp).1)
  have W := LCg.range_walks (prog := prog) (w := w) (I := I) hh a n
  have hkC : (compEnvC scope ((x, c) :: cl) C env).scope.kind = .function := by simp [compEnvC, relabel, hkind]
  have hlk : (compEnvC scope ((x, c) :: cl) C env).cells.lookup x = some c := by simp [compEnvC]
  have hst₁ : IsRangeIter h₁ I (a + ((0 : Nat) : Int) * 1) ((n : Int) - ((0 : Nat) : Int)) 1 := e0 _ _ (show s₂.heap.get? I = some _ from hst)
  have loop : ∀ s₃ : Shared, s₃ = { s₂ with heap := h₁ } →
      codeAny (model prog w) A (.compLoop (.ListComp elt [⟨.Name x px, iter, [], 0⟩] scope pos) 0 (.ref I) (.ref D) (compEnvC scope ((x, c) :: cl) C env)) (RR (.ref D) C) s₃ := by
    rintro s₃ rfl
    refine codeAny_compLoop_tests
      (fun k s' => ∃ h' tk i ys v₀ m', s' = { s₂ with heap := h', toks := tk } ∧ i ≤ n ∧ k = n + 1 - i ∧ ys.length = i ∧ IsRangeIter h' I (a + (i : Nat) * 1) ((n : Int) - (i : Nat)) 1 ∧ Fr h₀ L h' m ∧ h'.Ns C m' ∧ h'.IsCell c v₀ ∧ News h₀ L h' ((D, LCg.lst ys) :: news) ∧ R i ys) ?_ (n + 1)
      ⟨h₁, s₂.toks, 0, [], _, _, rfl, Nat.zero_le _, rfl, rfl, hst₁, F.keeps e0, eC, ec, fun p hp => ?_, r0⟩
    · rintro k s' ⟨h', tk', i, ys, v₀, m', rfl, hi, rfl, hyl, hst', F', hn', hc', N', hR⟩
      have offs : ∀ p ∈ (D, LCg.lst ys) :: news, p.1 ≠ I := fun p hp => by
        rcases List.mem_cons.mp hp with rfl | hq
        · exact hI3.1.symm
        · exact off p hq
      by_cases hlt : i < n
      · refine W.item i _ _ _ hlt hst' fun v q1 t1 hPv hst1 hk1 => ?_
        obtain ⟨tv, rfl⟩ := hPv
        have N1 := LCg.news_but N' hk1 offs
        have F1 := LCg.fr_but F' hk1 hIL hI₀
        have n1 : q1.Ns C m' := hn'.at' fun o e => hk1 C o (by simpa using hI3.2.1.symm) e
        have c1 : q1.IsCell c v₀ := by
          obtain ⟨o, e, d⟩ := hc'
          exact ⟨o, hk1 c o (by simpa using hI3.2.2.symm) e, d⟩
        refine wpAny_assign_Name (wpAny_storeName_cell hkC hx hlk c1 fun q2 hv2 hs2 => ?_)
        refine wpAny_tests_nil ?_
        simp only [if_true]
        obtain ⟨oc, ec2, dc2⟩ := hv2
        have gI : q2.get? I = some _ := hs2.extBut I _ hI3.2.2 (show q1.get? I = some _ from hst1)
        obtain ⟨oC, heC, hoC⟩ := LCg.ns_obj (n1.sameBut hs2 hCc)
        have F2 := F1.change hs2 hcL hc₀
        have N2 : News h₀ L q2 ((I, _) :: (C, oC) :: (c, oc) :: (D, LCg.lst ys) :: news) := fun p hp => by
          rcases List.mem_cons.mp hp with rfl | hp
          · exact ⟨gI, hIL.symm, hI₀⟩
          rcases List.mem_cons.mp hp with rfl | hp
          · exact ⟨heC, hCL, hC₀⟩
          rcases List.mem_cons.mp hp with rfl | hp
          · exact ⟨ec2, hcL, hc₀⟩
          refine ⟨hs2.extBut _ _ ?_ (N1 p hp).1, (N1 p hp).2⟩
          rcases List.mem_cons.mp hp with rfl | hp
          · exact hDc
          · exact (n3 p hp).2.2
        refine wpAny_mono (turn i tv _ C oC c oc D ys q2 _ _ hlt hR dc2 F2 N2) (fun y s₄ h₄ => ?_) fun _ _ e => e
        obtain ⟨q7, t7, rfl, F7, N7, hR7⟩ := h₄
        have zI := (N7 _ (.head _)).1
        have zC := (N7 (C, oC) (.tail _ (.head _))).1
        have zc := (N7 (c, oc) (.tail _ (.tail _ (.head _)))).1
        have zD := (N7 (D, LCg.lst ys) (.tail _ (.tail _ (.tail _ (.head _))))).1
        refine append_at (hsz := by show ys.toArray.size ≤ sizeLine; rw [List.size_toArray, hyl]; exact Nat.le_trans hi hsz) zD fun q8 hs8 hD8 => ?_
        refine ⟨n + 1 - (i + 1), by omega, q8, t7, i + 1, ys ++ [y], _, _, rfl, hlt, rfl, by rw [List.length_append, List.length_singleton, hyl], hs8.extBut _ _ hI3.1 zI, F7.change hs8 hDL hD₀, (hoC.ns zC).sameBut hs8 hDC.symm, ⟨oc, hs8.extBut _ _ hDc.symm zc, dc2⟩, fun p hp => ?_, hR7⟩
        rcases List.mem_cons.mp hp with rfl | hp
        · exact ⟨hD8.trans (congrArg some (LCg.lst_snoc ys y)), hDL, hD₀⟩
        · have z := N7 p (.tail _ (.tail _ (.tail _ (.tail _ hp))))
          exact ⟨hs8.extBut _ _ (n3 p hp).1 z.1, z.2⟩
      · obtain rfl : i = n := Nat.le_antisymm hi (Nat.not_lt.mp hlt)
        refine W.done _ _ _ hst' fun q2 t2 hk2 => ?_
        exact hRR D C q2 t2 m' ys hR (LCg.fr_but F' hk2 hIL hI₀) (LCg.news_but N' hk2 offs) (hn'.at' fun o e => hk2 C o (by simpa using hI3.2.1.symm) e) hC₀ hCL hDC.symm fun p hp => (n3 p hp).2.1
    · rcases List.mem_cons.mp hp with rfl | hp
      · exact ⟨eD, hDL, hD₀⟩
      · exact ⟨e0 _ _ (N p hp).1, (N p hp).2⟩
  exact codeAny_compStart_list (loop _ rfl) (W.self 0 _ _ _ hst₁ (loop _ rfl))
/-- a range as a comprehension's source -/
def RangeSrc (h₀ : Heap) (L : Addr) (m : Str → Option Value) (news : List (Addr × Obj)) (s : Shared) (a : Int) (n : Nat) (xv : Value) (s₁ : Shared) : Prop :=
  (∃ r b t u v, xv = .ref r ∧ IsRange s₁.heap r a b 1 t u v ∧ Builtin.Range.small a b 1 = true ∧ Builtin.Range.rangeSize a b 1 = ((n : Nat) : Int)) ∧ Fr h₀ L s₁.heap m ∧ News h₀ L s₁.heap news ∧ ∃ h' tk', s₁ = { s with heap := h', toks := tk' }
/-- a name is bound to a comprehension over a range, of which the name is a cell -/
theorem Assign_ListComp_C {elt iter : PySem.Expr} {x y : Str} {px py : Pos} {scope : Scope} {cl : List (Str × Addr)} {pos spos : Pos} {a : Int} {n : Nat} {R : Nat → List Value → Prop} {news : List (Addr × Obj)} {Q : Flow → Shared → Prop}
    (hLe : env.locals = L) (hsw : swapsWith (.ListComp elt [⟨.Name x px, iter, [], 0⟩] scope pos) (some (.Name y py)) spos.line env = pure true) (hh : A.handled = none)
    (hclos : closureFor scope env = pure cl) (hcf : ∀ n, cellsFrom n scope.names cl = (x, n) :: cl) (hpc : ∀ h, pushCells h scope.names = h.push { cls := .type "cell", data := .cell none })
    (hkind : scope.kind = .function) (hnames : ∀ z ∈ scope.names, z.2 = .local → scope.names.lookup z.1 = some .local) (hx : (relabel scope env).names.lookup x = some .cell)
    (hy : env.kindOf y = some .local) (hp : (env.scope.kind == .class || (env.scope.kind == .module && env.locals != env.globals)) = false) (hsz : n ≤ sizeLine) (r0 : R 0 [])
    (turn : ∀ i t I oI C oC c oc D ys h tk (E' : Value → Shared → Prop), i < n → R i ys → oc.data = .cell (some (.int (a + (i : Int)) t)) → Fr h₀ L h m → News h₀ L h ((I, oI) :: (C, oC) :: (c, oc) :: (D, LCg.lst ys) :: news) →
      wpAny (model prog w) A (eval elt (compEnvC scope ((x, c) :: cl) C env)) (EltEndC h₀ L m s ((I, oI) :: (C, oC) :: (c, oc) :: (D, LCg.lst ys) :: news) fun y => R (i + 1) (ys ++ [y])) E' { s with heap := h, toks := tk })
    (fin : ∀ D ys h tk, R n ys → Fr h₀ L h (fun z => if z = y then some (.ref D) else m z) → News h₀ L h ((D, LCg.lst ys) :: news) → Q .next { s with heap := h, toks := tk })
    (h : wpAny (model prog w) A (eval iter env) (RangeSrc h₀ L m news s a n) E s)
    (hs : ∀ x, foldedSetIterable iter env x = pure x := by intro _; rfl) :
    wpAny (model prog w) A (exec (.Assign [.Name y py] (.ListComp elt [⟨.Name x px, iter, [], 0⟩] scope pos) spos) env) Q E s := by
  subst hLe
  rw [exec_Assign_Name_used _ _ _ _ hsw]
  refine wpAny_bind (wpAny_standAt (wpAny_bind ?_))
  show wpAny _ A (do let _ ← comprehension (.ListComp elt [⟨.Name x px, iter, [], 0⟩] scope pos) scope env _ (newList []) false (eval iter env) (some (assign (.Name y py) env))) _ _ s
  refine wpAny_bind (wpAny_mono (wpAny_comprehension_free (use := some (assign (.Name y py) env)) (Q := fun _ s' => Q .next s') rfl hs hclos hkind hnames
    (wpAny_mono h (fun xv s₁ h₁ => ?_) fun _ _ e => e)) (fun _ s' hq => wpAny_pure (wpAny_pure hq)) fun _ _ e => e)
  obtain ⟨⟨r, b, t, u, v, rfl, hr, hsm, hn⟩, F, N, g, tk', rfl⟩ := h₁
  refine wpAny_pyIter_range hr hsm ?_
  refine block_C (s₂ := _) hh hsz hcf hpc hkind hx (by show IsRangeIter _ _ _ _ _; rw [hn]; simpa using Heap.get?_push_size _ rfl) (F.keeps fun _ _ e => Heap.get?_push_of_some _ e) (N.grown fun _ _ e => Heap.get?_push_of_some _ e)
    (Nat.ne_of_lt F.ns.lt) (next_is_new F) (fun p hp => Nat.ne_of_lt (Heap.lt_size (N p hp).1)) r0 (fun i t oI C oC c oc D ys h tk E' => turn i t _ oI C oC c oc D ys h tk E') ?_
  intro D C h' tk m' ys hR F' N' hn' hC₀ hCL hCD offC
  show wpAny _ A (assign (.Name y py) env (.ref D)) _ _ _
  refine wpAny_assign_Name (wpAny_storeName_local hy F'.ns (fun h₂ hn₂ hs₂ => ?_) hp)
  have hL₀ : h₀.get? env.locals = none := Heap.get?_none_of_le F'.above
  have F₂ : Fr h₀ env.locals h₂ (fun z => if z = y then some (.ref D) else m z) := ⟨hn₂, fun b o e => hs₂.extBut b o (fun q => by rw [q, hL₀] at e; cases e) (F'.keep b o e), F'.above⟩
  refine ⟨m', hn'.sameBut hs₂ hCL, fun h'' hs'' => fin D ys h'' _ hR (F₂.change hs'' hCL hC₀) (fun p hp => ?_)⟩
  have z : h₂.get? p.1 = some p.2 := hs₂.extBut _ _ (N' p hp).2.1 (N' p hp).1
  refine ⟨hs''.extBut _ _ ?_ z, (N' p hp).2⟩
  rcases List.mem_cons.mp hp with rfl | hp
  · exact Ne.symm hCD
  · exact offC p hp
end
end Mine

end
section
set_option maxRecDepth 100000
set_option linter.unusedVariables false
set_option maxHeartbeats 1000000
namespace Mine
open PySem PySem.W PySem.Calls PySem.Spec PyProof.Rows
section lawH
/-- a sum of powers of the places moved -/
def powS (mv : Nat) (l : List Nat) (k : Nat) : Int := (l.map fun n : Nat => ((n : Int) + (mv : Int)) ^ k).sum
def gapV (mv : Nat) (hl tl : List Nat) (k : Nat) : Int := powS mv hl k - powS mv tl k
theorem ints_range {f : Nat → Int} {i : Nat} {ys : List Value} {k : Int} {t : Tok} (h : IntsAre ys ((List.range i).map f)) (hk : k = f i) : IntsAre (ys ++ [Value.int k t]) ((List.range (i + 1)).map f) := by
  rw [List.range_succ, List.map_append, hk]
  exact ksk_snoc h
theorem ints_take {f : Nat → Int} {l : List Nat} {i n : Nat} {ys : List Value} {k : Int} {t : Tok} (h : IntsAre ys ((l.take i).map f)) (hl : l[i]? = some n) (hk : k = f n) : IntsAre (ys ++ [Value.int k t]) ((l.take (i + 1)).map f) := by
  rw [List.take_add_one, hl, List.map_append, hk]
  exact ksk_snoc h
theorem bits_le {a : Int} (h : a.natAbs < 2 ^ 200) : Builtin.Int.intBits a ≤ 200 := by
  unfold Builtin.Int.intBits
  split
  · omega
  · rename_i h0
    have hne : a.natAbs ≠ 0 := by
      intro e
      exact h0 (beq_iff_eq.mpr (Int.natAbs_eq_zero.mp e))
    exact (Nat.log2_lt hne).mpr h
theorem pow_room {x mv i t : Nat} (hx : x ≤ 16) (hmv : mv < 10 ^ 40) (hi : i < t + 1) (ht : t ≤ 4) : (Builtin.Int.intBits ((x : Int) + (mv : Int)) : Int) * (i : Int) ≤ 2 ^ 27 := by
  have hb : Builtin.Int.intBits ((x : Int) + (mv : Int)) ≤ 200 := bits_le (by
    rw [show ((x : Int) + (mv : Int)).natAbs = x + mv by omega]
    exact Nat.lt_of_lt_of_le (Nat.add_lt_add_of_le_of_lt hx hmv) (by decide))
  have h1 : (Builtin.Int.intBits ((x : Int) + (mv : Int)) : Int) * (i : Int) ≤ 200 * (i : Int) := Int.mul_le_mul_of_nonneg_right (by omega) (by omega)
  omega
local macro_rules | `(tactic| walk_at "no such step") => `(tactic| (refine halt ?_))
local macro_rules | `(tactic| walk_at "no such step") => `(tactic| (refine halt ?_))
local macro_rules | `(tactic| walk_at "no such step") => `(tactic| (refine halt ?_))
local macro_rules | `(tactic| walk_at "no such step") => `(tactic| (refine halt ?_))
local macro_rules | `(tactic| walk_at "no such step") => `(tactic| (refine halt ?_))
local macro_rules | `(tactic| walk_at "no such step") => `(tactic| (refine halt ?_))
local macro_rules | `(tactic| walk_at "no such step") => `(tactic| (refine halt ?_))
local macro_rules | `(tactic| walk_at "no such step") => `(tactic| (refine halt ?_))
local macro_rules | `(tactic| walk_at "no such step") => `(tactic| (refine halt ?_))
local macro_rules | `(tactic| walk_at "no such step") => `(tactic| (refine halt ?_))
local macro_rules | `(tactic| walk_at "no such step") => `(tactic| (refine halt ?_))
local macro_rules | `(tactic| walk_at "eval ListComp") => `(tactic| (refine halt ?_))
local macro_rules | `(tactic| walk_at "exec Assign cons ListComp") => `(tactic| (refine halt ?_))
local macro_rules | `(tactic| walk_at "CompSrc") => `(tactic| (refine halt ?_))
local macro_rules | `(tactic| walk_at "binaryOp Pow int int") => `(tactic| (refine halt ?_))
local macro_rules | `(tactic| walk_at "execs cons") => `(tactic| ((with_reducible show wpAny _ _ (execs (PySem.Stmt.Assign [PySem.Expr.Name (Str.ofString "due") _] _ _ :: _) _) _ _ _); refine halt ?_))
theorem lawH {prog : Program} {w : World} {p : Program} {loose : List Str} {mean : ExcName → Option Value} {mg mb : Str → Option Value} {dp un : Nat} {gd : Option (List Code)} {fa : Addr} {cd : Value} {base h₀ : Heap} {L Dh Dt : Addr} {m : Str → Option Value} {s : Shared} {hs ts : List Value} {kh kt t mv : Nat} {tt tw tm : Tok} {hl tl wl : List Nat} {o1 o2 o3 : Obj} {ps : Array Value} {Q : Flow → Shared → Prop} {E : Value → Shared → Prop}
    (B : Below callerA base [] h₀) (F : Fr h₀ L s.heap m)
    (X : (K1 w.params).In h₀) (T : Top p loose mean mg mb h₀) (N : News h₀ L s.heap [(Dh, listOf hs.toArray kh), (Dt, listOf ts.toArray kt), (L + 1 + 1 + 1, o3), (L + 1 + 1, o2), (L + 1, o1), (126, tabObj ps)]) (l1 : 126 < L) (d1 : o1.data = .cell (some (.ref Dh))) (d2 : o2.data = .cell (some (.ref Dt))) (d3 : o3.data = .cell (some (.int (mv : Int) tm)))
    (hIh : IntsAre hs (hl.map fun x : Nat => (x : Int))) (hIt : IntsAre ts (tl.map fun x : Nat => (x : Int))) (hzh : hl.length ≤ 16) (hzt : tl.length ≤ 16) (hbh : ∀ n ∈ hl, n ≤ 16) (hbt : ∀ n ∈ tl, n ≤ 16) (hmv : mv < 10 ^ 40) (ht1 : 1 ≤ t) (ht2 : t ≤ 4)
    (hm3 : m (Str.ofString "times") = some (.int (t : Int) tt)) (hm4 : m (Str.ofString "word") = some (.str (Sx wl) tw)) (hd : dp + 10 < recursionLimit) (hu : un + 100 < cLine)
    (next : ∀ h' tk' m' Dg gs kg, Fr h₀ L h' m' → News h₀ L h' [(Dg, listOf (List.toArray gs) kg), (126, tabObj ps)] → IntsAre gs ((List.range (t + 1)).map (gapV mv hl tl)) →
      m' (Str.ofString "gaps") = some (.ref Dg) → m' (Str.ofString "times") = some (.int (t : Int) tt) → m' (Str.ofString "word") = some (.str (Sx wl) tw) →
      wpAny (model prog w) (ktrTop dp un gd (Str.ofString "law") (fScope st16) L fa cd (lawCl L) []) (execs ((fBody st16).drop 12) (envX (Str.ofString "law") (fScope st16) L fa cd (lawCl L))) Q E { s with heap := h', toks := tk' }) :
    wpAny (model prog w) (ktrTop dp un gd (Str.ofString "law") (fScope st16) L fa cd (lawCl L) []) (execs ((fBody st16).drop 11) (envX (Str.ofString "law") (fScope st16) L fa cd (lawCl L))) Q E s := by
  w_on
  k_with_none
  w_strict (
    revert B F X T N l1 d1 d2 d3 hIh hIt hzh hzt hbh hbt hmv ht1 ht2 hm3 hm4 hd hu next
    refine (fun (h : PySem.Challenge.rw_re0150_02 = PySem.Challenge.rw_re0150_02 → _) => h rfl) ?_
    k_fill
    intro kk9
    clear kk9
    intro B F₀ X T N l1 d1 d2 d3 hIh hIt hzh hzt hbh hbt hmv ht1 ht2 hm3 hm4 hd hu next
    have F := fr_know [(Str.ofString "times", .int (t : Int) tt), (Str.ofString "word", .str (Sx wl) tw)] (by intro q hq; rcases List.mem_cons.mp hq with rfl | hq; exact hm3; rcases List.mem_cons.mp hq with rfl | hq; exact hm4; cases hq) F₀
    clear F₀
    dsimp only [fBody, fScope, st16, nthS, PySem.Challenge.pw_re0150_02, lawCl, List.drop]
    k_steps
    refine go_on ?_
    k_dflt (refine Assign_ListComp_C (n := t + 1) (a := 0) (R := fun i ys => IntsAre ys ((List.range i).map (gapV mv hl tl))) (news := [(Dh, listOf hs.toArray kh), (Dt, listOf ts.toArray kt), (L + 1 + 1 + 1, o3), (L + 1 + 1, o2), (L + 1, o1), (126, tabObj ps)]) (m := kstB m [(Str.ofString "times", .int (t : Int) tt), (Str.ofString "word", .str (Sx wl) tw)]) (h₀ := h₀) (L := L) rfl (by with_unfolding_all rfl) rfl (by with_unfolding_all rfl) (fun _ => rfl) (fun _ => rfl) rfl (by decide) (by rfl) (by rfl) (by rfl) ?_ .nil ?_ ?_ ?_)
    · exact Nat.le_trans (Nat.succ_le_succ ht2) (Nat.le_of_ble_eq_true rfl)
    · intro i tk9 I oI C oC c oc D ys h tk E' hi hR hdc F9 N9
      rw [Int.zero_add] at hdc
      (try dsimp only)
      k_steps
      refine go_on ?_
      k_dflt (refine LCg.ListComp_U (F₀ := F9) (by with_unfolding_all rfl) (by decide) (by rfl) (by decide) (by rfl) ?_)
      k_steps
      refine go_on ?_
      (try dsimp only)
      k_dflt (refine LCg.CompSrc.ledger rfl F9 N9 (.tail _ (.tail _ (.tail _ (.tail _ (.head _))))) ?_ (fun g9 => restU (S := LCg.SrcAt h₀ Dh hs.toArray) ?_ (n := hs.toArray.size) (R := fun j zs => IntsAre zs ((hl.take j).map (fun n : Nat => ((n : Int) + (mv : Int)) ^ i))) ?_ ?_ _ 0 [] (Nat.zero_add _) .nil))
      · rw [List.size_toArray, hIh.length, List.length_map]; exact Nat.le_trans hzh (Nat.le_of_ble_eq_true rfl)
      · exact .inr ⟨_, (.tail _ (.tail _ (.tail _ (.tail _ (.head _))))), rfl, _, rfl⟩
      · intro j v C2 oC2 D2 m2 zs h2 tk2 E2 hv hR2 hC2 hx2 F5 N5
        obtain ⟨k, t3, hk, hk2⟩ := IntsAre.at hIh j v (by simpa using hv)
        subst hk
        rw [List.getElem?_map] at hk2
        obtain ⟨x, hxi, hxk⟩ := Option.map_eq_some_iff.mp hk2
        subst hxk
        have hx16 := hbh x (List.mem_of_getElem? hxi)
        clear hk2 hv
        (try dsimp only)
        k_steps
        refine go_on ?_
        k_dflt (refine pow_int (Int.natCast_nonneg i) (pow_room hx16 hmv hi ht2) ?_)
        k_dflt (exact ⟨_, _, rfl, fun _ _ e => e, ints_take hR2 hxi (by rw [Int.toNat_natCast])⟩)
      · intro zs hz3
        rw [List.take_of_length_le (by rw [List.size_toArray, hIh.length, List.length_map]; exact Nat.le_refl _)] at hz3
        intro D3 h3 tk3 F3 N3 o3'
        (try dsimp only)
        k_steps
        refine go_on ?_
        (rename News _ _ _ _ => N4)
        (rename Fr _ _ _ _ => F4)
        clear N3 F3
        k_dflt (refine LCg.ListComp_U (F₀ := F4) (by with_unfolding_all rfl) (by decide) (by rfl) (by decide) (by rfl) ?_)
        k_steps
        refine go_on ?_
        (try dsimp only)
        k_dflt (refine LCg.CompSrc.ledger rfl F4 N4 (.tail _ (.tail _ (.tail _ (.tail _ (.tail _ (.tail _ (.head _))))))) ?_ (fun g9 => restU (S := LCg.SrcAt h₀ Dt ts.toArray) ?_ (n := ts.toArray.size) (R := fun j zs => IntsAre zs ((tl.take j).map (fun n : Nat => ((n : Int) + (mv : Int)) ^ i))) ?_ ?_ _ 0 [] (Nat.zero_add _) .nil))
        · rw [List.size_toArray, hIt.length, List.length_map]; exact Nat.le_trans hzt (Nat.le_of_ble_eq_true rfl)
        · exact .inr ⟨_, (.tail _ (.tail _ (.tail _ (.tail _ (.tail _ (.tail _ (.head _))))))), rfl, _, rfl⟩
        · intro j v C2 oC2 D2 m2 zs h2 tk2 E2 hv hR2 hC2 hx2 F5 N5
          obtain ⟨k, t3, hk, hk2⟩ := IntsAre.at hIt j v (by simpa using hv)
          subst hk
          rw [List.getElem?_map] at hk2
          obtain ⟨x, hxi, hxk⟩ := Option.map_eq_some_iff.mp hk2
          subst hxk
          have hx16 := hbt x (List.mem_of_getElem? hxi)
          clear hk2 hv
          (try dsimp only)
          k_steps
          refine go_on ?_
          k_dflt (refine pow_int (Int.natCast_nonneg i) (pow_room hx16 hmv hi ht2) ?_)
          k_dflt (exact ⟨_, _, rfl, fun _ _ e => e, ints_take hR2 hxi (by rw [Int.toNat_natCast])⟩)
        · intro zt hz5
          rw [List.take_of_length_le (by rw [List.size_toArray, hIt.length, List.length_map]; exact Nat.le_refl _)] at hz5
          intro D5 h5 tk5 F5 N5 o5'
          (try dsimp only)
          k_steps
          (rename News _ _ _ _ => N6)
          (rename Fr _ _ _ _ => F6)
          k_dflt (exact ⟨_, _, rfl, F6, news_sub N6 (fun q hq => .tail _ (.tail _ hq)), ints_range hR rfl⟩)
    · intro D ys h tk hR F9 N9
      (try dsimp only)
      k_steps
      refine go_on ?_
      (rename News _ _ _ _ => N3)
      (rename Fr _ _ _ _ => F3)
      k_dflt (exact next _ _ _ D ys _ F3 (news_sub N3 (fun q hq => by rcases List.mem_cons.mp hq with rfl | hq; exact .head _; rw [List.mem_singleton.mp hq]; k_mem)) hR rfl rfl rfl)
    · k_steps
      (rename IsRange _ _ _ _ _ _ _ _ => rg)
      (rename News _ _ _ _ => N3)
      (rename Fr _ _ _ _ => F3)
      k_dflt (exact ⟨⟨_, _, _, _, _, rfl, rg, small_one (by omega) (by omega) (by omega) (by omega), (rangeSize_nat _ _).trans (by omega)⟩, F3, N3, _, _, rfl⟩))
end lawH
end Mine

end
section
set_option maxRecDepth 100000
set_option linter.unusedVariables false
set_option maxHeartbeats 1000000
namespace Mine
open PySem PySem.W PySem.Calls PySem.Spec PyProof.Rows
section lawI
/-- what is due -/
def dueF (t : Nat) : Int := [0, -1, 4, -48, 1536].getD t 0
def dueL (t : Nat) (wl : List Nat) : List Int := List.replicate t 0 ++ [dueF t * (Txt.count (Sx wl) (Str.ofString "h") - Txt.count (Sx wl) (Str.ofString "p"))]
theorem due1 (wl : List Nat) : dueL 1 wl = [0, -1 * (Txt.count (Sx wl) (Str.ofString "h") - Txt.count (Sx wl) (Str.ofString "p"))] := rfl
theorem due2 (wl : List Nat) : dueL 2 wl = [0, 0, 4 * (Txt.count (Sx wl) (Str.ofString "h") - Txt.count (Sx wl) (Str.ofString "p"))] := rfl
theorem due3 (wl : List Nat) : dueL 3 wl = [0, 0, 0, -48 * (Txt.count (Sx wl) (Str.ofString "h") - Txt.count (Sx wl) (Str.ofString "p"))] := rfl
theorem due4 (wl : List Nat) : dueL 4 wl = [0, 0, 0, 0, 1536 * (Txt.count (Sx wl) (Str.ofString "h") - Txt.count (Sx wl) (Str.ofString "p"))] := rfl
local macro_rules | `(tactic| walk_at "no such step") => `(tactic| (refine halt ?_))
local macro_rules | `(tactic| walk_at "no such step") => `(tactic| (refine halt ?_))
local macro_rules | `(tactic| walk_at "no such step") => `(tactic| (refine halt ?_))
local macro_rules | `(tactic| walk_at "no such step") => `(tactic| (refine halt ?_))
local macro_rules | `(tactic| walk_at "no such step") => `(tactic| (refine halt ?_))
local macro_rules | `(tactic| walk_at "no such step") => `(tactic| (refine halt ?_))
local macro_rules | `(tactic| walk_at "no such step") => `(tactic| (refine halt ?_))
local macro_rules | `(tactic| walk_at "no such step") => `(tactic| (refine halt ?_))
local macro_rules | `(tactic| walk_at "no such step") => `(tactic| (refine halt ?_))
local macro_rules | `(tactic| walk_at "no such step") => `(tactic| (refine halt ?_))
local macro_rules | `(tactic| walk_at "no such step") => `(tactic| (refine halt ?_))
local macro_rules | `(tactic| walk_at "no such step") => `(tactic| (refine halt ?_))
local macro_rules | `(tactic| walk_at "no such step") => `(tactic| (refine halt ?_))
local macro_rules | `(tactic| walk_at "no such step") => `(tactic| (refine halt ?_))
local macro_rules | `(tactic| walk_at "no such step") => `(tactic| (refine halt ?_))
local macro_rules | `(tactic| walk_at "no such step") => `(tactic| (refine halt ?_))
local macro_rules | `(tactic| walk_at "compareOp Eq ref ref") => `(tactic| (refine halt ?_))
theorem lawI {prog : Program} {w : World} {p : Program} {loose : List Str} {mean : ExcName → Option Value} {mg mb : Str → Option Value} {dp un : Nat} {gd : Option (List Code)} {fa : Addr} {cd : Value} {base h₀ : Heap} {L Dg : Addr} {m : Str → Option Value} {s : Shared} {gs : List Value} {kg t : Nat} {tt tw : Tok} {wl : List Nat} {ks : List Int} {ps : Array Value} {Q : Flow → Shared → Prop} {E : Value → Shared → Prop}
    (B : Below callerA base [] h₀) (F : Fr h₀ L s.heap m)
    (X : (K1 w.params).In h₀) (T : Top p loose mean mg mb h₀) (N : News h₀ L s.heap [(Dg, listOf gs.toArray kg), (126, tabObj ps)]) (l1 : 126 < L)
    (hIg : IntsAre gs ks) (hks : ks = dueL t wl) (ht1 : 1 ≤ t) (ht2 : t ≤ 4) (hwl : wl.length ≤ 8)
    (hm : m (Str.ofString "gaps") = some (.ref Dg)) (hm3 : m (Str.ofString "times") = some (.int (t : Int) tt)) (hm4 : m (Str.ofString "word") = some (.str (Sx wl) tw)) (hd : dp + 10 < recursionLimit) (hu : un + 100 < cLine)
    (hret : ∀ h' tk', (∀ b o, h₀.get? b = some o → h'.get? b = some o) → GrownAt 126 h' → Q (.ret (.bool true)) { s with heap := h', toks := tk' }) :
    wpAny (model prog w) (ktrTop dp un gd (Str.ofString "law") (fScope st16) L fa cd (lawCl L) []) (execs ((fBody st16).drop 12) (envX (Str.ofString "law") (fScope st16) L fa cd (lawCl L))) Q E s := by
  w_on
  k_with_none
  w_strict (
    revert B F X T N l1 hIg hks ht1 ht2 hwl hm hm3 hm4 hd hu hret
    refine (fun (h : PySem.Challenge.rw_re0150_02 = PySem.Challenge.rw_re0150_02 → _) => h rfl) ?_
    k_fill
    intro kk9
    clear kk9
    intro B F₀ X T N l1 hIg hks ht1 ht2 hwl hm hm3 hm4 hd hu hret
    have F := fr_know [(Str.ofString "gaps", .ref Dg), (Str.ofString "times", .int (t : Int) tt), (Str.ofString "word", .str (Sx wl) tw)] (by intro q hq; rcases List.mem_cons.mp hq with rfl | hq; exact hm; rcases List.mem_cons.mp hq with rfl | hq; exact hm3; rcases List.mem_cons.mp hq with rfl | hq; exact hm4; cases hq) F₀
    clear F₀
    dsimp only [fBody, fScope, st16, nthS, PySem.Challenge.pw_re0150_02, lawCl, List.drop]
    have h4 : t = 1 ∨ t = 2 ∨ t = 3 ∨ t = 4 := by omega
    rcases h4 with rfl | rfl | rfl | rfl
    all_goals k_steps
    all_goals (refine go_on ?_)
    all_goals (rename News _ _ _ _ => N9)
    all_goals (rename Fr _ _ _ _ => F9)
    all_goals (k_dflt (refine ke_eq_ints (by is_list) (by is_list) (by l_ints) (by l_ints) (by show un + 64 < cLine; omega) ?_))
    · rw [decide_eq_true (hks.trans (due1 wl))]
      k_dflt (exact hret _ _ F9.keep (GrownAt.of (ps := ps) N9 (by k_mem)))
    · rw [decide_eq_true (hks.trans (due2 wl))]
      k_dflt (exact hret _ _ F9.keep (GrownAt.of (ps := ps) N9 (by k_mem)))
    · rw [decide_eq_true (hks.trans (due3 wl))]
      k_dflt (exact hret _ _ F9.keep (GrownAt.of (ps := ps) N9 (by k_mem)))
    · rw [decide_eq_true (hks.trans (due4 wl))]
      k_dflt (exact hret _ _ F9.keep (GrownAt.of (ps := ps) N9 (by k_mem))))
end lawI
end Mine

end
section
set_option maxRecDepth 100000
set_option linter.unusedVariables false
namespace Mine
open PySem PySem.W PyProof.Rows
/-- all words of a length -/
def allW : Nat → List (List Nat)
  | 0 => [[]]
  | n + 1 => (allW n).map (104 :: ·) ++ (allW n).map (112 :: ·)
theorem mem_allW : ∀ (l : List Nat), HP l → l ∈ allW l.length
  | [], _ => .head _
  | c :: l, h => by
    have ih := mem_allW l fun x hx => h x (.tail _ hx)
    rcases h c (.head _) with rfl | rfl
    · exact List.mem_append_left _ (List.mem_map.mpr ⟨l, ih, rfl⟩)
    · exact List.mem_append_right _ (List.mem_map.mpr ⟨l, ih, rfl⟩)
/-- a moment -/
def momS (l : List Nat) (j : Nat) : Int := (l.map fun n : Nat => (n : Int) ^ j).sum
def hpC (wl : List Nat) : Int := (Mine.cnt 104 wl : Int) - (Mine.cnt 112 wl : Int)
def chkH (t : Nat) (wl hs ts : List Nat) : Bool := (hs ++ ts).isPerm (List.range 16) && ((List.range t).all fun j => momS hs j == momS ts j) && (momS hs t - momS ts t == dueF t * hpC wl)
def chkT (t : Nat) (wl : List Nat) : Bool := chkH t wl (placesL (dblN t wl) 104) (placesL (dblN t wl) 112)
def chkP (p : List Nat) : Bool := (allW 4).all fun s => chkT 1 (p ++ s)
theorem ct4 : (allW 1).all (chkT 4) = true := by decide +kernel
theorem ct3 : (allW 2).all (chkT 3) = true := by decide +kernel
theorem ct2 : (allW 4).all (chkT 2) = true := by decide +kernel
theorem cw0 : chkP [104, 104, 104, 104] = true := by decide +kernel
theorem cw1 : chkP [104, 104, 104, 112] = true := by decide +kernel
theorem cw2 : chkP [104, 104, 112, 104] = true := by decide +kernel
theorem cw3 : chkP [104, 104, 112, 112] = true := by decide +kernel
theorem cw4 : chkP [104, 112, 104, 104] = true := by decide +kernel
theorem cw5 : chkP [104, 112, 104, 112] = true := by decide +kernel
theorem cw6 : chkP [104, 112, 112, 104] = true := by decide +kernel
theorem cw7 : chkP [104, 112, 112, 112] = true := by decide +kernel
theorem cw8 : chkP [112, 104, 104, 104] = true := by decide +kernel
theorem cw9 : chkP [112, 104, 104, 112] = true := by decide +kernel
theorem cw10 : chkP [112, 104, 112, 104] = true := by decide +kernel
theorem cw11 : chkP [112, 104, 112, 112] = true := by decide +kernel
theorem cw12 : chkP [112, 112, 104, 104] = true := by decide +kernel
theorem cw13 : chkP [112, 112, 104, 112] = true := by decide +kernel
theorem cw14 : chkP [112, 112, 112, 104] = true := by decide +kernel
theorem cw15 : chkP [112, 112, 112, 112] = true := by decide +kernel
theorem allW4 : allW 4 = [[104, 104, 104, 104], [104, 104, 104, 112], [104, 104, 112, 104], [104, 104, 112, 112], [104, 112, 104, 104], [104, 112, 104, 112], [104, 112, 112, 104], [104, 112, 112, 112], [112, 104, 104, 104], [112, 104, 104, 112], [112, 104, 112, 104], [112, 104, 112, 112], [112, 112, 104, 104], [112, 112, 104, 112], [112, 112, 112, 104], [112, 112, 112, 112]] := by decide
theorem chk_one {l : List Nat} (hl : l.length = 8) (h : HP l) : chkT 1 l = true := by
  have h1 := mem_allW (l.take 4) fun c hc => h c (List.mem_of_mem_take hc)
  have h2 := mem_allW (l.drop 4) fun c hc => h c (List.mem_of_mem_drop hc)
  rw [List.length_take, hl] at h1
  rw [List.length_drop, hl] at h2
  have hp : chkP (l.take 4) = true := by
    generalize l.take 4 = p at h1
    rw [show min 4 8 = 4 from rfl, allW4] at h1
    simp only [List.mem_cons, List.not_mem_nil, or_false] at h1
    rcases h1 with rfl | rfl | rfl | rfl | rfl | rfl | rfl | rfl | rfl | rfl | rfl | rfl | rfl | rfl | rfl | rfl
    · exact cw0
    · exact cw1
    · exact cw2
    · exact cw3
    · exact cw4
    · exact cw5
    · exact cw6
    · exact cw7
    · exact cw8
    · exact cw9
    · exact cw10
    · exact cw11
    · exact cw12
    · exact cw13
    · exact cw14
    · exact cw15
  have hc := List.all_eq_true.mp hp _ h2
  rw [List.take_append_drop] at hc
  exact hc
theorem chk_all {t : Nat} {l : List Nat} (h1 : 1 ≤ t) (h2 : t ≤ 4) (hl : l.length = 16 / 2 ^ t) (h : HP l) : chkT t l = true := by
  have hm := mem_allW l h
  rw [hl] at hm
  have ht : t = 1 ∨ t = 2 ∨ t = 3 ∨ t = 4 := by omega
  rcases ht with rfl | rfl | rfl | rfl
  · exact chk_one hl h
  · exact List.all_eq_true.mp ct2 _ hm
  · exact List.all_eq_true.mp ct3 _ hm
  · exact List.all_eq_true.mp ct4 _ hm
/-- mixed powers -/
def mixS (mv : Int) (l : List Nat) (j k : Nat) : Int := (l.map fun n : Nat => (n : Int) ^ j * ((n : Int) + mv) ^ k).sum
theorem mix_step (mv : Int) (j k : Nat) : ∀ l : List Nat, mixS mv l j (k + 1) = mixS mv l (j + 1) k + mv * mixS mv l j k
  | [] => by simp [mixS]
  | n :: l => by
    have ih := mix_step mv j k l
    unfold mixS at ih ⊢
    rw [List.map_cons, List.map_cons, List.map_cons, List.sum_cons, List.sum_cons, List.sum_cons, ih, Int.mul_add]
    have e : (n : Int) ^ j * ((n : Int) + mv) ^ (k + 1) = (n : Int) ^ (j + 1) * ((n : Int) + mv) ^ k + mv * ((n : Int) ^ j * ((n : Int) + mv) ^ k) := by
      rw [Int.pow_succ, Int.pow_succ, Int.mul_add, Int.mul_add]
      congr 1
      · rw [Int.mul_assoc, Int.mul_comm (((n : Int) + mv) ^ k) (n : Int)]
      · rw [← Int.mul_assoc, Int.mul_comm]
    omega
theorem mix_zero (mv : Int) (l : List Nat) (j : Nat) : mixS mv l j 0 = momS l j := by
  unfold mixS momS
  congr 1
  refine List.map_congr_left fun n _ => ?_
  rw [Int.pow_zero, Int.mul_one]
theorem pow_mix (mv : Nat) (l : List Nat) (k : Nat) : powS mv l k = mixS mv l 0 k := by
  unfold powS mixS
  congr 1
  refine List.map_congr_left fun n _ => ?_
  rw [Int.pow_zero, Int.one_mul]
/-- like moments stay alike when moved, and the first that parts stays the same -/
theorem mix_same {mv : Int} {hs ts : List Nat} {t : Nat} (h : ∀ j, j < t → momS hs j = momS ts j) : ∀ k j, (j + k < t → mixS mv hs j k = mixS mv ts j k) ∧ (j + k = t → mixS mv hs j k - mixS mv ts j k = momS hs t - momS ts t)
  | 0, j => by
    rw [mix_zero, mix_zero]
    exact ⟨fun hj => h j hj, fun hj => by rw [show j = t from hj]⟩
  | k + 1, j => by
    have i1 := mix_same (mv := mv) h k (j + 1)
    have i2 := mix_same (mv := mv) h k j
    rw [mix_step, mix_step]
    refine ⟨fun hj => ?_, fun hj => ?_⟩
    · rw [i1.1 (by omega), i2.1 (by omega)]
    · have e1 := i1.2 (by omega)
      rw [i2.1 (by omega)]
      omega
theorem one_str {x c : Nat} : (Spec.same (.str ⟨#[x]⟩) (.str ⟨#[c]⟩)) = decide (x = c) := by
  unfold Spec.same
  by_cases h : x = c
  · subst h; simp
  · simp [h]
theorem count_hp (wl : List Nat) (c : Nat) : Txt.count (Sx wl) ⟨#[c]⟩ = (Mine.cnt c wl : Int) := by
  rw [count_is]
  show Spec.countIn _ (wl.map _) = _
  induction wl with
  | nil => rfl
  | cons x l ih =>
    rw [List.map_cons]
    show (if Spec.same (.str ⟨#[x]⟩) (.str ⟨#[c]⟩) then 1 else 0) + Spec.countIn _ (l.map _) = _
    rw [ih, one_str, Mine.cnt]
    by_cases h : x = c
    · simp [h]
    · simp [h]
theorem range_due {t : Nat} {f : Nat → Int} {d : Int} (h0 : ∀ k, k < t → f k = 0) (h1 : f t = d) : (List.range (t + 1)).map f = List.replicate t 0 ++ [d] := by
  rw [List.range_succ, List.map_append, List.map_singleton, h1]
  congr 1
  refine List.ext_getElem (by simp) fun i hi _ => ?_
  rw [List.length_map, List.length_range] at hi
  simp [h0 i hi]
/-- the plain law -/
theorem plain {t : Nat} {wl : List Nat} (h1 : 1 ≤ t) (h2 : t ≤ 4) (hl : wl.length = 16 / 2 ^ t) (h : HP wl) (mv : Nat) :
    (placesL (dblN t wl) 104 ++ placesL (dblN t wl) 112).Perm (List.range 16) ∧ (List.range (t + 1)).map (gapV mv (placesL (dblN t wl) 104) (placesL (dblN t wl) 112)) = dueL t wl := by
  have hc := chk_all h1 h2 hl h
  unfold chkT at hc
  generalize placesL (dblN t wl) 104 = hs at hc ⊢
  generalize placesL (dblN t wl) 112 = ts at hc ⊢
  unfold chkH at hc
  rw [Bool.and_eq_true, Bool.and_eq_true] at hc
  obtain ⟨⟨c1, c2⟩, c3⟩ := hc
  refine ⟨List.isPerm_iff.mp c1, range_due (fun k hk => ?_) ?_⟩
  all_goals have hj : ∀ j, j < t → momS hs j = momS ts j := fun j hj => beq_iff_eq.mp (List.all_eq_true.mp c2 j (List.mem_range.mpr hj))
  · unfold gapV
    rw [pow_mix, pow_mix, (mix_same hj k 0).1 (by omega)]
    omega
  · unfold gapV
    rw [pow_mix, pow_mix, (mix_same hj t 0).2 (by omega), beq_iff_eq.mp c3]
    unfold hpC
    rw [show Str.ofString "h" = ⟨#[104]⟩ from rfl, show Str.ofString "p" = ⟨#[112]⟩ from rfl, count_hp, count_hp]
theorem perm_small {hs ts : List Nat} (h : (hs ++ ts).Perm (List.range 16)) : hs.length ≤ 16 ∧ ts.length ≤ 16 ∧ (∀ n ∈ hs, n ≤ 16) ∧ ∀ n ∈ ts, n ≤ 16 := by
  have hl := h.length_eq
  rw [List.length_append, List.length_range] at hl
  have hm : ∀ n ∈ hs ++ ts, n < 16 := fun n hn => List.mem_range.mp (h.mem_iff.mp hn)
  exact ⟨by omega, by omega, fun n hn => Nat.le_of_lt (hm n (List.mem_append_left _ hn)), fun n hn => Nat.le_of_lt (hm n (List.mem_append_right _ hn))⟩
end Mine

end
section
set_option maxRecDepth 100000
set_option linter.unusedVariables false
set_option maxHeartbeats 1000000
namespace Mine
open PySem PySem.W PySem.Calls PySem.Spec PyProof.Rows
theorem lawAll {prog : Program} {w : World} {p : Program} {loose : List Str} {mean : ExcName → Option Value} {mg mb : Str → Option Value} {dp un : Nat} {gd : Option (List Code)} {fa : Addr} {cd : Value} {base h₀ : Heap} {L a : Addr} {m : Str → Option Value} {s : Shared} {vs : List Value} {ns : List Int} {o1 o2 o3 : Obj} {v1 v2 v3 : Option Value} {Q : Flow → Shared → Prop} {E : Value → Shared → Prop}
    (B : Below callerA base [] h₀) (F : Fr h₀ L s.heap m)
    (X : (K1 w.params).In h₀) (T : Top p loose mean mg mb h₀) (N : News h₀ L s.heap [(L + 1 + 1 + 1, o3), (L + 1 + 1, o2), (L + 1, o1), (126, tabObj #[])]) (l1 : 126 < L) (d1 : o1.data = .cell v1) (d2 : o2.data = .cell v2) (d3 : o3.data = .cell v3)
    (hm : m (Str.ofString "script") = some (.ref a)) (hL : h₀.IsList a vs.toArray) (hI : IntsAre vs ns) (hlen : ns.length ≤ 63) (hd : dp + 10 < recursionLimit) (hu : un + 100 < cLine)
    (hE : PassesOwn (model prog w) (ktrTop dp un gd (Str.ofString "law") (fScope st16) L fa cd (lawCl L) []) (envX (Str.ofString "law") (fScope st16) L fa cd (lawCl L)) E)
    (hret : ∀ h' tk', (∀ b o, h₀.get? b = some o → h'.get? b = some o) → GrownAt 126 h' → Q (.ret (.bool true)) { s with heap := h', toks := tk' }) :
    wpAny (model prog w) (ktrTop dp un gd (Str.ofString "law") (fScope st16) L fa cd (lawCl L) []) (execs (fBody st16) (envX (Str.ofString "law") (fScope st16) L fa cd (lawCl L))) Q E s := by
  with_reducible refine lawA B F X T N l1 hm hL hI hlen hd hu fun h1 k1 m1 D vs1 c xs F1 N1 a1 b1 hI1 hx1 hx2 => ?_
  with_reducible refine lawB B F1 X T N1 l1 a1 b1 hI1 hx1 hd hu fun h2 k2 m2 t tt F2 N2 a2 b2 c2 ht1 ht2 => ?_
  with_reducible refine lawC B F2 X T N2 l1 a2 b2 c2 ht1 ht2 hI1 hx1 hd hu fun h3 k3 m3 tw tx F3 N3 a3 b3 c3 e3 f3 => ?_
  have hwl : (wordL (xs.take (16 / 2 ^ t))).length = 16 / 2 ^ t := by
    unfold wordL
    rw [List.length_map, List.length_take, hx1]
    have h : t = 1 ∨ t = 2 ∨ t = 3 ∨ t = 4 := by omega
    rcases h with rfl | rfl | rfl | rfl <;> decide
  have hor := word_or (xs.take (16 / 2 ^ t))
  generalize wordL (xs.take (16 / 2 ^ t)) = wl at e3 f3 hwl hor
  have h16 : (dblN t wl).length = 16 := by
    rw [dblN_len, hwl]
    have h : t = 1 ∨ t = 2 ∨ t = 3 ∨ t = 4 := by omega
    rcases h with rfl | rfl | rfl | rfl <;> decide
  have hw8 : wl.length ≤ 8 := by
    rw [hwl]
    have h : t = 1 ∨ t = 2 ∨ t = 3 ∨ t = 4 := by omega
    rcases h with rfl | rfl | rfl | rfl <;> decide
  with_reducible refine lawD B F3 X T N3 l1 a3 b3 c3 e3 f3 ht1 ht2 hI1 hx1 hx2 hor hwl hd hu hE fun h4 k4 m4 tx4 F4 N4 a4 c4 e4 f4 => ?_
  with_reducible refine lawE B F4 X T N4 l1 d1 d2 a4 c4 e4 f4 h16 hd hu fun h5 k5 m5 Dh Dt hs ts kh kt ps o1' o2' F5 N5 d1' d2' hIh hIt a5 c5 e5 => ?_
  have hpm := (plain ht1 ht2 hwl hor 0).1
  obtain ⟨z1, z2, z3, z4⟩ := perm_small hpm
  with_reducible refine lawF B F5 X T N5 l1 d1' d2' hIh hIt a5 c5 e5 hpm z1 z2 hd hu fun h6 k6 m6 F6 N6 a6 c6 e6 => ?_
  with_reducible refine lawG B F6 X T N6 l1 d1' d2' d3 hL hI hlen a6 c6 e6 hd hu fun h7 k7 m7 o3' mv tm F7 N7 d3' hmv c7 e7 => ?_
  with_reducible refine lawH B F7 X T N7 l1 d1' d2' d3' hIh hIt z1 z2 z3 z4 hmv ht1 ht2 c7 e7 hd hu fun h8 k8 m8 Dg gs kg F8 N8 hIg g8 c8 e8 => ?_
  with_reducible exact lawI B F8 X T N8 l1 hIg (plain ht1 ht2 hwl hor mv).2 ht1 ht2 hw8 g8 c8 e8 hd hu hret
end Mine

end
set_option maxRecDepth 100000
set_option linter.unusedVariables false
set_option maxHeartbeats 4000000
open PySem PySem.W PySem.Calls PyProof.Rows
namespace Mine
def fPos : Stmt → Pos
  | .FunctionDef _ _ _ _ _ _ _ _ _ p => p
  | _ => default
def d16 : DefRec := ⟨Str.ofString "law", fParams st16, fBody st16, fScope st16, fPos st16⟩
theorem hdef16 : defOf view1 (Str.ofString "law") = some (d16, []) := by kernel_rfl
theorem hp16 : pw.theDef (Str.ofString "law") = some (d16.params, d16.body, d16.scope) := by kernel_rfl
end Mine
theorem PySem.Challenge.cw_re0150_02_holds : PySem.Challenge.rw_re0150_02.Holds := by
  w_on
  refine holds_law (by kernel_rfl) fun said => ?_
  refine holds_open (q := Mine.view1) (loose := Mine.loose1) (Xt := fun s => xlAt Mine.view1 [] s && recOk [] s) (XP := XL Mine.view1 []) (Yf := (kHook Mine.K1 Mine.as1 Mine.e1).obs) (Ya := (kHook Mine.K1 Mine.as1 Mine.e1).val) (YP := (kHook Mine.K1 Mine.as1 Mine.e1).says) (N := 60000) (d := Mine.d16) (kwd := []) Mine.left1 Mine.hook1.of Mine.hook1.keeps
    (fun s e => xl_of s (Bool.and_eq_true_iff.mp e).1) XL.keeps Mine.hdef16 Mine.hp16 (by rfl) (fun s e => recFacts_of (Bool.and_eq_true_iff.mp e).2) (by rfl) (by assumption) (by decide +kernel) ⟨rfl, rfl, rfl, rfl, rfl, by decide +kernel⟩ ?hw ?hc
  case hw => w_witness2
  w_strict (
    refine (fun (h : PySem.Challenge.rw_re0150_02 = PySem.Challenge.rw_re0150_02 → _) => h rfl) ?_
    k_fill
    intro kk9
    clear kk9
    intro w s₀ s₁ mg mb G Y fa o pm cd doc dV kV ho hd hcd hD hmg hg args vals as hpre hlay hrd hwl hlo
    have KX := kIn_of Y
    k_behind G ho hd hcd hD hmg hpre hlay hrd hwl hlo cd
    (rename Frag.In _ _ => X9)
    (rename Below _ _ _ _ => B9)
    (rename News _ _ _ _ => N9)
    (rename Fr _ _ _ _ => F9)
    (rename Top topProg _ _ _ _ _ => T9)
    (rename IntsAre _ _ => I9)
    (rename 126 < _ => l9)
    (rename ¬ _ < _ => c9)
    show wpAny _ (ktrTop (1 + claimMargin + 1) (4 + 3) (some []) (Str.ofString "law") (Mine.fScope Mine.st16) s₁.heap.objs.size fa cd (Mine.lawCl s₁.heap.objs.size) []) (execs (Mine.fBody Mine.st16) (envX (Str.ofString "law") (Mine.fScope Mine.st16) s₁.heap.objs.size fa cd (Mine.lawCl s₁.heap.objs.size))) _ _ _
    with_reducible refine Mine.lawAll (dp := 1 + claimMargin + 1) (un := 4 + 3) (gd := some []) B9 F9 X9 T9 N9 l9 (by assumption) (by assumption) (by assumption) ?hm lifted I9 ?hlen ?hd ?hu ?hE ?hret
    · with_unfolding_all rfl
    · omega
    · decide +kernel
    · decide +kernel
    · passes_own
    · intro h' tk' hk9 hg9
      refine ⟨?_, hg9, trivial⟩
      refine ⟨.inl ⟨.bool true, .bool true, [], rfl, raisesW_false ?_, .bool true, ?_, fun _ => ⟨List.nodup_nil, fun _ h => nomatch h⟩⟩, hk9, rfl, hg⟩
      · wrow_none_raised
      · kc_post)

