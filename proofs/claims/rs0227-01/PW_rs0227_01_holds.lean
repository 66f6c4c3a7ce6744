import PyProof.Rows.All
import Wide.All
import OpenK.AllK
import Wide.FinOn
import Lean
import PySem.Challenge.RW_rs0227_01
set_option Elab.async false
set_option compiler.extract_closed false
set_option maxRecDepth 100000
set_option linter.unusedVariables false
set_option linter.unusedSimpArgs false
namespace Mine
open PySem PySem.W PySem.Calls PyProof.Rows

theorem segGo_app {tb : String → Option Builtin} {p : Program} {w : World} {n₀ : Nat} {ann : Option Value} {b : Nat} : ∀ {n m : Nat} {s s₁ : Shared} {t t₁ : Thread} {r : Option (Shared × Thread)}, segGo tb p w n₀ ann b n s t = some (s₁, t₁) → segGo tb p w n₀ ann b m s₁ t₁ = r → segGo tb p w n₀ ann b (n + m) s t = r
  | 0, m, s, s₁, t, t₁, r, h, k => by
    obtain ⟨rfl, rfl⟩ : s = s₁ ∧ t = t₁ := by simpa [segGo] using h
    rw [Nat.zero_add]; exact k
  | n + 1, m, s, s₁, t, t₁, r, h, k => by
    rw [show n + 1 + m = n + m + 1 by grind]
    unfold segGo at h ⊢
    cases he : endAt b t with
    | some f => rw [he] at h; cases h
    | none =>
      rw [he] at h
      cases hk : stepOk n₀ ann t with
      | false => rw [hk] at h; cases h
      | true =>
        rw [hk] at h
        cases hs : step (denote tb) p w s t with
        | halt o s₂ => rw [hs] at h; cases h
        | go s₂ t₂ => rw [hs] at h; exact segGo_app h k

/-- where the machine runs -/
structure Mc where
  tb : String → Option Builtin
  p : Program
  w : World
  n₀ : Nat
  ann : Option Value
  b : Nat

noncomputable def SG (M : Mc) (i : Nat) (s : Shared) (t : Thread) (s' : Shared) (t' : Thread) : Prop := ∃ n, n ≤ i ∧ segGo M.tb M.p M.w M.n₀ M.ann M.b n s t = some (s', t')
theorem SG.refl {M : Mc} {s : Shared} {t : Thread} : SG M 0 s t s t := ⟨0, Nat.le_refl _, rfl⟩
theorem SG.trans {M : Mc} {i j : Nat} {s s₁ s₂ : Shared} {t t₁ t₂ : Thread} (h : SG M i s t s₁ t₁) (k : SG M j s₁ t₁ s₂ t₂) : SG M (i + j) s t s₂ t₂ := by
  obtain ⟨n, hn, h⟩ := h; obtain ⟨m, hm, k⟩ := k; exact ⟨n + m, Nat.add_le_add hn hm, segGo_app h k⟩
theorem SG.one {M : Mc} {s s' : Shared} {t t' : Thread} (he : endAt M.b t = none) (hk : stepOk M.n₀ M.ann t = true) (hs : step (denote M.tb) M.p M.w s t = .go s' t') : SG M 1 s t s' t' :=
  ⟨1, Nat.le_refl _, by unfold segGo; rw [he, hk, hs]; rfl⟩
theorem SG.le {M : Mc} {i j : Nat} {s s₁ : Shared} {t t₁ : Thread} (h : SG M i s t s₁ t₁) (hi : i ≤ j) : SG M j s t s₁ t₁ := let ⟨n, hn, h⟩ := h; ⟨n, Nat.le_trans hn hi, h⟩

/-- the tree comes from a state to a value and a state, whatever stands around it -/
noncomputable def Go {α : Type} (M : Mc) (i : Nat) (m : Sem α) (p : Pos) (s : Shared) (a : α) (p' : Pos) (s' : Shared) : Prop :=
  ∀ (K : α → Sem Fin) (H : Value → Sem Fin) (gd : Bool → Bool) (lv : List Value → List Value) (c : Code) (B : List Frame), M.b ≤ B.length → SG M i s ⟨m.wrap K H gd lv, c, p, B⟩ s' ⟨K a, c, p', B⟩

section
variable {α β : Type} {M : Mc} {i j k : Nat} {p p' p₁ p₂ : Pos} {s s' s₁ s₂ : Shared}
theorem Go.le {m : Sem α} {a : α} (h : Go M i m p s a p' s') (hi : i ≤ j) : Go M j m p s a p' s' := fun K H gd lv c B hB => (h K H gd lv c B hB).le hi
theorem Go.pure_ {a : α} : Go M 0 (pure a) p s a p s := fun K H gd lv c B hB => .refl
theorem Go.of_eq {m : Sem α} {a : α} (h : m = Pure.pure a) : Go M 0 m p s a p s := h ▸ Go.pure_
theorem Go.bind {m : Sem α} {f : α → Sem β} {a : α} {b : β} (h : Go M i m p s a p₁ s₁) (k : Go M j (f a) p₁ s₁ b p₂ s₂) : Go M (i + j) (m >>= f) p s b p₂ s₂ := fun K H gd lv c B hB => by
  rw [Sem.bind_eq_wrap', Sem.wrap_wrap]
  exact (h (fun a => (f a).wrap K H gd lv) (fun e => (Sem.raise e).wrap K H gd lv) _ _ c B hB).trans (k K H gd lv c B hB)
theorem Go.keep_ {m : Sem α} {vs : List Value} {a : α} (h : Go M i m p s a p₁ s₁) : Go M i (m.keep vs) p s a p₁ s₁ := fun K H gd lv c B hB => by
  rw [Sem.keep_eq_wrap, Sem.wrap_wrap]
  exact h K _ _ _ c B hB
theorem Go.holding_ {m : Sem α} {vs : List Value} {a : α} (h : Go M i m p s a p₁ s₁) : Go M i (holding vs m) p s a p₁ s₁ := by
  unfold PySem.holding
  split
  · exact h
  · exact h.keep_
theorem Go.onRaise_ {m : Sem α} {k : Value → Sem Unit} {a : α} (h : Go M i m p s a p₁ s₁) : Go M i (m.onRaise k) p s a p₁ s₁ := fun K H gd lv c B hB => by
  rw [Sem.onRaise_eq_wrap, Sem.wrap_wrap]
  exact h K _ _ _ c B hB
theorem Go.tryCatch_ {m : Sem α} {k : Value → Sem α} {a : α} (h : Go M i m p s a p₁ s₁) : Go M i (tryCatch m k) p s a p₁ s₁ := fun K H gd lv c B hB => by
  show SG M i s ⟨(Sem.tryCatch m k).wrap K H gd lv, c, p, B⟩ s₁ ⟨K a, c, p₁, B⟩
  rw [Sem.tryCatch_eq_wrap, Sem.wrap_wrap]
  exact h K _ _ _ c B hB
theorem endAt_none {b : Nat} {cur : Sem Fin} {c : Code} {p : Pos} {B : List Frame} (h : ∀ f, cur ≠ .pure f) : endAt b ⟨cur, c, p, B⟩ = none := by
  unfold endAt
  split
  · rename_i h1 h2; exact absurd h2 (h _)
  · rfl

theorem Go.rule_ {t : String} : Go M 1 (PySem.rule t) p s () p s := fun K H gd lv c B hB => .one (endAt_none (by rintro f ⟨⟩)) rfl rfl
theorem Go.at_ {q : Pos} : Go M 1 (standAt q) p s () q s := fun K H gd lv c B hB => .one (endAt_none (by rintro f ⟨⟩)) rfl rfl
theorem Go.fresh_ : Go M 1 PySem.fresh p s s.toks p { s with toks := s.toks + 1 } := fun K H gd lv c B hB => .one (endAt_none (by rintro f ⟨⟩)) rfl rfl
theorem Go.ask_ : Go M 1 PySem.ask p s ⟨M.p, M.w.params⟩ p s := fun K H gd lv c B hB => .one (endAt_none (by rintro f ⟨⟩)) rfl rfl
theorem Go.alloc_ {o : Obj} : Go M 1 (PySem.alloc o) p s s.heap.objs.size p { s with heap := s.heap.push o } := fun K H gd lv c B hB => .one (endAt_none (by rintro f ⟨⟩)) rfl rfl
theorem Go.loadPart_ {a : Addr} {pt : Option Value} {o : Obj} (h : s.heap.get? a = some o) : Go M 1 (PySem.loadPart a pt) p s o p s := fun K H gd lv c B hB => by
  refine .one (endAt_none (by rintro f ⟨⟩)) rfl ?_
  obtain ⟨hp, gs, d, tk, os⟩ := s
  show step _ _ _ _ ⟨.load a pt _, _, _, _⟩ = _
  simp only [step]
  rw [show hp.get? a = some o from h]
  rfl
theorem Go.updatePart_ {a : Addr} {pt : Option Value} {f : Obj → Obj} {o : Obj} (h : s.heap.get? a = some o) (ha : M.n₀ ≤ a) : Go M 1 (PySem.updatePart a pt f) p s () p { s with heap := s.heap.update a f } := fun K H gd lv c B hB => by
  refine .one (endAt_none (by rintro f ⟨⟩)) ?_ ?_
  · show stepOk _ _ ⟨.update a pt f _, _, _, _⟩ = true
    simp only [stepOk, Thread.calm, Thread.atCollectorCode, Thread.yieldsInsideHandler, Nat.ble_eq_true_of_le ha]
    rfl
  · obtain ⟨hp, gs, d, tk, os⟩ := s
    show step _ _ _ _ ⟨.update a pt f _, _, _, _⟩ = _
    simp only [step]
    rw [show hp.get? a = some o from h]
    rfl
theorem Go.mkInt_ {x : Int} : Go M 1 (mkInt x) p s (.int x s.toks) p { s with toks := s.toks + 1 } := Go.le (i := 1 + 0) (Go.bind Go.fresh_ Go.pure_) (Nat.le_refl _)
theorem Go.mkText_ {x : Str} : Go M 1 (mkText x) p s (.str x s.toks) p { s with toks := s.toks + 1 } := Go.le (i := 1 + 0) (Go.bind Go.fresh_ Go.pure_) (Nat.le_refl _)
end


section
variable {α β : Type} {M : Mc} {i i₂ i₃ j : Nat} {p p' p₁ p₂ p₃ : Pos} {s s' s₁ s₂ s₃ : Shared}
/-- a call that goes on as another code -/
theorem Go.callAgain {c c₂ : Code} {h : Option Value} {g : Bool} {l : List Value} {k : Result → Sem α} {f : Flow} {a : α} (hc : Go M i (denote M.tb c) p s (.again c₂) p₁ s₁) (hd : (match c₂ with | .builtin id _ => id.startsWith "lifetime." | _ => false) = false) (hc2 : Go M i₂ (denote M.tb c₂) p₁ s₁ (.done f) p₂ s₂) (hk : Go M i₃ (k (.ok f)) p s₂ a p₃ s₃) :
    Go M (1 + (i + (1 + (i₂ + (1 + i₃))))) (.call c h g l k) p s a p₃ s₃ := fun K H gd lv c' B hB => by
  obtain ⟨kept, h0⟩ : ∃ kept, step (denote M.tb) M.p M.w s ⟨(Sem.call c h g l k).wrap K H gd lv, c', p, B⟩ = .go s ⟨denote M.tb c, c, p, .ret (fun r => (k r).wrap K H gd lv) h (gd g) (lv l) c' p kept :: B⟩ := ⟨_, rfl⟩
  have h1 := SG.one (M := M) (endAt_none (by rintro f ⟨⟩)) rfl h0
  refine h1.trans ?_
  have h2 := hc Sem.pure Sem.raise id id c (.ret (fun r => (k r).wrap K H gd lv) h (gd g) (lv l) c' p kept :: B) (by simp only [List.length_cons]; omega)
  rw [show (denote M.tb c).wrap Sem.pure Sem.raise id id = denote M.tb c from by rw [← Sem.bind_eq_wrap]; exact bind_pure (denote M.tb c)] at h2
  refine h2.trans ?_
  obtain ⟨hp, gs, d, tk, os⟩ := s₁
  have hne : ((B.length + 1) == M.b) = false := beq_eq_false_iff_ne.mpr (by omega)
  have h3 := SG.one (M := M) (s := ⟨hp, gs, d, tk, os⟩) (t := ⟨.pure (.again c₂), c, p₁, .ret (fun r => (k r).wrap K H gd lv) h (gd g) (lv l) c' p kept :: B⟩) (by simp only [endAt, List.length_cons, hne])
    (by show (Thread.calm _ && true) = true
        rw [Bool.and_true]
        have hq : Thread.atCollectorCode ⟨.pure (.again c₂), c, p₁, .ret (fun r => (k r).wrap K H gd lv) h (gd g) (lv l) c' p kept :: B⟩ = false := by
          unfold Thread.atCollectorCode
          cases c₂ with
          | builtin id args => exact hd
          | _ => rfl
        simp only [Thread.calm, hq, Thread.yieldsInsideHandler]; rfl) step_again
  refine h3.trans ?_
  have h4 := hc2 Sem.pure Sem.raise id id c₂ (.ret (fun r => (k r).wrap K H gd lv) h (gd g) (lv l) c' p (keptBy c c₂ (lv l) kept) :: B) (by simp only [List.length_cons]; omega)
  rw [show (denote M.tb c₂).wrap Sem.pure Sem.raise id id = denote M.tb c₂ from by rw [← Sem.bind_eq_wrap]; exact bind_pure (denote M.tb c₂)] at h4
  refine h4.trans ?_
  have h5 : SG M 1 s₂ ⟨.pure (.done f), c₂, p₂, .ret (fun r => (k r).wrap K H gd lv) h (gd g) (lv l) c' p (keptBy c c₂ (lv l) kept) :: B⟩ s₂ ⟨(k (.ok f)).wrap K H gd lv, c', p, B⟩ := by
    refine .one ?_ rfl rfl
    simp only [endAt, List.length_cons, hne]
  exact h5.trans (hk K H gd lv c' B hB)

theorem Go.typeOf_ {v : Value} {T : String} (h : s.TypeIs v T) : Go M 1 (PySem.typeOf v) p s (.type T) p s := by
  cases v with
  | ref a => obtain ⟨o, ho, hc⟩ := h; simp only [PySem.typeOf]; rw [← hc]; exact Go.le (i := 1 + 0) (Go.bind (Go.loadPart_ ho) Go.pure_) (Nat.le_refl _)
  | _ => exact Go.le (Go.of_eq h) (Nat.zero_le _)
theorem Go.specialOf_ {v : Value} {T : String} {name : Str} {r : Option Value} (hT : s.TypeIs v T) (h : typeLookup (.type T) name = pure r) : Go M 1 (PySem.specialOf v name) p s r p s := by
  simp only [PySem.specialOf]; exact Go.le (i := 1 + 0) (Go.bind (Go.typeOf_ hT) (Go.of_eq h)) (Nat.le_refl _)
theorem Go.isInstance_ {v : Value} {T U : String} {b : Bool} (hT : s.TypeIs v T) (h : isSubtype (.type T) (.type U) = pure b) : Go M 1 (PySem.isInstance v (.type U)) p s b p s := by
  simp only [PySem.isInstance]; exact Go.le (i := 1 + 0) (Go.bind (Go.typeOf_ hT) (Go.of_eq h)) (Nat.le_refl _)

theorem Go.callInt {k : Int} {t : Tok} (htb : M.tb = treeTable) : Go M 5 (call (.builtin "int.__hash__") [.int k t]) p s (.int (rawHash k) s.toks) p { s with toks := s.toks + 1 } := by
  unfold call runValue run
  refine Go.le (i := (1 + (0 + (1 + (1 + (1 + 0))))) + 0) (Go.bind (a := .ret (.int (rawHash k) s.toks)) ?_ Go.pure_) (by decide)
  refine Go.callAgain (c₂ := .builtin "int.__hash__" ⟨[.int k t], []⟩) (p₂ := p) (s₁ := s) (p₁ := p) (f := .ret (.int (rawHash k) s.toks)) ?_ (by show String.startsWith _ _ = false; decide +kernel) ?_ Go.pure_
  · show Go M 0 (do checkBuiltinCall "int.__hash__" ⟨[.int k t], []⟩; again (.builtin "int.__hash__" ⟨[.int k t], []⟩)) _ _ _ _ _
    refine Go.bind (i := 0) (j := 0) (a := ()) (p₁ := p) (s₁ := s) (.of_eq ?_) ?_
    · rfl
    · exact Go.pure_
  · show Go M 1 (match entryFor M.tb "int.__hash__" with | some b => b ⟨[.int k t], []⟩ | none => unsupported ((withoutEnding? "int.__hash__" "#data").getD "int.__hash__")) _ _ _ _ _
    rw [htb, ← table_eq_tree, entry_int_hash]
    show Go M 1 (do ret (← mkInt (rawHash k))) _ _ _ _ _
    exact Go.bind (i := 1) (j := 0) Go.mkInt_ Go.pure_

theorem Go.pyHash_int {k : Int} {t : Tok} (htb : M.tb = treeTable) : Go M 20 (pyHash (.int k t)) p s (hashInt k) p { s with toks := s.toks + 1 } := by
  have hr := rawHash_range k
  have hv : [Value.int k t].any Value.onHeap = false := rfl
  have e0 : Go M 0 (cRoomFor "hash" [Value.int k t]) p s () p s := by
    rw [cRoomFor, if_neg (by rw [hv]; exact Bool.false_ne_true)]; exact Go.pure_
  have e1 : Go M 1 (PySem.specialOf (Value.int k t) (Str.ofString "__hash__")) p s (some (.builtin "int.__hash__")) p s := Go.specialOf_ (typeIs_int s k t) slot_int_hash.lookup
  unfold pyHash
  refine Go.le (i := 0 + (1 + (1 + (7 + 0)))) (Go.bind e0 (Go.bind e1 ?_)) (by decide)
  show Go M _ (if (some (Value.builtin "int.__hash__") == some Value.none) = true then _ else _) _ _ _ _ _
  rw [if_neg (by decide)]
  refine Go.bind e1 ?_
  show Go M _ (callSpecialIfBoundUnlessNone? (.int k t) "__hash__" _ >>= _) _ _ _ _ _
  refine Go.bind (a := some (.int (rawHash k) s.toks)) (p₁ := p) (s₁ := { s with toks := s.toks + 1 }) ?_ ?_
  · simp only [callSpecialIfBoundUnlessNone?, bindSpecialIfBound?]
    refine Go.holding_ ?_
    refine Go.bind (i := 2) (j := 5) (a := some (.builtin "int.__hash__", [.int k t])) (p₁ := p) (s₁ := s) ?_ ?_
    · refine Go.bind (i := 1) (j := 1) e1 ?_
      simp only [slot_int_hash.bind]
      refine Go.bind (i := 1) (j := 0) Go.ask_ ?_
      split
      · exact Go.bind (i := 0) (j := 0) Go.pure_ Go.pure_
      · exact Go.tryCatch_ (Go.bind (i := 0) (j := 0) Go.pure_ Go.pure_)
    · show Go M _ (if (Value.builtin "int.__hash__" == Value.none) = true then _ else _) _ _ _ _ _
      rw [if_neg (by decide)]
      exact Go.bind (i := 5) (j := 0) (Go.callInt htb) Go.pure_
  · show Go M _ (if (decide (-(2 : Int) ^ 63 ≤ rawHash k) && decide (rawHash k < 2 ^ 63)) = true then _ else _) _ _ _ _ _
    rw [if_pos (by rw [decide_eq_true hr.1, decide_eq_true hr.2]; rfl)]
    exact Go.pure_
end


noncomputable abbrev Pr := Int × Str
noncomputable def dObj (es : List DictEntry) (ep : Nat) : Obj := ⟨.type "dict", none, .dict es.toArray ep, #[]⟩
noncomputable def ent (k : Int) (t : Nat) (x : Str) (u : Nat) : DictEntry := ⟨hashInt k, .int k t, .str x u⟩
noncomputable def entsL : Nat → List Pr → List DictEntry
  | _, [] => []
  | k, q :: r => ent q.1 k q.2 (k + 1) :: entsL (k + 3) r
noncomputable def entsS : Nat → List Pr → List DictEntry
  | _, [] => []
  | k, q :: r => ent q.1 k q.2 (k + 1) :: entsS (k + 2) r
noncomputable def itemOf (pos : Pos) (q : Pr) : Sem Value × Sem Value := (mkInt q.1, (do let x ← mkText q.2; standAt pos; pure x))
noncomputable def ST (s₀ : Shared) (h : Heap) (k : Nat) : Shared := { s₀ with heap := h, toks := k }
noncomputable def HP (h : Heap) (m : Obj) (l : List Obj) : Heap := ⟨h.objs ++ (m :: l).toArray, h.life⟩

theorem entsL_length : ∀ (ps : List Pr) (k : Nat), (entsL k ps).length = ps.length
  | [], _ => rfl
  | q :: r, k => by simp [entsL, entsL_length r]
theorem entsS_length : ∀ (ps : List Pr) (k : Nat), (entsS k ps).length = ps.length
  | [], _ => rfl
  | q :: r, k => by simp [entsS, entsS_length r]
theorem entsL_hash : ∀ (ps : List Pr) (k : Nat), (entsL k ps).map (·.hash) = ps.map fun q => hashInt q.1
  | [], _ => rfl
  | q :: r, k => by simp [entsL, entsL_hash r, ent]
theorem entsS_hash : ∀ (ps : List Pr) (k : Nat), (entsS k ps).map (·.hash) = ps.map fun q => hashInt q.1
  | [], _ => rfl
  | q :: r, k => by simp [entsS, entsS_hash r, ent]

theorem HP_nil (h : Heap) (m : Obj) : h.push m = HP h m [] := by
  obtain ⟨o, l⟩ := h
  show Heap.mk _ _ = Heap.mk _ _
  congr 1
theorem HP_push (h : Heap) (m : Obj) (l : List Obj) (o : Obj) : (HP h m l).push o = HP h m (l ++ [o]) := by
  show Heap.mk _ _ = Heap.mk _ _
  congr 1
  apply Array.ext'
  simp
theorem HP_size (h : Heap) (m : Obj) (l : List Obj) : (HP h m l).objs.size = h.objs.size + 1 + l.length := by simp [HP]; grind
theorem HP_main (h : Heap) (m : Obj) (l : List Obj) (hf : m.isFreed = false) : (HP h m l).get? h.objs.size = some m := by
  unfold Heap.get?
  have : (HP h m l).objs[h.objs.size]? = some m := by simp [HP]
  rw [this]
  obtain ⟨c, d, dt, sl⟩ := m
  cases dt <;> first | rfl | (simp [Obj.isFreed] at hf)
theorem HP_last (h : Heap) (m : Obj) (l : List Obj) (o : Obj) (hf : o.isFreed = false) : (HP h m (l ++ [o])).get? (h.objs.size + 1 + l.length) = some o := by
  unfold Heap.get?
  have : (HP h m (l ++ [o])).objs[h.objs.size + 1 + l.length]? = some o := by
    show (h.objs ++ (m :: (l ++ [o])).toArray)[_]? = _
    rw [Array.getElem?_append_right (by grind), List.getElem?_toArray, show h.objs.size + 1 + l.length - h.objs.size = l.length + 1 by grind, List.getElem?_cons_succ, List.getElem?_append_right (Nat.le_refl _), Nat.sub_self]
    rfl
  rw [this]
  obtain ⟨c, d, dt, sl⟩ := o
  cases dt <;> first | rfl | (simp [Obj.isFreed] at hf)
theorem HP_upd (h : Heap) (m : Obj) (l : List Obj) (f : Obj → Obj) : (HP h m l).update h.objs.size f = HP h (f m) l := by
  show Heap.mk _ _ = Heap.mk _ _
  congr 1
  apply Array.ext_getElem?
  intro i
  show ((h.objs ++ (m :: l).toArray).modify h.objs.size f)[i]? = (h.objs ++ (f m :: l).toArray)[i]?
  rw [Array.getElem?_modify]
  by_cases e : h.objs.size = i
  · subst e; simp
  · rw [if_neg e]
    by_cases q : i < h.objs.size
    · rw [Array.getElem?_append_left q, Array.getElem?_append_left q]
    · rw [Array.getElem?_append_right (by grind), Array.getElem?_append_right (by grind)]
      obtain ⟨j, hj⟩ : ∃ j, i - h.objs.size = j + 1 := ⟨i - h.objs.size - 1, by grind⟩
      rw [hj]; simp
theorem push_upd (h : Heap) (o : Obj) (f : Obj → Obj) : (h.push o).update h.objs.size f = h.push (f o) := by rw [HP_nil, HP_upd, HP_nil]
theorem push_get (h : Heap) (o : Obj) (hf : o.isFreed = false) : (h.push o).get? h.objs.size = some o := by rw [HP_nil]; exact HP_main h o [] hf
theorem dObj_push (es : List DictEntry) (ep : Nat) (e : DictEntry) : Obj.mapDictKeys (·.push e) (dObj es ep) = dObj (es ++ [e]) (ep + 1) := by
  show Obj.mk _ _ (.dict (es.toArray.push e) (ep + 1)) _ = _
  rw [List.push_toArray]; rfl

section
variable {α β : Type} {M : Mc} {i j : Nat} {p p' p₁ p₂ p₃ pos : Pos} {s s' s₁ s₂ s₃ s₀ : Shared}
theorem Go.forIn_nil {b : β} {f : α → β → Sem (ForInStep β)} : Go M 0 (forIn ([] : List α) b f) p s b p s := by
  rw [List.forIn_nil]; exact Go.pure_
theorem Go.forIn_cons {a : α} {l : List α} {b b' r : β} {f : α → β → Sem (ForInStep β)} (h : Go M i (f a b) p s (.yield b') p₁ s₁) (k : Go M j (forIn l b' f) p₁ s₁ r p₂ s₂) : Go M (i + j) (forIn (a :: l) b f) p s r p₂ s₂ := by
  rw [List.forIn_cons]; exact Go.bind h k

theorem Go.dictEntries_ {d : Addr} {pt : Option Value} {es : List DictEntry} {ep : Nat} (ho : s.heap.get? d = some (dObj es ep)) : Go M 1 (dictEntries d pt) p s es.toArray p s := by
  unfold dictEntries
  exact Go.bind (i := 1) (j := 0) (Go.loadPart_ ho) Go.pure_
theorem Go.dictEpoch_ {d : Addr} {pt : Option Value} {es : List DictEntry} {ep : Nat} (ho : s.heap.get? d = some (dObj es ep)) : Go M 1 (dictEpoch d pt) p s ep p s := by
  unfold dictEpoch
  exact Go.bind (i := 1) (j := 0) (Go.loadPart_ ho) Go.pure_
theorem Go.dictFind_miss {d : Addr} {es : List DictEntry} {ep : Nat} {k : Int} {t : Tok} (ho : s.heap.get? d = some (dObj es ep)) (hm : ∀ e ∈ es, e.hash ≠ hashInt k) : Go M 1 (dictFind d (.int k t) (hashInt k)) p s none p s := by
  unfold dictFind
  refine Go.holding_ ?_
  refine Go.bind (i := 1) (j := 0) (Go.dictEntries_ ho) ?_
  dsimp only
  have hp : placesWithHash es.toArray.size (fun i => es.toArray[i]?.map (·.hash)) (hashInt k) = [] := by
    unfold placesWithHash
    rw [List.filter_eq_nil_iff]
    intro i hi
    simp only [List.getElem?_toArray]
    cases e : es[i]? with
    | none => simp
    | some x => simpa using hm x (List.mem_of_getElem? e)
  rw [hp]
  rw [if_pos (by rfl)]
  unfold dictWalkPlain
  refine Go.bind (i := 0) (j := 0) Go.forIn_nil ?_
  exact Go.pure_
theorem Go.updKeys {d : Addr} {pt : Option Value} {es : List DictEntry} {ep : Nat} {e : DictEntry} (ho : s.heap.get? d = some (dObj es ep)) (hd : M.n₀ ≤ d) (hsz : es.length < sizeLine) :
    Go M 3 (updateDictKeys d (·.push e) pt) p s () p { s with heap := s.heap.update d (Obj.mapDictKeys (·.push e)) } := by
  unfold updateDictKeys
  refine Go.bind (i := 1) (j := 2) (Go.loadPart_ ho) ?_
  show Go M 2 (updatePart d pt (Obj.mapDictKeys _) >>= fun _ => lookBehind d pt) _ _ _ _ _
  refine Go.bind (i := 1) (j := 1) (Go.updatePart_ ho hd) ?_
  unfold lookBehind
  refine Go.bind (i := 1) (j := 0) (Go.loadPart_ (o := dObj (es ++ [e]) (ep + 1)) ?_) ?_
  · rw [← dObj_push]
    exact Heap.get?_update_self _ ho (by rw [dObj_push]; rfl)
  · have : (dObj (es ++ [e]) (ep + 1)).data.pastItsLine = none := by
      unfold Data.pastItsLine dObj
      dsimp only
      rw [if_neg (by simp; grind)]
    rw [this]
    exact Go.pure_
theorem Go.dictSet_ {d : Addr} {es : List DictEntry} {ep : Nat} {k : Int} {t : Tok} {v : Value} (htb : M.tb = treeTable) (ho : s.heap.get? d = some (dObj es ep)) (hd : M.n₀ ≤ d) (hsz : es.length < sizeLine) (hm : ∀ e ∈ es, e.hash ≠ hashInt k) :
    Go M 25 (dictSet d (.int k t) v) p s () p { s with heap := s.heap.update d (Obj.mapDictKeys (·.push ⟨hashInt k, .int k t, v⟩)), toks := s.toks + 1 } := by
  unfold dictSet
  refine Go.holding_ ?_
  refine Go.bind (i := 20) (j := 5) (Go.pyHash_int htb) ?_
  unfold dictSetHashed
  refine Go.holding_ ?_
  refine Go.bind (i := 1) (j := 4) (Go.dictFind_miss (s := { s with toks := s.toks + 1 }) ho hm) ?_
  refine Go.bind (i := 1) (j := 3) Go.rule_ ?_
  exact Go.updKeys (s := { s with toks := s.toks + 1 }) ho hd hsz
theorem Go.dictPut_ {d : Addr} {es : List DictEntry} {ep : Nat} {k : Int} {t : Tok} {v : Value} (ho : s.heap.get? d = some (dObj es ep)) (hd : M.n₀ ≤ d) (hsz : es.length < sizeLine) (hm : ∀ e ∈ es, e.hash ≠ hashInt k) :
    Go M 4 (dictPut d (hashInt k) (.int k t) v) p s () p { s with heap := s.heap.update d (Obj.mapDictKeys (·.push ⟨hashInt k, .int k t, v⟩)) } := by
  unfold dictPut
  refine Go.bind (i := 1) (j := 3) (Go.dictFind_miss ho hm) ?_
  exact Go.updKeys ho hd hsz

/-- the long road: each pair at once -/
theorem Go.longLoop (htb : M.tb = treeTable) {h : Heap} (hn : M.n₀ ≤ h.objs.size) : ∀ (ps : List Pr) (es : List DictEntry) (ep k : Nat), (es.map (·.hash) ++ ps.map fun q => hashInt q.1).Nodup → es.length + ps.length ≤ sizeLine →
    Go M (28 * ps.length) (forIn (ps.map (itemOf pos)) PUnit.unit fun x __s => match x with | (k, v) => do
        let kv ← k
        let vv ← PySem.holding [kv] v
        PySem.holding [kv, vv] (dictSet h.objs.size kv vv)
        pure (ForInStep.yield PUnit.unit)) pos (ST s₀ (h.push (dObj es ep)) k) PUnit.unit pos (ST s₀ (h.push (dObj (es ++ entsL k ps) (ep + ps.length))) (k + 3 * ps.length))
  | [], es, ep, k, hnd, hsz => by
    simp only [List.map_nil, entsL, List.append_nil, List.length_nil, Nat.add_zero, Nat.mul_zero]
    exact Go.forIn_nil
  | q :: r, es, ep, k, hnd, hsz => by
    rw [List.map_cons]
    have hnd2 := List.nodup_append.mp hnd
    have ih := Go.longLoop htb hn r (es ++ [ent q.1 k q.2 (k + 1)]) (ep + 1) (k + 3) (by simpa [ent] using hnd) (by simp only [List.length_append, List.length_cons, List.length_nil] at hsz ⊢; grind)
    refine Go.le (i := 28 + 28 * r.length) (Go.forIn_cons (b' := PUnit.unit) (p₁ := pos) (s₁ := ST s₀ (h.push (dObj (es ++ [ent q.1 k q.2 (k + 1)]) (ep + 1))) (k + 3)) ?_ ?_) (by simp only [List.length_cons]; grind)
    · show Go M 28 (do
        let kv ← mkInt q.1
        let vv ← PySem.holding [kv] (do let x ← mkText q.2; standAt pos; pure x)
        PySem.holding [kv, vv] (dictSet h.objs.size kv vv)
        pure (ForInStep.yield PUnit.unit)) _ _ _ _ _
      refine Go.bind (i := 1) (j := 27) Go.mkInt_ ?_
      refine Go.bind (i := 2) (j := 25) (Go.holding_ (Go.bind (i := 1) (j := 1) Go.mkText_ (Go.bind (i := 1) (j := 0) Go.at_ Go.pure_))) ?_
      refine Go.bind (i := 25) (j := 0) (Go.holding_ (Go.dictSet_ (s := ST s₀ (h.push (dObj es ep)) (k + 2)) htb (push_get _ _ rfl) hn (by simp only [List.length_cons] at hsz; grind) ?_)) ?_
      · intro e he q'
        exact hnd2.2.2 _ (List.mem_map_of_mem he) _ (by simp) q'
      · have e : (ST s₀ (h.push (dObj es ep)) (k + 2)).heap.update h.objs.size (Obj.mapDictKeys (·.push ⟨hashInt q.1, .int q.1 k, .str q.2 (k + 1)⟩)) = h.push (dObj (es ++ [ent q.1 k q.2 (k + 1)]) (ep + 1)) := by
          show (h.push (dObj es ep)).update _ _ = _
          rw [push_upd, dObj_push]; rfl
        show Go M 0 _ _ { ST s₀ (h.push (dObj es ep)) (k + 2) with heap := (ST s₀ (h.push (dObj es ep)) (k + 2)).heap.update h.objs.size (Obj.mapDictKeys (·.push ⟨hashInt q.1, .int q.1 k, .str q.2 (k + 1)⟩)), toks := k + 3 } _ _ _
        rw [e]
        exact Go.pure_
    · rw [show es ++ entsL k (q :: r) = es ++ [ent q.1 k q.2 (k + 1)] ++ entsL (k + 3) r from by simp [entsL], show ep + (q :: r).length = ep + 1 + r.length from by simp only [List.length_cons]; grind,
        show k + 3 * (q :: r).length = k + 3 + 3 * r.length from by simp only [List.length_cons]; grind]
      exact ih
theorem Go.subLong (htb : M.tb = treeTable) {h : Heap} (hn : M.n₀ ≤ h.objs.size) (ps : List Pr) (k : Nat) (hnd : (ps.map fun q => hashInt q.1).Nodup) (hl : ¬ ps.length ≤ 15) (hsz : ps.length ≤ sizeLine) :
    Go M (28 * ps.length + 10) (subDict (ps.map (itemOf pos))) pos (ST s₀ h k) h.objs.size pos (ST s₀ (h.push (dObj (entsL k ps) ps.length)) (k + 3 * ps.length)) := by
  unfold subDict
  refine Go.le (i := 1 + ((1 + (28 * ps.length + 0)) + 0)) (Go.bind Go.alloc_ ?_) (by grind)
  refine Go.bind (Go.holding_ (a := PUnit.unit) (p₁ := pos) (s₁ := ST s₀ (h.push (dObj (entsL k ps) ps.length)) (k + 3 * ps.length)) ?_) Go.pure_
  rw [if_neg (by rw [List.length_map]; exact hl)]
  refine Go.bind Go.rule_ ?_
  refine Go.bind (a := PUnit.unit) ?_ Go.pure_
  have := Go.longLoop (M := M) (pos := pos) (s₀ := s₀) htb hn ps [] 0 k (by simpa using hnd) (by simpa using hsz)
  simp only [List.nil_append, Nat.zero_add] at this
  exact this
end


noncomputable def valsS : Nat → List Pr → List (Value × Value)
  | _, [] => []
  | k, q :: r => (.int q.1 k, .str q.2 (k + 1)) :: valsS (k + 2) r
noncomputable def ents (k : Nat) (ps : List Pr) : List DictEntry := if ps.length ≤ 15 then entsS k ps else entsL k ps
theorem ents_hash (ps : List Pr) (k : Nat) : (ents k ps).map (·.hash) = ps.map fun q => hashInt q.1 := by unfold ents; split; exact entsS_hash _ _; exact entsL_hash _ _
theorem ents_length (ps : List Pr) (k : Nat) : (ents k ps).length = ps.length := by unfold ents; split; exact entsS_length _ _; exact entsL_length _ _
theorem entsS_key : ∀ (ps : List Pr) (k : Nat), ∀ e ∈ entsS k ps, ∃ i t, e.key = .int i t ∧ e.hash = hashInt i
  := by
  intro ps
  induction ps with
  | nil => intro k e h; exact (List.not_mem_nil h).elim
  | cons q r ih =>
    intro k e h
    rcases List.mem_cons.mp h with h | h
    · rw [h]; exact ⟨_, _, rfl, rfl⟩
    · exact ih _ e h
theorem entsL_key : ∀ (ps : List Pr) (k : Nat), ∀ e ∈ entsL k ps, ∃ i t, e.key = .int i t ∧ e.hash = hashInt i
  := by
  intro ps
  induction ps with
  | nil => intro k e h; exact (List.not_mem_nil h).elim
  | cons q r ih =>
    intro k e h
    rcases List.mem_cons.mp h with h | h
    · rw [h]; exact ⟨_, _, rfl, rfl⟩
    · exact ih _ e h
theorem ents_key (ps : List Pr) (k : Nat) : ∀ e ∈ ents k ps, ∃ i t, e.key = .int i t ∧ e.hash = hashInt i := by unfold ents; split; exact entsS_key _ _; exact entsL_key _ _

section
variable {α β : Type} {M : Mc} {i j : Nat} {p p' p₁ p₂ p₃ pos : Pos} {s s' s₁ s₂ s₃ s₀ : Shared}
theorem Go.evalPairs_ : ∀ (ps : List Pr) (h : Heap) (k : Nat), Go M (3 * ps.length) (evalPairs (ps.map (itemOf pos))) pos (ST s₀ h k) (valsS k ps) pos (ST s₀ h (k + 2 * ps.length))
  | [], h, k => Go.pure_
  | q :: r, h, k => by
    refine Go.le (i := 1 + (2 + (3 * r.length + 0))) ?_ (by simp only [List.length_cons]; grind)
    show Go M _ (do
      let kv ← mkInt q.1
      let vv ← PySem.holding [kv] (do let x ← mkText q.2; standAt pos; pure x)
      return (kv, vv) :: (← PySem.holding [kv, vv] (evalPairs (r.map (itemOf pos))))) _ _ _ _ _
    refine Go.bind Go.mkInt_ ?_
    refine Go.bind (Go.holding_ (Go.bind (i := 1) (j := 1) Go.mkText_ (Go.bind (i := 1) (j := 0) Go.at_ Go.pure_))) ?_
    have ih := Go.evalPairs_ r h (k + 2)
    rw [show k + 2 * (q :: r).length = k + 2 + 2 * r.length from by simp only [List.length_cons]; grind]
    exact Go.bind (Go.holding_ ih) Go.pure_
theorem Go.shortLoop (htb : M.tb = treeTable) {h : Heap} (hn : M.n₀ ≤ h.objs.size) : ∀ (ps : List Pr) (es : List DictEntry) (ep j k : Nat), (es.map (·.hash) ++ ps.map fun q => hashInt q.1).Nodup → es.length + ps.length ≤ sizeLine →
    Go M (25 * ps.length) (forIn (valsS j ps) PUnit.unit fun x __s => match x with | (k, v) => do
        dictSet h.objs.size k v
        pure (ForInStep.yield PUnit.unit)) pos (ST s₀ (h.push (dObj es ep)) k) PUnit.unit pos (ST s₀ (h.push (dObj (es ++ entsS j ps) (ep + ps.length))) (k + ps.length))
  | [], es, ep, j, k, hnd, hsz => by
    simp only [valsS, entsS, List.append_nil, List.length_nil, Nat.add_zero]
    exact Go.forIn_nil
  | q :: r, es, ep, j, k, hnd, hsz => by
    have hnd2 := List.nodup_append.mp hnd
    have ih := Go.shortLoop htb hn r (es ++ [ent q.1 j q.2 (j + 1)]) (ep + 1) (j + 2) (k + 1) (by simpa [ent] using hnd) (by simp only [List.length_append, List.length_cons, List.length_nil] at hsz ⊢; grind)
    refine Go.le (i := 25 + 25 * r.length) (Go.forIn_cons (b' := PUnit.unit) (p₁ := pos) (s₁ := ST s₀ (h.push (dObj (es ++ [ent q.1 j q.2 (j + 1)]) (ep + 1))) (k + 1)) ?_ ?_) (by simp only [List.length_cons]; grind)
    · show Go M 25 (do
        dictSet h.objs.size (.int q.1 j) (.str q.2 (j + 1))
        pure (ForInStep.yield PUnit.unit)) _ _ _ _ _
      refine Go.bind (i := 25) (j := 0) (Go.dictSet_ (s := ST s₀ (h.push (dObj es ep)) k) htb (push_get _ _ rfl) hn (by simp only [List.length_cons] at hsz; grind) ?_) ?_
      · intro e he q'
        exact hnd2.2.2 _ (List.mem_map_of_mem he) _ (by simp) q'
      · have e : (ST s₀ (h.push (dObj es ep)) k).heap.update h.objs.size (Obj.mapDictKeys (·.push ⟨hashInt q.1, .int q.1 j, .str q.2 (j + 1)⟩)) = h.push (dObj (es ++ [ent q.1 j q.2 (j + 1)]) (ep + 1)) := by
          show (h.push (dObj es ep)).update _ _ = _
          rw [push_upd, dObj_push]; rfl
        rw [e]
        exact Go.pure_
    · rw [show es ++ entsS j (q :: r) = es ++ [ent q.1 j q.2 (j + 1)] ++ entsS (j + 2) r from by simp [entsS], show ep + (q :: r).length = ep + 1 + r.length from by simp only [List.length_cons]; grind,
        show k + (q :: r).length = k + 1 + r.length from by simp only [List.length_cons]; grind]
      exact ih
theorem Go.sub (htb : M.tb = treeTable) {h : Heap} (hn : M.n₀ ≤ h.objs.size) (ps : List Pr) (k : Nat) (hnd : (ps.map fun q => hashInt q.1).Nodup) (hsz : ps.length ≤ sizeLine) :
    Go M (28 * ps.length + 10) (subDict (ps.map (itemOf pos))) pos (ST s₀ h k) h.objs.size pos (ST s₀ (h.push (dObj (ents k ps) ps.length)) (k + 3 * ps.length)) := by
  unfold ents
  split
  · rename_i hl
    unfold subDict
    refine Go.le (i := 1 + ((3 * ps.length + (25 * ps.length + 0)) + 0)) (Go.bind Go.alloc_ ?_) (by grind)
    refine Go.bind (Go.holding_ (a := PUnit.unit) (p₁ := pos) (s₁ := ST s₀ (h.push (dObj (entsS k ps) ps.length)) (k + 3 * ps.length)) ?_) Go.pure_
    rw [if_pos (by rw [List.length_map]; exact hl)]
    refine Go.bind (Go.evalPairs_ (s₀ := s₀) ps (h.push (dObj [] 0)) k) ?_
    refine Go.holding_ ?_
    refine Go.bind (a := PUnit.unit) ?_ Go.pure_
    have := Go.shortLoop (M := M) (pos := pos) (s₀ := s₀) htb hn ps [] 0 k (k + 2 * ps.length) (by simpa using hnd) (by simpa using hsz)
    simp only [List.nil_append, Nat.zero_add] at this
    rw [show k + 3 * ps.length = k + 2 * ps.length + ps.length by grind]
    exact this
  · rename_i hl
    exact Go.subLong htb hn ps k hnd hl hsz

theorem Go.forIn_range {u : β} {f : Nat → β → Sem (ForInStep β)} (S : Nat → Shared) (n : Nat) (h : ∀ j, j < n → Go M i (f j u) p (S j) (.yield u) p (S (j + 1))) : Go M (i * n) (forIn (List.range n) u f) p (S 0) u p (S n) := by
  rw [List.range_eq_range']
  have : ∀ m j, j + m = n → Go M (i * m) (forIn (List.range' j m) u f) p (S j) u p (S n) := by
    intro m
    induction m with
    | zero => intro j hj; rw [show j = n by omega]; exact Go.forIn_nil
    | succ m ih =>
      intro j hj
      rw [List.range'_succ]
      exact Go.le (Go.forIn_cons (h j (by grind)) (ih (j + 1) (by grind))) (by rw [Nat.mul_succ]; grind)
  exact this n 0 (by grind)

theorem Go.cast_ {m : Sem α} {a : α} {t t' : Shared} (h : Go M i m p s a p' s') (e : s = t) (e' : s' = t') : Go M i m p t a p' t' := by subst e e'; exact h
theorem Go.merge {h : Heap} (hn : M.n₀ ≤ h.objs.size) (hlo : sysModules < h.objs.size) {es E : List DictEntry} {ep epE k : Nat} {l : List Obj} (hne : es ≠ []) (hk : ∀ e ∈ E, ∃ i t, e.key = .int i t ∧ e.hash = hashInt i)
    (hnd : (es.map (·.hash) ++ E.map (·.hash)).Nodup) (hsz : es.length + E.length ≤ sizeLine) :
    Go M (6 * E.length + 10) (mergeMapping h.objs.size (.ref (h.objs.size + 1 + l.length)) false) p (ST s₀ (HP h (dObj es ep) (l ++ [dObj E epE])) k) () p (ST s₀ (HP h (dObj (es ++ E) (ep + E.length)) (l ++ [dObj E epE])) k) := by
  have hnd2 := List.nodup_append.mp hnd
  have hE : ∀ es' ep', (ST s₀ (HP h (dObj es' ep') (l ++ [dObj E epE])) k).heap.get? (h.objs.size + 1 + l.length) = some (dObj E epE) := fun es' ep' => HP_last h _ l _ rfl
  have hM : ∀ es' ep', (ST s₀ (HP h (dObj es' ep') (l ++ [dObj E epE])) k).heap.get? h.objs.size = some (dObj es' ep') := fun es' ep' => HP_main h _ _ rfl
  have hT : (ST s₀ (HP h (dObj es ep) (l ++ [dObj E epE])) k).TypeIs (.ref (h.objs.size + 1 + l.length)) "dict" := ⟨_, hE es ep, rfl⟩
  unfold mergeMapping
  refine Go.le (i := 1 + (1 + (0 + (1 + (1 + (1 + (6 * E.length + 0))))))) ?_ (by grind)
  refine Go.bind (Go.isInstance_ (b := true) hT (by with_unfolding_all rfl)) ?_
  dsimp only
  rw [if_pos rfl]
  refine Go.bind (Go.specialOf_ hT F.slot_dict_iter.lookup) ?_
  refine Go.bind Go.pure_ ?_
  have h0 : (some (Value.builtin "dict.__iter__") == some (Value.builtin "dict.__iter__")) = true := by decide +kernel
  rw [h0]
  dsimp only
  have h1 : ((h.objs.size + 1 + l.length) == sysModules) = false := beq_eq_false_iff_ne.mpr (Nat.ne_of_gt (Nat.lt_of_lt_of_le hlo (by rw [Nat.add_assoc]; exact Nat.le_add_right _ _)))
  rw [if_neg (by rw [h1]; exact Bool.false_ne_true)]
  refine Go.bind (Go.dictEntries_ (hM es ep)) ?_
  rw [if_neg (by cases es with | nil => exact absurd rfl hne | cons => simp)]
  refine Go.bind (Go.dictEntries_ (hE es ep)) ?_
  refine Go.bind (Go.dictEpoch_ (hE es ep)) ?_
  refine Go.bind (a := PUnit.unit) (p₁ := p) (s₁ := ST s₀ (HP h (dObj (es ++ E) (ep + E.length)) (l ++ [dObj E epE])) k) ?_ Go.pure_
  rw [show E.toArray.size = E.length by simp]
  refine Go.cast_ (Go.forIn_range (M := M) (p := p) (u := PUnit.unit) (fun j => ST s₀ (HP h (dObj (es ++ E.take j) (ep + j)) (l ++ [dObj E epE])) k) E.length ?_) (by simp) (by simp)
  intro j hj
  · refine Go.bind (i := 1) (j := 5) (Go.dictEntries_ (hE _ _)) ?_
    have hg : E.toArray[j]? = some E[j] := by simp [hj]
    rw [hg]
    dsimp only
    obtain ⟨i, t, e1, e2⟩ := hk E[j] (List.getElem_mem hj)
    refine Go.bind (i := 4) (j := 1) (a := ()) (p₁ := p) (s₁ := ST s₀ (HP h (dObj (es ++ E.take (j + 1)) (ep + (j + 1))) (l ++ [dObj E epE])) k) (Go.holding_ ?_) ?_
    · rw [if_neg Bool.false_ne_true]
      have he : E[j] = ⟨hashInt i, .int i t, E[j].val⟩ := by
        generalize E[j] = x at e1 e2
        obtain ⟨a, b, c⟩ := x
        simp only at e1 e2
        rw [e1, e2]
      have := Go.dictPut_ (M := M) (p := p) (s := ST s₀ (HP h (dObj (es ++ E.take j) (ep + j)) (l ++ [dObj E epE])) k) (k := i) (t := t) (v := E[j].val) (hM _ _) hn (by simp only [List.length_append, List.length_take]; grind) (by
        intro e he' q
        rcases List.mem_append.mp he' with hh | hh
        · exact hnd2.2.2 _ (List.mem_map_of_mem hh) _ (List.mem_map_of_mem (List.getElem_mem hj)) (by rw [q, e2])
        · obtain ⟨a, ha⟩ := List.mem_iff_getElem?.mp hh
          have hal : a < j := by
            have := (List.getElem?_eq_some_iff.mp ha).1
            simp only [List.length_take] at this; grind
          rw [List.getElem?_take_of_lt hal] at ha
          have i1 : (E.map (·.hash))[a]? = some (hashInt i) := by rw [List.getElem?_map, ha, Option.map_some, q]
          have i2 : (E.map (·.hash))[j]? = some (hashInt i) := by rw [List.getElem?_map, List.getElem?_eq_getElem hj, Option.map_some, e2]
          obtain ⟨b1, c1⟩ := List.getElem?_eq_some_iff.mp i1
          obtain ⟨b2, c2⟩ := List.getElem?_eq_some_iff.mp i2
          have := (List.getElem_inj hnd2.2.1).mp (c1.trans c2.symm)
          grind)
      rw [e1, e2]
      have hh : (ST s₀ (HP h (dObj (es ++ E.take j) (ep + j)) (l ++ [dObj E epE])) k).heap.update h.objs.size (Obj.mapDictKeys (·.push ⟨hashInt i, .int i t, E[j].val⟩)) = HP h (dObj (es ++ E.take (j + 1)) (ep + (j + 1))) (l ++ [dObj E epE]) := by
        show (HP h _ _).update _ _ = _
        rw [HP_upd, dObj_push, List.take_succ_eq_append_getElem hj, ← he, List.append_assoc]; rfl
      rw [hh] at this
      exact this
    · refine Go.bind (i := 1) (j := 0) (Go.dictEpoch_ (hE _ _)) ?_
      rw [if_neg (by simp)]
      exact Go.pure_
end


structure DS where
  main : Option (List DictEntry × Nat)
  subs : List Obj
  k : Nat
  run : List Pr
noncomputable def DS.flush (d : DS) : DS := match d.main with
  | none => ⟨some (ents d.k d.run, d.run.length), d.subs, d.k + 3 * d.run.length, []⟩
  | some (es, ep) => ⟨some (es ++ ents d.k d.run, ep + d.run.length), d.subs ++ [dObj (ents d.k d.run) d.run.length], d.k + 3 * d.run.length, []⟩
noncomputable def DS.step (d : DS) (q : Pr) : DS := if (d.run ++ [q]).length == 17 then DS.flush { d with run := d.run ++ [q] } else { d with run := d.run ++ [q] }
noncomputable def DS.heap (h : Heap) (d : DS) : Heap := match d.main with
  | none => h
  | some (es, ep) => HP h (dObj es ep) d.subs
noncomputable def DS.addr (h : Heap) (d : DS) : Option Addr := d.main.map fun _ => h.objs.size
noncomputable def DS.hashes (d : DS) : List Int := (match d.main with | none => [] | some (es, _) => es.map (·.hash)) ++ d.run.map fun q => hashInt q.1
structure DS.Ok (d : DS) (rest : List Pr) : Prop where
  nd : (d.hashes ++ rest.map fun q => hashInt q.1).Nodup
  ln : (d.hashes ++ rest.map fun q => hashInt q.1).length ≤ sizeLine
  sub : d.main = none → d.subs = []
  ne : ∀ es ep, d.main = some (es, ep) → es ≠ []

theorem DS.flush_hashes (d : DS) : d.flush.hashes = d.hashes := by
  obtain ⟨m, l, k, r⟩ := d
  cases m with
  | none => simp [DS.flush, DS.hashes, ents_hash]
  | some x => obtain ⟨es, ep⟩ := x; simp [DS.flush, DS.hashes, ents_hash]
theorem DS.Ok.flush {d : DS} {rest : List Pr} (ok : d.Ok rest) (hr : d.run ≠ []) : d.flush.Ok rest := by
  refine ⟨by rw [DS.flush_hashes]; exact ok.nd, by rw [DS.flush_hashes]; exact ok.ln, fun h => ?_, fun es ep h => ?_⟩
  · obtain ⟨m, l, k, r⟩ := d
    cases m <;> cases h
  · have hl : ents d.k d.run ≠ [] := fun q => hr (by have := congrArg List.length q; rw [ents_length] at this; exact List.eq_nil_of_length_eq_zero this)
    obtain ⟨m, l, k, r⟩ := d
    cases m with
    | none => cases h; exact hl
    | some x => obtain ⟨es', ep'⟩ := x; cases h; simp only [ne_eq, List.append_eq_nil_iff, not_and]; exact fun _ => hl
theorem DS.push_hashes (d : DS) (q : Pr) : DS.hashes { d with run := d.run ++ [q] } = d.hashes ++ [hashInt q.1] := by simp [DS.hashes]
theorem DS.Ok.push {d : DS} {q : Pr} {rest : List Pr} (ok : d.Ok (q :: rest)) : DS.Ok { d with run := d.run ++ [q] } rest :=
  ⟨by rw [DS.push_hashes]; simpa using ok.nd, by rw [DS.push_hashes]; simpa using ok.ln, ok.sub, ok.ne⟩
theorem DS.Ok.step {d : DS} {q : Pr} {rest : List Pr} (ok : d.Ok (q :: rest)) : (d.step q).Ok rest := by
  unfold DS.step
  split
  · exact ok.push.flush (by simp)
  · exact ok.push

section
variable {α β : Type} {M : Mc} {i j : Nat} {p p' p₁ p₂ p₃ pos : Pos} {s s' s₁ s₂ s₃ s₀ : Shared}

theorem Go.flushNone (htb : M.tb = treeTable) {h : Heap} (hn : M.n₀ ≤ h.objs.size) {d : DS} {rest : List Pr} (ok : d.Ok rest) (hm : d.main = none) :
    Go M (40 * d.run.length + 30) (do let a ← subDict (d.run.map (itemOf pos)); pure (some a)) pos (ST s₀ (d.heap h) d.k) (d.flush.addr h) pos (ST s₀ (d.flush.heap h) d.flush.k) := by
  obtain ⟨m, l, k, r⟩ := d
  obtain rfl : m = none := hm
  have hnd := (List.nodup_append.mp ok.nd).1
  have hl : l = [] := ok.sub rfl
  subst hl
  refine Go.le (i := (28 * r.length + 10) + 0) ?_ (by show _ ≤ 40 * r.length + 30; grind)
  refine Go.bind (Go.sub (s₀ := s₀) htb hn r k (by simpa [DS.hashes] using hnd) (by have := ok.ln; simp [DS.hashes] at this; grind)) ?_
  have e : DS.heap h (DS.flush ⟨none, [], k, r⟩) = h.push (dObj (ents k r) r.length) := (HP_nil _ _).symm
  rw [e]
  exact Go.pure_
theorem Go.flushSome (htb : M.tb = treeTable) {h : Heap} (hn : M.n₀ ≤ h.objs.size) (hlo : sysModules < h.objs.size) {d : DS} {rest : List Pr} (ok : d.Ok rest) {x : List DictEntry × Nat} (hm : d.main = some x) {f : Addr → Value → Sem Unit} :
    Go M (40 * d.run.length + 30) (do
      let sub ← holding [.ref h.objs.size] (subDict (d.run.map (itemOf pos)))
      (holding [.ref h.objs.size, .ref sub] (mergeMapping h.objs.size (.ref sub) false)).onRaise (f sub)
      pure (some h.objs.size)) pos (ST s₀ (d.heap h) d.k) (d.flush.addr h) pos (ST s₀ (d.flush.heap h) d.flush.k) := by
  obtain ⟨m, l, k, r⟩ := d
  obtain rfl : m = some x := hm
  obtain ⟨es, ep⟩ := x
  have hnd0 := (List.nodup_append.mp ok.nd).1
  have hnd := List.nodup_append.mp hnd0
  have hsz := HP_size h (dObj es ep) l
  have hs := Go.sub (M := M) (pos := pos) (s₀ := s₀) (h := HP h (dObj es ep) l) htb (by rw [hsz]; grind) r k hnd.2.1 (by have := ok.ln; simp [DS.hashes] at this; grind)
  rw [hsz, HP_push] at hs
  refine Go.le (i := (28 * r.length + 10) + ((6 * (ents k r).length + 10) + 0)) ?_ (by rw [ents_length]; show _ ≤ 40 * r.length + 30; grind)
  refine Go.bind (Go.holding_ hs) ?_
  refine Go.bind (Go.onRaise_ (Go.holding_ (Go.merge (s₀ := s₀) hn hlo (ok.ne es ep rfl) (ents_key r k) (by rw [ents_hash]; exact hnd0) (by rw [ents_length]; have := ok.ln; simp [DS.hashes] at this; grind)))) ?_
  have e : DS.heap h (DS.flush ⟨some (es, ep), l, k, r⟩) = HP h (dObj (es ++ ents k r) (ep + (ents k r).length)) (l ++ [dObj (ents k r) r.length]) := by rw [ents_length]; rfl
  rw [e]
  exact Go.pure_

/-- the pairs one after the other -/
theorem Go.forIn_fold {γ σ : Type} {f : α → β → Sem (ForInStep β)} (g : γ → α) (st : σ → γ → σ) (out : σ → β) (sh : σ → Shared) (Ok : σ → List γ → Prop) (hok : ∀ a q r, Ok a (q :: r) → Ok (st a q) r)
    (turn : ∀ a q r, Ok a (q :: r) → Go M i (f (g q) (out a)) p (sh a) (.yield (out (st a q))) p (sh (st a q))) : ∀ (l : List γ) (a : σ), Ok a l → Go M (i * l.length) (forIn (l.map g) (out a) f) p (sh a) (out (l.foldl st a)) p (sh (l.foldl st a))
  | [], a, _ => Go.forIn_nil
  | q :: r, a, h => Go.le (Go.forIn_cons (turn a q r h) (Go.forIn_fold g st out sh Ok hok turn r _ (hok a q r h))) (by rw [List.length_cons, Nat.mul_succ]; grind)

noncomputable def dictItem (pos : Pos) (q : Pr) : Option (Sem Value) × Sem Value := (some (mkInt q.1), (do let x ← mkText q.2; standAt pos; pure x))
theorem Go.display (htb : M.tb = treeTable) {h : Heap} (hn : M.n₀ ≤ h.objs.size) (hlo : sysModules < h.objs.size) (ps : List Pr) (k : Nat) (ok : DS.Ok ⟨none, [], k, []⟩ ps)
    (hrun : (ps.foldl DS.step ⟨none, [], k, []⟩).run ≠ []) (hmain : (ps.foldl DS.step ⟨none, [], k, []⟩).main ≠ none) :
    Go M (800 * ps.length + (40 * (ps.foldl DS.step ⟨none, [], k, []⟩).run.length + 30)) (dictDisplay (ps.map (dictItem pos))) pos (ST s₀ h k) (.ref h.objs.size) pos (ST s₀ ((ps.foldl DS.step ⟨none, [], k, []⟩).flush.heap h) (ps.foldl DS.step ⟨none, [], k, []⟩).flush.k) := by
  have loop : ∀ f : Option (Sem Value) × Sem Value → Option Addr × List (Sem Value × Sem Value) → Sem (ForInStep (Option Addr × List (Sem Value × Sem Value))), (∀ a q r, DS.Ok a (q :: r) → Go M 800 (f (dictItem pos q) (a.addr h, a.run.map (itemOf pos))) pos (ST s₀ (a.heap h) a.k) (.yield ((a.step q).addr h, (a.step q).run.map (itemOf pos))) pos (ST s₀ ((a.step q).heap h) (a.step q).k)) →
      Go M (800 * ps.length) (forIn (ps.map (dictItem pos)) ((none : Option Addr), ([] : List (Sem Value × Sem Value))) f) pos (ST s₀ h k) ((ps.foldl DS.step ⟨none, [], k, []⟩).addr h, (ps.foldl DS.step ⟨none, [], k, []⟩).run.map (itemOf pos)) pos (ST s₀ ((ps.foldl DS.step ⟨none, [], k, []⟩).heap h) (ps.foldl DS.step ⟨none, [], k, []⟩).k) := fun f hf =>
    Go.forIn_fold (M := M) (p := pos) (dictItem pos) DS.step (fun a => (a.addr h, a.run.map (itemOf pos))) (fun a => ST s₀ (a.heap h) a.k) DS.Ok (fun a q r x => x.step) hf ps ⟨none, [], k, []⟩ ok
  have okE : ∀ (l : List Pr) (a : DS), DS.Ok a l → DS.Ok (l.foldl DS.step a) [] := by
    intro l
    induction l with
    | nil => intro a h; exact h
    | cons q r ih => intro a h; exact ih _ h.step
  have okf := okE ps _ ok
  unfold dictDisplay
  refine Go.bind (i := 800 * ps.length) (loop _ ?_) ?_
  · intro a q r oka
    dsimp only [dictItem]
    have e1 : a.run.map (itemOf pos) ++ [(mkInt q.1, do let x ← mkText q.2; standAt pos; Pure.pure x)] = (a.run ++ [q]).map (itemOf pos) := by rw [List.map_append]; rfl
    have e2 : ((a.run ++ [q]).map (itemOf pos)).length = (a.run ++ [q]).length := List.length_map _
    rw [e1, e2]
    unfold DS.step
    split
    · rename_i hq
      have hq2 : (a.run ++ [q]).length = 17 := by simpa using hq
      refine Go.le (i := (40 * (a.run ++ [q]).length + 30) + 0) ?_ (by grind)
      refine Go.bind (a := (DS.flush { a with run := a.run ++ [q] }).addr h) (p₁ := pos) (s₁ := ST s₀ ((DS.flush { a with run := a.run ++ [q] }).heap h) (DS.flush { a with run := a.run ++ [q] }).k) ?_ ?_
      · rw [if_neg (by simp)]
        have ok2 := oka.push
        obtain ⟨m, l, k', r'⟩ := a
        cases m with
        | none => exact Go.flushNone (d := ⟨none, l, k', r' ++ [q]⟩) htb hn ok2 rfl
        | some x => exact Go.flushSome (d := ⟨some x, l, k', r' ++ [q]⟩) htb hn hlo ok2 rfl
      · have : (DS.flush { a with run := a.run ++ [q] }).run = [] := by
          unfold DS.flush; split <;> rfl
        rw [this]
        exact Go.pure_
    · exact Go.le Go.pure_ (Nat.zero_le _)
  · generalize ps.foldl DS.step ⟨none, [], k, []⟩ = d at okf hrun hmain
    dsimp only
    refine Go.bind (i := 40 * d.run.length + 30) (j := 0) (a := d.flush.addr h) (p₁ := pos) (s₁ := ST s₀ (d.flush.heap h) d.flush.k) ?_ ?_
    · rw [if_neg (by cases hr : d.run with | nil => exact absurd hr hrun | cons => simp)]
      cases hm : d.main with
      | none => exact absurd hm hmain
      | some x =>
        have ha : d.addr h = some h.objs.size := by unfold DS.addr; rw [hm]; rfl
        rw [ha]
        exact Go.flushSome (d := d) htb hn hlo okf hm
    · have : d.flush.addr h = some h.objs.size := by
        unfold DS.flush DS.addr; split <;> rfl
      rw [this]
      exact Go.pure_
end

noncomputable def pairsOf : List (Option Expr) → List Expr → List Pr
  | some (.Constant (.int i) _ _) :: ks, .Constant (.str s) _ _ :: vs => (i, s) :: pairsOf ks vs
  | _, _ => []

-- what a run of pairs leaves
theorem DS.run_len (ps : List Pr) : ∀ d : DS, d.run.length < 17 → (ps.foldl DS.step d).run.length = (d.run.length + ps.length) % 17 := by
  induction ps with
  | nil => intro d h; simp only [List.foldl_nil, List.length_nil, Nat.add_zero]; grind
  | cons q r ih =>
    intro d h
    rw [List.foldl_cons]
    by_cases e : d.run.length = 16
    · have hs : (d.step q).run = [] := by
        unfold DS.step
        rw [if_pos (by simp [e])]
        unfold DS.flush; split <;> rfl
      rw [ih _ (by rw [hs]; decide), hs, List.length_cons, List.length_nil, e]
      grind
    · have hs : (d.step q).run = d.run ++ [q] := by
        unfold DS.step
        rw [if_neg (by simp; omega)]
      rw [ih _ (by rw [hs]; simp; grind), hs, List.length_append, List.length_cons, List.length_nil, List.length_cons]
      congr 1; grind
theorem DS.k_eq (ps : List Pr) : ∀ d : DS, (ps.foldl DS.step d).k + 3 * (ps.foldl DS.step d).run.length = d.k + 3 * (d.run.length + ps.length) := by
  induction ps with
  | nil => intro d; simp
  | cons q r ih =>
    intro d
    rw [List.foldl_cons, ih]
    unfold DS.step
    split
    · unfold DS.flush; split <;> simp only [List.length_append, List.length_cons, List.length_nil] <;> grind
    · simp only [List.length_append, List.length_cons, List.length_nil]; grind
theorem DS.flush_k (d : DS) : d.flush.k = d.k + 3 * d.run.length := by unfold DS.flush; split <;> rfl
/-- how many dicts were made -/
noncomputable def DS.made (d : DS) : Nat := (match d.main with | none => 0 | some _ => 1) + d.subs.length
theorem DS.flush_made (d : DS) : d.flush.made = d.made + 1 := by
  obtain ⟨m, l, k, r⟩ := d
  cases m <;> simp [DS.flush, DS.made] <;> grind
theorem DS.made_eq (ps : List Pr) : ∀ d : DS, d.run.length < 17 → (ps.foldl DS.step d).made = d.made + (d.run.length + ps.length) / 17 := by
  induction ps with
  | nil => intro d h; simp only [List.foldl_nil, List.length_nil, Nat.add_zero]; grind
  | cons q r ih =>
    intro d h
    rw [List.foldl_cons]
    by_cases e : d.run.length = 16
    · have hs : d.step q = DS.flush { d with run := d.run ++ [q] } := by
        unfold DS.step
        rw [if_pos (by simp [e])]
      have hr : (DS.flush { d with run := d.run ++ [q] }).run = [] := by unfold DS.flush; split <;> rfl
      rw [ih _ (by rw [hs, hr]; decide), hs, hr, DS.flush_made, List.length_cons, List.length_nil, e]
      show d.made + 1 + _ = _
      grind
    · have hs : d.step q = { d with run := d.run ++ [q] } := by
        unfold DS.step
        rw [if_neg (by simp; omega)]
      rw [ih _ (by rw [hs]; simp; grind), hs, List.length_append, List.length_cons, List.length_nil, List.length_cons]
      show d.made + _ = _
      congr 2; grind
theorem DS.ok_fold : ∀ (l : List Pr) (a : DS), DS.Ok a l → DS.Ok (l.foldl DS.step a) [] := by
  intro l
  induction l with
  | nil => intro a h; exact h
  | cons q r ih => intro a h; exact ih _ h.step

/-- all pairs, in their order, whatever the tokens -/
noncomputable def DS.all (d : DS) : List (Int × Str) := (match d.main with | none => [] | some (es, _) => es.map fun e => (match e.key with | .int i _ => i | _ => 0, match e.val with | .str s _ => s | _ => default)) ++ d.run
theorem ents_all (k : Nat) (ps : List Pr) : (ents k ps).map (fun e => (match e.key with | .int i _ => i | _ => (0 : Int), match e.val with | .str s _ => s | _ => default)) = ps := by
  have h1 : ∀ (ps : List Pr) (k : Nat), (entsS k ps).map (fun e => (match e.key with | .int i _ => i | _ => (0 : Int), match e.val with | .str s _ => s | _ => default)) = ps := by
    intro ps; induction ps with
    | nil => intro k; rfl
    | cons q r ih => intro k; simp only [entsS, List.map_cons, ent, ih]
  have h2 : ∀ (ps : List Pr) (k : Nat), (entsL k ps).map (fun e => (match e.key with | .int i _ => i | _ => (0 : Int), match e.val with | .str s _ => s | _ => default)) = ps := by
    intro ps; induction ps with
    | nil => intro k; rfl
    | cons q r ih => intro k; simp only [entsL, List.map_cons, ent, ih]
  unfold ents; split; exact h1 _ _; exact h2 _ _
theorem DS.flush_all (d : DS) : d.flush.all = d.all := by
  obtain ⟨m, l, k, r⟩ := d
  cases m with
  | none => simp only [DS.flush, DS.all, ents_all, List.append_nil, List.nil_append]
  | some x => obtain ⟨es, ep⟩ := x; simp only [DS.flush, DS.all, List.map_append, ents_all, List.append_nil]
theorem DS.all_eq (ps : List Pr) : ∀ d : DS, (ps.foldl DS.step d).all = d.all ++ ps := by
  induction ps with
  | nil => intro d; simp
  | cons q r ih =>
    intro d
    rw [List.foldl_cons, ih]
    have : (d.step q).all = d.all ++ [q] := by
      have e : DS.all { d with run := d.run ++ [q] } = d.all ++ [q] := by simp [DS.all]
      unfold DS.step
      split
      · rw [DS.flush_all]; exact e
      · exact e
    rw [this, List.append_assoc]; rfl
/-- the entries' form -/
noncomputable def EntForm (e : DictEntry) : Prop := ∃ i t x u, e = ent i t x u
theorem ents_form (k : Nat) (ps : List Pr) : ∀ e ∈ ents k ps, EntForm e := by
  have h1 : ∀ (ps : List Pr) (k : Nat), ∀ e ∈ entsS k ps, EntForm e := by
    intro ps; induction ps with
    | nil => intro k e h; cases h
    | cons q r ih => intro k e h; rcases List.mem_cons.mp h with rfl | h; exact ⟨_, _, _, _, rfl⟩; exact ih _ _ h
  have h2 : ∀ (ps : List Pr) (k : Nat), ∀ e ∈ entsL k ps, EntForm e := by
    intro ps; induction ps with
    | nil => intro k e h; cases h
    | cons q r ih => intro k e h; rcases List.mem_cons.mp h with rfl | h; exact ⟨_, _, _, _, rfl⟩; exact ih _ _ h
  unfold ents; split; exact h1 _ _; exact h2 _ _
noncomputable def DS.Form (d : DS) : Prop := ∀ es ep, d.main = some (es, ep) → ∀ e ∈ es, EntForm e
theorem DS.Form.flush {d : DS} (h : d.Form) : d.flush.Form := by
  obtain ⟨m, l, k, r⟩ := d
  cases m with
  | none => intro es ep e; cases e; exact ents_form _ _
  | some x =>
    obtain ⟨es', ep'⟩ := x
    intro es ep e
    cases e
    intro x hx
    rcases List.mem_append.mp hx with hx | hx
    · exact h _ _ rfl _ hx
    · exact ents_form _ _ _ hx
theorem DS.Form.fold (ps : List Pr) : ∀ d : DS, d.Form → (ps.foldl DS.step d).Form := by
  induction ps with
  | nil => intro d h; exact h
  | cons q r ih =>
    intro d h
    refine ih _ ?_
    have e : DS.Form { d with run := d.run ++ [q] } := h
    unfold DS.step
    split
    · exact e.flush
    · exact e

-- objects into the tree
noncomputable def insAll : BT → Nat → List Obj → BT
  | T, _, [] => T
  | T, n, o :: r => insAll (T.ins n o) (n + 1) r
noncomputable def insOk : BT → Nat → List Obj → Bool
  | _, _, [] => true
  | T, n, o :: r => ((T.ins n o).get n).isSome && insOk (T.ins n o) (n + 1) r
theorem absHeap_insAll (life : Life) : ∀ (os : List Obj) (T : BT) (n : Nat), insOk T n os = true → absHeap (insAll T n os) (n + os.length) life = ⟨(absHeap T n life).objs ++ os.toArray, life⟩
  | [], T, n, _ => by show absHeap T n life = _; simp; rfl
  | o :: r, T, n, h => by
    have h2 := Bool.and_eq_true_iff.mp h
    have ih := absHeap_insAll life r (T.ins n o) (n + 1) h2.2
    rw [show n + (o :: r).length = n + 1 + r.length by simp only [List.length_cons]; grind]
    show absHeap (insAll (T.ins n o) (n + 1) r) _ life = _
    rw [ih, absHeap_ins h2.1]
    show Heap.mk _ _ = Heap.mk _ _
    congr 1
    apply Array.ext'
    simp [Heap.push, absHeap]

theorem HP_abs {T : BT} {n n' : Nat} {life : Life} {m : Obj} {l os : List Obj} (h : insOk T n os = true) (ho : os = m :: l) (hn : n + os.length = n') : HP (absHeap T n life) m l = absHeap (insAll T n os) n' life := by
  subst ho hn; exact (absHeap_insAll life (m :: l) T n h).symm
theorem segRun_mono {tb : String → Option Builtin} {p : Program} {w : World} {n₀ : Nat} {ann : Option Value} {b : Nat} (k : Nat) : ∀ (n : Nat) (s : Shared) (t : Thread) (r : Flow × Shared × Code × Pos), segRun tb p w n₀ ann b n s t = some r → segRun tb p w n₀ ann b (n + k) s t = some r
  | 0, _, _, _, h => by simp [segRun] at h
  | n + 1, s, t, r, h => by
    rw [show n + 1 + k = n + k + 1 by grind]
    unfold segRun at h ⊢
    cases he : endAt b t with
    | some f => rw [he] at h; exact h
    | none =>
      rw [he] at h
      cases hk : stepOk n₀ ann t with
      | false => rw [hk] at h; cases h
      | true =>
        rw [hk] at h
        cases hs : step (denote tb) p w s t with
        | halt o s' => rw [hs] at h; cases h
        | go s' t' => rw [hs] at h; exact segRun_mono k n s' t' r h
theorem SG.run {M : Mc} {i N : Nat} {s s' : Shared} {t t' : Thread} {r : Flow × Shared × Code × Pos} (h : SG M i s t s' t') (k : segRun M.tb M.p M.w M.n₀ M.ann M.b N s' t' = some r) : segRun M.tb M.p M.w M.n₀ M.ann M.b (i + N) s t = some r := by
  obtain ⟨n, hn, h⟩ := h
  have := segRun_mono (i - n) _ _ _ _ (seg_go h k)
  rw [show n + N + (i - n) = i + N by grind] at this
  exact this

noncomputable def incr : List Int → Bool
  | a :: b :: r => decide (a < b) && incr (b :: r)
  | _ => true
theorem incr_lt : ∀ (l : List Int) (a : Int), incr (a :: l) = true → ∀ x ∈ l, a < x
  | [], a, _, x, hx => by cases hx
  | b :: r, a, h, x, hx => by
    have h2 := Bool.and_eq_true_iff.mp h
    have hab : a < b := of_decide_eq_true h2.1
    rcases List.mem_cons.mp hx with rfl | hx
    · exact hab
    · have := incr_lt r b h2.2 x hx; grind
theorem incr_nodup : ∀ l : List Int, incr l = true → l.Nodup
  | [], _ => List.nodup_nil
  | a :: l, h => by
    rw [List.nodup_cons]
    refine ⟨fun hm => by have := incr_lt l a h a hm; grind, incr_nodup l ?_⟩
    cases l with
    | nil => rfl
    | cons b r => exact (Bool.and_eq_true_iff.mp h).2

theorem hG {G : Prop} (h : ∀ Z : Prop, (G → Z) → Z) : G := h G id

/-- a text of codes -/
noncomputable abbrev T (l : List Nat) : Str := ⟨l.toArray⟩
theorem T_toList (l : List Nat) : (T l).cps.toList = l := by simp [T]
theorem T_of (x : Str) : x = T x.cps.toList := by cases x; simp [T]
theorem T_len (l : List Nat) : (T l).length = l.length := by simp [T, Str.length]
theorem T_app (a b : List Nat) : (T a ++ T b : Str) = T (a ++ b) := by
  show (Str.mk _ : Str) = _
  simp [T]

/-- a value without tokens and addresses -/
inductive PV where
  | none
  | bool (b : Bool)
  | int (i : Int)
  | str (l : List Nat)
  | loc (n : Nat)
  | tup (xs : List PV)
  | glob (v : Value)

inductive PO where
  | list (xs : List PV)
  | dictS (kvs : List (List Nat × PV))
  | dictI (kvs : List (Int × PV))

structure Mem where
  φ : List Addr
  hid : List (Addr × Obj)

noncomputable def tupObj (vs : List Value) : Obj := { cls := .type "tuple", data := .seq vs.toArray }

mutual
inductive VR (μ : Mem) : Value → PV → Prop
  | none : VR μ .none .none
  | bool (b : Bool) : VR μ (.bool b) (.bool b)
  | int (i : Int) (t : Tok) : VR μ (.int i t) (.int i)
  | str (l : List Nat) (t : Tok) : VR μ (.str (T l) t) (.str l)
  | loc (n : Nat) (a : Addr) : μ.φ[n]? = some a → VR μ (.ref a) (.loc n)
  | tup (a : Addr) (vs : List Value) (xs : List PV) : (a, tupObj vs) ∈ μ.hid → VRs μ vs xs → VR μ (.ref a) (.tup xs)
  | glob (v : Value) : VR μ v (.glob v)
inductive VRs (μ : Mem) : List Value → List PV → Prop
  | nil : VRs μ [] []
  | cons (v : Value) (x : PV) (vs : List Value) (xs : List PV) : VR μ v x → VRs μ vs xs → VRs μ (v :: vs) (x :: xs)
end

structure Mem.le (μ μ' : Mem) : Prop where
  φ : ∀ (n : Nat) (a : Addr), μ.φ[n]? = some a → μ'.φ[n]? = some a
  hid : ∀ p, p ∈ μ.hid → p ∈ μ'.hid
theorem Mem.le.refl (μ : Mem) : μ.le μ := ⟨fun _ _ h => h, fun _ h => h⟩
theorem Mem.le.trans {a b c : Mem} (x : a.le b) (y : b.le c) : a.le c := ⟨fun n v h => y.φ n v (x.φ n v h), fun p h => y.hid p (x.hid p h)⟩

mutual
theorem VR.mono {μ μ' : Mem} (le : μ.le μ') : ∀ {v : Value} {x : PV}, VR μ v x → VR μ' v x
  | _, _, .none => .none
  | _, _, .bool b => .bool b
  | _, _, .int i t => .int i t
  | _, _, .str l t => .str l t
  | _, _, .loc n a h => .loc n a (le.φ n a h)
  | _, _, .tup a vs xs h hs => .tup a vs xs (le.hid _ h) (VRs.mono le hs)
  | _, _, .glob v => .glob v
theorem VRs.mono {μ μ' : Mem} (le : μ.le μ') : ∀ {vs : List Value} {xs : List PV}, VRs μ vs xs → VRs μ' vs xs
  | _, _, .nil => .nil
  | _, _, .cons v x vs xs h hs => .cons v x vs xs (VR.mono le h) (VRs.mono le hs)
end

theorem VRs.length {μ : Mem} : ∀ {vs : List Value} {xs : List PV}, VRs μ vs xs → vs.length = xs.length
  | _, _, .nil => rfl
  | _, _, .cons _ _ _ _ _ h => by simp [VRs.length h]
theorem VRs.get {μ : Mem} : ∀ {vs : List Value} {xs : List PV} (_ : VRs μ vs xs) (i : Nat) (x : PV), xs[i]? = some x → ∃ v, vs[i]? = some v ∧ VR μ v x
  | _, _, .cons v x vs xs h hs, 0, y, e => by simp at e; subst e; exact ⟨v, by simp, h⟩
  | _, _, .cons v x vs xs h hs, i + 1, y, e => by simpa using VRs.get hs i y (by simpa using e)
  | _, _, .nil, i, y, e => by simp at e
theorem VRs.append {μ : Mem} : ∀ {vs ws : List Value} {xs ys : List PV}, VRs μ vs xs → VRs μ ws ys → VRs μ (vs ++ ws) (xs ++ ys)
  | _, _, _, _, .nil, h => h
  | _, _, _, _, .cons v x vs xs h hs, h' => .cons v x _ _ h (VRs.append hs h')
theorem VRs.take {μ : Mem} : ∀ {vs : List Value} {xs : List PV} (_ : VRs μ vs xs) (n : Nat), VRs μ (vs.take n) (xs.take n)
  | _, _, _, 0 => by simpa using VRs.nil
  | _, _, .nil, n + 1 => by simpa using VRs.nil
  | _, _, .cons v x vs xs h hs, n + 1 => by simpa using VRs.cons _ _ _ _ h (VRs.take hs n)
theorem VRs.drop {μ : Mem} : ∀ {vs : List Value} {xs : List PV} (_ : VRs μ vs xs) (n : Nat), VRs μ (vs.drop n) (xs.drop n)
  | _, _, h, 0 => by simpa using h
  | _, _, .nil, n + 1 => by simpa using VRs.nil
  | _, _, .cons v x vs xs h hs, n + 1 => by simpa using VRs.drop hs n
theorem VRs.set {μ : Mem} {v : Value} {x : PV} (hv : VR μ v x) : ∀ {vs : List Value} {xs : List PV} (_ : VRs μ vs xs) (n : Nat), VRs μ (vs.set n v) (xs.set n x)
  | _, _, .nil, n => by simpa using VRs.nil
  | _, _, .cons w y vs xs h hs, 0 => by simpa using VRs.cons _ _ _ _ hv hs
  | _, _, .cons w y vs xs h hs, n + 1 => by simpa using VRs.cons _ _ _ _ h (VRs.set hv hs n)

/-- the pairs of a dict -/
inductive KRs {K K' : Type} (f : K' → K) (μ : Mem) : List (K × Value) → List (K' × PV) → Prop
  | nil : KRs f μ [] []
  | cons (k : K') (v : Value) (x : PV) (kvs : List (K × Value)) (ps : List (K' × PV)) : VR μ v x → KRs f μ kvs ps → KRs f μ ((f k, v) :: kvs) ((k, x) :: ps)
theorem KRs.mono {K K' : Type} {f : K' → K} {μ μ' : Mem} (le : μ.le μ') {kvs : List (K × Value)} {ps : List (K' × PV)} (h : KRs f μ kvs ps) : KRs f μ' kvs ps := by
  induction h with
  | nil => exact .nil
  | cons k v x kvs ps h _ ih => exact .cons k v x kvs ps (h.mono le) ih

inductive OR (prog : Program) (w : World) (μ : Mem) : Obj → PO → Prop
  | list (vs : List Value) (n : Nat) (xs : List PV) : VRs μ vs xs → OR prog w μ (listOf vs.toArray n) (.list xs)
  | dictS (o : Obj) (kvs : List (Str × Value)) (ps : List (List Nat × PV)) : o.IsDictOf (PySem.strKind prog w) kvs → KRs T μ kvs ps → OR prog w μ o (.dictS ps)
  | dictI (o : Obj) (kvs : List (Int × Value)) (ps : List (Int × PV)) : o.IsDictOf (PySem.intKind prog w) kvs → KRs id μ kvs ps → OR prog w μ o (.dictI ps)
theorem OR.mono {prog : Program} {w : World} {μ μ' : Mem} (le : μ.le μ') {o : Obj} {p : PO} (h : OR prog w μ o p) : OR prog w μ' o p := by
  cases h with
  | list vs n xs h => exact .list vs n xs (h.mono le)
  | dictS o kvs ps hd h => exact .dictS o kvs ps hd (h.mono le)
  | dictI o kvs ps hd h => exact .dictI o kvs ps hd (h.mono le)
inductive ORs (prog : Program) (w : World) (μ : Mem) : List Obj → List PO → Prop
  | nil : ORs prog w μ [] []
  | cons (o : Obj) (p : PO) (os : List Obj) (ps : List PO) : OR prog w μ o p → ORs prog w μ os ps → ORs prog w μ (o :: os) (p :: ps)
theorem ORs.mono {prog : Program} {w : World} {μ μ' : Mem} (le : μ.le μ') {os : List Obj} {ps : List PO} (h : ORs prog w μ os ps) : ORs prog w μ' os ps := by
  induction h with
  | nil => exact .nil
  | cons o p os ps h _ ih => exact .cons o p os ps (h.mono le) ih
theorem ORs.length {prog : Program} {w : World} {μ : Mem} {os : List Obj} {ps : List PO} (h : ORs prog w μ os ps) : os.length = ps.length := by
  induction h with
  | nil => rfl
  | cons _ _ _ _ _ _ ih => simp [ih]
theorem ORs.get {prog : Program} {w : World} {μ : Mem} {os : List Obj} {ps : List PO} (h : ORs prog w μ os ps) : ∀ (i : Nat) (p : PO), ps[i]? = some p → ∃ o, os[i]? = some o ∧ OR prog w μ o p := by
  induction h with
  | nil => intro i p e; simp at e
  | cons o p os ps h _ ih =>
    intro i q e
    cases i with
    | zero => simp at e; subst e; exact ⟨o, by simp, h⟩
    | succ i => simpa using ih i q (by simpa using e)
theorem ORs.append {prog : Program} {w : World} {μ : Mem} {os os' : List Obj} {ps ps' : List PO} (h : ORs prog w μ os ps) (h' : ORs prog w μ os' ps') : ORs prog w μ (os ++ os') (ps ++ ps') := by
  induction h with
  | nil => exact h'
  | cons o p os ps h _ ih => exact .cons o p _ _ h ih
theorem ORs.set {prog : Program} {w : World} {μ : Mem} {os : List Obj} {ps : List PO} (h : ORs prog w μ os ps) {o : Obj} {p : PO} (ho : OR prog w μ o p) : ∀ (n : Nat), ORs prog w μ (os.set n o) (ps.set n p) := by
  induction h with
  | nil => intro n; simpa using ORs.nil
  | cons o' p' os ps h hs ih =>
    intro n
    cases n with
    | zero => simpa using ORs.cons _ _ _ _ ho hs
    | succ n => simpa using ORs.cons _ _ _ _ h (ih n)
theorem ORs.take {prog : Program} {w : World} {μ : Mem} {os : List Obj} {ps : List PO} (h : ORs prog w μ os ps) : ∀ (n : Nat), ORs prog w μ (os.take n) (ps.take n) := by
  induction h with
  | nil => intro n; simpa using ORs.nil
  | cons o' p' os ps h hs ih =>
    intro n
    cases n with
    | zero => simpa using ORs.nil
    | succ n => simpa using ORs.cons _ _ _ _ h (ih n)

/-- a state without tokens and addresses: the locals that are known, the objects of the call's own -/
structure PSt where
  loc : List (Str × PV)
  sto : List PO

noncomputable def NoTup (hs : List (Addr × Obj)) : Prop := ∀ p ∈ hs, (∀ vs, p.2 ≠ tupObj vs) ∧ ∀ v, p.2.data ≠ .cell v
/-- what is held fast: a fact of the ledger that stands while it grows -/
structure Pin where
  p : Mem → Prop
  mono : ∀ μ μ' : Mem, μ.le μ' → p μ → p μ'
  drop : ∀ (φ : List Addr) (hs hid : List (Addr × Obj)), NoTup hs → p ⟨φ, hs ++ hid⟩ → p ⟨φ, hid⟩
noncomputable def Pin.triv : Pin := ⟨fun _ => True, fun _ _ _ _ => trivial, fun _ _ _ _ _ => trivial⟩
structure Cx where
  prog : Program
  w : World
  K : Frag
  A : Around
  h₀ : Heap
  L : Addr
  env : Env
  pin : Pin

noncomputable def LocR (μ : Mem) (m : Str → Option Value) (l : List (Str × PV)) : Prop := ∀ x v, l.lookup x = some v → ∃ a, m x = some a ∧ VR μ a v

structure Good (X : Cx) (μ : Mem) (st : PSt) (s : Shared) (m : Str → Option Value) (objs : List Obj) : Prop where
  fr : Fr X.h₀ X.L s.heap m
  loc : LocR μ m st.loc
  news : News X.h₀ X.L s.heap (μ.φ.zip objs ++ μ.hid)
  sto : ORs X.prog X.w μ objs st.sto
  len : μ.φ.length = st.sto.length
  nodup : (μ.φ ++ μ.hid.map (·.1)).Nodup
  pin : X.pin.p μ
noncomputable def GoodE (X : Cx) (μ : Mem) (st : PSt) (s : Shared) : Prop := ∃ m objs, Good X μ st s m objs

noncomputable def Same (s s' : Shared) : Prop := s' = { s with heap := s'.heap, toks := s'.toks }
theorem Same.refl (s : Shared) : Same s s := rfl
theorem Same.trans {a b c : Shared} (x : Same a b) (y : Same b c) : Same a c := by
  unfold Same at *; rw [y, x]
theorem Same.mk (s : Shared) (h : Heap) (t : Nat) : Same s { s with heap := h, toks := t } := rfl

noncomputable def Post {α : Type} (X : Cx) (μ : Mem) (s : Shared) (R : Mem → α → Prop) (st' : PSt) (a : α) (s' : Shared) : Prop :=
  ∃ μ', μ.le μ' ∧ R μ' a ∧ GoodE X μ' st' s' ∧ Same s s'

noncomputable abbrev W {α : Type} (X : Cx) (t : Sem α) (Q : α → Shared → Prop) (s : Shared) : Prop := wpAny (model X.prog X.w) X.A t Q (fun _ _ => False) s

/-- from a state the tree comes to a value and a state -/
noncomputable def Tr {α : Type} (X : Cx) (t : Sem α) (st : PSt) (R : Mem → α → Prop) (st' : PSt) : Prop := ∀ μ s, GoodE X μ st s → W X t (Post X μ s R st') s

theorem W.mono {α : Type} {X : Cx} {t : Sem α} {Q Q' : α → Shared → Prop} {s : Shared} (h : W X t Q s) (hq : ∀ a s', Q a s' → Q' a s') : W X t Q' s := wpAny_mono h hq fun _ _ e => e
theorem W.post {α : Type} {X : Cx} {t : Sem α} {μ : Mem} {s : Shared} {R : Mem → α → Prop} {st' : PSt} {Q : α → Shared → Prop} (h : W X t (Post X μ s R st') s)
    (k : ∀ a μ' s', μ.le μ' → R μ' a → GoodE X μ' st' s' → Same s s' → Q a s') : W X t Q s :=
  h.mono fun a s' ⟨μ', le, r, g, e⟩ => k a μ' s' le r g e
theorem Post.trans {α : Type} {X : Cx} {μ μ' : Mem} {s s' : Shared} {R : Mem → α → Prop} {st' : PSt} (le : μ.le μ') (e : Same s s') {a : α} {s₂ : Shared} (h : Post X μ' s' R st' a s₂) : Post X μ s R st' a s₂ :=
  let ⟨μ₂, le₂, r, g, e₂⟩ := h; ⟨μ₂, le.trans le₂, r, g, e.trans e₂⟩
theorem W.trans {α : Type} {X : Cx} {t : Sem α} {μ μ' : Mem} {s s' : Shared} {R : Mem → α → Prop} {st' : PSt} (le : μ.le μ') (e : Same s s') (h : W X t (Post X μ' s' R st') s') : W X t (Post X μ s R st') s' :=
  h.mono fun _ _ p => p.trans le e
theorem Post.intro {α : Type} {X : Cx} {μ : Mem} {s s' : Shared} {R : Mem → α → Prop} {st' : PSt} {a : α} (r : R μ a) (g : GoodE X μ st' s') (e : Same s s') : Post X μ s R st' a s' := ⟨μ, .refl _, r, g, e⟩

/-- tokens do not matter -/
theorem Good.toks {X : Cx} {μ : Mem} {st : PSt} {s : Shared} {m : Str → Option Value} {objs : List Obj} (g : Good X μ st s m objs) {s' : Shared} (e : s'.heap = s.heap) : Good X μ st s' m objs :=
  ⟨e ▸ g.fr, g.loc, e ▸ g.news, g.sto, g.len, g.nodup, g.pin⟩
theorem GoodE.toks {X : Cx} {μ : Mem} {st : PSt} {s : Shared} (g : GoodE X μ st s) {s' : Shared} (e : s'.heap = s.heap) : GoodE X μ st s' := let ⟨m, o, h⟩ := g; ⟨m, o, h.toks e⟩

/-- what the context must have: room for k calls more -/
structure Cx.Ok (X : Cx) (k : Nat) : Prop where
  hh : X.A.handled = none
  depth : X.A.depth + k < 900
  units : X.A.units + 8 * k + 100 < cLine
  kin : X.K.In X.h₀
  nolimit : X.h₀.NoLimit
  hL : X.env.locals = X.L
  kind : X.env.scope.kind = .function
  hg : X.env.globals = mainGlobals
  hb : X.env.builtins = builtinsNs
  mods : ∃ o, X.h₀.get? sysModules = some o

theorem Cx.Ok.less {X : Cx} {k j : Nat} (h : X.Ok k) (le : j ≤ k) : X.Ok j := ⟨h.hh, by have := h.depth; grind, by have := h.units; grind, h.kin, h.nolimit, h.hL, h.kind, h.hg, h.hb, h.mods⟩

theorem GoodE.kin {X : Cx} {k : Nat} (ok : X.Ok k) {μ : Mem} {st : PSt} {s : Shared} (g : GoodE X μ st s) : X.K.In s.heap := let ⟨_, _, h⟩ := g; ok.kin.keeps h.fr.keep

noncomputable def Ev (X : Cx) (e : Expr) (st : PSt) (v : PV) (st' : PSt) : Prop := Tr X (eval e X.env) st (fun μ a => VR μ a v) st'
noncomputable def Evs (X : Cx) (es : List Expr) (st : PSt) (vs : List PV) (st' : PSt) : Prop := ∀ pos, Tr X (spliced (backTo pos (starEach es X.env))) st (fun μ a => VRs μ a vs) st'
noncomputable def Tst (X : Cx) (e : Expr) (st : PSt) (b : Bool) (st' : PSt) : Prop := Tr X (isTrue e X.env (eval e X.env)) st (fun _ a => a = b) st'

inductive PFlow where
  | next | brk | cont | ret (v : PV)
inductive FR (μ : Mem) : Flow → PFlow → Prop
  | next : FR μ .next .next
  | brk : FR μ .brk .brk
  | cont : FR μ .cont .cont
  | ret (v : Value) (x : PV) : VR μ v x → FR μ (.ret v) (.ret x)
noncomputable def Ex (X : Cx) (c : Stmt) (st : PSt) (f : PFlow) (st' : PSt) : Prop := Tr X (exec c X.env) st (fun μ a => FR μ a f) st'
noncomputable def Exs (X : Cx) (cs : List Stmt) (st : PSt) (f : PFlow) (st' : PSt) : Prop := Tr X (execs cs X.env) st (fun μ a => FR μ a f) st'

noncomputable def Op2 (X : Cx) (t : Value → Value → Sem Value) (a b : PV) (st : PSt) (v : PV) (st' : PSt) : Prop :=
  ∀ μ s x y, GoodE X μ st s → VR μ x a → VR μ y b → W X (t x y) (Post X μ s (fun μ r => VR μ r v) st') s
noncomputable def Calls (X : Cx) (f : PV) (as : List PV) (st : PSt) (v : PV) (st' : PSt) : Prop :=
  ∀ μ s x ys, GoodE X μ st s → VR μ x f → VRs μ ys as → W X (call x ys []) (Post X μ s (fun μ r => VR μ r v) st') s


-- ledger keeping
theorem Good.push {X : Cx} {μ : Mem} {st : PSt} {s : Shared} {m : Str → Option Value} {objs : List Obj} (g : Good X μ st s m objs) (o : Obj) : Good X μ st { s with heap := s.heap.push o } m objs :=
  ⟨g.fr.push o, g.loc, fun p hp => ⟨Heap.get?_push_of_some _ (g.news p hp).1, (g.news p hp).2⟩, g.sto, g.len, g.nodup, g.pin⟩
theorem GoodE.push {X : Cx} {μ : Mem} {st : PSt} {s : Shared} (g : GoodE X μ st s) (o : Obj) : GoodE X μ st { s with heap := s.heap.push o } := let ⟨m, ob, h⟩ := g; ⟨m, ob, h.push o⟩
theorem GoodE.keeps {X : Cx} {μ : Mem} {st : PSt} {s : Shared} (g : GoodE X μ st s) {h' : Heap} {tk : Nat} (k : ∀ b o, s.heap.get? b = some o → h'.get? b = some o) : GoodE X μ st { s with heap := h', toks := tk } :=
  let ⟨m, ob, h⟩ := g
  ⟨m, ob, ⟨⟨h.fr.ns.keeps k, fun b o e => k _ _ (h.fr.keep b o e), h.fr.above⟩, h.loc, fun p hp => ⟨k _ _ (h.news p hp).1, (h.news p hp).2⟩, h.sto, h.len, h.nodup, h.pin⟩⟩

section
variable {X : Cx} {st st₁ st₂ st₃ st' : PSt}


-- names and constants
theorem Ev.int {i : Int} {k : Nat} {p : Pos} : Ev X (.Constant (.int i) k p) st (.int i) st := fun μ s g => wpAny_Constant_int (.intro (.int _ _) (g.toks rfl) (.mk _ _ _))
theorem Ev.str {x : Str} {l : List Nat} {k : Nat} {p : Pos} (h : x = T l) : Ev X (.Constant (.str x) k p) st (.str l) st := fun μ s g => by
  subst h; exact Constant_str (.intro (.str _ _) (g.toks rfl) (.mk _ _ _))
theorem Ev.none {k : Nat} {p : Pos} : Ev X (.Constant .none k p) st .none st := fun μ s g => wpAny_pure (.intro .none g (.refl _))

/-- the value of a local, looked up by the name as it is written -/
inductive Look : List (Str × PV) → Str → PV → Prop
  | here (x : Str) (v : PV) (l : List (Str × PV)) : Look ((x, v) :: l) x v
  | there (x y : Str) (u v : PV) (l : List (Str × PV)) : x ≠ y → Look l x v → Look ((y, u) :: l) x v
theorem Look.eq {l : List (Str × PV)} {x : Str} {v : PV} (h : Look l x v) : l.lookup x = some v := by
  induction h with
  | here => simp
  | there x y u v l hne _ ih => rw [List.lookup_cons, beq_eq_false_iff_ne.mpr hne]; exact ih
inductive Put : List (Str × PV) → Str → PV → List (Str × PV) → Prop
  | nil (x : Str) (v : PV) : Put [] x v [(x, v)]
  | here (x : Str) (u v : PV) (l : List (Str × PV)) : Put ((x, u) :: l) x v ((x, v) :: l)
  | there (x y : Str) (u v : PV) (l l' : List (Str × PV)) : x ≠ y → Put l x v l' → Put ((y, u) :: l) x v ((y, u) :: l')
theorem Put.look {l l' : List (Str × PV)} {x : Str} {v : PV} (h : Put l x v l') : ∀ y, l'.lookup y = if y = x then some v else l.lookup y := by
  induction h with
  | nil x v => intro y; by_cases e : y = x <;> simp [List.lookup_cons, e, beq_eq_false_iff_ne.mpr]
  | here x u v l => intro y; by_cases e : y = x <;> simp [List.lookup_cons, e, beq_eq_false_iff_ne.mpr]
  | there x z u v l l' hne _ ih =>
    intro y
    rw [List.lookup_cons, List.lookup_cons, ih y]
    by_cases e : y = x
    · subst e; simp [beq_eq_false_iff_ne.mpr hne]
    · by_cases e2 : y = z
      · subst e2; simp [e]
      · simp [e, beq_eq_false_iff_ne.mpr e2]

theorem Good.store {μ : Mem} {s : Shared} {m : Str → Option Value} {objs : List Obj} (g : Good X μ st s m objs) {x : Str} {v : Value} {pv : PV} (hv : VR μ v pv) {l' : List (Str × PV)} (hp : Put st.loc x pv l') {h' : Heap} {tk : Nat}
    (hn : h'.Ns X.L (fun y => if y = x then some v else m y)) (hs : Heap.SameBut X.L s.heap h') : Good X μ ⟨l', st.sto⟩ { s with heap := h', toks := tk } (fun y => if y = x then some v else m y) objs := by
  refine ⟨g.fr.set hn hs, fun y w e => ?_, g.news.set hs, g.sto, g.len, g.nodup, g.pin⟩
  rw [hp.look y] at e
  by_cases q : y = x
  · rw [if_pos q] at e; cases e; exact ⟨v, by simp [q], hv⟩
  · rw [if_neg q] at e
    obtain ⟨a, h1, h2⟩ := g.loc y w e
    exact ⟨a, by simp [q, h1], h2⟩

theorem loadLocal {k : Nat} (ok : X.Ok k) {x : Str} {v : PV} (hk : X.env.kindOf x = some .local) (hl : Look st.loc x v) : Tr X (loadName X.env x) st (fun μ a => VR μ a v) st := fun μ s g => by
  obtain ⟨m, objs, G⟩ := g
  obtain ⟨a, ha, hv⟩ := G.loc x v hl.eq
  exact wpAny_loadName_local ok.kind hk (ok.hL ▸ G.fr.ns) ha (.intro hv ⟨m, objs, G⟩ (.refl _))
theorem Ev.local {k : Nat} (ok : X.Ok k) {x : Str} {v : PV} {p : Pos} (hk : X.env.kindOf x = some .local) (hl : Look st.loc x v) (hd : (x == ("__debug__" : Str)) = false) : Ev X (.Name x p) st v st :=
  fun μ s g => wpAny_Name (loadLocal ok hk hl μ s g) hd

/-- a global of the text, or a built-in -/
noncomputable def Cx.gl (X : Cx) (x : Str) (v : Value) : Prop := nsIn X.K mainGlobals x = some (some v) ∨ (nsIn X.K mainGlobals x = some none ∧ nsIn X.K builtinsNs x = some (some v))
theorem Ev.gl {k : Nat} (ok : X.Ok k) {x : Str} {v : Value} {pv : PV} {p : Pos} (hk : X.env.kindOf x = some .globalImplicit) (hg : X.gl x v) (hv : ∀ μ, VR μ v pv) (hd : (x == ("__debug__" : Str)) = false) : Ev X (.Name x p) st pv st := fun μ s g => by
  refine Name_function_global ok.kind hk ?_ hd
  have kin := g.kin ok
  unfold loadGlobal
  rcases hg with e | ⟨e1, e2⟩
  · refine wpAny_bind ((looks_nsIn (ns := X.env.globals) kin (by rw [ok.hg]; exact e)).here ?_)
    exact wpAny_pure (.intro (hv μ) g (.refl _))
  · refine wpAny_bind ((looks_nsIn (ns := X.env.globals) kin (by rw [ok.hg]; exact e1)).here ?_)
    refine wpAny_bind ((looks_nsIn (ns := X.env.builtins) kin (by rw [ok.hb]; exact e2)).here ?_)
    exact wpAny_pure (.intro (hv μ) g (.refl _))

theorem storeLocal {k : Nat} (ok : X.Ok k) {x : Str} {v : Value} {pv : PV} {μ : Mem} {s : Shared} {l' : List (Str × PV)} (g : GoodE X μ st s) (hv : VR μ v pv) (hk : X.env.kindOf x = some .local) (hp : Put st.loc x pv l') :
    W X (storeName X.env x v) (Post X μ s (fun _ _ => True) ⟨l', st.sto⟩) s := by
  obtain ⟨m, objs, G⟩ := g
  refine wpAny_storeName_local hk (ok.hL ▸ G.fr.ns) (fun h' hn hs => ?_) (by rw [ok.kind]; rfl)
  rw [ok.hL] at hn hs
  exact .intro trivial ⟨_, _, G.store hv hp hn hs⟩ (.mk _ _ _)

-- operators
theorem Ev.binop {l r : Expr} {op : Operator} {p : Pos} {a b v : PV} (hl : Ev X l st a st₁) (hr : Ev X r st₁ b st₂) (h : Op2 X (binaryOp op) a b st₂ v st₃) : Ev X (.BinOp l op r p) st v st₃ := fun μ s g =>
  wpAny_BinOp ((hl μ s g).post fun x μ₁ s₁ le₁ va g₁ e₁ => ((hr μ₁ s₁ g₁).post fun y μ₂ s₂ le₂ vb g₂ e₂ => (h μ₂ s₂ x y g₂ (va.mono le₂) vb).trans (le₁.trans le₂) (e₁.trans e₂)))
theorem Ev.cmp {l r : Expr} {op : CmpOp} {p : Pos} {a b v : PV} (hl : Ev X l st a st₁) (hr : Ev X r st₁ b st₂) (h : Op2 X (compareOp op) a b st₂ v st₃) (hm : behindInMarks op r = false) : Ev X (.Compare l [op] [r] p) st v st₃ := fun μ s g =>
  wpAny_Compare1 ((hl μ s g).post fun x μ₁ s₁ le₁ va g₁ e₁ => ((hr μ₁ s₁ g₁).post fun y μ₂ s₂ le₂ vb g₂ e₂ => (h μ₂ s₂ x y g₂ (va.mono le₂) vb).trans (le₁.trans le₂) (e₁.trans e₂))) hm
theorem Tst.cmp {l r : Expr} {op : CmpOp} {p : Pos} {a b : PV} {c : Bool} (hl : Ev X l st a st₁) (hr : Ev X r st₁ b st₂) (h : Op2 X (compareOp op) a b st₂ (.bool c) st₃) (hm : behindInMarks op r = false) : Tst X (.Compare l [op] [r] p) st c st₃ := fun μ s g =>
  wpAny_isTrue_Compare1 ((hl μ s g).post fun x μ₁ s₁ le₁ va g₁ e₁ => ((hr μ₁ s₁ g₁).post fun y μ₂ s₂ le₂ vb g₂ e₂ => (h μ₂ s₂ x y g₂ (va.mono le₂) vb).post fun v μ₃ s₃ le₃ hv g₃ e₃ => by
    cases hv with
    | bool b => exact wpAny_truthy_bool ⟨μ₃, le₁.trans (le₂.trans le₃), rfl, g₃, e₁.trans (e₂.trans e₃)⟩
    )) hm
theorem Tst.not {x : Expr} {p : Pos} {b : Bool} (h : Tst X x st b st') : Tst X (.UnaryOp .Not x p) st (!b) st' := fun μ s g =>
  wpAny_isTrue_Not ((h μ s g).mono fun a s' ⟨μ', le, e, g', sm⟩ => ⟨μ', le, by rw [e], g', sm⟩)


end


section
variable {X : Cx} {st st₁ st₂ st₃ st' : PSt}
theorem Post.val {μ : Mem} {s : Shared} {v : Value} {pv : PV} (g : GoodE X μ st s) (h : VR μ v pv) (k : Nat) : Post X μ s (fun μ r => VR μ r pv) st v { s with toks := k } := .intro h (g.toks rfl) (.mk s s.heap k)
theorem Post.val0 {μ : Mem} {s : Shared} {v : Value} {pv : PV} (g : GoodE X μ st s) (h : VR μ v pv) : Post X μ s (fun μ r => VR μ r pv) st v s := .intro h g (.refl _)

theorem Op.add_int {a b : Int} : Op2 X (binaryOp .Add) (.int a) (.int b) st (.int (a + b)) st := fun μ s x y g hx hy => by cases hx; cases hy; exact P.add_int (.val g (.int _ _) _)
theorem Op.sub_int {a b : Int} : Op2 X (binaryOp .Sub) (.int a) (.int b) st (.int (a - b)) st := fun μ s x y g hx hy => by cases hx; cases hy; exact P.sub_int (.val g (.int _ _) _)
theorem Op.mul_int {a b : Int} (hm : IntMulOk a b) : Op2 X (binaryOp .Mult) (.int a) (.int b) st (.int (a * b)) st := fun μ s x y g hx hy => by cases hx; cases hy; exact P.mul_int (.val g (.int _ _) _) hm
theorem Op.iadd_int {a b : Int} : Op2 X (inplaceOp .Add) (.int a) (.int b) st (.int (a + b)) st := fun μ s x y g hx hy => by cases hx; cases hy; exact P.iadd_int (.val g (.int _ _) _)
theorem Op.isub_int {a b : Int} : Op2 X (inplaceOp .Sub) (.int a) (.int b) st (.int (a - b)) st := fun μ s x y g hx hy => by cases hx; cases hy; exact P.isub_int (.val g (.int _ _) _)
theorem Op.mod_int {a b : Int} (hb : b ≠ 0) : Op2 X (binaryOp .Mod) (.int a) (.int b) st (.int (a.fmod b)) st := fun μ s x y g hx hy => by cases hx; cases hy; exact PyProof.Rows.mod_int hb (.val g (.int _ _) _)
theorem Op.floordiv_int {a b : Int} (hb : b ≠ 0) (hp : Builtin.divisionGoesByPylong a b = false) : Op2 X (binaryOp .FloorDiv) (.int a) (.int b) st (.int (a.fdiv b)) st := fun μ s x y g hx hy => by
  cases hx; cases hy; exact PyProof.Rows.floordiv_int hb (Post.val g (.int _ _) _) (Or.inl hp)
theorem Op.pow_int {a n : Int} (hn : 0 ≤ n) (hn2 : n ≤ 1000000) (ha : a.natAbs < 2 ^ 64) : Op2 X (binaryOp .Pow) (.int a) (.int n) st (.int (a ^ n.toNat)) st := fun μ s x y g hx hy => by
  cases hx; cases hy; exact pow_int_small hn hn2 ha (.val g (.int _ _) _)
theorem Op.eq_int {a b : Int} : Op2 X (compareOp .Eq) (.int a) (.int b) st (.bool (a == b)) st := fun μ s x y g hx hy => by cases hx; cases hy; exact P.eq_int (.val0 g (.bool _))
theorem Op.lt_int {a b : Int} : Op2 X (compareOp .Lt) (.int a) (.int b) st (.bool (decide (a < b))) st := fun μ s x y g hx hy => by cases hx; cases hy; exact P.lt_int (.val0 g (.bool _))
theorem Op.le_int {a b : Int} : Op2 X (compareOp .LtE) (.int a) (.int b) st (.bool (decide (a ≤ b))) st := fun μ s x y g hx hy => by cases hx; cases hy; exact P.le_int (.val0 g (.bool _))
theorem Op.gt_int {a b : Int} : Op2 X (compareOp .Gt) (.int a) (.int b) st (.bool (decide (a > b))) st := fun μ s x y g hx hy => by cases hx; cases hy; exact P.gt_int (.val0 g (.bool _))
theorem Op.ge_int {a b : Int} : Op2 X (compareOp .GtE) (.int a) (.int b) st (.bool (decide (a ≥ b))) st := fun μ s x y g hx hy => by cases hx; cases hy; exact P.ge_int (.val0 g (.bool _))
theorem Op.eq_str {a b : List Nat} : Op2 X (compareOp .Eq) (.str a) (.str b) st (.bool (a == b)) st := fun μ s x y g hx hy => by
  cases hx; cases hy; exact P.eq_str (by rw [T_toList, T_toList]; exact .val0 g (.bool _))

theorem T_nil_of {l : List Nat} (h : ((T l).length == 0) = true) : l = [] := by rw [T_len] at h; exact List.eq_nil_of_length_eq_zero (by simpa using h)
theorem add_post {μ : Mem} {s : Shared} {a b : List Nat} {t u : Tok} (g : GoodE X μ st s) (hl : (a ++ b).length ≤ sizeLine) :
    (if (T a).length == 0 then Made.val (.str (T b) u) else if (T b).length == 0 then Made.val (.str (T a) t) else Made.str (T a ++ T b)).post (Post X μ s (fun μ r => VR μ r (.str (a ++ b))) st) s := by
  split
  · rename_i h; have := T_nil_of h; subst this; exact .val0 g (.str _ _)
  · split
    · rename_i h; have := T_nil_of h; subst this; rw [List.append_nil]; exact .val0 g (.str _ _)
    · rw [T_app]; exact ⟨by rw [T_len]; exact hl, .val g (.str _ _) _⟩
theorem Op.add_str {a b : List Nat} (hl : (a ++ b).length ≤ sizeLine) : Op2 X (binaryOp .Add) (.str a) (.str b) st (.str (a ++ b)) st := fun μ s x y g hx hy => by cases hx; cases hy; exact P.add_str (add_post g hl)
theorem Op.iadd_str {a b : List Nat} (hl : (a ++ b).length ≤ sizeLine) : Op2 X (inplaceOp .Add) (.str a) (.str b) st (.str (a ++ b)) st := fun μ s x y g hx hy => by cases hx; cases hy; exact P.iadd_str (add_post g hl)

-- truth of a value
noncomputable def Truth (X : Cx) (a : PV) (st : PSt) (b : Bool) (st' : PSt) : Prop := ∀ μ s x, GoodE X μ st s → VR μ x a → W X (truthy x) (Post X μ s (fun _ r => r = b) st') s
theorem Truth.bool {b : Bool} : Truth X (.bool b) st b st := fun μ s x g hx => by cases hx; exact wpAny_truthy_bool (.intro rfl g (.refl _))
theorem Truth.int {a : Int} : Truth X (.int a) st (a != 0) st := fun μ s x g hx => by cases hx; exact P.truthy_int (.intro rfl g (.refl _))
theorem Truth.str {l : List Nat} (h : l.length < 2 ^ 62) : Truth X (.str l) st (!l.isEmpty) st := fun μ s x g hx => by
  cases hx
  refine P.truthy_str (by rw [T_len]; omega) ?_
  refine .intro ?_ (g.toks rfl) (.mk s s.heap _)
  rw [T_len]
  cases l with
  | nil => rfl
  | cons a r =>
    have : (((a :: r).length : Nat) : Int) ≠ 0 := by simp only [List.length_cons]; omega
    simpa using this

/-- the object of the store behind an address -/
theorem Good.obj {μ : Mem} {s : Shared} {m : Str → Option Value} {objs : List Obj} (G : Good X μ st s m objs) {n : Nat} {a : Addr} {p : PO} (hφ : μ.φ[n]? = some a) (hp : st.sto[n]? = some p) :
    ∃ o, objs[n]? = some o ∧ OR X.prog X.w μ o p ∧ s.heap.get? a = some o ∧ (a, o) ∈ μ.φ.zip objs := by
  obtain ⟨o, ho, hr⟩ := G.sto.get n p hp
  have hz : (μ.φ.zip objs)[n]? = some (a, o) := by rw [List.getElem?_zip_eq_some]; exact ⟨hφ, ho⟩
  have hm := List.mem_of_getElem? hz
  exact ⟨o, ho, hr, (G.news _ (List.mem_append_left _ hm)).1, hm⟩
theorem isList_of {h : Heap} {a : Addr} {vs : List Value} {n : Nat} (e : h.get? a = some (listOf vs.toArray n)) : h.IsList a vs.toArray := ⟨_, e, rfl, n, rfl⟩
theorem GoodE.list {μ : Mem} {s : Shared} (g : GoodE X μ st s) {n : Nat} {a : Addr} {xs : List PV} (hφ : μ.φ[n]? = some a) (hp : st.sto[n]? = some (.list xs)) : ∃ vs, s.heap.IsList a vs.toArray ∧ VRs μ vs xs := by
  obtain ⟨m, objs, G⟩ := g
  obtain ⟨o, _, hr, ho, _⟩ := G.obj hφ hp
  cases hr with
  | list vs k xs hs => exact ⟨vs, isList_of ho, hs⟩

-- tests
theorem Tst.val {e : Expr} {a : PV} {b : Bool} (he : Ev X e st a st₁) (ht : Truth X a st₁ b st₂) (hi : isTrue e X.env (eval e X.env) = (do let v ← eval e X.env; standAt e.pos; holding [v] (truthy v))) : Tst X e st b st₂ := fun μ s g =>
  isTrue_plain ((he μ s g).post fun x μ₁ s₁ le₁ va g₁ e₁ => (ht μ₁ s₁ x g₁ va).trans le₁ e₁) hi
theorem Tst.cast {e : Expr} {b c : Bool} (h : Tst X e st b st') (hb : b = c) : Tst X e st c st' := hb ▸ h
theorem Ev.cast {e : Expr} {a b : PV} (h : Ev X e st a st') (hb : a = b) : Ev X e st b st' := hb ▸ h
theorem Tst.and_nil {p : Pos} : Tst X (.BoolOp .And [] p) st true st := fun μ s g => isTrue_and_nil (.intro rfl g (.refl _))
theorem Tst.or_nil {p : Pos} : Tst X (.BoolOp .Or [] p) st false st := fun μ s g => isTrue_or_nil (.intro rfl g (.refl _))
theorem Tst.and_t {x : Expr} {rest : List Expr} {p : Pos} {c : Bool} (h : Tst X x st true st₁) (hr : Tst X (.BoolOp .And rest p) st₁ c st₂) : Tst X (.BoolOp .And (x :: rest) p) st c st₂ := fun μ s g =>
  isTrue_and ((h μ s g).post fun b μ₁ s₁ le₁ hb g₁ e₁ => by subst hb; exact (hr μ₁ s₁ g₁).trans le₁ e₁)
theorem Tst.and_f {x : Expr} {rest : List Expr} {p : Pos} (h : Tst X x st false st₁) : Tst X (.BoolOp .And (x :: rest) p) st false st₁ := fun μ s g =>
  isTrue_and ((h μ s g).post fun b μ₁ s₁ le₁ hb g₁ e₁ => by subst hb; exact ⟨μ₁, le₁, rfl, g₁, e₁⟩)
theorem Tst.or_t {x : Expr} {rest : List Expr} {p : Pos} (h : Tst X x st true st₁) : Tst X (.BoolOp .Or (x :: rest) p) st true st₁ := fun μ s g =>
  isTrue_or ((h μ s g).post fun b μ₁ s₁ le₁ hb g₁ e₁ => by subst hb; exact ⟨μ₁, le₁, rfl, g₁, e₁⟩)
theorem Tst.or_f {x : Expr} {rest : List Expr} {p : Pos} {c : Bool} (h : Tst X x st false st₁) (hr : Tst X (.BoolOp .Or rest p) st₁ c st₂) : Tst X (.BoolOp .Or (x :: rest) p) st c st₂ := fun μ s g =>
  isTrue_or ((h μ s g).post fun b μ₁ s₁ le₁ hb g₁ e₁ => by subst hb; exact (hr μ₁ s₁ g₁).trans le₁ e₁)
theorem Ev.or2_t {x y : Expr} {p : Pos} {a : PV} (h : Ev X x st a st₁) (ht : Truth X a st₁ true st₂) : Ev X (.BoolOp .Or [x, y] p) st a st₂ := fun μ s g =>
  wpAny_Or2 ((h μ s g).post fun v μ₁ s₁ le₁ hv g₁ e₁ => (ht μ₁ s₁ v g₁ hv).post fun b μ₂ s₂ le₂ hb g₂ e₂ => by subst hb; exact ⟨μ₂, le₁.trans le₂, hv.mono le₂, g₂, e₁.trans e₂⟩)
theorem Ev.or2_f {x y : Expr} {p : Pos} {a b : PV} (h : Ev X x st a st₁) (ht : Truth X a st₁ false st₂) (hy : Ev X y st₂ b st₃) : Ev X (.BoolOp .Or [x, y] p) st b st₃ := fun μ s g =>
  wpAny_Or2 ((h μ s g).post fun v μ₁ s₁ le₁ hv g₁ e₁ => (ht μ₁ s₁ v g₁ hv).post fun b μ₂ s₂ le₂ hb g₂ e₂ => by subst hb; exact (hy μ₂ s₂ g₂).trans (le₁.trans le₂) (e₁.trans e₂))

-- displays and arguments
theorem Evs.nil : Evs X [] st [] st := fun pos μ s g => spliced_nil (.intro .nil g (.refl _))
theorem Evs.cons {e : Expr} {rest : List Expr} {v : PV} {vs : List PV} (h : Ev X e st v st₁) (hr : Evs X rest st₁ vs st₂) (he : ∀ env, starEach (e :: rest) env = (false, eval e env) :: starEach rest env) : Evs X (e :: rest) st (v :: vs) st₂ := fun pos μ s g => by
  rw [he]
  show W X (spliced ((false, eval e X.env) :: (backTo pos (starEach rest X.env)))) _ s
  exact spliced_cons ((h μ s g).post fun x μ₁ s₁ le₁ hx g₁ e₁ => (hr pos μ₁ s₁ g₁).post fun xs μ₂ s₂ le₂ hxs g₂ e₂ => ⟨μ₂, le₁.trans le₂, .cons _ _ _ _ (hx.mono le₂) hxs, g₂, e₁.trans e₂⟩)
end


section
variable {X : Cx} {st st₁ st₂ st₃ st' : PSt}

theorem Good.size {μ : Mem} {s : Shared} {m : Str → Option Value} {objs : List Obj} (G : Good X μ st s m objs) : objs.length = μ.φ.length := by rw [G.len, G.sto.length]
theorem Good.lt {μ : Mem} {s : Shared} {m : Str → Option Value} {objs : List Obj} (G : Good X μ st s m objs) : ∀ a ∈ μ.φ ++ μ.hid.map (·.1), a < s.heap.objs.size := fun a ha => by
  rcases List.mem_append.mp ha with h | h
  · obtain ⟨n, hn⟩ := List.mem_iff_getElem?.mp h
    have hl : n < μ.φ.length := (List.getElem?_eq_some_iff.mp hn).1
    obtain ⟨o, ho⟩ : ∃ o, objs[n]? = some o := ⟨_, List.getElem?_eq_getElem (by rw [G.size]; exact hl)⟩
    have hz : (μ.φ.zip objs)[n]? = some (a, o) := by rw [List.getElem?_zip_eq_some]; exact ⟨hn, ho⟩
    exact Heap.lt_size (G.news _ (List.mem_append_left _ (List.mem_of_getElem? hz))).1
  · obtain ⟨p, hp, rfl⟩ := List.mem_map.mp h
    exact Heap.lt_size (G.news _ (List.mem_append_right _ hp)).1
theorem Good.notNew {μ : Mem} {s : Shared} {m : Str → Option Value} {objs : List Obj} (G : Good X μ st s m objs) : s.heap.objs.size ∉ μ.φ ++ μ.hid.map (·.1) := fun h => Nat.lt_irrefl _ (G.lt _ h)

theorem Good.alloc {μ : Mem} {s : Shared} {m : Str → Option Value} {objs : List Obj} (G : Good X μ st s m objs) {o : Obj} {p : PO} (hf : o.isFreed = false) (hr : OR X.prog X.w μ o p) (tk : Nat) :
    Good X ⟨μ.φ ++ [s.heap.objs.size], μ.hid⟩ ⟨st.loc, st.sto ++ [p]⟩ { s with heap := s.heap.push o, toks := tk } m (objs ++ [o]) := by
  have le : μ.le ⟨μ.φ ++ [s.heap.objs.size], μ.hid⟩ := ⟨fun n a h => by rw [List.getElem?_append_left (List.getElem?_eq_some_iff.mp h).1]; exact h, fun _ h => h⟩
  have N := News.push G.fr G.news o hf
  refine ⟨G.fr.push o, fun x v e => let ⟨a, h1, h2⟩ := G.loc x v e; ⟨a, h1, h2.mono le⟩, fun q hq => N q ?_, (G.sto.mono le).append (.cons _ _ _ _ (hr.mono le) .nil), by simp [G.len], ?_, X.pin.mono _ _ le G.pin⟩
  · rw [List.zip_append G.size.symm] at hq
    simp only [List.zip_cons_cons, List.zip_nil_right, List.append_assoc, List.mem_append, List.mem_cons, List.not_mem_nil, or_false] at hq
    rcases hq with h | h | h
    · exact .tail _ (List.mem_append_left _ h)
    · subst h; exact .head _
    · exact .tail _ (List.mem_append_right _ h)
  · have nd := G.nodup
    have nn := G.notNew
    rw [List.nodup_append] at nd ⊢
    simp only [List.mem_append, not_or] at nn
    refine ⟨?_, nd.2.1, ?_⟩
    · rw [List.nodup_append]
      refine ⟨nd.1, by simp, fun a ha b hb => ?_⟩
      simp at hb; subst hb; rintro rfl; exact nn.1 ha
    · intro a ha b hb
      rcases List.mem_append.mp ha with h | h
      · exact nd.2.2 a h b hb
      · simp at h; subst h; rintro rfl; exact nn.2 hb
theorem Mem.le.snoc (μ : Mem) (a : Addr) : μ.le ⟨μ.φ ++ [a], μ.hid⟩ := ⟨fun n b h => by rw [List.getElem?_append_left (List.getElem?_eq_some_iff.mp h).1]; exact h, fun _ h => h⟩
theorem Mem.le.hidden (μ : Mem) (p : Addr × Obj) : μ.le ⟨μ.φ, p :: μ.hid⟩ := ⟨fun _ _ h => h, fun _ h => .tail _ h⟩

theorem Good.tup {μ : Mem} {s : Shared} {m : Str → Option Value} {objs : List Obj} (G : Good X μ st s m objs) (vs : List Value) (tk : Nat) :
    Good X ⟨μ.φ, (s.heap.objs.size, tupObj vs) :: μ.hid⟩ st { s with heap := s.heap.push (tupObj vs), toks := tk } m objs := by
  have le := Mem.le.hidden μ (s.heap.objs.size, tupObj vs)
  have N := News.push G.fr G.news (tupObj vs) rfl
  refine ⟨G.fr.push _, fun x v e => let ⟨a, h1, h2⟩ := G.loc x v e; ⟨a, h1, h2.mono le⟩, fun q hq => N q ?_, G.sto.mono le, G.len, ?_, X.pin.mono _ _ le G.pin⟩
  · simp only [List.mem_append, List.mem_cons] at hq ⊢
    rcases hq with h | h | h
    · exact .inr (.inl h)
    · exact .inl h
    · exact .inr (.inr h)
  · have nd := G.nodup
    have nn := G.notNew
    rw [List.nodup_append] at nd ⊢
    simp only [List.mem_append, not_or] at nn
    refine ⟨nd.1, ?_, ?_⟩
    · simp only [List.map_cons, List.nodup_cons]; exact ⟨nn.2, nd.2.1⟩
    · intro a ha b hb
      simp only [List.map_cons, List.mem_cons] at hb
      rcases hb with rfl | hb
      · rintro rfl; exact nn.1 ha
      · exact nd.2.2 a ha b hb

/-- a new object that the call keeps -/
theorem newListP {μ : Mem} {s : Shared} (g : GoodE X μ st s) {vs : List Value} {xs : List PV} (h : VRs μ vs xs) (tk : Nat) (n : Nat) :
    Post X μ s (fun μ r => VR μ r (.loc st.sto.length)) ⟨st.loc, st.sto ++ [.list xs]⟩ (.ref s.heap.objs.size) { s with heap := s.heap.push (listOf vs.toArray n), toks := tk } := by
  obtain ⟨m, objs, G⟩ := g
  exact ⟨_, Mem.le.snoc μ _, .loc _ _ (by rw [← G.len]; simp), ⟨m, _, G.alloc rfl (.list vs n xs h) tk⟩, .mk _ _ _⟩
theorem newTupP {μ : Mem} {s : Shared} (g : GoodE X μ st s) {vs : List Value} {xs : List PV} (h : VRs μ vs xs) (tk : Nat) :
    Post X μ s (fun μ r => VR μ r (.tup xs)) st (.ref s.heap.objs.size) { s with heap := s.heap.push (tupObj vs), toks := tk } := by
  obtain ⟨m, objs, G⟩ := g
  exact ⟨_, Mem.le.hidden μ _, .tup _ vs xs (.head _) (h.mono (Mem.le.hidden μ _)), ⟨m, _, G.tup vs tk⟩, .mk _ _ _⟩
theorem Ev.list {es : List Expr} {p : Pos} {vs : List PV} (h : Evs X es st vs st₁) (hl : vs.length ≤ sizeLine) : Ev X (.List es p) st (.loc st₁.sto.length) ⟨st₁.loc, st₁.sto ++ [.list vs]⟩ := fun μ s g =>
  List_ ((h p μ s g).post fun xs μ₁ s₁ le₁ hx g₁ e₁ => by
    have hn := hx.length
    refine W.trans le₁ e₁ ?_
    exact wpAny_newObj_type (newListP g₁ hx s₁.toks 0) (by show xs.toArray.size ≤ sizeLine; rw [List.size_toArray, hn]; exact hl))
theorem Ev.tuple {es : List Expr} {k : Nat} {p : Pos} {vs : List PV} (h : Evs X es st vs st₁) (hl : vs.length ≤ sizeLine) : Ev X (.Tuple es k p) st (.tup vs) st₁ := fun μ s g =>
  Tuple_ ((h p μ s g).post fun xs μ₁ s₁ le₁ hx g₁ e₁ => by
    have hn := hx.length
    refine W.trans le₁ e₁ ?_
    exact wpAny_newObj_type (newTupP g₁ hx s₁.toks) (by show xs.toArray.size ≤ sizeLine; rw [List.size_toArray, hn]; exact hl))

-- calls
noncomputable def Plain (es : List Expr) : Prop := ∀ env, starEach es env = es.map fun e => (false, eval e env)
theorem evalArgsP {f : Value} {e : Expr} {es : List Expr} {p : Pos} {vs : List PV} {μ : Mem} {s : Shared} (h : Evs X (e :: es) st vs st₁) (g : GoodE X μ st s) (hx : Plain (e :: es)) {Q : Args → Shared → Prop}
    (k : ∀ xs μ₁ s₁, μ.le μ₁ → VRs μ₁ xs vs → GoodE X μ₁ st₁ s₁ → Same s s₁ → Q ⟨xs, []⟩ s₁) : W X (evalArgs f true (backTo p (starEach (e :: es) X.env)) []) Q s := by
  have hw := h p μ s g
  rw [hx] at hw ⊢
  show W X (evalArgs f true ((false, eval e X.env) :: backTo p (es.map fun e => (false, eval e X.env))) []) Q s
  exact evalArgs_plain (hw.post fun xs μ₁ s₁ le r g₁ sm => k xs μ₁ s₁ le r g₁ sm)
theorem plain_any (es : List Expr) (hx : Plain es) (p : Pos) (env : Env) : (backTo p (starEach es env)).any (·.1) = false := by
  rw [hx]; simp [backTo]

/-- a global of the text that is a def -/
noncomputable def Cx.fn (X : Cx) (a : Addr) : Prop := ∃ o fd, X.K.lookup a = some o ∧ o.data = .func fd
theorem callW {f : Value} {e : Expr} {es : List Expr} {p : Pos} {vs : List PV} {v : PV} {μ : Mem} {s : Shared} {k : Nat} (ok : X.Ok k) (first : List Value) (fs : List PV) (hf : VRs μ first fs) (h : Evs X (e :: es) st vs st₁) (g : GoodE X μ st s) (hx : Plain (e :: es))
    (hc : ∀ μ₁ s₁ xs, μ.le μ₁ → GoodE X μ₁ st₁ s₁ → VRs μ₁ xs (fs ++ vs) → W X (call f xs []) (Post X μ₁ s₁ (fun μ r => VR μ r v) st₂) s₁)
    (hk : (∃ id, f = .builtin id) ∨ (∃ T, f = .type T) ∨ (∃ a, f = .ref a ∧ X.fn a)) : W X (callWith p f first (backTo p (starEach (e :: es) X.env)) []) (Post X μ s (fun μ r => VR μ r v) st₂) s := by
  rcases hk with ⟨id, rfl⟩ | ⟨T, rfl⟩ | ⟨a, rfl, o, fd, hl, hd⟩
  · exact callWith_builtin (plain_any _ hx _ _) (evalArgsP h g hx fun xs μ₁ s₁ le r g₁ sm => (hc μ₁ s₁ _ le g₁ ((hf.mono le).append r)).trans le sm)
  · exact PyProof.Rows.callWith_type (plain_any _ hx _ _) (evalArgsP h g hx fun xs μ₁ s₁ le r g₁ sm => (hc μ₁ s₁ _ le g₁ ((hf.mono le).append r)).trans le sm)
  · exact callWith_function (o := o) (fd := fd) (evalArgsP h g hx fun xs μ₁ s₁ le r g₁ sm => ⟨⟨g₁.kin ok _ _ hl, hd⟩, (hc μ₁ s₁ _ le g₁ ((hf.mono le).append r)).trans le sm⟩)
/-- what a name is called for -/
noncomputable def Callee (X : Cx) (f : Value) : Prop := (∃ id, f = .builtin id) ∨ (∃ T, f = .type T) ∨ (∃ a, f = .ref a ∧ X.fn a)
theorem Ev.call {k : Nat} (ok : X.Ok k) {x : Str} {np p : Pos} {e : Expr} {es : List Expr} {f : Value} {vs : List PV} {v : PV} (hf : Ev X (.Name x np) st (.glob f) st) (hk : Callee X f) (h : Evs X (e :: es) st vs st₁) (hx : Plain (e :: es))
    (hc : Calls X (.glob f) vs st₁ v st₂) : Ev X (.Call (.Name x np) (e :: es) [] p) st v st₂ := fun μ s g =>
  PyProof.Rows.Call_Name rfl ((hf μ s g).post fun fv μ₁ s₁ le₁ hfv g₁ e₁ => by
    cases hfv
    exact (callW ok [] [] .nil h g₁ hx (fun μ₂ s₂ xs le₂ g₂ hxs => hc μ₂ s₂ _ _ g₂ (.glob _) hxs) hk).trans le₁ e₁)


-- methods of built-in types
noncomputable def MethOf (X : Cx) (s : Shared) (v : Value) (name : Str) (id : String) : Prop :=
  ∃ T : String, PlainAttrs T ∧ Slot T name id ∧ typeOf (.builtin id) = pure (.type "method_descriptor") ∧ s.TypeIs v T ∧ (∀ a, v = .ref a → ∃ ob, s.heap.get? a = some ob ∧ ob.dict = none)
theorem Ev.meth {k : Nat} (ok : X.Ok k) {o e : Expr} {es : List Expr} {name : Str} {apos p : Pos} {ov v : PV} {vs : List PV} {id : String} (ho : Ev X o st ov st₁) (hm : ∀ μ s x, GoodE X μ st₁ s → VR μ x ov → MethOf X s x name id)
    (h : Evs X (e :: es) st₁ vs st₂) (hx : Plain (e :: es)) (hc : Calls X (.glob (.builtin id)) (ov :: vs) st₂ v st₃) (hbase : attributeBase o name X.env (eval o X.env) = eval o X.env) (hn : (e :: es).length < 20) (hline : (apos.endLine == p.line) = true) :
    Ev X (.Call (.Attribute o name apos) (e :: es) [] p) st v st₃ := fun μ s g => by
  refine wpAny_Call_method_lateS hbase ?_ hline ((ho μ s g).post fun x μ₁ s₁ le₁ hxv g₁ e₁ => ?_)
  · rw [hx]
    refine Bool.and_eq_true_iff.mpr ⟨Bool.and_eq_true_iff.mpr ⟨?_, rfl⟩, decide_eq_true (show _ + 0 + 0 < 30 by omega)⟩
    simp only [backTo, List.map_map, List.all_map]
    exact List.all_eq_true.mpr fun _ _ => rfl
  · obtain ⟨T, h1, h2, h3, h4, h5⟩ := hm μ₁ s₁ x g₁ hxv
    refine ⟨T, id, h1, h2, h3, h4, h5, ?_⟩
    exact (callW ok [x] [ov] (.cons _ _ _ _ hxv .nil) h g₁ hx (fun μ₂ s₂ xs le₂ g₂ hxs => hc μ₂ s₂ _ _ g₂ (.glob _) hxs) (.inl ⟨_, rfl⟩)).trans le₁ e₁
theorem Ev.meth0 {k : Nat} (ok : X.Ok k) {o : Expr} {name : Str} {apos p : Pos} {ov v : PV} {id : String} (ho : Ev X o st ov st₁) (hm : ∀ μ s x, GoodE X μ st₁ s → VR μ x ov → MethOf X s x name id)
    (hc : Calls X (.glob (.builtin id)) [ov] st₁ v st₃) (hbase : attributeBase o name X.env (eval o X.env) = eval o X.env) (hline : (apos.endLine == p.line) = true) :
    Ev X (.Call (.Attribute o name apos) [] [] p) st v st₃ := fun μ s g => by
  refine wpAny_Call_method_lateS hbase rfl hline ((ho μ s g).post fun x μ₁ s₁ le₁ hxv g₁ e₁ => ?_)
  obtain ⟨T, h1, h2, h3, h4, h5⟩ := hm μ₁ s₁ x g₁ hxv
  refine ⟨T, id, h1, h2, h3, h4, h5, callWith_builtin rfl (PyProof.Rows.evalArgs_none ?_)⟩
  exact (hc μ₁ s₁ _ _ g₁ (.glob _) (.cons _ _ _ _ hxv .nil)).trans le₁ e₁

-- items and slices
theorem sub_ops (slice : Expr) (o i : Value) : ∃ ops, subscripted slice false o i = operate ops (getItem o i) := by
  cases slice with
  | Slice l u s p => cases s <;> exact ⟨_, rfl⟩
  | _ => exact ⟨_, rfl⟩
noncomputable def Item (X : Cx) (o i : PV) (st : PSt) (v : PV) (st' : PSt) : Prop :=
  ∀ μ s x y, GoodE X μ st s → VR μ x o → VR μ y i → ∃ T id, s.TypeIs x T ∧ typeLookup (.type T) "__getitem__" = pure (some (.builtin id)) ∧ W X (getItem x y) (Post X μ s (fun μ r => VR μ r v) st') s
theorem Ev.item {value slice : Expr} {p : Pos} {o i v : PV} (ho : Ev X value st o st₁) (hi : Ev X slice st₁ i st₂) (h : Item X o i st₂ v st₃) : Ev X (.Subscript value slice p) st v st₃ := fun μ s g =>
  Subscript_ ((ho μ s g).post fun x μ₁ s₁ le₁ hx g₁ e₁ => (hi μ₁ s₁ g₁).post fun y μ₂ s₂ le₂ hy g₂ e₂ => by
    obtain ⟨T, id, hT, hl, hw⟩ := h μ₂ s₂ x y g₂ (hx.mono le₂) hy
    obtain ⟨ops, hs⟩ := sub_ops slice x y
    exact W.trans (le₁.trans le₂) (e₁.trans e₂) (tail_any hT hl hw hs))

theorem Item.str {l : List Nat} {i : Int} {c : Nat} (hr : fitsSsize i = true) (hc : Txt.charAt (T l) i = some c) : Item X (.str l) (.int i) st (.str [c]) st := fun μ s x y g hx hy => by
  cases hx; cases hy
  exact ⟨"str", _, typeIs_str _ _ _, F.slot_str_getitem.lookup, P.getItem_str (by unfold fitsSsize at hr; rw [Bool.not_eq_true'] at hr; exact hr) hc (.val g (.str [c] _) _)⟩
theorem Item.list {n : Nat} {xs : List PV} {i : Int} {v : PV} (hp : st.sto[n]? = some (.list xs)) (h0 : 0 ≤ i) (hfit : i < 2 ^ 63) (hv : xs[i.toNat]? = some v) : Item X (.loc n) (.int i) st v st := fun μ s x y g hx hy => by
  cases hx with
  | loc n a hφ =>
    cases hy
    obtain ⟨vs, hl, hs⟩ := g.list hφ hp
    obtain ⟨w, hw, hr⟩ := hs.get _ _ hv
    exact ⟨"list", _, hl.typeIs, slot_list_getitem.lookup, wpAny_getItem_list hl h0 hfit (by simpa using hw) (.val0 g hr)⟩
theorem Item.tup {xs : List PV} {i : Int} {v : PV} (h0 : 0 ≤ i) (hfit : i < 2 ^ 63) (hv : xs[i.toNat]? = some v) : Item X (.tup xs) (.int i) st v st := fun μ s x y g hx hy => by
  cases hx with
  | tup a vs xs hm hs =>
    cases hy
    obtain ⟨m, objs, G⟩ := g
    obtain ⟨w, hw, hr⟩ := hs.get _ _ hv
    have ho := (G.news _ (List.mem_append_right _ hm)).1
    have hlt : i.toNat < vs.length := (List.getElem?_eq_some_iff.mp hw).1
    have ht : IsTup s.heap a vs.toArray := ⟨_, ho, rfl, _, rfl⟩
    refine ⟨"tuple", _, ht.typeIs, slot_tuple_getitem.lookup, PyProof.Rows.getItem_tuple ht (by grind) hfit (j := i.toNat) ?_ (by simpa using hw) (.val0 ⟨m, objs, G⟩ hr)⟩
    have h1 : ¬ i < 0 := by grind
    have h2 : i < ((vs.toArray.size : Nat) : Int) := by simp only [List.size_toArray]; grind
    simp only [seqIndex?, if_neg h1, h0, h2, decide_true, Bool.and_self, if_true]
-- slices
noncomputable def clip (n d : Nat) : Option Int → Nat
  | none => d
  | some i => if i < 0 then (i + n).toNat else min i.toNat n
noncomputable def slc {α : Type} (l : List α) (lo hi : Option Int) : List α := (l.drop (clip l.length 0 lo)).take (clip l.length l.length hi - clip l.length 0 lo)
theorem pick_range {α : Type} (l : List α) (a b : Nat) (hb : b ≤ l.length) : (sliceRange (a : Int) (b : Int) 1).filterMap (l[·]?) = (l.drop a).take (b - a) := by
  unfold sliceRange
  have hc : (if (1 : Int) > 0 then (if (a : Int) < (b : Int) then ((b : Int) - a + 1 - 1) / 1 else 0) else (if (a : Int) > (b : Int) then ((a : Int) - b - 1 - 1) / (-1) else 0)).toNat = b - a := by
    simp only [show (1 : Int) > 0 by decide, if_true]
    split <;> grind
  simp only [hc]
  have he : ((List.range (b - a)).map fun k : Nat => ((a : Int) + 1 * (k : Int)).toNat) = (List.range (b - a)).map fun k => a + k := by
    apply List.map_congr_left; intro k _; grind
  rw [he]
  clear hc he
  apply List.ext_getElem?
  intro i
  induction hk : b - a generalizing a i with
  | zero => simp
  | succ n ih =>
    have hlt : a < l.length := by grind
    rw [List.range_succ_eq_map, List.map_cons, List.filterMap_cons, Nat.add_zero, List.getElem?_eq_getElem hlt, List.drop_eq_getElem_cons hlt, List.take_succ_cons]
    cases i with
    | zero => simp
    | succ i =>
      simp only [List.getElem?_cons_succ, List.map_map]
      have := ih (a + 1) i (by omega)
      rw [← this]
      congr 2
      apply List.map_congr_left; intro k _; simp; grind

inductive OptI : PV → Option Int → Prop
  | none : OptI .none none
  | int (i : Int) : OptI (.int i) (some i)
/-- a slice of a value -/
noncomputable def Cut (X : Cx) (o : PV) (lo hi : Option Int) (st : PSt) (v : PV) (st' : PSt) : Prop :=
  ∀ μ s x sl vl vh, GoodE X μ st s → VR μ x o → IsPart vl lo → IsPart vh hi → s.heap.IsSliceOf sl vl vh .none → ∃ T id, s.TypeIs x T ∧ typeLookup (.type T) "__getitem__" = pure (some (.builtin id)) ∧ W X (getItem x (.ref sl)) (Post X μ s (fun μ r => VR μ r v) st') s
noncomputable def EvO (X : Cx) (e : Option Expr) (st : PSt) (v : PV) (st' : PSt) : Prop := Tr X (evalPart e X.env) st (fun μ a => VR μ a v) st'
theorem EvO.none : EvO X Option.none st .none st := fun μ s g => wpAny_pure (.intro .none g (.refl _))
theorem EvO.some {e : Expr} {v : PV} (h : Ev X e st v st₁) : EvO X (Option.some e) st v st₁ := h
theorem part_of {μ : Mem} {v : Value} {x : PV} {o : Option Int} (h : OptI x o) (hv : VR μ v x) : IsPart v o := by
  cases h with
  | none => cases hv; exact .none
  | int i => cases hv; exact .int _ _
theorem Ev.slice {value : Expr} {l u : Option Expr} {p q : Pos} {o a b v : PV} {lo hi : Option Int} (ho : Ev X value st o st₁) (hl : EvO X l st₁ a st₂) (hu : EvO X u st₂ b st₃) (oa : OptI a lo) (ob : OptI b hi) {st₄ : PSt} (h : Cut X o lo hi st₃ v st₄) :
    Ev X (.Subscript value (.Slice l u Option.none q) p) st v st₄ := fun μ s g => by
  refine Subscript_ ((ho μ s g).post fun x μ₁ s₁ le₁ hx g₁ e₁ => wpAny_Slice ?_)
  refine (hl μ₁ s₁ g₁).post fun vl μ₂ s₂ le₂ hvl g₂ e₂ => (hu μ₂ s₂ g₂).post fun vu μ₃ s₃ le₃ hvu g₃ e₃ => wpAny_pure ?_
  have g₄ := g₃.push { cls := .type "slice", data := .fields #[vl, vu, .none] }
  obtain ⟨T, id, hT, hg, hw⟩ := h μ₃ _ x s₃.heap.objs.size vl vu g₄ (hx.mono (le₂.trans le₃)) (part_of oa (hvl.mono le₃)) (part_of ob hvu) (Heap.IsSliceOf.new _ _ _ _)
  obtain ⟨ops, hs⟩ := sub_ops (.Slice l u Option.none q) x (.ref s₃.heap.objs.size)
  exact W.trans (le₁.trans (le₂.trans le₃)) (e₁.trans (e₂.trans (e₃.trans (.mk _ _ _)))) (tail_any hT hg hw hs)

theorem clip_le (n d : Nat) (o : Option Int) (hd : d ≤ n) : clip n d o ≤ n := by
  cases o with
  | none => exact hd
  | some i => simp only [clip]; split <;> grind
theorem sliceB (l : Nat) (lo hi : Option Int) : PySem.Builtin.Str.strSliceIndices lo hi 1 l = sliceRange (clip l 0 lo : Nat) (clip l l hi : Nat) 1 := by
  have e : ∀ (o : Option Int) (d : Nat), d ≤ l → (match o with | none => (d : Int) | some i => max 0 (min (if i < 0 then i + l else i) (l : Int))) = ((clip l d o : Nat) : Int) := by
    intro o d hd
    cases o with
    | none => rfl
    | some i => simp only [clip]; split <;> grind
  unfold PySem.Builtin.Str.strSliceIndices
  simp only [show (1 : Int) > 0 by decide, if_true]
  rw [← e lo 0 (Nat.zero_le _), ← e hi l (Nat.le_refl _)]
  cases lo <;> cases hi <;> rfl
theorem slc_le {α : Type} (l : List α) (lo hi : Option Int) : (slc l lo hi).length ≤ l.length := by simp only [slc, List.length_take, List.length_drop]; grind
theorem partValue_of {v : Value} {o : Option Int} (h : IsPart v o) : ∃ q : Option (Int × Tok), v = partValue q ∧ q.map (·.1) = o := by
  cases h with
  | none => exact ⟨none, rfl, rfl⟩
  | int i t => exact ⟨some (i, t), rfl, rfl⟩
theorem str_picked (l : List Nat) (lo hi : Option Int) : (PySem.Builtin.Str.strSliceIndices lo hi 1 l.length).filterMap ((T l).cps[·]?) = slc l lo hi := by
  rw [sliceB]
  have : (fun i : Nat => (T l).cps[i]?) = (fun i : Nat => l[i]?) := by funext i; simp [T]
  rw [this, pick_range _ _ _ (clip_le _ _ _ (Nat.le_refl _))]
  rfl
theorem filterMap_all {α : Type} (l : List α) (is : List Nat) (h : is.length = l.length) (h2 : ∃ a b, is = sliceRange (a : Nat) (b : Nat) 1 ∧ b ≤ l.length) : is.filterMap (l[·]?) = l := by
  obtain ⟨a, b, rfl, hb⟩ := h2
  have hc : (sliceRange (a : Int) (b : Int) 1).length = b - a := by
    unfold sliceRange
    simp only [show (1 : Int) > 0 by decide, if_true, List.length_map, List.length_range]
    split <;> grind
  rw [hc] at h
  rw [pick_range l a b hb]
  by_cases h0 : l.length = 0
  · have := List.eq_nil_of_length_eq_zero h0; subst this; simp
  · have ha : a = 0 := by grind
    subst ha
    rw [List.drop_zero, List.take_of_length_le (by grind)]
theorem Cut.str {l : List Nat} {lo hi : Option Int} (h : l.length ≤ sizeLine) : Cut X (.str l) lo hi st (.str (slc l lo hi)) st := fun μ s x sl vl vh g hx pl ph hs => by
  cases hx with
  | str l t =>
    obtain ⟨ql, rfl, rfl⟩ := partValue_of pl
    obtain ⟨qh, rfl, rfl⟩ := partValue_of ph
    refine ⟨"str", _, typeIs_str _ _ _, F.slot_str_getitem.lookup, wpAny_getItem_str_slice (l := ql) (u := qh) (st := none) hs rfl ?_⟩
    unfold sliceMade slicePicked
    simp only [Option.map_none, Option.getD_none, T_len]
    rw [str_picked]
    split
    · rename_i hq
      have hq2 : (PySem.Builtin.Str.strSliceIndices (ql.map (·.1)) (qh.map (·.1)) 1 l.length).length = l.length := by simpa using hq
      have e : slc l (ql.map (·.1)) (qh.map (·.1)) = l := by
        rw [← str_picked]
        have : (fun i : Nat => (T l).cps[i]?) = (fun i : Nat => l[i]?) := by funext i; simp [T]
        rw [this]
        exact filterMap_all l _ hq2 ⟨_, _, sliceB _ _ _, clip_le _ _ _ (Nat.le_refl _)⟩
      rw [e]
      exact .val0 g (.str _ _)
    · exact ⟨by show (T _).length ≤ _; rw [T_len]; exact Nat.le_trans (slc_le _ _ _) h, .val g (.str _ _) _⟩
theorem VRs.slc {μ : Mem} {vs : List Value} {xs : List PV} (h : VRs μ vs xs) (lo hi : Option Int) : VRs μ (Mine.slc vs lo hi) (Mine.slc xs lo hi) := by
  unfold Mine.slc; rw [h.length]; exact (h.drop _).take _
theorem pick_list (vs : List Value) (lo hi : Option Int) : slicePick vs.toArray lo hi none = (slc vs lo hi).toArray := by
  unfold slicePick
  have e : sliceRange (sliceBounds lo hi none vs.toArray.size).1 (sliceBounds lo hi none vs.toArray.size).2.1 (sliceBounds lo hi none vs.toArray.size).2.2 = PySem.Builtin.Str.strSliceIndices lo hi 1 vs.length := by
    unfold PySem.Builtin.Str.strSliceIndices sliceBounds
    simp only [Option.getD_none, List.size_toArray]
    cases lo <;> cases hi <;> rfl
  rw [e, sliceB]
  have : (fun i : Nat => vs.toArray[i]?) = (fun i : Nat => vs[i]?) := by funext i; simp
  rw [this, pick_range _ _ _ (clip_le _ _ _ (Nat.le_refl _))]
  rfl
theorem Cut.list {n : Nat} {xs : List PV} {lo hi : Option Int} (hp : st.sto[n]? = some (.list xs)) (h : xs.length ≤ sizeLine) : Cut X (.loc n) lo hi st (.loc st.sto.length) ⟨st.loc, st.sto ++ [.list (slc xs lo hi)]⟩ := fun μ s x sl vl vh g hx pl ph hs => by
  cases hx with
  | loc n a hφ =>
    obtain ⟨vs, hl, hv⟩ := g.list hφ hp
    refine ⟨"list", _, hl.typeIs, slot_list_getitem.lookup, wpAny_getItem_list_slice hl hs pl ph .none (by simp) ?_ (by have := hv.length; simp only [List.size_toArray]; grind)⟩
    rw [pick_list]
    exact newListP g (hv.slc lo hi) s.toks 0
end


section
variable {X : Cx} {st st₁ st₂ st₃ st₄ st₅ st' : PSt}

theorem Nodup.idx {α : Type} {l : List α} (nd : l.Nodup) {i j : Nat} {a : α} (hi : l[i]? = some a) (hj : l[j]? = some a) : i = j := by
  obtain ⟨h1, e1⟩ := List.getElem?_eq_some_iff.mp hi
  obtain ⟨h2, e2⟩ := List.getElem?_eq_some_iff.mp hj
  exact (List.getElem_inj nd).mp (e1.trans e2.symm)
theorem Good.upd {μ : Mem} {s : Shared} {m : Str → Option Value} {objs : List Obj} (G : Good X μ st s m objs) {n : Nat} {a : Addr} {p : PO} {o : Obj} (hφ : μ.φ[n]? = some a) (hr : OR X.prog X.w μ o p) {h' : Heap} {tk : Nat}
    (hs : Heap.SameBut a s.heap h') (ho : h'.get? a = some o) : Good X μ ⟨st.loc, st.sto.set n p⟩ { s with heap := h', toks := tk } m (objs.set n o) := by
  have hn : n < objs.length := by rw [G.size]; exact (List.getElem?_eq_some_iff.mp hφ).1
  obtain ⟨o₀, ho₀⟩ : ∃ o₀, objs[n]? = some o₀ := ⟨_, List.getElem?_eq_getElem hn⟩
  have hz : (μ.φ.zip objs)[n]? = some (a, o₀) := by rw [List.getElem?_zip_eq_some]; exact ⟨hφ, ho₀⟩
  have za := G.news _ (List.mem_append_left _ (List.mem_of_getElem? hz))
  have nd := List.nodup_append.mp G.nodup
  refine ⟨G.fr.change hs za.2.1 za.2.2, G.loc, fun q hq => ?_, G.sto.set hr n, by simpa using G.len, G.nodup, G.pin⟩
  rcases List.mem_append.mp hq with hq | hq
  · obtain ⟨i, hi⟩ := List.mem_iff_getElem?.mp hq
    rw [List.getElem?_zip_eq_some] at hi
    obtain ⟨h1, h2⟩ := hi
    by_cases e : i = n
    · subst e
      rw [List.getElem?_set_self hn] at h2
      obtain ⟨q1, q2⟩ := q
      rw [hφ] at h1
      simp only [Option.some.injEq] at h1 h2
      subst h1 h2
      exact ⟨ho, za.2⟩
    · rw [List.getElem?_set_ne (Ne.symm e)] at h2
      have hz2 : (μ.φ.zip objs)[i]? = some q := by rw [List.getElem?_zip_eq_some]; exact ⟨h1, h2⟩
      have zq := G.news _ (List.mem_append_left _ (List.mem_of_getElem? hz2))
      have hne : q.1 ≠ a := fun q' => e (Nodup.idx nd.1 h1 (q' ▸ hφ))
      exact ⟨(hs.2 _ hne).trans zq.1, zq.2⟩
  · have zq := G.news _ (List.mem_append_right _ hq)
    have hne : q.1 ≠ a := fun q' => nd.2.2 a (List.mem_of_getElem? hφ) q.1 (List.mem_map_of_mem hq) q'.symm
    exact ⟨(hs.2 _ hne).trans zq.1, zq.2⟩

theorem Calls.append {n : Nat} {xs : List PV} {v : PV} (hp : st.sto[n]? = some (.list xs)) (hl : xs.length ≤ sizeLine) : Calls X (.glob (.builtin "list.append")) [.loc n, v] st .none ⟨st.loc, st.sto.set n (.list (xs ++ [v]))⟩ := fun μ s f ys g hf hy => by
  cases hf
  cases hy with
  | cons w _ _ _ hw hy =>
    cases hy with
    | cons u _ _ _ hu hy =>
      cases hy
      cases hw with
      | loc n a hφ =>
        obtain ⟨m, objs, G⟩ := g
        obtain ⟨o, h1, hr, ho, hm⟩ := G.obj hφ hp
        cases hr with
        | list vs k xs hs =>
          have hlen := hs.length
          refine append_at ho (fun h' hsb ho' => ?_) (by simp only [List.size_toArray]; grind)
          have e : vs.toArray.push u = (vs ++ [u]).toArray := by simp
          rw [e] at ho'
          exact .intro .none ⟨m, _, G.upd hφ (.list (vs ++ [u]) (k + 1) _ (hs.append (.cons _ _ _ _ hu .nil))) hsb ho'⟩ (.mk s h' s.toks)

theorem meth_list {name : Str} {id : String} {n : Nat} {xs : List PV} (hp : st.sto[n]? = some (.list xs)) (slot : Slot "list" name id) (hty : typeOf (.builtin id) = pure (.type "method_descriptor")) :
    ∀ μ s x, GoodE X μ st s → VR μ x (.loc n) → MethOf X s x name id := fun μ s x g hx => by
  cases hx with
  | loc n a hφ =>
    obtain ⟨m, objs, G⟩ := g
    obtain ⟨o, h1, hr, ho, hm⟩ := G.obj hφ hp
    cases hr with
    | list vs k xs hs => exact ⟨"list", PySem.F.plainAttrs_list, slot, hty, ⟨_, ho, rfl⟩, fun b e => by cases e; exact ⟨_, ho, rfl⟩⟩
theorem meth_str {name : Str} {id : String} {l : List Nat} (slot : Slot "str" name id) (hty : typeOf (.builtin id) = pure (.type "method_descriptor")) :
    ∀ μ s x, GoodE X μ st s → VR μ x (.str l) → MethOf X s x name id := fun μ s x g hx => by
  cases hx with
  | str l t => exact ⟨"str", PySem.F.plainAttrs_str, slot, hty, typeIs_str _ _ _, fun b e => by cases e⟩

-- statements
noncomputable def As (X : Cx) (t : Expr) (v : PV) (st st' : PSt) : Prop := ∀ μ s x, GoodE X μ st s → VR μ x v → W X (assign t X.env x) (Post X μ s (fun _ _ => True) st') s
theorem As.name {k : Nat} (ok : X.Ok k) {x : Str} {p : Pos} {v : PV} {l' : List (Str × PV)} (hk : X.env.kindOf x = some .local) (hp : Put st.loc x v l') : As X (.Name x p) v st ⟨l', st.sto⟩ := fun μ s w g hw =>
  wpAny_assign_Name (storeLocal ok g hw hk hp)
theorem Ex.assign {k : Nat} (ok : X.Ok k) {x : Str} {px p : Pos} {e : Expr} {v : PV} {l' : List (Str × PV)} (h : Ev X e st v st₁) (hk : X.env.kindOf x = some .local) (hp : Put st₁.loc x v l') (hs : swapsWith e (some (.Name x px)) p.line X.env = pure false) :
    Ex X (.Assign [.Name x px] e p) st .next ⟨l', st₁.sto⟩ := fun μ s g =>
  wpAny_Assign_Name ((h μ s g).post fun w μ₁ s₁ le₁ hw g₁ e₁ => (storeLocal ok g₁ hw hk hp).post fun u μ₂ s₂ le₂ _ g₂ e₂ => ⟨μ₂, le₁.trans le₂, .next, g₂, e₁.trans e₂⟩) hs
theorem Ex.assign2 {x y : Expr} {p : Pos} {e : Expr} {v : PV} (h : Ev X e st v st₁) (hx : As X x v st₁ st₂) (hy : As X y v st₂ st₃) (he : ∀ env, (assignEach [x, y] env).map (·.2) = [PySem.assign x env, PySem.assign y env]) (hw : ∀ env, swappedStores [x, y] e env = pure none) :
    Ex X (.Assign [x, y] e p) st .next st₃ := fun μ s g =>
  wpAny_Assign_two ((h μ s g).post fun w μ₁ s₁ le₁ hv g₁ e₁ => (hx μ₁ s₁ w g₁ hv).post fun _ μ₂ s₂ le₂ _ g₂ e₂ => (hy μ₂ s₂ w g₂ (hv.mono le₂)).post fun _ μ₃ s₃ le₃ _ g₃ e₃ => ⟨μ₃, le₁.trans (le₂.trans le₃), .next, g₃, e₁.trans (e₂.trans e₃)⟩) (he _) (hw _)
theorem Ex.assignTup {elts : List Expr} {k : Nat} {tp p : Pos} {e : Expr} {v : PV} (h : Ev X e st v st₁) (ha : As X (.Tuple elts k tp) v st₁ st₂) (hs : swapsWithSole [.Tuple elts k tp] e p.line X.env = pure false) (hw : swappedStores [.Tuple elts k tp] e X.env = pure none) :
    Ex X (.Assign [.Tuple elts k tp] e p) st .next st₂ := fun μ s g =>
  Assign_Tuple ((h μ s g).post fun w μ₁ s₁ le₁ hv g₁ e₁ => (ha μ₁ s₁ w g₁ hv).post fun _ μ₂ s₂ le₂ _ g₂ e₂ => ⟨μ₂, le₁.trans le₂, .next, g₂, e₁.trans e₂⟩) hs hw
theorem Ex.aug {k : Nat} (ok : X.Ok k) {x : Str} {px p : Pos} {op : Operator} {e : Expr} {a b v : PV} {l' : List (Str × PV)} (hk : X.env.kindOf x = some .local) (hl : Look st.loc x a) (h : Ev X e st b st₁) (ho : Op2 X (inplaceOp op) a b st₁ v st₂) (hp : Put st₂.loc x v l') :
    Ex X (.AugAssign (.Name x px) op e p) st .next ⟨l', st₂.sto⟩ := fun μ s g =>
  wpAny_AugAssign_Name ((loadLocal ok hk hl μ s g).post fun w μ₁ s₁ le₁ hw g₁ e₁ => (h μ₁ s₁ g₁).post fun u μ₂ s₂ le₂ hu g₂ e₂ => (ho μ₂ s₂ w u g₂ (hw.mono le₂) hu).post fun r μ₃ s₃ le₃ hr g₃ e₃ =>
    (storeLocal ok g₃ hr hk hp).post fun _ μ₄ s₄ le₄ _ g₄ e₄ => ⟨μ₄, le₁.trans (le₂.trans (le₃.trans le₄)), .next, g₄, e₁.trans (e₂.trans (e₃.trans e₄))⟩)
theorem Ex.expr {e : Expr} {p : Pos} (h : Ev X e st .none st₁) (hi : interactive X.env = false) (hs : swapsWith e Option.none p.line X.env = pure false) : Ex X (.Expr e p) st .next st₁ := fun μ s g =>
  wpAny_Expr ((h μ s g).post fun w μ₁ s₁ le₁ hw g₁ e₁ => by cases hw; exact ⟨μ₁, le₁, .next, g₁, e₁⟩) hi hs
theorem Ex.ret {e : Expr} {p : Pos} {v : PV} (h : Ev X e st v st₁) : Ex X (.Return (some e) p) st (.ret v) st₁ := fun μ s g =>
  wpAny_Return_some ((h μ s g).mono fun w s₁ ⟨μ₁, le, r, g₁, e⟩ => ⟨μ₁, le, .ret _ _ r, g₁, e⟩)
theorem Ex.if_t {t : Expr} {b o : List Stmt} {p : Pos} {f : PFlow} (ht : Tst X t st true st₁) (h : Exs X b st₁ f st₂) : Ex X (.If t b o p) st f st₂ := fun μ s g =>
  wpAny_If ((ht μ s g).post fun c μ₁ s₁ le₁ hc g₁ e₁ => by subst hc; exact (h μ₁ s₁ g₁).trans le₁ e₁)
theorem Ex.if_f {t : Expr} {b o : List Stmt} {p : Pos} {f : PFlow} (ht : Tst X t st false st₁) (h : Exs X o st₁ f st₂) : Ex X (.If t b o p) st f st₂ := fun μ s g =>
  wpAny_If ((ht μ s g).post fun c μ₁ s₁ le₁ hc g₁ e₁ => by subst hc; exact (h μ₁ s₁ g₁).trans le₁ e₁)
theorem Exs.nil : Exs X [] st .next st := fun μ s g => wpAny_execs_nil (.intro .next g (.refl _))
theorem Exs.cons {c : Stmt} {cs : List Stmt} {f : PFlow} (h : Ex X c st .next st₁) (hr : Exs X cs st₁ f st₂) : Exs X (c :: cs) st f st₂ := fun μ s g =>
  wpAny_execs_cons ((h μ s g).post fun a μ₁ s₁ le₁ ha g₁ e₁ => by cases ha; exact (hr μ₁ s₁ g₁).trans le₁ e₁)
theorem Exs.ret {c : Stmt} {cs : List Stmt} {v : PV} (h : Ex X c st (.ret v) st₁) : Exs X (c :: cs) st (.ret v) st₁ := fun μ s g =>
  wpAny_execs_cons ((h μ s g).post fun a μ₁ s₁ le₁ ha g₁ e₁ => by cases ha with | ret w x hv => exact ⟨μ₁, le₁, .ret _ _ hv, g₁, e₁⟩)
mutual
noncomputable def PV.inS (k : Nat) : PV → Bool
  | .loc n => decide (n < k)
  | .tup xs => PV.inAll k xs
  | _ => true
noncomputable def PV.inAll (k : Nat) : List PV → Bool
  | [] => true
  | x :: r => x.inS k && PV.inAll k r
end
mutual
theorem VR.cut {μ : Mem} {k : Nat} {hid : List (Addr × Obj)} (hh : ∀ a vs, (a, tupObj vs) ∈ μ.hid → (a, tupObj vs) ∈ hid) : ∀ {v : Value} {x : PV}, VR μ v x → x.inS k = true → VR ⟨μ.φ.take k, hid⟩ v x
  | _, _, .none, _ => .none
  | _, _, .bool b, _ => .bool b
  | _, _, .int i t, _ => .int i t
  | _, _, .str l t, _ => .str l t
  | _, _, .loc n a h, e => .loc n a (by
      have : n < k := by simpa [PV.inS] using e
      rw [List.getElem?_take_of_lt this]; exact h)
  | _, _, .tup a vs xs h hs, e => .tup a vs xs (hh _ _ h) (VRs.cut hh hs (by simpa [PV.inS] using e))
  | _, _, .glob v, _ => .glob v
theorem VRs.cut {μ : Mem} {k : Nat} {hid : List (Addr × Obj)} (hh : ∀ a vs, (a, tupObj vs) ∈ μ.hid → (a, tupObj vs) ∈ hid) : ∀ {vs : List Value} {xs : List PV}, VRs μ vs xs → PV.inAll k xs = true → VRs ⟨μ.φ.take k, hid⟩ vs xs
  | _, _, .nil, _ => .nil
  | _, _, .cons v x vs xs h hs, e => by
    simp only [PV.inAll, Bool.and_eq_true] at e
    exact .cons v x vs xs (VR.cut hh h e.1) (VRs.cut hh hs e.2)
end
noncomputable def PO.inS (k : Nat) : PO → Bool
  | .list xs => PV.inAll k xs
  | .dictS kvs => kvs.all fun p => p.2.inS k
  | .dictI kvs => kvs.all fun p => p.2.inS k
theorem KRs.cut {K K' : Type} {f : K' → K} {μ : Mem} {k : Nat} {hid : List (Addr × Obj)} (hh : ∀ a vs, (a, tupObj vs) ∈ μ.hid → (a, tupObj vs) ∈ hid) {kvs : List (K × Value)} {ps : List (K' × PV)} (h : KRs f μ kvs ps) (e : (ps.all fun p => p.2.inS k) = true) : KRs f ⟨μ.φ.take k, hid⟩ kvs ps := by
  induction h with
  | nil => exact .nil
  | cons q v x kvs ps h _ ih =>
    simp only [List.all_cons, Bool.and_eq_true] at e
    exact .cons q v x kvs ps (h.cut hh e.1) (ih e.2)
theorem OR.cut {prog : Program} {w : World} {μ : Mem} {k : Nat} {hid : List (Addr × Obj)} (hh : ∀ a vs, (a, tupObj vs) ∈ μ.hid → (a, tupObj vs) ∈ hid) {o : Obj} {p : PO} (h : OR prog w μ o p) (e : p.inS k = true) : OR prog w ⟨μ.φ.take k, hid⟩ o p := by
  cases h with
  | list vs n xs h => exact .list vs n xs (h.cut hh e)
  | dictS o kvs ps hd h => exact .dictS o kvs ps hd (h.cut hh e)
  | dictI o kvs ps hd h => exact .dictI o kvs ps hd (h.cut hh e)
theorem ORs.cut {prog : Program} {w : World} {μ : Mem} {k : Nat} {hid : List (Addr × Obj)} (hh : ∀ a vs, (a, tupObj vs) ∈ μ.hid → (a, tupObj vs) ∈ hid) {os : List Obj} {ps : List PO} (h : ORs prog w μ os ps) (e : (ps.all (PO.inS k)) = true) : ORs prog w ⟨μ.φ.take k, hid⟩ os ps := by
  induction h with
  | nil => exact .nil
  | cons o p os ps h _ ih =>
    simp only [List.all_cons, Bool.and_eq_true] at e
    exact .cons o p os ps (h.cut hh e.1) (ih e.2)

/-- what is known of a state may be forgotten: the last objects, and names -/
structure Fits (st st' : PSt) : Prop where
  loc : ∀ x v, st'.loc.lookup x = some v → st.loc.lookup x = some v
  inL : (st'.loc.all fun p => p.2.inS st'.sto.length) = true
  sto : st'.sto = st.sto.take st'.sto.length
  inO : (st'.sto.all (PO.inS st'.sto.length)) = true
theorem lookup_mem {l : List (Str × PV)} {x : Str} {v : PV} (h : l.lookup x = some v) : ∃ y, (y, v) ∈ l := by
  induction l with
  | nil => cases h
  | cons p r ih =>
    obtain ⟨y, u⟩ := p
    rw [List.lookup_cons] at h
    split at h
    · cases h; exact ⟨y, .head _⟩
    · obtain ⟨z, hz⟩ := ih h; exact ⟨z, .tail _ hz⟩
theorem zip_take_sub {α β : Type} (l : List α) (r : List β) (k : Nat) : ∀ p, p ∈ (l.take k).zip (r.take k) → p ∈ l.zip r := by
  intro p hp
  obtain ⟨i, hi⟩ := List.mem_iff_getElem?.mp hp
  rw [List.getElem?_zip_eq_some] at hi
  obtain ⟨h1, h2⟩ := hi
  have e1 : l[i]? = some p.1 := by
    by_cases q : i < k
    · rwa [List.getElem?_take_of_lt q] at h1
    · rw [List.getElem?_take_eq_none (by grind)] at h1; cases h1
  have e2 : r[i]? = some p.2 := by
    by_cases q : i < k
    · rwa [List.getElem?_take_of_lt q] at h2
    · rw [List.getElem?_take_eq_none (by grind)] at h2; cases h2
  have hz : (l.zip r)[i]? = some p := by rw [List.getElem?_zip_eq_some]; exact ⟨e1, e2⟩
  exact List.mem_of_getElem? hz
theorem Good.cut {μ : Mem} {s : Shared} {m : Str → Option Value} {objs : List Obj} (G : Good X μ st s m objs) (f : Fits st st') (hpin : X.pin.p ⟨μ.φ.take st'.sto.length, μ.hid⟩) : Good X ⟨μ.φ.take st'.sto.length, μ.hid⟩ st' s m (objs.take st'.sto.length) := by
  have hh : ∀ a vs, (a, tupObj vs) ∈ μ.hid → (a, tupObj vs) ∈ μ.hid := fun _ _ h => h
  have hk : st'.sto.length ≤ st.sto.length := by have := congrArg List.length f.sto; rw [List.length_take] at this; grind
  refine ⟨G.fr, fun x v e => ?_, fun p hp => G.news p ?_, ?_, by rw [List.length_take, G.len]; grind, ?_, hpin⟩
  · obtain ⟨a, h1, h2⟩ := G.loc x v (f.loc x v e)
    obtain ⟨y, hy⟩ := lookup_mem e
    exact ⟨a, h1, h2.cut hh (by have := List.all_eq_true.mp f.inL _ hy; exact this)⟩
  · rcases List.mem_append.mp hp with h | h
    · exact List.mem_append_left _ (zip_take_sub _ _ _ p h)
    · exact List.mem_append_right _ h
  · have := G.sto.take st'.sto.length
    rw [← f.sto] at this
    exact this.cut hh f.inO
  · have nd := List.nodup_append.mp G.nodup
    rw [List.nodup_append]
    exact ⟨nd.1.sublist (List.take_sublist _ _), nd.2.1, fun a ha b hb => nd.2.2 a (List.mem_of_mem_take ha) b hb⟩
theorem Post.cut {α : Type} {μ : Mem} {s : Shared} {R R' : Mem → α → Prop} {a : α} {s' : Shared} (h : Post X μ s R st₁ a s') (f : Fits st₁ st₂) (hk : μ.φ.length ≤ st₂.sto.length) (hpin : X.pin.p μ) (hr : ∀ μ' : Mem, R μ' a → R' ⟨μ'.φ.take st₂.sto.length, μ'.hid⟩ a) : Post X μ s R' st₂ a s' := by
  obtain ⟨μ', le, r, ⟨m, objs, G⟩, e⟩ := h
  have lec : μ.le ⟨μ'.φ.take st₂.sto.length, μ'.hid⟩ := ⟨fun n b hb => ?_, le.hid⟩
  · exact ⟨⟨μ'.φ.take st₂.sto.length, μ'.hid⟩, lec, hr _ r, ⟨m, _, G.cut f (X.pin.mono _ _ lec hpin)⟩, e⟩
  have : n < st₂.sto.length := Nat.lt_of_lt_of_le (List.getElem?_eq_some_iff.mp hb).1 hk
  show (μ'.φ.take st₂.sto.length)[n]? = some b
  rw [List.getElem?_take_of_lt this]; exact le.φ n b hb
theorem Ex.cut {c : Stmt} {f : PFlow} (h : Ex X c st .next st₁) (ft : Fits st₁ st₂) (hk : st.sto.length ≤ st₂.sto.length) : Ex X c st .next st₂ := fun μ s g =>
  (h μ s g).mono fun a s' p => p.cut ft (by obtain ⟨m, o, G⟩ := g; rw [G.len]; exact hk) (let ⟨_, _, G⟩ := g; G.pin) fun μ' r => by cases r; exact .next
theorem Exs.cut {c : List Stmt} (h : Exs X c st .next st₁) (ft : Fits st₁ st₂) (hk : st.sto.length ≤ st₂.sto.length) : Exs X c st .next st₂ := fun μ s g =>
  (h μ s g).mono fun a s' p => p.cut ft (by obtain ⟨m, o, G⟩ := g; rw [G.len]; exact hk) (let ⟨_, _, G⟩ := g; G.pin) fun μ' r => by cases r; exact .next
theorem Exs.cut_ret {c : List Stmt} {v : PV} (h : Exs X c st (.ret v) st₁) (ft : Fits st₁ st₂) (hk : st.sto.length ≤ st₂.sto.length) (hv : v.inS st₂.sto.length = true) : Exs X c st (.ret v) st₂ := fun μ s g =>
  (h μ s g).mono fun a s' p => p.cut ft (by obtain ⟨m, o, G⟩ := g; rw [G.len]; exact hk) (let ⟨_, _, G⟩ := g; G.pin) fun μ' r => by cases r with | ret w x hw => exact .ret _ _ (hw.cut (fun _ _ h => h) hv)
theorem Tst.cut {c : Expr} {v : Bool} (h : Tst X c st v st₁) (ft : Fits st₁ st₂) (hk : st.sto.length ≤ st₂.sto.length) : Tst X c st v st₂ := fun μ s g =>
  (h μ s g).mono fun a s' p => p.cut ft (by obtain ⟨m, o, G⟩ := g; rw [G.len]; exact hk) (let ⟨_, _, G⟩ := g; G.pin) fun μ' r => r
end


theorem zip_lookup {μ : Mem} (x : Str) : ∀ (ns : List Str) {vs : List Value} {xs : List PV}, VRs μ vs xs →
    (∀ v, (ns.zip xs).reverse.lookup x = some v → ∃ a, (ns.zip vs).reverse.lookup x = some a ∧ VR μ a v) ∧ ((ns.zip xs).reverse.lookup x = none → (ns.zip vs).reverse.lookup x = none)
  | [], _, _, _ => by simp
  | n :: ns, _, _, .nil => by simp
  | n :: ns, _, _, .cons v y vs xs h hs => by
    obtain ⟨h1, h2⟩ := zip_lookup x ns hs
    simp only [List.zip_cons_cons, List.reverse_cons, List.lookup_append]
    cases e : (ns.zip xs).reverse.lookup x with
    | some w =>
      refine hG fun Z z => ?_; obtain ⟨a, ha, hv⟩ := h1 w e; refine z ?_; clear z
      rw [ha]
      refine ⟨fun u hu => ?_, by simp⟩
      simp at hu; subst hu
      exact ⟨a, by simp, hv⟩
    | none =>
      rw [h2 e]
      refine ⟨fun u hu => ?_, ?_⟩
      · by_cases q : x = n
        · subst q; simp [List.lookup_cons] at hu ⊢; subst hu; exact h
        · simp [List.lookup_cons, beq_eq_false_iff_ne.mpr q] at hu
      · by_cases q : x = n
        · subst q; simp [List.lookup_cons]
        · simp [List.lookup_cons, beq_eq_false_iff_ne.mpr q]

/-- a call of one def of the text from a context: the callee's -/
structure Cx.Sub (X X' : Cx) : Prop where
  prog : X'.prog = X.prog
  w : X'.w = X.w
  K : X'.K = X.K

noncomputable def Binds (fd : FuncData) (ns : List Str) : Prop := ∀ vals : List Value, vals.length = ns.length → bindArgs fd ⟨vals, []⟩ = pure (ns.zip vals)

section
variable {X : Cx} {st st₁ st₂ st₃ st' : PSt}

theorem Good.h₀_not {μ : Mem} {s : Shared} {m : Str → Option Value} {objs : List Obj} (G : Good X μ st s m objs) : ∀ b o, X.h₀.get? b = some o → b ∉ (μ.φ.zip objs ++ μ.hid).map (·.1) := fun b o e q => by
  refine hG fun Z z => ?_; obtain ⟨p, hp, rfl⟩ := List.mem_map.mp q; refine z ?_; clear z
  rw [(G.news p hp).2.2] at e; cases e

theorem Calls.def {k : Nat} (ok : X.Ok (k + 1)) {f : Addr} {name qual : Str} {params : Arguments} {body : List Stmt} {scope : Scope} {dV kV doc pm cdv ct oc : Value} {an od : Option Addr} {osl : Array (Option Value)}
    {ns : List Str} {pvs : List PV} {v : PV} {loc₀ loc' : List (Str × PV)} {sto' : List PO}
    (ho : X.K.lookup f = some ⟨oc, od, .func (fnOf name qual params body scope dV kV doc pm an cdv ct), osl⟩) (hcd : codeIn X.K cdv qual = true)
    (hb : Binds (fnOf name qual params body scope dV kV doc pm an cdv ct) ns) (hlen : pvs.length = ns.length) (hl0 : (ns.zip pvs).reverse = loc₀)
    (hloc : ∀ y ∈ ns, scope.names.lookup y = some .local) (hcell : ∀ x ∈ scope.names, x.2 ≠ .cell) (hco : scope.isCoroutine = false) (hgen : scope.isGenerator = false) (hk : scope.kind = .function)
    (hbody : ∀ X' : Cx, X'.Ok k → X.Sub X' → X'.env = envOf qual scope X'.L f cdv → Exs X' body ⟨loc₀, st.sto⟩ (.ret v) ⟨loc', sto'⟩) :
    Calls X (.glob (.ref f)) pvs st v ⟨st.loc, sto'⟩ := fun μ s x ys g hf hys => by
  cases hf
  refine hG fun Z z => ?_; obtain ⟨m, objs, G⟩ := g; refine z ?_; clear z
  have kin : X.K.In s.heap := ok.kin.keeps G.fr.keep
  have nolim : s.heap.NoLimit := ok.nolimit.keeps G.fr.keep
  refine wpAny_call ?_
  have hlen' : ys.length = ns.length := hys.length.trans hlen
  refine codeAny_call_def (fd := fnOf name qual params body scope dV kV doc pm an cdv ct) (body := body) (binds := ns.zip ys) (by have := ok.depth; show X.A.depth < 1000; grind) (kin _ _ ho) rfl nolim (codeRec_of kin hcd) rfl (BindsTo.of_eq (hb ys hlen')) hcell
    (fun y hy => hloc _ (List.of_mem_zip hy).1) (fun h₁ hns hk₁ => ?_) hco hgen hk
  let news := μ.φ.zip objs ++ μ.hid
  let g₀ := hideAll s.heap (news.map (·.1))
  have nm := G.h₀_not
  have stays : ∀ b o, X.h₀.get? b = some o → g₀.get? b = some o := fun b o e => hideAll_get _ (G.fr.keep b o e) (nm b o e)
  refine hG fun Z z => ?_; obtain ⟨oL, es, ep, hL, hLr⟩ := G.fr.ns; refine z ?_; clear z
  have nL : X.L ∉ news.map (·.1) := fun q => by
    refine hG fun Z z => ?_; obtain ⟨p, hp, e⟩ := List.mem_map.mp q; refine z ?_; clear z
    exact (G.news p hp).2.1 e
  have hLg : g₀.get? X.L = some oL := hideAll_get _ hL nL
  let X' : Cx := ⟨X.prog, X.w, X.K, X.A.deeper (envOf qual scope s.heap.objs.size f cdv), g₀, s.heap.objs.size, envOf qual scope s.heap.objs.size f cdv, Pin.triv⟩
  have ok' : X'.Ok k := ⟨ok.hh, by have := ok.depth; show X.A.depth + 1 + k < 900; grind, by have := ok.units; show X.A.units + 3 + 8 * k + 100 < cLine; grind, fun a o e => stays _ _ (ok.kin _ _ e), ok.nolimit.keeps stays, rfl, hk, rfl, rfl, let ⟨o, ho⟩ := ok.mods; ⟨o, stays _ _ ho⟩⟩
  have G' : Good X' μ ⟨loc₀, st.sto⟩ { s with heap := h₁, toks := s.toks + (ns.zip ys).length } (fun x => (ns.zip ys).reverse.lookup x) objs := by
    refine ⟨⟨hns, fun b o e => hk₁ b o (of_hideAll _ e), Nat.le_of_eq (hideAll_size _ _)⟩, fun x v e => ?_, fun p hp => ?_, G.sto, G.len, G.nodup, trivial⟩
    · rw [← hl0] at e
      exact (zip_lookup x ns hys).1 v e
    · exact ⟨hk₁ _ _ (G.news p hp).1, Nat.ne_of_lt (Heap.lt_size (G.news p hp).1), hideAll_none _ (List.mem_map_of_mem hp)⟩
  have hw := hbody X' ok' ⟨rfl, rfl, rfl⟩ rfl μ _ ⟨_, _, G'⟩
  refine wpAny_mono hw (fun fl s' hl => ?_) fun _ _ x => x.elim
  refine hG fun Z z => ?_; obtain ⟨μ', le, hr, ⟨m', objs', G₂⟩, sm⟩ := hl; refine z ?_; clear z
  cases hr with
  | ret v' x hv =>
    refine ⟨μ', le, hv, ⟨m, objs', ⟨⟨⟨oL, es, ep, G₂.fr.keep X.L oL hLg, hLr⟩, fun b o e => G₂.fr.keep b o (stays b o e), G.fr.above⟩, fun x v e => ?_, fun p hp => ⟨(G₂.news p hp).1, fun q => ?_, ?_⟩, G₂.sto, G₂.len, G₂.nodup, X.pin.mono _ _ le G.pin⟩⟩, ?_⟩
    · refine hG fun Z z => ?_; obtain ⟨a, h1, h2⟩ := G.loc x v e; refine z ?_; clear z
      exact ⟨a, h1, h2.mono le⟩
    · have := (G₂.news p hp).2.2; rw [q] at this; have h2 := hLg; rw [show X'.h₀ = g₀ from rfl] at this; rw [this] at h2; cases h2
    · cases q : X.h₀.get? p.1 with
      | none => rfl
      | some o => have := (G₂.news p hp).2.2; have h2 := stays _ _ q; rw [show X'.h₀ = g₀ from rfl] at this; rw [this] at h2; cases h2
    · exact (Same.mk s h₁ _).trans sm

end


section
variable {X : Cx} {st st₁ st₂ st₃ st' : PSt}

-- while
theorem Ex.while {test : Expr} {body : List Stmt} {p : Pos} (n : Nat) (S : Nat → PSt) {st' : PSt}
    (turn : ∀ i, i < n → ∃ m, Tst X test (S i) true m ∧ Exs X body m .next (S (i + 1)))
    (stop : Tst X test (S n) false st') : Ex X (.While test body [] p) (S 0) .next st' := fun μ s g => by
  obtain ⟨J, hJ⟩ : ∃ J : Nat → Shared → Prop, J = (fun k s' => ∃ i μ', i ≤ n ∧ k = n - i ∧ μ.le μ' ∧ GoodE X μ' (S i) s' ∧ Same s s') := ⟨_, rfl⟩
  refine wpAny_While (codeAny_whileLoop J ?_ n (by rw [hJ]; exact ⟨0, μ, Nat.zero_le _, rfl, .refl _, g, .refl _⟩))
  intro k s' hq0
  rw [hJ] at hq0
  obtain ⟨i, μ', hi, rfl, le, g', sm⟩ := hq0
  by_cases hlt : i < n
  · obtain ⟨m, ht, hb⟩ := turn i hlt
    refine wpAny_mono (ht μ' s' g') (fun b s₂ hq => ?_) fun _ _ x => x.elim
    obtain ⟨μ₂, le₂, rfl, g₂, sm₂⟩ := hq
    show wpAny _ _ _ _ _ _
    refine wpAny_mono (hb μ₂ s₂ g₂) (fun fl s₃ hq => ?_) fun _ _ x => x.elim
    obtain ⟨μ₃, le₃, hf, g₃, sm₃⟩ := hq
    cases hf
    exact ⟨n - (i + 1), by omega, by rw [hJ]; exact ⟨i + 1, μ₃, hlt, rfl, le.trans (le₂.trans le₃), g₃, sm.trans (sm₂.trans sm₃)⟩⟩
  · have hi : i = n := by omega
    subst hi
    refine wpAny_mono (stop μ' s' g') (fun b s₂ hq => ?_) fun _ _ x => x.elim
    obtain ⟨μ₂, le₂, rfl, g₂, sm₂⟩ := hq
    show wpAny _ _ _ _ _ _
    exact wpAny_execs_nil ⟨μ₂, le.trans le₂, .next, g₂, sm.trans sm₂⟩

-- hidden objects
theorem Mem.le.swap {μ : Mem} {hs hs' : List (Addr × Obj)} (nt : NoTup hs) : ∀ a vs, (a, tupObj vs) ∈ hs ++ μ.hid → (a, tupObj vs) ∈ hs' ++ μ.hid := fun a vs h => by
  rcases List.mem_append.mp h with h | h
  · exact absurd rfl ((nt _ h).1 vs)
  · exact List.mem_append_right _ h
mutual
theorem VR.swap {μ μ' : Mem} (hφ : μ'.φ = μ.φ) (hh : ∀ a vs, (a, tupObj vs) ∈ μ.hid → (a, tupObj vs) ∈ μ'.hid) : ∀ {v : Value} {x : PV}, VR μ v x → VR μ' v x
  | _, _, .none => .none
  | _, _, .bool b => .bool b
  | _, _, .int i t => .int i t
  | _, _, .str l t => .str l t
  | _, _, .loc n a h => .loc n a (hφ ▸ h)
  | _, _, .tup a vs xs h hs => .tup a vs xs (hh _ _ h) (VRs.swap hφ hh hs)
  | _, _, .glob v => .glob v
theorem VRs.swap {μ μ' : Mem} (hφ : μ'.φ = μ.φ) (hh : ∀ a vs, (a, tupObj vs) ∈ μ.hid → (a, tupObj vs) ∈ μ'.hid) : ∀ {vs : List Value} {xs : List PV}, VRs μ vs xs → VRs μ' vs xs
  | _, _, .nil => .nil
  | _, _, .cons v x vs xs h hs => .cons v x vs xs (VR.swap hφ hh h) (VRs.swap hφ hh hs)
end
theorem KRs.swap {K K' : Type} {f : K' → K} {μ μ' : Mem} (hφ : μ'.φ = μ.φ) (hh : ∀ a vs, (a, tupObj vs) ∈ μ.hid → (a, tupObj vs) ∈ μ'.hid) {kvs : List (K × Value)} {ps : List (K' × PV)} (h : KRs f μ kvs ps) : KRs f μ' kvs ps := by
  induction h with
  | nil => exact .nil
  | cons q v x kvs ps h _ ih => exact .cons q v x kvs ps (h.swap hφ hh) ih
theorem ORs.swap {prog : Program} {w : World} {μ μ' : Mem} (hφ : μ'.φ = μ.φ) (hh : ∀ a vs, (a, tupObj vs) ∈ μ.hid → (a, tupObj vs) ∈ μ'.hid) {os : List Obj} {ps : List PO} (h : ORs prog w μ os ps) : ORs prog w μ' os ps := by
  induction h with
  | nil => exact .nil
  | cons o p os ps h _ ih =>
    refine .cons o p os ps ?_ ih
    cases h with
    | list vs n xs h => exact .list vs n xs (h.swap hφ hh)
    | dictS o kvs ps hd h => exact .dictS o kvs ps hd (h.swap hφ hh)
    | dictI o kvs ps hd h => exact .dictI o kvs ps hd (h.swap hφ hh)

/-- the hidden objects in front change; all others stand -/
theorem Good.swap {μ : Mem} {s : Shared} {m : Str → Option Value} {objs : List Obj} {hs hs' : List (Addr × Obj)} (G : Good X ⟨μ.φ, hs ++ μ.hid⟩ st s m objs) (nt : NoTup hs) {h' : Heap} (tk : Nat)
    (k : ∀ b o, b ∉ hs.map (·.1) → s.heap.get? b = some o → h'.get? b = some o) (sub : (hs'.map (·.1)).Sublist (hs.map (·.1))) (at' : ∀ p ∈ hs', h'.get? p.1 = some p.2) :
    Good X ⟨μ.φ, hs' ++ μ.hid⟩ st { s with heap := h', toks := tk } m objs := by
  have nd := G.nodup
  simp only [List.map_append] at nd
  have hL : X.L ∉ hs.map (·.1) := fun q => by
    obtain ⟨p, hp, e⟩ := List.mem_map.mp q
    exact (G.news p (List.mem_append_right _ (List.mem_append_left _ hp))).2.1 e
  have hh0 : ∀ b o, X.h₀.get? b = some o → b ∉ hs.map (·.1) := fun b o e q => by
    obtain ⟨p, hp, rfl⟩ := List.mem_map.mp q
    have := (G.news p (List.mem_append_right _ (List.mem_append_left _ hp))).2.2
    rw [this] at e; cases e
  refine ⟨⟨G.fr.ns.at' (fun o e => k _ o hL e), fun b o e => k _ _ (hh0 b o e) (G.fr.keep b o e), G.fr.above⟩, fun x v e => let ⟨a, h1, h2⟩ := G.loc x v e; ⟨a, h1, VR.swap (μ := ⟨μ.φ, hs ++ μ.hid⟩) (μ' := ⟨μ.φ, hs' ++ μ.hid⟩) rfl (Mem.le.swap nt) h2⟩, fun p hp => ?_, ORs.swap (μ := ⟨μ.φ, hs ++ μ.hid⟩) (μ' := ⟨μ.φ, hs' ++ μ.hid⟩) rfl (Mem.le.swap nt) G.sto, G.len, ?_, X.pin.mono ⟨μ.φ, μ.hid⟩ _ ⟨fun _ _ h => h, fun _ h => List.mem_append_right _ h⟩ (X.pin.drop _ _ _ nt G.pin)⟩
  · rcases List.mem_append.mp hp with hp | hp
    · have z := G.news p (List.mem_append_left _ hp)
      refine ⟨k _ _ (fun q => ?_) z.1, z.2⟩
      obtain ⟨i, hi⟩ := List.mem_iff_getElem?.mp hp
      rw [List.getElem?_zip_eq_some] at hi
      exact (List.nodup_append.mp nd).2.2 _ (List.mem_of_getElem? hi.1) _ (List.mem_append_left _ q) rfl
    · rcases List.mem_append.mp hp with hp | hp
      · obtain ⟨q, hq, e⟩ := List.mem_map.mp (sub.subset (List.mem_map_of_mem hp))
        have z := G.news q (List.mem_append_right _ (List.mem_append_left _ hq))
        rw [e] at z
        exact ⟨at' p hp, z.2⟩
      · have z := G.news p (List.mem_append_right _ (List.mem_append_right _ hp))
        refine ⟨k _ _ (fun q => ?_) z.1, z.2⟩
        exact (List.nodup_append.mp (List.nodup_append.mp nd).2.1).2.2 _ q _ (List.mem_map_of_mem hp) rfl
  · simp only [List.map_append]
    exact nd.sublist ((List.Sublist.refl _).append (sub.append (List.Sublist.refl _)))
theorem GoodE.swap {μ : Mem} {s : Shared} {hs hs' : List (Addr × Obj)} (g : GoodE X ⟨μ.φ, hs ++ μ.hid⟩ st s) (nt : NoTup hs) {h' : Heap} (tk : Nat)
    (k : ∀ b o, b ∉ hs.map (·.1) → s.heap.get? b = some o → h'.get? b = some o) (sub : (hs'.map (·.1)).Sublist (hs.map (·.1))) (at' : ∀ p ∈ hs', h'.get? p.1 = some p.2) :
    GoodE X ⟨μ.φ, hs' ++ μ.hid⟩ st { s with heap := h', toks := tk } := let ⟨m, o, G⟩ := g; ⟨m, o, G.swap nt tk k sub at'⟩
theorem GoodE.drop {μ : Mem} {s : Shared} {hs : List (Addr × Obj)} (g : GoodE X ⟨μ.φ, hs ++ μ.hid⟩ st s) (nt : NoTup hs) {h' : Heap} (tk : Nat)
    (k : ∀ b o, b ∉ hs.map (·.1) → s.heap.get? b = some o → h'.get? b = some o) : GoodE X μ st { s with heap := h', toks := tk } := by
  have := g.swap (hs' := []) nt tk k (by simp) (by simp)
  simpa using this
theorem Good.hide {μ : Mem} {s : Shared} {m : Str → Option Value} {objs : List Obj} (G : Good X μ st s m objs) (o : Obj) (hf : o.isFreed = false) (tk : Nat) :
    Good X ⟨μ.φ, (s.heap.objs.size, o) :: μ.hid⟩ st { s with heap := s.heap.push o, toks := tk } m objs := by
  have le := Mem.le.hidden μ (s.heap.objs.size, o)
  have N := News.push G.fr G.news o hf
  refine ⟨G.fr.push _, fun x v e => let ⟨a, h1, h2⟩ := G.loc x v e; ⟨a, h1, h2.mono le⟩, fun q hq => N q ?_, G.sto.mono le, G.len, ?_, X.pin.mono _ _ le G.pin⟩
  · simp only [List.mem_append, List.mem_cons] at hq ⊢
    rcases hq with h | h | h
    · exact .inr (.inl h)
    · exact .inl h
    · exact .inr (.inr h)
  · have nd := G.nodup
    have nn := G.notNew
    rw [List.nodup_append] at nd ⊢
    simp only [List.mem_append, not_or] at nn
    refine ⟨nd.1, ?_, ?_⟩
    · simp only [List.map_cons, List.nodup_cons]; exact ⟨nn.2, nd.2.1⟩
    · intro a ha b hb
      simp only [List.map_cons, List.mem_cons] at hb
      rcases hb with rfl | hb
      · rintro rfl; exact nn.1 ha
      · exact nd.2.2 a ha b hb

/-- after a body: what it made is split from the hidden objects in front -/
theorem GoodE.split {μ μb : Mem} {s s' : Shared} {hs : List (Addr × Obj)} {sb : PSt} (g : GoodE X ⟨μ.φ, hs ++ μ.hid⟩ sb s) (le : Mem.le ⟨μ.φ, hs ++ μ.hid⟩ μb) (g' : GoodE X μb st s') :
    ∃ μ' : Mem, μ.le μ' ∧ GoodE X ⟨μ'.φ, hs ++ μ'.hid⟩ st s' := by
  obtain ⟨m₀, o₀, G₀⟩ := g
  obtain ⟨m, objs, G⟩ := g'
  have nd₀ := (List.nodup_append.mp G₀.nodup).2.1
  simp only [List.map_append] at nd₀
  let rest := μb.hid.filter fun p => decide (p.1 ∉ hs.map (·.1))
  have nd := G.nodup
  have ndb := (List.nodup_append.mp nd).2.1
  have memb : ∀ p, p ∈ μb.hid → p ∈ hs ++ rest := fun p hp => by
    by_cases q : p.1 ∈ hs.map (·.1)
    · refine List.mem_append_left _ ?_
      obtain ⟨r, hr, e⟩ := List.mem_map.mp q
      have hr' := le.hid r (List.mem_append_left _ hr)
      have : r = p := by
        obtain ⟨i, hi⟩ := List.mem_iff_getElem?.mp hr'
        obtain ⟨j, hj⟩ := List.mem_iff_getElem?.mp hp
        have e1 : (μb.hid.map (·.1))[i]? = some r.1 := by simp [hi]
        have e2 : (μb.hid.map (·.1))[j]? = some r.1 := by simp [hj, e]
        have := Nodup.idx ndb e1 e2
        subst this
        rw [hi] at hj; exact Option.some.inj hj
      exact this ▸ hr
    · exact List.mem_append_right _ (List.mem_filter.mpr ⟨hp, decide_eq_true q⟩)
  have membr : ∀ p, p ∈ hs ++ rest → p ∈ μb.hid := fun p hp => by
    rcases List.mem_append.mp hp with h | h
    · exact le.hid p (List.mem_append_left _ h)
    · exact (List.mem_filter.mp h).1
  have lem : μb.le ⟨μb.φ, hs ++ rest⟩ := ⟨fun _ _ h => h, memb⟩
  refine ⟨⟨μb.φ, rest⟩, ⟨le.φ, fun p hp => ?_⟩, m, objs, ⟨G.fr, fun x v e => let ⟨a, h1, h2⟩ := G.loc x v e; ⟨a, h1, h2.mono lem⟩, fun p hp => G.news p ?_, G.sto.mono lem, G.len, ?_, X.pin.mono _ _ lem G.pin⟩⟩
  · refine List.mem_filter.mpr ⟨le.hid p (List.mem_append_right _ hp), decide_eq_true fun q => ?_⟩
    exact (List.nodup_append.mp nd₀).2.2 _ q _ (List.mem_map_of_mem hp) rfl
  · rcases List.mem_append.mp hp with h | h
    · exact List.mem_append_left _ h
    · exact List.mem_append_right _ (membr p h)
  · have nd1 := List.nodup_append.mp nd
    simp only [List.map_append]
    rw [List.nodup_append]
    refine ⟨nd1.1, ?_, fun a ha b hb => ?_⟩
    · rw [List.nodup_append]
      refine ⟨(List.nodup_append.mp nd₀).1, nd1.2.1.sublist ((List.filter_sublist).map _), fun a ha b hb => ?_⟩
      obtain ⟨p, hp, rfl⟩ := List.mem_map.mp hb
      have := of_decide_eq_true (List.mem_filter.mp hp).2
      rintro rfl; exact this ha
    · have : b ∈ μb.hid.map (·.1) := by
        rcases List.mem_append.mp hb with h | h
        · obtain ⟨p, hp, rfl⟩ := List.mem_map.mp h; exact List.mem_map_of_mem (membr p (List.mem_append_left _ hp))
        · obtain ⟨p, hp, rfl⟩ := List.mem_map.mp h; exact List.mem_map_of_mem (membr p (List.mem_append_right _ hp))
      exact nd1.2.2 a ha b this

-- the loop's own shape
noncomputable def Turn (X : Cx) (target : Expr) (I : Addr) (It : Nat → List (Addr × Obj) → Prop) (dep : Mem → Prop) (i : Nat) (st st₁ : PSt) : Prop :=
  ∀ μ s hs, dep μ → It i hs → GoodE X ⟨μ.φ, hs ++ μ.hid⟩ st s → W X (pyNext (.ref I)) (fun r s₁ => ∃ v, r = some v ∧ W X (letOwnedTupleGo target (.ref I) v) (fun _ s₁' =>
    W X (assign target X.env v) (fun _ s₂ => ∃ μ' hs', μ.le μ' ∧ It (i + 1) hs' ∧ GoodE X ⟨μ'.φ, hs' ++ μ'.hid⟩ st₁ s₂ ∧ Same s s₂) s₁') s₁) s
noncomputable def Done (X : Cx) (I : Addr) (It : Nat → List (Addr × Obj) → Prop) (dep : Mem → Prop) (n : Nat) (st : PSt) : Prop :=
  ∀ μ s hs, dep μ → It n hs → GoodE X ⟨μ.φ, hs ++ μ.hid⟩ st s → W X (pyNext (.ref I)) (fun r s' => r = none ∧ GoodE X μ st s' ∧ Same s s') s

theorem for_core {target : Expr} {body : List Stmt} {I : Addr} {It : Nat → List (Addr × Obj) → Prop} {dep : Mem → Prop} (dm : ∀ μ μ', μ.le μ' → dep μ → dep μ') (r : Nat) (S : Nat → PSt) {f : PFlow} {st' : PSt}
    (turn : ∀ i, i < r → ∃ m, Turn X target I It dep i (S i) m ∧ Exs X body m .next (S (i + 1)))
    (fin : (f = .next ∧ st' = S r ∧ Done X I It dep r (S r)) ∨ (∃ m v, Turn X target I It dep r (S r) m ∧ f = .ret v ∧ Exs X body m (.ret v) st'))
    {μ : Mem} {s : Shared} {hs : List (Addr × Obj)} (hd : dep μ) (hI : It 0 hs) (g : GoodE X ⟨μ.φ, hs ++ μ.hid⟩ (S 0) s) {E : Value → Shared → Prop} :
    codeAny (model X.prog X.w) X.A (.forLoop target (.ref I) body [] X.env) (fun r s' => match r with | .ok f' => Post X μ s (fun μ a => FR μ a f) st' f' s' | .error e => E e s') s := by
  obtain ⟨J, hJ⟩ : ∃ J : Nat → Shared → Prop, J = (fun k s' => ∃ i μ' hs', i ≤ r ∧ k = r - i ∧ μ.le μ' ∧ dep μ' ∧ It i hs' ∧ GoodE X ⟨μ'.φ, hs' ++ μ'.hid⟩ (S i) s' ∧ Same s s') := ⟨_, rfl⟩
  obtain ⟨R₀, hR₀⟩ : ∃ R₀ : Result → Shared → Prop, R₀ = (fun r s' => match r with | .ok f' => Post X μ s (fun μ a => FR μ a f) st' f' s' | .error e => E e s') := ⟨_, rfl⟩
  rw [← hR₀]
  refine codeAny_forLoop_any J ?_ r (by rw [hJ]; exact ⟨0, μ, hs, Nat.zero_le _, rfl, .refl _, hd, hI, g, .refl _⟩)
  intro k s' hq0
  rw [hJ] at hq0
  obtain ⟨i, μ', hs', hi, rfl, le, hd', hI', g', sm⟩ := hq0
  by_cases hlt : i < r
  · obtain ⟨m, ht, hb⟩ := turn i hlt
    refine wpAny_mono (ht μ' s' hs' hd' hI' g') (fun o s₁ hq => ?_) fun _ _ x => x.elim
    obtain ⟨v, rfl, hq⟩ := hq
    refine wpAny_mono hq (fun _ s₁' hq => ?_) fun _ _ x => x.elim
    refine wpAny_mono hq (fun _ s₂ hq => ?_) fun _ _ x => x.elim
    obtain ⟨μ₂, hs₂, le₂, hI₂, g₂, sm₂⟩ := hq
    refine wpAny_mono (hb _ s₂ g₂) (fun fl s₃ hq => ?_) fun _ _ x => x.elim
    obtain ⟨μ₃, le₃, hf, g₃, sm₃⟩ := hq
    cases hf
    obtain ⟨μ₄, le₄, g₄⟩ := g₂.split le₃ g₃
    exact ⟨r - (i + 1), by omega, by rw [hJ]; exact ⟨i + 1, μ₄, hs₂, hlt, rfl, le.trans (le₂.trans le₄), dm _ _ (le₂.trans le₄) hd', hI₂, g₄, sm.trans (sm₂.trans sm₃)⟩⟩
  · have hi : i = r := by omega
    subst hi
    rcases fin with ⟨rfl, rfl, hdn⟩ | ⟨m, v, ht, rfl, hb⟩
    · refine wpAny_mono (hdn μ' s' hs' hd' hI' g') (fun o s₁ hq => ?_) fun _ _ x => x.elim
      obtain ⟨rfl, g₁, sm₁⟩ := hq
      exact wpAny_execs_nil (by rw [hR₀]; exact ⟨μ', le, .next, g₁, sm.trans sm₁⟩)
    · refine wpAny_mono (ht μ' s' hs' hd' hI' g') (fun o s₁ hq => ?_) fun _ _ x => x.elim
      obtain ⟨v', rfl, hq⟩ := hq
      refine wpAny_mono hq (fun _ s₁' hq => ?_) fun _ _ x => x.elim
      refine wpAny_mono hq (fun _ s₂ hq => ?_) fun _ _ x => x.elim
      obtain ⟨μ₂, hs₂, le₂, hI₂, g₂, sm₂⟩ := hq
      refine wpAny_mono (hb _ s₂ g₂) (fun fl s₃ hq => ?_) fun _ _ x => x.elim
      obtain ⟨μ₃, le₃, hf, g₃, sm₃⟩ := hq
      cases hf with
      | ret w x hv =>
        show R₀ _ _
        rw [hR₀]
        exact ⟨μ₃, le.trans (le₂.trans ⟨le₃.φ, fun p hp => le₃.hid p (List.mem_append_right _ hp)⟩), .ret _ _ hv, g₃, sm.trans (sm₂.trans sm₃)⟩
end


section
variable {X : Cx} {st st₁ st₂ st₃ st' : PSt}

noncomputable def Step (X : Cx) (I : Addr) (It : Nat → List (Addr × Obj) → Prop) (dep : Mem → Prop) (i : Nat) (st : PSt) (v : PV) : Prop :=
  ∀ μ s hs, dep μ → It i hs → GoodE X ⟨μ.φ, hs ++ μ.hid⟩ st s → W X (pyNext (.ref I)) (fun r s₁ => ∃ x μ' hs', r = some x ∧ μ.le μ' ∧ It (i + 1) hs' ∧ VR ⟨μ'.φ, hs' ++ μ'.hid⟩ x v ∧ GoodE X ⟨μ'.φ, hs' ++ μ'.hid⟩ st s₁ ∧ Same s s₁) s

structure IsIt (X : Cx) (I : Addr) (It : Nat → List (Addr × Obj) → Prop) (dep : Mem → Prop) (items : List PV) (depS : PSt → Prop) : Prop where
  dm : ∀ μ μ', μ.le μ' → dep μ → dep μ'
  step : ∀ i v st, items[i]? = some v → depS st → Step X I It dep i st v
  done : ∀ st, depS st → Done X I It dep items.length st
  self : ∀ (i : Nat) (st : PSt) (μ : Mem) (s : Shared) (hs : List (Addr × Obj)), It i hs → GoodE X ⟨μ.φ, hs ++ μ.hid⟩ st s → ∀ Q : Value → Shared → Prop, Q (.ref I) s → W X (pyIter (.ref I)) Q s

noncomputable def Iters (X : Cx) (pv : PV) (st : PSt) (items : List PV) (depS : PSt → Prop) : Prop :=
  ∀ μ s x, GoodE X μ st s → VR μ x pv → W X (pyIter x) (fun r s' => ∃ I It dep hs μ', r = .ref I ∧ (∀ X' : Cx, X.Sub X' → X'.A.handled = none → IsIt X' I It dep items depS) ∧ μ.le μ' ∧ dep μ' ∧ It 0 hs ∧ NoTup hs ∧ GoodE X ⟨μ'.φ, hs ++ μ'.hid⟩ st s' ∧ Same s s') s

theorem storeLocalH {k : Nat} (ok : X.Ok k) {x : Str} {v : Value} {pv : PV} {μ : Mem} {s : Shared} {l' : List (Str × PV)} (g : GoodE X μ st s) (hv : VR μ v pv) (hk : X.env.kindOf x = some .local) (hp : Put st.loc x pv l') :
    W X (storeName X.env x v) (fun _ s' => GoodE X μ ⟨l', st.sto⟩ s' ∧ Same s s') s := by
  obtain ⟨m, objs, G⟩ := g
  refine wpAny_storeName_local hk (ok.hL ▸ G.fr.ns) (fun h' hn hs => ?_) (by rw [ok.kind]; rfl)
  rw [ok.hL] at hn hs
  exact ⟨⟨_, _, G.store hv hp hn hs⟩, .mk _ _ _⟩
theorem Step.turn {k : Nat} (ok : X.Ok k) {I : Addr} {It : Nat → List (Addr × Obj) → Prop} {dep : Mem → Prop} {i : Nat} {v : PV} {x : Str} {p : Pos} {l' : List (Str × PV)} (h : Step X I It dep i st v) (hk : X.env.kindOf x = some .local) (hp : Put st.loc x v l') :
    Turn X (.Name x p) I It dep i st ⟨l', st.sto⟩ := fun μ s hs hd hI g => (h μ s hs hd hI g).mono fun r s₁ ⟨y, μ', hs', e, le, hI', hv, g', sm⟩ => by
  refine ⟨y, e, ?_⟩
  refine wpAny_of_eq (a := ()) rfl ?_
  refine wpAny_assign_Name ((storeLocalH ok g' hv hk hp).mono fun u s₂ ⟨g₂, sm₂⟩ => ⟨μ', hs', le, hI', g₂, sm.trans sm₂⟩)

-- lists
noncomputable def ListIt (I ax : Addr) (i : Nat) (hs : List (Addr × Obj)) : Prop := ∃ ob : Obj, hs = [(I, ob)] ∧ ob.cls = .type "list_iterator" ∧ ob.data = .fields #[.ref ax, .int i 0]
theorem ListIt.noTup {I ax : Addr} {i : Nat} {hs : List (Addr × Obj)} (h : ListIt I ax i hs) : NoTup hs := by
  obtain ⟨ob, rfl, hc, hd⟩ := h
  intro p hp
  rw [List.mem_singleton] at hp; subst hp
  exact ⟨fun vs e => (by rw [show ob = tupObj vs from e] at hd; cases hd), fun v e => (by rw [show ob.data = .cell v from e] at hd; cases hd)⟩
theorem GoodE.at {μ : Mem} {s : Shared} (g : GoodE X μ st s) {p : Addr × Obj} (h : p ∈ μ.hid) : s.heap.get? p.1 = some p.2 := let ⟨_, _, G⟩ := g; (G.news p (List.mem_append_right _ h)).1
theorem isIt_list (hh : X.A.handled = none) {I ax : Addr} {n : Nat} {xs : List PV} : IsIt X I (ListIt I ax) (fun μ => μ.φ[n]? = some ax) xs (fun st => st.sto[n]? = some (.list xs)) where
  dm := fun μ μ' le h => le.φ n ax h
  step := fun i v st hv hds μ s hs hd hI g => by
    have nt := hI.noTup
    obtain ⟨ob, rfl, hc, hdat⟩ := hI
    have ho : s.heap.get? I = some ob := g.at (p := (I, ob)) (by simp)
    obtain ⟨vs, hl, hvs⟩ := g.list (n := n) (a := ax) hd hds
    obtain ⟨w, hw, hr⟩ := hvs.get i v hv
    refine wpAny_pyNext_list_item ⟨ob, ho, hc, hdat⟩ hl (x := w) (by simpa using hw) fun h' hit' hsb => ?_
    obtain ⟨ob', ho', hc', hd'⟩ := hit'
    refine ⟨w, μ, [(I, ob')], rfl, .refl _, ⟨ob', rfl, hc', hd'⟩, VR.swap (μ := ⟨μ.φ, [(I, ob)] ++ μ.hid⟩) (μ' := ⟨μ.φ, [(I, ob')] ++ μ.hid⟩) rfl (Mem.le.swap nt) hr, ?_, .mk _ _ _⟩
    refine g.swap (hs := [(I, ob)]) (hs' := [(I, ob')]) nt _ (fun b o hb e => (hsb.2 b (by simpa using hb)).trans e) (by simp) (fun p hp => ?_)
    rw [List.mem_singleton] at hp; subst hp; exact ho'
  done := fun st hds μ s hs hd hI g => by
    have nt := hI.noTup
    obtain ⟨ob, rfl, hc, hdat⟩ := hI
    have ho : s.heap.get? I = some ob := g.at (p := (I, ob)) (by simp)
    obtain ⟨vs, hl, hvs⟩ := g.list (n := n) (a := ax) hd hds
    refine wpAny_pyNext_list_end hh ⟨ob, ho, hc, hdat⟩ hl (by have := hvs.length; simp [← this]) fun h' he => ?_
    exact ⟨rfl, g.drop nt _ fun b o hb e => he b o (by simpa using hb) e, .mk _ _ _⟩
  self := fun i st μ s hs hI g Q hQ => by
    obtain ⟨ob, rfl, hc, hdat⟩ := hI
    have ho : s.heap.get? I = some ob := g.at (p := (I, ob)) (by simp)
    exact wpAny_pyIter_listiter ⟨ob, ho, hc, hdat⟩ hQ
theorem Iters.list (hh : X.A.handled = none) {n : Nat} {xs : List PV} (hp : st.sto[n]? = some (.list xs)) : Iters X (.loc n) st xs (fun st => st.sto[n]? = some (.list xs)) := fun μ s x g hx => by
  cases hx with
  | loc n a hφ =>
    obtain ⟨vs, hl, hvs⟩ := g.list hφ hp
    refine wpAny_pyIter_list hl ?_
    obtain ⟨m, objs, G⟩ := g
    exact ⟨_, ListIt s.heap.objs.size a, fun μ => μ.φ[n]? = some a, _, μ, rfl, (fun X' sub hh => isIt_list hh), .refl _, hφ, ⟨_, rfl, rfl, rfl⟩, ListIt.noTup (I := s.heap.objs.size) (ax := a) (i := 0) ⟨_, rfl, rfl, rfl⟩, ⟨m, objs, G.hide _ rfl _⟩, .mk _ _ s.toks⟩

end


section
variable {X : Cx} {st st₁ st₂ st₃ st' : PSt}

/-- a heap that keeps all and has one more object that the call keeps -/
theorem Good.got {μ : Mem} {s : Shared} {m : Str → Option Value} {objs : List Obj} (G : Good X μ st s m objs) {h' : Heap} {a : Addr} {o : Obj} {p : PO} (k : ∀ b o, s.heap.get? b = some o → h'.get? b = some o) (ho : h'.get? a = some o)
    (hnew : s.heap.objs.size ≤ a) (hr : OR X.prog X.w μ o p) (tk : Nat) : Good X ⟨μ.φ ++ [a], μ.hid⟩ ⟨st.loc, st.sto ++ [p]⟩ { s with heap := h', toks := tk } m (objs ++ [o]) := by
  have le := Mem.le.snoc μ a
  have nn : a ∉ μ.φ ++ μ.hid.map (·.1) := fun h => absurd (G.lt _ h) (Nat.not_lt.mpr hnew)
  refine ⟨G.fr.keptAll k, fun x v e => let ⟨a, h1, h2⟩ := G.loc x v e; ⟨a, h1, h2.mono le⟩, fun q hq => ?_, (G.sto.mono le).append (.cons _ _ _ _ (hr.mono le) .nil), by simp [G.len], ?_, X.pin.mono _ _ le G.pin⟩
  · rw [List.zip_append G.size.symm] at hq
    simp only [List.zip_cons_cons, List.zip_nil_right, List.append_assoc, List.mem_append, List.mem_cons, List.not_mem_nil, or_false] at hq
    have old : ∀ q, q ∈ μ.φ.zip objs ++ μ.hid → h'.get? q.1 = some q.2 ∧ q.1 ≠ X.L ∧ X.h₀.get? q.1 = none := fun q hq => ⟨k _ _ (G.news q hq).1, (G.news q hq).2⟩
    rcases hq with h | h | h
    · exact old q (List.mem_append_left _ h)
    · subst h
      refine ⟨ho, ?_, ?_⟩
      · exact Nat.ne_of_gt (Nat.lt_of_lt_of_le G.fr.ns.lt hnew)
      · cases q : X.h₀.get? a with
        | none => rfl
        | some o => exact absurd (Heap.lt_size (G.fr.keep _ _ q)) (Nat.not_lt.mpr hnew)
    · exact old q (List.mem_append_right _ h)
  · have nd := G.nodup
    rw [List.nodup_append] at nd ⊢
    simp only [List.mem_append, not_or] at nn
    refine ⟨?_, nd.2.1, ?_⟩
    · rw [List.nodup_append]
      refine ⟨nd.1, by simp, fun a' ha b hb => ?_⟩
      simp at hb; subst hb; rintro rfl; exact nn.1 ha
    · intro a' ha b hb
      rcases List.mem_append.mp ha with h | h
      · exact nd.2.2 a' h b hb
      · simp at h; subst h; rintro rfl; exact nn.2 hb
theorem got_list {μ : Mem} {s : Shared} (g : GoodE X μ st s) {h' : Heap} {a : Addr} {vs : List Value} {n : Nat} {xs : List PV} (k : ∀ b o, s.heap.get? b = some o → h'.get? b = some o) (ho : h'.get? a = some (listOf vs.toArray n))
    (hnew : s.heap.objs.size ≤ a) (h : VRs μ vs xs) (tk : Nat) : Post X μ s (fun μ r => VR μ r (.loc st.sto.length)) ⟨st.loc, st.sto ++ [.list xs]⟩ (.ref a) { s with heap := h', toks := tk } := by
  obtain ⟨m, objs, G⟩ := g
  exact ⟨_, Mem.le.snoc μ _, .loc _ _ (by rw [← G.len]; simp), ⟨m, _, G.got k ho hnew (.list vs n xs h) tk⟩, .mk _ _ _⟩

-- hidden objects: several new ones
theorem Good.gotHid {μ : Mem} {s : Shared} {m : Str → Option Value} {objs : List Obj} (G : Good X μ st s m objs) {h' : Heap} {hs : List (Addr × Obj)} (k : ∀ b o, s.heap.get? b = some o → h'.get? b = some o) (ho : ∀ p ∈ hs, h'.get? p.1 = some p.2)
    (hnew : ∀ p ∈ hs, s.heap.objs.size ≤ p.1) (nd : (hs.map (·.1)).Nodup) (tk : Nat) : Good X ⟨μ.φ, hs ++ μ.hid⟩ st { s with heap := h', toks := tk } m objs := by
  have le : μ.le ⟨μ.φ, hs ++ μ.hid⟩ := ⟨fun _ _ h => h, fun _ h => List.mem_append_right _ h⟩
  refine ⟨G.fr.keptAll k, fun x v e => let ⟨a, h1, h2⟩ := G.loc x v e; ⟨a, h1, h2.mono le⟩, fun q hq => ?_, G.sto.mono le, G.len, ?_, X.pin.mono _ _ le G.pin⟩
  · have old : ∀ q, q ∈ μ.φ.zip objs ++ μ.hid → h'.get? q.1 = some q.2 ∧ q.1 ≠ X.L ∧ X.h₀.get? q.1 = none := fun q hq => ⟨k _ _ (G.news q hq).1, (G.news q hq).2⟩
    simp only [List.mem_append] at hq
    rcases hq with h | h | h
    · exact old q (List.mem_append_left _ h)
    · have hn := hnew q h
      refine ⟨ho q h, Nat.ne_of_gt (Nat.lt_of_lt_of_le G.fr.ns.lt hn), ?_⟩
      cases e : X.h₀.get? q.1 with
      | none => rfl
      | some o => exact absurd (Heap.lt_size (G.fr.keep _ _ e)) (Nat.not_lt.mpr hn)
    · exact old q (List.mem_append_right _ h)
  · have nd0 := List.nodup_append.mp G.nodup
    simp only [List.map_append]
    have far : ∀ a ∈ hs.map (·.1), ∀ b ∈ μ.φ ++ μ.hid.map (·.1), a ≠ b := fun a ha b hb => by
      obtain ⟨p, hp, rfl⟩ := List.mem_map.mp ha
      have := G.lt b hb
      exact Nat.ne_of_gt (Nat.lt_of_lt_of_le this (hnew p hp))
    rw [List.nodup_append]
    refine ⟨nd0.1, ?_, fun a ha b hb => ?_⟩
    · rw [List.nodup_append]
      exact ⟨nd, nd0.2.1, fun a ha b hb => far a ha b (List.mem_append_right _ hb)⟩
    · rcases List.mem_append.mp hb with h | h
      · exact (far b h a (List.mem_append_left _ ha)).symm
      · exact nd0.2.2 a ha b h

-- calls with any end
theorem callWQ {α : Type} {f : Value} {e : Expr} {es : List Expr} {p : Pos} {vs : List PV} {μ : Mem} {s : Shared} {Q : Value → Shared → Prop} (first : List Value) (h : Evs X (e :: es) st vs st₁) (g : GoodE X μ st s) (hx : Plain (e :: es))
    (hc : ∀ μ₁ s₁ xs, μ.le μ₁ → GoodE X μ₁ st₁ s₁ → VRs μ₁ xs vs → Same s s₁ → W X (call f (first ++ xs) []) Q s₁)
    (hk : (∃ id, f = .builtin id) ∨ (∃ T, f = .type T)) : W X (callWith p f first (backTo p (starEach (e :: es) X.env)) []) Q s := by
  rcases hk with ⟨id, rfl⟩ | ⟨T, rfl⟩
  · exact callWith_builtin (plain_any _ hx _ _) (evalArgsP h g hx fun xs μ₁ s₁ le r g₁ sm => hc μ₁ s₁ _ le g₁ r sm)
  · exact PyProof.Rows.callWith_type (plain_any _ hx _ _) (evalArgsP h g hx fun xs μ₁ s₁ le r g₁ sm => hc μ₁ s₁ _ le g₁ r sm)
theorem evalCallQ {x : Str} {np p : Pos} {f : Value} {e : Expr} {es : List Expr} {vs : List PV} {μ : Mem} {s : Shared} {Q : Value → Shared → Prop} (hf : Ev X (.Name x np) st (.glob f) st) (hk : (∃ id, f = .builtin id) ∨ (∃ T, f = .type T)) (h : Evs X (e :: es) st vs st₁) (hx : Plain (e :: es)) (g : GoodE X μ st s)
    (hc : ∀ μ₁ s₁ xs, μ.le μ₁ → GoodE X μ₁ st₁ s₁ → VRs μ₁ xs vs → Same s s₁ → W X (call f xs []) Q s₁) : W X (eval (.Call (.Name x np) (e :: es) [] p) X.env) Q s :=
  PyProof.Rows.Call_Name rfl ((hf μ s g).post fun fv μ₁ s₁ le₁ hfv g₁ e₁ => by
    cases hfv
    exact callWQ (α := Unit) [] h g₁ hx (fun μ₂ s₂ xs le₂ g₂ hxs sm => hc μ₂ s₂ xs (le₁.trans le₂) g₂ hxs (e₁.trans sm)) hk)
/-- one argument, evaluated with any end -/
theorem evalCall1 {x : Str} {np p : Pos} {f : Value} {e : Expr} {μ : Mem} {s : Shared} {Q : Value → Shared → Prop} (hf : Ev X (.Name x np) st (.glob f) st) (hk : (∃ id, f = .builtin id) ∨ (∃ T, f = .type T)) (hx : Plain [e]) (g : GoodE X μ st s)
    (hc : ∀ μ₁ s₁, μ.le μ₁ → GoodE X μ₁ st s₁ → Same s s₁ → W X (eval e X.env) (fun v s₂ => W X (call f [v] []) Q s₂) s₁) : W X (eval (.Call (.Name x np) [e] [] p) X.env) Q s :=
  PyProof.Rows.Call_Name rfl ((hf μ s g).post fun fv μ₁ s₁ le₁ hfv g₁ e₁ => by
    cases hfv
    have h := hc μ₁ s₁ le₁ g₁ e₁
    rw [hx]
    have ha : W X (evalArgs f true (backTo p [(false, eval e X.env)]) []) (fun a s₂ => W X (call f ([] ++ a.pos) a.kw) Q s₂) s₁ := by
      show W X (evalArgs f true [(false, eval e X.env)] []) _ s₁
      exact evalArgs_plain (spliced_cons (h.mono fun v s₂ hv => spliced_nil hv))
    rcases hk with ⟨id, rfl⟩ | ⟨T, rfl⟩
    · exact callWith_builtin rfl ha
    · exact PyProof.Rows.callWith_type rfl ha)

-- what a loop goes over
noncomputable def ItersAt (X : Cx) (μ : Mem) (st : PSt) (items : List PV) (depS : PSt → Prop) (s : Shared) (r : Value) (s' : Shared) : Prop :=
  ∃ I It dep hs μ', r = .ref I ∧ (∀ X' : Cx, X.Sub X' → X'.A.handled = none → IsIt X' I It dep items depS) ∧ μ.le μ' ∧ dep μ' ∧ It 0 hs ∧ NoTup hs ∧ GoodE X ⟨μ'.φ, hs ++ μ'.hid⟩ st s' ∧ Same s s'
noncomputable def Src (X : Cx) (iter : Expr) (st : PSt) (items : List PV) (depS : PSt → Prop) (st₁ : PSt) : Prop :=
  ∀ μ s, GoodE X μ st s → W X (eval iter X.env) (fun x s₁ => W X (pyIter x) (ItersAt X μ st₁ items depS s) s₁) s
theorem Src.of {iter : Expr} {pv : PV} {items : List PV} {depS : PSt → Prop} (he : Ev X iter st pv st₁) (hit : Iters X pv st₁ items depS) : Src X iter st items depS st₁ := fun μ s g =>
  (he μ s g).post fun y μ₁ s₁ le₁ hy g₁ e₁ => (hit μ₁ s₁ y g₁ hy).mono fun z s₂ ⟨I, It, dep, hs, μ₂, e, hI, le₂, hd, h00, nt, g₂, e₂⟩ => ⟨I, It, dep, hs, μ₂, e, hI, le₁.trans le₂, hd, h00, nt, g₂, e₁.trans e₂⟩

theorem Ex.forS {k : Nat} (ok : X.Ok k) {x : Str} {px p : Pos} {iter : Expr} {body : List Stmt} {items : List PV} {depS : PSt → Prop} {f : PFlow} (hk : X.env.kindOf x = some .local)
    (he : Src X iter st items depS st₁) (r : Nat) (S : Nat → PSt) (h0 : S 0 = st₁)
    (turn : ∀ i, i < r → ∃ v l', items[i]? = some v ∧ depS (S i) ∧ Put (S i).loc x v l' ∧ Exs X body ⟨l', (S i).sto⟩ .next (S (i + 1)))
    (fin : (f = .next ∧ st' = S r ∧ r = items.length ∧ depS (S r)) ∨ (∃ v l' w, items[r]? = some v ∧ depS (S r) ∧ Put (S r).loc x v l' ∧ f = .ret w ∧ Exs X body ⟨l', (S r).sto⟩ (.ret w) st'))
    (hf : ∀ x, foldedSetIterable iter X.env x = pure x) : Ex X (.For (.Name x px) iter body [] p) st f st' := fun μ s g => by
  refine wpAny_For ?_ hf
  refine (he μ s g).mono fun y s₁ h1 => h1.mono fun z s₂ ⟨I, It, dep, hs, μ₂, e, hI', le₂, hd, h00, nt, g₂, e₂⟩ => ?_
  subst e
  have hI := hI' X ⟨rfl, rfl, rfl⟩ ok.hh
  refine codeAny_mono (for_core (E := fun _ _ => False) (target := .Name x px) (body := body) hI.dm r S (f := f) (st' := st') (fun i hi => ?_) ?_ hd h00 (h0 ▸ g₂)) fun rs s' h => ?_
  · obtain ⟨v, l', hv, hds, hp, hb⟩ := turn i hi
    exact ⟨_, (hI.step i v _ hv hds).turn ok hk hp, hb⟩
  · rcases fin with ⟨rfl, rfl, rfl, hds⟩ | ⟨v, l', w, hv, hds, hp, rfl, hb⟩
    · exact .inl ⟨rfl, rfl, hI.done _ hds⟩
    · exact .inr ⟨_, w, (hI.step _ v _ hv hds).turn ok hk hp, rfl, hb⟩
  · cases rs with
    | ok fl => exact h.trans le₂ e₂
    | error e => exact h.elim

-- strings and ranges
noncomputable def WalkIt (I : Addr) (St : Nat → Heap → Prop) (i : Nat) (hs : List (Addr × Obj)) : Prop := ∃ ob : Obj, hs = [(I, ob)] ∧ ((∀ vs, ob ≠ tupObj vs) ∧ ∀ v, ob.data ≠ .cell v) ∧ ∀ h : Heap, h.get? I = some ob → St i h
theorem isIt_walks {I : Addr} {n : Nat} {P : Nat → Value → Prop} {St : Nat → Heap → Prop} {items : List PV} (Wk : Walks X.prog X.w X.A I [I] [I] n P St) (hob : ∀ i h, St i h → ∃ ob, h.get? I = some ob ∧ (∀ vs, ob ≠ tupObj vs) ∧ ∀ v, ob.data ≠ .cell v)
    (hn : items.length = n) (hP : ∀ i v x, items[i]? = some x → P i v → ∀ μ, VR μ v x) : IsIt X I (WalkIt I St) (fun _ => True) items (fun _ => True) where
  dm := fun _ _ _ h => h
  step := fun i v st hv hds μ s hs hd hI g => by
    obtain ⟨ob, rfl, nt, hst⟩ := hI
    have nt' : NoTup [(I, ob)] := fun p hp => by rw [List.mem_singleton] at hp; subst hp; exact nt
    have ho : s.heap.get? I = some ob := g.at (p := (I, ob)) (by simp)
    have hlt : i < n := hn ▸ (List.getElem?_eq_some_iff.mp hv).1
    refine Wk.item i s _ _ hlt (hst _ ho) fun w h' tk hPw hst' hk => ?_
    obtain ⟨ob', ho', nt2⟩ := hob _ _ hst'
    refine ⟨w, μ, [(I, ob')], rfl, .refl _, ⟨ob', rfl, nt2, fun h e => Wk.frame _ h' h hst' fun b hb o eo => ?_⟩, hP i w v hv hPw _, ?_, .mk _ _ _⟩
    · rw [List.mem_singleton] at hb; subst hb; rw [ho'] at eo; exact eo ▸ e
    · refine g.swap (hs := [(I, ob)]) (hs' := [(I, ob')]) nt' _ (fun b o hb e => hk b o (by simpa using hb) e) (by simp) (fun p hp => ?_)
      rw [List.mem_singleton] at hp; subst hp; exact ho'
  done := fun st hds μ s hs hd hI g => by
    obtain ⟨ob, rfl, nt, hst⟩ := hI
    have nt' : NoTup [(I, ob)] := fun p hp => by rw [List.mem_singleton] at hp; subst hp; exact nt
    have ho : s.heap.get? I = some ob := g.at (p := (I, ob)) (by simp)
    refine Wk.done s _ _ (hn ▸ hst _ ho) fun h' tk hk => ⟨rfl, g.drop nt' _ fun b o hb e => hk b o (by simpa using hb) e, .mk _ _ _⟩
  self := fun i st μ s hs hI g Q hQ => by
    obtain ⟨ob, rfl, nt, hst⟩ := hI
    exact Wk.self i s _ _ (hst _ (g.at (p := (I, ob)) (by simp))) hQ
theorem strIter_ob {h : Heap} {I : Addr} {T : String} {x : Str} {t : Tok} {i : Nat} (hs : h.IsStrIter I T x t i) : ∃ ob, h.get? I = some ob ∧ (∀ vs, ob ≠ tupObj vs) ∧ ∀ v, ob.data ≠ .cell v := by
  obtain ⟨o, ho, hc, hd⟩ := hs
  exact ⟨o, ho, fun vs e => (by rw [e] at hd; cases hd), fun v e => (by rw [e] at hd; cases hd)⟩
theorem sign_items {l : List Nat} {i : Nat} {v : Value} {x : PV} (hx : (l.map fun c => PV.str [c])[i]? = some x) (h : SignAt (T l) i v) (μ : Mem) : VR μ v x := by
  obtain ⟨c, u, hc, rfl⟩ := h
  have : l[i]? = some c := by simpa using hc
  rw [List.getElem?_map, this] at hx
  cases hx
  exact .str [c] u
theorem Iters.str (hh : X.A.handled = none) {l : List Nat} : Iters X (.str l) st (l.map fun c => .str [c]) (fun _ => True) := fun μ s x g hx => by
  cases hx with
  | str l t =>
    obtain ⟨m, objs, G⟩ := g
    have hsz : (T l).cps.size = l.length := by simp
    cases ha : (T l).cps.all (· < 128)
    · refine wpAny_pyIter_wide ha ?_
      refine ⟨_, _, fun _ => True, [(_, _)], μ, rfl, (fun X' sub hh => isIt_walks (Walks.strWide hh s.heap.objs.size (T l) t) (fun i h hst => strIter_ob hst) (by simp) (fun i v x e h μ => sign_items e h μ)), .refl _, trivial, ?_, (fun p hp => by rw [List.mem_singleton] at hp; subst hp; exact ⟨fun vs e => (by have := congrArg Obj.data e; cases this), fun v e => (by cases e)⟩), ⟨m, objs, G.hide _ rfl _⟩, .mk _ _ s.toks⟩
      exact ⟨_, rfl, ⟨fun vs e => (by have := congrArg Obj.data e; cases this), fun v e => (by cases e)⟩, fun h e => ⟨_, e, rfl, rfl⟩⟩
    · refine wpAny_pyIter_ascii ha ?_
      refine ⟨_, _, fun _ => True, [(_, _)], μ, rfl, (fun X' sub hh => isIt_walks (Walks.strAscii hh s.heap.objs.size (T l) t) (fun i h hst => strIter_ob hst) (by simp) (fun i v x e h μ => sign_items e h μ)), .refl _, trivial, ?_, (fun p hp => by rw [List.mem_singleton] at hp; subst hp; exact ⟨fun vs e => (by have := congrArg Obj.data e; cases this), fun v e => (by cases e)⟩), ⟨m, objs, G.hide _ rfl _⟩, .mk _ _ s.toks⟩
      exact ⟨_, rfl, ⟨fun vs e => (by have := congrArg Obj.data e; cases this), fun v e => (by cases e)⟩, fun h e => ⟨_, e, rfl, rfl⟩⟩

noncomputable def rngL (a c : Int) (n : Nat) : List PV := (List.range n).map fun i : Nat => .int (a + (i : Int) * c)
theorem rngL_get {a c : Int} {n i : Nat} (h : i < n) : (rngL a c n)[i]? = some (.int (a + i * c)) := by simp [rngL, h]
theorem rngL_len {a c : Int} {n : Nat} : (rngL a c n).length = n := by simp [rngL]
theorem iter_range (hh : X.A.handled = none) {μ : Mem} {s s₀ : Shared} (g : GoodE X μ st s) {r : Addr} {a b c : Int} {t u v : Tok} {n : Nat} (hr : IsRange s.heap r a b c t u v) (hsmall : Builtin.Range.small a b c = true) (hn : Builtin.Range.rangeSize a b c = (n : Int))
    {μ₀ : Mem} (le : μ₀.le μ) (sm : Same s₀ s) : W X (pyIter (.ref r)) (ItersAt X μ₀ st (rngL a c n) (fun _ => True) s₀) s := by
  obtain ⟨m, objs, G⟩ := g
  refine wpAny_pyIter_range hr hsmall ?_
  rw [hn]
  refine ⟨s.heap.objs.size, _, fun _ => True, [(_, _)], μ, rfl, (fun X' sub hh => isIt_walks (Walks.range hh s.heap.objs.size a c n) (fun i h hst => ⟨_, hst, fun vs e => (by have := congrArg Obj.data e; cases this), fun v e => (by cases e)⟩) rngL_len (fun i v x e h μ => ?_)), le, trivial, ?_, (fun p hp => by rw [List.mem_singleton] at hp; subst hp; exact ⟨fun vs e => (by have := congrArg Obj.data e; cases this), fun v e => (by cases e)⟩), ⟨m, objs, G.hide _ rfl _⟩, sm.trans (.mk _ _ s.toks)⟩
  · obtain ⟨t, rfl⟩ := h
    have hi : i < n := by have := (List.getElem?_eq_some_iff.mp e).1; rwa [rngL_len] at this
    rw [rngL_get hi] at e; cases e; exact .int _ _
  · refine ⟨_, rfl, ⟨fun vs e => (by have := congrArg Obj.data e; cases this), fun v e => (by cases e)⟩, fun h e => ?_⟩
    show h.get? _ = _
    rw [e]; simp [rawInt]
theorem Src.range1 {k : Nat} (ok : X.Ok k) {np p : Pos} {e : Expr} {a : Int} {n : Nat} (hf : Ev X (.Name "range" np) st (.glob (.type "range")) st) (h : Evs X [e] st [.int a] st₁) (hx : Plain [e]) (hn : a.toNat = n) (hsm : -(2 ^ 62) ≤ a) (hsm' : a < 2 ^ 62) :
    Src X (.Call (.Name "range" np) [e] [] p) st (rngL 0 1 n) (fun _ => True) st₁ := fun μ s g =>
  evalCallQ hf (.inr ⟨_, rfl⟩) h hx g fun μ₁ s₁ xs le g₁ hxs sm => by
    cases hxs with
    | cons v _ _ _ hv hxs =>
      cases hxs; cases hv
      refine call_range_1 ?_
      refine iter_range ok.hh (s := { s₁ with heap := _, toks := _ }) (a := 0) (b := a) (c := 1) ?_ (Heap.get?_push_size _ rfl) (small_one (by decide) (by decide) hsm hsm') ?_ le (sm.trans (.mk s₁ _ _))
      · exact ((g₁.push _).toks rfl)
      · rw [rangeSize_nat]; rw [← hn]; simp
theorem Src.range2 {k : Nat} (ok : X.Ok k) {np p : Pos} {e e₂ : Expr} {a b : Int} {n : Nat} (hf : Ev X (.Name "range" np) st (.glob (.type "range")) st) (h : Evs X [e, e₂] st [.int a, .int b] st₁) (hx : Plain [e, e₂]) (hn : (b - a).toNat = n)
    (ha : -(2 ^ 62) ≤ a) (ha' : a < 2 ^ 62) (hb : -(2 ^ 62) ≤ b) (hb' : b < 2 ^ 62) :
    Src X (.Call (.Name "range" np) [e, e₂] [] p) st (rngL a 1 n) (fun _ => True) st₁ := fun μ s g =>
  evalCallQ hf (.inr ⟨_, rfl⟩) h hx g fun μ₁ s₁ xs le g₁ hxs sm => by
    cases hxs with
    | cons v _ _ _ hv hxs =>
      cases hxs with
      | cons v₂ _ _ _ hv₂ hxs =>
        cases hxs; cases hv; cases hv₂
        refine call_range_2 ?_
        refine iter_range ok.hh (s := { s₁ with heap := _, toks := _ }) (a := a) (b := b) (c := 1) ?_ (Heap.get?_push_size _ rfl) (small_one ha ha' hb hb') ?_ le (sm.trans (.mk s₁ _ _))
        · exact ((g₁.push _).toks rfl)
        · rw [rangeSize_nat]; rw [← hn]
end


section
variable {X : Cx} {st st₁ st₂ st₃ st' : PSt}

-- ranges as values
noncomputable def RngV (X : Cx) (e : Expr) (st : PSt) (a b c : Int) (st₁ : PSt) : Prop :=
  ∀ μ s, GoodE X μ st s → W X (eval e X.env) (fun x s₁ => ∃ r t u v μ', x = .ref r ∧ IsRange s₁.heap r a b c t u v ∧ μ.le μ' ∧ GoodE X μ' st₁ s₁ ∧ Same s s₁) s
theorem RngV.one {np p : Pos} {e : Expr} {a : Int} (hf : Ev X (.Name "range" np) st (.glob (.type "range")) st) (h : Evs X [e] st [.int a] st₁) (hx : Plain [e]) : RngV X (.Call (.Name "range" np) [e] [] p) st 0 a 1 st₁ := fun μ s g =>
  evalCallQ hf (.inr ⟨_, rfl⟩) h hx g fun μ₁ s₁ xs le g₁ hxs sm => by
    cases hxs with
    | cons v _ _ _ hv hxs =>
      cases hxs; cases hv
      exact call_range_1 ⟨_, _, _, _, μ₁, rfl, Heap.get?_push_size _ rfl, le, (g₁.push _).toks rfl, sm.trans (.mk s₁ _ _)⟩
theorem RngV.two {np p : Pos} {e e₂ : Expr} {a b : Int} (hf : Ev X (.Name "range" np) st (.glob (.type "range")) st) (h : Evs X [e, e₂] st [.int a, .int b] st₁) (hx : Plain [e, e₂]) : RngV X (.Call (.Name "range" np) [e, e₂] [] p) st a b 1 st₁ := fun μ s g =>
  evalCallQ hf (.inr ⟨_, rfl⟩) h hx g fun μ₁ s₁ xs le g₁ hxs sm => by
    cases hxs with
    | cons v _ _ _ hv hxs =>
      cases hxs with
      | cons v₂ _ _ _ hv₂ hxs =>
        cases hxs; cases hv; cases hv₂
        exact call_range_2 ⟨_, _, _, _, μ₁, rfl, Heap.get?_push_size _ rfl, le, (g₁.push _).toks rfl, sm.trans (.mk s₁ _ _)⟩
theorem RngV.three {np p : Pos} {e e₂ e₃ : Expr} {a b c : Int} (hf : Ev X (.Name "range" np) st (.glob (.type "range")) st) (h : Evs X [e, e₂, e₃] st [.int a, .int b, .int c] st₁) (hx : Plain [e, e₂, e₃]) (hc : c ≠ 0) (hp : Builtin.divisionGoesByPylong (b - a) c = false) :
    RngV X (.Call (.Name "range" np) [e, e₂, e₃] [] p) st a b c st₁ := fun μ s g =>
  evalCallQ hf (.inr ⟨_, rfl⟩) h hx g fun μ₁ s₁ xs le g₁ hxs sm => by
    cases hxs with
    | cons v _ _ _ hv hxs =>
      cases hxs with
      | cons v₂ _ _ _ hv₂ hxs =>
        cases hxs with
        | cons v₃ _ _ _ hv₃ hxs =>
          cases hxs; cases hv; cases hv₂; cases hv₃
          exact call_range_3 hc ⟨_, _, _, _, μ₁, rfl, Heap.get?_push_size _ rfl, le, (g₁.push _).toks rfl, sm.trans (.mk s₁ _ _)⟩ (.inl hp)
theorem Src.rng {k : Nat} (ok : X.Ok k) {e : Expr} {a b c : Int} {n : Nat} (h : RngV X e st a b c st₁) (hsmall : Builtin.Range.small a b c = true) (hn : Builtin.Range.rangeSize a b c = (n : Int)) : Src X e st (rngL a c n) (fun _ => True) st₁ := fun μ s g =>
  (h μ s g).mono fun x s₁ ⟨r, t, u, v, μ', e, hr, le, g₁, sm⟩ => by subst e; exact iter_range ok.hh g₁ hr hsmall hn le sm
theorem Ev.list_rng {k : Nat} (ok : X.Ok k) {np p : Pos} {e : Expr} {a b c : Int} {n : Nat} (hf : Ev X (.Name "list" np) st (.glob (.type "list")) st) (h : RngV X e st a b c st₁) (hx : Plain [e]) (hsmall : Builtin.Range.small a b c = true) (hn : Builtin.Range.rangeSize a b c = (n : Int)) (hlen : n ≤ 2 ^ 24) :
    Ev X (.Call (.Name "list" np) [e] [] p) st (.loc st₁.sto.length) ⟨st₁.loc, st₁.sto ++ [.list (rngL a c n)]⟩ := fun μ s g =>
  evalCall1 hf (.inr ⟨_, rfl⟩) hx g fun μ₁ s₁ le g₁ sm => (h μ₁ s₁ g₁).mono fun x s₂ ⟨r, t, u, v, μ₂, e, hr, le₂, g₂, sm₂⟩ => by
    subst e
    refine call_list_range ok.hh hr hsmall hn hlen fun h' tk acc' c' hk hS' hacc => ?_
    refine Post.trans (le.trans le₂) (sm.trans sm₂) ?_
    have hv : VRs μ₂ acc'.toList (rngL a c n) := by
      have key : ∀ (k : Nat) (vs : List Value) (j : Nat), vs.length = k → (∀ i v, vs[i]? = some v → ∃ t, v = Value.int (a + ((j + i : Nat) : Int) * c) t) → VRs μ₂ vs ((List.range' j k).map fun i : Nat => PV.int (a + (i : Int) * c)) := by
        intro k
        induction k with
        | zero => intro vs j hk h; rw [List.length_eq_zero_iff.mp hk]; exact .nil
        | succ k ih =>
          intro vs j hk h
          cases vs with
          | nil => cases hk
          | cons v vs =>
            obtain ⟨t, ht⟩ := h 0 v rfl
            rw [List.range'_succ, List.map_cons, ht]
            refine .cons _ _ _ _ (.int _ _) (ih vs (j + 1) (by simpa using hk) fun i v hv => ?_)
            obtain ⟨t, ht⟩ := h (i + 1) v (by simpa using hv)
            exact ⟨t, by rw [ht]; rw [show j + (i + 1) = j + 1 + i by grind]⟩
      have := key n acc'.toList 0 (by simpa using hacc.1) fun i v hv => by
        obtain ⟨t, ht⟩ := hacc.2 i v (by simpa using hv)
        exact ⟨t, by rw [ht]; simp⟩
      rw [rngL, List.range_eq_range']; exact this
    exact got_list g₂ (vs := acc'.toList) (n := c') hk (by simpa using hS') (Nat.le_refl _) hv tk

-- enumerate
noncomputable def enObj (it : Addr) (i : Int) (old : Value) : Obj := { cls := .type "enumerate", dict := none, data := .fields #[.none, .bool false, .ref it, rawInt i, .none, old], slots := #[] }
noncomputable def EnumIt (e it ax : Addr) (i : Nat) (hs : List (Addr × Obj)) : Prop := ∃ (ob : Obj) (old : Value), hs = [(e, enObj it i old), (it, ob)] ∧ ob.cls = .type "list_iterator" ∧ ob.data = .fields #[.ref ax, .int i 0]
theorem EnumIt.noTup {e it ax : Addr} {i : Nat} {hs : List (Addr × Obj)} (h : EnumIt e it ax i hs) : NoTup hs := by
  refine hG fun Z z => ?_; obtain ⟨ob, old, rfl, hc, hd⟩ := h; refine z ?_; clear z
  intro p hp
  simp only [List.mem_cons, List.not_mem_nil, or_false] at hp
  rcases hp with rfl | rfl
  · exact ⟨fun vs q => (by have := congrArg Obj.data q; cases this), fun v q => (by cases q)⟩
  · exact ⟨fun vs q => (by rw [show ob = tupObj vs from q] at hd; cases hd), fun v q => (by rw [show ob.data = .cell v from q] at hd; cases hd)⟩
theorem GoodE.ndHid {μ : Mem} {s : Shared} (g : GoodE X μ st s) : (μ.hid.map (·.1)).Nodup := let ⟨_, _, G⟩ := g; (List.nodup_append.mp G.nodup).2.1

theorem enum_turn {k : Nat} (ok : X.Ok k) {e it ax : Addr} {n i : Nat} {xs : List PV} {v : PV} {xi xv : Str} {pi pv tp : Pos} {kk : Nat} {l' l'' : List (Str × PV)} (hp : st.sto[n]? = some (.list xs)) (hv : xs[i]? = some v)
    (hki : X.env.kindOf xi = some .local) (hkv : X.env.kindOf xv = some .local) (h1 : Put st.loc xi (.int i) l') (h2 : Put l' xv v l'') :
    Turn X (.Tuple [.Name xi pi, .Name xv pv] kk tp) e (EnumIt e it ax) (fun μ => μ.φ[n]? = some ax) i st ⟨l'', st.sto⟩ := fun μ s hs hd hI g => by
  have nt := hI.noTup
  refine hG fun Z z => ?_; obtain ⟨ob, old, rfl, hc, hdat⟩ := hI; refine z ?_; clear z
  have he : s.heap.get? e = some (enObj it i old) := g.at (p := (e, enObj it i old)) (by simp)
  have hoi : s.heap.get? it = some ob := g.at (p := (it, ob)) (by simp)
  have hei : e ≠ it := by have := g.ndHid; simp only [List.cons_append, List.map_cons, List.nodup_cons, List.mem_cons] at this; exact fun q => this.1 (.inl q)
  have heH : e < s.heap.objs.size := Heap.lt_size he
  have hiH : it < s.heap.objs.size := Heap.lt_size hoi
  refine hG fun Z z => ?_; obtain ⟨vs, hl, hvs⟩ := g.list (n := n) (a := ax) hd hp; refine z ?_; clear z
  refine hG fun Z z => ?_; obtain ⟨w, hw, hr⟩ := hvs.get i v hv; refine z ?_; clear z
  refine wpAny_pyNext_enum_item he ⟨ob, hoi, hc, hdat⟩ hl (x := w) (by simpa using hw) hei fun h₁ heo hit₁ ht₁ hz₁ hk₁ => ?_
  refine ⟨_, rfl, ?_⟩
  refine wpAny_letOwnedTupleGo_enum heo fun h₂ he₂ hs₂ => ?_
  replace hs₂ : Heap.SameBut e h₁ h₂ := hs₂
  have ht₂ : h₂.IsTuple s.heap.objs.size #[.int i s.toks, w] := ⟨_, (hs₂.2 _ (Nat.ne_of_gt heH)).trans ht₁, rfl, _, rfl⟩
  have hz₂ : h₂.objs.size = s.heap.objs.size + 1 := hs₂.1.trans hz₁
  refine wpAny_assign_Tuple ok.hh ht₂ rfl rfl fun h₃ hx₃ => ?_
  replace hx₃ : Heap.ExtBut h₂.objs.size h₂ h₃ := hx₃
  have old₃ : ∀ b o, b < s.heap.objs.size → h₂.get? b = some o → h₃.get? b = some o := fun b o hb x => hx₃ b o (by rw [hz₂]; exact Nat.ne_of_lt (Nat.lt_succ_of_lt hb)) x
  have kept : ∀ b o, b ∉ [(e, enObj it i old), (it, ob)].map (·.1) → s.heap.get? b = some o → h₃.get? b = some o := fun b o hb x => by
    simp only [List.map_cons, List.map_nil, List.mem_cons, List.not_mem_nil, or_false, not_or] at hb
    exact old₃ b o (Heap.lt_size x) ((hs₂.2 b hb.1).trans (hk₁ b o hb.1 hb.2 x))
  refine hG fun Z z => ?_; obtain ⟨ob', ho', hc', hd'⟩ := hit₁; refine z ?_; clear z
  have ho₃ : h₃.get? it = some ob' := old₃ _ _ hiH ((hs₂.2 it (Ne.symm hei)).trans ho')
  have he₃ : h₃.get? e = some (enObj it ((i : Int) + 1) w) := old₃ _ _ heH he₂
  have ei : ((i + 1 : Nat) : Int) = (i : Int) + 1 := by push_cast; rfl
  have g₃ := g.swap (hs' := [(e, enObj it ((i : Int) + 1) w), (it, ob')]) (h' := h₃) nt (s.toks + 1) kept (by simp) (fun p hp => by
    simp only [List.mem_cons, List.not_mem_nil, or_false] at hp
    rcases hp with rfl | rfl
    · exact he₃
    · exact ho₃)
  have hr' := VR.swap (μ := ⟨μ.φ, [(e, enObj it i old), (it, ob)] ++ μ.hid⟩) (μ' := ⟨μ.φ, [(e, enObj it ((i : Int) + 1) w), (it, ob')] ++ μ.hid⟩) rfl (Mem.le.swap nt) hr
  show W X (do holding [w] (assign (.Name xi pi) X.env (.int i s.toks)); do holding [] (assign (.Name xv pv) X.env w); pure ()) _ _
  refine wpAny_bind (wpAny_holding (wpAny_assign_Name ((storeLocalH ok g₃ (VR.int _ _) hki h1).mono fun u s₄ ⟨g₄, sm₄⟩ => ?_)))
  refine wpAny_bind (wpAny_holding (wpAny_assign_Name ((storeLocalH ok g₄ hr' hkv h2).mono fun u s₅ ⟨g₅, sm₅⟩ => wpAny_pure ?_)))
  refine ⟨μ, [(e, enObj it ((i : Int) + 1) w), (it, ob')], .refl _, ⟨ob', w, by rw [ei], hc', hd'⟩, g₅, ?_⟩
  exact (Same.mk s h₃ (s.toks + 1)).trans (sm₄.trans sm₅)
theorem enum_done {k : Nat} (ok : X.Ok k) {e it ax : Addr} {n : Nat} {xs : List PV} (hp : st.sto[n]? = some (.list xs)) : Done X e (EnumIt e it ax) (fun μ => μ.φ[n]? = some ax) xs.length st := fun μ s hs hd hI g => by
  have nt := hI.noTup
  refine hG fun Z z => ?_; obtain ⟨ob, old, rfl, hc, hdat⟩ := hI; refine z ?_; clear z
  have he : s.heap.get? e = some (enObj it xs.length old) := g.at (p := (e, enObj it xs.length old)) (by simp)
  have hoi : s.heap.get? it = some ob := g.at (p := (it, ob)) (by simp)
  refine hG fun Z z => ?_; obtain ⟨vs, hl, hvs⟩ := g.list (n := n) (a := ax) hd hp; refine z ?_; clear z
  refine wpAny_pyNext_enum_end ok.hh he ⟨ob, hoi, hc, hdat⟩ hl (by have := hvs.length; simp [← this]) fun h' hx => ?_
  refine ⟨rfl, g.drop nt _ fun b o hb x => hx b o (fun q => hb (by simp [q])) x, .mk _ _ _⟩

theorem Ex.forEnum {k : Nat} (ok : X.Ok k) {xi xv : Str} {pi pv tp p np cp : Pos} {kk : Nat} {arg : Expr} {body : List Stmt} {n : Nat} {xs : List PV} (hki : X.env.kindOf xi = some .local) (hkv : X.env.kindOf xv = some .local)
    (hf : Ev X (.Name "enumerate" np) st (.glob (.type "enumerate")) st) (ha : Ev X arg st (.loc n) st₁) (hx : Plain [arg]) (hp : st₁.sto[n]? = some (.list xs)) (S : Nat → PSt) (h0 : S 0 = st₁)
    (turn : ∀ i, i < xs.length → ∃ v l' l'', xs[i]? = some v ∧ (S i).sto[n]? = some (.list xs) ∧ Put (S i).loc xi (.int i) l' ∧ Put l' xv v l'' ∧ Exs X body ⟨l'', (S i).sto⟩ .next (S (i + 1)))
    (hend : (S xs.length).sto[n]? = some (.list xs)) (hfs : ∀ x, foldedSetIterable (.Call (.Name "enumerate" np) [arg] [] cp) X.env x = pure x) :
    Ex X (.For (.Tuple [.Name xi pi, .Name xv pv] kk tp) (.Call (.Name "enumerate" np) [arg] [] cp) body [] p) st .next (S xs.length) := fun μ s g => by
  refine wpAny_For ?_ hfs
  refine evalCall1 hf (.inr ⟨_, rfl⟩) hx g fun μ₁ s₁ le g₁ sm => (ha μ₁ s₁ g₁).post fun y μ₂ s₂ le₂ hy g₂ sm₂ => ?_
  cases hy with
  | loc n a hφ =>
    refine hG fun Z z => ?_; obtain ⟨vs, hl, hvs⟩ := g₂.list hφ hp; refine z ?_; clear z
    refine call_enumerate_list hl fun h' he hit hz hk => ?_
    refine wpAny_pyIter_enum he ?_
    refine hG fun Z z => ?_; obtain ⟨m, objs, G⟩ := g₂; refine z ?_; clear z
    refine hG fun Z z => ?_; obtain ⟨ob, hob, hc, hd⟩ := hit; refine z ?_; clear z
    have G' := G.gotHid (h' := h') (hs := [(s₂.heap.objs.size + 1, enObj s₂.heap.objs.size 0 .none), (s₂.heap.objs.size, ob)]) hk (fun p hp => by
      simp only [List.mem_cons, List.not_mem_nil, or_false] at hp
      rcases hp with rfl | rfl
      · exact he
      · exact hob) (fun p hp => by
      simp only [List.mem_cons, List.not_mem_nil, or_false] at hp
      rcases hp with rfl | rfl
      · exact Nat.le_succ _
      · exact Nat.le_refl _) (by simp) s₂.toks
    refine codeAny_mono (for_core (E := fun _ _ => False) (I := s₂.heap.objs.size + 1) (It := EnumIt (s₂.heap.objs.size + 1) s₂.heap.objs.size a) (dep := fun μ => μ.φ[n]? = some a) (body := body) (fun μ μ' le h => le.φ n a h) xs.length S (f := .next) (st' := S xs.length)
      (fun i hi => ?_) ?_ hφ ⟨ob, .none, rfl, hc, hd⟩ (h0 ▸ ⟨m, objs, G'⟩)) fun rs s' h => ?_
    · refine hG fun Z z => ?_; obtain ⟨v, l', l'', hv, hds, hp1, hp2, hb⟩ := turn i hi; refine z ?_; clear z
      exact ⟨_, enum_turn ok hds hv hki hkv hp1 hp2, hb⟩
    · exact .inl ⟨rfl, rfl, enum_done ok hend⟩
    · cases rs with
      | ok fl => exact h.trans (le.trans le₂) (sm.trans (sm₂.trans (.mk s₂ h' _)))
      | error e => exact h.elim
end


-- dicts
section
variable {K K' : Type} [DecidableEq K] [DecidableEq K'] {f : K' → K}
noncomputable def dput (ps : List (K' × PV)) (k : K') (x : PV) : List (K' × PV) := if ps.any (fun p => decide (p.1 = k)) then ps.map (fun p => if p.1 = k then (p.1, x) else p) else ps ++ [(k, x)]
noncomputable def dget (ps : List (K' × PV)) (k : K') : Option PV := (ps.find? fun p => decide (p.1 = k)).map (·.2)
theorem KRs.at (inj : ∀ a b, f a = f b → a = b) {μ : Mem} {kvs : List (K × Value)} {ps : List (K' × PV)} (h : KRs f μ kvs ps) (k : K') :
    (∀ x, dget ps k = some x → ∃ v, valueAt kvs (f k) = some v ∧ VR μ v x) ∧ (dget ps k = none → valueAt kvs (f k) = none) := by
  induction h with
  | nil => exact ⟨fun x e => (by cases e), fun _ => rfl⟩
  | cons q v x kvs ps h _ ih =>
    by_cases e : q = k
    · subst e
      refine ⟨fun y hy => ?_, fun hy => ?_⟩
      · simp [dget] at hy; subst hy; exact ⟨v, by simp [valueAt], h⟩
      · simp [dget] at hy
    · have e' : f q ≠ f k := fun z => e (inj _ _ z)
      have e1 : dget ((q, x) :: ps) k = dget ps k := by simp [dget, e]
      have e2 : valueAt ((f q, v) :: kvs) (f k) = valueAt kvs (f k) := by simp [valueAt, e']
      rw [e1, e2]; exact ih
theorem KRs.any (inj : ∀ a b, f a = f b → a = b) {μ : Mem} {kvs : List (K × Value)} {ps : List (K' × PV)} (h : KRs f μ kvs ps) (k : K') : kvs.any (fun kv => decide (kv.1 = f k)) = ps.any (fun p => decide (p.1 = k)) := by
  induction h with
  | nil => rfl
  | cons q v x kvs ps h _ ih =>
    simp only [List.any_cons, ih]
    congr 1
    by_cases e : q = k
    · subst e; simp
    · have e' : f q ≠ f k := fun z => e (inj _ _ z)
      simp [e, e']
theorem KRs.put (inj : ∀ a b, f a = f b → a = b) {μ : Mem} {kvs : List (K × Value)} {ps : List (K' × PV)} (h : KRs f μ kvs ps) (k : K') {v : Value} {x : PV} (hv : VR μ v x) : KRs f μ (stored kvs (f k) v) (dput ps k x) := by
  unfold stored dput
  rw [show kvs.any (fun kv => decide (kv.1 = f k)) = ps.any (fun p => decide (p.1 = k)) from h.any inj k]
  split
  · rename_i hc; clear hc
    induction h with
    | nil => exact .nil
    | cons q w y kvs ps h _ ih =>
      simp only [List.map_cons]
      by_cases e : q = k
      · subst e; simp only [if_true]; exact .cons _ _ _ _ _ hv ih
      · have e' : f q ≠ f k := fun z => e (inj _ _ z)
        rw [if_neg e', if_neg e]; exact .cons _ _ _ _ _ h ih
  · rename_i hc; clear hc
    induction h with
    | nil => exact .cons _ _ _ _ _ hv .nil
    | cons q w y kvs ps h _ ih => exact .cons _ _ _ _ _ h ih
theorem KRs.length {μ : Mem} {kvs : List (K × Value)} {ps : List (K' × PV)} (h : KRs f μ kvs ps) : kvs.length = ps.length := by
  induction h with
  | nil => rfl
  | cons _ _ _ _ _ _ _ ih => simp [ih]
end
theorem T_inj : ∀ a b, T a = T b → a = b := fun a b h => by
  have := congrArg (fun s : Str => s.cps.toList) h
  simpa using this

section
variable {X : Cx} {st st₁ st₂ st₃ st' : PSt}
theorem Good.notMods {k : Nat} (ok : X.Ok k) {μ : Mem} {s : Shared} {m : Str → Option Value} {objs : List Obj} (G : Good X μ st s m objs) {n : Nat} {a : Addr} {p : PO} (hφ : μ.φ[n]? = some a) (hp : st.sto[n]? = some p) : (a == sysModules) = false := by
  refine hG fun Z z => ?_; obtain ⟨o, ho, hr, hg, hm⟩ := G.obj hφ hp; refine z ?_; clear z
  have := (G.news _ (List.mem_append_left _ hm)).2.2
  obtain ⟨o', ho'⟩ := ok.mods
  rw [beq_eq_false_iff_ne]
  rintro rfl
  rw [show (sysModules, o).1 = sysModules from rfl, ho'] at this; cases this

/-- a value that looks a key up: keys of K', stored under f -/
noncomputable def Has (X : Cx) {K K' : Type} [DecidableEq K] (knd : PySem.KeyKind X.prog X.w K) (f : K' → K) (st : PSt) (pv : PV) (look : K' → Option PV) : Prop :=
  ∀ μ s x, GoodE X μ st s → VR μ x pv → ∃ a F, x = .ref a ∧ (a == sysModules) = false ∧ s.heap.MapOf knd a F ∧ ∀ k, (∀ p, look k = some p → ∃ v, F (f k) = some v ∧ VR μ v p) ∧ (look k = none → F (f k) = none)
theorem Has.dictS {k : Nat} (ok : X.Ok k) {n : Nat} {ps : List (List Nat × PV)} (hp : st.sto[n]? = some (.dictS ps)) : Has X (PySem.strKind X.prog X.w) T st (.loc n) (dget ps) := fun μ s x g hx => by
  cases hx with
  | loc n a hφ =>
    refine hG fun Z z => ?_; obtain ⟨m, objs, G⟩ := g; refine z ?_; clear z
    refine hG fun Z z => ?_; obtain ⟨o, ho, hr, hg, hm⟩ := G.obj hφ hp; refine z ?_; clear z
    cases hr with
    | dictS o kvs ps hd hk => exact ⟨a, valueAt kvs, rfl, G.notMods ok hφ hp, (Heap.dictOf_iff.mpr ⟨o, hg, hd⟩).mapOf, fun k => hk.at T_inj k⟩
theorem Has.dictI {k : Nat} (ok : X.Ok k) {n : Nat} {ps : List (Int × PV)} (hp : st.sto[n]? = some (.dictI ps)) : Has X (PySem.intKind X.prog X.w) id st (.loc n) (dget ps) := fun μ s x g hx => by
  cases hx with
  | loc n a hφ =>
    refine hG fun Z z => ?_; obtain ⟨m, objs, G⟩ := g; refine z ?_; clear z
    refine hG fun Z z => ?_; obtain ⟨o, ho, hr, hg, hm⟩ := G.obj hφ hp; refine z ?_; clear z
    cases hr with
    | dictI o kvs ps hd hk => exact ⟨a, valueAt kvs, rfl, G.notMods ok hφ hp, (Heap.dictOf_iff.mpr ⟨o, hg, hd⟩).mapOf, fun k => hk.at (fun _ _ h => h) k⟩
theorem Has.get {K K' : Type} [DecidableEq K] {knd : PySem.KeyKind X.prog X.w K} {f : K' → K} {pv : PV} {look : K' → Option PV} (h : Has X knd f st pv look) {μ : Mem} {s : Shared} {x : Value} (g : GoodE X μ st s) (hx : VR μ x pv) (k : K') (d : Value) (dp : PV) (hd : VR μ d dp) :
    ∃ a F, x = .ref a ∧ (a == sysModules) = false ∧ s.heap.MapOf knd a F ∧ VR μ ((F (f k)).getD d) ((look k).getD dp) ∧ (F (f k)).isSome = (look k).isSome := by
  refine hG fun Z z => ?_; obtain ⟨a, F, rfl, ha, hm, hl⟩ := h μ s x g hx; refine z ?_; clear z
  refine ⟨a, F, rfl, ha, hm, ?_⟩
  obtain ⟨h1, h2⟩ := hl k
  cases e : look k with
  | none => rw [h2 e]; exact ⟨hd, rfl⟩
  | some p => obtain ⟨v, hv, hr⟩ := h1 p e; rw [hv]; exact ⟨hr, rfl⟩

-- the operations, for str keys and int keys
theorem Op.notin_S {pv : PV} {look : List Nat → Option PV} (h : Has X (PySem.strKind X.prog X.w) T st pv look) {l : List Nat} : Op2 X (compareOp .NotIn) (.str l) pv st (.bool (!(look l).isSome)) st := fun μ s x y g hx hy => by
  cases hx with
  | str l t =>
    refine hG fun Z z => ?_; obtain ⟨a, F, rfl, ha, hm, _, he⟩ := h.get g hy l .none .none .none; refine z ?_; clear z
    exact wpAny_notIn_of (strKind_is _ _ _ _) ha hm (he ▸ Post.val g (.bool _) _)
theorem Op.notin_I {pv : PV} {look : Int → Option PV} (h : Has X (PySem.intKind X.prog X.w) id st pv look) {i : Int} : Op2 X (compareOp .NotIn) (.int i) pv st (.bool (!(look i).isSome)) st := fun μ s x y g hx hy => by
  cases hx with
  | int i t =>
    refine hG fun Z z => ?_; obtain ⟨a, F, rfl, ha, hm, _, he⟩ := h.get g hy i .none .none .none; refine z ?_; clear z
    exact wpAny_notIn_of (k := i) (intKind_is _ _ _ _) ha hm (he ▸ Post.val g (.bool _) _)
theorem Item.I {pv v : PV} {look : Int → Option PV} (h : Has X (PySem.intKind X.prog X.w) id st pv look) {i : Int} (hv : look i = some v) : Item X pv (.int i) st v st := fun μ s x y g hx hy => by
  cases hy with
  | int i t =>
    refine hG fun Z z => ?_; obtain ⟨a, F, rfl, ha, hm, hl⟩ := h μ s x g hx; refine z ?_; clear z
    refine hG fun Z z => ?_; obtain ⟨w, hw, hr⟩ := (hl i).1 v hv; refine z ?_; clear z
    exact ⟨"dict", _, hm.typeIs, slot_dict_getitem.lookup, wpAny_getItem_of (k := i) (intKind_is _ _ _ _) hm hw (.val g hr _)⟩
theorem call_get1 {prog : Program} {w : World} {A : Around} {E : Value → Shared → Prop} {s : Shared} {K : Type} [DecidableEq K] {knd : PySem.KeyKind prog w K} {d : Addr} {k : K} {key : Value} {F : K → Option Value} {Q : Value → Shared → Prop} (hkey : knd.is k key = true) (hd : (d == sysModules) = false)
    (hm : s.heap.MapOf knd d F) (h : Q ((F k).getD .none) { s with toks := s.toks + 1 }) : wpAny (model prog w) A (call (.builtin "dict.get") [.ref d, key]) Q E s :=
  call_meetsIn PySem.F.slot_dict_get hm.typeIs PySem.F.entry_dict_get (PySem.F.args_dict_get_2 _ _) (meets_dict_get knd d hkey hd) ⟨F, hm, h⟩
theorem call_get2 {prog : Program} {w : World} {A : Around} {E : Value → Shared → Prop} {s : Shared} {K : Type} [DecidableEq K] {knd : PySem.KeyKind prog w K} {d : Addr} {k : K} {key dflt : Value} {F : K → Option Value} {Q : Value → Shared → Prop} (hkey : knd.is k key = true) (hd : (d == sysModules) = false)
    (hm : s.heap.MapOf knd d F) (h : Q ((F k).getD dflt) { s with toks := s.toks + 1 }) : wpAny (model prog w) A (call (.builtin "dict.get") [.ref d, key, dflt]) Q E s :=
  call_meetsIn PySem.F.slot_dict_get hm.typeIs PySem.F.entry_dict_get (PySem.F.args_dict_get_3 _ _ _) (meets_dict_get_default knd d hkey hd dflt) ⟨F, hm, h⟩
theorem Calls.get_S {pv d : PV} {look : List Nat → Option PV} (h : Has X (PySem.strKind X.prog X.w) T st pv look) {l : List Nat} : Calls X (.glob (.builtin "dict.get")) [pv, .str l, d] st ((look l).getD d) st := fun μ s x ys g hx hys => by
  cases hx
  cases hys with
  | cons v1 _ _ _ h1 hys => cases hys with
    | cons v2 _ _ _ h2 hys => cases hys with
      | cons v3 _ _ _ h3 hys =>
        cases hys
        cases h2 with
        | str l t =>
          refine hG fun Z z => ?_; obtain ⟨a, F, rfl, ha, hm, hr, he⟩ := h.get g h1 l v3 d h3; refine z ?_; clear z
          exact call_get2 (strKind_is _ _ _ _) ha hm (.val g hr _)
theorem Calls.get_I1 {pv : PV} {look : Int → Option PV} (h : Has X (PySem.intKind X.prog X.w) id st pv look) {i : Int} : Calls X (.glob (.builtin "dict.get")) [pv, .int i] st ((look i).getD .none) st := fun μ s x ys g hx hys => by
  cases hx
  cases hys with
  | cons v1 _ _ _ h1 hys => cases hys with
    | cons v2 _ _ _ h2 hys =>
        cases hys
        cases h2 with
        | int i t =>
          refine hG fun Z z => ?_; obtain ⟨a, F, rfl, ha, hm, hr, he⟩ := h.get g h1 i .none .none .none; refine z ?_; clear z
          exact call_get1 (k := i) (intKind_is _ _ _ _) ha hm (.val g hr _)
theorem meth_dict {K K' : Type} [DecidableEq K] {knd : PySem.KeyKind X.prog X.w K} {f : K' → K} {pv : PV} {look : K' → Option PV} (h : Has X knd f st pv look) {name : Str} {id : String} (slot : Slot "dict" name id) (hty : typeOf (.builtin id) = pure (.type "method_descriptor")) :
    ∀ μ s x, GoodE X μ st s → VR μ x pv → MethOf X s x name id := fun μ s x g hx => by
  refine hG fun Z z => ?_; obtain ⟨a, F, rfl, ha, hm, _⟩ := h μ s x g hx; refine z ?_; clear z
  exact ⟨"dict", PySem.F.plainAttrs_dict, slot, hty, hm.typeIs, fun b e => by cases e; exact hm.noDict _ rfl⟩

-- stores
noncomputable def SetIt (X : Cx) (o i v : PV) (st st' : PSt) : Prop := ∀ μ s x y z, GoodE X μ st s → VR μ x o → VR μ y i → VR μ z v → W X (setItem x y z) (Post X μ s (fun _ _ => True) st') s
theorem SetIt.I {k : Nat} (ok : X.Ok k) {n : Nat} {ps : List (Int × PV)} {i : Int} {v : PV} (hp : st.sto[n]? = some (.dictI ps)) (hsz : ps.length ≤ sizeLine) : SetIt X (.loc n) (.int i) v st ⟨st.loc, st.sto.set n (.dictI (dput ps i v))⟩ := fun μ s x y z g hx hy hz => by
  cases hy with
  | int i t =>
  cases hx with
  | loc n a hφ =>
    refine hG fun Z z => ?_; obtain ⟨m, objs, G⟩ := g; refine z ?_; clear z
    refine hG fun Z z => ?_; obtain ⟨o, ho, hr, hg, hm⟩ := G.obj hφ hp; refine z ?_; clear z
    cases hr with
    | dictI o kvs ps hd hk =>
      refine wpAny_setItem_pairs (k := i) (intKind_is _ _ _ _) (Heap.dictOf_iff.mpr ⟨o, hg, hd⟩) (fun h' hd' hsb => ?_) (by rw [hk.length]; exact hsz)
      refine hG fun Z z => ?_; obtain ⟨o', ho', hd''⟩ := Heap.dictOf_iff.mp hd'; refine z ?_; clear z
      exact .intro trivial ⟨m, _, G.upd hφ (.dictI o' _ _ hd'' (hk.put (fun _ _ h => h) i hz)) hsb ho'⟩ (.mk s h' _)
theorem SetIt.list {n : Nat} {xs : List PV} {i : Int} {v : PV} (hp : st.sto[n]? = some (.list xs)) (h0 : 0 ≤ i) (hfit : i < 2 ^ 63) (hi : i < xs.length) : SetIt X (.loc n) (.int i) v st ⟨st.loc, st.sto.set n (.list (xs.set i.toNat v))⟩ := fun μ s x y z g hx hy hz => by
  cases hy with
  | int i t =>
  cases hx with
  | loc n a hφ =>
    refine hG fun Z z => ?_; obtain ⟨m, objs, G⟩ := g; refine z ?_; clear z
    refine hG fun Z z => ?_; obtain ⟨o, ho, hr, hg, hm⟩ := G.obj hφ hp; refine z ?_; clear z
    cases hr with
    | list vs c xs hs =>
      have hlen := hs.length
      refine ki_setAt hg h0 hfit (by simp only [List.size_toArray]; omega) ?_
      have q := PySem.IsL.update hg (·.setIfInBounds i.toNat z)
      have e : (vs.toArray.setIfInBounds i.toNat z) = (vs.set i.toNat z).toArray := by simp
      rw [e] at q
      exact .intro trivial ⟨m, _, G.upd hφ (.list _ _ _ (hs.set hz _)) (Heap.SameBut.update ..) q⟩ (.mk s _ _)
theorem Ex.setIt {o i e : Expr} {tp p : Pos} {ov iv v : PV} (he : Ev X e st v st₁) (ho : Ev X o st₁ ov st₂) (hi : Ev X i st₂ iv st₃) (hs : SetIt X ov iv v st₃ st') (hw : swapsWith e (some (.Subscript o i tp)) p.line X.env = pure false) :
    Ex X (.Assign [.Subscript o i tp] e p) st .next st' := fun μ s g =>
  wpAny_Assign_Subscript ((he μ s g).post fun z μ₁ s₁ le₁ hz g₁ e₁ => (ho μ₁ s₁ g₁).post fun x μ₂ s₂ le₂ hx g₂ e₂ => (hi μ₂ s₂ g₂).post fun y μ₃ s₃ le₃ hy g₃ e₃ =>
    (hs μ₃ s₃ x y z g₃ (hx.mono le₃) hy (hz.mono (le₂.trans le₃))).mono fun _ s₄ ⟨μ₄, le₄, _, g₄, e₄⟩ => ⟨μ₄, le₁.trans (le₂.trans (le₃.trans le₄)), .next, g₄, e₁.trans (e₂.trans (e₃.trans e₄))⟩) hw
theorem Ex.augItem {o i e : Expr} {tp p : Pos} {op : Operator} {ov iv old v new : PV} {st₄ : PSt} (ho : Ev X o st ov st₁) (hi : Ev X i st₁ iv st₂) (hg : Item X ov iv st₂ old st₂) (he : Ev X e st₂ v st₃) (hop : Op2 X (inplaceOp op) old v st₃ new st₄) (hs : SetIt X ov iv new st₄ st')
    (ha : ∀ ov iv new, augStore i ov iv new = (do holding [new, ov, iv] (setItem ov iv new); release [new, ov, iv] []; pure .next)) :
    Ex X (.AugAssign (.Subscript o i tp) op e p) st .next st' := fun μ s g =>
  wpAny_AugAssign_Subscript_any ((ho μ s g).post fun x μ₁ s₁ le₁ hx g₁ e₁ => (hi μ₁ s₁ g₁).post fun y μ₂ s₂ le₂ hy g₂ e₂ => by
    refine hG fun Z z => ?_; obtain ⟨T, id, _, _, hw⟩ := hg μ₂ s₂ x y g₂ (hx.mono le₂) hy; refine z ?_; clear z
    exact hw.post fun oldv μ₃ s₃ le₃ hold g₃ e₃ => (he μ₃ s₃ g₃).post fun z μ₄ s₄ le₄ hz g₄ e₄ => (hop μ₄ s₄ oldv z g₄ (hold.mono le₄) hz).post fun nv μ₅ s₅ le₅ hnv g₅ e₅ =>
      (hs μ₅ s₅ x y nv g₅ (hx.mono (le₂.trans (le₃.trans (le₄.trans le₅)))) (hy.mono (le₃.trans (le₄.trans le₅))) hnv).mono fun _ s₆ ⟨μ₆, le₆, _, g₆, e₆⟩ =>
        ⟨μ₆, le₁.trans (le₂.trans (le₃.trans (le₄.trans (le₅.trans le₆)))), .next, g₆, e₁.trans (e₂.trans (e₃.trans (e₄.trans (e₅.trans e₆))))⟩) ha

-- new dicts
theorem Ev.dictI0 {p : Pos} : Ev X (.Dict [] [] p) st (.loc st.sto.length) ⟨st.loc, st.sto ++ [.dictI []]⟩ := fun μ s g => by
  refine wpAny_Dict_empty ?_
  refine hG fun Z z => ?_; obtain ⟨m, objs, G⟩ := g; refine z ?_; clear z
  exact ⟨_, Mem.le.snoc μ _, .loc _ _ (by rw [← G.len]; simp), ⟨m, _, G.alloc rfl (.dictI _ [] [] ⟨#[], 0, ⟨rfl, rfl, rfl⟩, rfl, by intro e he; simp at he, .nil, by simp⟩ .nil) s.toks⟩, .mk _ _ _⟩
end


section
variable {X : Cx} {st st₁ st₂ st₃ st' : PSt}

/-- an inner namespace C: what the outer one keeps stands below it -/
theorem Good.enter {k : Nat} (ok : X.Ok k) {μ : Mem} {s : Shared} {m : Str → Option Value} {objs : List Obj} (G : Good X μ st s m objs) {h₁ : Heap} {C : Addr} {m₁ : Str → Option Value} {env' : Env} (hk₁ : ∀ b o, s.heap.get? b = some o → h₁.get? b = some o)
    (hC : s.heap.objs.size ≤ C) (hns : h₁.Ns C m₁) (hL : env'.locals = C) (hkind : env'.scope.kind = .function) (hg : env'.globals = mainGlobals) (hb : env'.builtins = builtinsNs) (tk : Nat) :
    ∃ X' : Cx, X'.Ok k ∧ X.Sub X' ∧ X'.env = env' ∧ X'.A = X.A ∧ X'.L = C ∧ Good X' μ ⟨[], st.sto⟩ { s with heap := h₁, toks := tk } m₁ objs ∧
      ∀ (μ' : Mem) (st₂ : PSt) (s' : Shared) (m' : Str → Option Value) (objs' : List Obj), LocR μ' m st.loc → Good X' μ' st₂ s' m' objs' → Good X μ' ⟨st.loc, st₂.sto⟩ s' m objs' := by
  let news := μ.φ.zip objs ++ μ.hid
  let g₀ := hideAll s.heap (news.map (·.1))
  have nm := G.h₀_not
  have stays : ∀ b o, X.h₀.get? b = some o → g₀.get? b = some o := fun b o e => hideAll_get _ (G.fr.keep b o e) (nm b o e)
  refine hG fun Z z => ?_; obtain ⟨oL, es, ep, hLo, hLr⟩ := G.fr.ns; refine z ?_; clear z
  have nL : X.L ∉ news.map (·.1) := fun q => by
    refine hG fun Z z => ?_; obtain ⟨p, hp, e⟩ := List.mem_map.mp q; refine z ?_; clear z
    exact (G.news p hp).2.1 e
  have hLg : g₀.get? X.L = some oL := hideAll_get _ hLo nL
  let X' : Cx := ⟨X.prog, X.w, X.K, X.A, g₀, C, env', X.pin⟩
  have ok' : X'.Ok k := ⟨ok.hh, ok.depth, ok.units, fun a o e => stays _ _ (ok.kin _ _ e), ok.nolimit.keeps stays, hL, hkind, hg, hb, let ⟨o, ho⟩ := ok.mods; ⟨o, stays _ _ ho⟩⟩
  refine ⟨X', ok', ⟨rfl, rfl, rfl⟩, rfl, rfl, rfl, ⟨⟨hns, fun b o e => hk₁ b o (of_hideAll _ e), ?_⟩, fun x v e => (by cases e), fun p hp => ?_, G.sto, G.len, G.nodup, G.pin⟩, fun μ' st₂ s' m' objs' hloc G₂ => ?_⟩
  · show (hideAll s.heap (news.map (·.1))).objs.size ≤ C
    rw [hideAll_size]; exact hC
  · exact ⟨hk₁ _ _ (G.news p hp).1, Nat.ne_of_lt (Nat.lt_of_lt_of_le (Heap.lt_size (G.news p hp).1) hC), hideAll_none _ (List.mem_map_of_mem hp)⟩
  · refine ⟨⟨⟨oL, es, ep, G₂.fr.keep X.L oL hLg, hLr⟩, fun b o e => G₂.fr.keep b o (stays b o e), G.fr.above⟩, hloc, fun p hp => ⟨(G₂.news p hp).1, fun q => ?_, ?_⟩, G₂.sto, G₂.len, G₂.nodup, G₂.pin⟩
    · have := (G₂.news p hp).2.2; have h2 := hLg; rw [show X'.h₀ = g₀ from rfl, q] at this; rw [this] at h2; cases h2
    · cases q : X.h₀.get? p.1 with
      | none => rfl
      | some o => have := (G₂.news p hp).2.2; have h2 := stays _ _ q; rw [show X'.h₀ = g₀ from rfl] at this; rw [this] at h2; cases h2

noncomputable def Tests (X : Cx) (ifs : List Expr) (st : PSt) (b : Bool) (st' : PSt) : Prop :=
  Tr X (forIn ifs true fun c r => if r = true then do let ok ← isTrue c X.env (eval c X.env); pure (ForInStep.yield ok) else pure (ForInStep.yield r)) st (fun _ a => a = b) st'
theorem Tests.nil : Tests X [] st true st := fun μ s g => wpAny_tests_nil (.intro rfl g (.refl _))
theorem Tests.one {c : Expr} {b : Bool} (h : Tst X c st b st') : Tests X [c] st b st' := fun μ s g => wpAny_tests_one (h μ s g)

theorem take_filter_range (n i : Nat) (keep : Nat → Bool) (h : i < n) : ((List.range (i + 1)).filter keep) = ((List.range i).filter keep) ++ (if keep i then [i] else []) := by
  rw [List.range_succ, List.filter_append]
  cases e : keep i <;> simp [e]

theorem Good.sameBut {μ : Mem} {s : Shared} {m : Str → Option Value} {objs : List Obj} (G : Good X μ st s m objs) {h' : Heap} {b : Addr} (hs : Heap.SameBut b s.heap h') (hL : b ≠ X.L) (h0 : X.h₀.get? b = none) (hn : ∀ p ∈ μ.φ.zip objs ++ μ.hid, p.1 ≠ b) : Good X μ st { s with heap := h' } m objs :=
  ⟨G.fr.change hs hL h0, G.loc, fun p hp => ⟨(hs.2 _ (hn p hp)).trans (G.news p hp).1, (G.news p hp).2⟩, G.sto, G.len, G.nodup, G.pin⟩

theorem Ev.comp {k : Nat} (ok : X.Ok k) {elt iter : Expr} {x : Str} {px : Pos} {ifs : List Expr} {scope : Scope} {pos : Pos} {items : List PV} {depS : PSt → Prop} (hsrc : Src X iter st items depS st₁)
    (hfree : ∀ y ∈ scope.names, y.2 ≠ .free) (hcell : ∀ y ∈ scope.names, y.2 ≠ .cell) (hkind : scope.kind = .function) (hnames : ∀ y ∈ scope.names, y.2 = .local → scope.names.lookup y.1 = some .local) (hx : scope.names.lookup x = some .local)
    (hdep : ∀ loc o, depS ⟨loc, st₁.sto ++ [o]⟩) (hlen : items.length ≤ sizeLine) (keep : Nat → Bool) (val : Nat → PV)
    (body : ∀ X' : Cx, X'.Ok k → X.Sub X' → X'.env = compEnv scope X'.L X.env → ∀ i item, items[i]? = some item → ∀ ys,
      Tests X' ifs ⟨[(x, item)], st₁.sto ++ [.list ys]⟩ (keep i) ⟨[(x, item)], st₁.sto ++ [.list ys]⟩ ∧ (keep i = true → Ev X' elt ⟨[(x, item)], st₁.sto ++ [.list ys]⟩ (val i) ⟨[(x, item)], st₁.sto ++ [.list ys]⟩))
    (hf : ∀ x, foldedSetIterable iter X.env x = pure x) :
    Ev X (.ListComp elt [⟨.Name x px, iter, ifs, 0⟩] scope pos) st (.loc st₁.sto.length) ⟨st₁.loc, st₁.sto ++ [.list (((List.range items.length).filter keep).map val)]⟩ := fun μ s g => by
  refine wpAny_ListComp hfree hkind hnames ((hsrc μ s g).mono fun y s₁ h1 => h1.mono fun z s₂ ⟨I, It, dep, hs, μ₂, e, hI', le₂, hd, h00, nt, g₂, e₂⟩ => ?_) hf
  subst e
  refine wpAny_newObj_type (wpAny_newFunctionEnv hcell (by intro y hy; simp at hy) (fun h₁ hns₁ hsb₁ => ?_) hkind)
  refine hG fun Z z => ?_; obtain ⟨m, objs, G⟩ := g₂; refine z ?_; clear z
  have GD := G.alloc (o := listOf ([] : List Value).toArray 0) rfl (.list [] 0 [] .nil) s₂.toks
  dsimp only at hns₁ hsb₁ ⊢
  have hCsz : (s₂.heap.push (listOf ([] : List Value).toArray 0)).objs.size = s₂.heap.objs.size + 1 := Heap.size_push ..
  refine hG fun Z z => ?_; obtain ⟨X', ok', sub, henv, hA, hL, G', back⟩ := GD.enter ok (env' := compEnv scope (s₂.heap.push (listOf ([] : List Value).toArray 0)).objs.size X.env) (h₁ := h₁) (fun b o e => hsb₁.extBut b o (Nat.ne_of_lt (Heap.lt_size e)) (Heap.get?_push_of_some _ e)) (Nat.le_refl _) hns₁ rfl hkind ok.hg ok.hb (s₂.toks + ([] : List (Str × Value)).length); refine z ?_; clear z
  have hI := hI' X' sub ok'.hh
  have hxk : X'.env.kindOf x = some .local := by rw [henv]; exact hx
  have hDφ : (⟨μ₂.φ ++ [s₂.heap.objs.size], μ₂.hid⟩ : Mem).φ[st₁.sto.length]? = some s₂.heap.objs.size := by
    have : μ₂.φ.length = st₁.sto.length := G.len
    rw [← this]; simp
  obtain ⟨R₀, hR₀⟩ : ∃ R₀ : Result → Shared → Prop, R₀ = (fun r s' => match r with | .ok _ => ∃ μ' l', (⟨μ₂.φ ++ [s₂.heap.objs.size], μ₂.hid⟩ : Mem).le μ' ∧ GoodE X' μ' ⟨l', st₁.sto ++ [.list (((List.range items.length).filter keep).map val)]⟩ s' ∧ Same s₂ s' | .error _ => False) := ⟨_, rfl⟩
  obtain ⟨J, hJ⟩ : ∃ J : Nat → Shared → Prop, J = (fun q s' => ∃ i μ' hs' l', i ≤ items.length ∧ q = items.length - i ∧ (⟨μ₂.φ ++ [s₂.heap.objs.size], μ₂.hid⟩ : Mem).le μ' ∧ dep μ' ∧ It i hs' ∧ (l' = [] ∨ ∃ v, l' = [(x, v)]) ∧ GoodE X' ⟨μ'.φ, hs' ++ μ'.hid⟩ ⟨l', st₁.sto ++ [.list (((List.range i).filter keep).map val)]⟩ s' ∧ Same s₂ s') := ⟨_, rfl⟩
  have hloop : codeAny (model X'.prog X'.w) X'.A (.compLoop (.ListComp elt [⟨.Name x px, iter, ifs, 0⟩] scope pos) 0 (.ref I) (.ref s₂.heap.objs.size) X'.env)
      R₀
      { s₂ with heap := h₁, toks := s₂.toks + ([] : List (Str × Value)).length } := by
    refine codeAny_compLoop_tests J ?_ items.length (by rw [hJ]; exact ⟨0, ⟨μ₂.φ ++ [s₂.heap.objs.size], μ₂.hid⟩, hs, [], Nat.zero_le _, rfl, .refl _, hI.dm _ _ (Mem.le.snoc μ₂ _) hd, h00, .inl rfl, ⟨_, _, G'⟩, .mk _ _ _⟩)
    intro q s' hq0
    rw [hJ] at hq0
    refine hG fun Z z => ?_; obtain ⟨i, μ', hs', l', hi, rfl, le, hd', hIi, hl', g', sm⟩ := hq0; refine z ?_; clear z
    by_cases hlt : i < items.length
    · have hv : items[i]? = some items[i] := List.getElem?_eq_getElem hlt
      refine wpAny_mono (hI.step i _ _ hv (hdep _ _) μ' s' hs' hd' hIi g') (fun o s₃ hq => ?_) fun _ _ x => x.elim
      refine hG fun Z z => ?_; obtain ⟨w, μ₃, hs₃, rfl, le₃, hI₃, hw, g₃, sm₃⟩ := hq; refine z ?_; clear z
      have hput : Put l' x items[i] [(x, items[i])] := by
        rcases hl' with rfl | ⟨v, rfl⟩
        · exact .nil _ _
        · exact .here _ _ _ _
      refine wpAny_assign_Name (wpAny_mono (storeLocalH ok' g₃ hw hxk hput) (fun _ s₄ hq => ?_) fun _ _ x => x.elim)
      obtain ⟨g₄, sm₄⟩ := hq
      obtain ⟨ht, hyes⟩ := body X' ok' sub (by rw [henv, hL]) i _ hv (((List.range i).filter keep).map val)
      refine wpAny_mono (ht _ s₄ g₄) (fun okb s₅ hq => ?_) fun _ _ x => x.elim
      refine hG fun Z z => ?_; obtain ⟨μ₅, le₅, rfl, g₅, sm₅⟩ := hq; refine z ?_; clear z
      have hstep := take_filter_range items.length i keep hlt
      cases hkeep : keep i with
      | false =>
        simp only [Bool.false_eq_true, if_false]
        refine hG fun Z z => ?_; obtain ⟨μ₆, le₆, g₆⟩ := g₄.split le₅ g₅; refine z ?_; clear z
        rw [hkeep] at hstep
        simp only [Bool.false_eq_true, if_false, List.append_nil] at hstep
        exact ⟨items.length - (i + 1), by omega, by rw [hJ]; exact ⟨i + 1, μ₆, hs₃, _, hlt, rfl, le.trans (le₃.trans le₆), hI.dm _ _ (le₃.trans le₆) hd', hI₃, .inr ⟨_, rfl⟩, hstep.symm ▸ g₆, sm.trans (sm₃.trans (sm₄.trans sm₅))⟩⟩
      | true =>
        simp only [if_true]
        refine wpAny_mono (hyes hkeep _ s₅ g₅) (fun y s₆ hq => ?_) fun _ _ x => x.elim
        refine hG fun Z z => ?_; obtain ⟨μ₆, le₆, hy, g₆, sm₆⟩ := hq; refine z ?_; clear z
        have leT : (⟨μ₂.φ ++ [s₂.heap.objs.size], μ₂.hid⟩ : Mem).le μ₆ := le.trans (le₃.trans ((⟨fun _ _ h => h, fun _ h => List.mem_append_right _ h⟩ : Mem.le μ₃ ⟨μ₃.φ, hs₃ ++ μ₃.hid⟩).trans (le₅.trans le₆)))
        have hap := Calls.append (X := X') (st := ⟨[(x, items[i])], st₁.sto ++ [.list (((List.range i).filter keep).map val)]⟩) (n := st₁.sto.length) (xs := ((List.range i).filter keep).map val) (v := val i) (by simp) (by
          rw [List.length_map]
          have := List.length_filter_le keep (List.range i)
          rw [List.length_range] at this; grind)
        refine wpAny_mono (hap μ₆ s₆ _ _ g₆ (.glob _) (.cons _ _ _ _ (.loc _ _ (leT.φ _ _ hDφ)) (.cons _ _ _ _ hy .nil))) (fun _ s₇ hq => ?_) fun _ _ x => x.elim
        refine hG fun Z z => ?_; obtain ⟨μ₇, le₇, _, g₇, sm₇⟩ := hq; refine z ?_; clear z
        refine hG fun Z z => ?_; obtain ⟨μ₈, le₈, g₈⟩ := g₄.split (le₅.trans (le₆.trans le₇)) g₇; refine z ?_; clear z
        rw [hkeep] at hstep
        simp only [if_true] at hstep
        have e1 : (st₁.sto ++ [PO.list (((List.range i).filter keep).map val)]).set st₁.sto.length (.list (((List.range i).filter keep).map val ++ [val i])) = st₁.sto ++ [.list (((List.range (i + 1)).filter keep).map val)] := by
          rw [hstep, List.map_append]; simp
        exact ⟨items.length - (i + 1), by omega, by rw [hJ]; exact ⟨i + 1, μ₈, hs₃, _, hlt, rfl, le.trans (le₃.trans le₈), hI.dm _ _ (le₃.trans le₈) hd', hI₃, .inr ⟨_, rfl⟩, e1 ▸ g₈, sm.trans (sm₃.trans (sm₄.trans (sm₅.trans (sm₆.trans sm₇))))⟩⟩
    · have hi : i = items.length := by grind
      subst hi
      refine wpAny_mono (hI.done _ (hdep _ _) μ' s' hs' hd' hIi g') (fun o s₃ hq => ?_) fun _ _ x => x.elim
      refine hG fun Z z => ?_; obtain ⟨rfl, g₃, sm₃⟩ := hq; refine z ?_; clear z
      rw [hR₀]; exact ⟨μ', l', le, g₃, sm.trans sm₃⟩
  rw [hR₀, henv, hA, sub.prog, sub.w] at hloop
  have fin : ∀ (r : Result) (s' : Shared), (match r with | .ok _ => ∃ μ' l', (⟨μ₂.φ ++ [s₂.heap.objs.size], μ₂.hid⟩ : Mem).le μ' ∧ GoodE X' μ' ⟨l', st₁.sto ++ [.list (((List.range items.length).filter keep).map val)]⟩ s' ∧ Same s₂ s' | .error _ => False) →
      ∃ m, s'.heap.Ns (s₂.heap.push (listOf ([] : List Value).toArray 0)).objs.size m ∧ ∀ h', Heap.SameBut (s₂.heap.push (listOf ([] : List Value).toArray 0)).objs.size s'.heap h' →
        match r with | .ok _ => Post X μ s (fun μ a => VR μ a (.loc st₁.sto.length)) ⟨st₁.loc, st₁.sto ++ [.list (((List.range items.length).filter keep).map val)]⟩ (.ref s₂.heap.objs.size) { s' with heap := h' } | .error x => W X (passOn "comprehension.variables-let-go" x (compEnv scope (s₂.heap.push (listOf ([] : List Value).toArray 0)).objs.size X.env)) (Post X μ s (fun μ a => VR μ a (.loc st₁.sto.length)) ⟨st₁.loc, st₁.sto ++ [.list (((List.range items.length).filter keep).map val)]⟩) { s' with heap := h' } := fun r s' hr => by
    cases r with
    | error x => exact hr.elim
    | ok fl =>
      refine hG fun Z z => ?_; obtain ⟨μ', l', le, ⟨m', objs', G₂⟩, sm⟩ := hr; refine z ?_; clear z
      have hloc : LocR μ' m st₁.loc := fun x v e => by
        refine hG fun Z z => ?_; obtain ⟨a, h1, h2⟩ := G.loc x v e; refine z ?_; clear z
        exact ⟨a, h1, (VR.swap (μ := ⟨μ₂.φ, hs ++ μ₂.hid⟩) (μ' := μ₂) rfl (fun a vs h => by simpa using Mem.le.swap (hs' := []) nt a vs h) h2).mono ((Mem.le.snoc μ₂ _).trans le)⟩
      have GX := back μ' _ s' m' objs' hloc G₂
      have hCL : X'.L = (s₂.heap.push (listOf ([] : List Value).toArray 0)).objs.size := hL
      refine ⟨m', hCL ▸ G₂.fr.ns, fun h' hsb => ?_⟩
      have hXL : X.L < s₂.heap.objs.size := G.fr.ns.lt
      refine ⟨μ', le₂.trans ((Mem.le.snoc μ₂ _).trans le), .loc _ _ (le.φ _ _ hDφ), ⟨m, objs', GX.sameBut hsb (by rw [hCsz]; exact Nat.ne_of_gt (Nat.lt_succ_of_lt hXL)) ?_ (fun p hp => hCL ▸ (G₂.news p hp).2.1)⟩, e₂.trans (sm.trans (.mk s' h' s'.toks))⟩
      cases q : X.h₀.get? (s₂.heap.push (listOf ([] : List Value).toArray 0)).objs.size with
      | none => rfl
      | some o =>
        have := Heap.lt_size (G.fr.keep _ _ q)
        rw [hCsz] at this
        exact absurd this (Nat.not_lt.mpr (Nat.le_succ _))
  have hloop2 := codeAny_mono hloop fin
  refine codeAny_compStart_list hloop2 ?_
  have hself := hI.self 0 _ ⟨μ₂.φ ++ [s₂.heap.objs.size], μ₂.hid⟩ _ hs h00 ⟨_, _, G'⟩ (fun it' s' => it' = .ref I ∧ s' = { s₂ with heap := h₁, toks := s₂.toks + ([] : List (Str × Value)).length }) ⟨rfl, rfl⟩
  rw [W, hA, sub.prog, sub.w] at hself
  refine wpAny_mono hself (fun it' s' h => ?_) fun _ _ x => x.elim
  obtain ⟨rfl, rfl⟩ := h
  exact hloop2
end


section
variable {X : Cx} {st st₁ st₂ st₃ st' : PSt}

theorem calls1 {f a v : PV} (h : ∀ μ s x y, GoodE X μ st s → VR μ x f → VR μ y a → W X (call x [y] []) (Post X μ s (fun μ r => VR μ r v) st') s) : Calls X f [a] st v st' := fun μ s x ys g hf hy => by
  cases hy with
  | cons w _ _ _ hw hy => cases hy; exact h μ s x w g hf hw
theorem calls2 {f a b v : PV} (h : ∀ μ s x y z, GoodE X μ st s → VR μ x f → VR μ y a → VR μ z b → W X (call x [y, z] []) (Post X μ s (fun μ r => VR μ r v) st') s) : Calls X f [a, b] st v st' := fun μ s x ys g hf hy => by
  cases hy with
  | cons w _ _ _ hw hy => cases hy with
    | cons w₂ _ _ _ hw₂ hy => cases hy; exact h μ s x w w₂ g hf hw hw₂

theorem Calls.len_list {n : Nat} {xs : List PV} (hp : st.sto[n]? = some (.list xs)) (hl : xs.length < 2 ^ 62) : Calls X (.glob (.builtin "len")) [.loc n] st (.int xs.length) st := calls1 fun μ s x y g hf hy => by
  cases hf
  cases hy with
  | loc n a hφ =>
    obtain ⟨vs, hL, hs⟩ := g.list hφ hp
    have hn := hs.length
    refine call_len_list hL (by simp only [List.size_toArray]; omega) ?_
    simp only [List.size_toArray, hn]
    exact .val g (.int _ _) _
theorem Calls.len_str {l : List Nat} (hl : l.length < 2 ^ 62) : Calls X (.glob (.builtin "len")) [.str l] st (.int l.length) st := calls1 fun μ s x y g hf hy => by
  cases hf; cases hy
  refine P.len_str (by rw [T_len]; omega) ?_
  rw [T_len]
  exact .val g (.int _ _) _
theorem Calls.len_tup {xs : List PV} (hl : xs.length < 2 ^ 62) : Calls X (.glob (.builtin "len")) [.tup xs] st (.int xs.length) st := calls1 fun μ s x y g hf hy => by
  cases hf
  cases hy with
  | tup a vs xs hm hs =>
    obtain ⟨m, objs, G⟩ := g
    have ho := (G.news _ (List.mem_append_right _ hm)).1
    have ht : IsTup s.heap a vs.toArray := ⟨_, ho, rfl, _, rfl⟩
    have hn := hs.length
    refine PyProof.Rows.len_tuple ht (by simp only [List.size_toArray]; omega) ?_
    simp only [List.size_toArray, hn]
    exact .val ⟨m, objs, G⟩ (.int _ _) _
theorem Calls.ord {c : Nat} : Calls X (.glob (.builtin "ord")) [.str [c]] st (.int c) st := calls1 fun μ s x y g hf hy => by
  cases hf; cases hy
  exact P.ord_of_char (.val g (.int _ _) _)
theorem Calls.chr {i : Int} (h0 : 0 ≤ i) (h1 : i ≤ 1114111) : Calls X (.glob (.builtin "chr")) [.int i] st (.str [i.toNat]) st := calls1 fun μ s x y g hf hy => by
  cases hf; cases hy
  exact chr_of_range h0 h1 (.val g (.str [i.toNat] _) _)
theorem Calls.min2 {k : Nat} (ok : X.Ok k) {a b : Int} : Calls X (.glob (.builtin "min")) [.int a, .int b] st (.int (min a b)) st := calls2 fun μ s x y z g hf hy hz => by
  cases hf; cases hy; cases hz
  refine min_two_ints ok.hh fun h' tk hk => ?_
  refine .intro ?_ (g.keeps hk) (.mk s h' tk)
  by_cases h : b < a
  · rw [if_pos h, show min a b = b by omega]; exact .int _ _
  · rw [if_neg h, show min a b = a by grind]; exact .int _ _
theorem ints_of {μ : Mem} : ∀ {vs : List Value} {is : List Int}, VRs μ vs (is.map .int) → ∃ ys : List (Int × Tok), vs = ys.map (fun p => Value.int p.1 p.2) ∧ ys.map (·.1) = is
  | vs, [], h => by cases h; exact ⟨[], rfl, rfl⟩
  | vs, i :: is, h => by
    cases h with
    | cons v x vs xs hv hs =>
      cases hv with
      | int i t =>
        obtain ⟨ys, h1, h2⟩ := ints_of hs
        exact ⟨(i, t) :: ys, by rw [h1]; rfl, by rw [← h2]; rfl⟩
theorem Calls.min_list {k : Nat} (ok : X.Ok k) {n : Nat} {is : List Int} {m : Int} (hp : st.sto[n]? = some (.list (is.map .int))) (hm : m ∈ is) (hle : ∀ i ∈ is, m ≤ i) : Calls X (.glob (.builtin "min")) [.loc n] st (.int m) st := calls1 fun μ s x y g hf hy => by
  cases hf
  cases hy with
  | loc n a hφ =>
    obtain ⟨vs, hL, hs⟩ := g.list hφ hp
    obtain ⟨ys, rfl, rfl⟩ := ints_of hs
    have e : (ys.map (fun p => Value.int p.1 p.2)).toArray = intItems ys.toArray := by simp [intItems]
    rw [e] at hL
    have hne : 0 < ys.toArray.size := by
      cases ys with
      | nil => simp at hm
      | cons _ _ => simp
    refine min_intList ok.hh hL hne fun v h' tk hv hk => ?_
    obtain ⟨t, rfl⟩ := intItems_at hv
    refine .intro ?_ (g.keeps hk) (.mk s h' tk)
    have hlt := argBest_lt (numAt ys.toArray) (ys.toArray.size - 1)
    have key : numAt ys.toArray (argBest (fun i j => decide (numAt ys.toArray i < numAt ys.toArray j)) (ys.toArray.size - 1)) = m := by
      have h1 := hlt.1
      have h2 := hlt.2
      have mem : ∀ i, i < ys.length → numAt ys.toArray i ∈ ys.map (·.1) := fun i hi => by
        rw [numAt_eq]
        have : (ys.map (·.1))[i]? = some (ys[i].1) := by simp [hi]
        rw [List.getD_eq_getElem?_getD, this]
        exact List.mem_of_getElem? this
      have ge := hle _ (mem (argBest (fun i j => decide (numAt ys.toArray i < numAt ys.toArray j)) (ys.toArray.size - 1)) (by simp only [List.size_toArray] at h1 hne ⊢; omega))
      obtain ⟨j, hj⟩ := List.mem_iff_getElem?.mp hm
      have hjl : j < ys.length := by have := (List.getElem?_eq_some_iff.mp hj).1; simpa using this
      have hj2 : numAt ys.toArray j = m := by
        rw [numAt_eq, List.getD_eq_getElem?_getD, hj]; rfl
      have h3 := h2 j (by simp only [List.size_toArray]; omega)
      rw [hj2] at h3
      exact Int.le_antisymm h3 ge
    rw [key]; exact .int _ _
theorem Calls.abs {a : Int} : Calls X (.glob (.builtin "abs")) [.int a] st (.int (a.natAbs : Int)) st := calls1 fun μ s x y g hf hy => by
  cases hf; cases hy
  refine call_abs_int fun u tk => ?_
  refine .intro ?_ (g.toks rfl) (.mk s s.heap tk)
  by_cases h : a < 0
  · rw [if_pos h, show (a.natAbs : Int) = -a by omega]; exact .int _ _
  · rw [if_neg h, show (a.natAbs : Int) = a by omega]; exact .int _ _
theorem Calls.lower {l l' : List Nat} (h : Txt.lower (T l) = T l') (hl : l.length ≤ 5592405) : Calls X (.glob (.builtin "str.lower")) [.str l] st (.str l') st := calls1 fun μ s x y g hf hy => by
  cases hf; cases hy
  refine PyProof.Rows.SCL.lower (by rw [T_len]; exact hl) fun _ => ?_
  rw [h]; exact .val g (.str _ _) _
theorem join_nil : ∀ ls : List (List Nat), Str.join (T []) (ls.map T) = T ls.flatten
  | [] => rfl
  | [x] => by simp [Str.join]
  | x :: y :: r => by
    have ih := join_nil (y :: r)
    simp only [List.map_cons] at ih ⊢
    rw [Str.join, ih, T_app, T_app]
    · simp
    · simp
theorem strs_of {μ : Mem} : ∀ {vs : List Value} {ls : List (List Nat)}, VRs μ vs (ls.map .str) → StrsAre vs (ls.map T)
  | vs, [], h => by cases h; exact .nil
  | vs, l :: ls, h => by
    cases h with
    | cons v x vs xs hv hs =>
      cases hv with
      | str l t => exact .cons _ _ (strs_of hs)
theorem sum_le_flat (ls : List (List Nat)) : ((ls.map T).map (·.length)).sum = ls.flatten.length := by
  induction ls with
  | nil => rfl
  | cons x r ih => simp only [List.map_cons, List.sum_cons, List.flatten_cons, List.length_append, ih, T_len]
theorem Calls.join {n : Nat} {ls : List (List Nat)} (hp : st.sto[n]? = some (.list (ls.map .str))) (hl : ls.flatten.length ≤ 16777216) : Calls X (.glob (.builtin "str.join")) [.str [], .loc n] st (.str ls.flatten) st := calls2 fun μ s x y z g hf hy hz => by
  cases hf; cases hy
  cases hz with
  | loc n a hφ =>
    obtain ⟨vs, hL, hs⟩ := g.list hφ hp
    refine join_list hL (ys := ls.map T) (strs_of hs) (by rw [sum_le_flat, T_len]; simp only [List.length_nil, Nat.mul_zero, Nat.add_zero]; exact hl) fun t' k => ?_
    have : Txt.join (T []) (ls.map T) = T ls.flatten := (PySem.StrLaws.glued_eq_join _ _).trans (join_nil ls)
    rw [this]; exact .val g (.str _ _) _

-- lists
theorem Op.add_list {n m : Nat} {xs ys : List PV} (hx : st.sto[n]? = some (.list xs)) (hy : st.sto[m]? = some (.list ys)) (hl : xs.length + ys.length ≤ sizeLine) :
    Op2 X (binaryOp .Add) (.loc n) (.loc m) st (.loc st.sto.length) ⟨st.loc, st.sto ++ [.list (xs ++ ys)]⟩ := fun μ s x y g h1 h2 => by
  cases h1 with
  | loc n a hφ =>
  cases h2 with
  | loc m b hφ2 =>
    obtain ⟨ms, objs, G⟩ := id g
    obtain ⟨o, _, hr, hg, _⟩ := G.obj hφ hx
    obtain ⟨o2, _, hr2, hg2, _⟩ := G.obj hφ2 hy
    cases hr with
    | list vs c xs hs =>
    cases hr2 with
    | list us c2 ys hs2 =>
      have e1 := hs.length
      have e2 := hs2.length
      refine PySem.P.add_list hg hg2 ?_ (by simp only [List.size_toArray]; grind)
      have e : vs.toArray ++ us.toArray = (vs ++ us).toArray := by simp
      rw [e]
      exact newListP g (hs.append hs2) s.toks 0

-- data
mutual
noncomputable def PV.data : PV → PyData
  | .none => .none
  | .bool b => .bool b
  | .int i => .int i
  | .str l => .str (T l)
  | .tup xs => .tuple (PV.datas xs)
  | .loc _ => .none
  | .glob _ => .none
noncomputable def PV.datas : List PV → List PyData
  | [] => []
  | x :: r => x.data :: PV.datas r
end
mutual
noncomputable def PV.flat : PV → Bool
  | .loc _ => false
  | .glob _ => false
  | .tup xs => PV.flats xs
  | _ => true
noncomputable def PV.flats : List PV → Bool
  | [] => true
  | x :: r => x.flat && PV.flats r
end
mutual
theorem VR.reads {μ : Mem} {s : Shared} (g : GoodE X μ st s) : ∀ {v : Value} {x : PV}, VR μ v x → x.flat = true → ∃ as, Reads s.heap v x.data as
  | _, _, .none, _ => ⟨_, .none⟩
  | _, _, .bool b, _ => ⟨_, .bool b⟩
  | _, _, .int i t, _ => ⟨_, .int i t⟩
  | _, _, .str l t, _ => ⟨_, .str _ t⟩
  | _, _, .loc n a h, e => by simp [PV.flat] at e
  | _, _, .glob v, e => by simp [PV.flat] at e
  | _, _, .tup a vs xs h hs, e => by
    obtain ⟨as, r⟩ := VRs.reads g hs (by simpa [PV.flat] using e)
    exact ⟨as, .tuple (g.at h) rfl rfl (by simpa using r)⟩
theorem VRs.reads {μ : Mem} {s : Shared} (g : GoodE X μ st s) : ∀ {vs : List Value} {xs : List PV}, VRs μ vs xs → PV.flats xs = true → ∃ as, ReadsAll s.heap vs (PV.datas xs) as
  | _, _, .nil, _ => ⟨_, .nil⟩
  | _, _, .cons v x vs xs h hs, e => by
    simp only [PV.flats, Bool.and_eq_true] at e
    obtain ⟨as, r⟩ := VR.reads g h e.1
    obtain ⟨bs, r2⟩ := VRs.reads g hs e.2
    exact ⟨as ++ bs, .cons r r2⟩
end
theorem reads_list {μ : Mem} {s : Shared} (g : GoodE X μ st s) {n : Nat} {a : Addr} {xs : List PV} (hφ : μ.φ[n]? = some a) (hp : st.sto[n]? = some (.list xs)) (hf : PV.flats xs = true) : ∃ as, Reads s.heap (.ref a) (.list (PV.datas xs)) as := by
  obtain ⟨vs, ⟨o, ho, hc, k, hd⟩, hs⟩ := g.list hφ hp
  obtain ⟨as, r⟩ := hs.reads g hf
  exact ⟨_, .list ho hc hd (by simpa using r)⟩
theorem Op.eq_list {k : Nat} (ok : X.Ok k) {n m : Nat} {xs ys : List PV} (hx : st.sto[n]? = some (.list xs)) (hy : st.sto[m]? = some (.list ys)) (fx : PV.flats xs = true) (fy : PV.flats ys = true) (cx : PyData.canLayAll0 (PV.datas xs) = true) (cy : PyData.canLayAll0 (PV.datas ys) = true)
    (hd : PyData.depthAll (PV.datas xs) ≤ 50) : Op2 X (compareOp .Eq) (.loc n) (.loc m) st (.bool (PyData.eqvAll (PV.datas xs) (PV.datas ys))) st := fun μ s x y g h1 h2 => by
  cases h1 with
  | loc n a hφ =>
  cases h2 with
  | loc m b hφ2 =>
    obtain ⟨as, r1⟩ := reads_list g hφ hx fx
    obtain ⟨bs, r2⟩ := reads_list g hφ2 hy fy
    refine PySem.SeqAt.compareEq_reads r1 r2 cx cy ?_ ?_
    · have := ok.units
      have : (PyData.list (PV.datas xs)).depth = PyData.depthAll (PV.datas xs) + 1 := rfl
      omega
    · have : PyData.eqv (.list (PV.datas xs)) (.list (PV.datas ys)) = PyData.eqvAll (PV.datas xs) (PV.datas ys) := by rw [PyData.eqv]
      rw [this]; exact .val0 g (.bool _)
theorem Op.ne_list {k : Nat} (ok : X.Ok k) {n m : Nat} {xs ys : List PV} (hx : st.sto[n]? = some (.list xs)) (hy : st.sto[m]? = some (.list ys)) (fx : PV.flats xs = true) (fy : PV.flats ys = true) (cx : PyData.canLayAll0 (PV.datas xs) = true) (cy : PyData.canLayAll0 (PV.datas ys) = true)
    (hd : PyData.depthAll (PV.datas xs) ≤ 50) : Op2 X (compareOp .NotEq) (.loc n) (.loc m) st (.bool (!PyData.eqvAll (PV.datas xs) (PV.datas ys))) st := fun μ s x y g h1 h2 => by
  cases h1 with
  | loc n a hφ =>
  cases h2 with
  | loc m b hφ2 =>
    obtain ⟨as, r1⟩ := reads_list g hφ hx fx
    obtain ⟨bs, r2⟩ := reads_list g hφ2 hy fy
    refine PySem.SeqAt.compareNe_reads r1 r2 cx cy ?_ ?_
    · have := ok.units
      have : (PyData.list (PV.datas xs)).depth = PyData.depthAll (PV.datas xs) + 1 := rfl
      omega
    · have : PyData.eqv (.list (PV.datas xs)) (.list (PV.datas ys)) = PyData.eqvAll (PV.datas xs) (PV.datas ys) := by rw [PyData.eqv]
      rw [this]; exact .val0 g (.bool _)

-- tuples on the left
theorem VR.isTuple {μ : Mem} {s : Shared} (g : GoodE X μ st s) {v : Value} {xs : List PV} (h : VR μ v (.tup xs)) : ∃ a vs, v = .ref a ∧ s.heap.IsTuple a vs.toArray ∧ VRs μ vs xs := by
  cases h with
  | tup a vs xs hm hs => exact ⟨a, vs, rfl, ⟨_, g.at hm, rfl, _, rfl⟩, hs⟩
theorem GoodE.extBut {μ : Mem} {s : Shared} (g : GoodE X μ st s) {h' : Heap} (hx : Heap.ExtBut s.heap.objs.size s.heap h') : GoodE X μ st { s with heap := h' } :=
  g.keeps (tk := s.toks) fun b o e => hx b o (Nat.ne_of_lt (Heap.lt_size e)) e
theorem As.tup2 {k : Nat} (ok : X.Ok k) {t₁ t₂ : Expr} {kk : Nat} {p : Pos} {a b : PV} (h₁ : As X t₁ a st st₁) (h₂ : As X t₂ b st₁ st₂) (he : assignEach [t₁, t₂] X.env = [(false, assign t₁ X.env), (false, assign t₂ X.env)]) : As X (.Tuple [t₁, t₂] kk p) (.tup [a, b]) st st₂ := fun μ s x g hx => by
  obtain ⟨ad, vs, rfl, ht, hs⟩ := hx.isTuple g
  cases hs with
  | cons v _ _ _ hv hs => cases hs with
    | cons u _ _ _ hu hs =>
      cases hs
      refine wpAny_assign_Tuple ok.hh ht (by rw [he]; rfl) (by rw [he]; rfl) fun h' hx => ?_
      rw [he]
      show W X (do holding [u] (assign t₁ X.env v); do holding [] (assign t₂ X.env u); pure ()) _ _
      have g' := g.extBut hx
      refine wpAny_bind (wpAny_holding ((h₁ μ _ v g' hv).post fun _ μ₁ s₁ le₁ _ g₁ e₁ => ?_))
      refine wpAny_bind (wpAny_holding ((h₂ μ₁ s₁ u g₁ (hu.mono le₁)).post fun _ μ₂ s₂ le₂ _ g₂ e₂ => wpAny_pure ?_))
      exact ⟨μ₂, le₁.trans le₂, trivial, g₂, (Same.mk s h' s.toks).trans (e₁.trans e₂)⟩
theorem Ex.swap {k : Nat} (ok : X.Ok k) {e : Expr} {elts : List Expr} {kk : Nat} {tp p : Pos} {x y : Str} {a b : PV} {l' l'' : List (Str × PV)} (h : Ev X e st (.tup [a, b]) st₁) (kx : X.env.kindOf x = some .local) (ky : X.env.kindOf y = some .local) (h1 : Put st₁.loc y b l') (h2 : Put l' x a l'')
    (hs : swapsWithSole [.Tuple elts kk tp] e p.line X.env = pure false) (hw : swappedStores [.Tuple elts kk tp] e X.env = pure (some [x, y])) : Ex X (.Assign [.Tuple elts kk tp] e p) st .next ⟨l'', st₁.sto⟩ := fun μ s g =>
  Assign_Tuple_swapped ((h μ s g).post fun v μ₁ s₁ le₁ hv g₁ e₁ => by
    obtain ⟨ad, vs, rfl, ht, hvs⟩ := hv.isTuple g₁
    cases hvs with
    | cons v _ _ _ hv hvs => cases hvs with
      | cons u _ _ _ hu hvs =>
        cases hvs
        show W X (unpackItems (.ref ad) (#[v, u] : Array Value).size Option.none) _ s₁
        refine unpackItems_tuple ok.hh ht fun h' hx => ?_
        have g' := g₁.extBut hx
        show W X (do holding [v] (bindName X.env y u); do holding [] (bindName X.env x v); pure ()) _ _
        refine wpAny_bind (wpAny_holding (wpAny_bindName ((storeLocal ok g' hu ky h1).post fun _ μ₂ s₂ le₂ _ g₂ e₂ => ?_)))
        refine wpAny_bind (wpAny_holding (wpAny_bindName ((storeLocal ok g₂ (hv.mono le₂) kx h2).post fun _ μ₃ s₃ le₃ _ g₃ e₃ => wpAny_pure ?_)))
        exact ⟨μ₃, le₁.trans (le₂.trans le₃), .next, g₃, e₁.trans ((Same.mk s₁ h' s₁.toks).trans (e₂.trans e₃))⟩) hs hw
end

noncomputable abbrev P1 : Program := PySem.Challenge.pw_rs0227_01
noncomputable def fnP (i : Nat) : Arguments := match P1.main.body[i]? with | some (.FunctionDef _ a _ _ _ _ _ _ _ _) => a | _ => ⟨[], [], none, [], [], none, []⟩
noncomputable def fnB (i : Nat) : List Stmt := match P1.main.body[i]? with | some (.FunctionDef _ _ b _ _ _ _ _ _ _) => b | _ => []
noncomputable def fnS (i : Nat) : Scope := match P1.main.body[i]? with | some (.FunctionDef _ _ _ _ _ _ s _ _ _) => s | _ => default
/-- the defs that the law reaches -/
theorem lkp_mem {α : Type} [BEq α] [LawfulBEq α] {β : Type} : ∀ (L : List (α × β)) (p : α) (i : β), L.lookup p = some i → (p, i) ∈ L
  | [], p, i, h => by cases h
  | q :: r, p, i, h => by
    obtain ⟨q1, q2⟩ := q
    rw [List.lookup_cons] at h
    cases e : p == q1 with
    | true => rw [e] at h; cases h; rw [eq_of_beq e]; exact .head _
    | false => rw [e] at h; exact .tail _ (lkp_mem r p i h)
noncomputable def fnL : List (Nat × Str) := [(63, "ISTERMINAL"), (64, "ISNONTERMINAL"), (65, "ISEOF"), (8, "in_table_b1"), (10, "map_table_b3"), (4, "_substitution_cost"), (5, "_levenshtein_distance"), (67, "_law_numbers"), (68, "_law_operators"), (69, "_law_book"), (70, "_law_text"), (71, "_law_cut"), (72, "_law_rules"), (73, "_law_sentences"), (74, "_law_nearest"), (75, "_law_alone"), (76, "_law_part"), (77, "_law_table")]
noncomputable def fName (i : Nat) : Option Str := fnL.lookup i
noncomputable def gIntL : List (Str × Int) := [("NT_OFFSET", 256), ("ENDMARKER", 0), ("_MAX_STRING_SIZE", 40), ("_MOVE_COST", 2), ("_CASE_COST", 1)]
noncomputable def gInt (j : Nat) : Option (Str × Int) := gIntL[j]?
noncomputable def gBiL : List (Str × Value) := [("len", .builtin "len"), ("ord", .builtin "ord"), ("chr", .builtin "chr"), ("sum", .builtin "sum"), ("min", .builtin "min"), ("range", .type "range"), ("list", .type "list"), ("enumerate", .type "enumerate"), ("abs", .builtin "abs"), ("divmod", .builtin "divmod")]
noncomputable def gBi (j : Nat) : Option (Str × Value) := gBiL[j]?
noncomputable def FnAt (K : Frag) (name : Str) (i : Nat) (a : Addr) : Prop := ∃ oc od pm an cd ct osl, nsIn K mainGlobals name = some (some (.ref a)) ∧
  K.lookup a = some ⟨oc, od, .func (fnOf name name (fnP i) (fnB i) (fnS i) .none .none .none pm an cd ct), osl⟩ ∧ codeIn K cd name = true
noncomputable def nth (l : List Stmt) (i : Nat) : Stmt := match l[i]? with | some s => s | none => .Pass ⟨0, 0, 0, 0⟩
/-- the tables of the text, read off its statements -/
noncomputable def litPairsOf : List (Option Expr) → List Expr → List (Int × List Nat)
  | some (.Constant (.int i) _ _) :: ks, .Constant (.str s) _ _ :: vs => (i, s.cps.toList) :: litPairsOf ks vs
  | _, _ => []
noncomputable def b3L : List (Int × List Nat) := match nth P1.main.body 9 with | .Assign _ (.Dict ks vs _) _ => litPairsOf ks vs | _ => []
noncomputable def b3F (i : Int) : Option (List Nat) := b3L.lookup i
noncomputable def constOf (x : Str) : List Stmt → Int
  | .Assign [.Name y _] (.Constant (.int i) _ _) _ :: r => if y = x then i else constOf x r
  | _ :: r => constOf x r
  | [] => 0
noncomputable def namePairsOf (body : List Stmt) : List (Option Expr) → List Expr → List (List Nat × Int)
  | some (.Constant (.str s) _ _) :: ks, .Name x _ :: vs => (s.cps.toList, constOf x body) :: namePairsOf body ks vs
  | _, _ => []
noncomputable def exL : List (List Nat × Int) := match nth P1.main.body 62 with | .Assign _ (.Dict ks vs _) _ => namePairsOf P1.main.body ks vs | _ => []
noncomputable def exF (l : List Nat) : Option Int := exL.lookup l
noncomputable def b1L : List Int := [173, 847, 6150, 6155, 6156, 6157, 8203, 8204, 8205, 8288, 65279] ++ (List.range 16).map fun i : Nat => 65024 + (i : Int)
structure Top (ad : Nat → Addr) (w : World) (K : Frag) : Prop where
  fn : ∀ i x, fName i = some x → FnAt K x i (ad i)
  int : ∀ j x i, gInt j = some (x, i) → ∃ t, nsIn K mainGlobals x = some (some (.int i t))
  bi : ∀ j x v, gBi j = some (x, v) → nsIn K mainGlobals x = some none ∧ nsIn K builtinsNs x = some (some v)
  b1 : ∃ a o, nsIn K mainGlobals "b1_set" = some (some (.ref a)) ∧ K.lookup a = some o ∧ ∀ (prog : Program) (h : Heap), h.get? a = some o → h.SetOf (PySem.intKind prog w) a (fun i => b1L.contains i) 27
  b3 : ∃ a o, nsIn K mainGlobals "b3_exceptions" = some (some (.ref a)) ∧ K.lookup a = some o ∧ (a == sysModules) = false ∧
    ∀ (prog : Program) (h : Heap), h.get? a = some o → ∃ F, h.MapOf (PySem.intKind prog w) a F ∧ ∀ i, (∀ l, b3F i = some l → ∃ t, F i = some (.str (T l) t)) ∧ (b3F i = none → F i = none)
  ex : ∃ a o, nsIn K mainGlobals "EXACT_TOKEN_TYPES" = some (some (.ref a)) ∧ K.lookup a = some o ∧ (a == sysModules) = false ∧
    ∀ (prog : Program) (h : Heap), h.get? a = some o → ∃ F, h.MapOf (PySem.strKind prog w) a F ∧ ∀ l, (∀ i, exF l = some i → ∃ t, F (T l) = some (.int i t)) ∧ (exF l = none → F (T l) = none)

section
variable {X X' : Cx} {st st₁ st₂ st₃ st' : PSt} {ad : Nat → Addr} {k : Nat}
theorem Top.sub (t : Top ad X.w X.K) (s : X.Sub X') : Top ad X'.w X'.K := by rw [s.w, s.K]; exact t
theorem Ev.gInt (j : Nat) (ok : X.Ok k) (tp : Top ad X.w X.K) {x : Str} {i : Int} {p : Pos} (hk : X.env.kindOf x = some .globalImplicit) (hm : Mine.gInt j = some (x, i)) (hd : (x == ("__debug__" : Str)) = false) : Ev X (.Name x p) st (.int i) st := by
  obtain ⟨t, h⟩ := tp.int _ _ _ hm
  exact Ev.gl ok hk (.inl h) (fun μ => .int i t) hd
theorem Ev.bi (j : Nat) (ok : X.Ok k) (tp : Top ad X.w X.K) {x : Str} {v : Value} {p : Pos} (hk : X.env.kindOf x = some .globalImplicit) (hm : gBi j = some (x, v)) (hd : (x == ("__debug__" : Str)) = false) : Ev X (.Name x p) st (.glob v) st :=
  Ev.gl ok hk (.inr (tp.bi _ _ _ hm)) (fun μ => .glob v) hd
theorem Ev.fn (i : Nat) (ok : X.Ok k) (tp : Top ad X.w X.K) {x : Str} {p : Pos} (hk : X.env.kindOf x = some .globalImplicit) (hm : fName i = some x) (hd : (x == ("__debug__" : Str)) = false) : Ev X (.Name x p) st (.glob (.ref (ad i))) st := by
  obtain ⟨oc, od, pm, an, cd, ct, osl, h, _⟩ := tp.fn _ _ hm
  exact Ev.gl ok hk (.inl h) (fun μ => .glob _) hd
theorem Top.callee (i : Nat) (tp : Top ad X.w X.K) {x : Str} (hm : fName i = some x) : Callee X (.ref (ad i)) := by
  obtain ⟨oc, od, pm, an, cd, ct, osl, _, h, _⟩ := tp.fn _ _ hm
  exact .inr (.inr ⟨_, rfl, _, _, h, rfl⟩)
/-- a call of a def, by what it does -/
theorem Ev.callF (i : Nat) (ok : X.Ok k) (tp : Top ad X.w X.K) {x : Str} {np p : Pos} {e : Expr} {es : List Expr} {vs : List PV} {v : PV} (hk : X.env.kindOf x = some .globalImplicit) (hm : fName i = some x) (hd : (x == ("__debug__" : Str)) = false)
    (h : Evs X (e :: es) st vs st₁) (hx : Plain (e :: es)) (hc : Calls X (.glob (.ref (ad i))) vs st₁ v st₂) : Ev X (.Call (.Name x np) (e :: es) [] p) st v st₂ :=
  Ev.call ok (Ev.fn i ok tp hk hm hd) (tp.callee i hm) h hx hc
theorem Ev.callB (j : Nat) (ok : X.Ok k) (tp : Top ad X.w X.K) {x : Str} {np p : Pos} {id : String} {e : Expr} {es : List Expr} {vs : List PV} {v : PV} (hk : X.env.kindOf x = some .globalImplicit) (hm : gBi j = some (x, .builtin id)) (hd : (x == ("__debug__" : Str)) = false)
    (h : Evs X (e :: es) st vs st₁) (hx : Plain (e :: es)) (hc : Calls X (.glob (.builtin id)) vs st₁ v st₂) : Ev X (.Call (.Name x np) (e :: es) [] p) st v st₂ :=
  Ev.call ok (Ev.bi j ok tp hk hm hd) (.inl ⟨_, rfl⟩) h hx hc

theorem Calls.fn (i : Nat) {x : Str} (ns : List Str) (ok : X.Ok (k + 1)) (tp : Top ad X.w X.K) {pvs : List PV} {v : PV} {loc₀ : List (Str × PV)} {sto' : List PO} (hm : fName i = some x)
    (hb : ∀ pm an cd ct, Binds (fnOf x x (fnP i) (fnB i) (fnS i) .none .none .none pm an cd ct) ns) (hlen : pvs.length = ns.length) (hl0 : (ns.zip pvs).reverse = loc₀)
    (hloc : (ns.all fun y => decide ((fnS i).names.lookup y = some .local)) = true) (hcell : ((fnS i).names.all fun x => decide (x.2 ≠ .cell)) = true) (hco : (fnS i).isCoroutine = false) (hgen : (fnS i).isGenerator = false) (hk : (fnS i).kind = .function)
    (hbody : ∀ X' : Cx, X'.Ok k → Top ad X'.w X'.K → X'.env.scope = fnS i → ∃ loc', Exs X' (fnB i) ⟨loc₀, st.sto⟩ (.ret v) ⟨loc', sto'⟩) : Calls X (.glob (.ref (ad i))) pvs st v ⟨st.loc, sto'⟩ := by
  obtain ⟨oc, od, pm, an, cd, ct, osl, _, ho, hcd⟩ := tp.fn _ _ hm
  exact fun μ s x ys g hf hys => by
    obtain ⟨loc', h⟩ : ∃ loc', ∀ X' : Cx, X'.Ok k → X.Sub X' → X'.env = envOf _ (fnS i) X'.L (ad i) cd → Exs X' (fnB i) ⟨loc₀, st.sto⟩ (.ret v) ⟨loc', sto'⟩ := ⟨[], fun X' ok' sub henv => by
      obtain ⟨l, h⟩ := hbody X' ok' (tp.sub sub) (by rw [henv]; rfl)
      exact fun μ s g => (h μ s g).mono fun a s' ⟨μ', le, r, ⟨m, objs, G⟩, e⟩ => ⟨μ', le, r, ⟨m, objs, G.fr, (fun x v e => by cases e), G.news, G.sto, G.len, G.nodup, G.pin⟩, e⟩⟩
    exact Calls.def ok ho hcd (hb _ _ _ _) hlen hl0 (fun y hy => of_decide_eq_true (List.all_eq_true.mp hloc y hy)) (fun y hy => of_decide_eq_true (List.all_eq_true.mp hcell y hy)) hco hgen hk h μ s x ys g hf hys

theorem kind_of {i : Nat} (h : X.env.scope = fnS i) {x : Str} {kd : NameKind} (e : (fnS i).names.lookup x = some kd) : X.env.kindOf x = some kd := by
  show X.env.scope.names.lookup x = some kd
  rw [h]; exact e

theorem c63 (ok : X.Ok (k + 1)) (tp : Top ad X.w X.K) (x : Int) : Calls X (.glob (.ref (ad 63))) [.int x] st (.bool (decide (x < 256))) st := by
  refine Calls.fn 63 ["x"] ok tp rfl (fun _ _ _ _ vals h => by match vals, h with | [a], _ => rfl) rfl rfl (by decide +kernel) (by decide +kernel) rfl rfl rfl (fun X' ok' tp' henv => ?_)
  apply Exists.intro
  conv => arg 2; whnf
  exact Exs.ret (Ex.ret (Ev.cmp (Ev.local ok' (kind_of henv rfl) (.here _ _ _) (by decide)) (Ev.gInt 0 ok' tp' (kind_of henv rfl) rfl (by decide)) Op.lt_int rfl))
theorem c64 (ok : X.Ok (k + 1)) (tp : Top ad X.w X.K) (x : Int) : Calls X (.glob (.ref (ad 64))) [.int x] st (.bool (decide (x ≥ 256))) st := by
  refine Calls.fn 64 ["x"] ok tp rfl (fun _ _ _ _ vals h => by match vals, h with | [a], _ => rfl) rfl rfl (by decide +kernel) (by decide +kernel) rfl rfl rfl (fun X' ok' tp' henv => ?_)
  apply Exists.intro
  conv => arg 2; whnf
  exact Exs.ret (Ex.ret (Ev.cmp (Ev.local ok' (kind_of henv rfl) (.here _ _ _) (by decide)) (Ev.gInt 0 ok' tp' (kind_of henv rfl) rfl (by decide)) Op.ge_int rfl))
theorem c65 (ok : X.Ok (k + 1)) (tp : Top ad X.w X.K) (x : Int) : Calls X (.glob (.ref (ad 65))) [.int x] st (.bool (x == 0)) st := by
  refine Calls.fn 65 ["x"] ok tp rfl (fun _ _ _ _ vals h => by match vals, h with | [a], _ => rfl) rfl rfl (by decide +kernel) (by decide +kernel) rfl rfl rfl (fun X' ok' tp' henv => ?_)
  apply Exists.intro
  conv => arg 2; whnf
  exact Exs.ret (Ex.ret (Ev.cmp (Ev.local ok' (kind_of henv rfl) (.here _ _ _) (by decide)) (Ev.gInt 1 ok' tp' (kind_of henv rfl) rfl (by decide)) Op.eq_int rfl))
end


noncomputable def b3St : Stmt := nth P1.main.body 9
noncomputable def b3Keys : List (Option Expr) := match b3St with | .Assign _ (.Dict ks _ _) _ => ks | _ => []
noncomputable def b3Vals : List Expr := match b3St with | .Assign _ (.Dict _ vs _) _ => vs | _ => []
noncomputable def b3Pairs : List Pr := pairsOf b3Keys b3Vals
noncomputable def o11_0 (P : Params) : Obj := ⟨(.type "tuple"), none, (.seq #[] 0), #[]⟩
noncomputable def o12_1 (P : Params) : Obj := ⟨.none, none, (.fields #[]), #[]⟩
noncomputable def o13_2 (P : Params) : Obj := ⟨(.type "code"), none, (.fields #[(.str (Str.ofString "<module>") 182), (.str (Str.ofString "<module>") 183), (.str (Str.ofString "/claim/cut.py") 184), (.int 1 0), (.int 0 0), (.int 0 0), (.int 0 0), (.int 0 0), (.ref 11), (.bool false), (.int 181 0), (.ref 12), .none, .none, .none, .none, (.int 185 0), (.int 1 0), (.str (Str.ofString "/claim/cut.py") 186)]), #[]⟩
noncomputable def o14_3 (P : Params) : Obj := ⟨(.type "frame"), none, .plain, #[(some (.ref 13)), (some (.ref 3)), (some (.ref 3)), none, (some (.str (Str.ofString "__main__") 164)), none, (some (.ref 0))]⟩
noncomputable def T0 (P : Params) : BT := (.node (boot_o_0 P) (.node (boot_o_1 P) (.node (boot_o_3 P) (.node (boot_o_7 P) .nil .nil) (.node (o11_0 P) .nil .nil)) (.node (boot_o_5 P) (.node (boot_o_9 P) .nil .nil) (.node (o13_2 P) .nil .nil))) (.node (boot_o_2 P) (.node (boot_o_4 P) (.node (boot_o_8 P) .nil .nil) (.node (o12_1 P) .nil .nil)) (.node (boot_o_6 P) (.node (boot_o_10 P) .nil .nil) (.node (o14_3 P) .nil .nil))))
noncomputable abbrev n0 : Nat := 15
noncomputable abbrev k0 : Nat := 187
noncomputable abbrev q0 : Pos := ⟨0, 0, 0, 0⟩
noncomputable def o3_4 (P : Params) : Obj := ⟨(.type "dict"), none, (.dict #[⟨PyData.keyHash P (Str.ofString "__name__"), (.str (Str.ofString "__name__") 165), (.str (Str.ofString "cpy313.stringprep") 223)⟩, ⟨PyData.keyHash P (Str.ofString "__doc__"), (.str (Str.ofString "__doc__") 166), .none⟩, ⟨PyData.keyHash P (Str.ofString "__package__"), (.str (Str.ofString "__package__") 167), .none⟩, ⟨PyData.keyHash P (Str.ofString "__loader__"), (.str (Str.ofString "__loader__") 168), (.builtin "__main__.__loader__#opaque")⟩, ⟨PyData.keyHash P (Str.ofString "__spec__"), (.str (Str.ofString "__spec__") 169), .none⟩, ⟨PyData.keyHash P (Str.ofString "__annotations__"), (.str (Str.ofString "__annotations__") 170), (.ref 6)⟩, ⟨PyData.keyHash P (Str.ofString "__builtins__"), (.str (Str.ofString "__builtins__") 171), (.ref 4)⟩, ⟨PyData.keyHash P (Str.ofString "__file__"), (.str (Str.ofString "__file__") 173), (.str (Str.ofString "/claim/cut.py") 172)⟩, ⟨PyData.keyHash P (Str.ofString "__cached__"), (.str (Str.ofString "__cached__") 174), .none⟩, ⟨PyData.keyHash P (Str.ofString "_MAX_STRING_SIZE"), (.str (Str.ofString "_MAX_STRING_SIZE") 190), (.int 40 189)⟩, ⟨PyData.keyHash P (Str.ofString "_MOVE_COST"), (.str (Str.ofString "_MOVE_COST") 192), (.int 2 191)⟩, ⟨PyData.keyHash P (Str.ofString "_CASE_COST"), (.str (Str.ofString "_CASE_COST") 194), (.int 1 193)⟩, ⟨PyData.keyHash P (Str.ofString "_substitution_cost"), (.str (Str.ofString "_substitution_cost") 202), (.ref 21)⟩, ⟨PyData.keyHash P (Str.ofString "_levenshtein_distance"), (.str (Str.ofString "_levenshtein_distance") 222), (.ref 28)⟩] 14), #[]⟩
noncomputable def o12_5 (P : Params) : Obj := ⟨.none, none, (.fields #[(.int 5 0), (.int 0 0), (.ref 20), (.int 11 0), (.int 0 0), (.ref 27)]), #[]⟩
noncomputable def o15_6 (P : Params) : Obj := ⟨(.type "tuple"), none, (.seq #[] 0), #[]⟩
noncomputable def o16_7 (P : Params) : Obj := ⟨.none, none, (.fields #[]), #[]⟩
noncomputable def o17_8 (P : Params) : Obj := ⟨(.type "tuple"), none, (.seq #[(.str (Str.ofString "ch_a") 198), (.str (Str.ofString "ch_b") 199)] 0), #[]⟩
noncomputable def o18_9 (P : Params) : Obj := ⟨(.type "tuple"), none, (.seq #[] 0), #[]⟩
noncomputable def o19_10 (P : Params) : Obj := ⟨.none, none, (.func { name := (Str.ofString "_substitution_cost"), qualname := (Str.ofString "_substitution_cost"), params := fnP 4, body := .stmts (fnB 4), scope := fnS 4, globals := 0, closure := [], defaults := .none, kwdefaults := .none, doc := .none, pyModule := .none, annotations := none, code := .none, closureTuple := .none, builtins := 0 }), #[]⟩
noncomputable def o20_11 (P : Params) : Obj := ⟨(.type "code"), none, (.fields #[(.str (Str.ofString "_substitution_cost") 195), (.str (Str.ofString "_substitution_cost") 196), (.str (Str.ofString "/claim/cut.py") 197), (.int 5 0), (.int 2 0), (.int 0 0), (.int 0 0), (.int 3 0), (.ref 15), (.bool true), (.int 181 0), (.ref 16), .none, (.ref 17), (.ref 18), (.ref 19), (.int 200 0), (.int 5 0), (.str (Str.ofString "/claim/cut.py") 201)]), #[]⟩
noncomputable def o21_12 (P : Params) : Obj := ⟨(.type "function"), none, (.func { name := (Str.ofString "_substitution_cost"), qualname := (Str.ofString "_substitution_cost"), params := fnP 4, body := .stmts (fnB 4), scope := fnS 4, globals := 3, closure := [], defaults := .none, kwdefaults := .none, doc := .none, pyModule := (.str (Str.ofString "cpy313.traceback") 187), annotations := none, code := (.ref 20), closureTuple := .none, builtins := 0 }), #[]⟩
noncomputable def o22_13 (P : Params) : Obj := ⟨(.type "tuple"), none, (.seq #[] 0), #[]⟩
noncomputable def o23_14 (P : Params) : Obj := ⟨.none, none, (.fields #[]), #[]⟩
noncomputable def o24_15 (P : Params) : Obj := ⟨(.type "tuple"), none, (.seq #[(.str (Str.ofString "a") 206), (.str (Str.ofString "b") 207), (.str (Str.ofString "max_cost") 208), (.str (Str.ofString "pre") 209), (.str (Str.ofString "post") 210), (.str (Str.ofString "row") 211), (.str (Str.ofString "result") 212), (.str (Str.ofString "bindex") 213), (.str (Str.ofString "bchar") 214), (.str (Str.ofString "distance") 215), (.str (Str.ofString "minimum") 216), (.str (Str.ofString "index") 217), (.str (Str.ofString "substitute") 218), (.str (Str.ofString "insert_delete") 219)] 0), #[]⟩
noncomputable def o25_16 (P : Params) : Obj := ⟨(.type "tuple"), none, (.seq #[] 0), #[]⟩
noncomputable def o26_17 (P : Params) : Obj := ⟨.none, none, (.func { name := (Str.ofString "_levenshtein_distance"), qualname := (Str.ofString "_levenshtein_distance"), params := fnP 5, body := .stmts (fnB 5), scope := fnS 5, globals := 0, closure := [], defaults := .none, kwdefaults := .none, doc := .none, pyModule := .none, annotations := none, code := .none, closureTuple := .none, builtins := 0 }), #[]⟩
noncomputable def o27_18 (P : Params) : Obj := ⟨(.type "code"), none, (.fields #[(.str (Str.ofString "_levenshtein_distance") 203), (.str (Str.ofString "_levenshtein_distance") 204), (.str (Str.ofString "/claim/cut.py") 205), (.int 11 0), (.int 3 0), (.int 0 0), (.int 0 0), (.int 3 0), (.ref 22), (.bool true), (.int 181 0), (.ref 23), .none, (.ref 24), (.ref 25), (.ref 26), (.int 220 0), (.int 11 0), (.str (Str.ofString "/claim/cut.py") 221)]), #[]⟩
noncomputable def o28_19 (P : Params) : Obj := ⟨(.type "function"), none, (.func { name := (Str.ofString "_levenshtein_distance"), qualname := (Str.ofString "_levenshtein_distance"), params := fnP 5, body := .stmts (fnB 5), scope := fnS 5, globals := 3, closure := [], defaults := .none, kwdefaults := .none, doc := .none, pyModule := (.str (Str.ofString "cpy313.traceback") 187), annotations := none, code := (.ref 27), closureTuple := .none, builtins := 0 }), #[]⟩
noncomputable def T7 (P : Params) : BT := (.node (boot_o_0 P) (.node (boot_o_1 P) (.node (o3_4 P) (.node (boot_o_7 P) (.node (o15_6 P) .nil .nil) (.node (o23_14 P) .nil .nil)) (.node (o11_0 P) (.node (o19_10 P) .nil .nil) (.node (o27_18 P) .nil .nil))) (.node (boot_o_5 P) (.node (boot_o_9 P) (.node (o17_8 P) .nil .nil) (.node (o25_16 P) .nil .nil)) (.node (o13_2 P) (.node (o21_12 P) .nil .nil) .nil))) (.node (boot_o_2 P) (.node (boot_o_4 P) (.node (boot_o_8 P) (.node (o16_7 P) .nil .nil) (.node (o24_15 P) .nil .nil)) (.node (o12_5 P) (.node (o20_11 P) .nil .nil) (.node (o28_19 P) .nil .nil))) (.node (boot_o_6 P) (.node (boot_o_10 P) (.node (o18_9 P) .nil .nil) (.node (o26_17 P) .nil .nil)) (.node (o14_3 P) (.node (o22_13 P) .nil .nil) .nil))))
noncomputable abbrev n7 : Nat := 29
noncomputable abbrev k7 : Nat := 225
noncomputable abbrev q7 : Pos := ⟨49, 0, 49, 8⟩
noncomputable def o3_20 (P : Params) : Obj := ⟨(.type "dict"), none, (.dict #[⟨PyData.keyHash P (Str.ofString "__name__"), (.str (Str.ofString "__name__") 165), (.str (Str.ofString "cpy313.stringprep") 223)⟩, ⟨PyData.keyHash P (Str.ofString "__doc__"), (.str (Str.ofString "__doc__") 166), .none⟩, ⟨PyData.keyHash P (Str.ofString "__package__"), (.str (Str.ofString "__package__") 167), .none⟩, ⟨PyData.keyHash P (Str.ofString "__loader__"), (.str (Str.ofString "__loader__") 168), (.builtin "__main__.__loader__#opaque")⟩, ⟨PyData.keyHash P (Str.ofString "__spec__"), (.str (Str.ofString "__spec__") 169), .none⟩, ⟨PyData.keyHash P (Str.ofString "__annotations__"), (.str (Str.ofString "__annotations__") 170), (.ref 6)⟩, ⟨PyData.keyHash P (Str.ofString "__builtins__"), (.str (Str.ofString "__builtins__") 171), (.ref 4)⟩, ⟨PyData.keyHash P (Str.ofString "__file__"), (.str (Str.ofString "__file__") 173), (.str (Str.ofString "/claim/cut.py") 172)⟩, ⟨PyData.keyHash P (Str.ofString "__cached__"), (.str (Str.ofString "__cached__") 174), .none⟩, ⟨PyData.keyHash P (Str.ofString "_MAX_STRING_SIZE"), (.str (Str.ofString "_MAX_STRING_SIZE") 190), (.int 40 189)⟩, ⟨PyData.keyHash P (Str.ofString "_MOVE_COST"), (.str (Str.ofString "_MOVE_COST") 192), (.int 2 191)⟩, ⟨PyData.keyHash P (Str.ofString "_CASE_COST"), (.str (Str.ofString "_CASE_COST") 194), (.int 1 193)⟩, ⟨PyData.keyHash P (Str.ofString "_substitution_cost"), (.str (Str.ofString "_substitution_cost") 202), (.ref 21)⟩, ⟨PyData.keyHash P (Str.ofString "_levenshtein_distance"), (.str (Str.ofString "_levenshtein_distance") 222), (.ref 28)⟩, ⟨PyData.keyHash P (Str.ofString "b1_set"), (.str (Str.ofString "b1_set") 284), (.ref 36)⟩] 15), #[]⟩
noncomputable def o29_21 (P : Params) : Obj := ⟨(.type "list"), none, (.seq #[(.int 173 225), (.int 847 226), (.int 6150 227), (.int 6155 228), (.int 6156 229), (.int 6157 230), (.int 8203 231), (.int 8204 232), (.int 8205 233), (.int 8288 234), (.int 65279 235)] 0), #[]⟩
noncomputable def o30_22 (P : Params) : Obj := ⟨(.type "range"), none, (.fields #[(.int 65024 236), (.int 65040 237), (.int 1 238)]), #[]⟩
noncomputable def o31_23 (P : Params) : Obj := ⟨(.type "list"), none, (.seq #[(.int 65024 241), (.int 65025 242), (.int 65026 243), (.int 65027 244), (.int 65028 245), (.int 65029 246), (.int 65030 247), (.int 65031 248), (.int 65032 249), (.int 65033 250), (.int 65034 251), (.int 65035 252), (.int 65036 253), (.int 65037 254), (.int 65038 255), (.int 65039 256)] 18), #[]⟩
noncomputable def o32_24 (P : Params) : Obj := ⟨(.type "range_iterator"), none, (.fields #[(.int 65040 0), (.int 0 0), (.int 1 0)]), #[]⟩
noncomputable def o33_25 (P : Params) : Obj := ⟨(.type "tuple"), none, (.seq #[] 0), #[]⟩
noncomputable def o34_26 (P : Params) : Obj := ⟨(.type "StopIteration"), none, (.fields #[(.ref 33), .none, .none, .none, (.bool false), .none]), #[]⟩
noncomputable def o35_27 (P : Params) : Obj := ⟨(.type "list"), none, (.seq #[(.int 173 225), (.int 847 226), (.int 6150 227), (.int 6155 228), (.int 6156 229), (.int 6157 230), (.int 8203 231), (.int 8204 232), (.int 8205 233), (.int 8288 234), (.int 65279 235), (.int 65024 241), (.int 65025 242), (.int 65026 243), (.int 65027 244), (.int 65028 245), (.int 65029 246), (.int 65030 247), (.int 65031 248), (.int 65032 249), (.int 65033 250), (.int 65034 251), (.int 65035 252), (.int 65036 253), (.int 65037 254), (.int 65038 255), (.int 65039 256)] 0), #[]⟩
noncomputable def o36_28 (P : Params) : Obj := ⟨(.type "set"), none, (.set #[(65024, (.int 65024 241)), (65025, (.int 65025 242)), (65026, (.int 65026 243)), (65027, (.int 65027 244)), (65028, (.int 65028 245)), (65029, (.int 65029 246)), (6150, (.int 6150 227)), (65030, (.int 65030 247)), (65031, (.int 65031 248)), (65032, (.int 65032 249)), (65033, (.int 65033 250)), (6155, (.int 6155 228)), (6156, (.int 6156 229)), (6157, (.int 6157 230)), (8203, (.int 8203 231)), (8204, (.int 8204 232)), (8205, (.int 8205 233)), (65034, (.int 65034 251)), (65035, (.int 65035 252)), (65036, (.int 65036 253)), (65037, (.int 65037 254)), (65038, (.int 65038 255)), (65039, (.int 65039 256)), (173, (.int 173 225)), (847, (.int 847 226)), (8288, (.int 8288 234)), (65279, (.int 65279 235))] 29 { mask := 127, place := #[0, 1, 2, 3, 4, 5, 6, 7, 8, 9, 10, 11, 12, 13, 14, 15, 16, 17, 18, 19, 20, 21, 22, 45, 79, 96, 127], dummies := #[], finger := 0, led := !P.followText "set-order", moves := 2, plain := true }), #[]⟩
noncomputable def o37_29 (P : Params) : Obj := ⟨(.type "list_iterator"), none, (.fields #[.none, (.int 27 0)]), #[]⟩
noncomputable def o38_30 (P : Params) : Obj := ⟨(.type "tuple"), none, (.seq #[] 0), #[]⟩
noncomputable def o39_31 (P : Params) : Obj := ⟨(.type "StopIteration"), none, (.fields #[(.ref 38), .none, .none, .none, (.bool false), .none]), #[]⟩
noncomputable def T8 (P : Params) : BT := (.node (boot_o_0 P) (.node (boot_o_1 P) (.node (o3_20 P) (.node (boot_o_7 P) (.node (o15_6 P) (.node (o31_23 P) .nil .nil) .nil) (.node (o23_14 P) (.node (o39_31 P) .nil .nil) .nil)) (.node (o11_0 P) (.node (o19_10 P) (.node (o35_27 P) .nil .nil) .nil) (.node (o27_18 P) .nil .nil))) (.node (boot_o_5 P) (.node (boot_o_9 P) (.node (o17_8 P) (.node (o33_25 P) .nil .nil) .nil) (.node (o25_16 P) .nil .nil)) (.node (o13_2 P) (.node (o21_12 P) (.node (o37_29 P) .nil .nil) .nil) (.node (o29_21 P) .nil .nil)))) (.node (boot_o_2 P) (.node (boot_o_4 P) (.node (boot_o_8 P) (.node (o16_7 P) (.node (o32_24 P) .nil .nil) .nil) (.node (o24_15 P) .nil .nil)) (.node (o12_5 P) (.node (o20_11 P) (.node (o36_28 P) .nil .nil) .nil) (.node (o28_19 P) .nil .nil))) (.node (boot_o_6 P) (.node (boot_o_10 P) (.node (o18_9 P) (.node (o34_26 P) .nil .nil) .nil) (.node (o26_17 P) .nil .nil)) (.node (o14_3 P) (.node (o22_13 P) (.node (o38_30 P) .nil .nil) .nil) (.node (o30_22 P) .nil .nil)))))
noncomputable abbrev n8 : Nat := 40
noncomputable abbrev k8 : Nat := 285
noncomputable abbrev q8 : Pos := ⟨50, 0, 50, 6⟩
noncomputable def o3_32 (P : Params) : Obj := ⟨(.type "dict"), none, (.dict #[⟨PyData.keyHash P (Str.ofString "__name__"), (.str (Str.ofString "__name__") 165), (.str (Str.ofString "cpy313.stringprep") 223)⟩, ⟨PyData.keyHash P (Str.ofString "__doc__"), (.str (Str.ofString "__doc__") 166), .none⟩, ⟨PyData.keyHash P (Str.ofString "__package__"), (.str (Str.ofString "__package__") 167), .none⟩, ⟨PyData.keyHash P (Str.ofString "__loader__"), (.str (Str.ofString "__loader__") 168), (.builtin "__main__.__loader__#opaque")⟩, ⟨PyData.keyHash P (Str.ofString "__spec__"), (.str (Str.ofString "__spec__") 169), .none⟩, ⟨PyData.keyHash P (Str.ofString "__annotations__"), (.str (Str.ofString "__annotations__") 170), (.ref 6)⟩, ⟨PyData.keyHash P (Str.ofString "__builtins__"), (.str (Str.ofString "__builtins__") 171), (.ref 4)⟩, ⟨PyData.keyHash P (Str.ofString "__file__"), (.str (Str.ofString "__file__") 173), (.str (Str.ofString "/claim/cut.py") 172)⟩, ⟨PyData.keyHash P (Str.ofString "__cached__"), (.str (Str.ofString "__cached__") 174), .none⟩, ⟨PyData.keyHash P (Str.ofString "_MAX_STRING_SIZE"), (.str (Str.ofString "_MAX_STRING_SIZE") 190), (.int 40 189)⟩, ⟨PyData.keyHash P (Str.ofString "_MOVE_COST"), (.str (Str.ofString "_MOVE_COST") 192), (.int 2 191)⟩, ⟨PyData.keyHash P (Str.ofString "_CASE_COST"), (.str (Str.ofString "_CASE_COST") 194), (.int 1 193)⟩, ⟨PyData.keyHash P (Str.ofString "_substitution_cost"), (.str (Str.ofString "_substitution_cost") 202), (.ref 21)⟩, ⟨PyData.keyHash P (Str.ofString "_levenshtein_distance"), (.str (Str.ofString "_levenshtein_distance") 222), (.ref 28)⟩, ⟨PyData.keyHash P (Str.ofString "b1_set"), (.str (Str.ofString "b1_set") 284), (.ref 36)⟩, ⟨PyData.keyHash P (Str.ofString "in_table_b1"), (.str (Str.ofString "in_table_b1") 291), (.ref 46)⟩] 16), #[]⟩
noncomputable def o12_33 (P : Params) : Obj := ⟨.none, none, (.fields #[(.int 5 0), (.int 0 0), (.ref 20), (.int 11 0), (.int 0 0), (.ref 27), (.int 51 0), (.int 0 0), (.ref 45)]), #[]⟩
noncomputable def o40_34 (P : Params) : Obj := ⟨(.type "tuple"), none, (.seq #[] 0), #[]⟩
noncomputable def o41_35 (P : Params) : Obj := ⟨.none, none, (.fields #[]), #[]⟩
noncomputable def o42_36 (P : Params) : Obj := ⟨(.type "tuple"), none, (.seq #[(.str (Str.ofString "code") 288)] 0), #[]⟩
noncomputable def o43_37 (P : Params) : Obj := ⟨(.type "tuple"), none, (.seq #[] 0), #[]⟩
noncomputable def o44_38 (P : Params) : Obj := ⟨.none, none, (.func { name := (Str.ofString "in_table_b1"), qualname := (Str.ofString "in_table_b1"), params := fnP 8, body := .stmts (fnB 8), scope := fnS 8, globals := 0, closure := [], defaults := .none, kwdefaults := .none, doc := .none, pyModule := .none, annotations := none, code := .none, closureTuple := .none, builtins := 0 }), #[]⟩
noncomputable def o45_39 (P : Params) : Obj := ⟨(.type "code"), none, (.fields #[(.str (Str.ofString "in_table_b1") 285), (.str (Str.ofString "in_table_b1") 286), (.str (Str.ofString "/claim/cut.py") 287), (.int 51 0), (.int 1 0), (.int 0 0), (.int 0 0), (.int 3 0), (.ref 40), (.bool true), (.int 181 0), (.ref 41), .none, (.ref 42), (.ref 43), (.ref 44), (.int 289 0), (.int 51 0), (.str (Str.ofString "/claim/cut.py") 290)]), #[]⟩
noncomputable def o46_40 (P : Params) : Obj := ⟨(.type "function"), none, (.func { name := (Str.ofString "in_table_b1"), qualname := (Str.ofString "in_table_b1"), params := fnP 8, body := .stmts (fnB 8), scope := fnS 8, globals := 3, closure := [], defaults := .none, kwdefaults := .none, doc := .none, pyModule := (.str (Str.ofString "cpy313.stringprep") 223), annotations := none, code := (.ref 45), closureTuple := .none, builtins := 0 }), #[]⟩
noncomputable def T9 (P : Params) : BT := (.node (boot_o_0 P) (.node (boot_o_1 P) (.node (o3_32 P) (.node (boot_o_7 P) (.node (o15_6 P) (.node (o31_23 P) .nil .nil) .nil) (.node (o23_14 P) (.node (o39_31 P) .nil .nil) .nil)) (.node (o11_0 P) (.node (o19_10 P) (.node (o35_27 P) .nil .nil) .nil) (.node (o27_18 P) (.node (o43_37 P) .nil .nil) .nil))) (.node (boot_o_5 P) (.node (boot_o_9 P) (.node (o17_8 P) (.node (o33_25 P) .nil .nil) .nil) (.node (o25_16 P) (.node (o41_35 P) .nil .nil) .nil)) (.node (o13_2 P) (.node (o21_12 P) (.node (o37_29 P) .nil .nil) .nil) (.node (o29_21 P) (.node (o45_39 P) .nil .nil) .nil)))) (.node (boot_o_2 P) (.node (boot_o_4 P) (.node (boot_o_8 P) (.node (o16_7 P) (.node (o32_24 P) .nil .nil) .nil) (.node (o24_15 P) (.node (o40_34 P) .nil .nil) .nil)) (.node (o12_33 P) (.node (o20_11 P) (.node (o36_28 P) .nil .nil) .nil) (.node (o28_19 P) (.node (o44_38 P) .nil .nil) .nil))) (.node (boot_o_6 P) (.node (boot_o_10 P) (.node (o18_9 P) (.node (o34_26 P) .nil .nil) .nil) (.node (o26_17 P) (.node (o42_36 P) .nil .nil) .nil)) (.node (o14_3 P) (.node (o22_13 P) (.node (o38_30 P) .nil .nil) .nil) (.node (o30_22 P) (.node (o46_40 P) .nil .nil) .nil)))))
noncomputable abbrev n9 : Nat := 47
noncomputable abbrev k9 : Nat := 292
noncomputable abbrev q9 : Pos := ⟨51, 0, 52, 30⟩
noncomputable def o3_41 (P : Params) : Obj := ⟨(.type "dict"), none, (.dict #[⟨PyData.keyHash P (Str.ofString "__name__"), (.str (Str.ofString "__name__") 165), (.str (Str.ofString "cpy313.stringprep") 223)⟩, ⟨PyData.keyHash P (Str.ofString "__doc__"), (.str (Str.ofString "__doc__") 166), .none⟩, ⟨PyData.keyHash P (Str.ofString "__package__"), (.str (Str.ofString "__package__") 167), .none⟩, ⟨PyData.keyHash P (Str.ofString "__loader__"), (.str (Str.ofString "__loader__") 168), (.builtin "__main__.__loader__#opaque")⟩, ⟨PyData.keyHash P (Str.ofString "__spec__"), (.str (Str.ofString "__spec__") 169), .none⟩, ⟨PyData.keyHash P (Str.ofString "__annotations__"), (.str (Str.ofString "__annotations__") 170), (.ref 6)⟩, ⟨PyData.keyHash P (Str.ofString "__builtins__"), (.str (Str.ofString "__builtins__") 171), (.ref 4)⟩, ⟨PyData.keyHash P (Str.ofString "__file__"), (.str (Str.ofString "__file__") 173), (.str (Str.ofString "/claim/cut.py") 172)⟩, ⟨PyData.keyHash P (Str.ofString "__cached__"), (.str (Str.ofString "__cached__") 174), .none⟩, ⟨PyData.keyHash P (Str.ofString "_MAX_STRING_SIZE"), (.str (Str.ofString "_MAX_STRING_SIZE") 190), (.int 40 189)⟩, ⟨PyData.keyHash P (Str.ofString "_MOVE_COST"), (.str (Str.ofString "_MOVE_COST") 192), (.int 2 191)⟩, ⟨PyData.keyHash P (Str.ofString "_CASE_COST"), (.str (Str.ofString "_CASE_COST") 194), (.int 1 193)⟩, ⟨PyData.keyHash P (Str.ofString "_substitution_cost"), (.str (Str.ofString "_substitution_cost") 202), (.ref 21)⟩, ⟨PyData.keyHash P (Str.ofString "_levenshtein_distance"), (.str (Str.ofString "_levenshtein_distance") 222), (.ref 28)⟩, ⟨PyData.keyHash P (Str.ofString "b1_set"), (.str (Str.ofString "b1_set") 284), (.ref 36)⟩, ⟨PyData.keyHash P (Str.ofString "in_table_b1"), (.str (Str.ofString "in_table_b1") 291), (.ref 46)⟩, ⟨PyData.keyHash P (Str.ofString "b3_exceptions"), (.str (Str.ofString "b3_exceptions") 2242), (.ref 47)⟩] 17), #[]⟩
noncomputable def b3D : DS := (b3Pairs.foldl DS.step ⟨none, [], k9, []⟩).flush
noncomputable def b3Main : Obj := match b3D.main with | some (es, ep) => dObj es ep | none => default
noncomputable def b3sub (i : Nat) : Obj := b3D.subs.getD i default
noncomputable def T10 (P : Params) : BT := (.node (boot_o_0 P) (.node (boot_o_1 P) (.node (o3_41 P) (.node (boot_o_7 P) (.node (o15_6 P) (.node (o31_23 P) (.node (b3sub 15) .nil .nil) .nil) (.node b3Main (.node (b3sub 31) .nil .nil) .nil)) (.node (o23_14 P) (.node (o39_31 P) (.node (b3sub 23) .nil .nil) .nil) (.node (b3sub 7) .nil .nil))) (.node (o11_0 P) (.node (o19_10 P) (.node (o35_27 P) (.node (b3sub 19) .nil .nil) .nil) (.node (b3sub 3) (.node (b3sub 35) .nil .nil) .nil)) (.node (o27_18 P) (.node (o43_37 P) (.node (b3sub 27) .nil .nil) .nil) (.node (b3sub 11) .nil .nil)))) (.node (boot_o_5 P) (.node (boot_o_9 P) (.node (o17_8 P) (.node (o33_25 P) (.node (b3sub 17) .nil .nil) .nil) (.node (b3sub 1) (.node (b3sub 33) .nil .nil) .nil)) (.node (o25_16 P) (.node (o41_35 P) (.node (b3sub 25) .nil .nil) .nil) (.node (b3sub 9) .nil .nil))) (.node (o13_2 P) (.node (o21_12 P) (.node (o37_29 P) (.node (b3sub 21) .nil .nil) .nil) (.node (b3sub 5) (.node (b3sub 37) .nil .nil) .nil)) (.node (o29_21 P) (.node (o45_39 P) (.node (b3sub 29) .nil .nil) .nil) (.node (b3sub 13) .nil .nil))))) (.node (boot_o_2 P) (.node (boot_o_4 P) (.node (boot_o_8 P) (.node (o16_7 P) (.node (o32_24 P) (.node (b3sub 16) .nil .nil) .nil) (.node (b3sub 0) (.node (b3sub 32) .nil .nil) .nil)) (.node (o24_15 P) (.node (o40_34 P) (.node (b3sub 24) .nil .nil) .nil) (.node (b3sub 8) .nil .nil))) (.node (o12_33 P) (.node (o20_11 P) (.node (o36_28 P) (.node (b3sub 20) .nil .nil) .nil) (.node (b3sub 4) (.node (b3sub 36) .nil .nil) .nil)) (.node (o28_19 P) (.node (o44_38 P) (.node (b3sub 28) .nil .nil) .nil) (.node (b3sub 12) .nil .nil)))) (.node (boot_o_6 P) (.node (boot_o_10 P) (.node (o18_9 P) (.node (o34_26 P) (.node (b3sub 18) .nil .nil) .nil) (.node (b3sub 2) (.node (b3sub 34) .nil .nil) .nil)) (.node (o26_17 P) (.node (o42_36 P) (.node (b3sub 26) .nil .nil) .nil) (.node (b3sub 10) .nil .nil))) (.node (o14_3 P) (.node (o22_13 P) (.node (o38_30 P) (.node (b3sub 22) .nil .nil) .nil) (.node (b3sub 6) .nil .nil)) (.node (o30_22 P) (.node (o46_40 P) (.node (b3sub 30) .nil .nil) .nil) (.node (b3sub 14) .nil .nil))))))
noncomputable abbrev n10 : Nat := 86
noncomputable abbrev k10 : Nat := 2243
noncomputable abbrev q10 : Pos := ⟨53, 0, 53, 13⟩
noncomputable def o3_42 (P : Params) : Obj := ⟨(.type "dict"), none, (.dict #[⟨PyData.keyHash P (Str.ofString "__name__"), (.str (Str.ofString "__name__") 165), (.str (Str.ofString "cpy313.token") 2251)⟩, ⟨PyData.keyHash P (Str.ofString "__doc__"), (.str (Str.ofString "__doc__") 166), .none⟩, ⟨PyData.keyHash P (Str.ofString "__package__"), (.str (Str.ofString "__package__") 167), .none⟩, ⟨PyData.keyHash P (Str.ofString "__loader__"), (.str (Str.ofString "__loader__") 168), (.builtin "__main__.__loader__#opaque")⟩, ⟨PyData.keyHash P (Str.ofString "__spec__"), (.str (Str.ofString "__spec__") 169), .none⟩, ⟨PyData.keyHash P (Str.ofString "__annotations__"), (.str (Str.ofString "__annotations__") 170), (.ref 6)⟩, ⟨PyData.keyHash P (Str.ofString "__builtins__"), (.str (Str.ofString "__builtins__") 171), (.ref 4)⟩, ⟨PyData.keyHash P (Str.ofString "__file__"), (.str (Str.ofString "__file__") 173), (.str (Str.ofString "/claim/cut.py") 172)⟩, ⟨PyData.keyHash P (Str.ofString "__cached__"), (.str (Str.ofString "__cached__") 174), .none⟩, ⟨PyData.keyHash P (Str.ofString "_MAX_STRING_SIZE"), (.str (Str.ofString "_MAX_STRING_SIZE") 190), (.int 40 189)⟩, ⟨PyData.keyHash P (Str.ofString "_MOVE_COST"), (.str (Str.ofString "_MOVE_COST") 192), (.int 2 191)⟩, ⟨PyData.keyHash P (Str.ofString "_CASE_COST"), (.str (Str.ofString "_CASE_COST") 194), (.int 1 193)⟩, ⟨PyData.keyHash P (Str.ofString "_substitution_cost"), (.str (Str.ofString "_substitution_cost") 202), (.ref 21)⟩, ⟨PyData.keyHash P (Str.ofString "_levenshtein_distance"), (.str (Str.ofString "_levenshtein_distance") 222), (.ref 28)⟩, ⟨PyData.keyHash P (Str.ofString "b1_set"), (.str (Str.ofString "b1_set") 284), (.ref 36)⟩, ⟨PyData.keyHash P (Str.ofString "in_table_b1"), (.str (Str.ofString "in_table_b1") 291), (.ref 46)⟩, ⟨PyData.keyHash P (Str.ofString "b3_exceptions"), (.str (Str.ofString "b3_exceptions") 2242), (.ref 47)⟩, ⟨PyData.keyHash P (Str.ofString "map_table_b3"), (.str (Str.ofString "map_table_b3") 2250), (.ref 92)⟩, ⟨PyData.keyHash P (Str.ofString "ENDMARKER"), (.str (Str.ofString "ENDMARKER") 2254), (.int 0 2253)⟩, ⟨PyData.keyHash P (Str.ofString "LPAR"), (.str (Str.ofString "LPAR") 2256), (.int 7 2255)⟩, ⟨PyData.keyHash P (Str.ofString "RPAR"), (.str (Str.ofString "RPAR") 2258), (.int 8 2257)⟩, ⟨PyData.keyHash P (Str.ofString "LSQB"), (.str (Str.ofString "LSQB") 2260), (.int 9 2259)⟩, ⟨PyData.keyHash P (Str.ofString "RSQB"), (.str (Str.ofString "RSQB") 2262), (.int 10 2261)⟩, ⟨PyData.keyHash P (Str.ofString "COLON"), (.str (Str.ofString "COLON") 2264), (.int 11 2263)⟩, ⟨PyData.keyHash P (Str.ofString "COMMA"), (.str (Str.ofString "COMMA") 2266), (.int 12 2265)⟩, ⟨PyData.keyHash P (Str.ofString "SEMI"), (.str (Str.ofString "SEMI") 2268), (.int 13 2267)⟩, ⟨PyData.keyHash P (Str.ofString "PLUS"), (.str (Str.ofString "PLUS") 2270), (.int 14 2269)⟩, ⟨PyData.keyHash P (Str.ofString "MINUS"), (.str (Str.ofString "MINUS") 2272), (.int 15 2271)⟩, ⟨PyData.keyHash P (Str.ofString "STAR"), (.str (Str.ofString "STAR") 2274), (.int 16 2273)⟩, ⟨PyData.keyHash P (Str.ofString "SLASH"), (.str (Str.ofString "SLASH") 2276), (.int 17 2275)⟩, ⟨PyData.keyHash P (Str.ofString "VBAR"), (.str (Str.ofString "VBAR") 2278), (.int 18 2277)⟩, ⟨PyData.keyHash P (Str.ofString "AMPER"), (.str (Str.ofString "AMPER") 2280), (.int 19 2279)⟩, ⟨PyData.keyHash P (Str.ofString "LESS"), (.str (Str.ofString "LESS") 2282), (.int 20 2281)⟩, ⟨PyData.keyHash P (Str.ofString "GREATER"), (.str (Str.ofString "GREATER") 2284), (.int 21 2283)⟩, ⟨PyData.keyHash P (Str.ofString "EQUAL"), (.str (Str.ofString "EQUAL") 2286), (.int 22 2285)⟩, ⟨PyData.keyHash P (Str.ofString "DOT"), (.str (Str.ofString "DOT") 2288), (.int 23 2287)⟩, ⟨PyData.keyHash P (Str.ofString "PERCENT"), (.str (Str.ofString "PERCENT") 2290), (.int 24 2289)⟩, ⟨PyData.keyHash P (Str.ofString "LBRACE"), (.str (Str.ofString "LBRACE") 2292), (.int 25 2291)⟩, ⟨PyData.keyHash P (Str.ofString "RBRACE"), (.str (Str.ofString "RBRACE") 2294), (.int 26 2293)⟩, ⟨PyData.keyHash P (Str.ofString "EQEQUAL"), (.str (Str.ofString "EQEQUAL") 2296), (.int 27 2295)⟩, ⟨PyData.keyHash P (Str.ofString "NOTEQUAL"), (.str (Str.ofString "NOTEQUAL") 2298), (.int 28 2297)⟩, ⟨PyData.keyHash P (Str.ofString "LESSEQUAL"), (.str (Str.ofString "LESSEQUAL") 2300), (.int 29 2299)⟩] 42), #[]⟩
noncomputable def o12_43 (P : Params) : Obj := ⟨.none, none, (.fields #[(.int 5 0), (.int 0 0), (.ref 20), (.int 11 0), (.int 0 0), (.ref 27), (.int 51 0), (.int 0 0), (.ref 45), (.int 54 0), (.int 0 0), (.ref 91)]), #[]⟩
noncomputable def o86_44 (P : Params) : Obj := ⟨(.type "tuple"), none, (.seq #[] 0), #[]⟩
noncomputable def o87_45 (P : Params) : Obj := ⟨.none, none, (.fields #[]), #[]⟩
noncomputable def o88_46 (P : Params) : Obj := ⟨(.type "tuple"), none, (.seq #[(.str (Str.ofString "code") 2246), (.str (Str.ofString "r") 2247)] 0), #[]⟩
noncomputable def o89_47 (P : Params) : Obj := ⟨(.type "tuple"), none, (.seq #[] 0), #[]⟩
noncomputable def o90_48 (P : Params) : Obj := ⟨.none, none, (.func { name := (Str.ofString "map_table_b3"), qualname := (Str.ofString "map_table_b3"), params := fnP 10, body := .stmts (fnB 10), scope := fnS 10, globals := 0, closure := [], defaults := .none, kwdefaults := .none, doc := .none, pyModule := .none, annotations := none, code := .none, closureTuple := .none, builtins := 0 }), #[]⟩
noncomputable def o91_49 (P : Params) : Obj := ⟨(.type "code"), none, (.fields #[(.str (Str.ofString "map_table_b3") 2243), (.str (Str.ofString "map_table_b3") 2244), (.str (Str.ofString "/claim/cut.py") 2245), (.int 54 0), (.int 1 0), (.int 0 0), (.int 0 0), (.int 3 0), (.ref 86), (.bool true), (.int 181 0), (.ref 87), .none, (.ref 88), (.ref 89), (.ref 90), (.int 2248 0), (.int 54 0), (.str (Str.ofString "/claim/cut.py") 2249)]), #[]⟩
noncomputable def o92_50 (P : Params) : Obj := ⟨(.type "function"), none, (.func { name := (Str.ofString "map_table_b3"), qualname := (Str.ofString "map_table_b3"), params := fnP 10, body := .stmts (fnB 10), scope := fnS 10, globals := 3, closure := [], defaults := .none, kwdefaults := .none, doc := .none, pyModule := (.str (Str.ofString "cpy313.stringprep") 223), annotations := none, code := (.ref 91), closureTuple := .none, builtins := 0 }), #[]⟩
noncomputable def T36 (P : Params) : BT := (.node (boot_o_0 P) (.node (boot_o_1 P) (.node (o3_42 P) (.node (boot_o_7 P) (.node (o15_6 P) (.node (o31_23 P) (.node (b3sub 15) .nil .nil) .nil) (.node b3Main (.node (b3sub 31) .nil .nil) .nil)) (.node (o23_14 P) (.node (o39_31 P) (.node (b3sub 23) .nil .nil) .nil) (.node (b3sub 7) (.node (o87_45 P) .nil .nil) .nil))) (.node (o11_0 P) (.node (o19_10 P) (.node (o35_27 P) (.node (b3sub 19) .nil .nil) .nil) (.node (b3sub 3) (.node (b3sub 35) .nil .nil) .nil)) (.node (o27_18 P) (.node (o43_37 P) (.node (b3sub 27) .nil .nil) .nil) (.node (b3sub 11) (.node (o91_49 P) .nil .nil) .nil)))) (.node (boot_o_5 P) (.node (boot_o_9 P) (.node (o17_8 P) (.node (o33_25 P) (.node (b3sub 17) .nil .nil) .nil) (.node (b3sub 1) (.node (b3sub 33) .nil .nil) .nil)) (.node (o25_16 P) (.node (o41_35 P) (.node (b3sub 25) .nil .nil) .nil) (.node (b3sub 9) (.node (o89_47 P) .nil .nil) .nil))) (.node (o13_2 P) (.node (o21_12 P) (.node (o37_29 P) (.node (b3sub 21) .nil .nil) .nil) (.node (b3sub 5) (.node (b3sub 37) .nil .nil) .nil)) (.node (o29_21 P) (.node (o45_39 P) (.node (b3sub 29) .nil .nil) .nil) (.node (b3sub 13) .nil .nil))))) (.node (boot_o_2 P) (.node (boot_o_4 P) (.node (boot_o_8 P) (.node (o16_7 P) (.node (o32_24 P) (.node (b3sub 16) .nil .nil) .nil) (.node (b3sub 0) (.node (b3sub 32) .nil .nil) .nil)) (.node (o24_15 P) (.node (o40_34 P) (.node (b3sub 24) .nil .nil) .nil) (.node (b3sub 8) (.node (o88_46 P) .nil .nil) .nil))) (.node (o12_43 P) (.node (o20_11 P) (.node (o36_28 P) (.node (b3sub 20) .nil .nil) .nil) (.node (b3sub 4) (.node (b3sub 36) .nil .nil) .nil)) (.node (o28_19 P) (.node (o44_38 P) (.node (b3sub 28) .nil .nil) .nil) (.node (b3sub 12) (.node (o92_50 P) .nil .nil) .nil)))) (.node (boot_o_6 P) (.node (boot_o_10 P) (.node (o18_9 P) (.node (o34_26 P) (.node (b3sub 18) .nil .nil) .nil) (.node (b3sub 2) (.node (b3sub 34) .nil .nil) .nil)) (.node (o26_17 P) (.node (o42_36 P) (.node (b3sub 26) .nil .nil) .nil) (.node (b3sub 10) (.node (o90_48 P) .nil .nil) .nil))) (.node (o14_3 P) (.node (o22_13 P) (.node (o38_30 P) (.node (b3sub 22) .nil .nil) .nil) (.node (b3sub 6) (.node (o86_44 P) .nil .nil) .nil)) (.node (o30_22 P) (.node (o46_40 P) (.node (b3sub 30) .nil .nil) .nil) (.node (b3sub 14) .nil .nil))))))
noncomputable abbrev n36 : Nat := 93
noncomputable abbrev k36 : Nat := 2301
noncomputable abbrev q36 : Pos := ⟨83, 0, 83, 9⟩
noncomputable def o3_51 (P : Params) : Obj := ⟨(.type "dict"), none, (.dict #[⟨PyData.keyHash P (Str.ofString "__name__"), (.str (Str.ofString "__name__") 165), (.str (Str.ofString "cpy313.token") 2251)⟩, ⟨PyData.keyHash P (Str.ofString "__doc__"), (.str (Str.ofString "__doc__") 166), .none⟩, ⟨PyData.keyHash P (Str.ofString "__package__"), (.str (Str.ofString "__package__") 167), .none⟩, ⟨PyData.keyHash P (Str.ofString "__loader__"), (.str (Str.ofString "__loader__") 168), (.builtin "__main__.__loader__#opaque")⟩, ⟨PyData.keyHash P (Str.ofString "__spec__"), (.str (Str.ofString "__spec__") 169), .none⟩, ⟨PyData.keyHash P (Str.ofString "__annotations__"), (.str (Str.ofString "__annotations__") 170), (.ref 6)⟩, ⟨PyData.keyHash P (Str.ofString "__builtins__"), (.str (Str.ofString "__builtins__") 171), (.ref 4)⟩, ⟨PyData.keyHash P (Str.ofString "__file__"), (.str (Str.ofString "__file__") 173), (.str (Str.ofString "/claim/cut.py") 172)⟩, ⟨PyData.keyHash P (Str.ofString "__cached__"), (.str (Str.ofString "__cached__") 174), .none⟩, ⟨PyData.keyHash P (Str.ofString "_MAX_STRING_SIZE"), (.str (Str.ofString "_MAX_STRING_SIZE") 190), (.int 40 189)⟩, ⟨PyData.keyHash P (Str.ofString "_MOVE_COST"), (.str (Str.ofString "_MOVE_COST") 192), (.int 2 191)⟩, ⟨PyData.keyHash P (Str.ofString "_CASE_COST"), (.str (Str.ofString "_CASE_COST") 194), (.int 1 193)⟩, ⟨PyData.keyHash P (Str.ofString "_substitution_cost"), (.str (Str.ofString "_substitution_cost") 202), (.ref 21)⟩, ⟨PyData.keyHash P (Str.ofString "_levenshtein_distance"), (.str (Str.ofString "_levenshtein_distance") 222), (.ref 28)⟩, ⟨PyData.keyHash P (Str.ofString "b1_set"), (.str (Str.ofString "b1_set") 284), (.ref 36)⟩, ⟨PyData.keyHash P (Str.ofString "in_table_b1"), (.str (Str.ofString "in_table_b1") 291), (.ref 46)⟩, ⟨PyData.keyHash P (Str.ofString "b3_exceptions"), (.str (Str.ofString "b3_exceptions") 2242), (.ref 47)⟩, ⟨PyData.keyHash P (Str.ofString "map_table_b3"), (.str (Str.ofString "map_table_b3") 2250), (.ref 92)⟩, ⟨PyData.keyHash P (Str.ofString "ENDMARKER"), (.str (Str.ofString "ENDMARKER") 2254), (.int 0 2253)⟩, ⟨PyData.keyHash P (Str.ofString "LPAR"), (.str (Str.ofString "LPAR") 2256), (.int 7 2255)⟩, ⟨PyData.keyHash P (Str.ofString "RPAR"), (.str (Str.ofString "RPAR") 2258), (.int 8 2257)⟩, ⟨PyData.keyHash P (Str.ofString "LSQB"), (.str (Str.ofString "LSQB") 2260), (.int 9 2259)⟩, ⟨PyData.keyHash P (Str.ofString "RSQB"), (.str (Str.ofString "RSQB") 2262), (.int 10 2261)⟩, ⟨PyData.keyHash P (Str.ofString "COLON"), (.str (Str.ofString "COLON") 2264), (.int 11 2263)⟩, ⟨PyData.keyHash P (Str.ofString "COMMA"), (.str (Str.ofString "COMMA") 2266), (.int 12 2265)⟩, ⟨PyData.keyHash P (Str.ofString "SEMI"), (.str (Str.ofString "SEMI") 2268), (.int 13 2267)⟩, ⟨PyData.keyHash P (Str.ofString "PLUS"), (.str (Str.ofString "PLUS") 2270), (.int 14 2269)⟩, ⟨PyData.keyHash P (Str.ofString "MINUS"), (.str (Str.ofString "MINUS") 2272), (.int 15 2271)⟩, ⟨PyData.keyHash P (Str.ofString "STAR"), (.str (Str.ofString "STAR") 2274), (.int 16 2273)⟩, ⟨PyData.keyHash P (Str.ofString "SLASH"), (.str (Str.ofString "SLASH") 2276), (.int 17 2275)⟩, ⟨PyData.keyHash P (Str.ofString "VBAR"), (.str (Str.ofString "VBAR") 2278), (.int 18 2277)⟩, ⟨PyData.keyHash P (Str.ofString "AMPER"), (.str (Str.ofString "AMPER") 2280), (.int 19 2279)⟩, ⟨PyData.keyHash P (Str.ofString "LESS"), (.str (Str.ofString "LESS") 2282), (.int 20 2281)⟩, ⟨PyData.keyHash P (Str.ofString "GREATER"), (.str (Str.ofString "GREATER") 2284), (.int 21 2283)⟩, ⟨PyData.keyHash P (Str.ofString "EQUAL"), (.str (Str.ofString "EQUAL") 2286), (.int 22 2285)⟩, ⟨PyData.keyHash P (Str.ofString "DOT"), (.str (Str.ofString "DOT") 2288), (.int 23 2287)⟩, ⟨PyData.keyHash P (Str.ofString "PERCENT"), (.str (Str.ofString "PERCENT") 2290), (.int 24 2289)⟩, ⟨PyData.keyHash P (Str.ofString "LBRACE"), (.str (Str.ofString "LBRACE") 2292), (.int 25 2291)⟩, ⟨PyData.keyHash P (Str.ofString "RBRACE"), (.str (Str.ofString "RBRACE") 2294), (.int 26 2293)⟩, ⟨PyData.keyHash P (Str.ofString "EQEQUAL"), (.str (Str.ofString "EQEQUAL") 2296), (.int 27 2295)⟩, ⟨PyData.keyHash P (Str.ofString "NOTEQUAL"), (.str (Str.ofString "NOTEQUAL") 2298), (.int 28 2297)⟩, ⟨PyData.keyHash P (Str.ofString "LESSEQUAL"), (.str (Str.ofString "LESSEQUAL") 2300), (.int 29 2299)⟩, ⟨PyData.keyHash P (Str.ofString "GREATEREQUAL"), (.str (Str.ofString "GREATEREQUAL") 2302), (.int 30 2301)⟩, ⟨PyData.keyHash P (Str.ofString "TILDE"), (.str (Str.ofString "TILDE") 2304), (.int 31 2303)⟩, ⟨PyData.keyHash P (Str.ofString "CIRCUMFLEX"), (.str (Str.ofString "CIRCUMFLEX") 2306), (.int 32 2305)⟩, ⟨PyData.keyHash P (Str.ofString "LEFTSHIFT"), (.str (Str.ofString "LEFTSHIFT") 2308), (.int 33 2307)⟩, ⟨PyData.keyHash P (Str.ofString "RIGHTSHIFT"), (.str (Str.ofString "RIGHTSHIFT") 2310), (.int 34 2309)⟩, ⟨PyData.keyHash P (Str.ofString "DOUBLESTAR"), (.str (Str.ofString "DOUBLESTAR") 2312), (.int 35 2311)⟩, ⟨PyData.keyHash P (Str.ofString "PLUSEQUAL"), (.str (Str.ofString "PLUSEQUAL") 2314), (.int 36 2313)⟩, ⟨PyData.keyHash P (Str.ofString "MINEQUAL"), (.str (Str.ofString "MINEQUAL") 2316), (.int 37 2315)⟩, ⟨PyData.keyHash P (Str.ofString "STAREQUAL"), (.str (Str.ofString "STAREQUAL") 2318), (.int 38 2317)⟩, ⟨PyData.keyHash P (Str.ofString "SLASHEQUAL"), (.str (Str.ofString "SLASHEQUAL") 2320), (.int 39 2319)⟩, ⟨PyData.keyHash P (Str.ofString "PERCENTEQUAL"), (.str (Str.ofString "PERCENTEQUAL") 2322), (.int 40 2321)⟩, ⟨PyData.keyHash P (Str.ofString "AMPEREQUAL"), (.str (Str.ofString "AMPEREQUAL") 2324), (.int 41 2323)⟩, ⟨PyData.keyHash P (Str.ofString "VBAREQUAL"), (.str (Str.ofString "VBAREQUAL") 2326), (.int 42 2325)⟩, ⟨PyData.keyHash P (Str.ofString "CIRCUMFLEXEQUAL"), (.str (Str.ofString "CIRCUMFLEXEQUAL") 2328), (.int 43 2327)⟩, ⟨PyData.keyHash P (Str.ofString "LEFTSHIFTEQUAL"), (.str (Str.ofString "LEFTSHIFTEQUAL") 2330), (.int 44 2329)⟩, ⟨PyData.keyHash P (Str.ofString "RIGHTSHIFTEQUAL"), (.str (Str.ofString "RIGHTSHIFTEQUAL") 2332), (.int 45 2331)⟩, ⟨PyData.keyHash P (Str.ofString "DOUBLESTAREQUAL"), (.str (Str.ofString "DOUBLESTAREQUAL") 2334), (.int 46 2333)⟩, ⟨PyData.keyHash P (Str.ofString "DOUBLESLASH"), (.str (Str.ofString "DOUBLESLASH") 2336), (.int 47 2335)⟩, ⟨PyData.keyHash P (Str.ofString "DOUBLESLASHEQUAL"), (.str (Str.ofString "DOUBLESLASHEQUAL") 2338), (.int 48 2337)⟩, ⟨PyData.keyHash P (Str.ofString "AT"), (.str (Str.ofString "AT") 2340), (.int 49 2339)⟩, ⟨PyData.keyHash P (Str.ofString "ATEQUAL"), (.str (Str.ofString "ATEQUAL") 2342), (.int 50 2341)⟩, ⟨PyData.keyHash P (Str.ofString "RARROW"), (.str (Str.ofString "RARROW") 2344), (.int 51 2343)⟩, ⟨PyData.keyHash P (Str.ofString "ELLIPSIS"), (.str (Str.ofString "ELLIPSIS") 2346), (.int 52 2345)⟩, ⟨PyData.keyHash P (Str.ofString "COLONEQUAL"), (.str (Str.ofString "COLONEQUAL") 2348), (.int 53 2347)⟩, ⟨PyData.keyHash P (Str.ofString "EXCLAMATION"), (.str (Str.ofString "EXCLAMATION") 2350), (.int 54 2349)⟩, ⟨PyData.keyHash P (Str.ofString "NT_OFFSET"), (.str (Str.ofString "NT_OFFSET") 2352), (.int 256 2351)⟩] 68), #[]⟩
noncomputable def T62 (P : Params) : BT := (.node (boot_o_0 P) (.node (boot_o_1 P) (.node (o3_51 P) (.node (boot_o_7 P) (.node (o15_6 P) (.node (o31_23 P) (.node (b3sub 15) .nil .nil) .nil) (.node b3Main (.node (b3sub 31) .nil .nil) .nil)) (.node (o23_14 P) (.node (o39_31 P) (.node (b3sub 23) .nil .nil) .nil) (.node (b3sub 7) (.node (o87_45 P) .nil .nil) .nil))) (.node (o11_0 P) (.node (o19_10 P) (.node (o35_27 P) (.node (b3sub 19) .nil .nil) .nil) (.node (b3sub 3) (.node (b3sub 35) .nil .nil) .nil)) (.node (o27_18 P) (.node (o43_37 P) (.node (b3sub 27) .nil .nil) .nil) (.node (b3sub 11) (.node (o91_49 P) .nil .nil) .nil)))) (.node (boot_o_5 P) (.node (boot_o_9 P) (.node (o17_8 P) (.node (o33_25 P) (.node (b3sub 17) .nil .nil) .nil) (.node (b3sub 1) (.node (b3sub 33) .nil .nil) .nil)) (.node (o25_16 P) (.node (o41_35 P) (.node (b3sub 25) .nil .nil) .nil) (.node (b3sub 9) (.node (o89_47 P) .nil .nil) .nil))) (.node (o13_2 P) (.node (o21_12 P) (.node (o37_29 P) (.node (b3sub 21) .nil .nil) .nil) (.node (b3sub 5) (.node (b3sub 37) .nil .nil) .nil)) (.node (o29_21 P) (.node (o45_39 P) (.node (b3sub 29) .nil .nil) .nil) (.node (b3sub 13) .nil .nil))))) (.node (boot_o_2 P) (.node (boot_o_4 P) (.node (boot_o_8 P) (.node (o16_7 P) (.node (o32_24 P) (.node (b3sub 16) .nil .nil) .nil) (.node (b3sub 0) (.node (b3sub 32) .nil .nil) .nil)) (.node (o24_15 P) (.node (o40_34 P) (.node (b3sub 24) .nil .nil) .nil) (.node (b3sub 8) (.node (o88_46 P) .nil .nil) .nil))) (.node (o12_43 P) (.node (o20_11 P) (.node (o36_28 P) (.node (b3sub 20) .nil .nil) .nil) (.node (b3sub 4) (.node (b3sub 36) .nil .nil) .nil)) (.node (o28_19 P) (.node (o44_38 P) (.node (b3sub 28) .nil .nil) .nil) (.node (b3sub 12) (.node (o92_50 P) .nil .nil) .nil)))) (.node (boot_o_6 P) (.node (boot_o_10 P) (.node (o18_9 P) (.node (o34_26 P) (.node (b3sub 18) .nil .nil) .nil) (.node (b3sub 2) (.node (b3sub 34) .nil .nil) .nil)) (.node (o26_17 P) (.node (o42_36 P) (.node (b3sub 26) .nil .nil) .nil) (.node (b3sub 10) (.node (o90_48 P) .nil .nil) .nil))) (.node (o14_3 P) (.node (o22_13 P) (.node (o38_30 P) (.node (b3sub 22) .nil .nil) .nil) (.node (b3sub 6) (.node (o86_44 P) .nil .nil) .nil)) (.node (o30_22 P) (.node (o46_40 P) (.node (b3sub 30) .nil .nil) .nil) (.node (b3sub 14) .nil .nil))))))
noncomputable abbrev n62 : Nat := 93
noncomputable abbrev k62 : Nat := 2353
noncomputable abbrev q62 : Pos := ⟨109, 0, 109, 9⟩
noncomputable def o3_52 (P : Params) : Obj := ⟨(.type "dict"), none, (.dict #[⟨PyData.keyHash P (Str.ofString "__name__"), (.str (Str.ofString "__name__") 165), (.str (Str.ofString "cpy313.token") 2251)⟩, ⟨PyData.keyHash P (Str.ofString "__doc__"), (.str (Str.ofString "__doc__") 166), .none⟩, ⟨PyData.keyHash P (Str.ofString "__package__"), (.str (Str.ofString "__package__") 167), .none⟩, ⟨PyData.keyHash P (Str.ofString "__loader__"), (.str (Str.ofString "__loader__") 168), (.builtin "__main__.__loader__#opaque")⟩, ⟨PyData.keyHash P (Str.ofString "__spec__"), (.str (Str.ofString "__spec__") 169), .none⟩, ⟨PyData.keyHash P (Str.ofString "__annotations__"), (.str (Str.ofString "__annotations__") 170), (.ref 6)⟩, ⟨PyData.keyHash P (Str.ofString "__builtins__"), (.str (Str.ofString "__builtins__") 171), (.ref 4)⟩, ⟨PyData.keyHash P (Str.ofString "__file__"), (.str (Str.ofString "__file__") 173), (.str (Str.ofString "/claim/cut.py") 172)⟩, ⟨PyData.keyHash P (Str.ofString "__cached__"), (.str (Str.ofString "__cached__") 174), .none⟩, ⟨PyData.keyHash P (Str.ofString "_MAX_STRING_SIZE"), (.str (Str.ofString "_MAX_STRING_SIZE") 190), (.int 40 189)⟩, ⟨PyData.keyHash P (Str.ofString "_MOVE_COST"), (.str (Str.ofString "_MOVE_COST") 192), (.int 2 191)⟩, ⟨PyData.keyHash P (Str.ofString "_CASE_COST"), (.str (Str.ofString "_CASE_COST") 194), (.int 1 193)⟩, ⟨PyData.keyHash P (Str.ofString "_substitution_cost"), (.str (Str.ofString "_substitution_cost") 202), (.ref 21)⟩, ⟨PyData.keyHash P (Str.ofString "_levenshtein_distance"), (.str (Str.ofString "_levenshtein_distance") 222), (.ref 28)⟩, ⟨PyData.keyHash P (Str.ofString "b1_set"), (.str (Str.ofString "b1_set") 284), (.ref 36)⟩, ⟨PyData.keyHash P (Str.ofString "in_table_b1"), (.str (Str.ofString "in_table_b1") 291), (.ref 46)⟩, ⟨PyData.keyHash P (Str.ofString "b3_exceptions"), (.str (Str.ofString "b3_exceptions") 2242), (.ref 47)⟩, ⟨PyData.keyHash P (Str.ofString "map_table_b3"), (.str (Str.ofString "map_table_b3") 2250), (.ref 92)⟩, ⟨PyData.keyHash P (Str.ofString "ENDMARKER"), (.str (Str.ofString "ENDMARKER") 2254), (.int 0 2253)⟩, ⟨PyData.keyHash P (Str.ofString "LPAR"), (.str (Str.ofString "LPAR") 2256), (.int 7 2255)⟩, ⟨PyData.keyHash P (Str.ofString "RPAR"), (.str (Str.ofString "RPAR") 2258), (.int 8 2257)⟩, ⟨PyData.keyHash P (Str.ofString "LSQB"), (.str (Str.ofString "LSQB") 2260), (.int 9 2259)⟩, ⟨PyData.keyHash P (Str.ofString "RSQB"), (.str (Str.ofString "RSQB") 2262), (.int 10 2261)⟩, ⟨PyData.keyHash P (Str.ofString "COLON"), (.str (Str.ofString "COLON") 2264), (.int 11 2263)⟩, ⟨PyData.keyHash P (Str.ofString "COMMA"), (.str (Str.ofString "COMMA") 2266), (.int 12 2265)⟩, ⟨PyData.keyHash P (Str.ofString "SEMI"), (.str (Str.ofString "SEMI") 2268), (.int 13 2267)⟩, ⟨PyData.keyHash P (Str.ofString "PLUS"), (.str (Str.ofString "PLUS") 2270), (.int 14 2269)⟩, ⟨PyData.keyHash P (Str.ofString "MINUS"), (.str (Str.ofString "MINUS") 2272), (.int 15 2271)⟩, ⟨PyData.keyHash P (Str.ofString "STAR"), (.str (Str.ofString "STAR") 2274), (.int 16 2273)⟩, ⟨PyData.keyHash P (Str.ofString "SLASH"), (.str (Str.ofString "SLASH") 2276), (.int 17 2275)⟩, ⟨PyData.keyHash P (Str.ofString "VBAR"), (.str (Str.ofString "VBAR") 2278), (.int 18 2277)⟩, ⟨PyData.keyHash P (Str.ofString "AMPER"), (.str (Str.ofString "AMPER") 2280), (.int 19 2279)⟩, ⟨PyData.keyHash P (Str.ofString "LESS"), (.str (Str.ofString "LESS") 2282), (.int 20 2281)⟩, ⟨PyData.keyHash P (Str.ofString "GREATER"), (.str (Str.ofString "GREATER") 2284), (.int 21 2283)⟩, ⟨PyData.keyHash P (Str.ofString "EQUAL"), (.str (Str.ofString "EQUAL") 2286), (.int 22 2285)⟩, ⟨PyData.keyHash P (Str.ofString "DOT"), (.str (Str.ofString "DOT") 2288), (.int 23 2287)⟩, ⟨PyData.keyHash P (Str.ofString "PERCENT"), (.str (Str.ofString "PERCENT") 2290), (.int 24 2289)⟩, ⟨PyData.keyHash P (Str.ofString "LBRACE"), (.str (Str.ofString "LBRACE") 2292), (.int 25 2291)⟩, ⟨PyData.keyHash P (Str.ofString "RBRACE"), (.str (Str.ofString "RBRACE") 2294), (.int 26 2293)⟩, ⟨PyData.keyHash P (Str.ofString "EQEQUAL"), (.str (Str.ofString "EQEQUAL") 2296), (.int 27 2295)⟩, ⟨PyData.keyHash P (Str.ofString "NOTEQUAL"), (.str (Str.ofString "NOTEQUAL") 2298), (.int 28 2297)⟩, ⟨PyData.keyHash P (Str.ofString "LESSEQUAL"), (.str (Str.ofString "LESSEQUAL") 2300), (.int 29 2299)⟩, ⟨PyData.keyHash P (Str.ofString "GREATEREQUAL"), (.str (Str.ofString "GREATEREQUAL") 2302), (.int 30 2301)⟩, ⟨PyData.keyHash P (Str.ofString "TILDE"), (.str (Str.ofString "TILDE") 2304), (.int 31 2303)⟩, ⟨PyData.keyHash P (Str.ofString "CIRCUMFLEX"), (.str (Str.ofString "CIRCUMFLEX") 2306), (.int 32 2305)⟩, ⟨PyData.keyHash P (Str.ofString "LEFTSHIFT"), (.str (Str.ofString "LEFTSHIFT") 2308), (.int 33 2307)⟩, ⟨PyData.keyHash P (Str.ofString "RIGHTSHIFT"), (.str (Str.ofString "RIGHTSHIFT") 2310), (.int 34 2309)⟩, ⟨PyData.keyHash P (Str.ofString "DOUBLESTAR"), (.str (Str.ofString "DOUBLESTAR") 2312), (.int 35 2311)⟩, ⟨PyData.keyHash P (Str.ofString "PLUSEQUAL"), (.str (Str.ofString "PLUSEQUAL") 2314), (.int 36 2313)⟩, ⟨PyData.keyHash P (Str.ofString "MINEQUAL"), (.str (Str.ofString "MINEQUAL") 2316), (.int 37 2315)⟩, ⟨PyData.keyHash P (Str.ofString "STAREQUAL"), (.str (Str.ofString "STAREQUAL") 2318), (.int 38 2317)⟩, ⟨PyData.keyHash P (Str.ofString "SLASHEQUAL"), (.str (Str.ofString "SLASHEQUAL") 2320), (.int 39 2319)⟩, ⟨PyData.keyHash P (Str.ofString "PERCENTEQUAL"), (.str (Str.ofString "PERCENTEQUAL") 2322), (.int 40 2321)⟩, ⟨PyData.keyHash P (Str.ofString "AMPEREQUAL"), (.str (Str.ofString "AMPEREQUAL") 2324), (.int 41 2323)⟩, ⟨PyData.keyHash P (Str.ofString "VBAREQUAL"), (.str (Str.ofString "VBAREQUAL") 2326), (.int 42 2325)⟩, ⟨PyData.keyHash P (Str.ofString "CIRCUMFLEXEQUAL"), (.str (Str.ofString "CIRCUMFLEXEQUAL") 2328), (.int 43 2327)⟩, ⟨PyData.keyHash P (Str.ofString "LEFTSHIFTEQUAL"), (.str (Str.ofString "LEFTSHIFTEQUAL") 2330), (.int 44 2329)⟩, ⟨PyData.keyHash P (Str.ofString "RIGHTSHIFTEQUAL"), (.str (Str.ofString "RIGHTSHIFTEQUAL") 2332), (.int 45 2331)⟩, ⟨PyData.keyHash P (Str.ofString "DOUBLESTAREQUAL"), (.str (Str.ofString "DOUBLESTAREQUAL") 2334), (.int 46 2333)⟩, ⟨PyData.keyHash P (Str.ofString "DOUBLESLASH"), (.str (Str.ofString "DOUBLESLASH") 2336), (.int 47 2335)⟩, ⟨PyData.keyHash P (Str.ofString "DOUBLESLASHEQUAL"), (.str (Str.ofString "DOUBLESLASHEQUAL") 2338), (.int 48 2337)⟩, ⟨PyData.keyHash P (Str.ofString "AT"), (.str (Str.ofString "AT") 2340), (.int 49 2339)⟩, ⟨PyData.keyHash P (Str.ofString "ATEQUAL"), (.str (Str.ofString "ATEQUAL") 2342), (.int 50 2341)⟩, ⟨PyData.keyHash P (Str.ofString "RARROW"), (.str (Str.ofString "RARROW") 2344), (.int 51 2343)⟩, ⟨PyData.keyHash P (Str.ofString "ELLIPSIS"), (.str (Str.ofString "ELLIPSIS") 2346), (.int 52 2345)⟩, ⟨PyData.keyHash P (Str.ofString "COLONEQUAL"), (.str (Str.ofString "COLONEQUAL") 2348), (.int 53 2347)⟩, ⟨PyData.keyHash P (Str.ofString "EXCLAMATION"), (.str (Str.ofString "EXCLAMATION") 2350), (.int 54 2349)⟩, ⟨PyData.keyHash P (Str.ofString "NT_OFFSET"), (.str (Str.ofString "NT_OFFSET") 2352), (.int 256 2351)⟩, ⟨PyData.keyHash P (Str.ofString "EXACT_TOKEN_TYPES"), (.str (Str.ofString "EXACT_TOKEN_TYPES") 2449), (.ref 93)⟩] 69), #[]⟩
noncomputable def o93_53 (P : Params) : Obj := ⟨(.type "dict"), none, (.dict #[⟨PyData.keyHash P (Str.ofString "!"), (.str (Str.ofString "!") 2353), (.int 54 2349)⟩, ⟨PyData.keyHash P (Str.ofString "!="), (.str (Str.ofString "!=") 2355), (.int 28 2297)⟩, ⟨PyData.keyHash P (Str.ofString "%"), (.str (Str.ofString "%") 2357), (.int 24 2289)⟩, ⟨PyData.keyHash P (Str.ofString "%="), (.str (Str.ofString "%=") 2359), (.int 40 2321)⟩, ⟨PyData.keyHash P (Str.ofString "&"), (.str (Str.ofString "&") 2361), (.int 19 2279)⟩, ⟨PyData.keyHash P (Str.ofString "&="), (.str (Str.ofString "&=") 2363), (.int 41 2323)⟩, ⟨PyData.keyHash P (Str.ofString "("), (.str (Str.ofString "(") 2365), (.int 7 2255)⟩, ⟨PyData.keyHash P (Str.ofString ")"), (.str (Str.ofString ")") 2367), (.int 8 2257)⟩, ⟨PyData.keyHash P (Str.ofString "*"), (.str (Str.ofString "*") 2369), (.int 16 2273)⟩, ⟨PyData.keyHash P (Str.ofString "**"), (.str (Str.ofString "**") 2371), (.int 35 2311)⟩, ⟨PyData.keyHash P (Str.ofString "**="), (.str (Str.ofString "**=") 2373), (.int 46 2333)⟩, ⟨PyData.keyHash P (Str.ofString "*="), (.str (Str.ofString "*=") 2375), (.int 38 2317)⟩, ⟨PyData.keyHash P (Str.ofString "+"), (.str (Str.ofString "+") 2377), (.int 14 2269)⟩, ⟨PyData.keyHash P (Str.ofString "+="), (.str (Str.ofString "+=") 2379), (.int 36 2313)⟩, ⟨PyData.keyHash P (Str.ofString ","), (.str (Str.ofString ",") 2381), (.int 12 2265)⟩, ⟨PyData.keyHash P (Str.ofString "-"), (.str (Str.ofString "-") 2383), (.int 15 2271)⟩, ⟨PyData.keyHash P (Str.ofString "-="), (.str (Str.ofString "-=") 2385), (.int 37 2315)⟩, ⟨PyData.keyHash P (Str.ofString "->"), (.str (Str.ofString "->") 2387), (.int 51 2343)⟩, ⟨PyData.keyHash P (Str.ofString "."), (.str (Str.ofString ".") 2389), (.int 23 2287)⟩, ⟨PyData.keyHash P (Str.ofString "..."), (.str (Str.ofString "...") 2391), (.int 52 2345)⟩, ⟨PyData.keyHash P (Str.ofString "/"), (.str (Str.ofString "/") 2393), (.int 17 2275)⟩, ⟨PyData.keyHash P (Str.ofString "//"), (.str (Str.ofString "//") 2395), (.int 47 2335)⟩, ⟨PyData.keyHash P (Str.ofString "//="), (.str (Str.ofString "//=") 2397), (.int 48 2337)⟩, ⟨PyData.keyHash P (Str.ofString "/="), (.str (Str.ofString "/=") 2399), (.int 39 2319)⟩, ⟨PyData.keyHash P (Str.ofString ":"), (.str (Str.ofString ":") 2401), (.int 11 2263)⟩, ⟨PyData.keyHash P (Str.ofString ":="), (.str (Str.ofString ":=") 2403), (.int 53 2347)⟩, ⟨PyData.keyHash P (Str.ofString ";"), (.str (Str.ofString ";") 2405), (.int 13 2267)⟩, ⟨PyData.keyHash P (Str.ofString "<"), (.str (Str.ofString "<") 2407), (.int 20 2281)⟩, ⟨PyData.keyHash P (Str.ofString "<<"), (.str (Str.ofString "<<") 2409), (.int 33 2307)⟩, ⟨PyData.keyHash P (Str.ofString "<<="), (.str (Str.ofString "<<=") 2411), (.int 44 2329)⟩, ⟨PyData.keyHash P (Str.ofString "<="), (.str (Str.ofString "<=") 2413), (.int 29 2299)⟩, ⟨PyData.keyHash P (Str.ofString "="), (.str (Str.ofString "=") 2415), (.int 22 2285)⟩, ⟨PyData.keyHash P (Str.ofString "=="), (.str (Str.ofString "==") 2417), (.int 27 2295)⟩, ⟨PyData.keyHash P (Str.ofString ">"), (.str (Str.ofString ">") 2419), (.int 21 2283)⟩, ⟨PyData.keyHash P (Str.ofString ">="), (.str (Str.ofString ">=") 2421), (.int 30 2301)⟩, ⟨PyData.keyHash P (Str.ofString ">>"), (.str (Str.ofString ">>") 2422), (.int 34 2309)⟩, ⟨PyData.keyHash P (Str.ofString ">>="), (.str (Str.ofString ">>=") 2423), (.int 45 2331)⟩, ⟨PyData.keyHash P (Str.ofString "@"), (.str (Str.ofString "@") 2424), (.int 49 2339)⟩, ⟨PyData.keyHash P (Str.ofString "@="), (.str (Str.ofString "@=") 2425), (.int 50 2341)⟩, ⟨PyData.keyHash P (Str.ofString "["), (.str (Str.ofString "[") 2426), (.int 9 2259)⟩, ⟨PyData.keyHash P (Str.ofString "]"), (.str (Str.ofString "]") 2427), (.int 10 2261)⟩, ⟨PyData.keyHash P (Str.ofString "^"), (.str (Str.ofString "^") 2428), (.int 32 2305)⟩, ⟨PyData.keyHash P (Str.ofString "^="), (.str (Str.ofString "^=") 2429), (.int 43 2327)⟩, ⟨PyData.keyHash P (Str.ofString "{"), (.str (Str.ofString "{") 2430), (.int 25 2291)⟩, ⟨PyData.keyHash P (Str.ofString "|"), (.str (Str.ofString "|") 2431), (.int 18 2277)⟩, ⟨PyData.keyHash P (Str.ofString "|="), (.str (Str.ofString "|=") 2432), (.int 42 2325)⟩, ⟨PyData.keyHash P (Str.ofString "}"), (.str (Str.ofString "}") 2433), (.int 26 2293)⟩, ⟨PyData.keyHash P (Str.ofString "~"), (.str (Str.ofString "~") 2434), (.int 31 2303)⟩] 48), #[]⟩
noncomputable def o94_54 (P : Params) : Obj := ⟨(.type "dict"), none, (.dict #[⟨PyData.keyHash P (Str.ofString "->"), (.str (Str.ofString "->") 2387), (.int 51 2343)⟩, ⟨PyData.keyHash P (Str.ofString "."), (.str (Str.ofString ".") 2389), (.int 23 2287)⟩, ⟨PyData.keyHash P (Str.ofString "..."), (.str (Str.ofString "...") 2391), (.int 52 2345)⟩, ⟨PyData.keyHash P (Str.ofString "/"), (.str (Str.ofString "/") 2393), (.int 17 2275)⟩, ⟨PyData.keyHash P (Str.ofString "//"), (.str (Str.ofString "//") 2395), (.int 47 2335)⟩, ⟨PyData.keyHash P (Str.ofString "//="), (.str (Str.ofString "//=") 2397), (.int 48 2337)⟩, ⟨PyData.keyHash P (Str.ofString "/="), (.str (Str.ofString "/=") 2399), (.int 39 2319)⟩, ⟨PyData.keyHash P (Str.ofString ":"), (.str (Str.ofString ":") 2401), (.int 11 2263)⟩, ⟨PyData.keyHash P (Str.ofString ":="), (.str (Str.ofString ":=") 2403), (.int 53 2347)⟩, ⟨PyData.keyHash P (Str.ofString ";"), (.str (Str.ofString ";") 2405), (.int 13 2267)⟩, ⟨PyData.keyHash P (Str.ofString "<"), (.str (Str.ofString "<") 2407), (.int 20 2281)⟩, ⟨PyData.keyHash P (Str.ofString "<<"), (.str (Str.ofString "<<") 2409), (.int 33 2307)⟩, ⟨PyData.keyHash P (Str.ofString "<<="), (.str (Str.ofString "<<=") 2411), (.int 44 2329)⟩, ⟨PyData.keyHash P (Str.ofString "<="), (.str (Str.ofString "<=") 2413), (.int 29 2299)⟩, ⟨PyData.keyHash P (Str.ofString "="), (.str (Str.ofString "=") 2415), (.int 22 2285)⟩, ⟨PyData.keyHash P (Str.ofString "=="), (.str (Str.ofString "==") 2417), (.int 27 2295)⟩, ⟨PyData.keyHash P (Str.ofString ">"), (.str (Str.ofString ">") 2419), (.int 21 2283)⟩] 17), #[]⟩
noncomputable def o95_55 (P : Params) : Obj := ⟨(.type "dict"), none, (.dict #[⟨PyData.keyHash P (Str.ofString ">="), (.str (Str.ofString ">=") 2421), (.int 30 2301)⟩, ⟨PyData.keyHash P (Str.ofString ">>"), (.str (Str.ofString ">>") 2422), (.int 34 2309)⟩, ⟨PyData.keyHash P (Str.ofString ">>="), (.str (Str.ofString ">>=") 2423), (.int 45 2331)⟩, ⟨PyData.keyHash P (Str.ofString "@"), (.str (Str.ofString "@") 2424), (.int 49 2339)⟩, ⟨PyData.keyHash P (Str.ofString "@="), (.str (Str.ofString "@=") 2425), (.int 50 2341)⟩, ⟨PyData.keyHash P (Str.ofString "["), (.str (Str.ofString "[") 2426), (.int 9 2259)⟩, ⟨PyData.keyHash P (Str.ofString "]"), (.str (Str.ofString "]") 2427), (.int 10 2261)⟩, ⟨PyData.keyHash P (Str.ofString "^"), (.str (Str.ofString "^") 2428), (.int 32 2305)⟩, ⟨PyData.keyHash P (Str.ofString "^="), (.str (Str.ofString "^=") 2429), (.int 43 2327)⟩, ⟨PyData.keyHash P (Str.ofString "{"), (.str (Str.ofString "{") 2430), (.int 25 2291)⟩, ⟨PyData.keyHash P (Str.ofString "|"), (.str (Str.ofString "|") 2431), (.int 18 2277)⟩, ⟨PyData.keyHash P (Str.ofString "|="), (.str (Str.ofString "|=") 2432), (.int 42 2325)⟩, ⟨PyData.keyHash P (Str.ofString "}"), (.str (Str.ofString "}") 2433), (.int 26 2293)⟩, ⟨PyData.keyHash P (Str.ofString "~"), (.str (Str.ofString "~") 2434), (.int 31 2303)⟩] 14), #[]⟩
noncomputable def T63 (P : Params) : BT := (.node (boot_o_0 P) (.node (boot_o_1 P) (.node (o3_52 P) (.node (boot_o_7 P) (.node (o15_6 P) (.node (o31_23 P) (.node (b3sub 15) .nil .nil) (.node (o95_55 P) .nil .nil)) (.node b3Main (.node (b3sub 31) .nil .nil) .nil)) (.node (o23_14 P) (.node (o39_31 P) (.node (b3sub 23) .nil .nil) .nil) (.node (b3sub 7) (.node (o87_45 P) .nil .nil) .nil))) (.node (o11_0 P) (.node (o19_10 P) (.node (o35_27 P) (.node (b3sub 19) .nil .nil) .nil) (.node (b3sub 3) (.node (b3sub 35) .nil .nil) .nil)) (.node (o27_18 P) (.node (o43_37 P) (.node (b3sub 27) .nil .nil) .nil) (.node (b3sub 11) (.node (o91_49 P) .nil .nil) .nil)))) (.node (boot_o_5 P) (.node (boot_o_9 P) (.node (o17_8 P) (.node (o33_25 P) (.node (b3sub 17) .nil .nil) .nil) (.node (b3sub 1) (.node (b3sub 33) .nil .nil) .nil)) (.node (o25_16 P) (.node (o41_35 P) (.node (b3sub 25) .nil .nil) .nil) (.node (b3sub 9) (.node (o89_47 P) .nil .nil) .nil))) (.node (o13_2 P) (.node (o21_12 P) (.node (o37_29 P) (.node (b3sub 21) .nil .nil) .nil) (.node (b3sub 5) (.node (b3sub 37) .nil .nil) .nil)) (.node (o29_21 P) (.node (o45_39 P) (.node (b3sub 29) .nil .nil) .nil) (.node (b3sub 13) (.node (o93_53 P) .nil .nil) .nil))))) (.node (boot_o_2 P) (.node (boot_o_4 P) (.node (boot_o_8 P) (.node (o16_7 P) (.node (o32_24 P) (.node (b3sub 16) .nil .nil) .nil) (.node (b3sub 0) (.node (b3sub 32) .nil .nil) .nil)) (.node (o24_15 P) (.node (o40_34 P) (.node (b3sub 24) .nil .nil) .nil) (.node (b3sub 8) (.node (o88_46 P) .nil .nil) .nil))) (.node (o12_43 P) (.node (o20_11 P) (.node (o36_28 P) (.node (b3sub 20) .nil .nil) .nil) (.node (b3sub 4) (.node (b3sub 36) .nil .nil) .nil)) (.node (o28_19 P) (.node (o44_38 P) (.node (b3sub 28) .nil .nil) .nil) (.node (b3sub 12) (.node (o92_50 P) .nil .nil) .nil)))) (.node (boot_o_6 P) (.node (boot_o_10 P) (.node (o18_9 P) (.node (o34_26 P) (.node (b3sub 18) .nil .nil) .nil) (.node (b3sub 2) (.node (b3sub 34) .nil .nil) .nil)) (.node (o26_17 P) (.node (o42_36 P) (.node (b3sub 26) .nil .nil) .nil) (.node (b3sub 10) (.node (o90_48 P) .nil .nil) .nil))) (.node (o14_3 P) (.node (o22_13 P) (.node (o38_30 P) (.node (b3sub 22) .nil .nil) .nil) (.node (b3sub 6) (.node (o86_44 P) .nil .nil) .nil)) (.node (o30_22 P) (.node (o46_40 P) (.node (b3sub 30) .nil .nil) .nil) (.node (b3sub 14) (.node (o94_54 P) .nil .nil) .nil))))))
noncomputable abbrev n63 : Nat := 96
noncomputable abbrev k63 : Nat := 2450
noncomputable abbrev q63 : Pos := ⟨110, 0, 110, 17⟩
noncomputable def o3_56 (P : Params) : Obj := ⟨(.type "dict"), none, (.dict #[⟨PyData.keyHash P (Str.ofString "__name__"), (.str (Str.ofString "__name__") 165), (.str (Str.ofString "law_rs0227_01") 2471)⟩, ⟨PyData.keyHash P (Str.ofString "__doc__"), (.str (Str.ofString "__doc__") 166), .none⟩, ⟨PyData.keyHash P (Str.ofString "__package__"), (.str (Str.ofString "__package__") 167), .none⟩, ⟨PyData.keyHash P (Str.ofString "__loader__"), (.str (Str.ofString "__loader__") 168), (.builtin "__main__.__loader__#opaque")⟩, ⟨PyData.keyHash P (Str.ofString "__spec__"), (.str (Str.ofString "__spec__") 169), .none⟩, ⟨PyData.keyHash P (Str.ofString "__annotations__"), (.str (Str.ofString "__annotations__") 170), (.ref 6)⟩, ⟨PyData.keyHash P (Str.ofString "__builtins__"), (.str (Str.ofString "__builtins__") 171), (.ref 4)⟩, ⟨PyData.keyHash P (Str.ofString "__file__"), (.str (Str.ofString "__file__") 173), (.str (Str.ofString "/claim/cut.py") 172)⟩, ⟨PyData.keyHash P (Str.ofString "__cached__"), (.str (Str.ofString "__cached__") 174), .none⟩, ⟨PyData.keyHash P (Str.ofString "_MAX_STRING_SIZE"), (.str (Str.ofString "_MAX_STRING_SIZE") 190), (.int 40 189)⟩, ⟨PyData.keyHash P (Str.ofString "_MOVE_COST"), (.str (Str.ofString "_MOVE_COST") 192), (.int 2 191)⟩, ⟨PyData.keyHash P (Str.ofString "_CASE_COST"), (.str (Str.ofString "_CASE_COST") 194), (.int 1 193)⟩, ⟨PyData.keyHash P (Str.ofString "_substitution_cost"), (.str (Str.ofString "_substitution_cost") 202), (.ref 21)⟩, ⟨PyData.keyHash P (Str.ofString "_levenshtein_distance"), (.str (Str.ofString "_levenshtein_distance") 222), (.ref 28)⟩, ⟨PyData.keyHash P (Str.ofString "b1_set"), (.str (Str.ofString "b1_set") 284), (.ref 36)⟩, ⟨PyData.keyHash P (Str.ofString "in_table_b1"), (.str (Str.ofString "in_table_b1") 291), (.ref 46)⟩, ⟨PyData.keyHash P (Str.ofString "b3_exceptions"), (.str (Str.ofString "b3_exceptions") 2242), (.ref 47)⟩, ⟨PyData.keyHash P (Str.ofString "map_table_b3"), (.str (Str.ofString "map_table_b3") 2250), (.ref 92)⟩, ⟨PyData.keyHash P (Str.ofString "ENDMARKER"), (.str (Str.ofString "ENDMARKER") 2254), (.int 0 2253)⟩, ⟨PyData.keyHash P (Str.ofString "LPAR"), (.str (Str.ofString "LPAR") 2256), (.int 7 2255)⟩, ⟨PyData.keyHash P (Str.ofString "RPAR"), (.str (Str.ofString "RPAR") 2258), (.int 8 2257)⟩, ⟨PyData.keyHash P (Str.ofString "LSQB"), (.str (Str.ofString "LSQB") 2260), (.int 9 2259)⟩, ⟨PyData.keyHash P (Str.ofString "RSQB"), (.str (Str.ofString "RSQB") 2262), (.int 10 2261)⟩, ⟨PyData.keyHash P (Str.ofString "COLON"), (.str (Str.ofString "COLON") 2264), (.int 11 2263)⟩, ⟨PyData.keyHash P (Str.ofString "COMMA"), (.str (Str.ofString "COMMA") 2266), (.int 12 2265)⟩, ⟨PyData.keyHash P (Str.ofString "SEMI"), (.str (Str.ofString "SEMI") 2268), (.int 13 2267)⟩, ⟨PyData.keyHash P (Str.ofString "PLUS"), (.str (Str.ofString "PLUS") 2270), (.int 14 2269)⟩, ⟨PyData.keyHash P (Str.ofString "MINUS"), (.str (Str.ofString "MINUS") 2272), (.int 15 2271)⟩, ⟨PyData.keyHash P (Str.ofString "STAR"), (.str (Str.ofString "STAR") 2274), (.int 16 2273)⟩, ⟨PyData.keyHash P (Str.ofString "SLASH"), (.str (Str.ofString "SLASH") 2276), (.int 17 2275)⟩, ⟨PyData.keyHash P (Str.ofString "VBAR"), (.str (Str.ofString "VBAR") 2278), (.int 18 2277)⟩, ⟨PyData.keyHash P (Str.ofString "AMPER"), (.str (Str.ofString "AMPER") 2280), (.int 19 2279)⟩, ⟨PyData.keyHash P (Str.ofString "LESS"), (.str (Str.ofString "LESS") 2282), (.int 20 2281)⟩, ⟨PyData.keyHash P (Str.ofString "GREATER"), (.str (Str.ofString "GREATER") 2284), (.int 21 2283)⟩, ⟨PyData.keyHash P (Str.ofString "EQUAL"), (.str (Str.ofString "EQUAL") 2286), (.int 22 2285)⟩, ⟨PyData.keyHash P (Str.ofString "DOT"), (.str (Str.ofString "DOT") 2288), (.int 23 2287)⟩, ⟨PyData.keyHash P (Str.ofString "PERCENT"), (.str (Str.ofString "PERCENT") 2290), (.int 24 2289)⟩, ⟨PyData.keyHash P (Str.ofString "LBRACE"), (.str (Str.ofString "LBRACE") 2292), (.int 25 2291)⟩, ⟨PyData.keyHash P (Str.ofString "RBRACE"), (.str (Str.ofString "RBRACE") 2294), (.int 26 2293)⟩, ⟨PyData.keyHash P (Str.ofString "EQEQUAL"), (.str (Str.ofString "EQEQUAL") 2296), (.int 27 2295)⟩, ⟨PyData.keyHash P (Str.ofString "NOTEQUAL"), (.str (Str.ofString "NOTEQUAL") 2298), (.int 28 2297)⟩, ⟨PyData.keyHash P (Str.ofString "LESSEQUAL"), (.str (Str.ofString "LESSEQUAL") 2300), (.int 29 2299)⟩, ⟨PyData.keyHash P (Str.ofString "GREATEREQUAL"), (.str (Str.ofString "GREATEREQUAL") 2302), (.int 30 2301)⟩, ⟨PyData.keyHash P (Str.ofString "TILDE"), (.str (Str.ofString "TILDE") 2304), (.int 31 2303)⟩, ⟨PyData.keyHash P (Str.ofString "CIRCUMFLEX"), (.str (Str.ofString "CIRCUMFLEX") 2306), (.int 32 2305)⟩, ⟨PyData.keyHash P (Str.ofString "LEFTSHIFT"), (.str (Str.ofString "LEFTSHIFT") 2308), (.int 33 2307)⟩, ⟨PyData.keyHash P (Str.ofString "RIGHTSHIFT"), (.str (Str.ofString "RIGHTSHIFT") 2310), (.int 34 2309)⟩, ⟨PyData.keyHash P (Str.ofString "DOUBLESTAR"), (.str (Str.ofString "DOUBLESTAR") 2312), (.int 35 2311)⟩, ⟨PyData.keyHash P (Str.ofString "PLUSEQUAL"), (.str (Str.ofString "PLUSEQUAL") 2314), (.int 36 2313)⟩, ⟨PyData.keyHash P (Str.ofString "MINEQUAL"), (.str (Str.ofString "MINEQUAL") 2316), (.int 37 2315)⟩, ⟨PyData.keyHash P (Str.ofString "STAREQUAL"), (.str (Str.ofString "STAREQUAL") 2318), (.int 38 2317)⟩, ⟨PyData.keyHash P (Str.ofString "SLASHEQUAL"), (.str (Str.ofString "SLASHEQUAL") 2320), (.int 39 2319)⟩, ⟨PyData.keyHash P (Str.ofString "PERCENTEQUAL"), (.str (Str.ofString "PERCENTEQUAL") 2322), (.int 40 2321)⟩, ⟨PyData.keyHash P (Str.ofString "AMPEREQUAL"), (.str (Str.ofString "AMPEREQUAL") 2324), (.int 41 2323)⟩, ⟨PyData.keyHash P (Str.ofString "VBAREQUAL"), (.str (Str.ofString "VBAREQUAL") 2326), (.int 42 2325)⟩, ⟨PyData.keyHash P (Str.ofString "CIRCUMFLEXEQUAL"), (.str (Str.ofString "CIRCUMFLEXEQUAL") 2328), (.int 43 2327)⟩, ⟨PyData.keyHash P (Str.ofString "LEFTSHIFTEQUAL"), (.str (Str.ofString "LEFTSHIFTEQUAL") 2330), (.int 44 2329)⟩, ⟨PyData.keyHash P (Str.ofString "RIGHTSHIFTEQUAL"), (.str (Str.ofString "RIGHTSHIFTEQUAL") 2332), (.int 45 2331)⟩, ⟨PyData.keyHash P (Str.ofString "DOUBLESTAREQUAL"), (.str (Str.ofString "DOUBLESTAREQUAL") 2334), (.int 46 2333)⟩, ⟨PyData.keyHash P (Str.ofString "DOUBLESLASH"), (.str (Str.ofString "DOUBLESLASH") 2336), (.int 47 2335)⟩, ⟨PyData.keyHash P (Str.ofString "DOUBLESLASHEQUAL"), (.str (Str.ofString "DOUBLESLASHEQUAL") 2338), (.int 48 2337)⟩, ⟨PyData.keyHash P (Str.ofString "AT"), (.str (Str.ofString "AT") 2340), (.int 49 2339)⟩, ⟨PyData.keyHash P (Str.ofString "ATEQUAL"), (.str (Str.ofString "ATEQUAL") 2342), (.int 50 2341)⟩, ⟨PyData.keyHash P (Str.ofString "RARROW"), (.str (Str.ofString "RARROW") 2344), (.int 51 2343)⟩, ⟨PyData.keyHash P (Str.ofString "ELLIPSIS"), (.str (Str.ofString "ELLIPSIS") 2346), (.int 52 2345)⟩, ⟨PyData.keyHash P (Str.ofString "COLONEQUAL"), (.str (Str.ofString "COLONEQUAL") 2348), (.int 53 2347)⟩, ⟨PyData.keyHash P (Str.ofString "EXCLAMATION"), (.str (Str.ofString "EXCLAMATION") 2350), (.int 54 2349)⟩, ⟨PyData.keyHash P (Str.ofString "NT_OFFSET"), (.str (Str.ofString "NT_OFFSET") 2352), (.int 256 2351)⟩, ⟨PyData.keyHash P (Str.ofString "EXACT_TOKEN_TYPES"), (.str (Str.ofString "EXACT_TOKEN_TYPES") 2449), (.ref 93)⟩, ⟨PyData.keyHash P (Str.ofString "ISTERMINAL"), (.str (Str.ofString "ISTERMINAL") 2456), (.ref 102)⟩, ⟨PyData.keyHash P (Str.ofString "ISNONTERMINAL"), (.str (Str.ofString "ISNONTERMINAL") 2463), (.ref 109)⟩, ⟨PyData.keyHash P (Str.ofString "ISEOF"), (.str (Str.ofString "ISEOF") 2470), (.ref 116)⟩] 72), #[]⟩
noncomputable def o12_57 (P : Params) : Obj := ⟨.none, none, (.fields #[(.int 5 0), (.int 0 0), (.ref 20), (.int 11 0), (.int 0 0), (.ref 27), (.int 51 0), (.int 0 0), (.ref 45), (.int 54 0), (.int 0 0), (.ref 91), (.int 111 0), (.int 0 0), (.ref 101), (.int 113 0), (.int 0 0), (.ref 108), (.int 115 0), (.int 0 0), (.ref 115)]), #[]⟩
noncomputable def o96_58 (P : Params) : Obj := ⟨(.type "tuple"), none, (.seq #[] 0), #[]⟩
noncomputable def o97_59 (P : Params) : Obj := ⟨.none, none, (.fields #[]), #[]⟩
noncomputable def o98_60 (P : Params) : Obj := ⟨(.type "tuple"), none, (.seq #[(.str (Str.ofString "x") 2453)] 0), #[]⟩
noncomputable def o99_61 (P : Params) : Obj := ⟨(.type "tuple"), none, (.seq #[] 0), #[]⟩
noncomputable def o100_62 (P : Params) : Obj := ⟨.none, none, (.func { name := (Str.ofString "ISTERMINAL"), qualname := (Str.ofString "ISTERMINAL"), params := fnP 63, body := .stmts (fnB 63), scope := fnS 63, globals := 0, closure := [], defaults := .none, kwdefaults := .none, doc := .none, pyModule := .none, annotations := none, code := .none, closureTuple := .none, builtins := 0 }), #[]⟩
noncomputable def o101_63 (P : Params) : Obj := ⟨(.type "code"), none, (.fields #[(.str (Str.ofString "ISTERMINAL") 2450), (.str (Str.ofString "ISTERMINAL") 2451), (.str (Str.ofString "/claim/cut.py") 2452), (.int 111 0), (.int 1 0), (.int 0 0), (.int 0 0), (.int 3 0), (.ref 96), (.bool true), (.int 181 0), (.ref 97), .none, (.ref 98), (.ref 99), (.ref 100), (.int 2454 0), (.int 111 0), (.str (Str.ofString "/claim/cut.py") 2455)]), #[]⟩
noncomputable def o102_64 (P : Params) : Obj := ⟨(.type "function"), none, (.func { name := (Str.ofString "ISTERMINAL"), qualname := (Str.ofString "ISTERMINAL"), params := fnP 63, body := .stmts (fnB 63), scope := fnS 63, globals := 3, closure := [], defaults := .none, kwdefaults := .none, doc := .none, pyModule := (.str (Str.ofString "cpy313.token") 2251), annotations := none, code := (.ref 101), closureTuple := .none, builtins := 0 }), #[]⟩
noncomputable def o103_65 (P : Params) : Obj := ⟨(.type "tuple"), none, (.seq #[] 0), #[]⟩
noncomputable def o104_66 (P : Params) : Obj := ⟨.none, none, (.fields #[]), #[]⟩
noncomputable def o105_67 (P : Params) : Obj := ⟨(.type "tuple"), none, (.seq #[(.str (Str.ofString "x") 2460)] 0), #[]⟩
noncomputable def o106_68 (P : Params) : Obj := ⟨(.type "tuple"), none, (.seq #[] 0), #[]⟩
noncomputable def o107_69 (P : Params) : Obj := ⟨.none, none, (.func { name := (Str.ofString "ISNONTERMINAL"), qualname := (Str.ofString "ISNONTERMINAL"), params := fnP 64, body := .stmts (fnB 64), scope := fnS 64, globals := 0, closure := [], defaults := .none, kwdefaults := .none, doc := .none, pyModule := .none, annotations := none, code := .none, closureTuple := .none, builtins := 0 }), #[]⟩
noncomputable def o108_70 (P : Params) : Obj := ⟨(.type "code"), none, (.fields #[(.str (Str.ofString "ISNONTERMINAL") 2457), (.str (Str.ofString "ISNONTERMINAL") 2458), (.str (Str.ofString "/claim/cut.py") 2459), (.int 113 0), (.int 1 0), (.int 0 0), (.int 0 0), (.int 3 0), (.ref 103), (.bool true), (.int 181 0), (.ref 104), .none, (.ref 105), (.ref 106), (.ref 107), (.int 2461 0), (.int 113 0), (.str (Str.ofString "/claim/cut.py") 2462)]), #[]⟩
noncomputable def o109_71 (P : Params) : Obj := ⟨(.type "function"), none, (.func { name := (Str.ofString "ISNONTERMINAL"), qualname := (Str.ofString "ISNONTERMINAL"), params := fnP 64, body := .stmts (fnB 64), scope := fnS 64, globals := 3, closure := [], defaults := .none, kwdefaults := .none, doc := .none, pyModule := (.str (Str.ofString "cpy313.token") 2251), annotations := none, code := (.ref 108), closureTuple := .none, builtins := 0 }), #[]⟩
noncomputable def o110_72 (P : Params) : Obj := ⟨(.type "tuple"), none, (.seq #[] 0), #[]⟩
noncomputable def o111_73 (P : Params) : Obj := ⟨.none, none, (.fields #[]), #[]⟩
noncomputable def o112_74 (P : Params) : Obj := ⟨(.type "tuple"), none, (.seq #[(.str (Str.ofString "x") 2467)] 0), #[]⟩
noncomputable def o113_75 (P : Params) : Obj := ⟨(.type "tuple"), none, (.seq #[] 0), #[]⟩
noncomputable def o114_76 (P : Params) : Obj := ⟨.none, none, (.func { name := (Str.ofString "ISEOF"), qualname := (Str.ofString "ISEOF"), params := fnP 65, body := .stmts (fnB 65), scope := fnS 65, globals := 0, closure := [], defaults := .none, kwdefaults := .none, doc := .none, pyModule := .none, annotations := none, code := .none, closureTuple := .none, builtins := 0 }), #[]⟩
noncomputable def o115_77 (P : Params) : Obj := ⟨(.type "code"), none, (.fields #[(.str (Str.ofString "ISEOF") 2464), (.str (Str.ofString "ISEOF") 2465), (.str (Str.ofString "/claim/cut.py") 2466), (.int 115 0), (.int 1 0), (.int 0 0), (.int 0 0), (.int 3 0), (.ref 110), (.bool true), (.int 181 0), (.ref 111), .none, (.ref 112), (.ref 113), (.ref 114), (.int 2468 0), (.int 115 0), (.str (Str.ofString "/claim/cut.py") 2469)]), #[]⟩
noncomputable def o116_78 (P : Params) : Obj := ⟨(.type "function"), none, (.func { name := (Str.ofString "ISEOF"), qualname := (Str.ofString "ISEOF"), params := fnP 65, body := .stmts (fnB 65), scope := fnS 65, globals := 3, closure := [], defaults := .none, kwdefaults := .none, doc := .none, pyModule := (.str (Str.ofString "cpy313.token") 2251), annotations := none, code := (.ref 115), closureTuple := .none, builtins := 0 }), #[]⟩
noncomputable def T67 (P : Params) : BT := (.node (boot_o_0 P) (.node (boot_o_1 P) (.node (o3_56 P) (.node (boot_o_7 P) (.node (o15_6 P) (.node (o31_23 P) (.node (b3sub 15) .nil .nil) (.node (o95_55 P) .nil .nil)) (.node b3Main (.node (b3sub 31) .nil .nil) (.node (o111_73 P) .nil .nil))) (.node (o23_14 P) (.node (o39_31 P) (.node (b3sub 23) .nil .nil) (.node (o103_65 P) .nil .nil)) (.node (b3sub 7) (.node (o87_45 P) .nil .nil) .nil))) (.node (o11_0 P) (.node (o19_10 P) (.node (o35_27 P) (.node (b3sub 19) .nil .nil) (.node (o99_61 P) .nil .nil)) (.node (b3sub 3) (.node (b3sub 35) .nil .nil) (.node (o115_77 P) .nil .nil))) (.node (o27_18 P) (.node (o43_37 P) (.node (b3sub 27) .nil .nil) (.node (o107_69 P) .nil .nil)) (.node (b3sub 11) (.node (o91_49 P) .nil .nil) .nil)))) (.node (boot_o_5 P) (.node (boot_o_9 P) (.node (o17_8 P) (.node (o33_25 P) (.node (b3sub 17) .nil .nil) (.node (o97_59 P) .nil .nil)) (.node (b3sub 1) (.node (b3sub 33) .nil .nil) (.node (o113_75 P) .nil .nil))) (.node (o25_16 P) (.node (o41_35 P) (.node (b3sub 25) .nil .nil) (.node (o105_67 P) .nil .nil)) (.node (b3sub 9) (.node (o89_47 P) .nil .nil) .nil))) (.node (o13_2 P) (.node (o21_12 P) (.node (o37_29 P) (.node (b3sub 21) .nil .nil) (.node (o101_63 P) .nil .nil)) (.node (b3sub 5) (.node (b3sub 37) .nil .nil) .nil)) (.node (o29_21 P) (.node (o45_39 P) (.node (b3sub 29) .nil .nil) (.node (o109_71 P) .nil .nil)) (.node (b3sub 13) (.node (o93_53 P) .nil .nil) .nil))))) (.node (boot_o_2 P) (.node (boot_o_4 P) (.node (boot_o_8 P) (.node (o16_7 P) (.node (o32_24 P) (.node (b3sub 16) .nil .nil) (.node (o96_58 P) .nil .nil)) (.node (b3sub 0) (.node (b3sub 32) .nil .nil) (.node (o112_74 P) .nil .nil))) (.node (o24_15 P) (.node (o40_34 P) (.node (b3sub 24) .nil .nil) (.node (o104_66 P) .nil .nil)) (.node (b3sub 8) (.node (o88_46 P) .nil .nil) .nil))) (.node (o12_57 P) (.node (o20_11 P) (.node (o36_28 P) (.node (b3sub 20) .nil .nil) (.node (o100_62 P) .nil .nil)) (.node (b3sub 4) (.node (b3sub 36) .nil .nil) (.node (o116_78 P) .nil .nil))) (.node (o28_19 P) (.node (o44_38 P) (.node (b3sub 28) .nil .nil) (.node (o108_70 P) .nil .nil)) (.node (b3sub 12) (.node (o92_50 P) .nil .nil) .nil)))) (.node (boot_o_6 P) (.node (boot_o_10 P) (.node (o18_9 P) (.node (o34_26 P) (.node (b3sub 18) .nil .nil) (.node (o98_60 P) .nil .nil)) (.node (b3sub 2) (.node (b3sub 34) .nil .nil) (.node (o114_76 P) .nil .nil))) (.node (o26_17 P) (.node (o42_36 P) (.node (b3sub 26) .nil .nil) (.node (o106_68 P) .nil .nil)) (.node (b3sub 10) (.node (o90_48 P) .nil .nil) .nil))) (.node (o14_3 P) (.node (o22_13 P) (.node (o38_30 P) (.node (b3sub 22) .nil .nil) (.node (o102_64 P) .nil .nil)) (.node (b3sub 6) (.node (o86_44 P) .nil .nil) .nil)) (.node (o30_22 P) (.node (o46_40 P) (.node (b3sub 30) .nil .nil) (.node (o110_72 P) .nil .nil)) (.node (b3sub 14) (.node (o94_54 P) .nil .nil) .nil))))))
noncomputable abbrev n67 : Nat := 117
noncomputable abbrev k67 : Nat := 2473
noncomputable abbrev q67 : Pos := ⟨117, 0, 117, 8⟩
noncomputable def o3_79 (P : Params) : Obj := ⟨(.type "dict"), none, (.dict #[⟨PyData.keyHash P (Str.ofString "__name__"), (.str (Str.ofString "__name__") 165), (.str (Str.ofString "law_rs0227_01") 2471)⟩, ⟨PyData.keyHash P (Str.ofString "__doc__"), (.str (Str.ofString "__doc__") 166), .none⟩, ⟨PyData.keyHash P (Str.ofString "__package__"), (.str (Str.ofString "__package__") 167), .none⟩, ⟨PyData.keyHash P (Str.ofString "__loader__"), (.str (Str.ofString "__loader__") 168), (.builtin "__main__.__loader__#opaque")⟩, ⟨PyData.keyHash P (Str.ofString "__spec__"), (.str (Str.ofString "__spec__") 169), .none⟩, ⟨PyData.keyHash P (Str.ofString "__annotations__"), (.str (Str.ofString "__annotations__") 170), (.ref 6)⟩, ⟨PyData.keyHash P (Str.ofString "__builtins__"), (.str (Str.ofString "__builtins__") 171), (.ref 4)⟩, ⟨PyData.keyHash P (Str.ofString "__file__"), (.str (Str.ofString "__file__") 173), (.str (Str.ofString "/claim/cut.py") 172)⟩, ⟨PyData.keyHash P (Str.ofString "__cached__"), (.str (Str.ofString "__cached__") 174), .none⟩, ⟨PyData.keyHash P (Str.ofString "_MAX_STRING_SIZE"), (.str (Str.ofString "_MAX_STRING_SIZE") 190), (.int 40 189)⟩, ⟨PyData.keyHash P (Str.ofString "_MOVE_COST"), (.str (Str.ofString "_MOVE_COST") 192), (.int 2 191)⟩, ⟨PyData.keyHash P (Str.ofString "_CASE_COST"), (.str (Str.ofString "_CASE_COST") 194), (.int 1 193)⟩, ⟨PyData.keyHash P (Str.ofString "_substitution_cost"), (.str (Str.ofString "_substitution_cost") 202), (.ref 21)⟩, ⟨PyData.keyHash P (Str.ofString "_levenshtein_distance"), (.str (Str.ofString "_levenshtein_distance") 222), (.ref 28)⟩, ⟨PyData.keyHash P (Str.ofString "b1_set"), (.str (Str.ofString "b1_set") 284), (.ref 36)⟩, ⟨PyData.keyHash P (Str.ofString "in_table_b1"), (.str (Str.ofString "in_table_b1") 291), (.ref 46)⟩, ⟨PyData.keyHash P (Str.ofString "b3_exceptions"), (.str (Str.ofString "b3_exceptions") 2242), (.ref 47)⟩, ⟨PyData.keyHash P (Str.ofString "map_table_b3"), (.str (Str.ofString "map_table_b3") 2250), (.ref 92)⟩, ⟨PyData.keyHash P (Str.ofString "ENDMARKER"), (.str (Str.ofString "ENDMARKER") 2254), (.int 0 2253)⟩, ⟨PyData.keyHash P (Str.ofString "LPAR"), (.str (Str.ofString "LPAR") 2256), (.int 7 2255)⟩, ⟨PyData.keyHash P (Str.ofString "RPAR"), (.str (Str.ofString "RPAR") 2258), (.int 8 2257)⟩, ⟨PyData.keyHash P (Str.ofString "LSQB"), (.str (Str.ofString "LSQB") 2260), (.int 9 2259)⟩, ⟨PyData.keyHash P (Str.ofString "RSQB"), (.str (Str.ofString "RSQB") 2262), (.int 10 2261)⟩, ⟨PyData.keyHash P (Str.ofString "COLON"), (.str (Str.ofString "COLON") 2264), (.int 11 2263)⟩, ⟨PyData.keyHash P (Str.ofString "COMMA"), (.str (Str.ofString "COMMA") 2266), (.int 12 2265)⟩, ⟨PyData.keyHash P (Str.ofString "SEMI"), (.str (Str.ofString "SEMI") 2268), (.int 13 2267)⟩, ⟨PyData.keyHash P (Str.ofString "PLUS"), (.str (Str.ofString "PLUS") 2270), (.int 14 2269)⟩, ⟨PyData.keyHash P (Str.ofString "MINUS"), (.str (Str.ofString "MINUS") 2272), (.int 15 2271)⟩, ⟨PyData.keyHash P (Str.ofString "STAR"), (.str (Str.ofString "STAR") 2274), (.int 16 2273)⟩, ⟨PyData.keyHash P (Str.ofString "SLASH"), (.str (Str.ofString "SLASH") 2276), (.int 17 2275)⟩, ⟨PyData.keyHash P (Str.ofString "VBAR"), (.str (Str.ofString "VBAR") 2278), (.int 18 2277)⟩, ⟨PyData.keyHash P (Str.ofString "AMPER"), (.str (Str.ofString "AMPER") 2280), (.int 19 2279)⟩, ⟨PyData.keyHash P (Str.ofString "LESS"), (.str (Str.ofString "LESS") 2282), (.int 20 2281)⟩, ⟨PyData.keyHash P (Str.ofString "GREATER"), (.str (Str.ofString "GREATER") 2284), (.int 21 2283)⟩, ⟨PyData.keyHash P (Str.ofString "EQUAL"), (.str (Str.ofString "EQUAL") 2286), (.int 22 2285)⟩, ⟨PyData.keyHash P (Str.ofString "DOT"), (.str (Str.ofString "DOT") 2288), (.int 23 2287)⟩, ⟨PyData.keyHash P (Str.ofString "PERCENT"), (.str (Str.ofString "PERCENT") 2290), (.int 24 2289)⟩, ⟨PyData.keyHash P (Str.ofString "LBRACE"), (.str (Str.ofString "LBRACE") 2292), (.int 25 2291)⟩, ⟨PyData.keyHash P (Str.ofString "RBRACE"), (.str (Str.ofString "RBRACE") 2294), (.int 26 2293)⟩, ⟨PyData.keyHash P (Str.ofString "EQEQUAL"), (.str (Str.ofString "EQEQUAL") 2296), (.int 27 2295)⟩, ⟨PyData.keyHash P (Str.ofString "NOTEQUAL"), (.str (Str.ofString "NOTEQUAL") 2298), (.int 28 2297)⟩, ⟨PyData.keyHash P (Str.ofString "LESSEQUAL"), (.str (Str.ofString "LESSEQUAL") 2300), (.int 29 2299)⟩, ⟨PyData.keyHash P (Str.ofString "GREATEREQUAL"), (.str (Str.ofString "GREATEREQUAL") 2302), (.int 30 2301)⟩, ⟨PyData.keyHash P (Str.ofString "TILDE"), (.str (Str.ofString "TILDE") 2304), (.int 31 2303)⟩, ⟨PyData.keyHash P (Str.ofString "CIRCUMFLEX"), (.str (Str.ofString "CIRCUMFLEX") 2306), (.int 32 2305)⟩, ⟨PyData.keyHash P (Str.ofString "LEFTSHIFT"), (.str (Str.ofString "LEFTSHIFT") 2308), (.int 33 2307)⟩, ⟨PyData.keyHash P (Str.ofString "RIGHTSHIFT"), (.str (Str.ofString "RIGHTSHIFT") 2310), (.int 34 2309)⟩, ⟨PyData.keyHash P (Str.ofString "DOUBLESTAR"), (.str (Str.ofString "DOUBLESTAR") 2312), (.int 35 2311)⟩, ⟨PyData.keyHash P (Str.ofString "PLUSEQUAL"), (.str (Str.ofString "PLUSEQUAL") 2314), (.int 36 2313)⟩, ⟨PyData.keyHash P (Str.ofString "MINEQUAL"), (.str (Str.ofString "MINEQUAL") 2316), (.int 37 2315)⟩, ⟨PyData.keyHash P (Str.ofString "STAREQUAL"), (.str (Str.ofString "STAREQUAL") 2318), (.int 38 2317)⟩, ⟨PyData.keyHash P (Str.ofString "SLASHEQUAL"), (.str (Str.ofString "SLASHEQUAL") 2320), (.int 39 2319)⟩, ⟨PyData.keyHash P (Str.ofString "PERCENTEQUAL"), (.str (Str.ofString "PERCENTEQUAL") 2322), (.int 40 2321)⟩, ⟨PyData.keyHash P (Str.ofString "AMPEREQUAL"), (.str (Str.ofString "AMPEREQUAL") 2324), (.int 41 2323)⟩, ⟨PyData.keyHash P (Str.ofString "VBAREQUAL"), (.str (Str.ofString "VBAREQUAL") 2326), (.int 42 2325)⟩, ⟨PyData.keyHash P (Str.ofString "CIRCUMFLEXEQUAL"), (.str (Str.ofString "CIRCUMFLEXEQUAL") 2328), (.int 43 2327)⟩, ⟨PyData.keyHash P (Str.ofString "LEFTSHIFTEQUAL"), (.str (Str.ofString "LEFTSHIFTEQUAL") 2330), (.int 44 2329)⟩, ⟨PyData.keyHash P (Str.ofString "RIGHTSHIFTEQUAL"), (.str (Str.ofString "RIGHTSHIFTEQUAL") 2332), (.int 45 2331)⟩, ⟨PyData.keyHash P (Str.ofString "DOUBLESTAREQUAL"), (.str (Str.ofString "DOUBLESTAREQUAL") 2334), (.int 46 2333)⟩, ⟨PyData.keyHash P (Str.ofString "DOUBLESLASH"), (.str (Str.ofString "DOUBLESLASH") 2336), (.int 47 2335)⟩, ⟨PyData.keyHash P (Str.ofString "DOUBLESLASHEQUAL"), (.str (Str.ofString "DOUBLESLASHEQUAL") 2338), (.int 48 2337)⟩, ⟨PyData.keyHash P (Str.ofString "AT"), (.str (Str.ofString "AT") 2340), (.int 49 2339)⟩, ⟨PyData.keyHash P (Str.ofString "ATEQUAL"), (.str (Str.ofString "ATEQUAL") 2342), (.int 50 2341)⟩, ⟨PyData.keyHash P (Str.ofString "RARROW"), (.str (Str.ofString "RARROW") 2344), (.int 51 2343)⟩, ⟨PyData.keyHash P (Str.ofString "ELLIPSIS"), (.str (Str.ofString "ELLIPSIS") 2346), (.int 52 2345)⟩, ⟨PyData.keyHash P (Str.ofString "COLONEQUAL"), (.str (Str.ofString "COLONEQUAL") 2348), (.int 53 2347)⟩, ⟨PyData.keyHash P (Str.ofString "EXCLAMATION"), (.str (Str.ofString "EXCLAMATION") 2350), (.int 54 2349)⟩, ⟨PyData.keyHash P (Str.ofString "NT_OFFSET"), (.str (Str.ofString "NT_OFFSET") 2352), (.int 256 2351)⟩, ⟨PyData.keyHash P (Str.ofString "EXACT_TOKEN_TYPES"), (.str (Str.ofString "EXACT_TOKEN_TYPES") 2449), (.ref 93)⟩, ⟨PyData.keyHash P (Str.ofString "ISTERMINAL"), (.str (Str.ofString "ISTERMINAL") 2456), (.ref 102)⟩, ⟨PyData.keyHash P (Str.ofString "ISNONTERMINAL"), (.str (Str.ofString "ISNONTERMINAL") 2463), (.ref 109)⟩, ⟨PyData.keyHash P (Str.ofString "ISEOF"), (.str (Str.ofString "ISEOF") 2470), (.ref 116)⟩, ⟨PyData.keyHash P (Str.ofString "_law_numbers"), (.str (Str.ofString "_law_numbers") 2482), (.ref 123)⟩, ⟨PyData.keyHash P (Str.ofString "_law_operators"), (.str (Str.ofString "_law_operators") 2488), (.ref 130)⟩, ⟨PyData.keyHash P (Str.ofString "_law_book"), (.str (Str.ofString "_law_book") 2494), (.ref 135)⟩, ⟨PyData.keyHash P (Str.ofString "_law_text"), (.str (Str.ofString "_law_text") 2511), (.ref 142)⟩, ⟨PyData.keyHash P (Str.ofString "_law_cut"), (.str (Str.ofString "_law_cut") 2523), (.ref 149)⟩, ⟨PyData.keyHash P (Str.ofString "_law_rules"), (.str (Str.ofString "_law_rules") 2543), (.ref 156)⟩, ⟨PyData.keyHash P (Str.ofString "_law_sentences"), (.str (Str.ofString "_law_sentences") 2555), (.ref 163)⟩, ⟨PyData.keyHash P (Str.ofString "_law_nearest"), (.str (Str.ofString "_law_nearest") 2566), (.ref 170)⟩, ⟨PyData.keyHash P (Str.ofString "_law_alone"), (.str (Str.ofString "_law_alone") 2576), (.ref 177)⟩, ⟨PyData.keyHash P (Str.ofString "_law_part"), (.str (Str.ofString "_law_part") 2588), (.ref 184)⟩, ⟨PyData.keyHash P (Str.ofString "_law_table"), (.str (Str.ofString "_law_table") 2594), (.ref 189)⟩, ⟨PyData.keyHash P (Str.ofString "law"), (.str (Str.ofString "law") 2600), (.ref 194)⟩] 84), #[]⟩
noncomputable def o12_80 (P : Params) : Obj := ⟨.none, none, (.fields #[(.int 5 0), (.int 0 0), (.ref 20), (.int 11 0), (.int 0 0), (.ref 27), (.int 51 0), (.int 0 0), (.ref 45), (.int 54 0), (.int 0 0), (.ref 91), (.int 111 0), (.int 0 0), (.ref 101), (.int 113 0), (.int 0 0), (.ref 108), (.int 115 0), (.int 0 0), (.ref 115), (.int 118 0), (.int 0 0), (.ref 122), (.int 123 0), (.int 0 0), (.ref 129), (.int 125 0), (.int 0 0), (.ref 134), (.int 127 0), (.int 0 0), (.ref 141), (.int 152 0), (.int 0 0), (.ref 148), (.int 163 0), (.int 0 0), (.ref 155), (.int 189 0), (.int 0 0), (.ref 162), (.int 203 0), (.int 0 0), (.ref 169), (.int 210 0), (.int 0 0), (.ref 176), (.int 222 0), (.int 0 0), (.ref 183), (.int 227 0), (.int 0 0), (.ref 188), (.int 243 0), (.int 0 0), (.ref 193)]), #[]⟩
noncomputable def o117_81 (P : Params) : Obj := ⟨(.type "tuple"), none, (.seq #[] 0), #[]⟩
noncomputable def o118_82 (P : Params) : Obj := ⟨.none, none, (.fields #[]), #[]⟩
noncomputable def o119_83 (P : Params) : Obj := ⟨(.type "tuple"), none, (.seq #[(.str (Str.ofString "script") 2476), (.str (Str.ofString "numbers") 2477), (.str (Str.ofString "place") 2478), (.str (Str.ofString "x") 2479)] 0), #[]⟩
noncomputable def o120_84 (P : Params) : Obj := ⟨(.type "tuple"), none, (.seq #[] 0), #[]⟩
noncomputable def o121_85 (P : Params) : Obj := ⟨.none, none, (.func { name := (Str.ofString "_law_numbers"), qualname := (Str.ofString "_law_numbers"), params := fnP 67, body := .stmts (fnB 67), scope := fnS 67, globals := 0, closure := [], defaults := .none, kwdefaults := .none, doc := .none, pyModule := .none, annotations := none, code := .none, closureTuple := .none, builtins := 0 }), #[]⟩
noncomputable def o122_86 (P : Params) : Obj := ⟨(.type "code"), none, (.fields #[(.str (Str.ofString "_law_numbers") 2473), (.str (Str.ofString "_law_numbers") 2474), (.str (Str.ofString "/claim/cut.py") 2475), (.int 118 0), (.int 1 0), (.int 0 0), (.int 0 0), (.int 3 0), (.ref 117), (.bool true), (.int 181 0), (.ref 118), .none, (.ref 119), (.ref 120), (.ref 121), (.int 2480 0), (.int 118 0), (.str (Str.ofString "/claim/cut.py") 2481)]), #[]⟩
noncomputable def o123_87 (P : Params) : Obj := ⟨(.type "function"), none, (.func { name := (Str.ofString "_law_numbers"), qualname := (Str.ofString "_law_numbers"), params := fnP 67, body := .stmts (fnB 67), scope := fnS 67, globals := 3, closure := [], defaults := .none, kwdefaults := .none, doc := .none, pyModule := (.str (Str.ofString "law_rs0227_01") 2471), annotations := none, code := (.ref 122), closureTuple := .none, builtins := 0 }), #[]⟩
noncomputable def o124_88 (P : Params) : Obj := ⟨(.type "tuple"), none, (.seq #[] 0), #[]⟩
noncomputable def o125_89 (P : Params) : Obj := ⟨.none, none, (.fields #[]), #[]⟩
noncomputable def o126_90 (P : Params) : Obj := ⟨(.type "tuple"), none, (.seq #[] 0), #[]⟩
noncomputable def o127_91 (P : Params) : Obj := ⟨(.type "tuple"), none, (.seq #[] 0), #[]⟩
noncomputable def o128_92 (P : Params) : Obj := ⟨.none, none, (.func { name := (Str.ofString "_law_operators"), qualname := (Str.ofString "_law_operators"), params := fnP 68, body := .stmts (fnB 68), scope := fnS 68, globals := 0, closure := [], defaults := .none, kwdefaults := .none, doc := .none, pyModule := .none, annotations := none, code := .none, closureTuple := .none, builtins := 0 }), #[]⟩
noncomputable def o129_93 (P : Params) : Obj := ⟨(.type "code"), none, (.fields #[(.str (Str.ofString "_law_operators") 2483), (.str (Str.ofString "_law_operators") 2484), (.str (Str.ofString "/claim/cut.py") 2485), (.int 123 0), (.int 0 0), (.int 0 0), (.int 0 0), (.int 3 0), (.ref 124), (.bool true), (.int 181 0), (.ref 125), .none, (.ref 126), (.ref 127), (.ref 128), (.int 2486 0), (.int 123 0), (.str (Str.ofString "/claim/cut.py") 2487)]), #[]⟩
noncomputable def o130_94 (P : Params) : Obj := ⟨(.type "function"), none, (.func { name := (Str.ofString "_law_operators"), qualname := (Str.ofString "_law_operators"), params := fnP 68, body := .stmts (fnB 68), scope := fnS 68, globals := 3, closure := [], defaults := .none, kwdefaults := .none, doc := .none, pyModule := (.str (Str.ofString "law_rs0227_01") 2471), annotations := none, code := (.ref 129), closureTuple := .none, builtins := 0 }), #[]⟩
noncomputable def o131_95 (P : Params) : Obj := ⟨(.type "tuple"), none, (.seq #[] 0), #[]⟩
noncomputable def o132_96 (P : Params) : Obj := ⟨.none, none, (.fields #[]), #[]⟩
noncomputable def o133_97 (P : Params) : Obj := ⟨.none, none, (.func { name := (Str.ofString "_law_book"), qualname := (Str.ofString "_law_book"), params := fnP 69, body := .stmts (fnB 69), scope := fnS 69, globals := 0, closure := [], defaults := .none, kwdefaults := .none, doc := .none, pyModule := .none, annotations := none, code := .none, closureTuple := .none, builtins := 0 }), #[]⟩
noncomputable def o134_98 (P : Params) : Obj := ⟨(.type "code"), none, (.fields #[(.str (Str.ofString "_law_book") 2489), (.str (Str.ofString "_law_book") 2490), (.str (Str.ofString "/claim/cut.py") 2491), (.int 125 0), (.int 0 0), (.int 0 0), (.int 0 0), (.int 3 0), (.ref 131), (.bool true), (.int 181 0), (.ref 132), .none, .none, .none, (.ref 133), (.int 2492 0), (.int 125 0), (.str (Str.ofString "/claim/cut.py") 2493)]), #[]⟩
noncomputable def o135_99 (P : Params) : Obj := ⟨(.type "function"), none, (.func { name := (Str.ofString "_law_book"), qualname := (Str.ofString "_law_book"), params := fnP 69, body := .stmts (fnB 69), scope := fnS 69, globals := 3, closure := [], defaults := .none, kwdefaults := .none, doc := .none, pyModule := (.str (Str.ofString "law_rs0227_01") 2471), annotations := none, code := (.ref 134), closureTuple := .none, builtins := 0 }), #[]⟩
noncomputable def o136_100 (P : Params) : Obj := ⟨(.type "tuple"), none, (.seq #[] 0), #[]⟩
noncomputable def o137_101 (P : Params) : Obj := ⟨.none, none, (.fields #[]), #[]⟩
noncomputable def o138_102 (P : Params) : Obj := ⟨(.type "tuple"), none, (.seq #[(.str (Str.ofString "numbers") 2498), (.str (Str.ofString "unseen") 2499), (.str (Str.ofString "typed") 2500), (.str (Str.ofString "meant") 2501), (.str (Str.ofString "place") 2502), (.str (Str.ofString "x") 2503), (.str (Str.ofString "half") 2504), (.str (Str.ofString "means") 2505), (.str (Str.ofString "shown") 2506), (.str (Str.ofString "form") 2507), (.str (Str.ofString "sign") 2508)] 0), #[]⟩
noncomputable def o139_103 (P : Params) : Obj := ⟨(.type "tuple"), none, (.seq #[] 0), #[]⟩
noncomputable def o140_104 (P : Params) : Obj := ⟨.none, none, (.func { name := (Str.ofString "_law_text"), qualname := (Str.ofString "_law_text"), params := fnP 70, body := .stmts (fnB 70), scope := fnS 70, globals := 0, closure := [], defaults := .none, kwdefaults := .none, doc := .none, pyModule := .none, annotations := none, code := .none, closureTuple := .none, builtins := 0 }), #[]⟩
noncomputable def o141_105 (P : Params) : Obj := ⟨(.type "code"), none, (.fields #[(.str (Str.ofString "_law_text") 2495), (.str (Str.ofString "_law_text") 2496), (.str (Str.ofString "/claim/cut.py") 2497), (.int 127 0), (.int 1 0), (.int 0 0), (.int 0 0), (.int 3 0), (.ref 136), (.bool true), (.int 181 0), (.ref 137), .none, (.ref 138), (.ref 139), (.ref 140), (.int 2509 0), (.int 127 0), (.str (Str.ofString "/claim/cut.py") 2510)]), #[]⟩
noncomputable def o142_106 (P : Params) : Obj := ⟨(.type "function"), none, (.func { name := (Str.ofString "_law_text"), qualname := (Str.ofString "_law_text"), params := fnP 70, body := .stmts (fnB 70), scope := fnS 70, globals := 3, closure := [], defaults := .none, kwdefaults := .none, doc := .none, pyModule := (.str (Str.ofString "law_rs0227_01") 2471), annotations := none, code := (.ref 141), closureTuple := .none, builtins := 0 }), #[]⟩
noncomputable def o143_107 (P : Params) : Obj := ⟨(.type "tuple"), none, (.seq #[] 0), #[]⟩
noncomputable def o144_108 (P : Params) : Obj := ⟨.none, none, (.fields #[]), #[]⟩
noncomputable def o145_109 (P : Params) : Obj := ⟨(.type "tuple"), none, (.seq #[(.str (Str.ofString "text") 2515), (.str (Str.ofString "table") 2516), (.str (Str.ofString "row") 2517), (.str (Str.ofString "place") 2518), (.str (Str.ofString "size") 2519), (.str (Str.ofString "piece") 2520)] 0), #[]⟩
noncomputable def o146_110 (P : Params) : Obj := ⟨(.type "tuple"), none, (.seq #[] 0), #[]⟩
noncomputable def o147_111 (P : Params) : Obj := ⟨.none, none, (.func { name := (Str.ofString "_law_cut"), qualname := (Str.ofString "_law_cut"), params := fnP 71, body := .stmts (fnB 71), scope := fnS 71, globals := 0, closure := [], defaults := .none, kwdefaults := .none, doc := .none, pyModule := .none, annotations := none, code := .none, closureTuple := .none, builtins := 0 }), #[]⟩
noncomputable def o148_112 (P : Params) : Obj := ⟨(.type "code"), none, (.fields #[(.str (Str.ofString "_law_cut") 2512), (.str (Str.ofString "_law_cut") 2513), (.str (Str.ofString "/claim/cut.py") 2514), (.int 152 0), (.int 2 0), (.int 0 0), (.int 0 0), (.int 3 0), (.ref 143), (.bool true), (.int 181 0), (.ref 144), .none, (.ref 145), (.ref 146), (.ref 147), (.int 2521 0), (.int 152 0), (.str (Str.ofString "/claim/cut.py") 2522)]), #[]⟩
noncomputable def o149_113 (P : Params) : Obj := ⟨(.type "function"), none, (.func { name := (Str.ofString "_law_cut"), qualname := (Str.ofString "_law_cut"), params := fnP 71, body := .stmts (fnB 71), scope := fnS 71, globals := 3, closure := [], defaults := .none, kwdefaults := .none, doc := .none, pyModule := (.str (Str.ofString "law_rs0227_01") 2471), annotations := none, code := (.ref 148), closureTuple := .none, builtins := 0 }), #[]⟩
noncomputable def o150_114 (P : Params) : Obj := ⟨(.type "tuple"), none, (.seq #[] 0), #[]⟩
noncomputable def o151_115 (P : Params) : Obj := ⟨.none, none, (.fields #[]), #[]⟩
noncomputable def o152_116 (P : Params) : Obj := ⟨(.type "tuple"), none, (.seq #[(.str (Str.ofString "numbers") 2527), (.str (Str.ofString "pool") 2528), (.str (Str.ofString "rules") 2529), (.str (Str.ofString "counts") 2530), (.str (Str.ofString "place") 2531), (.str (Str.ofString "left") 2532), (.str (Str.ofString "above") 2533), (.str (Str.ofString "x") 2534), (.str (Str.ofString "right") 2535), (.str (Str.ofString "more") 2536), (.str (Str.ofString "rest") 2537), (.str (Str.ofString "turn") 2538), (.str (Str.ofString "pick") 2539), (.str (Str.ofString "part") 2540)] 0), #[]⟩
noncomputable def o153_117 (P : Params) : Obj := ⟨(.type "tuple"), none, (.seq #[] 0), #[]⟩
noncomputable def o154_118 (P : Params) : Obj := ⟨.none, none, (.func { name := (Str.ofString "_law_rules"), qualname := (Str.ofString "_law_rules"), params := fnP 72, body := .stmts (fnB 72), scope := fnS 72, globals := 0, closure := [], defaults := .none, kwdefaults := .none, doc := .none, pyModule := .none, annotations := none, code := .none, closureTuple := .none, builtins := 0 }), #[]⟩
noncomputable def o155_119 (P : Params) : Obj := ⟨(.type "code"), none, (.fields #[(.str (Str.ofString "_law_rules") 2524), (.str (Str.ofString "_law_rules") 2525), (.str (Str.ofString "/claim/cut.py") 2526), (.int 163 0), (.int 2 0), (.int 0 0), (.int 0 0), (.int 3 0), (.ref 150), (.bool true), (.int 181 0), (.ref 151), .none, (.ref 152), (.ref 153), (.ref 154), (.int 2541 0), (.int 163 0), (.str (Str.ofString "/claim/cut.py") 2542)]), #[]⟩
noncomputable def o156_120 (P : Params) : Obj := ⟨(.type "function"), none, (.func { name := (Str.ofString "_law_rules"), qualname := (Str.ofString "_law_rules"), params := fnP 72, body := .stmts (fnB 72), scope := fnS 72, globals := 3, closure := [], defaults := .none, kwdefaults := .none, doc := .none, pyModule := (.str (Str.ofString "law_rs0227_01") 2471), annotations := none, code := (.ref 155), closureTuple := .none, builtins := 0 }), #[]⟩
noncomputable def o157_121 (P : Params) : Obj := ⟨(.type "tuple"), none, (.seq #[] 0), #[]⟩
noncomputable def o158_122 (P : Params) : Obj := ⟨.none, none, (.fields #[]), #[]⟩
noncomputable def o159_123 (P : Params) : Obj := ⟨(.type "tuple"), none, (.seq #[(.str (Str.ofString "rules") 2547), (.str (Str.ofString "whole") 2548), (.str (Str.ofString "waiting") 2549), (.str (Str.ofString "told") 2550), (.str (Str.ofString "rest") 2551), (.str (Str.ofString "right") 2552)] 0), #[]⟩
noncomputable def o160_124 (P : Params) : Obj := ⟨(.type "tuple"), none, (.seq #[] 0), #[]⟩
noncomputable def o161_125 (P : Params) : Obj := ⟨.none, none, (.func { name := (Str.ofString "_law_sentences"), qualname := (Str.ofString "_law_sentences"), params := fnP 73, body := .stmts (fnB 73), scope := fnS 73, globals := 0, closure := [], defaults := .none, kwdefaults := .none, doc := .none, pyModule := .none, annotations := none, code := .none, closureTuple := .none, builtins := 0 }), #[]⟩
noncomputable def o162_126 (P : Params) : Obj := ⟨(.type "code"), none, (.fields #[(.str (Str.ofString "_law_sentences") 2544), (.str (Str.ofString "_law_sentences") 2545), (.str (Str.ofString "/claim/cut.py") 2546), (.int 189 0), (.int 1 0), (.int 0 0), (.int 0 0), (.int 3 0), (.ref 157), (.bool true), (.int 181 0), (.ref 158), .none, (.ref 159), (.ref 160), (.ref 161), (.int 2553 0), (.int 189 0), (.str (Str.ofString "/claim/cut.py") 2554)]), #[]⟩
noncomputable def o163_127 (P : Params) : Obj := ⟨(.type "function"), none, (.func { name := (Str.ofString "_law_sentences"), qualname := (Str.ofString "_law_sentences"), params := fnP 73, body := .stmts (fnB 73), scope := fnS 73, globals := 3, closure := [], defaults := .none, kwdefaults := .none, doc := .none, pyModule := (.str (Str.ofString "law_rs0227_01") 2471), annotations := none, code := (.ref 162), closureTuple := .none, builtins := 0 }), #[]⟩
noncomputable def o164_128 (P : Params) : Obj := ⟨(.type "tuple"), none, (.seq #[] 0), #[]⟩
noncomputable def o165_129 (P : Params) : Obj := ⟨.none, none, (.fields #[]), #[]⟩
noncomputable def o166_130 (P : Params) : Obj := ⟨(.type "tuple"), none, (.seq #[(.str (Str.ofString "word") 2559), (.str (Str.ofString "sentences") 2560), (.str (Str.ofString "least") 2561), (.str (Str.ofString "sentence") 2562), (.str (Str.ofString "told") 2563)] 0), #[]⟩
noncomputable def o167_131 (P : Params) : Obj := ⟨(.type "tuple"), none, (.seq #[] 0), #[]⟩
noncomputable def o168_132 (P : Params) : Obj := ⟨.none, none, (.func { name := (Str.ofString "_law_nearest"), qualname := (Str.ofString "_law_nearest"), params := fnP 74, body := .stmts (fnB 74), scope := fnS 74, globals := 0, closure := [], defaults := .none, kwdefaults := .none, doc := .none, pyModule := .none, annotations := none, code := .none, closureTuple := .none, builtins := 0 }), #[]⟩
noncomputable def o169_133 (P : Params) : Obj := ⟨(.type "code"), none, (.fields #[(.str (Str.ofString "_law_nearest") 2556), (.str (Str.ofString "_law_nearest") 2557), (.str (Str.ofString "/claim/cut.py") 2558), (.int 203 0), (.int 2 0), (.int 0 0), (.int 0 0), (.int 3 0), (.ref 164), (.bool true), (.int 181 0), (.ref 165), .none, (.ref 166), (.ref 167), (.ref 168), (.int 2564 0), (.int 203 0), (.str (Str.ofString "/claim/cut.py") 2565)]), #[]⟩
noncomputable def o170_134 (P : Params) : Obj := ⟨(.type "function"), none, (.func { name := (Str.ofString "_law_nearest"), qualname := (Str.ofString "_law_nearest"), params := fnP 74, body := .stmts (fnB 74), scope := fnS 74, globals := 3, closure := [], defaults := .none, kwdefaults := .none, doc := .none, pyModule := (.str (Str.ofString "law_rs0227_01") 2471), annotations := none, code := (.ref 169), closureTuple := .none, builtins := 0 }), #[]⟩
noncomputable def o171_135 (P : Params) : Obj := ⟨(.type "tuple"), none, (.seq #[] 0), #[]⟩
noncomputable def o172_136 (P : Params) : Obj := ⟨.none, none, (.fields #[]), #[]⟩
noncomputable def o173_137 (P : Params) : Obj := ⟨(.type "tuple"), none, (.seq #[(.str (Str.ofString "symbol") 2570), (.str (Str.ofString "stretch") 2571), (.str (Str.ofString "prices") 2572), (.str (Str.ofString "other") 2573)] 0), #[]⟩
noncomputable def o174_138 (P : Params) : Obj := ⟨(.type "tuple"), none, (.seq #[] 0), #[]⟩
noncomputable def o175_139 (P : Params) : Obj := ⟨.none, none, (.func { name := (Str.ofString "_law_alone"), qualname := (Str.ofString "_law_alone"), params := fnP 75, body := .stmts (fnB 75), scope := fnS 75, globals := 0, closure := [], defaults := .none, kwdefaults := .none, doc := .none, pyModule := .none, annotations := none, code := .none, closureTuple := .none, builtins := 0 }), #[]⟩
noncomputable def o176_140 (P : Params) : Obj := ⟨(.type "code"), none, (.fields #[(.str (Str.ofString "_law_alone") 2567), (.str (Str.ofString "_law_alone") 2568), (.str (Str.ofString "/claim/cut.py") 2569), (.int 210 0), (.int 2 0), (.int 0 0), (.int 0 0), (.int 3 0), (.ref 171), (.bool true), (.int 181 0), (.ref 172), .none, (.ref 173), (.ref 174), (.ref 175), (.int 2574 0), (.int 210 0), (.str (Str.ofString "/claim/cut.py") 2575)]), #[]⟩
noncomputable def o177_141 (P : Params) : Obj := ⟨(.type "function"), none, (.func { name := (Str.ofString "_law_alone"), qualname := (Str.ofString "_law_alone"), params := fnP 75, body := .stmts (fnB 75), scope := fnS 75, globals := 3, closure := [], defaults := .none, kwdefaults := .none, doc := .none, pyModule := (.str (Str.ofString "law_rs0227_01") 2471), annotations := none, code := (.ref 176), closureTuple := .none, builtins := 0 }), #[]⟩
noncomputable def o178_142 (P : Params) : Obj := ⟨(.type "tuple"), none, (.seq #[] 0), #[]⟩
noncomputable def o179_143 (P : Params) : Obj := ⟨.none, none, (.fields #[]), #[]⟩
noncomputable def o180_144 (P : Params) : Obj := ⟨(.type "tuple"), none, (.seq #[(.str (Str.ofString "part") 2580), (.str (Str.ofString "i") 2581), (.str (Str.ofString "j") 2582), (.str (Str.ofString "row") 2583), (.str (Str.ofString "table") 2584), (.str (Str.ofString "key") 2585)] 0), #[]⟩
noncomputable def o181_145 (P : Params) : Obj := ⟨(.type "tuple"), none, (.seq #[] 0), #[]⟩
noncomputable def o182_146 (P : Params) : Obj := ⟨.none, none, (.func { name := (Str.ofString "_law_part"), qualname := (Str.ofString "_law_part"), params := fnP 76, body := .stmts (fnB 76), scope := fnS 76, globals := 0, closure := [], defaults := .none, kwdefaults := .none, doc := .none, pyModule := .none, annotations := none, code := .none, closureTuple := .none, builtins := 0 }), #[]⟩
noncomputable def o183_147 (P : Params) : Obj := ⟨(.type "code"), none, (.fields #[(.str (Str.ofString "_law_part") 2577), (.str (Str.ofString "_law_part") 2578), (.str (Str.ofString "/claim/cut.py") 2579), (.int 222 0), (.int 5 0), (.int 0 0), (.int 0 0), (.int 3 0), (.ref 178), (.bool true), (.int 181 0), (.ref 179), .none, (.ref 180), (.ref 181), (.ref 182), (.int 2586 0), (.int 222 0), (.str (Str.ofString "/claim/cut.py") 2587)]), #[]⟩
noncomputable def o184_148 (P : Params) : Obj := ⟨(.type "function"), none, (.func { name := (Str.ofString "_law_part"), qualname := (Str.ofString "_law_part"), params := fnP 76, body := .stmts (fnB 76), scope := fnS 76, globals := 3, closure := [], defaults := .none, kwdefaults := .none, doc := .none, pyModule := (.str (Str.ofString "law_rs0227_01") 2471), annotations := none, code := (.ref 183), closureTuple := .none, builtins := 0 }), #[]⟩
noncomputable def o185_149 (P : Params) : Obj := ⟨(.type "tuple"), none, (.seq #[] 0), #[]⟩
noncomputable def o186_150 (P : Params) : Obj := ⟨.none, none, (.fields #[]), #[]⟩
noncomputable def o187_151 (P : Params) : Obj := ⟨.none, none, (.func { name := (Str.ofString "_law_table"), qualname := (Str.ofString "_law_table"), params := fnP 77, body := .stmts (fnB 77), scope := fnS 77, globals := 0, closure := [], defaults := .none, kwdefaults := .none, doc := .none, pyModule := .none, annotations := none, code := .none, closureTuple := .none, builtins := 0 }), #[]⟩
noncomputable def o188_152 (P : Params) : Obj := ⟨(.type "code"), none, (.fields #[(.str (Str.ofString "_law_table") 2589), (.str (Str.ofString "_law_table") 2590), (.str (Str.ofString "/claim/cut.py") 2591), (.int 227 0), (.int 2 0), (.int 0 0), (.int 0 0), (.int 3 0), (.ref 185), (.bool true), (.int 181 0), (.ref 186), .none, .none, .none, (.ref 187), (.int 2592 0), (.int 227 0), (.str (Str.ofString "/claim/cut.py") 2593)]), #[]⟩
noncomputable def o189_153 (P : Params) : Obj := ⟨(.type "function"), none, (.func { name := (Str.ofString "_law_table"), qualname := (Str.ofString "_law_table"), params := fnP 77, body := .stmts (fnB 77), scope := fnS 77, globals := 3, closure := [], defaults := .none, kwdefaults := .none, doc := .none, pyModule := (.str (Str.ofString "law_rs0227_01") 2471), annotations := none, code := (.ref 188), closureTuple := .none, builtins := 0 }), #[]⟩
noncomputable def o190_154 (P : Params) : Obj := ⟨(.type "tuple"), none, (.seq #[] 0), #[]⟩
noncomputable def o191_155 (P : Params) : Obj := ⟨.none, none, (.fields #[]), #[]⟩
noncomputable def o192_156 (P : Params) : Obj := ⟨.none, none, (.func { name := (Str.ofString "law"), qualname := (Str.ofString "law"), params := fnP 78, body := .stmts (fnB 78), scope := fnS 78, globals := 0, closure := [], defaults := .none, kwdefaults := .none, doc := .none, pyModule := .none, annotations := none, code := .none, closureTuple := .none, builtins := 0 }), #[]⟩
noncomputable def o193_157 (P : Params) : Obj := ⟨(.type "code"), none, (.fields #[(.str (Str.ofString "law") 2595), (.str (Str.ofString "law") 2596), (.str (Str.ofString "/claim/cut.py") 2597), (.int 243 0), (.int 1 0), (.int 0 0), (.int 0 0), (.int 3 0), (.ref 190), (.bool true), (.int 181 0), (.ref 191), .none, .none, .none, (.ref 192), (.int 2598 0), (.int 243 0), (.str (Str.ofString "/claim/cut.py") 2599)]), #[]⟩
noncomputable def o194_158 (P : Params) : Obj := ⟨(.type "function"), none, (.func { name := (Str.ofString "law"), qualname := (Str.ofString "law"), params := fnP 78, body := .stmts (fnB 78), scope := fnS 78, globals := 3, closure := [], defaults := .none, kwdefaults := .none, doc := .none, pyModule := (.str (Str.ofString "law_rs0227_01") 2471), annotations := none, code := (.ref 193), closureTuple := .none, builtins := 0 }), #[]⟩
noncomputable def T79 (P : Params) : BT := (.node (boot_o_0 P) (.node (boot_o_1 P) (.node (o3_79 P) (.node (boot_o_7 P) (.node (o15_6 P) (.node (o31_23 P) (.node (b3sub 15) (.node (o127_91 P) .nil .nil) (.node (o191_155 P) .nil .nil)) (.node (o95_55 P) (.node (o159_123 P) .nil .nil) .nil)) (.node b3Main (.node (b3sub 31) (.node (o143_107 P) .nil .nil) .nil) (.node (o111_73 P) (.node (o175_139 P) .nil .nil) .nil))) (.node (o23_14 P) (.node (o39_31 P) (.node (b3sub 23) (.node (o135_99 P) .nil .nil) .nil) (.node (o103_65 P) (.node (o167_131 P) .nil .nil) .nil)) (.node (b3sub 7) (.node (o87_45 P) (.node (o151_115 P) .nil .nil) .nil) (.node (o119_83 P) (.node (o183_147 P) .nil .nil) .nil)))) (.node (o11_0 P) (.node (o19_10 P) (.node (o35_27 P) (.node (b3sub 19) (.node (o131_95 P) .nil .nil) .nil) (.node (o99_61 P) (.node (o163_127 P) .nil .nil) .nil)) (.node (b3sub 3) (.node (b3sub 35) (.node (o147_111 P) .nil .nil) .nil) (.node (o115_77 P) (.node (o179_143 P) .nil .nil) .nil))) (.node (o27_18 P) (.node (o43_37 P) (.node (b3sub 27) (.node (o139_103 P) .nil .nil) .nil) (.node (o107_69 P) (.node (o171_135 P) .nil .nil) .nil)) (.node (b3sub 11) (.node (o91_49 P) (.node (o155_119 P) .nil .nil) .nil) (.node (o123_87 P) (.node (o187_151 P) .nil .nil) .nil))))) (.node (boot_o_5 P) (.node (boot_o_9 P) (.node (o17_8 P) (.node (o33_25 P) (.node (b3sub 17) (.node (o129_93 P) .nil .nil) (.node (o193_157 P) .nil .nil)) (.node (o97_59 P) (.node (o161_125 P) .nil .nil) .nil)) (.node (b3sub 1) (.node (b3sub 33) (.node (o145_109 P) .nil .nil) .nil) (.node (o113_75 P) (.node (o177_141 P) .nil .nil) .nil))) (.node (o25_16 P) (.node (o41_35 P) (.node (b3sub 25) (.node (o137_101 P) .nil .nil) .nil) (.node (o105_67 P) (.node (o169_133 P) .nil .nil) .nil)) (.node (b3sub 9) (.node (o89_47 P) (.node (o153_117 P) .nil .nil) .nil) (.node (o121_85 P) (.node (o185_149 P) .nil .nil) .nil)))) (.node (o13_2 P) (.node (o21_12 P) (.node (o37_29 P) (.node (b3sub 21) (.node (o133_97 P) .nil .nil) .nil) (.node (o101_63 P) (.node (o165_129 P) .nil .nil) .nil)) (.node (b3sub 5) (.node (b3sub 37) (.node (o149_113 P) .nil .nil) .nil) (.node (o117_81 P) (.node (o181_145 P) .nil .nil) .nil))) (.node (o29_21 P) (.node (o45_39 P) (.node (b3sub 29) (.node (o141_105 P) .nil .nil) .nil) (.node (o109_71 P) (.node (o173_137 P) .nil .nil) .nil)) (.node (b3sub 13) (.node (o93_53 P) (.node (o157_121 P) .nil .nil) .nil) (.node (o125_89 P) (.node (o189_153 P) .nil .nil) .nil)))))) (.node (boot_o_2 P) (.node (boot_o_4 P) (.node (boot_o_8 P) (.node (o16_7 P) (.node (o32_24 P) (.node (b3sub 16) (.node (o128_92 P) .nil .nil) (.node (o192_156 P) .nil .nil)) (.node (o96_58 P) (.node (o160_124 P) .nil .nil) .nil)) (.node (b3sub 0) (.node (b3sub 32) (.node (o144_108 P) .nil .nil) .nil) (.node (o112_74 P) (.node (o176_140 P) .nil .nil) .nil))) (.node (o24_15 P) (.node (o40_34 P) (.node (b3sub 24) (.node (o136_100 P) .nil .nil) .nil) (.node (o104_66 P) (.node (o168_132 P) .nil .nil) .nil)) (.node (b3sub 8) (.node (o88_46 P) (.node (o152_116 P) .nil .nil) .nil) (.node (o120_84 P) (.node (o184_148 P) .nil .nil) .nil)))) (.node (o12_80 P) (.node (o20_11 P) (.node (o36_28 P) (.node (b3sub 20) (.node (o132_96 P) .nil .nil) .nil) (.node (o100_62 P) (.node (o164_128 P) .nil .nil) .nil)) (.node (b3sub 4) (.node (b3sub 36) (.node (o148_112 P) .nil .nil) .nil) (.node (o116_78 P) (.node (o180_144 P) .nil .nil) .nil))) (.node (o28_19 P) (.node (o44_38 P) (.node (b3sub 28) (.node (o140_104 P) .nil .nil) .nil) (.node (o108_70 P) (.node (o172_136 P) .nil .nil) .nil)) (.node (b3sub 12) (.node (o92_50 P) (.node (o156_120 P) .nil .nil) .nil) (.node (o124_88 P) (.node (o188_152 P) .nil .nil) .nil))))) (.node (boot_o_6 P) (.node (boot_o_10 P) (.node (o18_9 P) (.node (o34_26 P) (.node (b3sub 18) (.node (o130_94 P) .nil .nil) (.node (o194_158 P) .nil .nil)) (.node (o98_60 P) (.node (o162_126 P) .nil .nil) .nil)) (.node (b3sub 2) (.node (b3sub 34) (.node (o146_110 P) .nil .nil) .nil) (.node (o114_76 P) (.node (o178_142 P) .nil .nil) .nil))) (.node (o26_17 P) (.node (o42_36 P) (.node (b3sub 26) (.node (o138_102 P) .nil .nil) .nil) (.node (o106_68 P) (.node (o170_134 P) .nil .nil) .nil)) (.node (b3sub 10) (.node (o90_48 P) (.node (o154_118 P) .nil .nil) .nil) (.node (o122_86 P) (.node (o186_150 P) .nil .nil) .nil)))) (.node (o14_3 P) (.node (o22_13 P) (.node (o38_30 P) (.node (b3sub 22) (.node (o134_98 P) .nil .nil) .nil) (.node (o102_64 P) (.node (o166_130 P) .nil .nil) .nil)) (.node (b3sub 6) (.node (o86_44 P) (.node (o150_114 P) .nil .nil) .nil) (.node (o118_82 P) (.node (o182_146 P) .nil .nil) .nil))) (.node (o30_22 P) (.node (o46_40 P) (.node (b3sub 30) (.node (o142_106 P) .nil .nil) .nil) (.node (o110_72 P) (.node (o174_138 P) .nil .nil) .nil)) (.node (b3sub 14) (.node (o94_54 P) (.node (o158_122 P) .nil .nil) .nil) (.node (o126_90 P) (.node (o190_154 P) .nil .nil) .nil)))))))
noncomputable abbrev n79 : Nat := 195
noncomputable abbrev k79 : Nat := 2601
noncomputable abbrev q79 : Pos := ⟨243, 0, 252, 114⟩


noncomputable def env2 : Env := { scope := P1.main.scope, locals := mainNs, globals := mainNs, cells := [], code := .ref 13, frame := some 14 }
noncomputable def cE : Code := .body (behindTheImports P1) env2
noncomputable def BB : List Frame := [topFrame ⟨0, 0, 0, 0⟩]
noncomputable def ann : Option Value := some (.ref 6)
noncomputable def stmts (i n : Nat) : List Stmt := (P1.main.body.drop i).take n
noncomputable def S (T : Params → BT) (n k : Nat) (w : World) (os : OsState) : SharedT := .mk (T w.params) n {} #[] boot_drawn k os
set_option maxHeartbeats 0
noncomputable abbrev PC (i n steps : Nat) (T T' : Params → BT) (nn kk nn' kk' : Nat) (q q' : Pos) (w : World) : Prop :=
  (fun os => segRunT treeTable P1 w 11 ann 1 steps (S T nn kk w os) (piecesOf (stmts i n) env2 cE q BB)) = fun os => some (.next, S T' nn' kk' w os, cE, q')
noncomputable abbrev PQ (i n steps : Nat) (T T' : Params → BT) (nn kk nn' kk' : Nat) (q q' : Pos) (w : World) : Prop :=
  (fun os => PySem.W.Fast.tw10110043849684766642 PySem.W.Fast.tw14364793385576792824 P1 w 11 ann 1 steps (S T nn kk w os) (piecesOf (stmts i n) env2 cE q BB)) = fun os => some (.next, S T' nn' kk' w os, cE, q')
theorem PC_of {i n steps : Nat} {T T' : Params → BT} {nn kk nn' kk' : Nat} {q q' : Pos} {w : World} (h : PQ i n steps T T' nn kk nn' kk' q q' w) : PC i n steps T T' nn kk nn' kk' q q' w := by
  unfold PC
  rw [PySem.W.Fast.te10110043849684766642, PySem.W.Fast.te14364793385576792824]
  exact h

set_option maxHeartbeats 0
theorem pc0 (w : World) : PC 0 7 118 T0 T7 n0 k0 n7 k7 q0 q7 w := by kernel_rfl

set_option maxHeartbeats 0
theorem pc7 (w : World) : PC 7 1 999 T7 T8 n7 k7 n8 k8 q7 q8 w :=
  byRow2 "set-order" (P := PC 7 1 999 T7 T8 n7 k7 n8 k8 q7 q8)
    (byRow2 "special-get-raises" (P := fun w => PC 7 1 999 T7 T8 n7 k7 n8 k8 q7 q8 (w.withFollow "set-order" false)) (fun w => PC_of (by kernel_rfl)) (fun w => PC_of (by kernel_rfl)))
    (byRow2 "special-get-raises" (P := fun w => PC 7 1 999 T7 T8 n7 k7 n8 k8 q7 q8 (w.withFollow "set-order" true)) (fun w => PC_of (by kernel_rfl)) (fun w => PC_of (by kernel_rfl))) w

set_option maxHeartbeats 0
theorem pc8 (w : World) : PC 8 1 30 T8 T9 n8 k8 n9 k9 q8 q9 w := by kernel_rfl

set_option maxHeartbeats 0
theorem pc10 (w : World) : PC 10 26 256 T10 T36 n10 k10 n36 k36 q10 q36 w := by kernel_rfl

set_option maxHeartbeats 0
theorem pc36 (w : World) : PC 36 26 235 T36 T62 n36 k36 n62 k62 q36 q62 w := by kernel_rfl

set_option maxHeartbeats 0
theorem pc62 (w : World) : PC 62 1 979 T62 T63 n62 k62 n63 k63 q62 q63 w :=
  byRow2 "special-get-raises" (P := PC 62 1 979 T62 T63 n62 k62 n63 k63 q62 q63) (fun w => PC_of (by kernel_rfl)) (fun w => PC_of (by kernel_rfl)) w

set_option maxHeartbeats 0
theorem pc63 (w : World) : PC 63 4 97 T63 T67 n63 k63 n67 k67 q63 q67 w := by kernel_rfl

set_option maxHeartbeats 0
theorem pc67 (w : World) : PC 67 12 387 T67 T79 n67 k67 n79 k79 q67 q79 w := by kernel_rfl

set_option maxHeartbeats 0
noncomputable def b3X : Str := match b3St with | .Assign [.Name x _] _ _ => x | _ => ""
noncomputable def b3NP : Pos := match b3St with | .Assign [.Name _ p] _ _ => p | _ => ⟨0, 0, 0, 0⟩
noncomputable def b3DP : Pos := match b3St with | .Assign _ (.Dict _ _ p) _ => p | _ => ⟨0, 0, 0, 0⟩
noncomputable def b3SP : Pos := match b3St with | .Assign _ _ p => p | _ => ⟨0, 0, 0, 0⟩
theorem b3_st : stmts 9 1 = [.Assign [.Name b3X b3NP] (.Dict b3Keys b3Vals b3DP) b3SP] := by kernel_rfl
theorem b3_items : (evalEachOpt b3Keys env2).zip ((evalEach b3Vals env2).map fun v => do let x ← v; standAt b3DP; pure x) = b3Pairs.map (dictItem b3DP) := by kernel_rfl
theorem b3_len : b3Pairs.length = 650 := by kernel_rfl
theorem b3_incr : incr (b3Pairs.map fun q => hashInt q.1) = true := by kernel_rfl
theorem b3_ok : DS.Ok ⟨none, [], k9, []⟩ b3Pairs :=
  ⟨incr_nodup _ b3_incr, by show (b3Pairs.map _).length ≤ _; rw [List.length_map, b3_len, sizeLine_eq]; decide, fun _ => rfl, fun es ep h => by cases h⟩
theorem b3_run : (b3Pairs.foldl DS.step ⟨none, [], k9, []⟩).run.length = 4 := by rw [DS.run_len _ _ (by decide), b3_len]; rfl
theorem b3_made : (b3Pairs.foldl DS.step ⟨none, [], k9, []⟩).made = 38 := by rw [DS.made_eq _ _ (by decide), b3_len]; rfl
theorem b3D_def : b3D = (b3Pairs.foldl DS.step ⟨none, [], k9, []⟩).flush := rfl
theorem b3D_made : b3D.made = 39 := by unfold b3D; rw [DS.flush_made, b3_made]
theorem b3D_k : b3D.k = k9 + 1950 := by
  unfold b3D
  rw [DS.flush_k]
  have := DS.k_eq b3Pairs ⟨none, [], k9, []⟩
  rw [b3_len] at this
  rw [this]; rfl
theorem b3_main : (b3Pairs.foldl DS.step ⟨none, [], k9, []⟩).main ≠ none := fun h => by
  have ok := DS.ok_fold _ _ b3_ok
  have hs := ok.sub h
  have := b3_made
  unfold DS.made at this
  rw [h, hs] at this
  cases this
theorem b3D_main : ∃ es ep, b3D.main = some (es, ep) ∧ b3Main = dObj es ep := by
  unfold b3Main
  cases h : b3D.main with
  | none => exact absurd h (by unfold b3D DS.flush; split <;> simp)
  | some x => obtain ⟨es, ep⟩ := x; exact ⟨es, ep, rfl, rfl⟩
theorem b3D_subs : b3D.subs = (List.range 38).map b3sub := by
  have hl : b3D.subs.length = 38 := by
    obtain ⟨es, ep, h, _⟩ := b3D_main
    have := b3D_made
    unfold DS.made at this
    rw [h] at this
    simp only at this; grind
  apply List.ext_getElem?
  intro i
  rw [List.getElem?_map]
  by_cases h : i < 38
  · rw [List.getElem?_range h, List.getElem?_eq_getElem (by grind)]
    show _ = some (b3D.subs.getD i default)
    rw [List.getD_eq_getElem?_getD, List.getElem?_eq_getElem (by grind)]; rfl
  · rw [List.getElem?_eq_none (by grind), List.getElem?_eq_none (by simp; grind)]; rfl
noncomputable def b3Objs : List Obj := b3Main :: (List.range 38).map b3sub
theorem b3_insOk (P : Params) : insOk (T9 P) n9 b3Objs = true := by kernel_rfl
noncomputable def T9b (P : Params) : BT := insAll (T9 P) n9 b3Objs
noncomputable abbrev b3Rest (K : Flow → Sem PySem.Fin) : Sem PySem.Fin := (do standAt b3NP; bindName env2 b3X (.ref n9); pure Flow.next : Sem Flow).wrap K deadEnd id id
theorem pc9b (w : World) : (fun os => segRunT treeTable P1 w 11 ann 1 60 (S T9b n10 (k9 + 1950) w os) ⟨b3Rest (fun f => match f with | .next => (execs [] env2).wrap doneF deadEnd id id | f => doneF f), cE, b3DP, BB⟩) = fun os => some (.next, S T10 n10 k10 w os, cE, q10) := by kernel_rfl
theorem pc9 (w : World) (os : OsState) : segRun treeTable P1 w 11 ann 1 (522000 + 60) (S T9 n9 k9 w os).abs (piecesOf (stmts 9 1) env2 cE q9 BB) = some (.next, (S T10 n10 k10 w os).abs, cE, q10) := by
  have hsz : (absHeap (T9 w.params) n9 {}).objs.size = n9 := absHeap_size _ _ _
  have hd := Go.display (M := ⟨treeTable, P1, w, 11, ann, 1⟩) (pos := b3DP) (s₀ := (S T9 n9 k9 w os).abs) (h := absHeap (T9 w.params) n9 {}) rfl (by rw [hsz]; show 11 ≤ 47; decide) (by rw [hsz]; decide) b3Pairs k9 b3_ok (fun q => by have := b3_run; rw [q] at this; cases this) b3_main
  rw [b3_run, b3_len, ← b3_items, hsz] at hd
  have hb := segRun_of (congrFun (pc9b w) os)
  refine SG.run (M := ⟨treeTable, P1, w, 11, ann, 1⟩) (i := 522000) ?_ hb
  rw [b3_st]
  unfold piecesOf
  have e0 := exec_Assign_Name (env := env2) b3X b3NP (.Dict b3Keys b3Vals b3DP) b3SP rfl
  rw [execs_cons_wrap, e0]
  have e1 : (do standAt b3SP; let v ← eval (.Dict b3Keys b3Vals b3DP) env2; standAt b3NP; bindName env2 b3X v; pure Flow.next : Sem Flow) = (do standAt b3SP; standAt b3DP; dictDisplay ((evalEachOpt b3Keys env2).zip ((evalEach b3Vals env2).map fun v => do let x ← v; standAt b3DP; pure x)) : Sem Value) >>= fun v => (do standAt b3NP; bindName env2 b3X v; pure Flow.next) := by rfl
  rw [e1, Sem.bind_eq_wrap', Sem.wrap_wrap]
  have hg := Go.bind (m := standAt b3SP) (f := fun _ => standAt b3DP >>= fun _ => dictDisplay ((evalEachOpt b3Keys env2).zip ((evalEach b3Vals env2).map fun v => do let x ← v; standAt b3DP; pure x))) (Go.at_ (M := ⟨treeTable, P1, w, 11, ann, 1⟩) (q := b3SP) (p := q9) (s := (S T9 n9 k9 w os).abs)) (Go.bind (m := standAt b3DP) (f := fun _ => dictDisplay ((evalEachOpt b3Keys env2).zip ((evalEach b3Vals env2).map fun v => do let x ← v; standAt b3DP; pure x))) Go.at_ hd)
  have hr := hg (fun v => (do standAt b3NP; bindName env2 b3X v; pure Flow.next : Sem Flow).wrap (fun f => match f with | .next => (execs [] env2).wrap doneF deadEnd id id | f => doneF f) deadEnd id id) deadEnd id id cE BB (Nat.le_refl _)
  have hend : ST (S T9 n9 k9 w os).abs ((b3Pairs.foldl DS.step ⟨none, [], k9, []⟩).flush.heap (absHeap (T9 w.params) n9 {})) (b3Pairs.foldl DS.step ⟨none, [], k9, []⟩).flush.k = (S T9b n10 (k9 + 1950) w os).abs := by
    rw [← b3D_def, b3D_k]
    have : b3D.heap (absHeap (T9 w.params) n9 {}) = absHeap (T9b w.params) n10 {} := by
      obtain ⟨es, ep, h1, h2⟩ := b3D_main
      have h3 : b3D.heap (absHeap (T9 w.params) n9 {}) = HP (absHeap (T9 w.params) n9 {}) (dObj es ep) b3D.subs := by unfold DS.heap; rw [h1]
      rw [h3, ← h2, b3D_subs]
      exact HP_abs (b3_insOk _) rfl (by kernel_rfl)
    rw [this]; simp only [ST, S, SharedT.abs]
  rw [hend] at hr
  refine SG.le ?_ (show 1 + (1 + (800 * 650 + (40 * 4 + 30))) ≤ 522000 from by decide)
  exact hr

set_option maxHeartbeats 0
noncomputable def H1 (P : Params) : Heap := ⟨#[(boot_o_0 P), (boot_o_1 P), (boot_o_2 P), (o3_79 P), (boot_o_4 P), (boot_o_5 P), (boot_o_6 P), (boot_o_7 P), (boot_o_8 P), (boot_o_9 P), (boot_o_10 P), (o11_0 P), (o12_80 P), (o13_2 P), (o14_3 P), (o15_6 P), (o16_7 P), (o17_8 P), (o18_9 P), (o19_10 P), (o20_11 P), (o21_12 P), (o22_13 P), (o23_14 P), (o24_15 P), (o25_16 P), (o26_17 P), (o27_18 P), (o28_19 P), (o29_21 P), (o30_22 P), (o31_23 P), (o32_24 P), (o33_25 P), (o34_26 P), (o35_27 P), (o36_28 P), (o37_29 P), (o38_30 P), (o39_31 P), (o40_34 P), (o41_35 P), (o42_36 P), (o43_37 P), (o44_38 P), (o45_39 P), (o46_40 P), b3Main, (b3sub 0), (b3sub 1), (b3sub 2), (b3sub 3), (b3sub 4), (b3sub 5), (b3sub 6), (b3sub 7), (b3sub 8), (b3sub 9), (b3sub 10), (b3sub 11), (b3sub 12), (b3sub 13), (b3sub 14), (b3sub 15), (b3sub 16), (b3sub 17), (b3sub 18), (b3sub 19), (b3sub 20), (b3sub 21), (b3sub 22), (b3sub 23), (b3sub 24), (b3sub 25), (b3sub 26), (b3sub 27), (b3sub 28), (b3sub 29), (b3sub 30), (b3sub 31), (b3sub 32), (b3sub 33), (b3sub 34), (b3sub 35), (b3sub 36), (b3sub 37), (o86_44 P), (o87_45 P), (o88_46 P), (o89_47 P), (o90_48 P), (o91_49 P), (o92_50 P), (o93_53 P), (o94_54 P), (o95_55 P), (o96_58 P), (o97_59 P), (o98_60 P), (o99_61 P), (o100_62 P), (o101_63 P), (o102_64 P), (o103_65 P), (o104_66 P), (o105_67 P), (o106_68 P), (o107_69 P), (o108_70 P), (o109_71 P), (o110_72 P), (o111_73 P), (o112_74 P), (o113_75 P), (o114_76 P), (o115_77 P), (o116_78 P), (o117_81 P), (o118_82 P), (o119_83 P), (o120_84 P), (o121_85 P), (o122_86 P), (o123_87 P), (o124_88 P), (o125_89 P), (o126_90 P), (o127_91 P), (o128_92 P), (o129_93 P), (o130_94 P), (o131_95 P), (o132_96 P), (o133_97 P), (o134_98 P), (o135_99 P), (o136_100 P), (o137_101 P), (o138_102 P), (o139_103 P), (o140_104 P), (o141_105 P), (o142_106 P), (o143_107 P), (o144_108 P), (o145_109 P), (o146_110 P), (o147_111 P), (o148_112 P), (o149_113 P), (o150_114 P), (o151_115 P), (o152_116 P), (o153_117 P), (o154_118 P), (o155_119 P), (o156_120 P), (o157_121 P), (o158_122 P), (o159_123 P), (o160_124 P), (o161_125 P), (o162_126 P), (o163_127 P), (o164_128 P), (o165_129 P), (o166_130 P), (o167_131 P), (o168_132 P), (o169_133 P), (o170_134 P), (o171_135 P), (o172_136 P), (o173_137 P), (o174_138 P), (o175_139 P), (o176_140 P), (o177_141 P), (o178_142 P), (o179_143 P), (o180_144 P), (o181_145 P), (o182_146 P), (o183_147 P), (o184_148 P), (o185_149 P), (o186_150 P), (o187_151 P), (o188_152 P), (o189_153 P), (o190_154 P), (o191_155 P), (o192_156 P), (o193_157 P), (o194_158 P)], {}⟩
noncomputable def KF (P : Params) : Frag := [(0, (boot_o_0 P)), (1, (boot_o_1 P)), (2, (boot_o_2 P)), (3, (o3_79 P)), (4, (boot_o_4 P)), (5, (boot_o_5 P)), (6, (boot_o_6 P)), (7, (boot_o_7 P)), (8, (boot_o_8 P)), (9, (boot_o_9 P)), (10, (boot_o_10 P)), (11, (o11_0 P)), (12, (o12_80 P)), (13, (o13_2 P)), (14, (o14_3 P)), (15, (o15_6 P)), (16, (o16_7 P)), (17, (o17_8 P)), (18, (o18_9 P)), (19, (o19_10 P)), (20, (o20_11 P)), (21, (o21_12 P)), (22, (o22_13 P)), (23, (o23_14 P)), (24, (o24_15 P)), (25, (o25_16 P)), (26, (o26_17 P)), (27, (o27_18 P)), (28, (o28_19 P)), (29, (o29_21 P)), (30, (o30_22 P)), (31, (o31_23 P)), (32, (o32_24 P)), (33, (o33_25 P)), (34, (o34_26 P)), (35, (o35_27 P)), (36, (o36_28 P)), (37, (o37_29 P)), (38, (o38_30 P)), (39, (o39_31 P)), (40, (o40_34 P)), (41, (o41_35 P)), (42, (o42_36 P)), (43, (o43_37 P)), (44, (o44_38 P)), (45, (o45_39 P)), (46, (o46_40 P)), (47, b3Main), (86, (o86_44 P)), (87, (o87_45 P)), (88, (o88_46 P)), (89, (o89_47 P)), (90, (o90_48 P)), (91, (o91_49 P)), (92, (o92_50 P)), (93, (o93_53 P)), (94, (o94_54 P)), (95, (o95_55 P)), (96, (o96_58 P)), (97, (o97_59 P)), (98, (o98_60 P)), (99, (o99_61 P)), (100, (o100_62 P)), (101, (o101_63 P)), (102, (o102_64 P)), (103, (o103_65 P)), (104, (o104_66 P)), (105, (o105_67 P)), (106, (o106_68 P)), (107, (o107_69 P)), (108, (o108_70 P)), (109, (o109_71 P)), (110, (o110_72 P)), (111, (o111_73 P)), (112, (o112_74 P)), (113, (o113_75 P)), (114, (o114_76 P)), (115, (o115_77 P)), (116, (o116_78 P)), (117, (o117_81 P)), (118, (o118_82 P)), (119, (o119_83 P)), (120, (o120_84 P)), (121, (o121_85 P)), (122, (o122_86 P)), (123, (o123_87 P)), (124, (o124_88 P)), (125, (o125_89 P)), (126, (o126_90 P)), (127, (o127_91 P)), (128, (o128_92 P)), (129, (o129_93 P)), (130, (o130_94 P)), (131, (o131_95 P)), (132, (o132_96 P)), (133, (o133_97 P)), (134, (o134_98 P)), (135, (o135_99 P)), (136, (o136_100 P)), (137, (o137_101 P)), (138, (o138_102 P)), (139, (o139_103 P)), (140, (o140_104 P)), (141, (o141_105 P)), (142, (o142_106 P)), (143, (o143_107 P)), (144, (o144_108 P)), (145, (o145_109 P)), (146, (o146_110 P)), (147, (o147_111 P)), (148, (o148_112 P)), (149, (o149_113 P)), (150, (o150_114 P)), (151, (o151_115 P)), (152, (o152_116 P)), (153, (o153_117 P)), (154, (o154_118 P)), (155, (o155_119 P)), (156, (o156_120 P)), (157, (o157_121 P)), (158, (o158_122 P)), (159, (o159_123 P)), (160, (o160_124 P)), (161, (o161_125 P)), (162, (o162_126 P)), (163, (o163_127 P)), (164, (o164_128 P)), (165, (o165_129 P)), (166, (o166_130 P)), (167, (o167_131 P)), (168, (o168_132 P)), (169, (o169_133 P)), (170, (o170_134 P)), (171, (o171_135 P)), (172, (o172_136 P)), (173, (o173_137 P)), (174, (o174_138 P)), (175, (o175_139 P)), (176, (o176_140 P)), (177, (o177_141 P)), (178, (o178_142 P)), (179, (o179_143 P)), (180, (o180_144 P)), (181, (o181_145 P)), (182, (o182_146 P)), (183, (o183_147 P)), (184, (o184_148 P)), (185, (o185_149 P)), (186, (o186_150 P)), (187, (o187_151 P)), (188, (o188_152 P)), (189, (o189_153 P)), (190, (o190_154 P)), (191, (o191_155 P)), (192, (o192_156 P)), (193, (o193_157 P)), (194, (o194_158 P))]
noncomputable def KAs : List Addr := [0, 1, 2, 3, 4, 5, 6, 7, 8, 9, 10, 11, 12, 13, 14, 15, 16, 17, 18, 19, 20, 21, 22, 23, 24, 25, 26, 27, 28, 29, 30, 31, 32, 33, 34, 35, 36, 37, 38, 39, 40, 41, 42, 43, 44, 45, 46, 47, 86, 87, 88, 89, 90, 91, 92, 93, 94, 95, 96, 97, 98, 99, 100, 101, 102, 103, 104, 105, 106, 107, 108, 109, 110, 111, 112, 113, 114, 115, 116, 117, 118, 119, 120, 121, 122, 123, 124, 125, 126, 127, 128, 129, 130, 131, 132, 133, 134, 135, 136, 137, 138, 139, 140, 141, 142, 143, 144, 145, 146, 147, 148, 149, 150, 151, 152, 153, 154, 155, 156, 157, 158, 159, 160, 161, 162, 163, 164, 165, 166, 167, 168, 169, 170, 171, 172, 173, 174, 175, 176, 177, 178, 179, 180, 181, 182, 183, 184, 185, 186, 187, 188, 189, 190, 191, 192, 193, 194]
theorem KAs_eq (P : Params) : KAs = (KF P).map (·.1) := by kernel_rfl
theorem h_pre (w : World) : (fun os => topGo treeTable P1 w 11 ann 12 ⟨boot_heap w.params, Array.mk [], boot_drawn, boot_toks, os⟩ (topStub P1)) = fun os => some ((S T0 n0 k0 w os).abs, ⟨denote treeTable cE, cE, q0, BB⟩) := by kernel_rfl
theorem h_block (w : World) : (fun os => segRun treeTable P1 w 11 ann 1 1 (S T0 n0 k0 w os).abs (blockOf (behindTheImports P1) env2 cE q0 BB)) = fun os => some (.next, (S T0 n0 k0 w os).abs, cE, q0) := by kernel_rfl
theorem h_fin (w : World) : (fun os => topRun treeTable P1 w 11 ann 2 (S T79 n79 k79 w os).abs ⟨doneF .next, cE, q79, BB⟩) = fun os => some ⟨H1 w.params, Array.mk [], boot_drawn, k79, os⟩ := by kernel_rfl
theorem h_chain : behindTheImports P1 = stmts 0 7 ++ (stmts 7 1 ++ (stmts 8 1 ++ (stmts 9 1 ++ (stmts 10 26 ++ (stmts 36 26 ++ (stmts 62 1 ++ (stmts 63 4 ++ (stmts 67 12 ++ [])))))))) := by kernel_rfl

set_option maxHeartbeats 0
theorem h_run (w : World) (os : OsState) : topRun treeTable P1 w 11 ann (12 + (1 + (118 + (999 + (30 + ((522000 + 60) + (256 + (235 + (979 + (97 + (387 + 2))))))))))) ⟨boot_heap w.params, Array.mk [], boot_drawn, boot_toks, os⟩ (topStub P1) = some ⟨H1 w.params, Array.mk [], boot_drawn, k79, os⟩ := by
  refine go_top (congrFun (h_pre w) os) ?_
  refine piece_block (congrFun (h_block w) os) ?_
  rw [h_chain]
  refine piece_app (segRun_of (congrFun (pc0 w) os)) ?_
  refine piece_app (segRun_of (congrFun (pc7 w) os)) ?_
  refine piece_app (segRun_of (congrFun (pc8 w) os)) ?_
  refine piece_app (pc9 w os) ?_
  refine piece_app (segRun_of (congrFun (pc10 w) os)) ?_
  refine piece_app (segRun_of (congrFun (pc36 w) os)) ?_
  refine piece_app (segRun_of (congrFun (pc62 w) os)) ?_
  refine piece_app (segRun_of (congrFun (pc63 w) os)) ?_
  refine piece_app (segRun_of (congrFun (pc67 w) os)) ?_
  refine piece_nil ?_
  exact congrFun (h_fin w) os
noncomputable def q2 : Program := { P1 with main := { P1.main with body := [nth P1.main.body 78] } }
noncomputable def loose2 : List Str := [Str.ofString "_MAX_STRING_SIZE", Str.ofString "_MOVE_COST", Str.ofString "_CASE_COST", Str.ofString "_substitution_cost", Str.ofString "_levenshtein_distance", Str.ofString "b1_set", Str.ofString "in_table_b1", Str.ofString "b3_exceptions", Str.ofString "map_table_b3", Str.ofString "ENDMARKER", Str.ofString "LPAR", Str.ofString "RPAR", Str.ofString "LSQB", Str.ofString "RSQB", Str.ofString "COLON", Str.ofString "COMMA", Str.ofString "SEMI", Str.ofString "PLUS", Str.ofString "MINUS", Str.ofString "STAR", Str.ofString "SLASH", Str.ofString "VBAR", Str.ofString "AMPER", Str.ofString "LESS", Str.ofString "GREATER", Str.ofString "EQUAL", Str.ofString "DOT", Str.ofString "PERCENT", Str.ofString "LBRACE", Str.ofString "RBRACE", Str.ofString "EQEQUAL", Str.ofString "NOTEQUAL", Str.ofString "LESSEQUAL", Str.ofString "GREATEREQUAL", Str.ofString "TILDE", Str.ofString "CIRCUMFLEX", Str.ofString "LEFTSHIFT", Str.ofString "RIGHTSHIFT", Str.ofString "DOUBLESTAR", Str.ofString "PLUSEQUAL", Str.ofString "MINEQUAL", Str.ofString "STAREQUAL", Str.ofString "SLASHEQUAL", Str.ofString "PERCENTEQUAL", Str.ofString "AMPEREQUAL", Str.ofString "VBAREQUAL", Str.ofString "CIRCUMFLEXEQUAL", Str.ofString "LEFTSHIFTEQUAL", Str.ofString "RIGHTSHIFTEQUAL", Str.ofString "DOUBLESTAREQUAL", Str.ofString "DOUBLESLASH", Str.ofString "DOUBLESLASHEQUAL", Str.ofString "AT", Str.ofString "ATEQUAL", Str.ofString "RARROW", Str.ofString "ELLIPSIS", Str.ofString "COLONEQUAL", Str.ofString "EXCLAMATION", Str.ofString "NT_OFFSET", Str.ofString "EXACT_TOKEN_TYPES", Str.ofString "ISTERMINAL", Str.ofString "ISNONTERMINAL", Str.ofString "ISEOF", Str.ofString "_law_numbers", Str.ofString "_law_operators", Str.ofString "_law_book", Str.ofString "_law_text", Str.ofString "_law_cut", Str.ofString "_law_rules", Str.ofString "_law_sentences", Str.ofString "_law_nearest", Str.ofString "_law_alone", Str.ofString "_law_part", Str.ofString "_law_table"]
noncomputable def Xt2 (s : Shared) : Bool := recOk [] s
noncomputable abbrev SF (w : World) (os : OsState) : Shared := ⟨H1 w.params, Array.mk [], boot_drawn, k79, os⟩
theorem l_1 (w : World) : (fun os : OsState => staticsOk (importedModules P1.main.body) (boot_heap w.params) (H1 w.params)) = fun _ => true := by kernel_rfl
theorem l_2 (w : World) : (fun os : OsState => namesBound P1 (H1 w.params)) = fun _ => true := by kernel_rfl
theorem l_3 (w : World) : (fun os : OsState => gensDone (SF w os)) = fun _ => true := by kernel_rfl
theorem l_4 (w : World) : (fun os : OsState => laidKept (boot_heap w.params) (H1 w.params)) = fun _ => true := by kernel_rfl
theorem h_open : ∀ w : World, (fencedOpening treeTable P1 w 600000).map (fun s => (s.heap, s.gens, s.drawn, s.toks)) = some (boot_heap w.params, Array.mk [], boot_drawn, boot_toks) :=
  boot_open (by kernel_rfl) (by decide) (fun s => by kernel_rfl)
theorem h_size (w : World) : ((boot_heap w.params).isNs mainGlobals && (Array.mk [] : Array GenState).size == 0, (boot_heap w.params).objs.size, (boot_heap w.params).nsMap mainGlobals "__annotations__") = (true, 11, ann) := by kernel_rfl
theorem l_5 (w : World) : (fun os : OsState => seen ((recsOf q2).map (·.name)) (ownsOf q2) [] { SF w os with gens := #[] }) = fun _ => expectedOf q2 := by kernel_rfl
theorem l_6 (w : World) : (fun os : OsState => (SF w os).heap.bltView) = fun _ => bltViewBooted := by kernel_rfl
theorem l_7 (w : World) : (fun os : OsState => (SF w os).heap.keysOk (looseW q2 loose2) ((recsOf q2).map (·.name)) ((litsOf q2).map (·.1)) ((clssOf q2 (looseW q2 loose2)).map (·.name)) && (SF w os).heap.accountedOkI (importedModules P1.main.body) && (SF w os).heap.isNs mainGlobals && (SF w os).heap.isNs builtinsNs && tablesOk q2 (SF w os).heap && Xt2 (SF w os) && (if true then (SF w os).gens.size == 0 else !leftWithCleanup (SF w os).gens)) = fun _ => true := by kernel_rfl
theorem l_8 (w : World) : (fun os : OsState => tabsOk q2 (SF w os)) = fun _ => true := by kernel_rfl
theorem l_9 (w : World) : (fun os : OsState => pinSeenD q2 (drecsOf q2) (SF w os)) = fun _ => pinGoodD (drecsOf q2) := by kernel_rfl
theorem l_10 (w : World) : (fun os : OsState => plainSeenE q2 (looseW q2 loose2) (SF w os)) = fun _ => plainGoodE q2 (looseW q2 loose2) := by kernel_rfl
theorem l_11 (w : World) : (fun os : OsState => plainSeenD q2 loose2 (SF w os)) = fun _ => plainGoodD q2 loose2 := by kernel_rfl
theorem l_12 (w : World) : (fun os : OsState => wideSeen q2 (SF w os)) = fun _ => wideGood q2 := by kernel_rfl
theorem l_13 (w : World) : (fun os : OsState => clsSeenW q2 loose2 (SF w os)) = fun _ => clsGoodW q2 loose2 := by kernel_rfl
theorem l_14 (w : World) : (fun os : OsState => KAs.map (SF w os).heap.get?) = fun _ => (KF w.params).map fun p => some p.2 := by kernel_rfl
theorem l_all (w : World) : (fun os : OsState => ((staticsOk (importedModules P1.main.body) (boot_heap w.params) (H1 w.params) && namesBound P1 (H1 w.params) && gensDone (SF w os) && laidKept (boot_heap w.params) (H1 w.params)),
    openSeen q2 loose2 (importedModules P1.main.body) Xt2 true (SF w os), KAs.map (SF w os).heap.get?)) = fun _ => (true, openGood q2 loose2, (KF w.params).map fun p => some p.2) := by
  funext os
  have c1 := congrFun (l_1 w) os
  have c2 := congrFun (l_2 w) os
  have c3 := congrFun (l_3 w) os
  have c4 := congrFun (l_4 w) os
  refine looks_pair (look_both (look_both (look_both c1 c2) c3) c4) (looks_pair ?_ (congrFun (l_14 w) os))
  exact looks_pair (congrFun (l_5 w) os) (looks_pair (congrFun (l_6 w) os) (looks_pair (congrFun (l_7 w) os) (looks_pair (congrFun (l_8 w) os) (looks_pair (congrFun (l_9 w) os) (looks_pair (congrFun (l_10 w) os) (looks_pair (congrFun (l_11 w) os) (looks_pair (congrFun (l_12 w) os) (congrFun (l_13 w) os))))))))
theorem left : LeftO P1 q2 loose2 Xt2 (fun s => KAs.map s.heap.get?) (fun w => (KF w.params).map fun p => some p.2) 600000 true :=
  LeftO.of_pieces (H₀ := boot_heap) (H₁ := H1) (M := 12 + (1 + (118 + (999 + (30 + ((522000 + 60) + (256 + (235 + (979 + (97 + (387 + 2))))))))))) h_open h_size h_run (by decide) l_all


/-- what stands at a place of the store, by the store's own make -/
inductive At : List PO → Nat → PO → Prop
  | last (l : List PO) (a : PO) (n : Nat) : n = l.length → At (l ++ [a]) n a
  | prev (l : List PO) (a : PO) (n : Nat) (p : PO) : At l n p → At (l ++ [a]) n p
  | base (l : List PO) (n : Nat) (p : PO) : l[n]? = some p → At l n p
theorem At.get {l : List PO} {n : Nat} {p : PO} (h : At l n p) : l[n]? = some p := by
  induction h with
  | last l a n e => subst e; simp
  | prev l a n p _ ih => rw [List.getElem?_append_left (List.getElem?_eq_some_iff.mp ih).1]; exact ih
  | base l n p h => exact h
inductive SetAt : List PO → Nat → PO → List PO → Prop
  | last (l : List PO) (a p : PO) (n : Nat) : n = l.length → SetAt (l ++ [a]) n p (l ++ [p])
  | prev (l l' : List PO) (a p : PO) (n : Nat) : SetAt l n p l' → SetAt (l ++ [a]) n p (l' ++ [a])
  | base (l : List PO) (n : Nat) (p : PO) : n < l.length → SetAt l n p (l.set n p)
theorem SetAt.eq {l l' : List PO} {n : Nat} {p : PO} (h : SetAt l n p l') : l' = l.set n p ∧ n < l.length := by
  induction h with
  | last l a p n e => subst e; simp
  | prev l l' a p n _ ih =>
    obtain ⟨e, h⟩ := ih
    refine ⟨?_, by simp; grind⟩
    rw [e, List.set_append_left _ _ h]
  | base l n p h => exact ⟨rfl, h⟩

section
variable {X : Cx} {st st₁ st₂ st₃ st₄ st' : PSt}
theorem Item.listA {n : Nat} {xs : List PV} {i : Int} {v : PV} (hp : At st.sto n (.list xs)) (h0 : 0 ≤ i) (hfit : i < 2 ^ 63) (hv : xs[i.toNat]? = some v) : Item X (.loc n) (.int i) st v st := Item.list hp.get h0 hfit hv
theorem Cut.listA {n : Nat} {xs : List PV} {lo hi : Option Int} (hp : At st.sto n (.list xs)) (h : xs.length ≤ sizeLine) : Cut X (.loc n) lo hi st (.loc st.sto.length) ⟨st.loc, st.sto ++ [.list (slc xs lo hi)]⟩ := Cut.list hp.get h
theorem Calls.appendA {n : Nat} {xs : List PV} {v : PV} {sto' : List PO} (hp : At st.sto n (.list xs)) (hs : SetAt st.sto n (.list (xs ++ [v])) sto') (hl : xs.length ≤ sizeLine) : Calls X (.glob (.builtin "list.append")) [.loc n, v] st .none ⟨st.loc, sto'⟩ := by
  rw [hs.eq.1]; exact Calls.append hp.get hl
theorem Calls.len_listA {n : Nat} {xs : List PV} (hp : At st.sto n (.list xs)) (hl : xs.length < 2 ^ 62) : Calls X (.glob (.builtin "len")) [.loc n] st (.int xs.length) st := Calls.len_list hp.get hl
theorem Op.add_listA {n m : Nat} {xs ys : List PV} (hx : At st.sto n (.list xs)) (hy : At st.sto m (.list ys)) (hl : xs.length + ys.length ≤ sizeLine) :
    Op2 X (binaryOp .Add) (.loc n) (.loc m) st (.loc st.sto.length) ⟨st.loc, st.sto ++ [.list (xs ++ ys)]⟩ := Op.add_list hx.get hy.get hl
theorem Iters.listA (hh : X.A.handled = none) {n : Nat} {xs : List PV} (hp : At st.sto n (.list xs)) : Iters X (.loc n) st xs (fun st => st.sto[n]? = some (.list xs)) := Iters.list hh hp.get
theorem SetIt.IA {k : Nat} (ok : X.Ok k) {n : Nat} {ps : List (Int × PV)} {i : Int} {v : PV} {sto' : List PO} (hp : At st.sto n (.dictI ps)) (hs : SetAt st.sto n (.dictI (dput ps i v)) sto') (hsz : ps.length ≤ sizeLine) : SetIt X (.loc n) (.int i) v st ⟨st.loc, sto'⟩ := by
  rw [hs.eq.1]; exact SetIt.I ok hp.get hsz
theorem notInt {k : Nat} (ok : X.Ok k) : interactive X.env = false := by unfold interactive; rw [ok.kind]; rfl
/-- o.append(e) -/
theorem Ex.append {k : Nat} (ok : X.Ok k) {o e : Expr} {apos p q : Pos} {n : Nat} {xs ys : List PV} {v : PV} {sto' : List PO} (ho : Ev X o st (.loc n) st₁) (a1 : At st₁.sto n (.list ys)) (he : Evs X [e] st₁ [v] st₂) (ha : At st₂.sto n (.list xs)) (hs : SetAt st₂.sto n (.list (xs ++ [v])) sto')
    (hl : xs.length ≤ sizeLine) (hx : Plain [e]) (hbase : attributeBase o "append" X.env (eval o X.env) = eval o X.env) (hline : (apos.endLine == p.line) = true) (hsw : swapsWith (.Call (.Attribute o "append" apos) [e] [] p) Option.none q.line X.env = pure false) :
    Ex X (.Expr (.Call (.Attribute o "append" apos) [e] [] p) q) st .next ⟨st₂.loc, sto'⟩ :=
  Ex.expr (Ev.meth ok ho (meth_list a1.get slot_list_append F.type_list_append) he hx (Calls.appendA ha hs hl) hbase (by simp) hline) (notInt ok) hsw
theorem Ex.to {c : Stmt} {f : PFlow} (h : Ex X c st f st₁) (e : st₁ = st') : Ex X c st f st' := e ▸ h
theorem Exs.to {c : List Stmt} {f : PFlow} (h : Exs X c st f st₁) (e : st₁ = st') : Exs X c st f st' := e ▸ h
theorem Exs.one' {c : Stmt} (h : Ex X c st .next st₁) : Exs X [c] st .next st₁ := Exs.cons h Exs.nil
theorem Ev.strE {k : Nat} {p : Pos} {x : Str} : Ev X (.Constant (.str x) k p) st (.str x.cps.toList) st := Ev.str (T_of x)
end

section
variable {X : Cx} {st st₁ st₂ st₃ st₄ st' : PSt}
theorem fmodN (a : Nat) (b : Int) (hb : 0 < b) : (a : Int).fmod b = ((a % b.toNat : Nat) : Int) := by
  obtain ⟨m, rfl⟩ : ∃ m : Nat, b = m := ⟨b.toNat, by grind⟩
  rw [Int.fmod_eq_emod_of_nonneg _ (by grind)]; simp
theorem fdivN (a : Nat) (b : Int) (hb : 0 < b) : (a : Int).fdiv b = ((a / b.toNat : Nat) : Int) := by
  obtain ⟨m, rfl⟩ : ∃ m : Nat, b = m := ⟨b.toNat, by grind⟩
  rw [Int.fdiv_eq_ediv_of_nonneg _ (by grind)]; simp
theorem Op.modN {a : Nat} {b : Int} (hb : 0 < b) : Op2 X (binaryOp .Mod) (.int (a : Nat)) (.int b) st (.int ((a % b.toNat : Nat) : Int)) st := by
  have := Op.mod_int (X := X) (st := st) (a := (a : Int)) (b := b) (by grind)
  rwa [fmodN a b hb] at this
theorem Op.fdivN {a : Nat} {b : Int} (hb : 0 < b) (hs : b < 2 ^ 30) : Op2 X (binaryOp .FloorDiv) (.int (a : Nat)) (.int b) st (.int ((a / b.toNat : Nat) : Int)) st := by
  have := Op.floordiv_int (X := X) (st := st) (a := (a : Int)) (b := b) (by grind) (PyProof.noPylong_small (by grind))
  rwa [Mine.fdivN a b hb] at this
end

/-- the judgements, closed against unfolding -/
structure BEv (X : Cx) (e : Expr) (st : PSt) (v : PV) (st' : PSt) : Prop where
  h : Ev X e st v st'
structure BEvs (X : Cx) (es : List Expr) (st : PSt) (vs : List PV) (st' : PSt) : Prop where
  h : Evs X es st vs st'
structure BTst (X : Cx) (e : Expr) (st : PSt) (b : Bool) (st' : PSt) : Prop where
  h : Tst X e st b st'
structure BEx (X : Cx) (c : Stmt) (st : PSt) (f : PFlow) (st' : PSt) : Prop where
  h : Ex X c st f st'
structure BExs (X : Cx) (cs : List Stmt) (st : PSt) (f : PFlow) (st' : PSt) : Prop where
  h : Exs X cs st f st'
structure BEvO (X : Cx) (e : Option Expr) (st : PSt) (v : PV) (st' : PSt) : Prop where
  h : EvO X e st v st'
inductive Pre (s : List PO) : List PO → Prop
  | refl : Pre s s
  | snoc (t : List PO) (o : PO) : Pre s t → Pre s (t ++ [o])
theorem Pre.app {s t : List PO} (h : Pre s t) : ∃ g, t = s ++ g := by
  induction h with
  | refl => exact ⟨[], by simp⟩
  | snoc t o _ ih => obtain ⟨g, rfl⟩ := ih; exact ⟨g ++ [o], by simp⟩
section
variable {X : Cx} {st st₁ st₂ st₃ st₄ st' : PSt}
theorem B.int {i : Int} {k : Nat} {p : Pos} : BEv X (.Constant (.int i) k p) st (.int i) st := ⟨Ev.int⟩
theorem B.str {k : Nat} {p : Pos} {x : Str} : BEv X (.Constant (.str x) k p) st (.str x.cps.toList) st := ⟨Ev.strE⟩
theorem B.local {k : Nat} (ok : X.Ok k) {x : Str} {v : PV} {p : Pos} (hk : X.env.kindOf x = some .local) (hl : Look st.loc x v) (hd : (x == ("__debug__" : Str)) = false) : BEv X (.Name x p) st v st := ⟨Ev.local ok hk hl hd⟩
theorem B.binop {l r : Expr} {op : Operator} {p : Pos} {a b v : PV} (hl : BEv X l st a st₁) (hr : BEv X r st₁ b st₂) (h : Op2 X (binaryOp op) a b st₂ v st₃) : BEv X (.BinOp l op r p) st v st₃ := ⟨Ev.binop hl.h hr.h h⟩
theorem B.cmp {l r : Expr} {op : CmpOp} {p : Pos} {a b v : PV} (hl : BEv X l st a st₁) (hr : BEv X r st₁ b st₂) (h : Op2 X (compareOp op) a b st₂ v st₃) (hm : behindInMarks op r = false) : BEv X (.Compare l [op] [r] p) st v st₃ := ⟨Ev.cmp hl.h hr.h h hm⟩
theorem B.tcmp {l r : Expr} {op : CmpOp} {p : Pos} {a b : PV} {c : Bool} (hl : BEv X l st a st₁) (hr : BEv X r st₁ b st₂) (h : Op2 X (compareOp op) a b st₂ (.bool c) st₃) (hm : behindInMarks op r = false) : BTst X (.Compare l [op] [r] p) st c st₃ := ⟨Tst.cmp hl.h hr.h h hm⟩
theorem B.item {value slice : Expr} {p : Pos} {o i v : PV} (ho : BEv X value st o st₁) (hi : BEv X slice st₁ i st₂) (h : Item X o i st₂ v st₃) : BEv X (.Subscript value slice p) st v st₃ := ⟨Ev.item ho.h hi.h h⟩
theorem B.slice {value : Expr} {l u : Option Expr} {p q : Pos} {o a b v : PV} {lo hi : Option Int} (ho : BEv X value st o st₁) (hl : BEvO X l st₁ a st₂) (hu : BEvO X u st₂ b st₃) (oa : OptI a lo) (ob : OptI b hi) (h : Cut X o lo hi st₃ v st₄) :
    BEv X (.Subscript value (.Slice l u Option.none q) p) st v st₄ := ⟨Ev.slice ho.h hl.h hu.h oa ob h⟩
theorem B.onone : BEvO X Option.none st .none st := ⟨EvO.none⟩
theorem B.osome {e : Expr} {v : PV} (h : BEv X e st v st₁) : BEvO X (Option.some e) st v st₁ := ⟨EvO.some h.h⟩
theorem B.list {es : List Expr} {p : Pos} {vs : List PV} (h : BEvs X es st vs st₁) (hl : vs.length ≤ sizeLine) : BEv X (.List es p) st (.loc st₁.sto.length) ⟨st₁.loc, st₁.sto ++ [.list vs]⟩ := ⟨Ev.list h.h hl⟩
theorem B.tuple {es : List Expr} {k : Nat} {p : Pos} {vs : List PV} (h : BEvs X es st vs st₁) (hl : vs.length ≤ sizeLine) : BEv X (.Tuple es k p) st (.tup vs) st₁ := ⟨Ev.tuple h.h hl⟩
theorem B.nil : BEvs X [] st [] st := ⟨Evs.nil⟩
theorem B.cons {e : Expr} {rest : List Expr} {v : PV} {vs : List PV} (h : BEv X e st v st₁) (hr : BEvs X rest st₁ vs st₂) (he : ∀ env, starEach (e :: rest) env = (false, eval e env) :: starEach rest env) : BEvs X (e :: rest) st (v :: vs) st₂ := ⟨Evs.cons h.h hr.h he⟩
theorem B.cast {e : Expr} {a b : PV} (h : BEv X e st a st') (hb : a = b) : BEv X e st b st' := hb ▸ h
theorem B.tcast {e : Expr} {b c : Bool} (h : BTst X e st b st') (hb : b = c) : BTst X e st c st' := hb ▸ h
theorem B.assign {k : Nat} (ok : X.Ok k) {x : Str} {px p : Pos} {e : Expr} {v : PV} {l' : List (Str × PV)} (h : BEv X e st v st₁) (hk : X.env.kindOf x = some .local) (hp : Put st₁.loc x v l') (hs : swapsWith e (some (.Name x px)) p.line X.env = pure false) :
    BEx X (.Assign [.Name x px] e p) st .next ⟨l', st₁.sto⟩ := ⟨Ex.assign ok h.h hk hp hs⟩
theorem B.aug {k : Nat} (ok : X.Ok k) {x : Str} {px p : Pos} {op : Operator} {e : Expr} {a b v : PV} {l' : List (Str × PV)} (hk : X.env.kindOf x = some .local) (hl : Look st.loc x a) (h : BEv X e st b st₁) (ho : Op2 X (inplaceOp op) a b st₁ v st₂) (hp : Put st₂.loc x v l') :
    BEx X (.AugAssign (.Name x px) op e p) st .next ⟨l', st₂.sto⟩ := ⟨Ex.aug ok hk hl h.h ho hp⟩
theorem B.append {k : Nat} (ok : X.Ok k) {o e : Expr} {apos p q : Pos} {n : Nat} {xs ys : List PV} {v : PV} {sto' : List PO} (ho : BEv X o st (.loc n) st₁) (a1 : At st₁.sto n (.list ys)) (he : BEvs X [e] st₁ [v] st₂) (ha : At st₂.sto n (.list xs)) (hs : SetAt st₂.sto n (.list (xs ++ [v])) sto')
    (hl : xs.length ≤ sizeLine) (hx : Plain [e]) (hbase : attributeBase o "append" X.env (eval o X.env) = eval o X.env) (hline : (apos.endLine == p.line) = true) (hsw : swapsWith (.Call (.Attribute o "append" apos) [e] [] p) Option.none q.line X.env = pure false) :
    BEx X (.Expr (.Call (.Attribute o "append" apos) [e] [] p) q) st .next ⟨st₂.loc, sto'⟩ := ⟨Ex.append ok ho.h a1 he.h ha hs hl hx hbase hline hsw⟩
theorem B.setIt {o i e : Expr} {tp p : Pos} {ov iv v : PV} (he : BEv X e st v st₁) (ho : BEv X o st₁ ov st₂) (hi : BEv X i st₂ iv st₃) (hs : SetIt X ov iv v st₃ st') (hw : swapsWith e (some (.Subscript o i tp)) p.line X.env = pure false) :
    BEx X (.Assign [.Subscript o i tp] e p) st .next st' := ⟨Ex.setIt he.h ho.h hi.h hs hw⟩
theorem B.ret {e : Expr} {p : Pos} {v : PV} (h : BEv X e st v st₁) : BEx X (.Return (some e) p) st (.ret v) st₁ := ⟨Ex.ret h.h⟩
theorem B.rets {c : Stmt} {cs : List Stmt} {v : PV} (h : BEx X c st (.ret v) st₁) : BExs X (c :: cs) st (.ret v) st₁ := ⟨Exs.ret h.h⟩
theorem B.if_t {t : Expr} {b o : List Stmt} {p : Pos} {f : PFlow} (ht : BTst X t st true st₁) (h : BExs X b st₁ f st₂) : BEx X (.If t b o p) st f st₂ := ⟨Ex.if_t ht.h h.h⟩
theorem B.if_f {t : Expr} {b o : List Stmt} {p : Pos} {f : PFlow} (ht : BTst X t st false st₁) (h : BExs X o st₁ f st₂) : BEx X (.If t b o p) st f st₂ := ⟨Ex.if_f ht.h h.h⟩
theorem B.snil : BExs X [] st .next st := ⟨Exs.nil⟩
theorem B.scons {c : Stmt} {cs : List Stmt} {f : PFlow} (h : BEx X c st .next st₁) (hr : BExs X cs st₁ f st₂) : BExs X (c :: cs) st f st₂ := ⟨Exs.cons h.h hr.h⟩
theorem B.one {c : Stmt} (h : BEx X c st .next st₁) : BExs X [c] st .next st₁ := ⟨Exs.one' h.h⟩
theorem B.eto {c : Expr} {v : PV} (h : BEv X c st v st₁) (e : st₁ = st') : BEv X c st v st' := e ▸ h
theorem B.xto {c : Stmt} {f : PFlow} (h : BEx X c st f st₁) (e : st₁ = st') : BEx X c st f st' := e ▸ h
theorem B.andT {x : Expr} {rest : List Expr} {p : Pos} {c : Bool} (h : BTst X x st true st₁) (hr : BTst X (.BoolOp .And rest p) st₁ c st₂) : BTst X (.BoolOp .And (x :: rest) p) st c st₂ := ⟨Tst.and_t h.h hr.h⟩
theorem B.andF {x : Expr} {rest : List Expr} {p : Pos} (h : BTst X x st false st₁) : BTst X (.BoolOp .And (x :: rest) p) st false st₁ := ⟨Tst.and_f h.h⟩
theorem B.andN {p : Pos} : BTst X (.BoolOp .And [] p) st true st := ⟨Tst.and_nil⟩
/-- a statement, and its garbage is forgotten -/
theorem B.stepG (sto' : List PO) {c : Stmt} {cs : List Stmt} {f : PFlow} {l l₁ : List (Str × PV)} {sto sto₁ : List PO} (h : BEx X c ⟨l, sto⟩ .next ⟨l₁, sto₁⟩) (hg : Pre sto' sto₁) (hi : (l₁.all fun p => p.2.inS sto'.length) = true) (hc : (sto'.all (PO.inS sto'.length)) = true) (hk : sto.length ≤ sto'.length)
    (hr : BExs X cs ⟨l₁, sto'⟩ f st') : BExs X (c :: cs) ⟨l, sto⟩ f st' := by
  obtain ⟨g, e⟩ := hg.app
  exact ⟨Exs.cons (Ex.cut (st₂ := ⟨l₁, sto'⟩) (f := .next) h.h ⟨fun x v e => e, hi, by subst e; simp, hc⟩ hk) hr.h⟩
theorem B.tstG (sto' : List PO) {e : Expr} {v : Bool} {l l₁ : List (Str × PV)} {sto sto₁ : List PO} (h : BTst X e ⟨l, sto⟩ v ⟨l₁, sto₁⟩) (hg : Pre sto' sto₁) (hi : (l₁.all fun p => p.2.inS sto'.length) = true) (hc : (sto'.all (PO.inS sto'.length)) = true) (hk : sto.length ≤ sto'.length) :
    BTst X e ⟨l, sto⟩ v ⟨l₁, sto'⟩ := by
  obtain ⟨g, e⟩ := hg.app
  exact ⟨Tst.cut (st₂ := ⟨l₁, sto'⟩) h.h ⟨fun x v e => e, hi, by subst e; simp, hc⟩ hk⟩
theorem B.forS {k : Nat} (ok : X.Ok k) {x : Str} {px p : Pos} {iter : Expr} {body : List Stmt} {items : List PV} {depS : PSt → Prop} {f : PFlow} (hk : X.env.kindOf x = some .local)
    (he : Src X iter st items depS st₁) (r : Nat) (S : Nat → PSt) (h0 : S 0 = st₁)
    (turn : ∀ i, i < r → ∃ v l', items[i]? = some v ∧ depS (S i) ∧ Put (S i).loc x v l' ∧ BExs X body ⟨l', (S i).sto⟩ .next (S (i + 1)))
    (fin : (f = .next ∧ st' = S r ∧ r = items.length ∧ depS (S r)) ∨ (∃ v l' w, items[r]? = some v ∧ depS (S r) ∧ Put (S r).loc x v l' ∧ f = .ret w ∧ BExs X body ⟨l', (S r).sto⟩ (.ret w) st'))
    (hf : ∀ x, foldedSetIterable iter X.env x = pure x) : BEx X (.For (.Name x px) iter body [] p) st f st' :=
  ⟨Ex.forS ok hk he r S h0 (fun i hi => let ⟨v, l', a, b, c, d⟩ := turn i hi; ⟨v, l', a, b, c, d.h⟩) (fin.imp id fun ⟨v, l', w, a, b, c, d, e⟩ => ⟨v, l', w, a, b, c, d, e.h⟩) hf⟩
theorem B.while {test : Expr} {body : List Stmt} {p : Pos} (n : Nat) (S : Nat → PSt) {st' : PSt}
    (turn : ∀ i, i < n → ∃ m, BTst X test (S i) true m ∧ BExs X body m .next (S (i + 1)))
    (stop : BTst X test (S n) false st') : BEx X (.While test body [] p) (S 0) .next st' :=
  ⟨Ex.while n S (fun i hi => let ⟨m, a, b⟩ := turn i hi; ⟨m, a.h, b.h⟩) stop.h⟩
end

section
variable {X : Cx} {st st₁ st₂ st₃ st₄ st' : PSt}
theorem B.assignTup {elts : List Expr} {k : Nat} {tp p : Pos} {e : Expr} {v : PV} (h : BEv X e st v st₁) (ha : As X (.Tuple elts k tp) v st₁ st₂) (hs : swapsWithSole [.Tuple elts k tp] e p.line X.env = pure false) (hw : swappedStores [.Tuple elts k tp] e X.env = pure Option.none) :
    BEx X (.Assign [.Tuple elts k tp] e p) st .next st₂ := ⟨Ex.assignTup h.h ha hs hw⟩
theorem B.tval {e : Expr} {a : PV} {b : Bool} (he : BEv X e st a st₁) (ht : Truth X a st₁ b st₂) (hi : isTrue e X.env (eval e X.env) = (do let v ← eval e X.env; standAt e.pos; holding [v] (truthy v))) : BTst X e st b st₂ := ⟨Tst.val he.h ht hi⟩
end

section
variable {X : Cx} {st st₁ st₂ st₃ st₄ st' : PSt}
-- tuples: joined, and cut
theorem VR.tupAt {μ : Mem} {s : Shared} (g : GoodE X μ st s) {v : Value} {xs : List PV} (h : VR μ v (.tup xs)) : ∃ a vs, v = .ref a ∧ s.heap.get? a = some { cls := .type "tuple", dict := Option.none, data := .seq vs.toArray 0, slots := #[] } ∧ VRs μ vs xs := by
  cases h with
  | tup a vs xs hm hs =>
    obtain ⟨m, objs, G⟩ := g
    exact ⟨a, vs, rfl, (G.news _ (List.mem_append_right _ hm)).1, hs⟩
theorem call_add_tup {xs ys : List PV} (hl : xs.length + ys.length ≤ sizeLine) {μ : Mem} {s : Shared} {x y : Value} (g : GoodE X μ st s) (hx : VR μ x (.tup xs)) (hy : VR μ y (.tup ys)) :
    W X (call (.builtin "tuple.__add__") [x, y] []) (Post X μ s (fun μ r => VR μ r (.tup (xs ++ ys))) st) s := by
  obtain ⟨a, vs, rfl, ha, hs⟩ := hx.tupAt g
  obtain ⟨b, us, rfl, hb, hu⟩ := hy.tupAt g
  have e1 := hs.length
  have e2 := hu.length
  by_cases h0 : vs.toArray.isEmpty = true
  · refine call_meets F.slot_tuple_add ⟨_, ha, rfl⟩ F.entry_tuple_add (F.args_tuple_add_2 _ _) (PyProof.Rows.tuple_addW0 a b vs.toArray us.toArray 0 0 Option.none Option.none #[] #[] h0) ⟨ha, hb, ?_⟩
    have : xs = [] := by
      have : vs = [] := by simpa using h0
      subst this; cases hs; rfl
    subst this
    exact .val0 g hy
  · by_cases h1 : us.toArray.isEmpty = true
    · refine call_meets F.slot_tuple_add ⟨_, ha, rfl⟩ F.entry_tuple_add (F.args_tuple_add_2 _ _) (PyProof.Rows.tuple_addW1 a b vs.toArray us.toArray 0 0 Option.none Option.none #[] #[] h0 h1) ⟨ha, hb, ?_⟩
      have : ys = [] := by
        have : us = [] := by simpa using h1
        subst this; cases hu; rfl
      subst this
      rw [List.append_nil]
      exact .val0 g hx
    · refine call_meets F.slot_tuple_add ⟨_, ha, rfl⟩ F.entry_tuple_add (F.args_tuple_add_2 _ _) (PyProof.Rows.tuple_addW2 a b vs.toArray us.toArray 0 0 Option.none Option.none #[] #[] h0 h1 (by simp only [List.size_toArray]; grind)) ⟨ha, hb, ?_⟩
      have e : vs.toArray ++ us.toArray = (vs ++ us).toArray := by simp
      rw [e]
      exact newTupP g (hs.append hu) s.toks
theorem tup_type {μ : Mem} {s : Shared} (g : GoodE X μ st s) {x : Value} {xs : List PV} (hx : VR μ x (.tup xs)) : s.TypeIs x "tuple" := by
  obtain ⟨a, vs, rfl, ha, _⟩ := hx.tupAt g
  exact ⟨_, ha, rfl⟩
theorem Op.add_tup {xs ys : List PV} (hl : xs.length + ys.length ≤ sizeLine) : Op2 X (binaryOp .Add) (.tup xs) (.tup ys) st (.tup (xs ++ ys)) st := fun μ s x y g hx hy =>
  wpAny_binaryOp_concat (tup_type g hx) (tup_type g hy) noFill_tuple_add seq_tuple_add (call_add_tup hl g hx hy)
theorem noI_tuple_add : typeLookup (.type "tuple") (dunderI "add") = pure none := by rw [typeLookup_type, builtinLookup_eq_fast]; kernel_rfl
theorem Op.iadd_tup {xs ys : List PV} (hl : xs.length + ys.length ≤ sizeLine) : Op2 X (inplaceOp .Add) (.tup xs) (.tup ys) st (.tup (xs ++ ys)) st := fun μ s x y g hx hy =>
  PyProof.Rows.inplaceOp_concat (tup_type g hx) (tup_type g hy) noI_tuple_add noFill_tuple_add seq_tuple_add (call_add_tup hl g hx hy)
theorem Cut.tup1 {x : PV} {xs : List PV} (hl : xs.length + 1 ≤ sizeLine) : Cut X (.tup (x :: xs)) (some 1) none st (.tup xs) st := fun μ s v sl vl vh g hx pl ph hs => by
  obtain ⟨a, vs, rfl, ha, hv⟩ := hx.tupAt g
  obtain ⟨q, rfl, hq⟩ := partValue_of pl
  obtain ⟨r, rfl, hr⟩ := partValue_of ph
  cases r with
  | some r => simp at hr
  | none =>
  cases q with
  | none => simp at hq
  | some q =>
    obtain ⟨i, u⟩ := q
    simp at hq
    subst hq
    have ht : IsTup s.heap a vs.toArray := ⟨_, ha, rfl, _, rfl⟩
    have hlen := hv.length
    simp only [List.length_cons] at hlen
    refine ⟨"tuple", _, ht.typeIs, slot_tuple_getitem.lookup, PyProof.Rows.getItem_tuple_from (a := 1) ht hs (Nat.le_refl _) (by simp only [List.size_toArray]; grind) ?_ (by simp only [List.size_toArray]; grind)⟩
    have : VRs μ (vs.drop 1) xs := by have := hv.drop 1; simpa using this
    exact newTupP g this s.toks
-- divmod
theorem Calls.divmod {a b : Int} (hb : b ≠ 0) (hp : Builtin.divisionGoesByPylong a b = false) : Calls X (.glob (.builtin "divmod")) [.int a, .int b] st (.tup [.int (a.fdiv b), .int (a.fmod b)]) st := calls2 fun μ s x y z g hf hy hz => by
  cases hf; cases hy; cases hz
  refine PyProof.Rows.divmod_int hb ?_ (.inl hp)
  exact newTupP g (.cons _ _ _ _ (.int _ _) (.cons _ _ _ _ (.int _ _) .nil)) (s.toks + 1 + 1)
-- the last of a list
theorem Calls.pop {n : Nat} {xs : List PV} {v : PV} (hp : st.sto[n]? = some (.list (xs ++ [v]))) (hl : xs.length + 1 ≤ sizeLine) : Calls X (.glob (.builtin "list.pop")) [.loc n] st v ⟨st.loc, st.sto.set n (.list xs)⟩ := fun μ s f ys g hf hy => by
  cases hf
  cases hy with
  | cons w _ _ _ hw hy =>
    cases hy
    cases hw with
    | loc n a hφ =>
      obtain ⟨m, objs, G⟩ := g
      obtain ⟨o, h1, hr, ho, hm⟩ := G.obj hφ hp
      cases hr with
      | list vs k xs' hs =>
        have hlen := hs.length
        rw [List.length_append, List.length_singleton] at hlen
        obtain ⟨y, hy, hvy⟩ := hs.get xs.length v (by simp)
        have hvs : vs = vs.take xs.length ++ [y] := by
          have h1 : vs.take (xs.length + 1) = vs := List.take_of_length_le (by grind)
          rw [List.take_add_one, hy] at h1
          exact h1.symm
        refine Copied.pop_at ho (y := y) (by simp only [List.size_toArray, hlen, List.getElem?_toArray]; exact hy) (fun h' hsb ho' => ?_) (by simp only [List.size_toArray]; grind)
        have e : vs.toArray.pop = (vs.take xs.length).toArray := by
          have : vs.toArray.pop = vs.dropLast.toArray := by simp
          have h2 : vs.dropLast = vs.take xs.length := by
            conv => lhs; rw [hvs]
            rw [List.dropLast_concat]
          rw [this, h2]
        rw [e] at ho'
        have hk : VRs μ (vs.take xs.length) xs := by have := hs.take xs.length; simpa using this
        exact .intro hvy ⟨m, _, G.upd hφ (.list _ (k + 1) _ hk) hsb ho'⟩ (.mk s h' s.toks)
/-- o.pop() -/
theorem B.pop {k : Nat} (ok : X.Ok k) {o : Expr} {apos p : Pos} {n : Nat} {xs : List PV} {v : PV} {sto' : List PO} (ho : BEv X o st (.loc n) st₁) (ha : At st₁.sto n (.list (xs ++ [v]))) (hs : SetAt st₁.sto n (.list xs) sto')
    (hl : xs.length + 1 ≤ sizeLine) (hbase : attributeBase o "pop" X.env (eval o X.env) = eval o X.env) (hline : (apos.endLine == p.line) = true) : BEv X (.Call (.Attribute o "pop" apos) [] [] p) st v ⟨st₁.loc, sto'⟩ :=
  ⟨by rw [hs.eq.1]; exact Ev.meth0 ok ho.h (meth_list ha.get F.slot_list_pop F.type_list_pop) (Calls.pop ha.get hl) hbase hline⟩
/-- a call of no arguments -/
theorem B.call0 {k : Nat} (ok : X.Ok k) {x : Str} {np p : Pos} {f : Value} {v : PV} (hf : BEv X (.Name x np) st (.glob f) st₁) (hk : Callee X f) (hc : Calls X (.glob f) [] st₁ v st₂) : BEv X (.Call (.Name x np) [] [] p) st v st₂ := ⟨fun μ s g =>
  PyProof.Rows.Call_Name rfl ((hf.h μ s g).post fun fv μ₁ s₁ le₁ hfv g₁ e₁ => by
    cases hfv
    have h1 := hc μ₁ s₁ _ _ g₁ (.glob _) .nil
    refine W.trans (le := le₁) (e := e₁) ?_
    rcases hk with ⟨id, rfl⟩ | ⟨T, rfl⟩ | ⟨a, rfl, o, fd, hl, hd⟩
    · exact callWith_builtin rfl (PyProof.Rows.evalArgs_none h1)
    · exact PyProof.Rows.callWith_type rfl (PyProof.Rows.evalArgs_none h1)
    · exact callWith_function (o := o) (fd := fd) (PyProof.Rows.evalArgs_none ⟨⟨g₁.kin ok _ _ hl, hd⟩, h1⟩))⟩
end

section
variable {X : Cx} {st st₁ st₂ st₃ st₄ st' : PSt}
-- for a, b in a list of tuples
theorem list_turnT {k : Nat} (ok : X.Ok k) {I ax : Addr} {n i : Nat} {xs : List PV} {elts : List Expr} {kk : Nat} {tp : Pos} {ws : List PV} {m : PSt} (hp : st.sto[n]? = some (.list xs)) (hv : xs[i]? = some (.tup ws)) (h : As X (.Tuple elts kk tp) (.tup ws) st m) :
    Turn X (.Tuple elts kk tp) I (ListIt I ax) (fun μ => μ.φ[n]? = some ax) i st m := fun μ s hs hd hI g =>
  ((isIt_list ok.hh).step i _ st hv hp μ s hs hd hI g).mono fun r s₁ ⟨y, μ', hs', e, le, hI', hvr, g', sm⟩ => by
    refine ⟨y, e, ?_⟩
    obtain ⟨ob, rfl, hc, hdat⟩ := id hI'
    have ho : s₁.heap.get? I = some ob := g'.at (p := (I, ob)) (by simp)
    obtain ⟨t, vs, rfl, _, _⟩ := hvr.tupAt g'
    refine wpAny_letOwnedTupleGo_listiter ⟨ob, ho, hc, hdat⟩ ?_
    refine (h _ s₁ _ g' hvr).mono fun _ s₂ ⟨μ₂, le₂, _, g₂, sm₂⟩ => ?_
    obtain ⟨μ₃, le₃, g₃⟩ := g'.split le₂ g₂
    exact ⟨μ₃, [(I, ob)], le.trans le₃, ⟨ob, rfl, hc, hdat⟩, g₃, sm.trans sm₂⟩
theorem B.forT {k : Nat} (ok : X.Ok k) {elts : List Expr} {kk : Nat} {tp p : Pos} {iter : Expr} {body : List Stmt} {n : Nat} {xs : List PV} (he : BEv X iter st (.loc n) st₁) (hl : At st₁.sto n (.list xs)) (S : Nat → PSt) (h0 : S 0 = st₁)
    (turn : ∀ i, i < xs.length → ∃ ws m, xs[i]? = some (.tup ws) ∧ (S i).sto[n]? = some (.list xs) ∧ As X (.Tuple elts kk tp) (.tup ws) (S i) m ∧ BExs X body m .next (S (i + 1)))
    (hend : (S xs.length).sto[n]? = some (.list xs)) (hf : ∀ x, foldedSetIterable iter X.env x = pure x) : BEx X (.For (.Tuple elts kk tp) iter body [] p) st .next (S xs.length) := ⟨fun μ s g => by
  refine wpAny_For ?_ hf
  refine (he.h μ s g).post fun y μ₁ s₁ le₁ hy g₁ e₁ => ?_
  cases hy with
  | loc n a hφ =>
    obtain ⟨vs, hlv, hvs⟩ := g₁.list hφ hl.get
    refine wpAny_pyIter_list hlv ?_
    obtain ⟨m, objs, G⟩ := g₁
    have hI : IsIt X s₁.heap.objs.size (ListIt s₁.heap.objs.size a) (fun μ => μ.φ[n]? = some a) xs (fun st => st.sto[n]? = some (.list xs)) := isIt_list ok.hh
    refine codeAny_mono (for_core (E := fun _ _ => False) (target := .Tuple elts kk tp) (body := body) hI.dm xs.length S (f := .next) (st' := S xs.length) (fun i hi => ?_) (.inl ⟨rfl, rfl, hI.done _ hend⟩) hφ (hs := [(s₁.heap.objs.size, { cls := .type "list_iterator", data := .fields #[.ref a, .int 0 0] })]) ⟨_, rfl, rfl, rfl⟩ (h0 ▸ ⟨m, objs, G.hide _ rfl _⟩)) fun rs s' h => ?_
    · obtain ⟨ws, m, hv, hds, ha, hb⟩ := turn i hi
      exact ⟨_, list_turnT ok hds hv ha, hb.h⟩
    · cases rs with
      | ok fl => exact h.trans le₁ (e₁.trans (.mk _ _ _))
      | error e => exact h.elim⟩
theorem B.forEnum {k : Nat} (ok : X.Ok k) {xi xv : Str} {pi pv tp p np cp : Pos} {kk : Nat} {arg : Expr} {body : List Stmt} {n : Nat} {xs : List PV} (hki : X.env.kindOf xi = some .local) (hkv : X.env.kindOf xv = some .local)
    (hf : BEv X (.Name "enumerate" np) st (.glob (.type "enumerate")) st) (ha : BEv X arg st (.loc n) st₁) (hx : Plain [arg]) (hp : At st₁.sto n (.list xs)) (S : Nat → PSt) (h0 : S 0 = st₁)
    (turn : ∀ i, i < xs.length → ∃ v l' l'', xs[i]? = some v ∧ (S i).sto[n]? = some (.list xs) ∧ Put (S i).loc xi (.int i) l' ∧ Put l' xv v l'' ∧ BExs X body ⟨l'', (S i).sto⟩ .next (S (i + 1)))
    (hend : (S xs.length).sto[n]? = some (.list xs)) (hfs : ∀ x, foldedSetIterable (.Call (.Name "enumerate" np) [arg] [] cp) X.env x = pure x) :
    BEx X (.For (.Tuple [.Name xi pi, .Name xv pv] kk tp) (.Call (.Name "enumerate" np) [arg] [] cp) body [] p) st .next (S xs.length) :=
  ⟨Ex.forEnum ok hki hkv hf.h ha.h hx hp.get S h0 (fun i hi => let ⟨v, l', l'', a, b, c, d, e⟩ := turn i hi; ⟨v, l', l'', a, b, c, d, e.h⟩) hend hfs⟩
theorem B.augItem {o i e : Expr} {tp p : Pos} {op : Operator} {ov iv old v new : PV} (ho : BEv X o st ov st₁) (hi : BEv X i st₁ iv st₂) (hg : Item X ov iv st₂ old st₂) (he : BEv X e st₂ v st₃) (hop : Op2 X (inplaceOp op) old v st₃ new st₄) (hs : SetIt X ov iv new st₄ st')
    (ha : ∀ ov iv new, augStore i ov iv new = (do holding [new, ov, iv] (setItem ov iv new); release [new, ov, iv] []; pure .next)) : BEx X (.AugAssign (.Subscript o i tp) op e p) st .next st' := ⟨Ex.augItem ho.h hi.h hg he.h hop hs ha⟩
theorem SetIt.to {o i v : PV} (h : SetIt X o i v st st₁) (e : st₁ = st') : SetIt X o i v st st' := e ▸ h
/-- o.split(e), cut at one sign -/
theorem Calls.split {l sep : List Nat} {ls : List (List Nat)} (h1 : (decide ((T l).length < (T sep).length) || decide (PySem.Builtin.Str.strKind (T l) < PySem.Builtin.Str.strKind (T sep))) = false) (hy : ((T sep).length == 0) = false) (hf : (PySem.Builtin.Str.occurrences (T l) (T sep) 0 (T l).length ((T l).length + 1)).isEmpty = false)
    (hx : l.length ≤ sizeLine) (hp : PySem.Builtin.Str.partsBetween (T l) (PySem.Builtin.Str.occurrences (T l) (T sep) 0 (T l).length ((T l).length + 1)) (T sep).length = ls.map T) (hn : ls.length ≤ sizeLine) :
    Calls X (.glob (.builtin "str.split")) [.str l, .str sep] st (.loc st.sto.length) ⟨st.loc, st.sto ++ [.list (ls.map .str)]⟩ := calls2 fun μ s x y z g hf' hy' hz' => by
  cases hf'; cases hy'; cases hz'
  rename_i t u
  refine call_meets F.slot_str_split (typeIs_str _ _ _) F.entry_str_split (F.args_str_split_2 _ _) (meets_str_split_sep (T l) (T sep) t u h1 hy hf (by rw [T_len]; exact hx) (by rw [hp, List.length_map]; exact hn)) ?_
  rw [hp]
  have hs : ∀ (ls : List (List Nat)) (tk : Nat), VRs μ (strsFrom tk (ls.map T)) (ls.map .str) := by
    intro ls
    induction ls with
    | nil => intro tk; exact .nil
    | cons a r ih => intro tk; exact .cons _ _ _ _ (.str _ _) (ih (tk + 1))
  exact newListP g (hs ls s.toks) (s.toks + (ls.map T).length) 0
end

-- a dict comprehension over enumerate(list)
section
variable {prog : Program} {w : World} {A : Around} {R : Result → Shared → Prop} {s : Shared}
theorem codeAny_dictLoop {kx vx target iter : Expr} {scope : Scope} {pos : Pos} {it : Value} {D : Addr} {env : Env} (I : Nat → Shared → Prop)
    (turn : ∀ n s, I n s → wpAny (model prog w) A (pyNext it) (fun r s₁ => match r with
      | none => R (.ok .next) s₁
      | some v => wpAny (model prog w) A (letOwnedTupleGo target it v) (fun _ s₁' => wpAny (model prog w) A (assign target env v) (fun _ s₂ =>
          wpAny (model prog w) A (eval kx env) (fun kv s₄ => wpAny (model prog w) A (eval vx env) (fun vv s₅ =>
              wpAny (model prog w) A (dictSet D kv vv) (fun _ s₆ => ∃ m, m < n ∧ I m s₆) (notedBy (model prog w) A env fun e s' => R (.error e) s') s₅) (notedBy (model prog w) A env fun e s' => R (.error e) s') s₄) (notedBy (model prog w) A env fun e s' => R (.error e) s') s₂)
            (notedBy (model prog w) A env fun e s' => R (.error e) s') s₁') (notedBy (model prog w) A env fun e s' => R (.error e) s') s₁) (notedBy (model prog w) A env fun e s' => R (.error e) s') s)
    (n : Nat) (h : I n s) :
    codeAny (model prog w) A (.compLoop (.DictComp kx vx [⟨target, iter, [], 0⟩] scope pos) 0 it (.ref D) env) R s := by
  refine codeAny_loop rfl I (fun n s hI => ?_) n h
  show wpAny _ A ((compTurn (.DictComp kx vx [⟨target, iter, [], 0⟩] scope pos) 0 it (.ref D) env).onRaise (fun x => do noteFrame x env; theTreesLotGoes x)) _ _ s
  refine wpAny_noted ?_
  rw [compTurn_dict]
  refine wpAny_bind (wpAny_standAt (wpAny_bind (wpAny_mono (turn n s hI) (fun r s₁ h₁ => ?_) fun _ _ h' => h')))
  cases r with
  | none => exact wpAny_pure h₁
  | some v =>
    refine wpAny_bind (wpAny_mono h₁ (fun _ s₁' h₁' => ?_) fun _ _ h' => h')
    refine wpAny_bind (wpAny_mono h₁' (fun _ s₂ h₂ => wpAny_bind (wpAny_tests_nil (env := env) ?_)) fun _ _ h' => h')
    exact wpAny_bind (wpAny_bind (wpAny_mono h₂ (fun kv s₄ h₄ => wpAny_bind (wpAny_holding (wpAny_mono h₄ (fun vv s₅ h₅ => wpAny_bind (wpAny_standAt (wpAny_holding (wpAny_mono h₅ (fun _ s₆ h₆ => wpAny_pure ⟨rfl, h₆⟩) fun _ _ h' => h')))) fun _ _ h' => h'))) fun _ _ h' => h'))
end
noncomputable def dputs (key : Nat → List Nat) (val : Nat → PV) : Nat → List (List Nat × PV)
  | 0 => []
  | i + 1 => dput (dputs key val i) (key i) (val i)
theorem dput_len (ps : List (List Nat × PV)) (l : List Nat) (v : PV) : (dput ps l v).length ≤ ps.length + 1 := by unfold dput; split <;> simp
theorem dputs_len (key : Nat → List Nat) (val : Nat → PV) : ∀ i, (dputs key val i).length ≤ i
  | 0 => Nat.le_refl _
  | i + 1 => Nat.le_trans (dput_len _ _ _) (Nat.succ_le_succ (dputs_len key val i))
section
variable {X : Cx} {st st₁ st₂ st₃ st' : PSt}
theorem Ev.dictEnum {k : Nat} (ok : X.Ok k) {kx vx arg : Expr} {xi xv : Str} {pi pv tp np cp pos : Pos} {kk n : Nat} {scope : Scope} {xs : List PV}
    (hf : Ev X (.Name "enumerate" np) st (.glob (.type "enumerate")) st) (ha : Ev X arg st (.loc n) st₁) (hx : Plain [arg]) (hp : st₁.sto[n]? = some (.list xs))
    (hfree : ∀ y ∈ scope.names, y.2 ≠ .free) (hcell : ∀ y ∈ scope.names, y.2 ≠ .cell) (hkind : scope.kind = .function) (hnames : ∀ y ∈ scope.names, y.2 = .local → scope.names.lookup y.1 = some .local)
    (hxi : scope.names.lookup xi = some .local) (hxv : scope.names.lookup xv = some .local) (hne : xv ≠ xi) (hlen : xs.length ≤ sizeLine) (key : Nat → List Nat) (val : Nat → PV)
    (body : ∀ X' : Cx, X'.Ok k → X.Sub X' → X'.env = compEnv scope X'.L X.env → ∀ (i : Nat) (item : PV), xs[i]? = some item → ∀ ps,
      Ev X' kx ⟨[(xi, .int i), (xv, item)], st₁.sto ++ [.dictS ps]⟩ (.str (key i)) ⟨[(xi, .int i), (xv, item)], st₁.sto ++ [.dictS ps]⟩ ∧
      Ev X' vx ⟨[(xi, .int i), (xv, item)], st₁.sto ++ [.dictS ps]⟩ (val i) ⟨[(xi, .int i), (xv, item)], st₁.sto ++ [.dictS ps]⟩)
    (hfs : ∀ x, foldedSetIterable (.Call (.Name "enumerate" np) [arg] [] cp) X.env x = pure x) :
    Ev X (.DictComp kx vx [⟨.Tuple [.Name xi pi, .Name xv pv] kk tp, .Call (.Name "enumerate" np) [arg] [] cp, [], 0⟩] scope pos) st (.loc st₁.sto.length) ⟨st₁.loc, st₁.sto ++ [.dictS (dputs key val xs.length)]⟩ := fun μ s g => by
  rw [arm_eval_DictComp]
  refine wpAny_comprehension rfl hfs hfree hkind hnames ?_
  refine evalCall1 hf (.inr ⟨_, rfl⟩) hx g fun μ₁ s₁ le g₁ sm => (ha μ₁ s₁ g₁).post fun y μ₂ s₂ le₂ hy g₂ sm₂ => ?_
  cases hy with
  | loc n a hφ =>
  refine hG fun Z z => ?_; obtain ⟨vs, hl, hvs⟩ := g₂.list hφ hp; refine z ?_; clear z
  refine call_enumerate_list hl fun h' he hit hz hk => ?_
  refine wpAny_pyIter_enum he ?_
  refine hG fun Z z => ?_; obtain ⟨m, objs, G⟩ := g₂; refine z ?_; clear z
  refine hG fun Z z => ?_; obtain ⟨ob, hob, hc, hd⟩ := hit; refine z ?_; clear z
  have G₃ := G.gotHid (h' := h') (hs := [(s₂.heap.objs.size + 1, enObj s₂.heap.objs.size 0 .none), (s₂.heap.objs.size, ob)]) hk (fun p hp => by
    simp only [List.mem_cons, List.not_mem_nil, or_false] at hp
    rcases hp with rfl | rfl
    · exact he
    · exact hob) (fun p hp => by
    simp only [List.mem_cons, List.not_mem_nil, or_false] at hp
    rcases hp with rfl | rfl
    · exact Nat.le_succ _
    · exact Nat.le_refl _) (by simp) s₂.toks
  have h00 : EnumIt (s₂.heap.objs.size + 1) s₂.heap.objs.size a 0 [(s₂.heap.objs.size + 1, enObj s₂.heap.objs.size 0 .none), (s₂.heap.objs.size, ob)] := ⟨ob, .none, rfl, hc, hd⟩
  generalize hE : s₂.heap.objs.size + 1 = e at G₃ h00 ⊢
  generalize hI0 : s₂.heap.objs.size = it at G₃ h00 ⊢
  generalize hHs : ([(e, enObj it 0 .none), (it, ob)] : List (Addr × Obj)) = hs at G₃ h00
  have nt := h00.noTup
  refine wpAny_newObj_type (wpAny_newFunctionEnv hcell (by intro y hy; simp at hy) (fun h₁ hns₁ hsb₁ => ?_) hkind)
  have GD := G₃.alloc (o := { cls := .type "dict", dict := Option.none, data := .dict #[] }) rfl (.dictS _ [] [] ⟨#[], 0, ⟨rfl, rfl, rfl⟩, rfl, by intro e he; simp at he, .nil, by simp⟩ .nil) s₂.toks
  dsimp only at hns₁ hsb₁ GD ⊢
  have hCsz : (h'.push { cls := .type "dict", dict := Option.none, data := .dict #[] }).objs.size = h'.objs.size + 1 := Heap.size_push ..
  refine hG fun Z z => ?_; obtain ⟨X', ok', sub, henv, hA, hL, G', back⟩ := GD.enter ok (env' := compEnv scope (h'.push { cls := .type "dict", dict := Option.none, data := .dict #[] }).objs.size X.env) (h₁ := h₁) (fun b o e => hsb₁.extBut b o (Nat.ne_of_lt (Heap.lt_size e)) (Heap.get?_push_of_some _ e)) (Nat.le_refl _) hns₁ rfl hkind ok.hg ok.hb (s₂.toks + ([] : List (Str × Value)).length); refine z ?_; clear z
  have hxki : X'.env.kindOf xi = some .local := by rw [henv]; exact hxi
  have hxkv : X'.env.kindOf xv = some .local := by rw [henv]; exact hxv
  have hlen2 : μ₂.φ.length = st₁.sto.length := G.len
  have hDφ : (⟨μ₂.φ ++ [h'.objs.size], μ₂.hid⟩ : Mem).φ[st₁.sto.length]? = some h'.objs.size := by rw [← hlen2]; simp
  have hpB : ∀ o, (st₁.sto ++ [o])[n]? = some (.list xs) := fun o => by rw [List.getElem?_append_left (List.getElem?_eq_some_iff.mp hp).1]; exact hp
  obtain ⟨R₀, hR₀⟩ : ∃ R₀ : Result → Shared → Prop, R₀ = (fun r s' => match r with | .ok _ => ∃ μ' l', (⟨μ₂.φ ++ [h'.objs.size], μ₂.hid⟩ : Mem).le μ' ∧ GoodE X' μ' ⟨l', st₁.sto ++ [.dictS (dputs key val xs.length)]⟩ s' ∧ Same s₂ s' | .error _ => False) := ⟨_, rfl⟩
  obtain ⟨J, hJ⟩ : ∃ J : Nat → Shared → Prop, J = (fun q s' => ∃ i μ' hs' l', i ≤ xs.length ∧ q = xs.length - i ∧ (⟨μ₂.φ ++ [h'.objs.size], μ₂.hid⟩ : Mem).le μ' ∧ EnumIt e it a i hs' ∧ (l' = [] ∨ ∃ u v, l' = [(xi, u), (xv, v)]) ∧ GoodE X' ⟨μ'.φ, hs' ++ μ'.hid⟩ ⟨l', st₁.sto ++ [.dictS (dputs key val i)]⟩ s' ∧ Same s₂ s') := ⟨_, rfl⟩
  have hloop : codeAny (model X'.prog X'.w) X'.A (.compLoop (.DictComp kx vx [⟨.Tuple [.Name xi pi, .Name xv pv] kk tp, .Call (.Name "enumerate" np) [arg] [] cp, [], 0⟩] scope pos) 0 (.ref e) (.ref h'.objs.size) X'.env)
      R₀
      { s₂ with heap := h₁, toks := s₂.toks + ([] : List (Str × Value)).length } := by
    refine codeAny_dictLoop J ?_ xs.length (by rw [hJ]; exact ⟨0, ⟨μ₂.φ ++ [h'.objs.size], μ₂.hid⟩, hs, [], Nat.zero_le _, rfl, .refl _, h00, .inl rfl, ⟨_, _, G'⟩, .mk _ _ _⟩)
    intro q s' hq0
    rw [hJ] at hq0
    refine hG fun Z z => ?_; obtain ⟨i, μ', hs', l', hi, rfl, le', hIi, hl', g', sm'⟩ := hq0; refine z ?_; clear z
    have hd' : μ'.φ[n]? = some a := le'.φ _ _ ((Mem.le.snoc μ₂ _).φ _ _ hφ)
    by_cases hlt : i < xs.length
    · have hv : xs[i]? = some xs[i] := List.getElem?_eq_getElem hlt
      have hput : ∃ l₁, Put l' xi (.int i) l₁ ∧ Put l₁ xv xs[i] [(xi, .int i), (xv, xs[i])] := by
        rcases hl' with rfl | ⟨u, v, rfl⟩
        · exact ⟨_, .nil _ _, .there _ _ _ _ _ _ hne (.nil _ _)⟩
        · exact ⟨_, .here _ _ _ _, .there _ _ _ _ _ _ hne (.here _ _ _ _)⟩
      refine hG fun Z z => ?_; obtain ⟨l₁, hp1, hp2⟩ := hput; refine z ?_; clear z
      refine wpAny_mono (enum_turn (pi := pi) (pv := pv) (tp := tp) (kk := kk) ok' (hpB _) hv hxki hxkv hp1 hp2 μ' s' hs' hd' hIi g') (fun o s₃ hq => ?_) fun _ _ x => x.elim
      refine hG fun Z z => ?_; obtain ⟨v, rfl, hq⟩ := hq; refine z ?_; clear z
      refine wpAny_mono hq (fun _ s₃' hq => ?_) fun _ _ x => x.elim
      refine wpAny_mono hq (fun _ s₄ hq => ?_) fun _ _ x => x.elim
      refine hG fun Z z => ?_; obtain ⟨μ₃, hs₃, le₃, hI₃, g₄, sm₄⟩ := hq; refine z ?_; clear z
      obtain ⟨hkey, hval⟩ := body X' ok' sub (by rw [henv, hL]) i _ hv (dputs key val i)
      refine wpAny_mono (hkey _ s₄ g₄) (fun kv s₅ hq => ?_) fun _ _ x => x.elim
      refine hG fun Z z => ?_; obtain ⟨μ₅, le₅, hkv, g₅, sm₅⟩ := hq; refine z ?_; clear z
      refine wpAny_mono (hval _ s₅ g₅) (fun vv s₆ hq => ?_) fun _ _ x => x.elim
      refine hG fun Z z => ?_; obtain ⟨μ₆, le₆, hvv, g₆, sm₆⟩ := hq; refine z ?_; clear z
      have leT : (⟨μ₂.φ ++ [h'.objs.size], μ₂.hid⟩ : Mem).le μ₆ := le'.trans (le₃.trans ((⟨fun _ _ h => h, fun _ h => List.mem_append_right _ h⟩ : Mem.le μ₃ ⟨μ₃.φ, hs₃ ++ μ₃.hid⟩).trans (le₅.trans le₆)))
      have hDo : μ₆.φ[st₁.sto.length]? = some h'.objs.size := leT.φ _ _ hDφ
      refine hG fun Z z => ?_; obtain ⟨m₆, objs₆, G₆⟩ := g₆; refine z ?_; clear z
      refine hG fun Z z => ?_; obtain ⟨o, ho, hr, hg, hm⟩ := G₆.obj (n := st₁.sto.length) (p := .dictS (dputs key val i)) hDo (by simp); refine z ?_; clear z
      cases hkv with
      | str l t =>
      cases hr with
      | dictS o kvs ps hdo hkr =>
        refine wpAny_dictSet_pairs (strKind_is _ _ _ _) (Heap.dictOf_iff.mpr ⟨o, hg, hdo⟩) (fun h₇ hd₇ hsb₇ => ?_) (by rw [hkr.length]; exact Nat.le_trans (dputs_len key val i) (Nat.le_trans (Nat.le_of_lt hlt) hlen))
        refine hG fun Z z => ?_; obtain ⟨o', ho', hd''⟩ := Heap.dictOf_iff.mp hd₇; refine z ?_; clear z
        have G₇ := G₆.upd (tk := s₆.toks + 1) hDo (.dictS o' _ _ hd'' (hkr.put T_inj (key i) (hvv))) hsb₇ ho'
        have e1 : (st₁.sto ++ [PO.dictS (dputs key val i)]).set st₁.sto.length (.dictS (dput (dputs key val i) (key i) (val i))) = st₁.sto ++ [.dictS (dputs key val (i + 1))] := by simp [dputs]
        refine hG fun Z z => ?_; obtain ⟨μ₈, le₈, g₈⟩ := g₄.split (le₅.trans le₆) ⟨_, _, e1 ▸ G₇⟩; refine z ?_; clear z
        exact ⟨xs.length - (i + 1), by omega, by rw [hJ]; exact ⟨i + 1, μ₈, hs₃, _, hlt, rfl, le'.trans (le₃.trans le₈), hI₃, .inr ⟨_, _, rfl⟩, g₈, sm'.trans (sm₄.trans (sm₅.trans (sm₆.trans (.mk s₆ h₇ _))))⟩⟩
    · have hi : i = xs.length := by grind
      subst hi
      refine wpAny_mono (enum_done ok' (hpB _) μ' s' hs' hd' hIi g') (fun o s₃ hq => ?_) fun _ _ x => x.elim
      refine hG fun Z z => ?_; obtain ⟨rfl, g₃, sm₃⟩ := hq; refine z ?_; clear z
      rw [hR₀]; exact ⟨μ', l', le', g₃, sm'.trans sm₃⟩
  rw [hR₀, henv, hA, sub.prog, sub.w] at hloop
  have fin : ∀ (r : Result) (s' : Shared), (match r with | .ok _ => ∃ μ' l', (⟨μ₂.φ ++ [h'.objs.size], μ₂.hid⟩ : Mem).le μ' ∧ GoodE X' μ' ⟨l', st₁.sto ++ [.dictS (dputs key val xs.length)]⟩ s' ∧ Same s₂ s' | .error _ => False) →
      ∃ m, s'.heap.Ns (h'.push { cls := .type "dict", dict := Option.none, data := .dict #[] }).objs.size m ∧ ∀ h'', Heap.SameBut (h'.push { cls := .type "dict", dict := Option.none, data := .dict #[] }).objs.size s'.heap h'' →
        match r with | .ok _ => Post X μ s (fun μ a => VR μ a (.loc st₁.sto.length)) ⟨st₁.loc, st₁.sto ++ [.dictS (dputs key val xs.length)]⟩ (.ref h'.objs.size) { s' with heap := h'' } | .error x => W X (passOn "comprehension.variables-let-go" x (compEnv scope (h'.push { cls := .type "dict", dict := Option.none, data := .dict #[] }).objs.size X.env)) (Post X μ s (fun μ a => VR μ a (.loc st₁.sto.length)) ⟨st₁.loc, st₁.sto ++ [.dictS (dputs key val xs.length)]⟩) { s' with heap := h'' } := fun r s' hr => by
    cases r with
    | error x => exact hr.elim
    | ok fl =>
      refine hG fun Z z => ?_; obtain ⟨μ', l', le', ⟨m', objs', G₂⟩, sm'⟩ := hr; refine z ?_; clear z
      have hloc : LocR μ' m st₁.loc := fun x v e => by
        refine hG fun Z z => ?_; obtain ⟨a, h1, h2⟩ := G.loc x v e; refine z ?_; clear z
        exact ⟨a, h1, h2.mono ((Mem.le.snoc μ₂ _).trans le')⟩
      have GX := back μ' _ s' m' objs' hloc G₂
      have hCL : X'.L = (h'.push { cls := .type "dict", dict := Option.none, data := .dict #[] }).objs.size := hL
      refine ⟨m', hCL ▸ G₂.fr.ns, fun h'' hsb => ?_⟩
      have hXL : X.L < h'.objs.size := G₃.fr.ns.lt
      refine ⟨μ', le.trans (le₂.trans ((Mem.le.snoc μ₂ _).trans le')), .loc _ _ (le'.φ _ _ hDφ), ⟨m, objs', GX.sameBut hsb (by rw [hCsz]; exact Nat.ne_of_gt (Nat.lt_succ_of_lt hXL)) ?_ (fun p hp => hCL ▸ (G₂.news p hp).2.1)⟩, sm.trans (sm₂.trans (sm'.trans (.mk s' h'' s'.toks)))⟩
      cases q : X.h₀.get? (h'.push { cls := .type "dict", dict := Option.none, data := .dict #[] }).objs.size with
      | none => rfl
      | some o =>
        have := Heap.lt_size (G₃.fr.keep _ _ q)
        dsimp only at this
        rw [hCsz] at this
        exact absurd this (Nat.not_lt.mpr (Nat.le_succ _))
  have hloop2 := codeAny_mono hloop fin
  refine codeAny_compStart_dict hloop2 ?_
  have gs : GoodE X' ⟨μ₂.φ ++ [h'.objs.size], hs ++ μ₂.hid⟩ ⟨[], st₁.sto ++ [.dictS []]⟩ { s₂ with heap := h₁, toks := s₂.toks + ([] : List (Str × Value)).length } := ⟨_, _, G'⟩
  have he₁ : IsEnum h₁ e it 0 .none := by
    have := gs.at (p := (e, enObj it 0 .none)) (by subst hHs; simp)
    exact this
  exact wpAny_pyIter_enum he₁ hloop2
end

-- the rules again, for parts that leave the state as it was
section
variable {X : Cx} {st st₁ st₂ st₃ st₄ st' : PSt}
theorem Q.and {x : Expr} {rest : List Expr} {p : Pos} {c : Bool} (h : BTst X x st true st) (hr : BTst X (.BoolOp .And rest p) st c st) : BTst X (.BoolOp .And (x :: rest) p) st c st := B.andT h hr
theorem Q.and1 {x : Expr} {p : Pos} (h : BTst X x st true st) : BTst X (.BoolOp .And [x] p) st true st := B.andT h B.andN
theorem Q.andF {x : Expr} {rest : List Expr} {p : Pos} (h : BTst X x st false st) : BTst X (.BoolOp .And (x :: rest) p) st false st := B.andF h
theorem Q.tcmp {l r : Expr} {op : CmpOp} {p : Pos} {a b : PV} {c d : Bool} (hl : BEv X l st a st) (hr : BEv X r st b st) (h : Op2 X (compareOp op) a b st (.bool c) st) (hm : behindInMarks op r = false) (e : c = d) : BTst X (.Compare l [op] [r] p) st d st := e ▸ B.tcmp hl hr h hm
theorem Q.binop {l r : Expr} {op : Operator} {p : Pos} {a b v : PV} (hl : BEv X l st a st) (hr : BEv X r st b st) (h : Op2 X (binaryOp op) a b st v st) : BEv X (.BinOp l op r p) st v st := B.binop hl hr h
theorem Q.item {value slice : Expr} {p : Pos} {o i v : PV} (ho : BEv X value st o st) (hi : BEv X slice st i st) (h : Item X o i st v st) : BEv X (.Subscript value slice p) st v st := B.item ho hi h
theorem Q.aug {k : Nat} (ok : X.Ok k) {x : Str} {px p : Pos} {op : Operator} {e : Expr} {a b v : PV} {l l' : List (Str × PV)} {sto : List PO} (hk : X.env.kindOf x = some .local) (hl : Look l x a) (h : BEv X e ⟨l, sto⟩ b ⟨l, sto⟩) (ho : Op2 X (inplaceOp op) a b ⟨l, sto⟩ v ⟨l, sto⟩) (hp : Put l x v l') :
    BEx X (.AugAssign (.Name x px) op e p) ⟨l, sto⟩ .next ⟨l', sto⟩ := B.aug ok hk hl h ho hp
theorem Q.assign {k : Nat} (ok : X.Ok k) {x : Str} {px p : Pos} {e : Expr} {v : PV} {l l' : List (Str × PV)} {sto : List PO} (h : BEv X e ⟨l, sto⟩ v ⟨l, sto⟩) (hk : X.env.kindOf x = some .local) (hp : Put l x v l') (hs : swapsWith e (some (.Name x px)) p.line X.env = pure false) :
    BEx X (.Assign [.Name x px] e p) ⟨l, sto⟩ .next ⟨l', sto⟩ := B.assign ok h hk hp hs
theorem A.assign {k : Nat} (ok : X.Ok k) {x : Str} {px p : Pos} {e : Expr} {v : PV} {l l₁ l' : List (Str × PV)} {sto sto₁ : List PO} (h : BEv X e ⟨l, sto⟩ v ⟨l₁, sto₁⟩) (hk : X.env.kindOf x = some .local) (hp : Put l₁ x v l') (hs : swapsWith e (some (.Name x px)) p.line X.env = pure false) :
    BEx X (.Assign [.Name x px] e p) ⟨l, sto⟩ .next ⟨l', sto₁⟩ := B.assign ok h hk hp hs
theorem Q.append {k : Nat} (ok : X.Ok k) {o e : Expr} {apos p q : Pos} {n : Nat} {xs : List PV} {v : PV} {l : List (Str × PV)} {sto sto' : List PO} (ho : BEv X o ⟨l, sto⟩ (.loc n) ⟨l, sto⟩) (he : BEv X e ⟨l, sto⟩ v ⟨l, sto⟩) (ha : At sto n (.list xs)) (hs : SetAt sto n (.list (xs ++ [v])) sto')
    (hl : xs.length ≤ sizeLine) (hstar : ∀ env, starEach [e] env = (false, eval e env) :: starEach [] env) (hx : Plain [e]) (hbase : attributeBase o "append" X.env (eval o X.env) = eval o X.env) (hline : (apos.endLine == p.line) = true) (hsw : swapsWith (.Call (.Attribute o "append" apos) [e] [] p) Option.none q.line X.env = pure false) :
    BEx X (.Expr (.Call (.Attribute o "append" apos) [e] [] p) q) ⟨l, sto⟩ .next ⟨l, sto'⟩ := B.append ok ho ha (B.cons he B.nil hstar) ha hs hl hx hbase hline hsw
theorem Q.c1 {e : Expr} {v : PV} (h : BEv X e st v st) (he : ∀ env, starEach [e] env = (false, eval e env) :: starEach [] env) : BEvs X [e] st [v] st := B.cons h B.nil he
theorem Q.c2 {e f : Expr} {v u : PV} (h : BEv X e st v st) (h' : BEv X f st u st) (he : ∀ env, starEach [e, f] env = (false, eval e env) :: starEach [f] env) (he' : ∀ env, starEach [f] env = (false, eval f env) :: starEach [] env) : BEvs X [e, f] st [v, u] st := B.cons h (Q.c1 h' he') he
theorem Q.c3 {e f d : Expr} {v u w : PV} (h : BEv X e st v st) (h' : BEv X f st u st) (h'' : BEv X d st w st) (he : ∀ env, starEach [e, f, d] env = (false, eval e env) :: starEach [f, d] env) (he' : ∀ env, starEach [f, d] env = (false, eval f env) :: starEach [d] env) (he'' : ∀ env, starEach [d] env = (false, eval d env) :: starEach [] env) : BEvs X [e, f, d] st [v, u, w] st := B.cons h (Q.c2 h' h'' he' he'') he
theorem Q.setIt {o i e : Expr} {tp p : Pos} {ov iv v : PV} (he : BEv X e st v st) (ho : BEv X o st ov st) (hi : BEv X i st iv st) (hs : SetIt X ov iv v st st') (hw : swapsWith e (some (.Subscript o i tp)) p.line X.env = pure false) :
    BEx X (.Assign [.Subscript o i tp] e p) st .next st' := B.setIt he ho hi hs hw
theorem Q.augItem {o i e : Expr} {tp p : Pos} {op : Operator} {ov iv old v new : PV} (ho : BEv X o st ov st) (hi : BEv X i st iv st) (hg : Item X ov iv st old st) (he : BEv X e st v st) (hop : Op2 X (inplaceOp op) old v st new st) (hs : SetIt X ov iv new st st')
    (ha : ∀ ov iv new, augStore i ov iv new = (do holding [new, ov, iv] (setItem ov iv new); release [new, ov, iv] []; pure .next)) : BEx X (.AugAssign (.Subscript o i tp) op e p) st .next st' := B.augItem ho hi hg he hop hs ha
theorem Q.s2 {c d : Stmt} {f : PFlow} {cs : List Stmt} (st₁ : PSt) (h : BEx X c st .next st₁) (hr : BExs X (d :: cs) st₁ f st') : BExs X (c :: d :: cs) st f st' := B.scons h hr
theorem Q.mul_int {a b : Int} (hm : IntMulOk a b) : Op2 X (inplaceOp .Mult) (.int a) (.int b) st (.int (a * b)) st := fun μ s x y g hx hy => by cases hx; cases hy; exact P.imul_int (.val g (.int _ _) _) hm
theorem Q.slice {value : Expr} {l u : Option Expr} {p q : Pos} {o a b v : PV} {lo hi : Option Int} (ho : BEv X value st o st) (hl : BEvO X l st a st) (hu : BEvO X u st b st) (oa : OptI a lo) (ob : OptI b hi) (h : Cut X o lo hi st v st₄) :
    BEv X (.Subscript value (.Slice l u Option.none q) p) st v st₄ := B.slice ho hl hu oa ob h
theorem Q.some {e : Expr} {v : PV} (h : BEv X e st v st) : BEvO X (Option.some e) st v st := B.osome h
theorem Q.none : BEvO X Option.none st .none st := B.onone
end

-- a list comprehension of two clauses
noncomputable abbrev LC2 (elt t1 i1 t2 i2 : Expr) (scope : Scope) (pos : Pos) : Expr := .ListComp elt [⟨t1, i1, [], 0⟩, ⟨t2, i2, [], 0⟩] scope pos
theorem compTurn2_0 (elt t1 i1 t2 i2 : Expr) (scope : Scope) (pos : Pos) (it acc : Value) (env : Env) :
    compTurn (LC2 elt t1 i1 t2 i2 scope pos) 0 it acc env = (standAt i1.pos >>= fun _ => pyNext it >>= fun r => match r with
      | none => pure (.done .next)
      | some v => letOwnedTupleGo t1 it v >>= fun _ => assign t1 env v >>= fun _ =>
        eval i2 env >>= fun x => standAt i2.pos >>= fun _ => foldedSetIterable i2 env x >>= fun x => holding [x] (pyIter x) >>= fun it2 => runOwn (.compStart (LC2 elt t1 i1 t2 i2 scope pos) 1 it2 acc env) env >>= fun _ =>
          again (.compLoop (LC2 elt t1 i1 t2 i2 scope pos) 0 it acc env)) := by rfl
theorem compTurn2_1 (elt t1 i1 t2 i2 : Expr) (scope : Scope) (pos : Pos) (it acc : Value) (env : Env) :
    compTurn (LC2 elt t1 i1 t2 i2 scope pos) 1 it acc env = (standAt i2.pos >>= fun _ => pyNext it >>= fun r => match r with
      | none => pure (.done .next)
      | some v => letOwnedTupleGo t2 it v >>= fun _ => assign t2 env v >>= fun _ =>
        (eval elt env >>= fun x => call (.builtin "list.append") [acc, x] >>= fun _ => pure ()) >>= fun _ =>
          again (.compLoop (LC2 elt t1 i1 t2 i2 scope pos) 1 it acc env)) := by rfl
section
variable {prog : Program} {w : World} {A : Around} {R : Result → Shared → Prop} {s : Shared}
theorem codeAny_loop2_0 {elt t1 i1 t2 i2 : Expr} {scope : Scope} {pos : Pos} {it acc : Value} {env : Env} (I : Nat → Shared → Prop)
    (turn : ∀ n s, I n s → wpAny (model prog w) A (pyNext it) (fun r s₁ => match r with
      | none => R (.ok .next) s₁
      | some v => wpAny (model prog w) A (assign t1 env v) (fun _ s₂ => wpAny (model prog w) A (eval i2 env) (fun x s₃ => wpAny (model prog w) A (pyIter x) (fun it2 s₄ =>
          codeAny (model prog w) A (.compStart (LC2 elt t1 i1 t2 i2 scope pos) 1 it2 acc env) (fun r s' => match r with | .ok _ => ∃ m, m < n ∧ I m s' | .error _ => False) s₄) (fun _ _ => False) s₃) (fun _ _ => False) s₂) (fun _ _ => False) s₁) (fun _ _ => False) s)
    (n : Nat) (h : I n s) (ht : ∀ v, letOwnedTupleGo t1 it v = pure ()) (hs : ∀ x, foldedSetIterable i2 env x = pure x) :
    codeAny (model prog w) A (.compLoop (LC2 elt t1 i1 t2 i2 scope pos) 0 it acc env) R s := by
  refine codeAny_loop rfl I (fun n s hI => ?_) n h
  show wpAny _ A ((compTurn (LC2 elt t1 i1 t2 i2 scope pos) 0 it acc env).onRaise (fun x => do noteFrame x env; theTreesLotGoes x)) _ _ s
  refine wpAny_noted ?_
  rw [compTurn2_0]
  refine wpAny_bind (wpAny_standAt (wpAny_bind (wpAny_mono (turn n s hI) (fun r s₁ h₁ => ?_) fun _ _ h' => h'.elim)))
  cases r with
  | none => exact wpAny_pure h₁
  | some v =>
    refine wpAny_bind (wpAny_of_eq (ht v) ?_)
    refine wpAny_bind (wpAny_mono h₁ (fun _ s₂ h₂ => ?_) fun _ _ h' => h'.elim)
    refine wpAny_bind (wpAny_mono h₂ (fun x s₃ h₃ => wpAny_bind (wpAny_standAt (wpAny_bind (wpAny_of_eq (hs x) (wpAny_bind (wpAny_holding (wpAny_mono h₃ (fun it2 s₄ h₄ => ?_) fun _ _ h' => h'.elim))))))) fun _ _ h' => h'.elim)
    refine wpAny_bind (wpAny_runOwn (codeAny_mono h₄ fun r s' h => ?_))
    cases r with
    | ok f => exact wpAny_pure ⟨rfl, h⟩
    | error e => exact h.elim
theorem codeAny_loop2_1 {elt t1 i1 t2 i2 : Expr} {scope : Scope} {pos : Pos} {it acc : Value} {env : Env} (I : Nat → Shared → Prop)
    (turn : ∀ n s, I n s → wpAny (model prog w) A (pyNext it) (fun r s₁ => match r with
      | none => R (.ok .next) s₁
      | some v => wpAny (model prog w) A (assign t2 env v) (fun _ s₂ => wpAny (model prog w) A (eval elt env) (fun x s₃ =>
          wpAny (model prog w) A (call (.builtin "list.append") [acc, x]) (fun _ s₄ => ∃ m, m < n ∧ I m s₄) (fun _ _ => False) s₃) (fun _ _ => False) s₂) (fun _ _ => False) s₁) (fun _ _ => False) s)
    (n : Nat) (h : I n s) (ht : ∀ v, letOwnedTupleGo t2 it v = pure ()) :
    codeAny (model prog w) A (.compLoop (LC2 elt t1 i1 t2 i2 scope pos) 1 it acc env) R s := by
  refine codeAny_loop rfl I (fun n s hI => ?_) n h
  show wpAny _ A ((compTurn (LC2 elt t1 i1 t2 i2 scope pos) 1 it acc env).onRaise (fun x => do noteFrame x env; theTreesLotGoes x)) _ _ s
  refine wpAny_noted ?_
  rw [compTurn2_1]
  refine wpAny_bind (wpAny_standAt (wpAny_bind (wpAny_mono (turn n s hI) (fun r s₁ h₁ => ?_) fun _ _ h' => h'.elim)))
  cases r with
  | none => exact wpAny_pure h₁
  | some v =>
    refine wpAny_bind (wpAny_of_eq (ht v) ?_)
    refine wpAny_bind (wpAny_mono h₁ (fun _ s₂ h₂ => ?_) fun _ _ h' => h'.elim)
    exact wpAny_bind (wpAny_bind (wpAny_mono h₂ (fun x s₃ h₃ => wpAny_bind (wpAny_mono h₃ (fun _ s₄ h₄ => wpAny_pure (wpAny_pure ⟨rfl, h₄⟩)) fun _ _ h' => h'.elim)) fun _ _ h' => h'.elim))
theorem codeAny_start2 {elt t1 i1 t2 i2 : Expr} {scope : Scope} {pos : Pos} {it acc : Value} {env : Env}
    (h0 : codeAny (model prog w) A (.compLoop (LC2 elt t1 i1 t2 i2 scope pos) 1 it acc env) R s)
    (h : wpAny (model prog w) A (pyIter it) (fun it' s' => codeAny (model prog w) A (.compLoop (LC2 elt t1 i1 t2 i2 scope pos) 1 it' acc env) R s') (fun _ _ => False) s) :
    codeAny (model prog w) A (.compStart (LC2 elt t1 i1 t2 i2 scope pos) 1 it acc env) R s := by
  refine codeAny_of_tree ?_
  show wpAny _ _ ((compStart (LC2 elt t1 i1 t2 i2 scope pos) 1 it acc env).onRaise (fun x => do noteFrame x env; standAt theWindowsPlace)) _ _ s
  refine wpAny_notedAt ?_
  unfold compStart
  show wpAny _ _ (ask >>= _) _ _ s
  refine wpAny_bind (wpAny_askSetting (wpAny_ite ?_))
  split
  · first
      | exact wpAny_bind (wpAny_pure (wpAny_pure (And.intro rfl h0)))
      | exact wpAny_pure (And.intro rfl h0)
  · first
      | exact wpAny_bind (wpAny_rule (wpAny_bind (wpAny_standAt (wpAny_bind (wpAny_mono h (fun it' s' h' => wpAny_pure (And.intro rfl h')) fun _ _ x => x.elim)))))
      | (refine wpAny_bind (wpAny_rule ?_); show wpAny _ _ (standAt i2.pos >>= _) _ _ s; exact wpAny_bind (wpAny_standAt (wpAny_bind (wpAny_mono h (fun it' s' h' => wpAny_pure (And.intro rfl h')) fun _ _ x => x.elim))))
end

noncomputable def vals2 (n2 : Nat → Nat) (val : Nat → Nat → PV) : Nat → List PV
  | 0 => []
  | i + 1 => vals2 n2 val i ++ (List.range (n2 i)).map (val i)
section
variable {X : Cx} {st st₁ st₂ st₃ st' : PSt}
set_option maxHeartbeats 4000000 in
end

-- a parameter that lives in a cell
noncomputable def Pin.cell (c : Addr) (o : Obj) (r : Nat) (a : Addr) (ho : o.data = .cell (some (.ref a))) : Pin where
  p := fun μ => (c, o) ∈ μ.hid ∧ μ.φ[r]? = some a
  mono := fun μ μ' le h => ⟨le.hid _ h.1, le.φ _ _ h.2⟩
  drop := fun φ hs hid nt h => ⟨(List.mem_append.mp h.1).elim (fun q => absurd ho ((nt _ q).2 _)) id, h.2⟩
structure RowCell (X : Cx) (x : Str) (r : Nat) (c : Addr) : Prop where
  pin : ∃ o a, (∀ μ, X.pin.p μ → (c, o) ∈ μ.hid ∧ μ.φ[r]? = some a) ∧ o.data = .cell (some (.ref a))
  kind : X.env.kindOf x = some .cell
  cells : X.env.cells = [(x, c)]
section
variable {X : Cx} {st st₁ st₂ st₃ st' : PSt}
theorem Ev.cellN {k : Nat} (ok : X.Ok k) {x : Str} {p : Pos} {r : Nat} {c : Addr} (h : RowCell X x r c) (hd : (x == ("__debug__" : Str)) = false) : Ev X (.Name x p) st (.loc r) st := fun μ s g => by
  refine hG fun Z z => ?_; obtain ⟨m, objs, G⟩ := g; refine z ?_; clear z
  refine hG fun Z z => ?_; obtain ⟨o, a, hp, ho⟩ := h.pin; refine z ?_; clear z
  obtain ⟨h1, h2⟩ := hp μ G.pin
  have ho' := (G.news _ (List.mem_append_right _ h1)).1
  exact wpAny_Name (wpAny_loadName_cell ok.kind h.kind (by rw [h.cells]; simp) ⟨o, ho', ho⟩ (.val0 ⟨m, objs, G⟩ (.loc r a h2))) hd
theorem B.cellN {k : Nat} (ok : X.Ok k) {x : Str} {p : Pos} {r : Nat} {c : Addr} (h : RowCell X x r c) (hd : (x == ("__debug__" : Str)) = false) : BEv X (.Name x p) st (.loc r) st := ⟨Ev.cellN ok h hd⟩
theorem Calls.defCell {k : Nat} (ok : X.Ok (k + 1)) {f : Addr} {name qual : Str} {params : Arguments} {body : List Stmt} {scope : Scope} {dV kV doc pm cdv ct oc : Value} {an od : Option Addr} {osl : Array (Option Value)}
    {y0 y1 : Str} {r : Nat} {v1 v : PV} {loc' : List (Str × PV)} {sto' : List PO}
    (ho : X.K.lookup f = some ⟨oc, od, .func (fnOf name qual params body scope dV kV doc pm an cdv ct), osl⟩) (hcd : codeIn X.K cdv qual = true)
    (hb : Binds (fnOf name qual params body scope dV kV doc pm an cdv ct) [y0, y1]) (h0 : scope.names.lookup y0 = some .cell) (h1 : scope.names.lookup y1 = some .local) (hcells : ∀ n, cellsFrom n scope.names [] = [(y0, n)])
    (hco : scope.isCoroutine = false) (hgen : scope.isGenerator = false) (hk : scope.kind = .function)
    (hbody : ∀ (X' : Cx) (c : Addr), X'.Ok k → X.Sub X' → X'.env.scope = scope → RowCell X' y0 r c → Exs X' body ⟨[(y1, v1)], st.sto⟩ (.ret v) ⟨loc', sto'⟩) :
    Calls X (.glob (.ref f)) [.loc r, v1] st v ⟨st.loc, sto'⟩ := fun μ s x ys g hf hys => by
  cases hf
  cases hys with
  | cons a0 _ ys _ ha0 hys =>
  cases hys with
  | cons a1 _ ys _ ha1 hys =>
  cases hys
  cases ha0 with
  | loc r a hφ =>
  refine hG fun Z z => ?_; obtain ⟨m, objs, G⟩ := g; refine z ?_; clear z
  have kin : X.K.In s.heap := ok.kin.keeps G.fr.keep
  have nolim : s.heap.NoLimit := ok.nolimit.keeps G.fr.keep
  have hk0 : ∀ L, (callEnvC (fnOf name qual params body scope dV kV doc pm an cdv ct) L f).kindOf y0 = some .cell := fun L => h0
  have hk1 : ∀ L, (callEnvC (fnOf name qual params body scope dV kV doc pm an cdv ct) L f).kindOf y1 = some .local := fun L => h1
  refine wpAny_call ?_
  refine codeAny_call_cells (fd := fnOf name qual params body scope dV kV doc pm an cdv ct) (body := body) (binds := [(y0, .ref a), (y1, a1)]) (by have := ok.depth; show X.A.depth < 1000; grind) (kin _ _ ho) rfl nolim (codeRec_of kin hcd) rfl (hb [.ref a, a1] rfl) rfl
    (fun y hy => ?_) (fun s₁ IC => ?_) hco hgen hk
  · simp only [List.mem_cons, List.not_mem_nil, or_false] at hy
    rcases hy with rfl | rfl
    · exact .inr ⟨h0, by show ((cellsFrom _ scope.names []).lookup y0).isSome = true; rw [hcells]; simp⟩
    · exact .inl h1
  let L := s.heap.objs.size
  let env := callEnvC (fnOf name qual params body scope dV kV doc pm an cdv ct) s.heap.objs.size f
  have hcs : env.cells = [(y0, L + 1)] := hcells _
  obtain ⟨o, hoc, hod⟩ : s₁.heap.IsCell (L + 1) (some (.ref a)) := by
    have := IC.cell y0 (L + 1) (by show env.cells.lookup y0 = _; rw [hcs]; simp)
    have e : bindC env.kindOf [(y0, .ref a), (y1, a1)] (fun _ => none) y0 = some (.ref a) := by
      simp only [bindC]
      rw [show env.kindOf y0 = some .cell from h0, show env.kindOf y1 = some .local from h1]
      simp
    rw [e] at this; exact this
  let news := μ.φ.zip objs ++ μ.hid
  let g₀ := hideAll s.heap (news.map (·.1))
  have nm := G.h₀_not
  have stays : ∀ b o, X.h₀.get? b = some o → g₀.get? b = some o := fun b o e => hideAll_get _ (G.fr.keep b o e) (nm b o e)
  refine hG fun Z z => ?_; obtain ⟨oL, es, ep, hL, hLr⟩ := G.fr.ns; refine z ?_; clear z
  have nL : X.L ∉ news.map (·.1) := fun q => by
    refine hG fun Z z => ?_; obtain ⟨p, hp, e⟩ := List.mem_map.mp q; refine z ?_; clear z
    exact (G.news p hp).2.1 e
  have hLg : g₀.get? X.L = some oL := hideAll_get _ hL nL
  let X' : Cx := ⟨X.prog, X.w, X.K, X.A.deeper env, g₀, L, env, Pin.cell (L + 1) o r a hod⟩
  have ok' : X'.Ok k := ⟨ok.hh, by have := ok.depth; show X.A.depth + 1 + k < 900; grind, by have := ok.units; show X.A.units + 3 + 8 * k + 100 < cLine; grind, fun a o e => stays _ _ (ok.kin _ _ e), ok.nolimit.keeps stays, rfl, hk, rfl, rfl, let ⟨o, ho⟩ := ok.mods; ⟨o, stays _ _ ho⟩⟩
  have hsz : ∀ b ∈ μ.φ ++ μ.hid.map (·.1), b < L := G.lt
  have le0 : μ.le ⟨μ.φ, (L + 1, o) :: μ.hid⟩ := Mem.le.hidden μ _
  have G' : Good X' ⟨μ.φ, (L + 1, o) :: μ.hid⟩ ⟨[(y1, v1)], st.sto⟩ s₁ (bindL env.kindOf [(y0, .ref a), (y1, a1)] fun _ => none) objs := by
    refine ⟨⟨IC.toInCall.ns, fun b o e => IC.toInCall.keep b o (of_hideAll _ e), Nat.le_of_eq (hideAll_size _ _)⟩, fun x w e => ?_, fun p hp => ?_, G.sto.mono le0, G.len, ?_, ⟨.head _, hφ⟩⟩
    · simp only [List.lookup] at e
      split at e
      · rename_i hx
        have hx' := eq_of_beq hx
        cases e
        refine ⟨a1, ?_, ha1.mono le0⟩
        simp only [bindL]
        rw [show env.kindOf y0 = some .cell from h0, show env.kindOf y1 = some .local from h1]
        simp [hx']
      · cases e
    · simp only [List.mem_append, List.mem_cons] at hp
      rcases hp with h | rfl | h
      · have z := G.news p (List.mem_append_left _ h)
        exact ⟨IC.toInCall.keep _ _ z.1, Nat.ne_of_lt (Heap.lt_size z.1), hideAll_none _ (List.mem_map_of_mem (List.mem_append_left _ h))⟩
      · refine ⟨hoc, Nat.ne_of_gt (Nat.lt_succ_self _), ?_⟩
        cases q : g₀.get? (L + 1) with
        | none => rfl
        | some o' =>
          have := Heap.lt_size q
          rw [hideAll_size] at this
          exact absurd this (Nat.not_lt.mpr (Nat.le_succ _))
      · have z := G.news p (List.mem_append_right _ h)
        exact ⟨IC.toInCall.keep _ _ z.1, Nat.ne_of_lt (Heap.lt_size z.1), hideAll_none _ (List.mem_map_of_mem (List.mem_append_right _ h))⟩
    · have nd := List.nodup_append.mp G.nodup
      rw [List.nodup_append]
      refine ⟨nd.1, ?_, fun b hb b' hb' => ?_⟩
      · simp only [List.map_cons, List.nodup_cons]
        exact ⟨fun h => absurd (hsz _ (List.mem_append_right _ h)) (Nat.not_lt.mpr (Nat.le_succ _)), nd.2.1⟩
      · simp only [List.map_cons, List.mem_cons] at hb'
        rcases hb' with rfl | hb'
        · rintro rfl; exact absurd (hsz _ (List.mem_append_left _ hb)) (Nat.not_lt.mpr (Nat.le_succ _))
        · exact nd.2.2 b hb b' hb'
  have hrc : RowCell X' y0 r (L + 1) := ⟨⟨o, a, fun μ h => h, hod⟩, h0, hcs⟩
  have hw := hbody X' (L + 1) ok' ⟨rfl, rfl, rfl⟩ rfl hrc _ s₁ ⟨_, _, G'⟩
  refine wpAny_mono hw (fun fl s' hl => ?_) fun _ _ x => x.elim
  refine hG fun Z z => ?_; obtain ⟨μ', le, hr, ⟨m', objs', G₂⟩, sm⟩ := hl; refine z ?_; clear z
  have leT : μ.le μ' := le0.trans le
  cases hr with
  | ret v' x hv =>
    refine ⟨μ', leT, hv, ⟨m, objs', ⟨⟨⟨oL, es, ep, G₂.fr.keep X.L oL hLg, hLr⟩, fun b o e => G₂.fr.keep b o (stays b o e), G.fr.above⟩, fun x v e => ?_, fun p hp => ⟨(G₂.news p hp).1, fun q => ?_, ?_⟩, G₂.sto, G₂.len, G₂.nodup, X.pin.mono _ _ leT G.pin⟩⟩, ?_⟩
    · refine hG fun Z z => ?_; obtain ⟨a, h1, h2⟩ := G.loc x v e; refine z ?_; clear z
      exact ⟨a, h1, h2.mono leT⟩
    · have := (G₂.news p hp).2.2; rw [q] at this; have h2 := hLg; rw [show X'.h₀ = g₀ from rfl] at this; rw [this] at h2; cases h2
    · cases q : X.h₀.get? p.1 with
      | none => rfl
      | some o => have := (G₂.news p hp).2.2; have h2 := stays _ _ q; rw [show X'.h₀ = g₀ from rfl] at this; rw [this] at h2; cases h2
    · refine hG fun Z z => ?_; obtain ⟨hh, tk, e⟩ := IC.toInCall.same; refine z ?_; clear z
      exact (show Same s s₁ by rw [e]; exact .mk s hh tk).trans sm
end

section
variable {X : Cx} {st st₁ st₂ st₃ st' : PSt}
/-- an inner namespace C: what the outer one keeps stands below it -/
theorem Good.enterP {k : Nat} (ok : X.Ok k) {μ : Mem} {s : Shared} {m : Str → Option Value} {objs : List Obj} (G : Good X μ st s m objs) {h₁ : Heap} {C : Addr} {m₁ : Str → Option Value} {env' : Env} (hk₁ : ∀ b o, s.heap.get? b = some o → h₁.get? b = some o)
    (hC : s.heap.objs.size ≤ C) (hns : h₁.Ns C m₁) (hL : env'.locals = C) (hkind : env'.scope.kind = .function) (hg : env'.globals = mainGlobals) (hb : env'.builtins = builtinsNs) (tk : Nat) :
    ∃ X' : Cx, X'.Ok k ∧ X.Sub X' ∧ X'.env = env' ∧ X'.A = X.A ∧ X'.L = C ∧ X'.pin = X.pin ∧ Good X' μ ⟨[], st.sto⟩ { s with heap := h₁, toks := tk } m₁ objs ∧
      ∀ (μ' : Mem) (st₂ : PSt) (s' : Shared) (m' : Str → Option Value) (objs' : List Obj), LocR μ' m st.loc → Good X' μ' st₂ s' m' objs' → Good X μ' ⟨st.loc, st₂.sto⟩ s' m objs' := by
  let news := μ.φ.zip objs ++ μ.hid
  let g₀ := hideAll s.heap (news.map (·.1))
  have nm := G.h₀_not
  have stays : ∀ b o, X.h₀.get? b = some o → g₀.get? b = some o := fun b o e => hideAll_get _ (G.fr.keep b o e) (nm b o e)
  obtain ⟨oL, es, ep, hLo, hLr⟩ := G.fr.ns
  have nL : X.L ∉ news.map (·.1) := fun q => by
    obtain ⟨p, hp, e⟩ := List.mem_map.mp q
    exact (G.news p hp).2.1 e
  have hLg : g₀.get? X.L = some oL := hideAll_get _ hLo nL
  let X' : Cx := ⟨X.prog, X.w, X.K, X.A, g₀, C, env', X.pin⟩
  have ok' : X'.Ok k := ⟨ok.hh, ok.depth, ok.units, fun a o e => stays _ _ (ok.kin _ _ e), ok.nolimit.keeps stays, hL, hkind, hg, hb, let ⟨o, ho⟩ := ok.mods; ⟨o, stays _ _ ho⟩⟩
  refine ⟨X', ok', ⟨rfl, rfl, rfl⟩, rfl, rfl, rfl, rfl, ⟨⟨hns, fun b o e => hk₁ b o (of_hideAll _ e), ?_⟩, fun x v e => (by cases e), fun p hp => ?_, G.sto, G.len, G.nodup, G.pin⟩, fun μ' st₂ s' m' objs' hloc G₂ => ?_⟩
  · show (hideAll s.heap (news.map (·.1))).objs.size ≤ C
    rw [hideAll_size]; exact hC
  · exact ⟨hk₁ _ _ (G.news p hp).1, Nat.ne_of_lt (Nat.lt_of_lt_of_le (Heap.lt_size (G.news p hp).1) hC), hideAll_none _ (List.mem_map_of_mem hp)⟩
  · refine ⟨⟨⟨oL, es, ep, G₂.fr.keep X.L oL hLg, hLr⟩, fun b o e => G₂.fr.keep b o (stays b o e), G.fr.above⟩, hloc, fun p hp => ⟨(G₂.news p hp).1, fun q => ?_, ?_⟩, G₂.sto, G₂.len, G₂.nodup, G₂.pin⟩
    · have := (G₂.news p hp).2.2; have h2 := hLg; rw [show X'.h₀ = g₀ from rfl, q] at this; rw [this] at h2; cases h2
    · cases q : X.h₀.get? p.1 with
      | none => rfl
      | some o => have := (G₂.news p hp).2.2; have h2 := stays _ _ q; rw [show X'.h₀ = g₀ from rfl] at this; rw [this] at h2; cases h2

set_option maxHeartbeats 4000000 in
end

section
variable {X : Cx} {st st₁ st₂ st₃ st' : PSt}
set_option maxHeartbeats 4000000 in
theorem Ex.assignComp2C {k : Nat} (ok : X.Ok k) {y : Str} {py spos : Pos} {l' : List (Str × PV)} (hky : X.env.kindOf y = some .local) (hput : Put st₁.loc y (.loc st₁.sto.length) l') {elt i1 i2 : Expr} {x1 x2 : Str} {p1 p2 pos : Pos} {scope : Scope} {items : List PV} {depS : PSt → Prop} (hsrc : Src X i1 st items depS st₁)
    {cl : List (Str × Addr)} (hclos : closureFor scope X.env = pure cl) (hcell : ∀ y ∈ scope.names, y.2 ≠ .cell) (hkind : scope.kind = .function) (hnames : ∀ y ∈ scope.names, y.2 = .local → scope.names.lookup y.1 = some .local) (hx1 : scope.names.lookup x1 = some .local) (hx2 : scope.names.lookup x2 = some .local) (hne : x2 ≠ x1)
    (hdep : ∀ loc o, depS ⟨loc, st₁.sto ++ [o]⟩) (items2 : Nat → List PV) (val : Nat → Nat → PV) (hlen : ∀ i, i ≤ items.length → (vals2 (fun i => (items2 i).length) val i).length + (items2 i).length ≤ sizeLine)
    (src2 : ∀ X' : Cx, X'.Ok k → X.Sub X' → X'.env = compEnvC scope cl X'.L X.env → X'.pin = X.pin → ∀ (i : Nat) (item : PV), items[i]? = some item → ∀ (l : List (Str × PV)) (ys : List PV), Look l x1 item → Src X' i2 ⟨l, st₁.sto ++ [.list ys]⟩ (items2 i) (fun _ => True) ⟨l, st₁.sto ++ [.list ys]⟩)
    (hf2 : ∀ (env : Env) (x : Value), foldedSetIterable i2 env x = pure x)
    (body : ∀ X' : Cx, X'.Ok k → X.Sub X' → X'.env = compEnvC scope cl X'.L X.env → X'.pin = X.pin → ∀ (i : Nat) (item : PV), items[i]? = some item → ∀ (j : Nat) (item2 : PV), (items2 i)[j]? = some item2 → ∀ ys, Ev X' elt ⟨[(x1, item), (x2, item2)], st₁.sto ++ [.list ys]⟩ (val i j) ⟨[(x1, item), (x2, item2)], st₁.sto ++ [.list ys]⟩)
    (hf : ∀ x, foldedSetIterable i1 X.env x = pure x)
    (hsw : swapsWith (LC2 elt (.Name x1 p1) i1 (.Name x2 p2) i2 scope pos) (some (.Name y py)) spos.line X.env = pure true) :
    Ex X (.Assign [.Name y py] (LC2 elt (.Name x1 p1) i1 (.Name x2 p2) i2 scope pos) spos) st .next ⟨l', st₁.sto ++ [.list (vals2 (fun i => (items2 i).length) val items.length)]⟩ := fun μ s g => by
  have hpF : (X.env.scope.kind == .class || (X.env.scope.kind == .module && X.env.locals != X.env.globals)) = false := by rw [ok.kind]; rfl
  show wpAny (model X.prog X.w) X.A (exec (.Assign [.Name y py] (LC2 elt (.Name x1 p1) i1 (.Name x2 p2) i2 scope pos) spos) X.env) _ _ s
  rw [exec_Assign_Name_used _ _ _ _ hsw]
  refine wpAny_bind (wpAny_standAt (wpAny_bind ?_))
  rw [arm_evalThenUse_ListComp]
  refine wpAny_bind (wpAny_mono (Q := fun _ s' => Post X μ s (fun μ a => FR μ a .next) ⟨l', st₁.sto ++ [.list (vals2 (fun i => (items2 i).length) val items.length)]⟩ Flow.next s') ?_ (fun _ s' h => wpAny_pure (wpAny_pure h)) fun _ _ x => x)
  refine wpAny_comprehension_free (use := Option.some (PySem.assign (Expr.Name y py) X.env)) rfl hf hclos hkind hnames ((hsrc μ s g).mono fun yv s₁ h1 => h1.mono fun z s₂ ⟨I, It, dep, hs, μ₂, e, hI', le₂, hd, h00, nt, g₂, e₂⟩ => ?_)
  subst e
  refine wpAny_newObj_type (wpAny_newFunctionEnv hcell (by intro y hy; simp at hy) (fun h₁ hns₁ hsb₁ => ?_) hkind)
  refine hG fun Z z => ?_; obtain ⟨m, objs, G⟩ := g₂; refine z ?_; clear z
  have GD := G.alloc (o := listOf ([] : List Value).toArray 0) rfl (.list [] 0 [] .nil) s₂.toks
  dsimp only at hns₁ hsb₁ ⊢
  have hCsz : (s₂.heap.push (listOf ([] : List Value).toArray 0)).objs.size = s₂.heap.objs.size + 1 := Heap.size_push ..
  refine hG fun Z z => ?_; obtain ⟨X', ok', sub, henv, hA, hL, hpinX, G', back⟩ := GD.enterP ok (env' := compEnvC scope cl (s₂.heap.push (listOf ([] : List Value).toArray 0)).objs.size X.env) (h₁ := h₁) (fun b o e => hsb₁.extBut b o (Nat.ne_of_lt (Heap.lt_size e)) (Heap.get?_push_of_some _ e)) (Nat.le_refl _) hns₁ rfl hkind ok.hg ok.hb (s₂.toks + ([] : List (Str × Value)).length); refine z ?_; clear z
  have hI := hI' X' sub ok'.hh
  have hxk1 : X'.env.kindOf x1 = some .local := by rw [henv]; exact lookup_relabel_local hx1
  have hxk2 : X'.env.kindOf x2 = some .local := by rw [henv]; exact lookup_relabel_local hx2
  have henvL : X'.env = compEnvC scope cl X'.L X.env := by rw [henv, hL]
  have hDφ : (⟨μ₂.φ ++ [s₂.heap.objs.size], μ₂.hid⟩ : Mem).φ[st₁.sto.length]? = some s₂.heap.objs.size := by
    have : μ₂.φ.length = st₁.sto.length := G.len
    rw [← this]; simp
  obtain ⟨R₀, hR₀⟩ : ∃ R₀ : Result → Shared → Prop, R₀ = (fun r s' => match r with | .ok _ => ∃ μ' l', (⟨μ₂.φ ++ [s₂.heap.objs.size], μ₂.hid⟩ : Mem).le μ' ∧ GoodE X' μ' ⟨l', st₁.sto ++ [.list (vals2 (fun i => (items2 i).length) val items.length)]⟩ s' ∧ Same s₂ s' | .error _ => False) := ⟨_, rfl⟩
  obtain ⟨J, hJ⟩ : ∃ J : Nat → Shared → Prop, J = (fun q s' => ∃ i μ' hs' l', i ≤ items.length ∧ q = items.length - i ∧ (⟨μ₂.φ ++ [s₂.heap.objs.size], μ₂.hid⟩ : Mem).le μ' ∧ dep μ' ∧ It i hs' ∧ (l' = [] ∨ (∃ u, l' = [(x1, u)]) ∨ ∃ u v, l' = [(x1, u), (x2, v)]) ∧ GoodE X' ⟨μ'.φ, hs' ++ μ'.hid⟩ ⟨l', st₁.sto ++ [.list (vals2 (fun i => (items2 i).length) val i)]⟩ s' ∧ Same s₂ s') := ⟨_, rfl⟩
  have hloop : codeAny (model X'.prog X'.w) X'.A (.compLoop (LC2 elt (.Name x1 p1) i1 (.Name x2 p2) i2 scope pos) 0 (.ref I) (.ref s₂.heap.objs.size) X'.env)
      R₀
      { s₂ with heap := h₁, toks := s₂.toks + ([] : List (Str × Value)).length } := by
    refine codeAny_loop2_0 J ?_ items.length (by rw [hJ]; exact ⟨0, ⟨μ₂.φ ++ [s₂.heap.objs.size], μ₂.hid⟩, hs, [], Nat.zero_le _, rfl, .refl _, hI.dm _ _ (Mem.le.snoc μ₂ _) hd, h00, .inl rfl, ⟨_, _, G'⟩, .mk _ _ _⟩) (by intro _; rfl) (hf2 _)
    intro q s' hq0
    rw [hJ] at hq0
    refine hG fun Z z => ?_; obtain ⟨i, μ', hs', l', hi, rfl, le, hd', hIi, hl', g', sm⟩ := hq0; refine z ?_; clear z
    by_cases hlt : i < items.length
    · have hv : items[i]? = some items[i] := List.getElem?_eq_getElem hlt
      refine wpAny_mono (hI.step i _ _ hv (hdep _ _) μ' s' hs' hd' hIi g') (fun o s₃ hq => ?_) fun _ _ x => x.elim
      refine hG fun Z z => ?_; obtain ⟨w, μ₃, hs₃, rfl, le₃, hI₃, hw, g₃, sm₃⟩ := hq; refine z ?_; clear z
      obtain ⟨l₁, hput, hlk, hl₁⟩ : ∃ l₁, Put l' x1 items[i] l₁ ∧ Look l₁ x1 items[i] ∧ ((l₁ = [(x1, items[i])]) ∨ ∃ v, l₁ = [(x1, items[i]), (x2, v)]) := by
        rcases hl' with rfl | ⟨u, rfl⟩ | ⟨u, v, rfl⟩
        · exact ⟨_, .nil _ _, .here _ _ _, .inl rfl⟩
        · exact ⟨_, .here _ _ _ _, .here _ _ _, .inl rfl⟩
        · exact ⟨_, .here _ _ _ _, .here _ _ _, .inr ⟨v, rfl⟩⟩
      refine wpAny_assign_Name (wpAny_mono (storeLocalH ok' g₃ hw hxk1 hput) (fun _ s₄ hq => ?_) fun _ _ x => x.elim)
      obtain ⟨g₄, sm₄⟩ := hq
      refine wpAny_mono (src2 X' ok' sub henvL hpinX i _ hv l₁ (vals2 (fun i => (items2 i).length) val i) hlk _ s₄ g₄) (fun xv s₅ hq => wpAny_mono hq (fun it2 s₆ hq => ?_) fun _ _ x => x.elim) fun _ _ x => x.elim
      refine hG fun Z z => ?_; obtain ⟨I2, It2, dep2, hs2, μb, rfl, hI2', leb, hd2, h02, nt2, gb, smb⟩ := hq; refine z ?_; clear z
      have hI2 := hI2' X' ⟨rfl, rfl, rfl⟩ ok'.hh
      have leA : (⟨μ₂.φ ++ [s₂.heap.objs.size], μ₂.hid⟩ : Mem).le μb := le.trans (le₃.trans ((⟨fun _ _ h => h, fun _ h => List.mem_append_right _ h⟩ : Mem.le μ₃ ⟨μ₃.φ, hs₃ ++ μ₃.hid⟩).trans leb))
      have hin : codeAny (model X'.prog X'.w) X'.A (.compLoop (LC2 elt (.Name x1 p1) i1 (.Name x2 p2) i2 scope pos) 1 (.ref I2) (.ref s₂.heap.objs.size) X'.env)
          (fun r s' => match r with | .ok _ => ∃ m, m < items.length - i ∧ J m s' | .error _ => False) s₆ := by
        obtain ⟨J2, hJ2⟩ : ∃ J2 : Nat → Shared → Prop, J2 = (fun q s' => ∃ j μc hsc l'', j ≤ (items2 i).length ∧ q = (items2 i).length - j ∧ μb.le μc ∧ dep2 μc ∧ It2 j hsc ∧ (l'' = [(x1, items[i])] ∨ ∃ v, l'' = [(x1, items[i]), (x2, v)]) ∧ GoodE X' ⟨μc.φ, hsc ++ μc.hid⟩ ⟨l'', st₁.sto ++ [.list (vals2 (fun i => (items2 i).length) val i ++ (List.range j).map (val i))]⟩ s' ∧ Same s₂ s') := ⟨_, rfl⟩
        refine codeAny_loop2_1 J2 ?_ (items2 i).length (by rw [hJ2]; exact ⟨0, μb, hs2, l₁, Nat.zero_le _, rfl, .refl _, hd2, h02, hl₁, by simpa using gb, sm.trans (sm₃.trans (sm₄.trans smb))⟩) (by intro _; rfl)
        intro q s' hq1
        rw [hJ2] at hq1
        refine hG fun Z z => ?_; obtain ⟨j, μc, hsc, l'', hj, rfl, lec, hdc, hIc, hl'', gc, smc⟩ := hq1; refine z ?_; clear z
        by_cases hjlt : j < (items2 i).length
        · have hv2 : (items2 i)[j]? = some (items2 i)[j] := List.getElem?_eq_getElem hjlt
          refine wpAny_mono (hI2.step j _ _ hv2 trivial μc s' hsc hdc hIc gc) (fun o s₇ hq => ?_) fun _ _ x => x.elim
          refine hG fun Z z => ?_; obtain ⟨w2, μd, hsd, rfl, led, hId, hwd, gd, smd⟩ := hq; refine z ?_; clear z
          have hput2 : Put l'' x2 (items2 i)[j] [(x1, items[i]), (x2, (items2 i)[j])] := by
            rcases hl'' with rfl | ⟨v, rfl⟩
            · exact .there _ _ _ _ _ _ hne (.nil _ _)
            · exact .there _ _ _ _ _ _ hne (.here _ _ _ _)
          refine wpAny_assign_Name (wpAny_mono (storeLocalH ok' gd hwd hxk2 hput2) (fun _ s₈ hq => ?_) fun _ _ x => x.elim)
          obtain ⟨ge, sme⟩ := hq
          refine wpAny_mono (body X' ok' sub henvL hpinX i _ hv j _ hv2 _ _ s₈ ge) (fun yv s₉ hq => ?_) fun _ _ x => x.elim
          refine hG fun Z z => ?_; obtain ⟨μf, lef, hy, gf, smf⟩ := hq; refine z ?_; clear z
          have leT : (⟨μ₂.φ ++ [s₂.heap.objs.size], μ₂.hid⟩ : Mem).le μf := leA.trans (lec.trans (led.trans ((⟨fun _ _ h => h, fun _ h => List.mem_append_right _ h⟩ : Mem.le μd ⟨μd.φ, hsd ++ μd.hid⟩).trans lef)))
          have hap := Calls.append (X := X') (st := ⟨[(x1, items[i]), (x2, (items2 i)[j])], st₁.sto ++ [.list (vals2 (fun i => (items2 i).length) val i ++ (List.range j).map (val i))]⟩) (n := st₁.sto.length) (xs := vals2 (fun i => (items2 i).length) val i ++ (List.range j).map (val i)) (v := val i j) (by simp) (by
            have := hlen i (Nat.le_of_lt hlt)
            rw [List.length_append, List.length_map, List.length_range]; grind)
          refine wpAny_mono (hap μf s₉ _ _ gf (.glob _) (.cons _ _ _ _ (.loc _ _ (leT.φ _ _ hDφ)) (.cons _ _ _ _ hy .nil))) (fun _ s₁₀ hq => ?_) fun _ _ x => x.elim
          refine hG fun Z z => ?_; obtain ⟨μg, leg, _, gg, smg⟩ := hq; refine z ?_; clear z
          refine hG fun Z z => ?_; obtain ⟨μh, leh, gh⟩ := ge.split (lef.trans leg) gg; refine z ?_; clear z
          have e1 : (st₁.sto ++ [PO.list (vals2 (fun i => (items2 i).length) val i ++ (List.range j).map (val i))]).set st₁.sto.length (.list (vals2 (fun i => (items2 i).length) val i ++ (List.range j).map (val i) ++ [val i j])) = st₁.sto ++ [.list (vals2 (fun i => (items2 i).length) val i ++ (List.range (j + 1)).map (val i))] := by
            rw [List.range_succ, List.map_append, ← List.append_assoc]; simp
          exact ⟨(items2 i).length - (j + 1), by omega, by rw [hJ2]; exact ⟨j + 1, μh, hsd, _, hjlt, rfl, lec.trans (led.trans leh), hI2.dm _ _ (led.trans leh) hdc, hId, .inr ⟨_, rfl⟩, e1 ▸ gh, smc.trans (smd.trans (sme.trans (smf.trans smg)))⟩⟩
        · have hje : j = (items2 i).length := by grind
          subst hje
          refine wpAny_mono (hI2.done _ trivial μc s' hsc hdc hIc gc) (fun o s₇ hq => ?_) fun _ _ x => x.elim
          refine hG fun Z z => ?_; obtain ⟨rfl, gd, smd⟩ := hq; refine z ?_; clear z
          refine hG fun Z z => ?_; obtain ⟨μe, lee, ge⟩ := g₄.split (leb.trans lec) gd; refine z ?_; clear z
          refine ⟨items.length - (i + 1), by omega, ?_⟩
          rw [hJ]
          refine ⟨i + 1, μe, hs₃, l'', hlt, rfl, le.trans (le₃.trans lee), hI.dm _ _ (le₃.trans lee) hd', hI₃, .inr ?_, ge, smc.trans smd⟩
          rcases hl'' with rfl | ⟨v, rfl⟩
          · exact .inl ⟨_, rfl⟩
          · exact .inr ⟨_, _, rfl⟩
      refine codeAny_start2 hin ?_
      have hself := hI2.self 0 _ μb _ hs2 h02 gb (fun it' s' => it' = .ref I2 ∧ s' = s₆) ⟨rfl, rfl⟩
      refine wpAny_mono hself (fun it' s' h => ?_) fun _ _ x => x.elim
      obtain ⟨rfl, rfl⟩ := h
      exact hin
    · have hi : i = items.length := by grind
      subst hi
      refine wpAny_mono (hI.done _ (hdep _ _) μ' s' hs' hd' hIi g') (fun o s₃ hq => ?_) fun _ _ x => x.elim
      refine hG fun Z z => ?_; obtain ⟨rfl, g₃, sm₃⟩ := hq; refine z ?_; clear z
      rw [hR₀]; exact ⟨μ', l', le, g₃, sm.trans sm₃⟩
  rw [hR₀, henv, hA, sub.prog, sub.w] at hloop
  have fin : ∀ (r : Result) (s' : Shared), (match r with | .ok _ => ∃ μ' l', (⟨μ₂.φ ++ [s₂.heap.objs.size], μ₂.hid⟩ : Mem).le μ' ∧ GoodE X' μ' ⟨l', st₁.sto ++ [.list (vals2 (fun i => (items2 i).length) val items.length)]⟩ s' ∧ Same s₂ s' | .error _ => False) →
      compPost (model X.prog X.w) X.A (fun _ _ => False) (Option.some (PySem.assign (Expr.Name y py) X.env)) (fun _ s' => Post X μ s (fun μ a => FR μ a .next) ⟨l', st₁.sto ++ [.list (vals2 (fun i => (items2 i).length) val items.length)]⟩ Flow.next s') (.ref s₂.heap.objs.size) (s₂.heap.push (listOf ([] : List Value).toArray 0)).objs.size r s' := fun r s' hr => by
    cases r with
    | error x => exact hr.elim
    | ok fl =>
      refine hG fun Z z => ?_; obtain ⟨μ', l', le, ⟨m', objs', G₂⟩, sm⟩ := hr; refine z ?_; clear z
      have hloc : LocR μ' m st₁.loc := fun x v e => by
        refine hG fun Z z => ?_; obtain ⟨a, h1, h2⟩ := G.loc x v e; refine z ?_; clear z
        exact ⟨a, h1, (VR.swap (μ := ⟨μ₂.φ, hs ++ μ₂.hid⟩) (μ' := μ₂) rfl (fun a vs h => by simpa using Mem.le.swap (hs' := []) nt a vs h) h2).mono ((Mem.le.snoc μ₂ _).trans le)⟩
      have GX := back μ' _ s' m' objs' hloc G₂
      have hCL : X'.L = (s₂.heap.push (listOf ([] : List Value).toArray 0)).objs.size := hL
      have hXL : X.L < s₂.heap.objs.size := G.fr.ns.lt
      have hne2 : (s₂.heap.push (listOf ([] : List Value).toArray 0)).objs.size ≠ X.L := by rw [hCsz]; exact Nat.ne_of_gt (Nat.lt_succ_of_lt hXL)
      have h0n : X.h₀.get? (s₂.heap.push (listOf ([] : List Value).toArray 0)).objs.size = none := by
        cases q : X.h₀.get? (s₂.heap.push (listOf ([] : List Value).toArray 0)).objs.size with
        | none => rfl
        | some o =>
          have := Heap.lt_size (G.fr.keep _ _ q)
          rw [hCsz] at this
          exact absurd this (Nat.not_lt.mpr (Nat.le_succ _))
      have hD' : VR μ' (.ref s₂.heap.objs.size) (.loc st₁.sto.length) := .loc _ _ (le.φ _ _ hDφ)
      show wpAny (model X.prog X.w) X.A (PySem.assign (Expr.Name y py) X.env (.ref s₂.heap.objs.size)) _ _ s'
      refine wpAny_assign_Name (wpAny_storeName_local hky (ok.hL ▸ GX.fr.ns) (fun h' hn hs => ?_) hpF)
      rw [ok.hL] at hn hs
      have GY := GX.store (tk := s'.toks + 1) hD' hput hn hs
      refine ⟨m', (hCL ▸ G₂.fr.ns).sameBut hs hne2, fun h'' hsb => ?_⟩
      refine ⟨μ', le₂.trans ((Mem.le.snoc μ₂ _).trans le), .next, ⟨_, objs', GY.sameBut hsb hne2 h0n (fun p hp => hCL ▸ (G₂.news p hp).2.1)⟩, e₂.trans (sm.trans (.mk s' h'' (s'.toks + 1)))⟩
  have hloop2 := codeAny_mono hloop fin
  refine codeAny_compStart_list hloop2 ?_
  have hself := hI.self 0 _ ⟨μ₂.φ ++ [s₂.heap.objs.size], μ₂.hid⟩ _ hs h00 ⟨_, _, G'⟩ (fun it' s' => it' = .ref I ∧ s' = { s₂ with heap := h₁, toks := s₂.toks + ([] : List (Str × Value)).length }) ⟨rfl, rfl⟩
  rw [W, hA, sub.prog, sub.w] at hself
  refine wpAny_mono hself (fun it' s' h => ?_) fun _ _ x => x.elim
  obtain ⟨rfl, rfl⟩ := h
  exact hloop2
end


theorem fnAt_of {K : Frag} {x : Str} {i : Nat} {a : Addr} {o : Obj} {oc od pm an cd ct osl} (h1 : nsIn K mainGlobals x = some (some (.ref a))) (h2 : K.lookup a = some o)
    (h3 : o = ⟨oc, od, .func (fnOf x x (fnP i) (fnB i) (fnS i) .none .none .none pm an cd ct), osl⟩) (h4 : codeIn K cd x = true) : FnAt K x i a := ⟨oc, od, pm, an, cd, ct, osl, h1, h3 ▸ h2, h4⟩
noncomputable def adF : Nat → Addr
  | 63 => 102
  | 64 => 109
  | 65 => 116
  | 8 => 46
  | 10 => 92
  | 4 => 21
  | 5 => 28
  | 67 => 123
  | 68 => 130
  | 69 => 135
  | 70 => 142
  | 71 => 149
  | 72 => 156
  | 73 => 163
  | 74 => 170
  | 75 => 177
  | 76 => 184
  | 77 => 189
  | _ => 0
theorem top_f63 (P : Params) (e : Addr × Obj) : FnAt (KF P ++ [e]) "ISTERMINAL" 63 102 := fnAt_of (o := o102_64 P) (by kernel_rfl) (by kernel_rfl) rfl (by kernel_rfl)
theorem top_f64 (P : Params) (e : Addr × Obj) : FnAt (KF P ++ [e]) "ISNONTERMINAL" 64 109 := fnAt_of (o := o109_71 P) (by kernel_rfl) (by kernel_rfl) rfl (by kernel_rfl)
theorem top_f65 (P : Params) (e : Addr × Obj) : FnAt (KF P ++ [e]) "ISEOF" 65 116 := fnAt_of (o := o116_78 P) (by kernel_rfl) (by kernel_rfl) rfl (by kernel_rfl)
theorem top_f8 (P : Params) (e : Addr × Obj) : FnAt (KF P ++ [e]) "in_table_b1" 8 46 := fnAt_of (o := o46_40 P) (by kernel_rfl) (by kernel_rfl) rfl (by kernel_rfl)
theorem top_f10 (P : Params) (e : Addr × Obj) : FnAt (KF P ++ [e]) "map_table_b3" 10 92 := fnAt_of (o := o92_50 P) (by kernel_rfl) (by kernel_rfl) rfl (by kernel_rfl)
theorem top_f4 (P : Params) (e : Addr × Obj) : FnAt (KF P ++ [e]) "_substitution_cost" 4 21 := fnAt_of (o := o21_12 P) (by kernel_rfl) (by kernel_rfl) rfl (by kernel_rfl)
theorem top_f5 (P : Params) (e : Addr × Obj) : FnAt (KF P ++ [e]) "_levenshtein_distance" 5 28 := fnAt_of (o := o28_19 P) (by kernel_rfl) (by kernel_rfl) rfl (by kernel_rfl)
theorem top_f67 (P : Params) (e : Addr × Obj) : FnAt (KF P ++ [e]) "_law_numbers" 67 123 := fnAt_of (o := o123_87 P) (by kernel_rfl) (by kernel_rfl) rfl (by kernel_rfl)
theorem top_f68 (P : Params) (e : Addr × Obj) : FnAt (KF P ++ [e]) "_law_operators" 68 130 := fnAt_of (o := o130_94 P) (by kernel_rfl) (by kernel_rfl) rfl (by kernel_rfl)
theorem top_f69 (P : Params) (e : Addr × Obj) : FnAt (KF P ++ [e]) "_law_book" 69 135 := fnAt_of (o := o135_99 P) (by kernel_rfl) (by kernel_rfl) rfl (by kernel_rfl)
theorem top_f70 (P : Params) (e : Addr × Obj) : FnAt (KF P ++ [e]) "_law_text" 70 142 := fnAt_of (o := o142_106 P) (by kernel_rfl) (by kernel_rfl) rfl (by kernel_rfl)
theorem top_f71 (P : Params) (e : Addr × Obj) : FnAt (KF P ++ [e]) "_law_cut" 71 149 := fnAt_of (o := o149_113 P) (by kernel_rfl) (by kernel_rfl) rfl (by kernel_rfl)
theorem top_f72 (P : Params) (e : Addr × Obj) : FnAt (KF P ++ [e]) "_law_rules" 72 156 := fnAt_of (o := o156_120 P) (by kernel_rfl) (by kernel_rfl) rfl (by kernel_rfl)
theorem top_f73 (P : Params) (e : Addr × Obj) : FnAt (KF P ++ [e]) "_law_sentences" 73 163 := fnAt_of (o := o163_127 P) (by kernel_rfl) (by kernel_rfl) rfl (by kernel_rfl)
theorem top_f74 (P : Params) (e : Addr × Obj) : FnAt (KF P ++ [e]) "_law_nearest" 74 170 := fnAt_of (o := o170_134 P) (by kernel_rfl) (by kernel_rfl) rfl (by kernel_rfl)
theorem top_f75 (P : Params) (e : Addr × Obj) : FnAt (KF P ++ [e]) "_law_alone" 75 177 := fnAt_of (o := o177_141 P) (by kernel_rfl) (by kernel_rfl) rfl (by kernel_rfl)
theorem top_f76 (P : Params) (e : Addr × Obj) : FnAt (KF P ++ [e]) "_law_part" 76 184 := fnAt_of (o := o184_148 P) (by kernel_rfl) (by kernel_rfl) rfl (by kernel_rfl)
theorem top_f77 (P : Params) (e : Addr × Obj) : FnAt (KF P ++ [e]) "_law_table" 77 189 := fnAt_of (o := o189_153 P) (by kernel_rfl) (by kernel_rfl) rfl (by kernel_rfl)
theorem top_fn (P : Params) (e : Addr × Obj) : ∀ i x, fName i = some x → FnAt (KF P ++ [e]) x i (adF i) := fun i x h =>
  have ha : ∀ p ∈ fnL, FnAt (KF P ++ [e]) p.2 p.1 (adF p.1) := List.forall_mem_cons.mpr ⟨top_f63 P e, List.forall_mem_cons.mpr ⟨top_f64 P e, List.forall_mem_cons.mpr ⟨top_f65 P e, List.forall_mem_cons.mpr ⟨top_f8 P e, List.forall_mem_cons.mpr ⟨top_f10 P e, List.forall_mem_cons.mpr ⟨top_f4 P e, List.forall_mem_cons.mpr ⟨top_f5 P e, List.forall_mem_cons.mpr ⟨top_f67 P e, List.forall_mem_cons.mpr ⟨top_f68 P e, List.forall_mem_cons.mpr ⟨top_f69 P e, List.forall_mem_cons.mpr ⟨top_f70 P e, List.forall_mem_cons.mpr ⟨top_f71 P e, List.forall_mem_cons.mpr ⟨top_f72 P e, List.forall_mem_cons.mpr ⟨top_f73 P e, List.forall_mem_cons.mpr ⟨top_f74 P e, List.forall_mem_cons.mpr ⟨top_f75 P e, List.forall_mem_cons.mpr ⟨top_f76 P e, List.forall_mem_cons.mpr ⟨top_f77 P e, fun p h => (List.not_mem_nil h).elim⟩⟩⟩⟩⟩⟩⟩⟩⟩⟩⟩⟩⟩⟩⟩⟩⟩⟩
  ha _ (lkp_mem fnL i x h)
noncomputable def intOf : Option (Option Value) → Option Int
  | some (some (.int i _)) => some i
  | _ => none
theorem intOf_eq {o : Option (Option Value)} {i : Int} (h : intOf o = some i) : ∃ t, o = some (some (.int i t)) := by
  unfold intOf at h
  split at h
  · cases h; exact ⟨_, rfl⟩
  · cases h
theorem top_int (P : Params) (e : Addr × Obj) : ∀ j x i, gInt j = some (x, i) → ∃ t, nsIn (KF P ++ [e]) mainGlobals x = some (some (.int i t)) := fun j x i h =>
  have ha : ∀ p ∈ gIntL, ∃ t, nsIn (KF P ++ [e]) mainGlobals p.1 = some (some (.int p.2 t)) := List.forall_mem_cons.mpr ⟨intOf_eq (by kernel_rfl), List.forall_mem_cons.mpr ⟨intOf_eq (by kernel_rfl), List.forall_mem_cons.mpr ⟨intOf_eq (by kernel_rfl), List.forall_mem_cons.mpr ⟨intOf_eq (by kernel_rfl), List.forall_mem_cons.mpr ⟨intOf_eq (by kernel_rfl), fun p h => (List.not_mem_nil h).elim⟩⟩⟩⟩⟩
  ha _ (List.mem_of_getElem? h)
theorem top_bi (P : Params) (e : Addr × Obj) : ∀ j x v, gBi j = some (x, v) → nsIn (KF P ++ [e]) mainGlobals x = some none ∧ nsIn (KF P ++ [e]) builtinsNs x = some (some v) := fun j x v h =>
  have ha : ∀ p ∈ gBiL, nsIn (KF P ++ [e]) mainGlobals p.1 = some none ∧ nsIn (KF P ++ [e]) builtinsNs p.1 = some (some p.2) := List.forall_mem_cons.mpr ⟨⟨by kernel_rfl, by kernel_rfl⟩, List.forall_mem_cons.mpr ⟨⟨by kernel_rfl, by kernel_rfl⟩, List.forall_mem_cons.mpr ⟨⟨by kernel_rfl, by kernel_rfl⟩, List.forall_mem_cons.mpr ⟨⟨by kernel_rfl, by kernel_rfl⟩, List.forall_mem_cons.mpr ⟨⟨by kernel_rfl, by kernel_rfl⟩, List.forall_mem_cons.mpr ⟨⟨by kernel_rfl, by kernel_rfl⟩, List.forall_mem_cons.mpr ⟨⟨by kernel_rfl, by kernel_rfl⟩, List.forall_mem_cons.mpr ⟨⟨by kernel_rfl, by kernel_rfl⟩, List.forall_mem_cons.mpr ⟨⟨by kernel_rfl, by kernel_rfl⟩, List.forall_mem_cons.mpr ⟨⟨by kernel_rfl, by kernel_rfl⟩, fun p h => (List.not_mem_nil h).elim⟩⟩⟩⟩⟩⟩⟩⟩⟩⟩
  ha _ (List.mem_of_getElem? h)


noncomputable def okEl (e : Int × Value) : Bool := match e.2 with | .int k _ => e.1 == hashInt k | _ => false
noncomputable def elInt (e : Int × Value) : Int := match e.2 with | .int k _ => k | _ => 0
theorem okEl_eq {e : Int × Value} (h : okEl e = true) : ∃ t, e.2 = .int (elInt e) t ∧ e.1 = hashInt (elInt e) := by
  obtain ⟨a, v⟩ := e
  unfold okEl at h
  dsimp only at h
  split at h
  · exact ⟨_, rfl, eq_of_beq h⟩
  · cases h
theorem setOf_list {prog : Program} {w : World} {h : Heap} {a : Addr} {o : Obj} {es : Array (Int × Value)} {ep : Nat} {t : SetTable} {S : Int → Bool} {n : Nat} {l : List Int} (ho : h.get? a = some o) (hc : o.ExactSet) (hd : o.data = .set es ep t)
    (h1 : es.toList.all okEl = true) (h2 : es.toList.map elInt = l) (h3 : ∀ k, S k = true ↔ k ∈ l) (hn : es.size = n) (hb : n < scanBound) (hf : t.fits es.size = true) : h.SetOf (PySem.intKind prog w) a S n := by
  have hel : ∀ e ∈ es.toList, okEl e = true := fun e he => List.all_eq_true.mp h1 e he
  refine ⟨o, es, ep, t, ho, hc, hd, fun e he => ?_, fun k => ?_, hn ▸ hb, hf, hn⟩
  · obtain ⟨u, e1, e2⟩ := okEl_eq (hel e he)
    refine ⟨⟨elInt e, ?_, e2⟩, ?_⟩
    · rw [e1]; exact intKind_is _ _ _ _
    · rw [e1]; rfl
  · rw [h3 k, ← h2]
    constructor
    · intro hk
      obtain ⟨e, he, rfl⟩ := List.mem_map.mp hk
      obtain ⟨u, e1, _⟩ := okEl_eq (hel e he)
      exact ⟨e, he, by rw [e1]; exact intKind_is _ _ _ _⟩
    · rintro ⟨e, he, hk⟩
      obtain ⟨u, e1, _⟩ := okEl_eq (hel e he)
      rw [e1] at hk
      have : k = elInt e := (PySem.intKind prog w).inj _ _ _ hk (intKind_is _ _ _ _)
      exact List.mem_map.mpr ⟨e, he, this.symm⟩
noncomputable def b1P : List Int := [65024, 65025, 65026, 65027, 65028, 65029, 6150, 65030, 65031, 65032, 65033, 6155, 6156, 6157, 8203, 8204, 8205, 65034, 65035, 65036, 65037, 65038, 65039, 173, 847, 8288, 65279]
theorem b1P_mem (k : Int) : b1L.contains k = true ↔ k ∈ b1P := by
  have a : ∀ x ∈ b1L, x ∈ b1P := by decide +kernel
  have b : ∀ x ∈ b1P, x ∈ b1L := by decide +kernel
  rw [List.contains_iff_mem]
  exact ⟨a k, b k⟩
theorem top_b1 (w : World) (e : Addr × Obj) : ∃ a o, nsIn (KF w.params ++ [e]) mainGlobals "b1_set" = some (some (.ref a)) ∧ (KF w.params ++ [e]).lookup a = some o ∧ ∀ (prog : Program) (h : Heap), h.get? a = some o → h.SetOf (PySem.intKind prog w) a (fun i => b1L.contains i) 27 := by
  refine ⟨36, o36_28 w.params, by kernel_rfl, by kernel_rfl, fun prog h ho => ?_⟩
  exact setOf_list (l := b1P) ho ⟨rfl, rfl, rfl⟩ rfl (by kernel_rfl) (by kernel_rfl) b1P_mem rfl (by decide) (by kernel_rfl)
noncomputable def okS (e : DictEntry) : Bool := match e.key, e.val with | .str _ _, .int _ _ => true | _, _ => false
noncomputable def entS (e : DictEntry) : List Nat × Int := match e.key, e.val with | .str x _, .int i _ => (x.cps.toList, i) | _, _ => ([], 0)
theorem okS_eq {e : DictEntry} (h : okS e = true) : ∃ x t i u, e.key = .str x t ∧ e.val = .int i u := by
  unfold okS at h
  split at h
  · exact ⟨_, _, _, _, by assumption, by assumption⟩
  · cases h
theorem T_iff {x : Str} {l : List Nat} : (x == T l) = (l == x.cps.toList) := by
  rw [Bool.eq_iff_iff, beq_iff_eq, beq_iff_eq]
  constructor
  · rintro rfl; simp [T]
  · rintro rfl; simp [T]
theorem findS : ∀ (es : List DictEntry), es.all okS = true → ∀ l : List Nat, (∀ i, (es.map entS).lookup l = some i → ∃ t, (es.find? fun e => Value.isStrOf (T l) e.key).map (·.val) = some (.int i t)) ∧ ((es.map entS).lookup l = none → (es.find? fun e => Value.isStrOf (T l) e.key).map (·.val) = none)
  | [], _, l => ⟨fun i hi => (by simp at hi), fun _ => rfl⟩
  | e :: r, h, l => by
    simp only [List.all_cons, Bool.and_eq_true] at h
    obtain ⟨x, t, i, u, e1, e2⟩ := okS_eq h.1
    have ih := findS r h.2 l
    have h3 : entS e = (x.cps.toList, i) := by unfold entS; rw [e1, e2]
    have h4 : Value.isStrOf (T l) e.key = (l == x.cps.toList) := by rw [e1]; exact T_iff
    rw [List.map_cons, h3, List.lookup_cons, List.find?_cons, h4]
    cases l == x.cps.toList with
    | true => exact ⟨fun j hj => by simp at hj; subst hj; exact ⟨u, by simp [e2]⟩, fun hj => by simp at hj⟩
    | false => exact ih


noncomputable def esOf (o : Obj) : Array DictEntry := match o.data with | .dict es _ => es | _ => #[]
theorem o15_keys (P : Params) : KeysLit P (esOf (o93_53 P)).toList := by
  show KeysLit P [_, _, _, _, _, _, _, _, _, _, _, _, _, _, _, _, _, _, _, _, _, _, _, _, _, _, _, _, _, _, _, _, _, _, _, _, _, _, _, _, _, _, _, _, _, _, _, _]
  repeat (first | exact trivial | refine ⟨⟨_, _, rfl, rfl⟩, ?_⟩)
theorem o15_ok (P : Params) : (esOf (o93_53 P)).toList.all okS = true := by kernel_rfl
theorem o15_ex (P : Params) : (esOf (o93_53 P)).toList.map entS = exL := by kernel_rfl
theorem findBy_list {Key : Type} (p : Key → Value → Bool) (es : Array DictEntry) (k : Key) : findBy p es k = (es.toList.find? fun e => p k e.key).map (·.val) := by
  unfold findBy; rw [Array.find?_toList]
theorem top_ex (w : World) (e : Addr × Obj) : ∃ a o, nsIn (KF w.params ++ [e]) mainGlobals "EXACT_TOKEN_TYPES" = some (some (.ref a)) ∧ (KF w.params ++ [e]).lookup a = some o ∧ (a == sysModules) = false ∧
    ∀ (prog : Program) (h : Heap), h.get? a = some o → ∃ F, h.MapOf (PySem.strKind prog w) a F ∧ ∀ l, (∀ i, exF l = some i → ∃ t, F (T l) = some (.int i t)) ∧ (exF l = none → F (T l) = none) := by
  refine ⟨93, o93_53 w.params, by kernel_rfl, by kernel_rfl, by decide, fun prog h ho => ⟨fun k => findBy Value.isStrOf (esOf (o93_53 w.params)) k, ?_, fun l => ?_⟩⟩
  · refine ⟨_, esOf (o93_53 w.params), _, ho, ⟨rfl, rfl, rfl⟩, rfl, fun e he => ?_, fun _ => rfl⟩
    obtain ⟨x, t, e1, e2⟩ := (o15_keys w.params).all e (Array.mem_toList_iff.mpr he)
    exact ⟨x, by rw [e1]; exact strKind_is prog w x t, e2⟩
  · have := findS _ (o15_ok w.params) l
    rw [o15_ex w.params] at this
    show (∀ i, exF l = some i → ∃ t, findBy Value.isStrOf (esOf (o93_53 w.params)) (T l) = some (.int i t)) ∧ (exF l = none → findBy Value.isStrOf (esOf (o93_53 w.params)) (T l) = none)
    rw [findBy_list]
    exact this


noncomputable def entI (e : DictEntry) : Int × Str := (match e.key with | .int i _ => i | _ => 0, match e.val with | .str s _ => s | _ => default)
theorem b3_pairs : b3L = b3Pairs.map fun q => (q.1, q.2.cps.toList) := by kernel_rfl
theorem findI (prog : Program) (w : World) : ∀ (es : List DictEntry), (∀ e ∈ es, EntForm e) → ∀ k : Int,
    (∀ l, ((es.map entI).map fun q => (q.1, q.2.cps.toList)).lookup k = some l → ∃ t, (es.find? fun e => (PySem.intKind prog w).is k e.key).map (·.val) = some (.str (T l) t)) ∧ (((es.map entI).map fun q => (q.1, q.2.cps.toList)).lookup k = none → (es.find? fun e => (PySem.intKind prog w).is k e.key).map (·.val) = none)
  | [], _, k => ⟨fun i hi => (by simp at hi), fun _ => rfl⟩
  | e :: r, h, k => by
    obtain ⟨i, t, x, u, rfl⟩ := h e (.head _)
    have ih := findI prog w r (fun e he => h e (.tail _ he)) k
    have h4 : (PySem.intKind prog w).is k (ent i t x u).key = (k == i) := by
      rw [Bool.eq_iff_iff, beq_iff_eq]
      exact ⟨fun hk => (PySem.intKind prog w).inj _ _ _ hk (intKind_is _ _ _ _), fun hk => hk ▸ intKind_is _ _ _ _⟩
    have h3 : entI (ent i t x u) = (i, x) := rfl
    rw [List.map_cons, h3, List.map_cons, List.lookup_cons, List.find?_cons, h4]
    dsimp only
    cases k == i with
    | true => exact ⟨fun l hl => by simp at hl; subst hl; exact ⟨u, by simp [ent, T]⟩, fun hj => by simp at hj⟩
    | false => exact ih
theorem b3D_form : b3D.Form := by
  rw [b3D_def]
  exact DS.Form.flush (DS.Form.fold _ _ (fun es ep h => by cases h))
theorem b3D_all : b3D.all = b3Pairs := by
  rw [b3D_def, DS.flush_all, DS.all_eq]; rfl
theorem b3D_run : b3D.run = [] := by
  rw [b3D_def]; unfold DS.flush; split <;> rfl
theorem top_b3 (w : World) (e : Addr × Obj) : ∃ a o, nsIn (KF w.params ++ [e]) mainGlobals "b3_exceptions" = some (some (.ref a)) ∧ (KF w.params ++ [e]).lookup a = some o ∧ (a == sysModules) = false ∧
    ∀ (prog : Program) (h : Heap), h.get? a = some o → ∃ F, h.MapOf (PySem.intKind prog w) a F ∧ ∀ i, (∀ l, b3F i = some l → ∃ t, F i = some (.str (T l) t)) ∧ (b3F i = none → F i = none) := by
  obtain ⟨es, ep, hm, ho⟩ := b3D_main
  refine ⟨47, b3Main, by kernel_rfl, by kernel_rfl, by decide, fun prog h hg => ⟨fun k => findBy (PySem.intKind prog w).is es.toArray k, ?_, fun k => ?_⟩⟩
  · rw [ho] at hg
    refine ⟨_, es.toArray, _, hg, ⟨rfl, rfl, rfl⟩, rfl, fun e he => ?_, fun _ => rfl⟩
    obtain ⟨i, t, x, u, rfl⟩ := b3D_form _ _ hm e (by simpa using he)
    exact ⟨i, intKind_is _ _ _ _, rfl⟩
  · have := findI prog w es (b3D_form _ _ hm) k
    have hall : es.map entI = b3Pairs := by
      have := b3D_all
      unfold DS.all at this
      rw [hm, b3D_run] at this
      rw [List.append_nil] at this; exact this
    rw [hall, ← b3_pairs] at this
    show (∀ l, b3F k = some l → ∃ t, findBy (PySem.intKind prog w).is es.toArray k = some (.str (T l) t)) ∧ (b3F k = none → findBy (PySem.intKind prog w).is es.toArray k = none)
    rw [findBy_list]
    exact this
theorem top (w : World) (e : Addr × Obj) : Top adF w (KF w.params ++ [e]) := ⟨top_fn _ _, top_int _ _, top_bi _ _, top_b1 _ _, top_b3 _ _, top_ex _ _⟩

end Mine
namespace Mine
open PySem PySem.W PySem.Calls PyProof.Rows

theorem gI2 : Mine.gInt 2 = some (("_MAX_STRING_SIZE" : Str), 40) := by decide +kernel
theorem gI3 : Mine.gInt 3 = some (("_MOVE_COST" : Str), 2) := by decide +kernel
theorem gI4 : Mine.gInt 4 = some (("_CASE_COST" : Str), 1) := by decide +kernel
theorem gB0 : gBi 0 = some (("len" : Str), .builtin "len") := rfl
theorem gB1 : gBi 1 = some (("ord" : Str), .builtin "ord") := rfl
theorem gB2 : gBi 2 = some (("chr" : Str), .builtin "chr") := rfl
theorem gB4 : gBi 4 = some (("min" : Str), .builtin "min") := rfl
theorem gB5 : gBi 5 = some (("range" : Str), .type "range") := rfl
theorem gB6 : gBi 6 = some (("list" : Str), .type "list") := rfl
theorem gB7 : gBi 7 = some (("enumerate" : Str), .type "enumerate") := rfl

local macro_rules
  | `(tactic| cells_apart) => `(tactic| first
    | with_reducible exact Evs.nil
    | (with_reducible apply Evs.cons; (· by_in); (· cells_apart); (· intro _; with_unfolding_all rfl)))
local macro_rules
  | `(tactic| by_item) => `(tactic| first
    | with_reducible exact Look.here _ _ _
    | ((with_reducible apply Look.there); (· decide +kernel); by_item))
local macro_rules
  | `(tactic| by_place) => `(tactic| first
    | with_reducible exact Put.here _ _ _ _
    | with_reducible exact Put.nil _ _
    | ((with_reducible apply Put.there); (· decide +kernel); by_place))
local macro_rules
  | `(tactic| boot_fast) => `(tactic| exact kind_of (by assumption) (by decide +kernel))
local macro_rules
  | `(tactic| by_in) => `(tactic| first
    | with_reducible exact Ev.int
    | with_reducible exact Ev.none
    | (with_reducible apply Ev.local; (· assumption); (· boot_fast); (· by_item); (· decide))
    | (with_reducible (first | apply Ev.gInt 2 (hm := gI2) | apply Ev.gInt 3 (hm := gI3) | apply Ev.gInt 4 (hm := gI4)); (· assumption); (· assumption); (· boot_fast); (· decide))
    | (with_reducible apply Ev.binop; (· by_in); (· by_in); (· with_reducible first
      | exact Op.add_int
      | exact Op.sub_int
      | exact Op.lt_int
      | exact Op.gt_int
      | exact Op.eq_int
      | exact Op.mul_int (by first | exact PySem.IntMulOk.of_left (by decide) | exact PySem.IntMulOk.of_right (by decide))))
    | (with_reducible refine' Ev.callB 0 ?a1 ?a2 ?a3 gB0 ?a4 ?a5 ?a6 ?a7; (case a1 => assumption); (case a2 => assumption); (case a3 => boot_fast); (case a4 => decide); (case a5 => cells_apart); (case a6 => unfold Plain; intro _; with_unfolding_all rfl); (case a7 => exact Calls.len_str (by omega))))


section
variable {X X' : Cx} {st st₁ st₂ st₃ st' : PSt} {ad : Nat → Addr} {k : Nat}

/-- the small letters of a sign -/
noncomputable def lw (c : Nat) : List Nat := (Txt.lower (T [c])).cps.toList
noncomputable def subc (c d : Nat) : Int := if c = d then 0 else if lw c = lw d then 1 else 2
theorem Tst.eqs {l r : Expr} {p : Pos} {a b : List Nat} (hl : Ev X l st (.str a) st₁) (hr : Ev X r st₁ (.str b) st₂) (c : Bool) (hc : decide (a = b) = c) (hm : behindInMarks .Eq r = false := by rfl) : Tst X (.Compare l [.Eq] [r] p) st c st₂ :=
  Tst.cast (Tst.cmp hl hr Op.eq_str hm) (by rw [← hc]; by_cases h : a = b <;> simp [h])
theorem c4 (ok : X.Ok (k + 1)) (tp : Top ad X.w X.K) (c d : Nat) : Calls X (.glob (.ref (ad 4))) [.str [c], .str [d]] st (.int (subc c d)) st := by
  refine Calls.fn 4 ["ch_a", "ch_b"] ok tp (loc₀ := [("ch_b", .str [d]), ("ch_a", .str [c])]) rfl (fun _ _ _ _ vals h => by match vals, h with | [a, b], _ => rfl) rfl rfl (by decide +kernel) (by decide +kernel) rfl rfl rfl (fun X' ok' tp' henv => ?_)
  apply Exists.intro
  conv => arg 2; whnf
  unfold subc
  by_cases h1 : c = d
  · rw [if_pos h1]
    refine Exs.ret (Ex.if_t (Tst.eqs (by by_in) (by by_in) true (by simp [h1])) (Exs.ret (Ex.ret (by by_in))))
  · rw [if_neg h1]
    refine Exs.cons (Ex.if_f (Tst.eqs (by by_in) (by by_in) false (by simp [h1])) Exs.nil) ?_
    have mL : ∀ (e : Nat) (apos p : Pos) (x : Str) (np : Pos) st, Ev X' (.Name x np) st (.str [e]) st → (apos.endLine == p.line) = true → Ev X' (.Call (.Attribute (.Name x np) "lower" apos) [] [] p) st (.str (lw e)) st := fun e apos p x np st h hp =>
      Ev.meth0 ok' h (meth_str F.slot_str_lower F.type_str_lower) (Calls.lower (T_of _) (by simp)) rfl hp
    by_cases h2 : lw c = lw d
    · rw [if_pos h2]
      refine Exs.ret (Ex.if_t (Tst.eqs (mL _ _ _ _ _ _ (by by_in) rfl) (mL _ _ _ _ _ _ (by by_in) rfl) true (by simp [h2])) (Exs.ret (Ex.ret (by by_in))))
    · rw [if_neg h2]
      refine Exs.cons (Ex.if_f (Tst.eqs (mL _ _ _ _ _ _ (by by_in) rfl) (mL _ _ _ _ _ _ (by by_in) rfl) false (by simp [h2])) Exs.nil) ?_
      exact Exs.ret (Ex.ret (by by_in))
end




-- the plain routine
noncomputable def cpre : List Nat → List Nat → Nat
  | x :: a, y :: b => if x = y then cpre a b + 1 else 0
  | _, _ => 0
theorem cpre_le : ∀ (a b : List Nat), cpre a b ≤ a.length ∧ cpre a b ≤ b.length
  | [], _ => by simp [cpre]
  | _ :: _, [] => by simp [cpre]
  | x :: a, y :: b => by
    have ih := cpre_le a b
    unfold cpre
    split <;> simp <;> omega
theorem cpre_lt : ∀ (a b : List Nat) (i : Nat), i < cpre a b → a[i]? = b[i]? ∧ i < a.length ∧ i < b.length
  | [], _, i, h => by simp [cpre] at h
  | _ :: _, [], i, h => by simp [cpre] at h
  | x :: a, y :: b, i, h => by
    unfold cpre at h
    split at h
    · rename_i e; subst e
      cases i with
      | zero => simp
      | succ i =>
        have := cpre_lt a b i (by grind)
        simpa using this
    · grind
theorem cpre_at : ∀ (a b : List Nat), cpre a b < a.length → cpre a b < b.length → a[cpre a b]? ≠ b[cpre a b]?
  | [], _, h, _ => by simp [cpre] at h
  | _ :: _, [], _, h => by simp [cpre] at h
  | x :: a, y :: b, h1, h2 => by
    unfold cpre at h1 h2 ⊢
    split
    · rename_i e
      rw [if_pos e] at h1 h2
      have := cpre_at a b (by simpa using h1) (by simpa using h2)
      simpa using this
    · rename_i e; simpa using e

section
variable {X X' : Cx} {st st₁ st₂ st₃ st' : PSt} {ad : Nat → Addr} {k : Nat}

theorem Truth.cast' {a : PV} {b c : Bool} (h : Truth X a st b st') (e : b = c) : Truth X a st c st' := e ▸ h
theorem slc_from {α : Type} (l : List α) (i : Nat) : slc l (some (i : Int)) none = l.drop i := by
  simp only [slc, clip]
  have : ¬ (i : Int) < 0 := by grind
  rw [if_neg this]
  simp only [Int.toNat_natCast]
  by_cases h : i ≤ l.length
  · rw [Nat.min_eq_left h, List.take_of_length_le (by simp)]
  · rw [Nat.min_eq_right (by grind), Nat.sub_self, List.drop_of_length_le (by grind)]; simp; grind
theorem Tst.sl {e : Expr} {p q : Pos} {x : Str} {np : Pos} {l : List Nat} {i : Nat} (hl : Ev X (.Name x np) st (.str l) st) (hi : Ev X e st (.int (i : Int)) st) (hlen : l.length ≤ 1000) (b : Bool) (hb : decide (i < l.length) = b) :
    Tst X (.Subscript (.Name x np) (.Slice (some e) none none q) p) st b st := by
  refine Tst.cast (Tst.val (Ev.slice hl (.some hi) .none (.int _) .none (Cut.str (by rw [sizeLine_eq]; grind))) (Truth.str ?_) rfl) ?_
  · rw [slc_from]; simp; grind
  · rw [slc_from, ← hb]
    by_cases h : i < l.length
    · rw [decide_eq_true h]
      have : (l.drop i).length ≠ 0 := by simp; grind
      cases e : l.drop i with
      | nil => rw [e] at this; simp at this
      | cons _ _ => rfl
    · rw [decide_eq_false h, List.drop_of_length_le (by grind)]; rfl
theorem charAt_nat {l : List Nat} {i : Nat} {c : Nat} (h : l[i]? = some c) : Txt.charAt (T l) (i : Int) = some c := by
  unfold Txt.charAt
  have hl : i < l.length := (List.getElem?_eq_some_iff.mp h).1
  have : seqIndex? (i : Int) (T l).length = some i := by
    unfold seqIndex?; rw [T_len]
    have h1 : ¬ (i : Int) < 0 := by grind
    have h2 : (i : Int) < (l.length : Nat) := by grind
    simp [h1, h2]
  rw [this]
  simpa using h

theorem slc_upto0 {α : Type} (l : List α) : slc l none none = l := by simp [slc, clip]
theorem slc_uptoN {α : Type} (l : List α) (i : Nat) (h : 0 < i) : slc l none (some (-(i : Int))) = l.take (l.length - i) := by
  simp only [slc, clip, List.drop_zero, Nat.sub_zero]
  have : -(i : Int) < 0 := by grind
  rw [if_pos this]
  congr 1; grind
/-- x[:post or None] at post = -i -/
theorem Ev.upTo {p q bp cp : Pos} {kc : Nat} {x y : Str} {np mp : Pos} {l : List Nat} {i : Nat} (hl : Ev X (.Name x np) st (.str l) st) (hi : Ev X (.Name y mp) st (.int (-(i : Int))) st) (hlen : l.length ≤ 1000) :
    Ev X (.Subscript (.Name x np) (.Slice Option.none (Option.some (.BoolOp .Or [.Name y mp, .Constant .none kc cp] bp)) Option.none q) p) st (.str (l.take (l.length - i))) st := by
  by_cases h : i = 0
  · subst h
    refine Ev.cast (Ev.slice hl .none (.some (Ev.or2_f hi (Truth.int.cast' rfl) Ev.none)) .none .none (Cut.str (by rw [sizeLine_eq]; grind))) ?_
    rw [slc_upto0]; simp
  · refine Ev.cast (Ev.slice hl .none (.some (Ev.or2_t hi (Truth.int.cast' ?_))) .none (.int _) (Cut.str (by rw [sizeLine_eq]; grind))) ?_
    · simp; omega
    · rw [slc_uptoN l i (by grind)]
end





-- the rows of the table
structure IS where
  row : List Int
  dist : Int
  res : Int
  mn : Int
noncomputable def istep (bc : Nat) (a : List Nat) (i : Nat) (s : IS) : IS :=
  let sub := s.dist + subc bc (a.getD i 0)
  let d := s.row.getD i 0
  let r := min (min s.res d + 2) sub
  ⟨s.row.set i r, d, r, if r < s.mn then r else s.mn⟩
noncomputable def ist (bc : Nat) (a : List Nat) (s : IS) : Nat → IS
  | 0 => s
  | i + 1 => istep bc a i (ist bc a s i)
noncomputable def maxI : Int := 9223372036854775807
noncomputable def rowOf (a b : List Nat) (row : List Int) (j : Nat) : IS := ist (b.getD j 0) a ⟨row, (j : Int) * 2, (j : Int) * 2, maxI⟩ a.length
noncomputable def rows (a b : List Nat) : Nat → List Int
  | 0 => (List.range a.length).map fun i : Nat => 2 + (i : Int) * 2
  | j + 1 => (rowOf a b (rows a b j) j).row
noncomputable def resOf (a b : List Nat) : Nat → Int
  | 0 => 0
  | j + 1 => (rowOf a b (rows a b j) j).res
noncomputable def levT (a b : List Nat) (mx : Int) : Int :=
  if ((b.length : Int) - a.length) * 2 > mx then mx + 1
  else if (List.range b.length).any (fun j => decide ((rowOf a b (rows a b j) j).mn > mx)) then mx + 1
  else resOf a b b.length

theorem ist_len (bc : Nat) (a : List Nat) (s : IS) : ∀ i, (ist bc a s i).row.length = s.row.length
  | 0 => rfl
  | i + 1 => by simp [ist, istep, ist_len bc a s i]
theorem rows_len (a b : List Nat) : ∀ j, (rows a b j).length = a.length
  | 0 => by simp [rows]
  | j + 1 => by simp only [rows, rowOf]; rw [ist_len]; exact rows_len a b j

section
variable {X X' : Cx} {st st₁ st₂ st₃ st' : PSt} {ad : Nat → Addr} {k : Nat}

theorem Tst.chars {x y : Str} {np mp p p1 p2 : Pos} {ex ey : Expr} {a b : List Nat} {i j : Int} {c d : Nat} (hx : Ev X (.Name x np) st (.str a) st) (hy : Ev X (.Name y mp) st (.str b) st) (ei : Ev X ex st (.int i) st) (ej : Ev X ey st (.int j) st) (hi : fitsSsize i = true) (hj : fitsSsize j = true)
    (hc : Txt.charAt (T a) i = some c) (hd : Txt.charAt (T b) j = some d) (r : Bool) (hr : decide (c = d) = r) : Tst X (.Compare (.Subscript (.Name x np) ex p1) [.Eq] [.Subscript (.Name y mp) ey p2] p) st r st :=
  Tst.cast (Tst.cmp (Ev.item hx ei (Item.str hi hc)) (Ev.item hy ej (Item.str hj hd)) Op.eq_str rfl) (by rw [← hr]; by_cases h : c = d <;> simp [h])

theorem fits_nat {n : Nat} (h : n < 2 ^ 62) : fitsSsize (n : Int) = true := by
  unfold fitsSsize; rw [Bool.not_eq_true', decide_eq_false (by grind), decide_eq_false (by grind)]; rfl
theorem fits_int {i : Int} (h : -(2 ^ 62) ≤ i) (h' : i < 2 ^ 62) : fitsSsize i = true := by
  unfold fitsSsize; rw [Bool.not_eq_true', decide_eq_false (by grind), decide_eq_false (by grind)]; rfl

inductive Looks (l : List (Str × PV)) : List (Str × PV) → Prop
  | nil : Looks l []
  | cons (x : Str) (v : PV) (r : List (Str × PV)) : Look l x v → Looks l r → Looks l ((x, v) :: r)
theorem Looks.mem {l r : List (Str × PV)} (h : Looks l r) : ∀ x v, (x, v) ∈ r → Look l x v := by
  induction h with
  | nil => intro x v h; cases h
  | cons x v r h _ ih =>
    intro y w hm
    rcases List.mem_cons.mp hm with e | e
    · cases e; exact h
    · exact ih y w e
theorem lookup_mem' {l : List (Str × PV)} {x : Str} {v : PV} (h : l.lookup x = some v) : (x, v) ∈ l := by
  induction l with
  | nil => cases h
  | cons p r ih =>
    obtain ⟨y, u⟩ := p
    rw [List.lookup_cons] at h
    split at h
    · rename_i e; cases h; rw [beq_iff_eq] at e; subst e; exact .head _
    · exact .tail _ (ih h)
/-- forget names -/
theorem Fits.names {l l' : List (Str × PV)} {sto : List PO} (h : Looks l l') (hl : (l'.all fun p => p.2.inS sto.length) = true) (ho : (sto.all (PO.inS sto.length)) = true) : Fits ⟨l, sto⟩ ⟨l', sto⟩ :=
  ⟨fun x v e => (h.mem x v (lookup_mem' e)).eq, hl, by simp, ho⟩

theorem row_get {sto : List PO} {o : PO} : (sto ++ [o])[sto.length]? = some o := by simp
theorem row_set {sto : List PO} {o o' : PO} : (sto ++ [o]).set sto.length o' = sto ++ [o'] := by simp
noncomputable def rowPV (r : List Int) : PO := .list (r.map .int)
theorem row_set' {sto : List PO} {o : PO} {r : List Int} {i : Nat} {v : Int} : (sto ++ [o]).set sto.length (.list ((r.map PV.int).set i (.int v))) = sto ++ [rowPV (r.set i v)] := by
  rw [row_set, rowPV, List.map_set]

mutual
theorem PV.inS_mono {k n : Nat} (h : k ≤ n) : ∀ {x : PV}, x.inS k = true → x.inS n = true
  | .none, _ => rfl
  | .bool _, _ => rfl
  | .int _, _ => rfl
  | .str _, _ => rfl
  | .glob _, _ => rfl
  | .loc m, e => by simp [PV.inS] at e ⊢; grind
  | .tup xs, e => by simp only [PV.inS] at e ⊢; exact PV.inAll_mono h e
theorem PV.inAll_mono {k n : Nat} (h : k ≤ n) : ∀ {xs : List PV}, PV.inAll k xs = true → PV.inAll n xs = true
  | [], _ => rfl
  | x :: r, e => by
    simp only [PV.inAll, Bool.and_eq_true] at e ⊢
    exact ⟨PV.inS_mono h e.1, PV.inAll_mono h e.2⟩
end
theorem PO.inS_mono {k n : Nat} (h : k ≤ n) {o : PO} (e : o.inS k = true) : o.inS n = true := by
  cases o with
  | list xs => exact PV.inAll_mono h e
  | dictS ps => exact List.all_eq_true.mpr fun p hp => PV.inS_mono h (List.all_eq_true.mp e p hp)
  | dictI ps => exact List.all_eq_true.mpr fun p hp => PV.inS_mono h (List.all_eq_true.mp e p hp)
theorem inAll_ints (k : Nat) : ∀ r : List Int, PV.inAll k (r.map .int) = true
  | [] => rfl
  | i :: r => by simp only [List.map_cons, PV.inAll, PV.inS, Bool.true_and]; exact inAll_ints k r
theorem closed_snoc {sto : List PO} {o : PO} (hcl : (sto.all (PO.inS sto.length)) = true) (ho : o.inS (sto.length + 1) = true) : ((sto ++ [o]).all (PO.inS (sto ++ [o]).length)) = true := by
  rw [List.all_append, List.length_append, List.length_singleton, Bool.and_eq_true]
  refine ⟨List.all_eq_true.mpr fun p hp => PO.inS_mono (Nat.le_succ _) (List.all_eq_true.mp hcl p hp), ?_⟩
  simp [ho]
theorem row_closed {sto : List PO} (hcl : (sto.all (PO.inS sto.length)) = true) (r : List Int) : ((sto ++ [rowPV r]).all (PO.inS (sto ++ [rowPV r]).length)) = true := closed_snoc hcl (inAll_ints _ r)
noncomputable def sBody : Stmt → List Stmt
  | .For _ _ b _ _ => b
  | .While _ b _ _ => b
  | .If _ b _ _ => b
  | _ => []
noncomputable def inner5 : Stmt := nth (sBody (nth (fnB 5) 15)) 3

theorem levInner (ok : X.Ok (k + 1)) (tp : Top ad X.w X.K) (henv : X.env.scope = fnS 5) (sto : List PO) (hcl : (sto.all (PO.inS sto.length)) = true) (a b : List Nat) (mx : Int) (bc : Nat) (j : Int) (s : IS) (ha : a.length ≤ 1000) (hr : s.row.length = a.length) :
    Ex X inner5 ⟨[("max_cost", .int mx), ("b", .str b), ("a", .str a), ("row", .loc sto.length), ("result", .int s.res), ("bindex", .int j), ("bchar", .str [bc]), ("distance", .int s.dist), ("minimum", .int s.mn)], sto ++ [rowPV s.row]⟩ .next
      ⟨[("max_cost", .int mx), ("b", .str b), ("a", .str a), ("row", .loc sto.length), ("result", .int (ist bc a s a.length).res), ("bindex", .int j), ("bchar", .str [bc]), ("distance", .int (ist bc a s a.length).dist), ("minimum", .int (ist bc a s a.length).mn)], sto ++ [rowPV (ist bc a s a.length).row]⟩ := by
  have hcl2 : ∀ (r : List Int), ((sto ++ [rowPV r]).all (PO.inS (sto ++ [rowPV r]).length)) = true := fun r => row_closed hcl r
  conv => arg 2; whnf
  refine Ex.forS (items := rngL 0 1 a.length) (depS := fun _ => True) (f := .next) (st₁ := ⟨[("max_cost", .int mx), ("b", .str b), ("a", .str a), ("row", .loc sto.length), ("result", .int s.res), ("bindex", .int j), ("bchar", .str [bc]), ("distance", .int s.dist), ("minimum", .int s.mn)], sto ++ [rowPV s.row]⟩)
    ok ?_ ?_ a.length (fun i => ⟨[("max_cost", .int mx), ("b", .str b), ("a", .str a), ("row", .loc sto.length), ("result", .int (ist bc a s i).res), ("bindex", .int j), ("bchar", .str [bc]), ("distance", .int (ist bc a s i).dist), ("minimum", .int (ist bc a s i).mn)], sto ++ [rowPV (ist bc a s i).row]⟩) rfl ?_ ?_ ?_
  · boot_fast
  · apply Src.rng
    · exact ok
    · apply RngV.one
      · refine' Ev.bi 5 ok tp ?a1 gB5 ?a2; (case a1 => boot_fast); (case a2 => decide)
      · cells_apart
      · unfold Plain; intro _; with_unfolding_all rfl
    · exact small_one (by decide) (by decide) (by grind) (by omega)
    · rw [rangeSize_nat]; simp
  · intro i hi
    refine ⟨.int i, [("max_cost", .int mx), ("b", .str b), ("a", .str a), ("row", .loc sto.length), ("result", .int (ist bc a s i).res), ("bindex", .int j), ("bchar", .str [bc]), ("distance", .int (ist bc a s i).dist), ("minimum", .int (ist bc a s i).mn), ("index", .int i)], ?_, trivial, ?_, ?_⟩
    · rw [rngL_get hi]; simp
    · by_place
    · have hlen := ist_len bc a s i
      have hri : (ist bc a s i).row[i]? = some ((ist bc a s i).row.getD i 0) := by
        rw [List.getD_eq_getElem?_getD, List.getElem?_eq_getElem (by grind)]; rfl
      have hai : a[i]? = some (a.getD i 0) := by
        rw [List.getD_eq_getElem?_getD, List.getElem?_eq_getElem (by omega)]; rfl
      generalize hs : ist bc a s i = q at hlen hri
      apply Exs.cut (st₁ := ⟨[("max_cost", .int mx), ("b", .str b), ("a", .str a), ("row", .loc sto.length), ("result", .int (istep bc a i q).res), ("bindex", .int j), ("bchar", .str [bc]), ("distance", .int (istep bc a i q).dist), ("minimum", .int (istep bc a i q).mn), ("index", .int i),
        ("substitute", .int (q.dist + subc bc (a.getD i 0))), ("insert_delete", .int (min q.res (q.row.getD i 0) + 2))], sto ++ [rowPV (istep bc a i q).row]⟩)
      · apply Exs.cons
        · apply Ex.assign
          · exact ok
          · apply Ev.binop
            · by_in
            · refine' Ev.callF 4 ok tp ?a1 rfl ?a2 ?a3 ?a4 ?a5
              case a1 => boot_fast
              case a2 => decide
              case a3 =>
                apply Evs.cons
                · by_in
                · apply Evs.cons
                  · apply Ev.item
                    · by_in
                    · by_in
                    · exact Item.str (fits_nat (by grind)) (charAt_nat hai)
                  · exact Evs.nil
                  · intro _; with_unfolding_all rfl
                · intro _; with_unfolding_all rfl
              case a4 => unfold Plain; intro _; with_unfolding_all rfl
              case a5 => exact c4 ok tp _ _
            · exact Op.add_int
          · boot_fast
          · by_place
          · rfl
        apply Exs.cons
        · apply Ex.assign
          · exact ok
          · apply Ev.item
            · by_in
            · by_in
            · exact Item.list row_get (by grind) (by grind) (by simp only [Int.toNat_natCast, List.getElem?_map, hri]; rfl)
          · boot_fast
          · by_place
          · rfl
        apply Exs.cons
        · apply Ex.assign
          · exact ok
          · apply Ev.binop
            · refine' Ev.callB 4 ok tp ?a1 gB4 ?a2 ?a3 ?a4 ?a5
              case a1 => boot_fast
              case a2 => decide
              case a3 => cells_apart
              case a4 => unfold Plain; intro _; with_unfolding_all rfl
              case a5 => exact Calls.min2 ok
            · by_in
            · exact Op.add_int
          · boot_fast
          · by_place
          · rfl
        apply Exs.cons
        · apply Ex.assign
          · exact ok
          · refine' Ev.callB 4 ok tp ?b1 gB4 ?b2 ?b3 ?b4 ?b5
            case b1 => boot_fast
            case b2 => decide
            case b3 => cells_apart
            case b4 => unfold Plain; intro _; with_unfolding_all rfl
            case b5 => exact Calls.min2 ok
          · boot_fast
          · by_place
          · rfl
        apply Exs.cons
        · apply Ex.setIt
          · by_in
          · by_in
          · by_in
          · exact SetIt.list row_get (by grind) (by grind) (by rw [List.length_map]; grind)
          · rfl
        rw [Int.toNat_natCast, row_set']
        refine Exs.cons ?_ Exs.nil
        · by_cases hm : min (min q.res (q.row.getD i 0) + 2) (q.dist + subc bc (a.getD i 0)) < q.mn
          · apply Ex.if_t
            · apply Tst.cast
              · apply Tst.cmp
                · by_in
                · by_in
                · exact Op.lt_int
                · rfl
              · exact decide_eq_true hm
            · refine Exs.cons ?_ Exs.nil
              apply Ex.to
              · apply Ex.assign
                · exact ok
                · by_in
                · boot_fast
                · by_place
                · rfl
              · simp only [istep, if_pos hm]
          · apply Ex.if_f
            · apply Tst.cast
              · apply Tst.cmp
                · by_in
                · by_in
                · exact Op.lt_int
                · rfl
              · exact decide_eq_false hm
            · apply Exs.to
              · exact Exs.nil
              · simp only [istep, if_neg hm]
      · rw [show ist bc a s (i + 1) = istep bc a i q by rw [← hs]; rfl]
        apply Fits.names
        · repeat (first | exact Looks.nil | (apply Looks.cons; (· by_item)))
        · simp [PV.inS, PV.inAll]
        · exact hcl2 _
      · simp
  · exact .inl ⟨rfl, rfl, by rw [rngL_len], trivial⟩
  · intro _; with_unfolding_all rfl
end





section
variable {X X' : Cx} {st st₁ st₂ st₃ st' : PSt} {ad : Nat → Addr} {k : Nat}
theorem GoodE.names {μ : Mem} {s : Shared} {l l' : List (Str × PV)} {sto : List PO} (h : Looks l l') (g : GoodE X μ ⟨l, sto⟩ s) : GoodE X μ ⟨l', sto⟩ s := let ⟨m, o, G⟩ := g
  ⟨m, o, G.fr, fun x v e => G.loc x v (h.mem x v (lookup_mem' e)).eq, G.news, G.sto, G.len, G.nodup, G.pin⟩
theorem Exs.names {l l' : List (Str × PV)} {sto : List PO} {c : List Stmt} {f : PFlow} (h : Looks l l') (hc : Exs X c ⟨l', sto⟩ f st') : Exs X c ⟨l, sto⟩ f st' := fun μ s g => hc μ s (g.names h)

theorem firstBad (p : Nat → Bool) : ∀ n, (∀ j, j < n → p j = false) ∨ ∃ r, r < n ∧ p r = true ∧ ∀ j, j < r → p j = false
  | 0 => .inl fun j h => absurd h (Nat.not_lt_zero _)
  | n + 1 => by
    rcases firstBad p n with h | ⟨r, h1, h2, h3⟩
    · cases e : p n with
      | true => exact .inr ⟨n, Nat.lt_succ_self _, e, h⟩
      | false => exact .inl fun j hj => if q : j < n then h j q else (by rw [show j = n by grind]; exact e)
    · exact .inr ⟨r, by grind, h2, h3⟩

noncomputable def outer5 : Stmt := nth (fnB 5) 15

theorem levBody (ok : X.Ok (k + 1)) (tp : Top ad X.w X.K) (henv : X.env.scope = fnS 5) (sto : List PO) (hcl : (sto.all (PO.inS sto.length)) = true) (a b : List Nat) (mx : Int) (ha : a.length ≤ 1000) (hb : b.length ≤ 1000) (f : PFlow) (st' : PSt) (j : Nat) (hj : j < b.length)
    (hf : (decide ((rowOf a b (rows a b j) j).mn > mx) = false ∧ f = .next ∧ st' = ⟨[("max_cost", .int mx), ("b", .str b), ("a", .str a), ("row", .loc sto.length), ("result", .int (resOf a b (j + 1)))], sto ++ [rowPV (rows a b (j + 1))]⟩) ∨
      (decide ((rowOf a b (rows a b j) j).mn > mx) = true ∧ f = .ret (.int (mx + 1)) ∧ st' = ⟨[], sto ++ [rowPV (rows a b (j + 1))]⟩)) :
    Exs X (sBody outer5) ⟨[("max_cost", .int mx), ("b", .str b), ("a", .str a), ("row", .loc sto.length), ("result", .int (resOf a b j)), ("bindex", .int j)], sto ++ [rowPV (rows a b j)]⟩ f st' := by
  have hbj : b[j]? = some (b.getD j 0) := by
    rw [List.getD_eq_getElem?_getD, List.getElem?_eq_getElem hj]; rfl
  conv => arg 2; whnf
  apply Exs.cons
  · apply Ex.assign
    · exact ok
    · apply Ev.item
      · by_in
      · by_in
      · exact Item.str (fits_nat (by grind)) (charAt_nat hbj)
    · boot_fast
    · by_place
    · rfl
  apply Exs.cons
  · apply Ex.assign2
    · by_in
    · apply As.name
      · exact ok
      · boot_fast
      · by_place
    · apply As.name
      · exact ok
      · boot_fast
      · by_place
    · intro _; with_unfolding_all rfl
    · intro _; with_unfolding_all rfl
  apply Exs.cons
  · apply Ex.assign
    · exact ok
    · by_in
    · boot_fast
    · by_place
    · rfl
  apply Exs.cons
  · exact levInner ok tp henv sto hcl a b mx (b.getD j 0) j ⟨rows a b j, (j : Int) * 2, (j : Int) * 2, maxI⟩ ha (rows_len a b j)
  rw [show ist (b.getD j 0) a ⟨rows a b j, (j : Int) * 2, (j : Int) * 2, maxI⟩ a.length = rowOf a b (rows a b j) j from rfl]
  rw [show rows a b (j + 1) = (rowOf a b (rows a b j) j).row from rfl] at hf
  rw [show resOf a b (j + 1) = (rowOf a b (rows a b j) j).res from rfl] at hf
  generalize rowOf a b (rows a b j) j = R at hf
  rcases hf with ⟨hd, rfl, rfl⟩ | ⟨hd, rfl, rfl⟩
  · apply Exs.cut (st₁ := ⟨[("max_cost", .int mx), ("b", .str b), ("a", .str a), ("row", .loc sto.length), ("result", .int R.res), ("bindex", .int j), ("bchar", .str [b.getD j 0]), ("distance", .int R.dist), ("minimum", .int R.mn)], sto ++ [rowPV R.row]⟩)
    · refine Exs.cons ?_ Exs.nil
      apply Ex.if_f
      · apply Tst.cast
        · apply Tst.cmp
          · by_in
          · by_in
          · exact Op.gt_int
          · rfl
        · exact hd
      · exact Exs.nil
    · apply Fits.names
      · repeat (first | exact Looks.nil | (apply Looks.cons; (· by_item)))
      · simp [PV.inS]
      · exact row_closed hcl _
    · simp
  · apply Exs.cut_ret (st₁ := ⟨[("max_cost", .int mx), ("b", .str b), ("a", .str a), ("row", .loc sto.length), ("result", .int R.res), ("bindex", .int j), ("bchar", .str [b.getD j 0]), ("distance", .int R.dist), ("minimum", .int R.mn)], sto ++ [rowPV R.row]⟩)
    · apply Exs.ret
      apply Ex.if_t
      · apply Tst.cast
        · apply Tst.cmp
          · by_in
          · by_in
          · exact Op.gt_int
          · rfl
        · exact hd
      · apply Exs.ret
        apply Ex.ret
        by_in
    · apply Fits.names
      · exact Looks.nil
      · rfl
      · exact row_closed hcl _
    · simp
    · rfl

theorem levOuter (ok : X.Ok (k + 1)) (tp : Top ad X.w X.K) (henv : X.env.scope = fnS 5) (sto : List PO) (hcl : (sto.all (PO.inS sto.length)) = true) (a b : List Nat) (mx : Int) (ha : a.length ≤ 1000) (hb : b.length ≤ 1000) (f : PFlow) (st' : PSt)
    (hf : ((∀ j, j < b.length → decide ((rowOf a b (rows a b j) j).mn > mx) = false) ∧ f = .next ∧ st' = ⟨[("max_cost", .int mx), ("b", .str b), ("a", .str a), ("row", .loc sto.length), ("result", .int (resOf a b b.length))], sto ++ [rowPV (rows a b b.length)]⟩) ∨
      (∃ r, r < b.length ∧ decide ((rowOf a b (rows a b r) r).mn > mx) = true ∧ (∀ j, j < r → decide ((rowOf a b (rows a b j) j).mn > mx) = false) ∧ f = .ret (.int (mx + 1)) ∧ st' = ⟨[], sto ++ [rowPV (rows a b (r + 1))]⟩)) :
    Ex X outer5 ⟨[("max_cost", .int mx), ("b", .str b), ("a", .str a), ("row", .loc sto.length), ("result", .int 0)], sto ++ [rowPV (rows a b 0)]⟩ f st' := by
  let S : Nat → PSt := fun j => ⟨[("max_cost", .int mx), ("b", .str b), ("a", .str a), ("row", .loc sto.length), ("result", .int (resOf a b j))], sto ++ [rowPV (rows a b j)]⟩
  have put : ∀ j : Nat, Put (S j).loc "bindex" (.int j) [("max_cost", .int mx), ("b", .str b), ("a", .str a), ("row", .loc sto.length), ("result", .int (resOf a b j)), ("bindex", .int j)] := fun j => by
    show Put [("max_cost", .int mx), ("b", .str b), ("a", .str a), ("row", .loc sto.length), ("result", .int (resOf a b j))] "bindex" (.int j) _
    by_place
  conv => arg 2; whnf
  rcases hf with ⟨hall, rfl, rfl⟩ | ⟨r, hr, hbad, hall, rfl, rfl⟩
  · refine Ex.forS (items := rngL 0 1 b.length) (depS := fun _ => True) (f := .next) (st₁ := ⟨[("max_cost", .int mx), ("b", .str b), ("a", .str a), ("row", .loc sto.length), ("result", .int 0)], sto ++ [rowPV (rows a b 0)]⟩) ok ?_ ?_ b.length S rfl ?_ ?_ ?_
    · boot_fast
    · apply Src.rng
      · exact ok
      · apply RngV.one
        · refine' Ev.bi 5 ok tp ?a1 gB5 ?a2; (case a1 => boot_fast); (case a2 => decide)
        · cells_apart
        · unfold Plain; intro _; with_unfolding_all rfl
      · exact small_one (by decide) (by decide) (by grind) (by grind)
      · rw [rangeSize_nat]; simp
    · intro i hi
      exact ⟨.int i, _, by rw [rngL_get hi]; simp, trivial, put i, levBody ok tp henv sto hcl a b mx ha hb _ _ i hi (.inl ⟨hall i hi, rfl, rfl⟩)⟩
    · exact .inl ⟨rfl, rfl, by rw [rngL_len], trivial⟩
    · intro _; rfl
  · refine Ex.forS (items := rngL 0 1 b.length) (depS := fun _ => True) (f := .ret (.int (mx + 1))) (st₁ := ⟨[("max_cost", .int mx), ("b", .str b), ("a", .str a), ("row", .loc sto.length), ("result", .int 0)], sto ++ [rowPV (rows a b 0)]⟩) ok ?_ ?_ r S rfl ?_ ?_ ?_
    · boot_fast
    · apply Src.rng
      · exact ok
      · apply RngV.one
        · refine' Ev.bi 5 ok tp ?a1 gB5 ?a2; (case a1 => boot_fast); (case a2 => decide)
        · cells_apart
        · unfold Plain; intro _; with_unfolding_all rfl
      · exact small_one (by decide) (by decide) (by grind) (by grind)
      · rw [rangeSize_nat]; simp
    · intro i hi
      exact ⟨.int i, _, by rw [rngL_get (by grind)]; simp, trivial, put i, levBody ok tp henv sto hcl a b mx ha hb _ _ i (by grind) (.inl ⟨hall i hi, rfl, rfl⟩)⟩
    · exact .inr ⟨.int r, _, .int (mx + 1), by rw [rngL_get hr]; simp, trivial, put r, rfl, levBody ok tp henv sto hcl a b mx ha hb _ _ r hr (.inr ⟨hbad, rfl, rfl⟩)⟩
    · intro _; rfl
end





section
variable {X X' : Cx} {st st₁ st₂ st₃ st' : PSt} {ad : Nat → Addr} {k : Nat}
theorem rng2 (n : Nat) (h : n ≤ 1000) : Builtin.Range.small 2 (2 * ((n : Int) + 1)) 2 = true ∧ Builtin.Range.rangeSize 2 (2 * ((n : Int) + 1)) 2 = (n : Int) := by
  have e : Builtin.Range.rangeSize 2 (2 * ((n : Int) + 1)) 2 = (n : Int) := by
    unfold Builtin.Range.rangeSize
    simp only [show (2 : Int) > 0 by decide, if_true]
    split <;> grind
  have fits : ∀ x : Int, 0 ≤ x → x ≤ 10000 → Builtin.Range.rangeFitsLong x = true := fun x h0 h1 => by
    unfold Builtin.Range.rangeFitsLong
    rw [decide_eq_true (by grind), decide_eq_true (by grind)]; rfl
  refine ⟨?_, e⟩
  unfold Builtin.Range.small
  rw [e, fits 2 (by decide) (by decide), fits (2 * ((n : Int) + 1)) (by grind) (by grind), fits n (by grind) (by grind), if_pos (by decide), fits (2 * ((n : Int) + 1) + (2 - 1)) (by grind) (by grind)]
  simp
theorem levTail (ok : X.Ok (k + 1)) (tp : Top ad X.w X.K) (henv : X.env.scope = fnS 5) (sto : List PO) (hcl : (sto.all (PO.inS sto.length)) = true) (a b : List Nat) (mx pr po : Int) (ha : a.length ≤ 1000) (hb : b.length ≤ 1000) :
    Exs X ((fnB 5).drop 12) ⟨[("max_cost", .int mx), ("b", .str b), ("a", .str a), ("pre", .int pr), ("post", .int po)], sto⟩ (.ret (.int (levT a b mx))) ⟨[], sto⟩ := by
  unfold levT
  by_cases h1 : ((b.length : Int) - a.length) * 2 > mx
  · rw [if_pos h1]
    conv => arg 2; whnf
    apply Exs.cut_ret
    · apply Exs.ret
      apply Ex.if_t
      · apply Tst.cast
        · apply Tst.cmp
          · by_in
          · by_in
          · exact Op.gt_int
          · rfl
        · exact decide_eq_true h1
      · apply Exs.ret
        apply Ex.ret
        by_in
    · apply Fits.names
      · exact Looks.nil
      · rfl
      · exact hcl
    · exact Nat.le_refl _
    · rfl
  · rw [if_neg h1]
    have chain : ∀ v st', Exs X ((fnB 5).drop 15) ⟨[("max_cost", .int mx), ("b", .str b), ("a", .str a), ("row", .loc sto.length), ("result", .int 0)], sto ++ [rowPV (rows a b 0)]⟩ (.ret v) st' →
        Exs X ((fnB 5).drop 12) ⟨[("max_cost", .int mx), ("b", .str b), ("a", .str a), ("pre", .int pr), ("post", .int po)], sto⟩ (.ret v) st' := fun v st' H => by
      conv => arg 2; whnf
      apply Exs.cons
      · apply Ex.if_f
        · apply Tst.cast
          · apply Tst.cmp
            · by_in
            · by_in
            · exact Op.gt_int
            · rfl
          · exact decide_eq_false h1
        · exact Exs.nil
      apply Exs.cons
      · apply Ex.assign
        · exact ok
        · refine' Ev.list_rng ok ?a1 ?a2 ?a3 ?a4 ?a5 ?a6
          case a1 => refine' Ev.bi 6 ok tp ?b1 gB6 ?b2; (case b1 => boot_fast); (case b2 => decide)
          case a2 =>
            apply RngV.three
            · refine' Ev.bi 5 ok tp ?c1 gB5 ?c2; (case c1 => boot_fast); (case c2 => decide)
            · cells_apart
            · unfold Plain; intro _; with_unfolding_all rfl
            · decide
            · exact PyProof.noPylong_small (by decide)
          case a3 => unfold Plain; intro _; with_unfolding_all rfl
          case a4 => exact (rng2 a.length ha).1
          case a5 => exact (rng2 a.length ha).2
          case a6 => grind
        · boot_fast
        · by_place
        · rfl
      apply Exs.cons
      · apply Ex.assign
        · exact ok
        · by_in
        · boot_fast
        · by_place
        · rfl
      have e0 : (PO.list (rngL 2 2 a.length)) = rowPV (rows a b 0) := by simp [rowPV, rows, rngL]
      dsimp only
      rw [e0]
      apply Exs.names (l' := [("max_cost", .int mx), ("b", .str b), ("a", .str a), ("row", .loc sto.length), ("result", .int 0)])
      · repeat (first | exact Looks.nil | (apply Looks.cons; (· by_item)))
      · exact H
    rcases firstBad (fun j => decide ((rowOf a b (rows a b j) j).mn > mx)) b.length with hall | ⟨r, hr, hbad, hall⟩
    · rw [if_neg (by
        rw [Bool.not_eq_true, List.any_eq_false]
        intro j hj
        rw [hall j (List.mem_range.mp hj)]; decide)]
      apply Exs.cut_ret
      · apply chain
        conv => arg 2; whnf
        apply Exs.cons
        · exact levOuter ok tp henv sto hcl a b mx ha hb _ _ (.inl ⟨hall, rfl, rfl⟩)
        · apply Exs.ret
          apply Ex.ret
          by_in
      · exact ⟨fun x v e => (by cases e), rfl, by simp, hcl⟩
      · simp
      · rfl
    · rw [if_pos (by
        rw [List.any_eq_true]
        exact ⟨r, List.mem_range.mpr hr, hbad⟩)]
      apply Exs.cut_ret
      · apply chain
        conv => arg 2; whnf
        apply Exs.ret
        exact levOuter ok tp henv sto hcl a b mx ha hb _ _ (.inr ⟨r, hr, hbad, hall, rfl, rfl⟩)
      · exact ⟨fun x v e => (by cases e), rfl, by simp, hcl⟩
      · simp
      · rfl
end





noncomputable def sfx (a b : List Nat) : Nat := cpre a.reverse b.reverse
noncomputable def midA (a b : List Nat) : List Nat := (a.drop (cpre a b)).take ((a.drop (cpre a b)).length - sfx (a.drop (cpre a b)) (b.drop (cpre a b)))
noncomputable def midB (a b : List Nat) : List Nat := (b.drop (cpre a b)).take ((b.drop (cpre a b)).length - sfx (a.drop (cpre a b)) (b.drop (cpre a b)))
noncomputable def lev2 (a b : List Nat) (mx : Int) : Int :=
  if a = [] ∨ b = [] then 2 * ((a.length : Int) + b.length) else if a.length > 40 ∨ b.length > 40 then mx + 1 else if b.length < a.length then levT b a mx else levT a b mx
noncomputable def lev (a b : List Nat) (mx : Int) : Int := if a = b then 0 else lev2 (midA a b) (midB a b) mx

section
variable {X X' : Cx} {st st₁ st₂ st₃ st' : PSt} {ad : Nat → Addr} {k : Nat}

theorem Ev.since {p q : Pos} {x : Str} {np : Pos} {e : Expr} {l : List Nat} {i : Nat} (hl : Ev X (.Name x np) st (.str l) st) (hi : Ev X e st (.int (i : Int)) st) (hlen : l.length ≤ 1000) :
    Ev X (.Subscript (.Name x np) (.Slice (Option.some e) Option.none Option.none q) p) st (.str (l.drop i)) st :=
  Ev.cast (Ev.slice hl (.some hi) .none (.int _) .none (Cut.str (by rw [sizeLine_eq]; grind))) (by rw [slc_from])
theorem levPre (ok : X.Ok (k + 1)) (tp : Top ad X.w X.K) (henv : X.env.scope = fnS 5) (sto : List PO) (a b : List Nat) (mx : Int) (ha : a.length ≤ 1000) (hb : b.length ≤ 1000) (h1 : a ≠ b) (v : PV) (st' : PSt)
    (H : Exs X ((fnB 5).drop 5) ⟨[("max_cost", .int mx), ("b", .str (b.drop (cpre a b))), ("a", .str (a.drop (cpre a b))), ("pre", .int (cpre a b))], sto⟩ (.ret v) st') :
    Exs X (fnB 5) ⟨[("max_cost", .int mx), ("b", .str b), ("a", .str a)], sto⟩ (.ret v) st' := by
  conv => arg 2; whnf
  apply Exs.cons
  · apply Ex.if_f
    · apply Tst.eqs
      · by_in
      · by_in
      · exact decide_eq_false h1
      · rfl
    · exact Exs.nil
  apply Exs.cons
  · apply Ex.assign
    · assumption
    · by_in
    · boot_fast
    · by_place
    · rfl
  apply Exs.cons
  · refine Ex.while (cpre a b) (fun i => ⟨[("max_cost", .int mx), ("b", .str b), ("a", .str a), ("pre", .int (i : Nat))], sto⟩) (st' := ⟨[("max_cost", .int mx), ("b", .str b), ("a", .str a), ("pre", .int (cpre a b : Nat))], sto⟩) (fun i hi => ?_) ?_
    · obtain ⟨e1, e2, e3⟩ := cpre_lt a b i hi
      refine ⟨⟨[("max_cost", .int mx), ("b", .str b), ("a", .str a), ("pre", .int (i : Nat))], sto⟩, ?_, ?_⟩
      · apply Tst.and_t
        · apply Tst.sl
          · by_in
          · by_in
          · exact ha
          · exact decide_eq_true e2
        apply Tst.and_t
        · apply Tst.sl
          · by_in
          · by_in
          · exact hb
          · exact decide_eq_true e3
        apply Tst.and_t
        · apply Tst.chars
          · by_in
          · by_in
          · by_in
          · by_in
          · exact fits_nat (by grind)
          · exact fits_nat (by grind)
          · exact charAt_nat (List.getElem?_eq_getElem e2)
          · exact charAt_nat (List.getElem?_eq_getElem e3)
          · rw [List.getElem?_eq_getElem e2, List.getElem?_eq_getElem e3] at e1
            exact decide_eq_true (Option.some.inj e1)
        exact Tst.and_nil
      · refine Exs.cons ?_ Exs.nil
        apply Ex.to
        · apply Ex.aug
          · exact ok
          · boot_fast
          · by_item
          · by_in
          · exact Op.iadd_int
          · by_place
        · push_cast; rfl
    · have hle := cpre_le a b
      by_cases ca : cpre a b < a.length
      · apply Tst.and_t
        · apply Tst.sl
          · by_in
          · by_in
          · exact ha
          · exact decide_eq_true ca
        by_cases cb : cpre a b < b.length
        · apply Tst.and_t
          · apply Tst.sl
            · by_in
            · by_in
            · exact hb
            · exact decide_eq_true cb
          apply Tst.and_f
          apply Tst.chars
          · by_in
          · by_in
          · by_in
          · by_in
          · exact fits_nat (by grind)
          · exact fits_nat (by grind)
          · exact charAt_nat (List.getElem?_eq_getElem ca)
          · exact charAt_nat (List.getElem?_eq_getElem cb)
          · have := cpre_at a b ca cb
            rw [List.getElem?_eq_getElem ca, List.getElem?_eq_getElem cb] at this
            exact decide_eq_false fun e => this (congrArg some e)
        · apply Tst.and_f
          apply Tst.sl
          · by_in
          · by_in
          · exact hb
          · exact decide_eq_false cb
      · apply Tst.and_f
        apply Tst.sl
        · by_in
        · by_in
        · exact ha
        · exact decide_eq_false ca
  apply Exs.cons
  · apply Ex.assign
    · exact ok
    · apply Ev.since
      · by_in
      · by_in
      · exact ha
    · boot_fast
    · by_place
    · rfl
  apply Exs.cons
  · apply Ex.assign
    · exact ok
    · apply Ev.since
      · by_in
      · by_in
      · exact hb
    · boot_fast
    · by_place
    · rfl
  exact H
end





theorem sfx_le (a b : List Nat) : sfx a b ≤ a.length ∧ sfx a b ≤ b.length := by
  have := cpre_le a.reverse b.reverse
  simpa [sfx] using this
theorem sfx_lt (a b : List Nat) (i : Nat) (h : i < sfx a b) : a[a.length - 1 - i]? = b[b.length - 1 - i]? ∧ i < a.length ∧ i < b.length := by
  have := cpre_lt a.reverse b.reverse i h
  simp only [List.length_reverse] at this
  rw [List.getElem?_reverse this.2.1, List.getElem?_reverse this.2.2] at this
  exact this
theorem sfx_at (a b : List Nat) (h1 : sfx a b < a.length) (h2 : sfx a b < b.length) : a[a.length - 1 - sfx a b]? ≠ b[b.length - 1 - sfx a b]? := by
  unfold sfx at h1 h2 ⊢
  have := cpre_at a.reverse b.reverse (by simpa using h1) (by simpa using h2)
  rw [List.getElem?_reverse h1, List.getElem?_reverse h2] at this
  exact this
theorem charAt_neg {l : List Nat} {i : Nat} {c : Nat} (hi : i < l.length) (h : l[l.length - 1 - i]? = some c) : Txt.charAt (T l) (-(i : Int) - 1) = some c := by
  unfold Txt.charAt
  have : seqIndex? (-(i : Int) - 1) (T l).length = some (l.length - 1 - i) := by
    unfold seqIndex?; rw [T_len]
    have h1 : -(i : Int) - 1 < 0 := by grind
    rw [if_pos h1]
    have h2 : 0 ≤ -(i : Int) - 1 + (l.length : Nat) := by grind
    have h3 : -(i : Int) - 1 + (l.length : Nat) < (l.length : Nat) := by grind
    simp only [h2, h3, decide_true, Bool.and_self, if_true]
    congr 1; grind
  rw [this]
  simpa using h
section
variable {X X' : Cx} {st st₁ st₂ st₃ st' : PSt} {ad : Nat → Addr} {k : Nat}
theorem Tst.upTo {p q bp cp : Pos} {kc : Nat} {x y : Str} {np mp : Pos} {l : List Nat} {i : Nat} (hl : Ev X (.Name x np) st (.str l) st) (hi : Ev X (.Name y mp) st (.int (-(i : Int))) st) (hlen : l.length ≤ 1000) (b : Bool) (hb : decide (i < l.length) = b) :
    Tst X (.Subscript (.Name x np) (.Slice Option.none (Option.some (.BoolOp .Or [.Name y mp, .Constant .none kc cp] bp)) Option.none q) p) st b st := by
  refine Tst.cast (Tst.val (Ev.upTo hl hi hlen) (Truth.str ?_) rfl) ?_
  · simp; grind
  · rw [← hb]
    by_cases h : i < l.length
    · rw [decide_eq_true h]
      have : (l.take (l.length - i)).length ≠ 0 := by simp; grind
      cases e : l.take (l.length - i) with
      | nil => rw [e] at this; simp at this
      | cons _ _ => rfl
    · rw [decide_eq_false h, show l.length - i = 0 by grind]; rfl

theorem levSuf (ok : X.Ok (k + 1)) (tp : Top ad X.w X.K) (henv : X.env.scope = fnS 5) (sto : List PO) (a b : List Nat) (mx pr : Int) (ha : a.length ≤ 1000) (hb : b.length ≤ 1000) (v : PV) (st' : PSt)
    (H : Exs X ((fnB 5).drop 9) ⟨[("max_cost", .int mx), ("b", .str (b.take (b.length - sfx a b))), ("a", .str (a.take (a.length - sfx a b))), ("pre", .int pr), ("post", .int (-(sfx a b : Int)))], sto⟩ (.ret v) st') :
    Exs X ((fnB 5).drop 5) ⟨[("max_cost", .int mx), ("b", .str b), ("a", .str a), ("pre", .int pr)], sto⟩ (.ret v) st' := by
  conv => arg 2; whnf
  apply Exs.cons
  · apply Ex.assign
    · assumption
    · by_in
    · boot_fast
    · by_place
    · rfl
  apply Exs.cons
  · refine Ex.while (sfx a b) (fun i => ⟨[("max_cost", .int mx), ("b", .str b), ("a", .str a), ("pre", .int pr), ("post", .int (-(i : Int)))], sto⟩) (st' := ⟨[("max_cost", .int mx), ("b", .str b), ("a", .str a), ("pre", .int pr), ("post", .int (-(sfx a b : Int)))], sto⟩) (fun i hi => ?_) ?_
    · obtain ⟨e1, e2, e3⟩ := sfx_lt a b i hi
      refine ⟨⟨[("max_cost", .int mx), ("b", .str b), ("a", .str a), ("pre", .int pr), ("post", .int (-(i : Int)))], sto⟩, ?_, ?_⟩
      · apply Tst.and_t
        · apply Tst.upTo
          · by_in
          · by_in
          · exact ha
          · exact decide_eq_true e2
        apply Tst.and_t
        · apply Tst.upTo
          · by_in
          · by_in
          · exact hb
          · exact decide_eq_true e3
        apply Tst.and_t
        · apply Tst.chars
          · by_in
          · by_in
          · by_in
          · by_in
          · exact fits_int (by grind) (by grind)
          · exact fits_int (by grind) (by grind)
          · exact charAt_neg e2 (List.getElem?_eq_getElem (by grind))
          · exact charAt_neg e3 (List.getElem?_eq_getElem (by grind))
          · rw [List.getElem?_eq_getElem (show a.length - 1 - i < a.length by grind), List.getElem?_eq_getElem (show b.length - 1 - i < b.length by grind)] at e1
            exact decide_eq_true (Option.some.inj e1)
        exact Tst.and_nil
      · refine Exs.cons ?_ Exs.nil
        apply Ex.to
        · apply Ex.aug
          · exact ok
          · boot_fast
          · by_item
          · by_in
          · exact Op.isub_int
          · by_place
        · rw [show -(i : Int) - 1 = -((i + 1 : Nat) : Int) by push_cast; grind]
    · have hle := sfx_le a b
      by_cases ca : sfx a b < a.length
      · apply Tst.and_t
        · apply Tst.upTo
          · by_in
          · by_in
          · exact ha
          · exact decide_eq_true ca
        by_cases cb : sfx a b < b.length
        · apply Tst.and_t
          · apply Tst.upTo
            · by_in
            · by_in
            · exact hb
            · exact decide_eq_true cb
          apply Tst.and_f
          apply Tst.chars
          · by_in
          · by_in
          · by_in
          · by_in
          · exact fits_int (by grind) (by grind)
          · exact fits_int (by grind) (by grind)
          · exact charAt_neg ca (List.getElem?_eq_getElem (by grind))
          · exact charAt_neg cb (List.getElem?_eq_getElem (by grind))
          · have := sfx_at a b ca cb
            rw [List.getElem?_eq_getElem (show a.length - 1 - sfx a b < a.length by grind), List.getElem?_eq_getElem (show b.length - 1 - sfx a b < b.length by grind)] at this
            exact decide_eq_false fun e => this (congrArg some e)
        · apply Tst.and_f
          apply Tst.upTo
          · by_in
          · by_in
          · exact hb
          · exact decide_eq_false cb
      · apply Tst.and_f
        apply Tst.upTo
        · by_in
        · by_in
        · exact ha
        · exact decide_eq_false ca
  apply Exs.cons
  · apply Ex.assign
    · exact ok
    · apply Ev.upTo
      · by_in
      · by_in
      · exact ha
    · boot_fast
    · by_place
    · rfl
  apply Exs.cons
  · apply Ex.assign
    · exact ok
    · apply Ev.upTo
      · by_in
      · by_in
      · exact hb
    · boot_fast
    · by_place
    · rfl
  exact H

theorem Exs.one {c : Stmt} (h : Ex X c st .next st₁) : Exs X [c] st .next st₁ := Exs.cons h Exs.nil
theorem Ev.tup2 {e1 e2 : Expr} {kk : Nat} {p : Pos} {a b : PV} (h1 : Ev X e1 st a st₁) (h2 : Ev X e2 st₁ b st₂) (he : ∀ env, starEach [e1, e2] env = (false, eval e1 env) :: starEach [e2] env) (he2 : ∀ env, starEach [e2] env = (false, eval e2 env) :: starEach [] env) : Ev X (.Tuple [e1, e2] kk p) st (.tup [a, b]) st₂ :=
  Ev.tuple (Evs.cons h1 (Evs.cons h2 Evs.nil he2) he) (by show 2 ≤ sizeLine; decide)

theorem levRest (ok : X.Ok (k + 1)) (tp : Top ad X.w X.K) (henv : X.env.scope = fnS 5) (sto : List PO) (hcl : (sto.all (PO.inS sto.length)) = true) (a b : List Nat) (mx pr po : Int) (ha : a.length ≤ 1000) (hb : b.length ≤ 1000) :
    ∃ l, Exs X ((fnB 5).drop 9) ⟨[("max_cost", .int mx), ("b", .str b), ("a", .str a), ("pre", .int pr), ("post", .int po)], sto⟩ (.ret (.int (lev2 a b mx))) ⟨l, sto⟩ := by
  have tA : ∀ st₀ (np p : Pos) (x : Str) (l : List Nat), Ev X (.Name x np) st₀ (.str l) st₀ → l.length ≤ 1000 → Tst X (.UnaryOp .Not (.Name x np) p) st₀ (decide (l = [])) st₀ := fun st₀ np p x l h hl =>
    Tst.cast (Tst.not (Tst.val h (Truth.str (by grind)) rfl)) (by cases l <;> simp)
  unfold lev2
  by_cases h1 : a = [] ∨ b = []
  · rw [if_pos h1]
    apply Exists.intro
    conv => arg 2; whnf
    apply Exs.ret
    apply Ex.if_t
    · by_cases h2 : a = []
      · apply Tst.or_t
        apply Tst.cast
        · apply tA
          · by_in
          · exact ha
        · exact decide_eq_true h2
      · apply Tst.or_f
        · apply Tst.cast
          · apply tA
            · by_in
            · exact ha
          · exact decide_eq_false h2
        · apply Tst.or_t
          apply Tst.cast
          · apply tA
            · by_in
            · exact hb
          · exact decide_eq_true (h1.resolve_left h2)
    · apply Exs.ret
      apply Ex.ret
      by_in
  · rw [if_neg h1]
    have h1a : a ≠ [] := fun e => h1 (.inl e)
    have h1b : b ≠ [] := fun e => h1 (.inr e)
    have tL : ∀ st₀ (np p p2 : Pos) (q : Pos) (x : Str) (l : List Nat), Ev X (.Call (.Name "len" np) [.Name x p] [] p2) st₀ (.int l.length) st₀ → ∀ (mp : Pos), Ev X (.Name "_MAX_STRING_SIZE" mp) st₀ (.int 40) st₀ → Tst X (.Compare (.Call (.Name "len" np) [.Name x p] [] p2) [.Gt] [.Name "_MAX_STRING_SIZE" mp] q) st₀ (decide (l.length > 40)) st₀ := fun st₀ np p p2 q x l h mp h2 =>
      Tst.cast (Tst.cmp h h2 Op.gt_int rfl) (by by_cases e : l.length > 40 <;> simp [e] <;> omega)
    have start : ∀ (c : List Stmt) f st', Exs X c ⟨[("max_cost", .int mx), ("b", .str b), ("a", .str a), ("pre", .int pr), ("post", .int po)], sto⟩ f st' → c = (fnB 5).drop 10 →
        Exs X ((fnB 5).drop 9) ⟨[("max_cost", .int mx), ("b", .str b), ("a", .str a), ("pre", .int pr), ("post", .int po)], sto⟩ f st' := fun c f st' H e => by
      subst e
      conv => arg 2; whnf
      apply Exs.cons
      · apply Ex.if_f
        · apply Tst.or_f
          · apply Tst.cast
            · apply tA
              · by_in
              · exact ha
            · exact decide_eq_false h1a
          · apply Tst.or_f
            · apply Tst.cast
              · apply tA
                · by_in
                · exact hb
              · exact decide_eq_false h1b
            · exact Tst.or_nil
        · exact Exs.nil
      · exact H
    by_cases h2 : a.length > 40 ∨ b.length > 40
    · rw [if_pos h2]
      apply Exists.intro
      refine start _ _ _ ?_ rfl
      conv => arg 2; whnf
      apply Exs.ret
      apply Ex.if_t
      · by_cases h3 : a.length > 40
        · apply Tst.or_t
          apply Tst.cast
          · apply tL
            · by_in
            · by_in
          · exact decide_eq_true h3
        · apply Tst.or_f
          · apply Tst.cast
            · apply tL
              · by_in
              · by_in
            · exact decide_eq_false h3
          · apply Tst.or_t
            apply Tst.cast
            · apply tL
              · by_in
              · by_in
            · exact decide_eq_true (h2.resolve_left h3)
      · apply Exs.ret
        apply Ex.ret
        by_in
    · rw [if_neg h2]
      have start2 : ∀ f st', Exs X ((fnB 5).drop 11) ⟨[("max_cost", .int mx), ("b", .str b), ("a", .str a), ("pre", .int pr), ("post", .int po)], sto⟩ f st' →
          Exs X ((fnB 5).drop 9) ⟨[("max_cost", .int mx), ("b", .str b), ("a", .str a), ("pre", .int pr), ("post", .int po)], sto⟩ f st' := fun f st' H => by
        refine start _ _ _ ?_ rfl
        conv => arg 2; whnf
        apply Exs.cons
        · apply Ex.if_f
          · apply Tst.or_f
            · apply Tst.cast
              · apply tL
                · by_in
                · by_in
              · exact decide_eq_false fun e => h2 (.inl e)
            · apply Tst.or_f
              · apply Tst.cast
                · apply tL
                  · by_in
                  · by_in
                · exact decide_eq_false fun e => h2 (.inr e)
              · exact Tst.or_nil
          · exact Exs.nil
        · exact H
      by_cases h3 : b.length < a.length
      · rw [if_pos h3]
        refine ⟨[], start2 _ _ ?_⟩
        conv => arg 2; whnf
        apply Exs.cons
        · apply Ex.if_t
          · apply Tst.cast
            · apply Tst.cmp
              · by_in
              · by_in
              · exact Op.lt_int
              · rfl
            · exact decide_eq_true (by grind)
          · apply Exs.one
            have ka : X.env.kindOf "a" = some .local := by boot_fast
            have kb : X.env.kindOf "b" = some .local := by boot_fast
            refine' Ex.swap (x := "a") (y := "b") ok ?d1 ka kb ?d2 ?d3 ?d4 ?d5
            case d1 =>
              apply Ev.tup2
              · by_in
              · by_in
              · intro _; with_unfolding_all rfl
              · intro _; with_unfolding_all rfl
            case d2 => by_place
            case d3 => by_place
            case d4 => with_unfolding_all rfl
            case d5 =>
              generalize X.env = e at henv
              cases e
              dsimp only at henv
              subst henv
              with_unfolding_all rfl
        · exact levTail ok tp henv sto hcl b a mx pr po hb ha
      · rw [if_neg h3]
        refine ⟨[], start2 _ _ ?_⟩
        conv => arg 2; whnf
        apply Exs.cons
        · apply Ex.if_f
          · apply Tst.cast
            · apply Tst.cmp
              · by_in
              · by_in
              · exact Op.lt_int
              · rfl
            · exact decide_eq_false (by grind)
          · exact Exs.nil
        · exact levTail ok tp henv sto hcl a b mx pr po ha hb

theorem c5 (ok : X.Ok (k + 2)) (tp : Top ad X.w X.K) (a b : List Nat) (mx : Int) (ha : a.length ≤ 1000) (hb : b.length ≤ 1000) (hcl : (st.sto.all (PO.inS st.sto.length)) = true) :
    Calls X (.glob (.ref (ad 5))) [.str a, .str b, .int mx] st (.int (lev a b mx)) st := by
  refine Calls.fn 5 ["a", "b", "max_cost"] ok tp (loc₀ := [("max_cost", .int mx), ("b", .str b), ("a", .str a)]) rfl (fun _ _ _ _ vals h => by match vals, h with | [a, b, c], _ => rfl) rfl rfl (by decide +kernel) (by decide +kernel) rfl rfl rfl (fun X' ok' tp' henv => ?_)
  unfold lev
  by_cases h1 : a = b
  · rw [if_pos h1]
    apply Exists.intro
    conv => arg 2; whnf
    apply Exs.ret
    apply Ex.if_t
    · apply Tst.eqs
      · by_in
      · by_in
      · exact decide_eq_true h1
      · rfl
    · apply Exs.ret
      apply Ex.ret
      by_in
  · rw [if_neg h1]
    have la : (midA a b).length ≤ 1000 := by simp [midA]; grind
    have lb : (midB a b).length ≤ 1000 := by simp [midB]; grind
    obtain ⟨l, H⟩ := levRest ok' tp' henv st.sto hcl (midA a b) (midB a b) mx (cpre a b) (-(sfx (a.drop (cpre a b)) (b.drop (cpre a b)) : Int)) la lb
    exact ⟨l, levPre ok' tp' henv st.sto a b mx ha hb h1 _ _ (levSuf ok' tp' henv st.sto _ _ mx _ (by simp; grind) (by simp; grind) _ _ H)⟩
end





section
variable {X X' : Cx} {st st₁ st₂ st₃ st' : PSt} {ad : Nat → Addr} {k : Nat}
theorem b1_rule (ok : X.Ok k) (tp : Top ad X.w X.K) (hk : X.env.kindOf "b1_set" = some .globalImplicit) : ∃ a, (∀ st p, Ev X (.Name "b1_set" p) st (.glob (.ref a)) st) ∧ ∀ st (i : Int), Op2 X (compareOp .In) (.int i) (.glob (.ref a)) st (.bool (b1L.contains i)) st := by
  obtain ⟨a, o, h1, h2, h3⟩ := tp.b1
  refine ⟨a, fun st p => Ev.gl ok hk (.inl h1) (fun μ => .glob _) (by decide), fun st i μ s x y g hx hy => ?_⟩
  cases hx with
  | int i t =>
    cases hy
    exact wpAny_inSet_of (k := i) (intKind_is _ _ _ _) rfl (h3 _ _ (g.kin ok _ _ h2)) (.val g (.bool _) _)
theorem c8 (ok : X.Ok (k + 1)) (tp : Top ad X.w X.K) (c : Nat) : Calls X (.glob (.ref (ad 8))) [.str [c]] st (.bool (b1L.contains (c : Int))) st := by
  refine Calls.fn 8 ["code"] ok tp (loc₀ := [("code", .str [c])]) rfl (fun _ _ _ _ vals h => by match vals, h with | [a], _ => rfl) rfl rfl (by decide +kernel) (by decide +kernel) rfl rfl rfl (fun X' ok' tp' henv => ?_)
  obtain ⟨a, e1, e2⟩ := b1_rule ok' tp' (by boot_fast)
  apply Exists.intro
  conv => arg 2; whnf
  apply Exs.ret
  apply Ex.ret
  apply Ev.cmp
  · refine' Ev.callB 1 ok' tp' ?b1 gB1 ?b2 ?b3 ?b4 ?b5
    case b1 => boot_fast
    case b2 => decide
    case b3 => cells_apart
    case b4 => unfold Plain; intro _; with_unfolding_all rfl
    case b5 => exact Calls.ord
  · exact e1 _ _
  · exact e2 _ _
  · rfl
theorem b3_rule (ok : X.Ok k) (tp : Top ad X.w X.K) (hk : X.env.kindOf "b3_exceptions" = some .globalImplicit) : ∃ a, (∀ st p, Ev X (.Name "b3_exceptions" p) st (.glob (.ref a)) st) ∧ ∀ st, Has X (PySem.intKind X.prog X.w) id st (.glob (.ref a)) (fun i => (b3F i).map .str) := by
  obtain ⟨a, o, h1, h2, hm, h3⟩ := tp.b3
  refine ⟨a, fun st p => Ev.gl ok hk (.inl h1) (fun μ => .glob _) (by decide), fun st μ s x g hx => ?_⟩
  cases hx
  obtain ⟨F, hF, hl⟩ := h3 X.prog s.heap (g.kin ok _ _ h2)
  refine ⟨a, F, rfl, hm, hF, fun i => ⟨fun p hp => ?_, fun hn => (hl i).2 (by simpa using hn)⟩⟩
  dsimp only at hp
  cases e : b3F i with
  | none => rw [e] at hp; cases hp
  | some l =>
    rw [e] at hp; cases hp
    obtain ⟨t, ht⟩ := (hl i).1 l e
    exact ⟨_, ht, .str _ _⟩
theorem ex_rule (ok : X.Ok k) (tp : Top ad X.w X.K) (hk : X.env.kindOf "EXACT_TOKEN_TYPES" = some .globalImplicit) : ∃ a, (∀ st p, Ev X (.Name "EXACT_TOKEN_TYPES" p) st (.glob (.ref a)) st) ∧ ∀ X' : Cx, X.Sub X' → X'.Ok k → ∀ st, Has X' (PySem.strKind X'.prog X'.w) T st (.glob (.ref a)) (fun l => (exF l).map .int) := by
  obtain ⟨a, o, h1, h2, hm, h3⟩ := tp.ex
  refine ⟨a, fun st p => Ev.gl ok hk (.inl h1) (fun μ => .glob _) (by decide), fun X' sub ok' st μ s x g hx => ?_⟩
  cases hx
  obtain ⟨F, hF, hl⟩ := h3 X'.prog s.heap (g.kin ok' _ _ (by rw [sub.K]; exact h2))
  refine ⟨a, F, rfl, hm, by rw [sub.w]; exact hF, fun i => ⟨fun p hp => ?_, fun hn => (hl i).2 (by simpa using hn)⟩⟩
  dsimp only at hp
  cases e : exF i with
  | none => rw [e] at hp; cases hp
  | some l =>
    rw [e] at hp; cases hp
    obtain ⟨t, ht⟩ := (hl i).1 l e
    exact ⟨_, ht, .int _ _⟩
noncomputable def map3 (c : Nat) : List Nat := (b3F c).getD (lw c)
theorem Op.isNot_none_str {l : List Nat} : Op2 X (compareOp .IsNot) (.str l) .none st (.bool true) st := fun μ s x y g hx hy => by
  cases hx; cases hy
  exact wpAny_isNot_other rfl (by simp) (.val0 g (.bool _))
theorem Op.isNot_none_none : Op2 X (compareOp .IsNot) .none .none st (.bool false) st := fun μ s x y g hx hy => by
  cases hx; cases hy
  exact wpAny_isNot_self rfl (.val0 g (.bool _))
theorem Exs.bare {c : List Stmt} {f : PFlow} {l : List (Str × PV)} {sto : List PO} (h : Exs X c st f ⟨l, sto⟩) : Exs X c st f ⟨[], sto⟩ := fun μ s g =>
  (h μ s g).mono fun a s' ⟨μ', le, r, ⟨m, o, G⟩, e⟩ => ⟨μ', le, r, ⟨m, o, G.fr, (fun x v e => by cases e), G.news, G.sto, G.len, G.nodup, G.pin⟩, e⟩
theorem c10 (ok : X.Ok (k + 1)) (tp : Top ad X.w X.K) (c : Nat) : Calls X (.glob (.ref (ad 10))) [.str [c]] st (.str (map3 c)) st := by
  refine Calls.fn 10 ["code"] ok tp (loc₀ := [("code", .str [c])]) rfl (fun _ _ _ _ vals h => by match vals, h with | [a], _ => rfl) rfl rfl (by decide +kernel) (by decide +kernel) rfl rfl rfl (fun X' ok' tp' henv => ?_)
  obtain ⟨a, e1, e2⟩ := b3_rule ok' tp' (by boot_fast)
  unfold map3
  refine ⟨[], ?_⟩
  conv => arg 2; whnf
  apply Exs.cons
  · apply Ex.assign (v := (((b3F c).map PV.str).getD .none))
    · refine' Ev.meth ok' (e1 _ _) (meth_dict (e2 _) F.slot_dict_get F.type_dict_get) ?a1 ?a2 ?a3 ?a4 ?a5 ?a6
      case a1 =>
        apply Evs.cons
        · refine' Ev.callB 1 ok' tp' ?b1 gB1 ?b2 ?b3 ?b4 ?b5
          case b1 => boot_fast
          case b2 => decide
          case b3 => cells_apart
          case b4 => unfold Plain; intro _; with_unfolding_all rfl
          case b5 => exact Calls.ord
        · exact Evs.nil
        · intro _; with_unfolding_all rfl
      case a2 => unfold Plain; intro _; with_unfolding_all rfl
      case a3 => exact Calls.get_I1 (e2 _)
      case a4 => rfl
      case a5 => decide
      case a6 => rfl
    · boot_fast
    · by_place
    · rfl
    · exact ok'
  cases e : b3F c with
  | some l =>
    simp only [Option.map_some, Option.getD_some]
    apply Exs.bare
    apply Exs.ret
    apply Ex.if_t
    · apply Tst.cmp
      · by_in
      · by_in
      · exact Op.isNot_none_str
      · rfl
    · apply Exs.ret
      apply Ex.ret
      by_in
  | none =>
    simp only [Option.map_none, Option.getD_none]
    apply Exs.bare
    apply Exs.cons
    · apply Ex.if_f
      · apply Tst.cmp
        · by_in
        · by_in
        · exact Op.isNot_none_none
        · rfl
      · exact Exs.nil
    apply Exs.ret
    apply Ex.ret
    exact Ev.meth0 ok' (by by_in) (meth_str F.slot_str_lower F.type_str_lower) (Calls.lower (T_of _) (by simp)) rfl rfl
end

section
variable {X : Cx} {st st₁ st₂ st₃ st' : PSt} {k : Nat} {ad : Nat → Addr}
theorem B.bLen (ok : X.Ok k) (tp : Top ad X.w X.K) {np p : Pos} {e : Expr} {es : List Expr} {vs : List PV} {v : PV} (hk : X.env.kindOf "len" = some .globalImplicit)
    (h : BEvs X (e :: es) st vs st₁) (hx : Plain (e :: es)) (hc : Calls X (.glob (.builtin "len")) vs st₁ v st₂) : BEv X (.Call (.Name "len" np) (e :: es) [] p) st v st₂ := ⟨Ev.callB 0 ok tp hk gB0 (by decide) h.h hx hc⟩
theorem B.bOrd (ok : X.Ok k) (tp : Top ad X.w X.K) {np p : Pos} {e : Expr} {es : List Expr} {vs : List PV} {v : PV} (hk : X.env.kindOf "ord" = some .globalImplicit)
    (h : BEvs X (e :: es) st vs st₁) (hx : Plain (e :: es)) (hc : Calls X (.glob (.builtin "ord")) vs st₁ v st₂) : BEv X (.Call (.Name "ord" np) (e :: es) [] p) st v st₂ := ⟨Ev.callB 1 ok tp hk gB1 (by decide) h.h hx hc⟩
theorem B.bChr (ok : X.Ok k) (tp : Top ad X.w X.K) {np p : Pos} {e : Expr} {es : List Expr} {vs : List PV} {v : PV} (hk : X.env.kindOf "chr" = some .globalImplicit)
    (h : BEvs X (e :: es) st vs st₁) (hx : Plain (e :: es)) (hc : Calls X (.glob (.builtin "chr")) vs st₁ v st₂) : BEv X (.Call (.Name "chr" np) (e :: es) [] p) st v st₂ := ⟨Ev.callB 2 ok tp hk gB2 (by decide) h.h hx hc⟩
theorem B.bMin (ok : X.Ok k) (tp : Top ad X.w X.K) {np p : Pos} {e : Expr} {es : List Expr} {vs : List PV} {v : PV} (hk : X.env.kindOf "min" = some .globalImplicit)
    (h : BEvs X (e :: es) st vs st₁) (hx : Plain (e :: es)) (hc : Calls X (.glob (.builtin "min")) vs st₁ v st₂) : BEv X (.Call (.Name "min" np) (e :: es) [] p) st v st₂ := ⟨Ev.callB 4 ok tp hk gB4 (by decide) h.h hx hc⟩
theorem B.bAbs (ok : X.Ok k) (tp : Top ad X.w X.K) {np p : Pos} {e : Expr} {es : List Expr} {vs : List PV} {v : PV} (hk : X.env.kindOf "abs" = some .globalImplicit)
    (h : BEvs X (e :: es) st vs st₁) (hx : Plain (e :: es)) (hc : Calls X (.glob (.builtin "abs")) vs st₁ v st₂) : BEv X (.Call (.Name "abs" np) (e :: es) [] p) st v st₂ := ⟨Ev.callB 8 ok tp hk rfl (by decide) h.h hx hc⟩
theorem B.bDivmod (ok : X.Ok k) (tp : Top ad X.w X.K) {np p : Pos} {e : Expr} {es : List Expr} {vs : List PV} {v : PV} (hk : X.env.kindOf "divmod" = some .globalImplicit)
    (h : BEvs X (e :: es) st vs st₁) (hx : Plain (e :: es)) (hc : Calls X (.glob (.builtin "divmod")) vs st₁ v st₂) : BEv X (.Call (.Name "divmod" np) (e :: es) [] p) st v st₂ := ⟨Ev.callB 9 ok tp hk rfl (by decide) h.h hx hc⟩
theorem B.bName (j : Nat) (ok : X.Ok k) (tp : Top ad X.w X.K) {x : Str} {v : Value} {p : Pos} (hk : X.env.kindOf x = some .globalImplicit) (hm : gBi j = some (x, v)) (hd : (x == ("__debug__" : Str)) = false) : BEv X (.Name x p) st (.glob v) st := ⟨Ev.bi j ok tp hk hm hd⟩
theorem B.callF0 (i : Nat) (ok : X.Ok k) (tp : Top ad X.w X.K) {x : Str} {np p : Pos} {v : PV} (hk : X.env.kindOf x = some .globalImplicit) (hm : fName i = some x) (hd : (x == ("__debug__" : Str)) = false)
    (hc : Calls X (.glob (.ref (ad i))) [] st v st₂) : BEv X (.Call (.Name x np) [] [] p) st v st₂ := B.call0 ok ⟨Ev.fn i ok tp hk hm hd⟩ (tp.callee i hm) hc
theorem B.callF (i : Nat) (ok : X.Ok k) (tp : Top ad X.w X.K) {x : Str} {np p : Pos} {e : Expr} {es : List Expr} {vs : List PV} {v : PV} (hk : X.env.kindOf x = some .globalImplicit) (hm : fName i = some x) (hd : (x == ("__debug__" : Str)) = false)
    (h : BEvs X (e :: es) st vs st₁) (hx : Plain (e :: es)) (hc : Calls X (.glob (.ref (ad i))) vs st₁ v st₂) : BEv X (.Call (.Name x np) (e :: es) [] p) st v st₂ := ⟨Ev.callF i ok tp hk hm hd h.h hx hc⟩
theorem B.cutRet {c : List Stmt} {v : PV} (h : BExs X c st (.ret v) st₁) (ft : Fits st₁ st₂) (hk : st.sto.length ≤ st₂.sto.length) (hv : v.inS st₂.sto.length = true) : Exs X c st (.ret v) st₂ := Exs.cut_ret h.h ft hk hv
theorem Exs.less {c : List Stmt} {f : PFlow} {l l' : List (Str × PV)} {sto : List PO} (h : Exs X c st f ⟨l, sto⟩) (hl : Looks l l') : Exs X c st f ⟨l', sto⟩ := fun μ s g => (h μ s g).mono fun a s' ⟨μ', le, r, g', e⟩ => ⟨μ', le, r, g'.names hl, e⟩
theorem B.less {c : List Stmt} {f : PFlow} {l l' : List (Str × PV)} {sto : List PO} (h : BExs X c st f ⟨l, sto⟩) (hl : Looks l l') : BExs X c st f ⟨l', sto⟩ := ⟨Exs.less h.h hl⟩
end

local macro_rules
  | `(tactic| walk_at "pl") => `(tactic| (unfold Plain; intro _; with_unfolding_all rfl))
  | `(tactic| walk_at "st") => `(tactic| (intro _; with_unfolding_all rfl))
  | `(tactic| walk_at "pre") => `(tactic| (repeat (first | exact Pre.refl | apply Pre.snoc)))
  | `(tactic| walk_at "lk") => `(tactic| (repeat (first | exact Looks.nil | (apply Looks.cons; (· by_item)))))
  | `(tactic| walk_at "nm") => `(tactic| with_reducible exact B.local (by assumption) (by boot_fast) (by by_item) (by decide))

noncomputable def nst (xs : List Int) : Nat → List Int
  | 0 => [1, 19, 63, 68, 17, 62, 90, 5, 6, 98]
  | i + 1 => (nst xs i).set (i % 10) ((nst xs i).getD (i % 10) 0 + (xs.getD i 0).fmod 1000000)
theorem nst_len (xs : List Int) : ∀ i, (nst xs i).length = 10
  | 0 => rfl
  | i + 1 => by simp [nst, nst_len xs i]
noncomputable def numsOf01 (is : List Int) : List Int := nst (is.take 60) (is.take 60).length
section
variable {X X' : Cx} {st st₁ st₂ st₃ st' : PSt} {ad : Nat → Addr} {k : Nat}
theorem closed_ints {sto : List PO} (hcl : (sto.all (PO.inS sto.length)) = true) (r : List Int) : ((sto ++ [PO.list (r.map PV.int)]).all (PO.inS (sto ++ [PO.list (r.map PV.int)]).length)) = true := closed_snoc hcl (o := PO.list (r.map PV.int)) (inAll_ints _ r)

theorem slc_to {α : Type} (l : List α) (n : Nat) : slc l none (some (n : Int)) = l.take n := by
  simp only [slc, clip, List.drop_zero, Nat.sub_zero]
  have : ¬ (n : Int) < 0 := by grind
  rw [if_neg this, Int.toNat_natCast]
  by_cases h : n ≤ l.length
  · rw [Nat.min_eq_left h]
  · rw [Nat.min_eq_right (by grind), List.take_of_length_le (Nat.le_refl _), List.take_of_length_le (by grind)]

noncomputable def nA (sto : List PO) (is : List Int) (i : Nat) : List PO := sto ++ [PO.list ((nst (is.take 60) i).map .int)] ++ [PO.list ((is.take 60).map .int)]
theorem nA_1 {sto : List PO} {is : List Int} {i : Nat} : (nA sto is i)[sto.length]? = some (.list ((nst (is.take 60) i).map .int)) := by simp [nA]
theorem nA_2 {sto : List PO} {is : List Int} {i : Nat} : (nA sto is i)[sto.length + 1]? = some (.list ((is.take 60).map .int)) := by simp [nA]
theorem nA_set {sto : List PO} {is : List Int} {i : Nat} {r : List Int} : (nA sto is i).set sto.length (.list (r.map .int)) = sto ++ [PO.list (r.map .int)] ++ [PO.list ((is.take 60).map .int)] := by simp [nA]
theorem small_nat {n : Nat} (h : n < 2 ^ 62) : (n : Int) < 2 ^ 63 := by grind
theorem Calls.fnSub (i : Nat) {x : Str} (ns : List Str) (ok : X.Ok (k + 1)) (tp : Top ad X.w X.K) {pvs : List PV} {v : PV} {loc₀ : List (Str × PV)} {sto' : List PO} (hm : fName i = some x)
    (hb : ∀ pm an cd ct, Binds (fnOf x x (fnP i) (fnB i) (fnS i) .none .none .none pm an cd ct) ns) (hlen : pvs.length = ns.length) (hl0 : (ns.zip pvs).reverse = loc₀)
    (hloc : (ns.all fun y => decide ((fnS i).names.lookup y = some .local)) = true) (hcell : ((fnS i).names.all fun x => decide (x.2 ≠ .cell)) = true) (hco : (fnS i).isCoroutine = false) (hgen : (fnS i).isGenerator = false) (hk : (fnS i).kind = .function)
    (hbody : ∀ X' : Cx, X.Sub X' → X'.Ok k → Top ad X'.w X'.K → X'.env.scope = fnS i → ∃ loc', Exs X' (fnB i) ⟨loc₀, st.sto⟩ (.ret v) ⟨loc', sto'⟩) : Calls X (.glob (.ref (ad i))) pvs st v ⟨st.loc, sto'⟩ := by
  obtain ⟨oc, od, pm, an, cd, ct, osl, _, ho, hcd⟩ := tp.fn _ _ hm
  exact fun μ s x ys g hf hys => by
    obtain ⟨loc', h⟩ : ∃ loc', ∀ X' : Cx, X'.Ok k → X.Sub X' → X'.env = envOf _ (fnS i) X'.L (ad i) cd → Exs X' (fnB i) ⟨loc₀, st.sto⟩ (.ret v) ⟨loc', sto'⟩ := ⟨[], fun X' ok' sub henv => by
      obtain ⟨l, h⟩ := hbody X' sub ok' (tp.sub sub) (by rw [henv]; rfl)
      exact fun μ s g => (h μ s g).mono fun a s' ⟨μ', le, r, ⟨m, objs, G⟩, e⟩ => ⟨μ', le, r, ⟨m, objs, G.fr, (fun x v e => by cases e), G.news, G.sto, G.len, G.nodup, G.pin⟩, e⟩⟩
    exact Calls.def ok ho hcd (hb _ _ _ _) hlen hl0 (fun y hy => of_decide_eq_true (List.all_eq_true.mp hloc y hy)) (fun y hy => of_decide_eq_true (List.all_eq_true.mp hcell y hy)) hco hgen hk h μ s x ys g hf hys

/-- the object a is a list of these ints -/
noncomputable def ListOf (K : Frag) (a : Addr) (is : List Int) : Prop := ∃ o vs, K.lookup a = some o ∧ (∀ h : Heap, h.get? a = some o → h.IsList a vs.toArray) ∧ ∀ μ, VRs μ vs (is.map PV.int)
theorem Cut.kin {a : Addr} {is : List Int} {lo hi : Option Int} (ok : X.Ok k) (hp : ListOf X.K a is) (h : is.length ≤ sizeLine) : Cut X (.glob (.ref a)) lo hi st (.loc st.sto.length) ⟨st.loc, st.sto ++ [.list ((slc is lo hi).map PV.int)]⟩ := fun μ s x sl vl vh g hx pl ph hs => by
  obtain ⟨o, vs, hK, hh, hv⟩ := hp
  cases hx
  have hl := hh _ (g.kin ok _ _ hK)
  refine ⟨"list", _, hl.typeIs, slot_list_getitem.lookup, wpAny_getItem_list_slice hl hs pl ph .none (by simp) ?_ (by have := (hv μ).length; simp only [List.size_toArray]; simp at this; grind)⟩
  rw [pick_list]
  have e : (slc is lo hi).map PV.int = slc (is.map PV.int) lo hi := by simp [slc, clip]
  rw [e]
  exact newListP g ((hv μ).slc lo hi) s.toks 0

theorem c67 (ok : X.Ok (k + 1)) (tp : Top ad X.w X.K) (a : Addr) (is : List Int) (hp : ListOf X.K a is) (hl : is.length ≤ 63) (hcl : (st.sto.all (PO.inS st.sto.length)) = true) :
    Calls X (.glob (.ref (ad 67))) [.glob (.ref a)] st (.loc st.sto.length) ⟨st.loc, st.sto ++ [.list ((numsOf01 is).map .int)]⟩ := by
  obtain ⟨loc, sto⟩ := st
  dsimp only at hcl ⊢
  refine Calls.fnSub 67 ["script"] ok tp (loc₀ := [("script", .glob (.ref a))]) rfl (fun _ _ _ _ vals h => by match vals, h with | [a], _ => rfl) rfl rfl (by decide +kernel) (by decide +kernel) rfl rfl rfl (fun X' sub ok' tp' henv => ?_)
  have hp' : ListOf X'.K a is := by rw [sub.K]; exact hp
  refine ⟨[], ?_⟩
  have hlen : ((is.take 60).map PV.int).length = (is.take 60).length := by simp
  have hr0 : (sto ++ [PO.list ([PV.int 1, PV.int 19, PV.int 63, PV.int 68, PV.int 17, PV.int 62, PV.int 90, PV.int 5, PV.int 6, PV.int 98])]) ++ [PO.list ((is.take 60).map PV.int)] = nA sto is 0 := rfl
  refine Exs.cut_ret (st₁ := ⟨[("script", .glob (.ref a)), ("numbers", .loc sto.length)], nA sto is (is.take 60).length⟩) ?_ ?_ ?_ ?_
  · conv => arg 2; whnf
    refine BExs.h ?_
    apply B.scons
    · exact A.assign ok' (B.list (st₁ := ⟨[("script", .glob (.ref a))], sto⟩) (by repeat first | exact B.int | exact B.nil | apply B.cons | walk_at "st") (by rw [sizeLine_eq]; decide)) (by boot_fast) (by by_place) rfl
    · apply B.scons (st₁ := ⟨[("script", .glob (.ref a)), ("numbers", .loc sto.length)], nA sto is ((is.take 60).map PV.int).length⟩)
      · refine B.forEnum ok' (n := sto.length + 1) (xs := (is.take 60).map .int) (st₁ := ⟨[("script", .glob (.ref a)), ("numbers", .loc sto.length)], nA sto is 0⟩) (by boot_fast) (by boot_fast) ?_ ?_ ?_ (.base _ _ _ nA_2) (fun i => ⟨[("script", .glob (.ref a)), ("numbers", .loc sto.length)], nA sto is i⟩) rfl ?_ nA_2 ?_
        · exact B.bName 7 ok' tp' (by boot_fast) gB7 (by decide)
        · refine B.eto (st₁ := ⟨[("script", .glob (.ref a)), ("numbers", .loc sto.length)], (sto ++ [PO.list ([PV.int 1, PV.int 19, PV.int 63, PV.int 68, PV.int 17, PV.int 62, PV.int 90, PV.int 5, PV.int 6, PV.int 98])]) ++ [PO.list ((slc is none (some 60)).map PV.int)]⟩) ?_ ?_
          · refine B.cast (a := .loc (sto ++ [PO.list ([PV.int 1, PV.int 19, PV.int 63, PV.int 68, PV.int 17, PV.int 62, PV.int 90, PV.int 5, PV.int 6, PV.int 98])]).length) ?_ (by simp)
            apply B.slice (lo := none) (hi := some 60)
            · walk_at "nm"
            · exact B.onone
            · exact B.osome B.int
            · exact .none
            · exact .int _
            · exact Cut.kin ok' hp' (by rw [sizeLine_eq]; grind)
          · rw [show ((60 : Int)) = ((60 : Nat) : Int) from rfl, slc_to]; rfl
        · unfold Plain; intro _; with_unfolding_all rfl
        · intro i hi
          rw [hlen] at hi
          have hx : (is.take 60)[i]? = some ((is.take 60).getD i 0) := by rw [List.getD_eq_getElem?_getD, List.getElem?_eq_getElem hi]; rfl
          have hr : (nst (is.take 60) i)[i % 10]? = some ((nst (is.take 60) i).getD (i % 10) 0) := by
            rw [List.getD_eq_getElem?_getD, List.getElem?_eq_getElem (by rw [nst_len]; grind)]; rfl
          refine ⟨.int ((is.take 60).getD i 0), [("script", .glob (.ref a)), ("numbers", .loc sto.length), ("place", .int i)], [("script", .glob (.ref a)), ("numbers", .loc sto.length), ("place", .int i), ("x", .int ((is.take 60).getD i 0))], by rw [List.getElem?_map, hx]; rfl, nA_2, by by_place, by by_place, ?_⟩
          refine B.less (l := [("script", .glob (.ref a)), ("numbers", .loc sto.length), ("place", .int i), ("x", .int ((is.take 60).getD i 0))]) ?_ (by walk_at "lk")
          apply B.one
          refine B.augItem (ov := .loc sto.length) (st₄ := ⟨[("script", .glob (.ref a)), ("numbers", .loc sto.length), ("place", .int i), ("x", .int ((is.take 60).getD i 0))], nA sto is i⟩) (iv := .int ((i % 10 : Nat) : Int)) (old := .int ((nst (is.take 60) i).getD (i % 10) 0)) (v := .int (((is.take 60).getD i 0).fmod 1000000)) (st₁ := ⟨[("script", .glob (.ref a)), ("numbers", .loc sto.length), ("place", .int i), ("x", .int ((is.take 60).getD i 0))], nA sto is i⟩) (st₂ := ⟨[("script", .glob (.ref a)), ("numbers", .loc sto.length), ("place", .int i), ("x", .int ((is.take 60).getD i 0))], nA sto is i⟩) (st₃ := ⟨[("script", .glob (.ref a)), ("numbers", .loc sto.length), ("place", .int i), ("x", .int ((is.take 60).getD i 0))], nA sto is i⟩) ?_ ?_ ?_ ?_ Op.iadd_int ?_ ?_
          · walk_at "nm"
          · refine B.binop (st₁ := ⟨[("script", .glob (.ref a)), ("numbers", .loc sto.length), ("place", .int i), ("x", .int ((is.take 60).getD i 0))], nA sto is i⟩) (a := .int i) (b := .int 10) (by walk_at "nm") B.int (Op.modN (by decide))
          · exact Item.list nA_1 (Int.natCast_nonneg _) (small_nat (Nat.lt_trans (Nat.mod_lt _ (by decide)) (show 10 < 2 ^ 62 by decide))) (by rw [Int.toNat_natCast, List.getElem?_map, hr]; rfl)
          · refine B.binop (a := .int ((is.take 60).getD i 0)) (b := .int 1000000) (st₁ := ⟨[("script", .glob (.ref a)), ("numbers", .loc sto.length), ("place", .int i), ("x", .int ((is.take 60).getD i 0))], nA sto is i⟩) (by walk_at "nm") ?_ (Op.mod_int (by decide))
            exact B.binop (B.int) (B.int) (Op.pow_int (a := 10) (n := 6) (by decide) (by decide) (by decide))
          · refine (SetIt.list nA_1 (Int.natCast_nonneg _) (small_nat (Nat.lt_trans (Nat.mod_lt _ (by decide)) (show 10 < 2 ^ 62 by decide))) (by rw [List.length_map, nst_len]; exact Int.ofNat_lt.mpr (Nat.mod_lt _ (by decide)))).to ?_
            rw [Int.toNat_natCast, ← List.map_set, nA_set]; rfl
          · intro _ _ _; rfl
        · intro _; rfl
      · rw [hlen]
        exact B.rets (B.ret (by walk_at "nm"))
  · have e : sto ++ [PO.list ((numsOf01 is).map .int)] = (nA sto is (is.take 60).length).take (sto.length + 1) := by
      exact (List.take_left' (l₁ := sto ++ [PO.list ((nst (is.take 60) (is.take 60).length).map .int)]) (by rw [List.length_append, List.length_singleton])).symm
    refine ⟨fun x v e => (by cases e), rfl, ?_, closed_ints hcl _⟩
    dsimp only
    rw [List.length_append, List.length_singleton]
    exact e
  · simp
  · simp [PV.inS]
end


noncomputable def opsT : List (List Nat) := [[40], [41], [91], [93], [58], [44], [59], [43], [45], [42], [47], [124], [38], [60], [62], [61], [46], [37], [123], [125], [61, 61], [33, 61], [60, 61], [62, 61], [126], [94], [60, 60], [62, 62], [42, 42], [43, 61], [45, 61], [42, 61], [47, 61], [37, 61], [38, 61], [124, 61], [94, 61], [60, 60, 61], [62, 62, 61], [42, 42, 61], [47, 47], [47, 47, 61], [64], [64, 61], [45, 62], [46, 46, 46], [58, 61], [33]]
noncomputable def opsLine : List Nat := (opsT.map fun l => 32 :: l).flatten.drop 1
section
variable {X X' : Cx} {st st₁ st₂ st₃ st' : PSt} {ad : Nat → Addr} {k : Nat}
theorem ops_parts : PySem.Builtin.Str.partsBetween (T opsLine) (PySem.Builtin.Str.occurrences (T opsLine) (T [32]) 0 (T opsLine).length ((T opsLine).length + 1)) (T [32]).length = opsT.map T := by decide +kernel
theorem ops_str : ("( ) [ ] : , ; + - * / | & < > = . % { } == != <= >= ~ ^ << >> ** += -= *= /= %= &= |= ^= <<= >>= **= // //= @ @= -> ... := !" : Str) = T opsLine := by kernel_rfl
theorem sp_str : (" " : Str) = T [32] := by kernel_rfl
theorem c68 (ok : X.Ok (k + 1)) (tp : Top ad X.w X.K) (hcl : (st.sto.all (PO.inS st.sto.length)) = true) : Calls X (.glob (.ref (ad 68))) [] st (.loc st.sto.length) ⟨st.loc, st.sto ++ [.list (opsT.map .str)]⟩ := by
  obtain ⟨loc, sto⟩ := st
  dsimp only at hcl ⊢
  refine Calls.fn 68 [] ok tp (loc₀ := []) rfl (fun _ _ _ _ vals h => by match vals, h with | [], _ => rfl) rfl rfl (by decide +kernel) (by decide +kernel) rfl rfl rfl (fun X' ok' tp' henv => ?_)
  refine ⟨[], ?_⟩
  conv => arg 2; whnf
  refine BExs.h ?_
  refine B.rets (B.ret ⟨?_⟩)
  refine Ev.meth ok' (ov := .str opsLine) (vs := [.str [32]]) (Ev.str ops_str) (meth_str F.slot_str_split F.type_str_split) (Evs.cons (Ev.str sp_str) Evs.nil (by walk_at "st")) (by walk_at "pl") ?_ rfl (by simp) rfl
  exact Calls.split (by decide +kernel) (by decide +kernel) (by decide +kernel) (by decide +kernel) ops_parts (by rw [sizeLine_eq]; decide)
end


noncomputable def bookT : List (List Nat × PV) := dputs (fun i => opsT.getD i []) (fun i => .int (7 + (i : Int))) 48
section
variable {X X' : Cx} {st st₁ st₂ st₃ st' : PSt} {ad : Nat → Addr} {k : Nat}
theorem ops_len : (opsT.map PV.str).length = 48 := by decide +kernel
theorem c69 (ok : X.Ok (k + 2)) (tp : Top ad X.w X.K) (hcl : (st.sto.all (PO.inS st.sto.length)) = true) : Calls X (.glob (.ref (ad 69))) [] st (.loc (st.sto.length + 1)) ⟨st.loc, st.sto ++ [.list (opsT.map .str)] ++ [.dictS bookT]⟩ := by
  obtain ⟨loc, sto⟩ := st
  dsimp only at hcl ⊢
  refine Calls.fn 69 [] ok tp (loc₀ := []) rfl (fun _ _ _ _ vals h => by match vals, h with | [], _ => rfl) rfl rfl (by decide +kernel) (by decide +kernel) rfl rfl rfl (fun X' ok' tp' henv => ?_)
  refine ⟨[], ?_⟩
  conv => arg 2; whnf
  refine BExs.h ?_
  refine B.rets (B.ret ⟨?_⟩)
  refine Ev.cast (a := .loc (sto ++ [PO.list (opsT.map .str)]).length) ?_ (by simp)
  refine Ev.dictEnum (k := k + 1) ok' (n := sto.length) (xs := opsT.map .str) (st₁ := ⟨[], sto ++ [PO.list (opsT.map .str)]⟩) ?_ ?_ (by walk_at "pl") (by simp) (by decide +kernel) (by decide +kernel) rfl (by decide +kernel) (by decide +kernel) (by decide +kernel) (by decide +kernel) (by rw [ops_len, sizeLine_eq]; decide) (fun i => opsT.getD i []) (fun i => .int (7 + (i : Int))) ?_ ?_
  · exact Ev.bi 7 ok' tp' (by boot_fast) gB7 (by decide)
  · refine (B.callF0 68 ok' tp' (by boot_fast) rfl (by decide) (c68 ok' tp' hcl)).h
  · intro X'' ok'' sub henv'' i item hi ps
    have hk1 : X''.env.kindOf "place" = some .local := by rw [henv'']; rfl
    have hk2 : X''.env.kindOf "operator" = some .local := by rw [henv'']; rfl
    have hit : item = .str (opsT.getD i []) := by
      rw [List.getElem?_map] at hi
      cases e : opsT[i]? with
      | none => rw [e] at hi; cases hi
      | some l => rw [e] at hi; cases hi; rw [List.getD_eq_getElem?_getD, e]; rfl
    subst hit
    exact ⟨(B.local ok'' hk2 (by by_item) (by decide)).h, (B.binop B.int (B.local ok'' hk1 (by by_item) (by decide)) Op.add_int).h⟩
  · intro _; rfl
end


-- the row of a text's symbols
noncomputable def tokSize (look : List Nat → Option Int) (l : List Nat) : Nat := if (look (l.take 3)).isSome then 3 else if (look (l.take 2)).isSome then 2 else 1
noncomputable def tokCode (look : List Nat → Option Int) (l : List Nat) : Nat := ((look (l.take (tokSize look l))).getD (l.headD 0 : Nat)).toNat
noncomputable def rst (look : List Nat → Option Int) (l : List Nat) : Nat → Nat × List Nat
  | 0 => (0, [])
  | i + 1 => if (rst look l i).1 < l.length then ((rst look l i).1 + tokSize look (l.drop (rst look l i).1), (rst look l i).2 ++ [tokCode look (l.drop (rst look l i).1)]) else rst look l i
noncomputable def rowText (look : List Nat → Option Int) (l : List Nat) : List Nat := (rst look l l.length).2
theorem rst_pos (look : List Nat → Option Int) (l : List Nat) : ∀ i, i ≤ (rst look l i).1 ∨ l.length ≤ (rst look l i).1
  | 0 => .inl (Nat.le_refl _)
  | i + 1 => by
    rcases rst_pos look l i with h | h
    · unfold rst
      split
      · left; simp only []; have : 1 ≤ tokSize look (l.drop (rst look l i).1) := by unfold tokSize; split <;> (try split) <;> decide
        grind
      · right; grind
    · unfold rst
      rw [if_neg (by grind)]; exact .inr h
theorem rst_stall (look : List Nat → Option Int) (l : List Nat) (r : Nat) (h : l.length ≤ (rst look l r).1) : ∀ n, r ≤ n → rst look l n = rst look l r := by
  intro n hn
  induction n with
  | zero => rw [show r = 0 by grind]
  | succ n ih =>
    by_cases e : r = n + 1
    · rw [e]
    · have := ih (by grind)
      rw [rst, this, if_neg (by grind)]
section
variable {X X' : Cx} {st st₁ st₂ st₃ st' : PSt} {ad : Nat → Addr} {k : Nat}
theorem slc_mid {α : Type} (l : List α) (i n : Nat) (h : i ≤ l.length) : slc l (some (i : Int)) (some ((i + n : Nat) : Int)) = (l.drop i).take n := by
  simp only [slc, clip]
  rw [if_neg (by grind), if_neg (by grind), Int.toNat_natCast, Int.toNat_natCast, Nat.min_eq_left h]
  by_cases e : i + n ≤ l.length
  · rw [Nat.min_eq_left e, Nat.add_sub_cancel_left]
  · rw [Nat.min_eq_right (by grind), List.take_of_length_le (by simp), List.take_of_length_le (by simp; grind)]
theorem Ev.mid {p q bp : Pos} {x y z : Str} {np mp rp tp' : Pos} {l : List Nat} {i n : Nat} (hx : Ev X (.Name x np) st (.str l) st) (hi : Ev X (.Name y mp) st (.int (i : Int)) st) (hi2 : Ev X (.Name y rp) st (.int (i : Int)) st) (hn : Ev X (.Name z tp') st (.int (n : Int)) st) (hlen : l.length ≤ 1000) (hle : i ≤ l.length) :
    Ev X (.Subscript (.Name x np) (.Slice (Option.some (.Name y mp)) (Option.some (.BinOp (.Name y rp) .Add (.Name z tp') bp)) Option.none q) p) st (.str ((l.drop i).take n)) st :=
  Ev.cast (Ev.slice hx (.some hi) (.some (Ev.binop hi2 hn Op.add_int)) (.int _) (.int _) (Cut.str (by rw [sizeLine_eq]; grind))) (by rw [← Int.natCast_add, slc_mid _ _ _ hle])


/-- a table of signs' texts: what looks it up does so in every inner context -/
noncomputable def TabS (X : Cx) (sto : List PO) (pv : PV) (look : List Nat → Option Int) : Prop := ∀ (X' : Cx) (k : Nat) (loc : List (Str × PV)) (more : List PO), X.Sub X' → X'.Ok k → Has X' (PySem.strKind X'.prog X'.w) T ⟨loc, sto ++ more⟩ pv (fun l => (look l).map .int)
theorem getD_map (o : Option Int) (c : Int) : (o.map PV.int).getD (.int c) = .int (o.getD c) := by cases o <;> rfl
theorem rst_len (look : List Nat → Option Int) (l : List Nat) : ∀ i, (rst look l i).2.length ≤ l.length
  | i => by
    have key : ∀ i, (rst look l i).2.length ≤ (rst look l i).1 ∧ (rst look l i).2.length ≤ l.length := fun i => by
      induction i with
      | zero => simp [rst]
      | succ i ih =>
        unfold rst
        split
        · simp only [List.length_append, List.length_singleton]
          have : 1 ≤ tokSize look (l.drop (rst look l i).1) := by unfold tokSize; split <;> (try split) <;> decide
          grind
        · exact ih
    exact (key i).2
theorem tok_le (look : List Nat → Option Int) (l : List Nat) : 1 ≤ tokSize look l ∧ tokSize look l ≤ 3 := by unfold tokSize; split <;> (try split) <;> decide
theorem tok_go (look : List Nat → Option Int) (l : List Nat) (j : Nat) (h : j < 3 - tokSize look l) : 1 < 3 - j ∧ look (l.take (3 - j)) = none := by
  unfold tokSize at h
  split at h
  · grind
  · rename_i h3
    have e3 : look (l.take 3) = none := by cases e : look (l.take 3) <;> simp [e] at h3 ⊢
    split at h
    · rw [show j = 0 by grind]; exact ⟨by decide, e3⟩
    · rename_i h2
      have e2 : look (l.take 2) = none := by cases e : look (l.take 2) <;> simp [e] at h2 ⊢
      have : j = 0 ∨ j = 1 := by grind
      rcases this with rfl | rfl
      · exact ⟨by decide, e3⟩
      · exact ⟨by decide, e2⟩
theorem tok_stop (look : List Nat → Option Int) (l : List Nat) : tokSize look l = 1 ∨ (1 < tokSize look l ∧ (look (l.take (tokSize look l))).isSome = true) := by
  unfold tokSize
  split
  · rename_i h; exact .inr ⟨by decide, h⟩
  · split
    · rename_i h; exact .inr ⟨by decide, h⟩
    · exact .inl rfl

noncomputable def rowI (r : List Nat) : PO := .list (r.map fun c : Nat => PV.int c)
theorem B.mid {p q bp : Pos} {x y z : Str} {np mp rp tp' : Pos} {l : List Nat} {i n : Nat} (hx : BEv X (.Name x np) st (.str l) st) (hi : BEv X (.Name y mp) st (.int (i : Int)) st) (hi2 : BEv X (.Name y rp) st (.int (i : Int)) st) (hn : BEv X (.Name z tp') st (.int (n : Int)) st) (hlen : l.length ≤ 1000) (hle : i ≤ l.length) :
    BEv X (.Subscript (.Name x np) (.Slice (Option.some (.Name y mp)) (Option.some (.BinOp (.Name y rp) .Add (.Name z tp') bp)) Option.none q) p) st (.str ((l.drop i).take n)) st := ⟨Ev.mid hx.h hi.h hi2.h hn.h hlen hle⟩
theorem B.meth {k : Nat} (ok : X.Ok k) {o e : Expr} {es : List Expr} {name : Str} {apos p : Pos} {ov v : PV} {vs : List PV} {id : String} (ho : BEv X o st ov st₁) (hm : ∀ μ s x, GoodE X μ st₁ s → VR μ x ov → MethOf X s x name id)
    (h : BEvs X (e :: es) st₁ vs st₂) (hx : Plain (e :: es)) (hc : Calls X (.glob (.builtin id)) (ov :: vs) st₂ v st₃) (hbase : attributeBase o name X.env (eval o X.env) = eval o X.env) (hn : (e :: es).length < 20) (hline : (apos.endLine == p.line) = true) :
    BEv X (.Call (.Attribute o name apos) (e :: es) [] p) st v st₃ := ⟨Ev.meth ok ho.h hm h.h hx hc hbase hn hline⟩
set_option maxHeartbeats 800000 in
theorem c71 (ok : X.Ok (k + 1)) (tp : Top ad X.w X.K) (l : List Nat) (pv : PV) (look : List Nat → Option Int) (hl : l.length ≤ 1000) (tb : TabS X st.sto pv look) (hc : ∀ c ∈ l, c ≤ 1114111) (hi : ∀ p i, look p = some i → 0 ≤ i ∧ i ≤ 1114111) :
    Calls X (.glob (.ref (ad 71))) [.str l, pv] st (.loc st.sto.length) ⟨st.loc, st.sto ++ [rowI (rowText look l)]⟩ := by
  obtain ⟨loc, sto⟩ := st
  dsimp only at tb
  refine Calls.fnSub 71 ["text", "table"] ok tp (loc₀ := [("table", pv), ("text", .str l)]) rfl (fun _ _ _ _ vals h => by match vals, h with | [a, b], _ => rfl) rfl rfl (by decide +kernel) (by decide +kernel) rfl rfl rfl (fun X' sub ok' tp' henv => ?_)
  have tb' : ∀ loc more, Has X' (PySem.strKind X'.prog X'.w) T ⟨loc, sto ++ more⟩ pv (fun l => (look l).map .int) := fun loc more => tb X' _ loc more sub ok'
  obtain ⟨r, hr, hstop, hgo⟩ : ∃ r, r ≤ l.length ∧ l.length ≤ (rst look l r).1 ∧ ∀ j, j < r → (rst look l j).1 < l.length := by
    rcases firstBad (fun i => decide (l.length ≤ (rst look l i).1)) (l.length + 1) with h | ⟨r, h1, h2, h3⟩
    · have := of_decide_eq_false (h l.length (Nat.lt_succ_self _))
      rcases rst_pos look l l.length with q | q <;> grind
    · exact ⟨r, by grind, of_decide_eq_true h2, fun j hj => by have := of_decide_eq_false (h3 j hj); grind⟩
  have hfin : rowText look l = (rst look l r).2 := by unfold rowText; rw [rst_stall look l r hstop _ hr]
  rw [hfin]
  refine ⟨[("table", pv), ("text", .str l), ("row", .loc sto.length), ("place", .int ((rst look l r).1 : Nat))], ?_⟩
  conv => arg 2; whnf
  refine BExs.h ?_
  apply B.scons
  · exact A.assign ok' (B.list B.nil (by rw [sizeLine_eq]; decide)) (by boot_fast) (by by_place) rfl
  apply B.scons
  · exact Q.assign ok' B.int (by boot_fast) (by by_place) rfl
  apply B.scons (st₁ := ⟨[("table", pv), ("text", .str l), ("row", .loc sto.length), ("place", .int ((rst look l r).1 : Nat))], sto ++ [rowI (rst look l r).2]⟩)
  · refine B.while r (fun i => ⟨[("table", pv), ("text", .str l), ("row", .loc sto.length), ("place", .int ((rst look l i).1 : Nat))], sto ++ [rowI (rst look l i).2]⟩) (fun i hilt => ?_) ?_
    · have hp := hgo i hilt
      refine ⟨⟨[("table", pv), ("text", .str l), ("row", .loc sto.length), ("place", .int ((rst look l i).1 : Nat))], sto ++ [rowI (rst look l i).2]⟩, ?_, ?_⟩
      · refine B.tcast (b := decide (((rst look l i).1 : Int) < (l.length : Int))) ?_ (decide_eq_true (by grind))
        exact B.tcmp (by walk_at "nm") (B.bLen ok' tp' (by boot_fast) (Q.c1 (by walk_at "nm") (by walk_at "st")) (by walk_at "pl") (Calls.len_str (by grind))) Op.lt_int rfl
      · try dsimp only
        rw [show rst look l (i + 1) = ((rst look l i).1 + tokSize look (l.drop (rst look l i).1), (rst look l i).2 ++ [tokCode look (l.drop (rst look l i).1)]) by rw [rst, if_pos hp]]
        have hrow := rst_len look l i
        generalize rst look l i = q at hp hrow
        obtain ⟨p, row⟩ := q
        dsimp only at hp hrow ⊢
        have hc0 : ((l.drop p).take (tokSize look (l.drop p)))[0]? = some ((l.drop p).headD 0) := by
          have := (tok_le look (l.drop p)).1
          rw [List.getElem?_take_of_lt (by grind)]
          cases e : l.drop p with
          | nil => have := congrArg List.length e; simp at this; grind
          | cons a r => rfl
        have hcode : ((tokCode look (l.drop p) : Nat) : Int) = (look ((l.drop p).take (tokSize look (l.drop p)))).getD ((l.drop p).headD 0 : Nat) := by
          unfold tokCode
          cases q : look ((l.drop p).take (tokSize look (l.drop p))) with
          | none => rw [Option.getD_none]; grind
          | some v => have := hi _ _ q; rw [Option.getD_some]; grind
        generalize hs : tokSize look (l.drop p) = sz
        have hsz := tok_le look (l.drop p)
        rw [hs] at hsz hc0 hcode
        refine B.less (l := [("table", pv), ("text", .str l), ("row", .loc sto.length), ("place", .int ((p + sz : Nat) : Int)), ("size", .int (sz : Nat)), ("piece", .str ((l.drop p).take sz))]) ?_ (by walk_at "lk")
        apply B.scons
        · exact Q.assign ok' B.int (by boot_fast) (by by_place) rfl
        try dsimp only
        apply B.scons (st₁ := ⟨[("table", pv), ("text", .str l), ("row", .loc sto.length), ("place", .int (p : Nat)), ("size", .int (sz : Nat))], sto ++ [rowI row]⟩)
        · refine B.while (3 - sz) (fun j => ⟨[("table", pv), ("text", .str l), ("row", .loc sto.length), ("place", .int (p : Nat)), ("size", .int ((3 - j : Nat) : Int))], sto ++ [rowI row]⟩) (fun j hj => ?_) ?_
          · obtain ⟨g1, g2⟩ := tok_go look (l.drop p) j (by rw [hs]; exact hj)
            refine ⟨⟨[("table", pv), ("text", .str l), ("row", .loc sto.length), ("place", .int (p : Nat)), ("size", .int ((3 - j : Nat) : Int))], sto ++ [rowI row]⟩, ?_, ?_⟩
            · refine Q.and (Q.tcmp (c := decide (((3 - j : Nat) : Int) > 1)) (by walk_at "nm") B.int Op.gt_int rfl (decide_eq_true (by grind))) (Q.and1 (Q.tcmp (c := !((look ((l.drop p).take (3 - j))).map PV.int).isSome) (B.mid (by walk_at "nm") (by walk_at "nm") (by walk_at "nm") (by walk_at "nm") hl (Nat.le_of_lt hp)) (by walk_at "nm") (Op.notin_S (tb' _ _)) rfl (by rw [g2]; rfl)))
            · try dsimp only
              apply B.one
              refine B.xto (st₁ := ⟨[("table", pv), ("text", .str l), ("row", .loc sto.length), ("place", .int (p : Nat)), ("size", .int (((3 - j : Nat) : Int) - 1))], sto ++ [rowI row]⟩) ?_ (by rw [show ((3 - j : Nat) : Int) - 1 = ((3 - (j + 1) : Nat) : Int) by grind])
              exact B.aug (st₁ := ⟨[("table", pv), ("text", .str l), ("row", .loc sto.length), ("place", .int (p : Nat)), ("size", .int ((3 - j : Nat) : Int))], sto ++ [rowI row]⟩) (st₂ := ⟨[("table", pv), ("text", .str l), ("row", .loc sto.length), ("place", .int (p : Nat)), ("size", .int ((3 - j : Nat) : Int))], sto ++ [rowI row]⟩) ok' (by boot_fast) (by by_item) B.int Op.isub_int (by by_place)
          · try dsimp only
            rw [show 3 - (3 - sz) = sz by grind]
            rcases tok_stop look (l.drop p) with q | ⟨q1, q2⟩
            · rw [hs] at q; subst q
              exact Q.andF (Q.tcmp (c := decide (((1 : Nat) : Int) > 1)) (by walk_at "nm") B.int Op.gt_int rfl rfl)
            · rw [hs] at q1 q2
              refine Q.and (Q.tcmp (c := decide ((sz : Int) > 1)) (by walk_at "nm") B.int Op.gt_int rfl (decide_eq_true (by grind))) (Q.andF (Q.tcmp (c := !((look ((l.drop p).take sz)).map PV.int).isSome) (B.mid (by walk_at "nm") (by walk_at "nm") (by walk_at "nm") (by walk_at "nm") hl (Nat.le_of_lt hp)) (by walk_at "nm") (Op.notin_S (tb' _ _)) rfl (by cases e : look ((l.drop p).take sz) with | none => rw [e] at q2; cases q2 | some _ => rfl)))
        refine Q.s2 ⟨[("table", pv), ("text", .str l), ("row", .loc sto.length), ("place", .int (p : Nat)), ("size", .int (sz : Nat)), ("piece", .str ((l.drop p).take sz))], sto ++ [rowI row]⟩ (Q.assign ok' (B.mid (i := p) (n := sz) (by walk_at "nm") (by walk_at "nm") (by walk_at "nm") (by walk_at "nm") hl (Nat.le_of_lt hp)) (by boot_fast) (by by_place) rfl) ?_
        refine Q.s2 ⟨[("table", pv), ("text", .str l), ("row", .loc sto.length), ("place", .int (p : Nat)), ("size", .int (sz : Nat)), ("piece", .str ((l.drop p).take sz))], sto ++ [rowI (row ++ [tokCode look (l.drop p)])]⟩ (Q.append ok' (n := sto.length) (xs := row.map fun c : Nat => PV.int c) (v := .int (tokCode look (l.drop p) : Nat)) (by walk_at "nm") ?_ (.last _ _ _ rfl) ?_ ?_ (by walk_at "st") (by walk_at "pl") rfl rfl rfl) (B.one (B.xto (Q.aug (v := .int ((p : Int) + (sz : Int))) (l' := [("table", pv), ("text", .str l), ("row", .loc sto.length), ("place", .int ((p : Int) + (sz : Int))), ("size", .int (sz : Nat)), ("piece", .str ((l.drop p).take sz))]) ok' (by boot_fast) (by by_item) (by walk_at "nm") Op.iadd_int (by by_place)) (by rw [Int.natCast_add])))
        · refine B.cast (a := ((look ((l.drop p).take sz)).map PV.int).getD (.int ((l.drop p).headD 0 : Nat))) ?_ (by rw [getD_map, hcode])
          refine B.meth ok' (by walk_at "nm") (meth_dict (tb' _ _) F.slot_dict_get F.type_dict_get) (vs := [.str ((l.drop p).take sz), .int ((l.drop p).headD 0 : Nat)]) (Q.c2 (by walk_at "nm") ?_ (by walk_at "st") (by walk_at "st")) (by walk_at "pl") (Calls.get_S (tb' _ _)) rfl (by decide) rfl
          exact B.bOrd ok' tp' (by boot_fast) (Q.c1 (Q.item (i := .int 0) (by walk_at "nm") B.int (Item.str (by decide) (charAt_nat (i := 0) hc0))) (by walk_at "st")) (by walk_at "pl") Calls.ord
        · have : rowI (row ++ [tokCode look (l.drop p)]) = .list ((row.map fun c : Nat => PV.int c) ++ [.int (tokCode look (l.drop p) : Nat)]) := by unfold rowI; rw [List.map_append]; rfl
          rw [this]
          exact .last _ _ _ _ rfl
        · rw [sizeLine_eq, List.length_map]; grind
    · try dsimp only
      refine B.tcast (b := decide (((rst look l r).1 : Int) < (l.length : Int))) ?_ (decide_eq_false (by grind))
      exact B.tcmp (by walk_at "nm") (B.bLen ok' tp' (by boot_fast) (Q.c1 (by walk_at "nm") (by walk_at "st")) (by walk_at "pl") (Calls.len_str (by grind))) Op.lt_int rfl
  exact B.rets (B.ret (by walk_at "nm"))
end


noncomputable def headT : List (List Nat) := [[102, 102], [102, 105], [102, 108], [102, 102, 105], [102, 102, 108], [115, 116], [115, 116]]
noncomputable def offsL : List Int := [0, 1, 2, 4, 7, 8, 9, 10, 11, 12]
noncomputable def means1 (i x : Nat) : List Nat := if i = 0 then headT.getD (x % 7) [] else if x % 2 = 1 then opsT.getD (x / 2 % 48) [] else [97 + x / 2 % 26]
noncomputable def shown1 (i x : Nat) : List Nat := if i = 0 then [64256 + x % 7] else if x % 2 = 1 then opsT.getD (x / 2 % 48) [] else if x / 2 / 26 % 12 = 0 then [97 + x / 2 % 26] else if x / 2 / 26 % 12 = 1 then [65 + x / 2 % 26] else [119808 + 52 * (offsL.getD (x / 2 / 26 % 12 - 2) 0).toNat + x / 2 % 26]
noncomputable def hideN (x : Nat) : Nat := (b1L.getD (x % 27) 0).toNat
noncomputable def tx1Step (s : List Nat × List Nat) (i x : Nat) : List Nat × List Nat := (s.1 ++ (shown1 i x).flatMap (fun c => [c, hideN x]), s.2 ++ means1 i x)
noncomputable def tx1 (ns : List Nat) : Nat → List Nat × List Nat
  | 0 => ([], [])
  | i + 1 => tx1Step (tx1 ns i) i (ns.getD i 0)
noncomputable def for70 : Stmt := nth (fnB 70) 3
section
variable {X X' : Cx} {st st₁ st₂ st₃ st' : PSt} {ad : Nat → Addr} {k : Nat}
theorem Ex.less {c : Stmt} {f : PFlow} {l l' : List (Str × PV)} {sto : List PO} (h : Ex X c st f ⟨l, sto⟩) (hl : Looks l l') : Ex X c st f ⟨l', sto⟩ := fun μ s g => (h μ s g).mono fun a s' ⟨μ', le, r, g', e⟩ => ⟨μ', le, r, g'.names hl, e⟩
theorem B.xless {c : Stmt} {f : PFlow} {l l' : List (Str × PV)} {sto : List PO} (h : BEx X c st f ⟨l, sto⟩) (hl : Looks l l') : BEx X c st f ⟨l', sto⟩ := ⟨Ex.less h.h hl⟩
theorem Q.modC (m : Nat) {e : Expr} {a kc : Nat} {c : Int} {p q : Pos} (he : c = (m : Int)) (hm : 0 < m) (h : BEv X e st (.int (a : Nat)) st) : BEv X (.BinOp e .Mod (.Constant (.int c) kc q) p) st (.int ((a % m : Nat) : Int)) st := by
  subst he
  have := Q.binop h (B.int (k := kc) (p := q)) (Op.modN (X := X) (st := st) (a := a) (b := (m : Int)) (by grind)) (p := p)
  rwa [Int.toNat_natCast] at this
theorem Q.divC (m : Nat) {e : Expr} {a kc : Nat} {c : Int} {p q : Pos} (he : c = (m : Int)) (hm : 0 < m) (hs : m < 2 ^ 30) (h : BEv X e st (.int (a : Nat)) st) : BEv X (.BinOp e .FloorDiv (.Constant (.int c) kc q) p) st (.int ((a / m : Nat) : Int)) st := by
  subst he
  have := Q.binop h (B.int (k := kc) (p := q)) (Op.fdivN (X := X) (st := st) (a := a) (b := (m : Int)) (by grind) (by grind)) (p := p)
  rwa [Int.toNat_natCast] at this
theorem Q.addN {e : Expr} {kc : Nat} {b : Nat} {c : Int} (m : Nat) {p q : Pos} (he : c = (m : Int)) (h : BEv X e st (.int (b : Nat)) st) : BEv X (.BinOp (.Constant (.int c) kc q) .Add e p) st (.int ((m + b : Nat) : Int)) st := by
  subst he
  have := Q.binop (p := p) (B.int (k := kc) (p := q) (i := (m : Int))) h Op.add_int
  rwa [← Int.natCast_add] at this
theorem Q.chr (ok : X.Ok k) (tp : Top ad X.w X.K) {np p : Pos} {e : Expr} {c : Nat} (hk : X.env.kindOf "chr" = Option.some .globalImplicit) (h : BEv X e st (.int (c : Nat)) st₁) (hc : c ≤ 1114111) (hs : ∀ env, starEach [e] env = (false, eval e env) :: starEach [] env) (hx : Plain [e]) : BEv X (.Call (.Name "chr" np) [e] [] p) st (.str [c]) st₁ := by
  have := B.bChr (np := np) (p := p) ok tp hk (B.cons h B.nil hs) hx (Calls.chr (X := X) (st := st₁) (i := (c : Int)) (by grind) (by grind))
  rwa [Int.toNat_natCast] at this
theorem getD_some {α : Type} (l : List α) (i : Nat) (d : α) (h : i < l.length) : l[i]? = some (l.getD i d) := by rw [List.getD_eq_getElem?_getD, List.getElem?_eq_getElem h]; rfl
set_option maxHeartbeats 4000000 in
theorem if70 (ok : X.Ok (k + 2)) (tp : Top ad X.w X.K) (henv : X.env.scope = fnS 70) (U : List PO) (hcl : (U.all (PO.inS U.length)) = true) (n un : Nat) (hn : n < U.length) (hun : un < U.length) (i x : Nat) (ty me : List Nat) :
    BEx X (nth (sBody for70) 1) ⟨[("numbers", .loc n), ("unseen", .loc un), ("typed", .str ty), ("meant", .str me), ("place", .int (i : Nat)), ("x", .int (x : Nat)), ("half", .int ((x / 2 : Nat) : Int))], U⟩ .next
      ⟨[("numbers", .loc n), ("unseen", .loc un), ("typed", .str ty), ("meant", .str me), ("place", .int (i : Nat)), ("x", .int (x : Nat)), ("half", .int ((x / 2 : Nat) : Int)), ("means", .str (means1 i x)), ("shown", .str (shown1 i x))], U⟩ := by
  conv => arg 2; whnf
  by_cases hi : i = 0
  · have e1 : means1 i x = headT.getD (x % 7) [] := by unfold means1; rw [if_pos hi]
    have e2 : shown1 i x = [64256 + x % 7] := by unfold shown1; rw [if_pos hi]
    rw [e1, e2]
    have h7 : x % 7 < 7 := Nat.mod_lt _ (by decide)
    refine B.if_t (Q.tcmp (c := ((i : Int) == 0)) (by walk_at "nm") B.int Op.eq_int rfl (by subst hi; rfl)) ?_
    apply B.stepG U
    · apply B.assign ok
      · apply B.cast (b := .str (headT.getD (x % 7) []))
        · apply B.item
          · exact B.list (by repeat first | exact B.str | exact B.nil | apply B.cons | walk_at "st") (by rw [sizeLine_eq]; simp)
          · exact Q.modC 7 rfl (by decide) (by walk_at "nm")
          · apply Item.listA
            · exact At.last _ _ _ rfl
            · exact Int.natCast_nonneg _
            · exact Int.lt_of_lt_of_le (Int.ofNat_lt.mpr h7) (by decide)
            · show (headT.map PV.str)[x % 7]? = _
              rw [List.getElem?_map, getD_some headT (x % 7) [] h7]; rfl
        · rfl
      · boot_fast
      · by_place
      · rfl
    · walk_at "pre"
    · simp [PV.inS]; grind
    · exact hcl
    · exact Nat.le_refl _
    exact B.one (Q.assign ok (Q.chr ok tp (by boot_fast) (Q.addN 64256 rfl (Q.modC 7 rfl (by decide) (by walk_at "nm"))) (by grind) (by walk_at "st") (by walk_at "pl")) (by boot_fast) (by by_place) rfl)
  · by_cases hx : x % 2 = 1
    · have e1 : means1 i x = opsT.getD (x / 2 % 48) [] := by unfold means1; rw [if_neg hi, if_pos hx]
      have e2 : shown1 i x = opsT.getD (x / 2 % 48) [] := by unfold shown1; rw [if_neg hi, if_pos hx]
      rw [e1, e2]
      have h48 : x / 2 % 48 < 48 := Nat.mod_lt _ (by decide)
      refine B.if_f (Q.tcmp (c := ((i : Int) == 0)) (by walk_at "nm") B.int Op.eq_int rfl (by rw [beq_eq_false_iff_ne]; grind)) ?_
      apply B.one
      refine B.if_t (Q.tcmp (c := (((x % 2 : Nat) : Int) == 1)) (Q.modC 2 rfl (by decide) (by walk_at "nm")) B.int Op.eq_int rfl (by rw [hx]; rfl)) ?_
      apply B.stepG U
      · apply B.assign ok
        · apply B.cast (b := .str (opsT.getD (x / 2 % 48) []))
          · apply B.item
            · exact B.callF0 68 ok tp (by boot_fast) rfl (by decide) (c68 ok tp hcl)
            · exact Q.modC 48 rfl (by decide) (by walk_at "nm")
            · apply Item.listA
              · exact At.last _ _ _ rfl
              · exact Int.natCast_nonneg _
              · exact Int.lt_of_lt_of_le (Int.ofNat_lt.mpr h48) (by decide)
              · show (opsT.map PV.str)[x / 2 % 48]? = _
                rw [List.getElem?_map, getD_some opsT (x / 2 % 48) [] h48]; rfl
          · rfl
        · boot_fast
        · by_place
        · rfl
      · walk_at "pre"
      · simp [PV.inS]; grind
      · exact hcl
      · exact Nat.le_refl _
      apply B.one
      refine Q.assign ok (by walk_at "nm") (by boot_fast) (by by_place) rfl
    · have e1 : means1 i x = [97 + x / 2 % 26] := by unfold means1; rw [if_neg hi, if_neg hx]
      have h26 : x / 2 % 26 < 26 := Nat.mod_lt _ (by decide)
      have h12 : x / 2 / 26 % 12 < 12 := Nat.mod_lt _ (by decide)
      rw [e1]
      refine B.if_f (Q.tcmp (c := ((i : Int) == 0)) (by walk_at "nm") B.int Op.eq_int rfl (by rw [beq_eq_false_iff_ne]; grind)) ?_
      apply B.one
      refine B.if_f (Q.tcmp (c := (((x % 2 : Nat) : Int) == 1)) (Q.modC 2 rfl (by decide) (by walk_at "nm")) B.int Op.eq_int rfl (by rw [beq_eq_false_iff_ne]; grind)) ?_
      refine B.less (l := [("numbers", .loc n), ("unseen", .loc un), ("typed", .str ty), ("meant", .str me), ("place", .int (i : Nat)), ("x", .int (x : Nat)), ("half", .int ((x / 2 : Nat) : Int)), ("means", .str [97 + x / 2 % 26]), ("form", .int ((x / 2 / 26 % 12 : Nat) : Int)), ("shown", .str (shown1 i x))]) ?_ (by walk_at "lk")
      refine Q.s2 ⟨[("numbers", .loc n), ("unseen", .loc un), ("typed", .str ty), ("meant", .str me), ("place", .int (i : Nat)), ("x", .int (x : Nat)), ("half", .int ((x / 2 : Nat) : Int)), ("means", .str [97 + x / 2 % 26])], U⟩ (Q.assign ok (Q.chr ok tp (by boot_fast) (Q.addN 97 rfl (Q.modC 26 rfl (by decide) (by walk_at "nm"))) (by grind) (by walk_at "st") (by walk_at "pl")) (by boot_fast) (by by_place) rfl) ?_
      refine Q.s2 ⟨[("numbers", .loc n), ("unseen", .loc un), ("typed", .str ty), ("meant", .str me), ("place", .int (i : Nat)), ("x", .int (x : Nat)), ("half", .int ((x / 2 : Nat) : Int)), ("means", .str [97 + x / 2 % 26]), ("form", .int ((x / 2 / 26 % 12 : Nat) : Int))], U⟩ (Q.assign ok (Q.modC 12 rfl (by decide) (Q.divC 26 rfl (by decide) (by decide) (by walk_at "nm"))) (by boot_fast) (by by_place) rfl) ?_
      apply B.one
      by_cases f0 : x / 2 / 26 % 12 = 0
      · have e2 : shown1 i x = [97 + x / 2 % 26] := by unfold shown1; rw [if_neg hi, if_neg hx, if_pos f0]
        rw [e2]
        refine B.if_t (Q.tcmp (c := (((x / 2 / 26 % 12 : Nat) : Int) == 0)) (by walk_at "nm") B.int Op.eq_int rfl (by rw [f0]; rfl)) ?_
        apply B.one
        exact Q.assign ok (by walk_at "nm") (by boot_fast) (by by_place) rfl
      · refine B.if_f (Q.tcmp (c := (((x / 2 / 26 % 12 : Nat) : Int) == 0)) (by walk_at "nm") B.int Op.eq_int rfl (by rw [beq_eq_false_iff_ne]; grind)) ?_
        apply B.one
        by_cases f1 : x / 2 / 26 % 12 = 1
        · have e2 : shown1 i x = [65 + x / 2 % 26] := by unfold shown1; rw [if_neg hi, if_neg hx, if_neg f0, if_pos f1]
          rw [e2]
          refine B.if_t (Q.tcmp (c := (((x / 2 / 26 % 12 : Nat) : Int) == 1)) (by walk_at "nm") B.int Op.eq_int rfl (by rw [f1]; rfl)) ?_
          apply B.one
          exact Q.assign ok (Q.chr ok tp (by boot_fast) (Q.addN 65 rfl (Q.modC 26 rfl (by decide) (by walk_at "nm"))) (by grind) (by walk_at "st") (by walk_at "pl")) (by boot_fast) (by by_place) rfl
        · have hj : x / 2 / 26 % 12 - 2 < 10 := by omega
          have hob : ∀ j, j < 10 → 0 ≤ offsL.getD j 0 ∧ offsL.getD j 0 ≤ 12 := by decide
          have ho := hob _ hj
          have e2 : shown1 i x = [119808 + 52 * (offsL.getD (x / 2 / 26 % 12 - 2) 0).toNat + x / 2 % 26] := by unfold shown1; rw [if_neg hi, if_neg hx, if_neg f0, if_neg f1]
          rw [e2]
          refine B.if_f (Q.tcmp (c := (((x / 2 / 26 % 12 : Nat) : Int) == 1)) (by walk_at "nm") B.int Op.eq_int rfl (by rw [beq_eq_false_iff_ne]; grind)) ?_
          apply B.stepG U
          · apply B.assign ok
            · apply Q.chr ok tp
              · boot_fast
              · apply B.cast (b := .int ((119808 + 52 * (offsL.getD (x / 2 / 26 % 12 - 2) 0).toNat + x / 2 % 26 : Nat) : Int))
                · apply B.binop
                  · apply B.binop
                    · exact B.int
                    · apply B.binop
                      · exact B.int
                      · apply B.item
                        · exact B.list (by repeat first | exact B.int | exact B.nil | apply B.cons | walk_at "st") (by rw [sizeLine_eq]; simp)
                        · exact Q.binop (by walk_at "nm") B.int Op.sub_int
                        · apply Item.listA (v := .int (offsL.getD (x / 2 / 26 % 12 - 2) 0))
                          · exact At.last _ _ _ rfl
                          · grind
                          · grind
                          · rw [show ((x / 2 / 26 % 12 : Nat) : Int) - 2 = ((x / 2 / 26 % 12 - 2 : Nat) : Int) by grind, Int.toNat_natCast]
                            show (offsL.map PV.int)[x / 2 / 26 % 12 - 2]? = _
                            rw [List.getElem?_map, getD_some offsL (x / 2 / 26 % 12 - 2) 0 hj]; rfl
                      · exact Op.mul_int (PySem.IntMulOk.of_left (by decide))
                    · exact Op.add_int
                  · exact Q.modC 26 rfl (by decide) (by walk_at "nm")
                  · exact Op.add_int
                · congr 1
                  grind
              · grind
              · walk_at "st"
              · walk_at "pl"
            · boot_fast
            · by_place
            · rfl
          · walk_at "pre"
          · simp [PV.inS]; grind
          · exact hcl
          · exact Nat.le_refl _
          exact B.snil
end


section
variable {X X' : Cx} {st st₁ st₂ st₃ st' : PSt} {ad : Nat → Addr} {k : Nat}
theorem ops_le : ∀ j, j < 48 → (opsT.getD j []).length ≤ 3 := by decide
theorem head_le : ∀ j, j < 7 → (headT.getD j []).length ≤ 3 := by decide
theorem means1_len (i x : Nat) : (means1 i x).length ≤ 3 := by
  unfold means1
  split
  · exact head_le _ (Nat.mod_lt _ (by decide))
  · split
    · exact ops_le _ (Nat.mod_lt _ (by decide))
    · simp
theorem shown1_len (i x : Nat) : (shown1 i x).length ≤ 3 := by
  unfold shown1
  split
  · simp
  · split
    · exact ops_le _ (Nat.mod_lt _ (by decide))
    · split
      · simp
      · split <;> simp
theorem flat2 (h : Nat) (l : List Nat) : (l.flatMap fun c => [c, h]).length = 2 * l.length := by
  induction l with
  | nil => rfl
  | cons a r ih => simp only [List.flatMap_cons, List.length_append, List.length_cons, List.length_nil]; grind
theorem tx1_len (ns : List Nat) : ∀ i, (tx1 ns i).1.length ≤ 6 * i ∧ (tx1 ns i).2.length ≤ 3 * i
  | 0 => by simp [tx1]
  | i + 1 => by
    have ih := tx1_len ns i
    have h1 := shown1_len i (ns.getD i 0)
    have h2 := means1_len i (ns.getD i 0)
    simp only [tx1, tx1Step, List.length_append, flat2]; grind
set_option maxHeartbeats 4000000 in
theorem body70 (ok : X.Ok (k + 2)) (tp : Top ad X.w X.K) (henv : X.env.scope = fnS 70) (U : List PO) (hcl : (U.all (PO.inS U.length)) = true) (n un : Nat) (hn : n < U.length) (hun : un < U.length) (hU : At U un (.list (b1L.map .int))) (i x : Nat) (ty me : List Nat) (hty : ty.length ≤ 1000) (hme : me.length ≤ 1000) :
    BExs X (sBody for70) ⟨[("numbers", .loc n), ("unseen", .loc un), ("typed", .str ty), ("meant", .str me), ("place", .int (i : Nat)), ("x", .int (x : Nat))], U⟩ .next
      ⟨[("numbers", .loc n), ("unseen", .loc un), ("typed", .str (tx1Step (ty, me) i x).1), ("meant", .str (tx1Step (ty, me) i x).2)], U⟩ := by
  have hsl := shown1_len i x
  have hml := means1_len i x
  have hif := if70 ok tp henv U hcl n un hn hun i x ty me
  unfold tx1Step
  dsimp only
  generalize hS : shown1 i x = sh at hsl hif
  generalize hM : means1 i x = ms at hml hif
  conv => arg 2; whnf
  refine Q.s2 _ (Q.assign ok (Q.divC 2 rfl (by decide) (by decide) (by walk_at "nm")) (by boot_fast) (by by_place) rfl) ?_
  refine Q.s2 _ hif ?_
  refine Q.s2 ⟨[("numbers", .loc n), ("unseen", .loc un), ("typed", .str ty), ("meant", .str (me ++ ms)), ("place", .int (i : Nat)), ("x", .int (x : Nat)), ("half", .int ((x / 2 : Nat) : Int)), ("means", .str ms), ("shown", .str sh)], U⟩ (Q.aug ok (by boot_fast) (by by_item) (by walk_at "nm") (Op.iadd_str (by rw [sizeLine_eq, List.length_append]; grind)) (by by_place)) ?_
  have hh27 : x % 27 < 27 := Nat.mod_lt _ (by decide)
  have hb1b : ∀ j, j < 27 → 0 ≤ b1L.getD j 0 ∧ b1L.getD j 0 ≤ 65279 := by decide
  have hb := hb1b _ hh27
  have hbe : b1L[x % 27]? = some (((b1L.getD (x % 27) 0).toNat : Nat) : Int) := by
    rw [getD_some b1L (x % 27) 0 hh27]; congr 1; grind
  have fl : ∀ i, i < sh.length → (sh.take (i + 1)).flatMap (fun c => [c, hideN x]) = (sh.take i).flatMap (fun c => [c, hideN x]) ++ ([sh.getD i 0] ++ [hideN x]) := by
    intro i hi
    rw [List.take_succ_eq_append_getElem hi, List.flatMap_append, List.getD_eq_getElem?_getD, List.getElem?_eq_getElem hi]
    simp
  have fll : ∀ i, ((sh.take i).flatMap (fun c => [c, hideN x])).length ≤ 6 := by
    intro i
    rw [flat2, List.length_take]; grind
  refine B.less (l := [("numbers", .loc n), ("unseen", .loc un), ("typed", .str (ty ++ (sh.take sh.length).flatMap (fun c => [c, hideN x]))), ("meant", .str (me ++ ms)), ("place", .int (i : Nat)), ("x", .int (x : Nat)), ("half", .int ((x / 2 : Nat) : Int)), ("means", .str ms), ("shown", .str sh)]) ?_ (by rw [List.take_length]; walk_at "lk")
  apply B.one
  refine B.forS (st₁ := ⟨[("numbers", .loc n), ("unseen", .loc un), ("typed", .str ty), ("meant", .str (me ++ ms)), ("place", .int (i : Nat)), ("x", .int (x : Nat)), ("half", .int ((x / 2 : Nat) : Int)), ("means", .str ms), ("shown", .str sh)], U⟩) (items := sh.map fun c => .str [c]) (depS := fun _ => True) ok (by boot_fast) ?_ sh.length (fun j => ⟨[("numbers", .loc n), ("unseen", .loc un), ("typed", .str (ty ++ (sh.take j).flatMap (fun c => [c, hideN x]))), ("meant", .str (me ++ ms)), ("place", .int (i : Nat)), ("x", .int (x : Nat)), ("half", .int ((x / 2 : Nat) : Int)), ("means", .str ms), ("shown", .str sh)], U⟩) (by simp) ?_ (.inl ⟨rfl, rfl, by simp, trivial⟩) (by intro _; rfl)
  · apply Src.of
    · apply BEv.h
      walk_at "nm"
    · exact Iters.str ok.hh
  · intro j hj
    have h1 := fll j
    refine ⟨.str [sh.getD j 0], [("numbers", .loc n), ("unseen", .loc un), ("typed", .str (ty ++ (sh.take j).flatMap (fun c => [c, hideN x]))), ("meant", .str (me ++ ms)), ("place", .int (i : Nat)), ("x", .int (x : Nat)), ("half", .int ((x / 2 : Nat) : Int)), ("means", .str ms), ("shown", .str sh), ("sign", .str [sh.getD j 0])], ?_, trivial, by by_place, ?_⟩
    · rw [List.getElem?_map, getD_some sh j 0 hj]; rfl
    · refine B.less (l := [("numbers", .loc n), ("unseen", .loc un), ("typed", .str (ty ++ (sh.take (j + 1)).flatMap (fun c => [c, hideN x]))), ("meant", .str (me ++ ms)), ("place", .int (i : Nat)), ("x", .int (x : Nat)), ("half", .int ((x / 2 : Nat) : Int)), ("means", .str ms), ("shown", .str sh), ("sign", .str [sh.getD j 0])]) ?_ (by walk_at "lk")
      apply B.one
      rw [fl j hj, ← List.append_assoc]
      refine Q.aug (b := .str ([sh.getD j 0] ++ [hideN x])) ok (by boot_fast) (by by_item) (Q.binop (by walk_at "nm") (Q.chr ok tp (by boot_fast) (Q.item (by walk_at "nm") (Q.modC 27 rfl (by decide) (by walk_at "nm")) (Item.listA hU (Int.natCast_nonneg _) (Int.lt_of_lt_of_le (Int.ofNat_lt.mpr hh27) (by decide)) ?_)) ?_ (by walk_at "st") (by walk_at "pl")) (Op.add_str (by rw [sizeLine_eq]; simp))) (Op.iadd_str ?_) (by by_place)
      · rw [Int.toNat_natCast, List.getElem?_map, hbe]; rfl
      · unfold hideN; grind
      · rw [sizeLine_eq]; simp only [List.length_append, List.length_cons, List.length_nil]; grind
noncomputable abbrev unsP : List PV := [PV.int 173, PV.int 847, PV.int 6150, PV.int 6155, PV.int 6156, PV.int 6157, PV.int 8203, PV.int 8204, PV.int 8205, PV.int 8288, PV.int 65279]
noncomputable abbrev unsL : PO := PO.list unsP
set_option maxHeartbeats 4000000 in
theorem c70 (ok : X.Ok (k + 3)) (tp : Top ad X.w X.K) (n : Nat) (ns : List Nat) (hp : st.sto[n]? = some (.list (ns.map fun x : Nat => .int (x : Int)))) (hcl : (st.sto.all (PO.inS st.sto.length)) = true) (hl : ns.length ≤ 100) :
    Calls X (.glob (.ref (ad 70))) [.loc n] st (.tup [.str (tx1 ns ns.length).1, .str (tx1 ns ns.length).2]) st := by
  have hn : n < st.sto.length := (List.getElem?_eq_some_iff.mp hp).1
  obtain ⟨loc, sto⟩ := st
  dsimp only at hp hcl hn
  refine Calls.fn 70 ["numbers"] ok tp (loc₀ := [("numbers", .loc n)]) rfl (fun _ _ _ _ vals h => by match vals, h with | [a], _ => rfl) rfl rfl (by decide +kernel) (by decide +kernel) rfl rfl rfl (fun X' ok' tp' henv => ?_)
  refine ⟨[], ?_⟩
  have a0 : At sto n (.list (ns.map fun x : Nat => .int (x : Int))) := At.base _ _ _ hp
  have hrl : (rngL 65024 1 16) = (List.range 16).map fun i : Nat => PV.int (65024 + (i : Int) * 1) := rfl
  have k1 := closed_snoc (o := unsL) hcl rfl
  have k2 := closed_snoc (o := PO.list (rngL 65024 1 16)) k1 (inAll_ints _ ((List.range 16).map fun i : Nat => 65024 + (i : Int) * 1))
  have k3 := closed_snoc (o := PO.list (b1L.map .int)) k2 (inAll_ints _ _)
  have aN : At (sto ++ [unsL] ++ [PO.list (rngL 65024 1 16)] ++ [PO.list (b1L.map .int)]) n (.list (ns.map fun x : Nat => .int (x : Int))) := .prev _ _ _ _ (.prev _ _ _ _ (.prev _ _ _ _ a0))
  have aU : At (sto ++ [unsL] ++ [PO.list (rngL 65024 1 16)] ++ [PO.list (b1L.map .int)]) (sto ++ [unsL] ++ [PO.list (rngL 65024 1 16)]).length (PO.list (b1L.map .int)) := .last _ _ _ rfl
  have hlen : (sto ++ [unsL] ++ [PO.list (rngL 65024 1 16)] ++ [PO.list (b1L.map .int)]).length = sto.length + 3 := by simp
  have hul : (sto ++ [unsL] ++ [PO.list (rngL 65024 1 16)]).length = sto.length + 2 := by simp
  refine B.cutRet (st₁ := ⟨[("numbers", .loc n), ("unseen", .loc (sto ++ [unsL] ++ [PO.list (rngL 65024 1 16)]).length), ("typed", .str (tx1 ns ns.length).1), ("meant", .str (tx1 ns ns.length).2)], sto ++ [unsL] ++ [PO.list (rngL 65024 1 16)] ++ [PO.list (b1L.map .int)]⟩) ?_ ?_ ?_ ?_
  · conv => arg 2; whnf
    refine Q.s2 ⟨[("numbers", .loc n), ("unseen", .loc (sto ++ [unsL] ++ [PO.list (rngL 65024 1 16)]).length)], sto ++ [unsL] ++ [PO.list (rngL 65024 1 16)] ++ [PO.list (b1L.map .int)]⟩ (A.assign (l₁ := [("numbers", .loc n)]) ok' (B.binop (st₁ := ⟨[("numbers", .loc n)], sto ++ [unsL]⟩) (st₂ := ⟨[("numbers", .loc n)], sto ++ [unsL] ++ [PO.list (rngL 65024 1 16)]⟩) (a := .loc sto.length) (b := .loc (sto ++ [unsL]).length) ?_ ?_ (Op.add_listA (xs := unsP) (ys := rngL 65024 1 16) (.prev _ _ _ _ (.last _ _ _ rfl)) (.last _ _ _ rfl) (by rw [sizeLine_eq, rngL_len]; decide))) (by boot_fast) (by by_place) rfl) ?_
    · exact B.list (st₁ := ⟨[("numbers", .loc n)], sto⟩) (vs := unsP) (by repeat first | exact B.int | exact B.nil | apply B.cons | walk_at "st") (by rw [sizeLine_eq]; decide)
    · constructor
      refine' Ev.list_rng (st₁ := ⟨[("numbers", .loc n)], sto ++ [unsL]⟩) (a := 65024) (b := 65040) (c := 1) (n := 16) ok' ?a1 ?a2 ?a3 ?a4 ?a5 ?a6
      case a1 => refine' Ev.bi 6 ok' tp' ?b1 gB6 ?b2; (case b1 => boot_fast); (case b2 => decide)
      case a2 =>
        apply RngV.two
        · refine' Ev.bi 5 ok' tp' ?c1 gB5 ?c2; (case c1 => boot_fast); (case c2 => decide)
        · apply BEvs.h
          exact Q.c2 B.int B.int (by walk_at "st") (by walk_at "st")
        · walk_at "pl"
      case a3 => walk_at "pl"
      case a4 => decide
      case a5 => decide
      case a6 => decide
    refine Q.s2 ⟨[("numbers", .loc n), ("unseen", .loc (sto ++ [unsL] ++ [PO.list (rngL 65024 1 16)]).length), ("typed", .str [])], sto ++ [unsL] ++ [PO.list (rngL 65024 1 16)] ++ [PO.list (b1L.map .int)]⟩ (Q.assign ok' (B.cast B.str (show PV.str _ = PV.str [] from rfl)) (by boot_fast) (by by_place) rfl) ?_
    refine Q.s2 ⟨[("numbers", .loc n), ("unseen", .loc (sto ++ [unsL] ++ [PO.list (rngL 65024 1 16)]).length), ("typed", .str []), ("meant", .str [])], sto ++ [unsL] ++ [PO.list (rngL 65024 1 16)] ++ [PO.list (b1L.map .int)]⟩ (Q.assign ok' (B.cast B.str (show PV.str _ = PV.str [] from rfl)) (by boot_fast) (by by_place) rfl) ?_
    refine Q.s2 ⟨[("numbers", .loc n), ("unseen", .loc (sto ++ [unsL] ++ [PO.list (rngL 65024 1 16)]).length), ("typed", .str (tx1 ns ns.length).1), ("meant", .str (tx1 ns ns.length).2)], sto ++ [unsL] ++ [PO.list (rngL 65024 1 16)] ++ [PO.list (b1L.map .int)]⟩ ?_ ?_
    · have hll : (ns.map fun x : Nat => PV.int (x : Int)).length = ns.length := List.length_map _
      refine B.xto (B.forEnum ok' (n := n) (xs := ns.map fun x : Nat => .int (x : Int)) (st₁ := ⟨[("numbers", .loc n), ("unseen", .loc (sto ++ [unsL] ++ [PO.list (rngL 65024 1 16)]).length), ("typed", .str []), ("meant", .str [])], sto ++ [unsL] ++ [PO.list (rngL 65024 1 16)] ++ [PO.list (b1L.map .int)]⟩) (by boot_fast) (by boot_fast) (B.bName 7 ok' tp' (by boot_fast) gB7 (by decide)) (by walk_at "nm") (by walk_at "pl") aN (fun i => ⟨[("numbers", .loc n), ("unseen", .loc (sto ++ [unsL] ++ [PO.list (rngL 65024 1 16)]).length), ("typed", .str (tx1 ns i).1), ("meant", .str (tx1 ns i).2)], sto ++ [unsL] ++ [PO.list (rngL 65024 1 16)] ++ [PO.list (b1L.map .int)]⟩) rfl ?_ aN.get (by intro _; rfl)) (by rw [hll])
      intro i hi
      rw [hll] at hi
      have ht := tx1_len ns i
      refine ⟨.int (ns.getD i 0 : Nat), [("numbers", .loc n), ("unseen", .loc (sto ++ [unsL] ++ [PO.list (rngL 65024 1 16)]).length), ("typed", .str (tx1 ns i).1), ("meant", .str (tx1 ns i).2), ("place", .int i)], [("numbers", .loc n), ("unseen", .loc (sto ++ [unsL] ++ [PO.list (rngL 65024 1 16)]).length), ("typed", .str (tx1 ns i).1), ("meant", .str (tx1 ns i).2), ("place", .int i), ("x", .int (ns.getD i 0 : Nat))], ?_, aN.get, by by_place, by by_place, ?_⟩
      · rw [List.getElem?_map, getD_some ns i 0 hi]; rfl
      · exact body70 ok' tp' henv _ k3 n _ (by grind) (by grind) aU i (ns.getD i 0) _ _ (by grind) (by grind)
    refine B.rets (B.ret (B.tuple (Q.c2 (by walk_at "nm") (by walk_at "nm") (by walk_at "st") (by walk_at "st")) (by rw [sizeLine_eq]; simp)))
  · refine ⟨fun x v e => (by cases e), rfl, ?_, hcl⟩
    dsimp only
    rw [List.append_assoc, List.append_assoc, List.take_left' rfl]
  · exact Nat.le_refl _
  · rfl
end


theorem ints_flat : ∀ l : List Int, PV.flats (l.map PV.int) = true
  | [] => rfl
  | p :: r => by simp only [List.map_cons, PV.flats, Bool.and_eq_true]; exact ⟨rfl, ints_flat r⟩
theorem ints_lay : ∀ l : List Int, PyData.canLayAll0 (PV.datas (l.map PV.int)) = true
  | [] => rfl
  | p :: r => by
    simp only [List.map_cons, PV.datas, PyData.canLayAll0, Bool.and_eq_true]
    exact ⟨rfl, ints_lay r⟩
theorem ints_depth : ∀ l : List Int, PyData.depthAll (PV.datas (l.map PV.int)) ≤ 1
  | [] => Nat.zero_le _
  | p :: r => by
    simp only [List.map_cons, PV.datas, PyData.depthAll]
    exact Nat.max_le.mpr ⟨by show PyData.depth (.int _) ≤ 1; simp [PyData.depth], ints_depth r⟩
theorem eqv_nil : ∀ l : List PV, PyData.eqvAll (PV.datas l) (PV.datas []) = l.isEmpty
  | [] => by simp [PV.datas, PyData.eqvAll]
  | p :: r => by simp [PV.datas, PyData.eqvAll]
noncomputable def priceT (s o : Int) : Int := if o = s then 0 else if (o - s).natAbs = 32 ∧ min o s > 64 then 1 else 2
noncomputable def minI : List Int → Int
  | [] => 0
  | [a] => a
  | a :: b :: r => min a (minI (b :: r))
theorem minI_mem : ∀ l : List Int, l ≠ [] → minI l ∈ l
  | [], h => absurd rfl h
  | [a], _ => .head _
  | a :: b :: r, _ => by
    have ih := minI_mem (b :: r) (by simp)
    show min a (minI (b :: r)) ∈ _
    by_cases c : a ≤ minI (b :: r)
    · rw [Int.min_eq_left c]; exact .head _
    · rw [Int.min_eq_right (by grind)]; exact .tail _ ih
theorem minI_le : ∀ l : List Int, ∀ x ∈ l, minI l ≤ x
  | [], x, h => (List.not_mem_nil h).elim
  | [a], x, h => by rw [List.mem_singleton.mp h]; exact Int.le_refl _
  | a :: b :: r, x, h => by
    show min a (minI (b :: r)) ≤ x
    rcases List.mem_cons.mp h with e | e
    · rw [e]; exact Int.min_le_left _ _
    · exact Int.le_trans (Int.min_le_right _ _) (minI_le (b :: r) x e)
noncomputable def aloneT (s : Int) (is : List Int) : Int := if is = [] then 2 else 2 * (is.length : Int) - 2 + minI (is.map (priceT s))
section
variable {X X' : Cx} {st st₁ st₂ st₃ st' : PSt} {ad : Nat → Addr} {k : Nat}
theorem Op.eq_nil (ok : X.Ok k) {n m : Nat} {xs : List PV} (hx : At st.sto n (.list xs)) (hy : At st.sto m (.list [])) (fx : PV.flats xs = true) (cx : PyData.canLayAll0 (PV.datas xs) = true) (hd : PyData.depthAll (PV.datas xs) ≤ 50) : Op2 X (compareOp .Eq) (.loc n) (.loc m) st (.bool xs.isEmpty) st := by
  have := Op.eq_list ok hx.get hy.get fx rfl cx rfl hd
  rwa [eqv_nil] at this
theorem Op.ne_nil (ok : X.Ok k) {n m : Nat} {xs : List PV} (hx : At st.sto n (.list xs)) (hy : At st.sto m (.list [])) (fx : PV.flats xs = true) (cx : PyData.canLayAll0 (PV.datas xs) = true) (hd : PyData.depthAll (PV.datas xs) ≤ 50) : Op2 X (compareOp .NotEq) (.loc n) (.loc m) st (.bool (!xs.isEmpty)) st := by
  have := Op.ne_list ok hx.get hy.get fx rfl cx rfl hd
  rwa [eqv_nil] at this
set_option maxHeartbeats 2000000 in
theorem c75 (ok : X.Ok (k + 1)) (tp : Top ad X.w X.K) (s : Int) (n : Nat) (is : List Int) (hp : st.sto[n]? = some (.list (is.map .int))) (hcl : (st.sto.all (PO.inS st.sto.length)) = true) (hl : is.length ≤ 1000) :
    Calls X (.glob (.ref (ad 75))) [.int s, .loc n] st (.int (aloneT s is)) st := by
  have hn : n < st.sto.length := (List.getElem?_eq_some_iff.mp hp).1
  obtain ⟨loc, sto⟩ := st
  dsimp only at hp hcl hn
  refine Calls.fn 75 ["symbol", "stretch"] ok tp (loc₀ := [("stretch", .loc n), ("symbol", .int s)]) rfl (fun _ _ _ _ vals h => by match vals, h with | [a, b], _ => rfl) rfl rfl (by decide +kernel) (by decide +kernel) rfl rfl rfl (fun X' ok' tp' henv => ?_)
  refine ⟨[("stretch", .loc n), ("symbol", .int s)], ?_⟩
  have a0 : At sto n (.list (is.map .int)) := At.base _ _ _ hp
  have htest : ∀ q, BTst X' (.Compare (.Name "stretch" q) [.Eq] [.List [] ⟨211, 18, 211, 20⟩] ⟨211, 7, 211, 20⟩) ⟨[("stretch", .loc n), ("symbol", .int s)], sto⟩ (is.map PV.int).isEmpty ⟨[("stretch", .loc n), ("symbol", .int s)], sto⟩ := fun q =>
    B.tstG sto (sto₁ := sto ++ [PO.list []]) (B.tcmp (st₁ := ⟨[("stretch", .loc n), ("symbol", .int s)], sto⟩) (by walk_at "nm") (B.list B.nil (by rw [sizeLine_eq]; decide)) (Op.eq_nil ok' (.prev _ _ _ _ a0) (.last _ _ _ rfl) (ints_flat _) (ints_lay _) (Nat.le_trans (ints_depth _) (by decide))) rfl) (by walk_at "pre") (by simp [PV.inS]; omega) hcl (Nat.le_refl _)
  by_cases h0 : is = []
  · have e : aloneT s is = 2 := by unfold aloneT; rw [if_pos h0]
    rw [e]
    conv => arg 2; whnf
    refine BExs.h ?_
    refine B.rets (B.if_t (B.tcast (htest _) (by rw [h0]; rfl)) (B.rets (B.ret B.int)))
  · have e : aloneT s is = 2 * (is.length : Int) - 2 + minI (is.map (priceT s)) := by unfold aloneT; rw [if_neg h0]
    rw [e]
    refine B.cutRet (st₁ := ⟨[("stretch", .loc n), ("symbol", .int s), ("prices", .loc sto.length)], sto ++ [PO.list ((is.map (priceT s)).map .int)]⟩) ?_ ?_ ?_ ?_
    · conv => arg 2; whnf
      refine Q.s2 ⟨[("stretch", .loc n), ("symbol", .int s)], sto⟩ (B.if_f (B.tcast (htest _) (by cases is with | nil => exact absurd rfl h0 | cons _ _ => rfl)) B.snil) ?_
      refine Q.s2 ⟨[("stretch", .loc n), ("symbol", .int s), ("prices", .loc sto.length)], sto ++ [PO.list []]⟩ (A.assign ok' (B.list B.nil (by rw [sizeLine_eq]; decide)) (by boot_fast) (by by_place) rfl) ?_
      refine Q.s2 ⟨[("stretch", .loc n), ("symbol", .int s), ("prices", .loc sto.length)], sto ++ [PO.list ((is.map (priceT s)).map .int)]⟩ ?_ ?_
      · refine B.xto (st₁ := ⟨[("stretch", .loc n), ("symbol", .int s), ("prices", .loc sto.length)], sto ++ [PO.list (((is.take is.length).map (priceT s)).map .int)]⟩) ?_ (by rw [List.take_length])
        refine B.forS (st₁ := ⟨[("stretch", .loc n), ("symbol", .int s), ("prices", .loc sto.length)], sto ++ [PO.list []]⟩) (items := is.map .int) (depS := fun st => st.sto[n]? = some (.list (is.map .int))) ok' (by boot_fast) (Src.of (BEv.h (by walk_at "nm")) (Iters.listA ok'.hh (.prev _ _ _ _ a0))) is.length (fun i => ⟨[("stretch", .loc n), ("symbol", .int s), ("prices", .loc sto.length)], sto ++ [PO.list (((is.take i).map (priceT s)).map .int)]⟩) rfl ?_ (.inl ⟨rfl, rfl, (List.length_map _).symm, (At.prev _ _ _ _ a0).get⟩) (by intro _; rfl)
        intro i hi
        refine ⟨.int (is.getD i 0), [("stretch", .loc n), ("symbol", .int s), ("prices", .loc sto.length), ("other", .int (is.getD i 0))], by rw [List.getElem?_map, getD_some is i 0 hi]; rfl, (At.prev _ _ _ _ a0).get, by by_place, ?_⟩
        have et : ((is.take (i + 1)).map (priceT s)).map PV.int = ((is.take i).map (priceT s)).map PV.int ++ [PV.int (priceT s (is.getD i 0))] := by
          rw [List.take_succ_eq_append_getElem hi, List.map_append, List.map_append, List.getD_eq_getElem?_getD, List.getElem?_eq_getElem hi]; rfl
        dsimp only
        rw [et]
        generalize is.getD i 0 = o
        refine B.less (l := [("stretch", .loc n), ("symbol", .int s), ("prices", .loc sto.length), ("other", .int o)]) ?_ (by walk_at "lk")
        have hsz : (((is.take i).map (priceT s)).map PV.int).length ≤ sizeLine := by rw [sizeLine_eq, List.length_map, List.length_map, List.length_take]; grind
        apply B.one
        by_cases c0 : o = s
        · have ep : priceT s o = 0 := by unfold priceT; rw [if_pos c0]
          rw [ep]
          refine B.if_t (Q.tcmp (c := (o == s)) (by walk_at "nm") (by walk_at "nm") Op.eq_int rfl (by rw [c0]; exact beq_self_eq_true _)) (B.one (Q.append ok' (n := sto.length) (xs := ((is.take i).map (priceT s)).map .int) (v := .int 0) (by walk_at "nm") B.int (.last _ _ _ rfl) (.last _ _ _ _ rfl) hsz (by walk_at "st") (by walk_at "pl") rfl rfl rfl))
        · have hab : ∀ st : PSt, Look st.loc "symbol" (.int s) → Look st.loc "other" (.int o) → True := fun _ _ _ => trivial
          refine B.if_f (Q.tcmp (c := (o == s)) (by walk_at "nm") (by walk_at "nm") Op.eq_int rfl (by rw [beq_eq_false_iff_ne]; exact c0)) ?_
          apply B.one
          by_cases c1 : (o - s).natAbs = 32
          · by_cases c2 : min o s > 64
            · have ep : priceT s o = 1 := by unfold priceT; rw [if_neg c0, if_pos ⟨c1, c2⟩]
              rw [ep]
              refine B.if_t (Q.and (Q.tcmp (c := (((o - s).natAbs : Int) == 32)) (B.bAbs ok' tp' (by boot_fast) (Q.c1 (Q.binop (by walk_at "nm") (by walk_at "nm") Op.sub_int) (by walk_at "st")) (by walk_at "pl") Calls.abs) B.int Op.eq_int rfl (by rw [c1]; rfl)) (Q.and1 (Q.tcmp (c := decide (min o s > 64)) (B.bMin ok' tp' (by boot_fast) (Q.c2 (by walk_at "nm") (by walk_at "nm") (by walk_at "st") (by walk_at "st")) (by walk_at "pl") (Calls.min2 ok')) B.int Op.gt_int rfl (decide_eq_true c2)))) (B.one (Q.append ok' (n := sto.length) (xs := ((is.take i).map (priceT s)).map .int) (v := .int 1) (by walk_at "nm") B.int (.last _ _ _ rfl) (.last _ _ _ _ rfl) hsz (by walk_at "st") (by walk_at "pl") rfl rfl rfl))
            · have ep : priceT s o = 2 := by unfold priceT; rw [if_neg c0, if_neg (fun h => c2 h.2)]
              rw [ep]
              refine B.if_f (Q.and (Q.tcmp (c := (((o - s).natAbs : Int) == 32)) (B.bAbs ok' tp' (by boot_fast) (Q.c1 (Q.binop (by walk_at "nm") (by walk_at "nm") Op.sub_int) (by walk_at "st")) (by walk_at "pl") Calls.abs) B.int Op.eq_int rfl (by rw [c1]; rfl)) (Q.andF (Q.tcmp (c := decide (min o s > 64)) (B.bMin ok' tp' (by boot_fast) (Q.c2 (by walk_at "nm") (by walk_at "nm") (by walk_at "st") (by walk_at "st")) (by walk_at "pl") (Calls.min2 ok')) B.int Op.gt_int rfl (decide_eq_false c2)))) (B.one (Q.append ok' (n := sto.length) (xs := ((is.take i).map (priceT s)).map .int) (v := .int 2) (by walk_at "nm") B.int (.last _ _ _ rfl) (.last _ _ _ _ rfl) hsz (by walk_at "st") (by walk_at "pl") rfl rfl rfl))
          · have ep : priceT s o = 2 := by unfold priceT; rw [if_neg c0, if_neg (fun h => c1 h.1)]
            rw [ep]
            refine B.if_f (Q.andF (Q.tcmp (c := (((o - s).natAbs : Int) == 32)) (B.bAbs ok' tp' (by boot_fast) (Q.c1 (Q.binop (by walk_at "nm") (by walk_at "nm") Op.sub_int) (by walk_at "st")) (by walk_at "pl") Calls.abs) B.int Op.eq_int rfl (by rw [beq_eq_false_iff_ne]; grind))) (B.one (Q.append ok' (n := sto.length) (xs := ((is.take i).map (priceT s)).map .int) (v := .int 2) (by walk_at "nm") B.int (.last _ _ _ rfl) (.last _ _ _ _ rfl) hsz (by walk_at "st") (by walk_at "pl") rfl rfl rfl))
      · have hne : is.map (priceT s) ≠ [] := fun h => h0 (List.map_eq_nil_iff.mp h)
        refine B.rets (B.ret (Q.binop (a := .int (2 * (is.length : Int) - 2)) (b := .int (minI (is.map (priceT s)))) (Q.binop (a := .int (2 * (is.length : Int))) (b := .int 2) (Q.binop (a := .int 2) (b := .int (is.length : Int)) B.int ?_ (Op.mul_int (PySem.IntMulOk.of_left (by decide)))) B.int Op.sub_int) ?_ Op.add_int))
        · refine B.cast (a := .int ((is.map PV.int).length : Nat)) (B.bLen ok' tp' (by boot_fast) (Q.c1 (by walk_at "nm") (by walk_at "st")) (by walk_at "pl") (Calls.len_listA (.prev _ _ _ _ a0) (by rw [List.length_map]; grind))) (by rw [List.length_map])
        · exact B.bMin ok' tp' (by boot_fast) (Q.c1 (v := .loc sto.length) (by walk_at "nm") (by walk_at "st")) (by walk_at "pl") (Calls.min_list ok' (At.last _ _ _ rfl).get (minI_mem _ hne) (minI_le _))
    · refine ⟨fun x v e => ?_, by simp [PV.inS]; grind, (List.take_left' rfl).symm, hcl⟩
      exact e ▸ (by revert e; simp only [List.lookup]; intro e; split at e <;> (try split at e) <;> simp_all)
    · exact Nat.le_refl _
    · rfl
end


noncomputable def iget (D : List (Int × Int)) (k : Int) : Option Int := (D.find? fun p => decide (p.1 = k)).map (·.2)
noncomputable def iput (D : List (Int × Int)) (k v : Int) : List (Int × Int) := if D.any (fun p => decide (p.1 = k)) then D.map (fun p => if p.1 = k then (p.1, v) else p) else D ++ [(k, v)]
noncomputable def ipv (D : List (Int × Int)) : List (Int × PV) := D.map fun p => (p.1, PV.int p.2)
theorem ipv_get (D : List (Int × Int)) (k : Int) : dget (ipv D) k = (iget D k).map .int := by
  unfold dget iget ipv
  induction D with
  | nil => rfl
  | cons p r ih =>
    simp only [List.map_cons, List.find?_cons]
    by_cases h : p.1 = k
    · simp [h]
    · simp only [h, decide_false]; exact ih
theorem ipv_put (D : List (Int × Int)) (k v : Int) : dput (ipv D) k (.int v) = ipv (iput D k v) := by
  have ha : (ipv D).any (fun p => decide (p.1 = k)) = D.any (fun p => decide (p.1 = k)) := by unfold ipv; rw [List.any_map]; rfl
  unfold dput iput
  rw [ha]
  split
  · unfold ipv; rw [List.map_map, List.map_map]
    congr 1
    funext p
    simp only [Function.comp]
    split <;> rfl
  · unfold ipv; rw [List.map_append]; rfl
theorem ipv_len (D : List (Int × Int)) : (ipv D).length = D.length := List.length_map _
theorem iput_len (D : List (Int × Int)) (k v : Int) : (iput D k v).length ≤ D.length + 1 := by unfold iput; split <;> simp
theorem iput_get (D : List (Int × Int)) (k v : Int) : iget (iput D k v) k = some v := by
  unfold iput iget
  split
  · rename_i h
    induction D with
    | nil => cases h
    | cons p r ih =>
      simp only [List.map_cons, List.find?_cons]
      by_cases e : p.1 = k
      · simp [e]
      · simp only [e, if_false, decide_false]
        refine ih ?_
        simp only [List.any_cons, e, decide_false, Bool.false_or] at h
        exact h
  · rename_i h
    have hn : D.find? (fun p => decide (p.1 = k)) = none := by
      rw [List.find?_eq_none]
      intro p hp hk
      exact h (List.any_eq_true.mpr ⟨p, hp, hk⟩)
    rw [List.find?_append, hn]; simp
noncomputable def keyT (part : Int) (i j : Nat) : Int := part * 10000 + (i : Int) * 100 + (j : Int)
noncomputable def stretchT (row : List Int) (i j : Nat) : List Int := (row.drop i).take (j - i)
noncomputable def partV (row : List Int) (D : List (Int × Int)) (part : Int) (i j : Nat) : Int := (iget D (keyT part i j)).getD (aloneT part (stretchT row i j))
noncomputable def partD (row : List Int) (D : List (Int × Int)) (part : Int) (i j : Nat) : List (Int × Int) := if (iget D (keyT part i j)).isSome then D else iput D (keyT part i j) (aloneT part (stretchT row i j))
theorem part_get (row : List Int) (D : List (Int × Int)) (part : Int) (i j : Nat) : iget (partD row D part i j) (keyT part i j) = some (partV row D part i j) := by
  unfold partD partV
  cases h : iget D (keyT part i j) with
  | none => simp only [Option.isSome_none, Bool.false_eq_true, if_false, Option.getD_none]; exact iput_get _ _ _
  | some v => simp only [Option.isSome_some, if_true, Option.getD_some]; exact h
section
variable {X X' : Cx} {st st₁ st₂ st₃ st' : PSt} {ad : Nat → Addr} {k : Nat}
theorem slc_ij {α : Type} (l : List α) (i j : Nat) (h : i ≤ j) (h' : j ≤ l.length) : slc l (some (i : Int)) (some (j : Int)) = (l.drop i).take (j - i) := by
  have := slc_mid l i (j - i) (by grind)
  rwa [show i + (j - i) = j by grind] at this
theorem At.set_ne {l : List PO} {m n : Nat} {p q : PO} (h : At l n q) (e : n ≠ m) : At (l.set m p) n q := At.base _ _ _ (by rw [List.getElem?_set_ne (Ne.symm e)]; exact h.get)
theorem At.set_self {l : List PO} {n : Nat} {p : PO} (h : n < l.length) : At (l.set n p) n p := At.base _ _ _ (by rw [List.getElem?_set_self h])
theorem closed_set {sto : List PO} (hcl : (sto.all (PO.inS sto.length)) = true) (n : Nat) (p : PO) (hp : p.inS sto.length = true) : ((sto.set n p).all (PO.inS (sto.set n p).length)) = true := by
  rw [List.length_set]
  rw [List.all_eq_true] at hcl ⊢
  intro x hx
  rcases List.mem_or_eq_of_mem_set hx with h | h
  · exact hcl x h
  · rw [h]; exact hp
theorem ipv_inS (D : List (Int × Int)) (m : Nat) : (PO.dictI (ipv D)).inS m = true := by
  show (ipv D).all (fun p => p.2.inS m) = true
  rw [List.all_eq_true]
  intro x hx
  obtain ⟨p, _, rfl⟩ := List.mem_map.mp hx
  rfl
theorem set_same {l : List PO} {n : Nat} {p : PO} (h : l[n]? = some p) : l.set n p = l := by
  apply List.ext_getElem?
  intro i
  by_cases e : n = i
  · subst e; rw [List.getElem?_set_self (List.getElem?_eq_some_iff.mp h).1, h]
  · rw [List.getElem?_set_ne e]
set_option maxHeartbeats 2000000 in
theorem c76 (ok : X.Ok (k + 2)) (tp : Top ad X.w X.K) (part : Int) (i j r t : Nat) (row : List Int) (D : List (Int × Int)) (hr : st.sto[r]? = some (.list (row.map .int))) (ht : st.sto[t]? = some (.dictI (ipv D))) (hcl : (st.sto.all (PO.inS st.sto.length)) = true) (hij : i ≤ j) (hj : j ≤ row.length) (hl : row.length ≤ 1000) (hD : D.length ≤ 1000000) :
    Calls X (.glob (.ref (ad 76))) [.int part, .int (i : Nat), .int (j : Nat), .loc r, .loc t] st (.int (partV row D part i j)) ⟨st.loc, st.sto.set t (.dictI (ipv (partD row D part i j)))⟩ := by
  have hrn : r < st.sto.length := (List.getElem?_eq_some_iff.mp hr).1
  have htn : t < st.sto.length := (List.getElem?_eq_some_iff.mp ht).1
  have hrt : r ≠ t := by rintro rfl; rw [hr] at ht; cases ht
  have hpg := part_get row D part i j
  obtain ⟨loc, sto⟩ := st
  dsimp only at hr ht hcl hrn htn
  refine Calls.fn 76 ["part", "i", "j", "row", "table"] ok tp (loc₀ := [("table", .loc t), ("row", .loc r), ("j", .int (j : Nat)), ("i", .int (i : Nat)), ("part", .int part)]) rfl (fun _ _ _ _ vals h => by match vals, h with | [a, b, c, d, e], _ => rfl) rfl rfl (by decide +kernel) (by decide +kernel) rfl rfl rfl (fun X' ok' tp' henv => ?_)
  refine ⟨[("table", .loc t), ("row", .loc r), ("j", .int (j : Nat)), ("i", .int (i : Nat)), ("part", .int part), ("key", .int (keyT part i j))], ?_⟩
  have aR : At sto r (.list (row.map .int)) := At.base _ _ _ hr
  have aT : At sto t (.dictI (ipv D)) := At.base _ _ _ ht
  conv => arg 2; whnf
  refine BExs.h ?_
  refine Q.s2 ⟨[("table", .loc t), ("row", .loc r), ("j", .int (j : Nat)), ("i", .int (i : Nat)), ("part", .int part), ("key", .int (keyT part i j))], sto⟩ (Q.assign ok' (B.cast (b := .int (keyT part i j)) (Q.binop (a := .int (part * 10000 + (i : Int) * 100)) (b := .int (j : Nat)) (Q.binop (a := .int (part * 10000)) (b := .int ((i : Int) * 100)) (Q.binop (by walk_at "nm") B.int (Op.mul_int (PySem.IntMulOk.of_right (by decide)))) (Q.binop (by walk_at "nm") B.int (Op.mul_int (PySem.IntMulOk.of_right (by decide)))) Op.add_int) (by walk_at "nm") Op.add_int) rfl) (by boot_fast) (by by_place) rfl) ?_
  refine Q.s2 ⟨[("table", .loc t), ("row", .loc r), ("j", .int (j : Nat)), ("i", .int (i : Nat)), ("part", .int part), ("key", .int (keyT part i j))], sto.set t (.dictI (ipv (partD row D part i j)))⟩ ?_ ?_
  · cases h : iget D (keyT part i j) with
    | some v =>
      have e : partD row D part i j = D := by unfold partD; rw [h]; rfl
      rw [e, set_same ht]
      exact B.if_f (Q.tcmp (c := !((dget (ipv D) (keyT part i j)).isSome)) (by walk_at "nm") (by walk_at "nm") (Op.notin_I (Has.dictI ok' ht)) rfl (by rw [ipv_get, h]; rfl)) B.snil
    | none =>
      have e : partD row D part i j = iput D (keyT part i j) (aloneT part (stretchT row i j)) := by unfold partD; rw [h]; rfl
      rw [e]
      have k1 := closed_snoc (o := PO.list ((stretchT row i j).map .int)) hcl (inAll_ints _ _)
      refine B.if_t (Q.tcmp (c := !((dget (ipv D) (keyT part i j)).isSome)) (by walk_at "nm") (by walk_at "nm") (Op.notin_I (Has.dictI ok' ht)) rfl (by rw [ipv_get, h]; rfl)) ?_
      refine B.stepG (sto.set t (.dictI (ipv (iput D (keyT part i j) (aloneT part (stretchT row i j)))))) (sto₁ := sto.set t (.dictI (ipv (iput D (keyT part i j) (aloneT part (stretchT row i j))))) ++ [PO.list ((stretchT row i j).map .int)]) (l₁ := [("table", .loc t), ("row", .loc r), ("j", .int (j : Nat)), ("i", .int (i : Nat)), ("part", .int part), ("key", .int (keyT part i j))]) ?_ (by walk_at "pre") (by simp [PV.inS]; grind) (closed_set hcl _ _ (ipv_inS _ _)) (by rw [List.length_set]; exact Nat.le_refl _) B.snil
      refine B.setIt (st₁ := ⟨[("table", .loc t), ("row", .loc r), ("j", .int (j : Nat)), ("i", .int (i : Nat)), ("part", .int part), ("key", .int (keyT part i j))], sto ++ [PO.list ((stretchT row i j).map .int)]⟩) (st₂ := ⟨[("table", .loc t), ("row", .loc r), ("j", .int (j : Nat)), ("i", .int (i : Nat)), ("part", .int part), ("key", .int (keyT part i j))], sto ++ [PO.list ((stretchT row i j).map .int)]⟩) (st₃ := ⟨[("table", .loc t), ("row", .loc r), ("j", .int (j : Nat)), ("i", .int (i : Nat)), ("part", .int part), ("key", .int (keyT part i j))], sto ++ [PO.list ((stretchT row i j).map .int)]⟩) (ov := .loc t) (iv := .int (keyT part i j)) (v := .int (aloneT part (stretchT row i j))) ?_ (by walk_at "nm") (by walk_at "nm") ?_ rfl
      · refine B.callF 75 ok' tp' (by boot_fast) rfl (by decide) (vs := [.int part, .loc sto.length]) (st₁ := ⟨[("table", .loc t), ("row", .loc r), ("j", .int (j : Nat)), ("i", .int (i : Nat)), ("part", .int part), ("key", .int (keyT part i j))], sto ++ [PO.list ((stretchT row i j).map .int)]⟩) ?_ (by walk_at "pl") (c75 ok' tp' part sto.length (stretchT row i j) (by simp) k1 (by unfold stretchT; rw [List.length_take, List.length_drop]; omega))
        refine B.cons (st₁ := ⟨[("table", .loc t), ("row", .loc r), ("j", .int (j : Nat)), ("i", .int (i : Nat)), ("part", .int part), ("key", .int (keyT part i j))], sto⟩) (by walk_at "nm") (B.cons (st₁ := ⟨[("table", .loc t), ("row", .loc r), ("j", .int (j : Nat)), ("i", .int (i : Nat)), ("part", .int part), ("key", .int (keyT part i j))], sto ++ [PO.list ((stretchT row i j).map .int)]⟩) ?_ B.nil (by walk_at "st")) (by walk_at "st")
        have es : (stretchT row i j).map PV.int = slc (row.map PV.int) (some (i : Int)) (some (j : Int)) := by
          rw [slc_ij _ i j hij (by rw [List.length_map]; exact hj)]; unfold stretchT; rw [List.map_take, List.map_drop]
        rw [es]
        exact Q.slice (a := .int (i : Nat)) (b := .int (j : Nat)) (by walk_at "nm") (Q.some (by walk_at "nm")) (Q.some (by walk_at "nm")) (.int _) (.int _) (Cut.listA aR (by rw [sizeLine_eq, List.length_map]; grind))
      · refine SetIt.IA ok' (.prev _ _ _ _ aT) ?_ (by rw [ipv_len, sizeLine_eq]; grind)
        rw [ipv_put]
        exact .prev _ _ _ _ _ (.base _ _ _ htn)
  · refine B.rets (B.ret (Q.item (o := .loc t) (i := .int (keyT part i j)) (by walk_at "nm") (by walk_at "nm") (Item.I (Has.dictI ok' (At.set_self htn).get) ?_)))
    rw [ipv_get, hpg]; rfl
end


noncomputable def nearStep (word : List Nat) (least : Int) (s : List Nat) : Int := if lev word s (least - 1) < least then lev word s (least - 1) else least
noncomputable def nears (word : List Nat) (ls : List (List Nat)) : Nat → Int
  | 0 => 100
  | i + 1 => nearStep word (nears word ls i) (ls.getD i [])
section
variable {X X' : Cx} {st st₁ st₂ st₃ st' : PSt} {ad : Nat → Addr} {k : Nat}
set_option maxHeartbeats 2000000 in
theorem c74 (ok : X.Ok (k + 3)) (tp : Top ad X.w X.K) (word : List Nat) (n : Nat) (ls : List (List Nat)) (hp : st.sto[n]? = some (.list (ls.map .str))) (hcl : (st.sto.all (PO.inS st.sto.length)) = true) (hw : word.length ≤ 1000) (hl : ∀ s ∈ ls, s.length ≤ 1000) :
    Calls X (.glob (.ref (ad 74))) [.str word, .loc n] st (.int (nears word ls ls.length)) st := by
  obtain ⟨loc, sto⟩ := st
  dsimp only at hp hcl
  refine Calls.fn 74 ["word", "sentences"] ok tp (loc₀ := [("sentences", .loc n), ("word", .str word)]) rfl (fun _ _ _ _ vals h => by match vals, h with | [a, b], _ => rfl) rfl rfl (by decide +kernel) (by decide +kernel) rfl rfl rfl (fun X' ok' tp' henv => ?_)
  refine ⟨[("sentences", .loc n), ("word", .str word), ("least", .int (nears word ls ls.length))], ?_⟩
  conv => arg 2; whnf
  refine BExs.h ?_
  refine Q.s2 ⟨[("sentences", .loc n), ("word", .str word), ("least", .int 100)], sto⟩ (Q.assign ok' B.int (by boot_fast) (by by_place) rfl) ?_
  refine Q.s2 ⟨[("sentences", .loc n), ("word", .str word), ("least", .int (nears word ls ls.length))], sto⟩ ?_ (B.rets (B.ret (by walk_at "nm")))
  refine B.forS (st₁ := ⟨[("sentences", .loc n), ("word", .str word), ("least", .int 100)], sto⟩) (items := ls.map .str) (depS := fun st => st.sto[n]? = some (.list (ls.map .str))) ok' (by boot_fast) (Src.of (BEv.h (by walk_at "nm")) (Iters.listA ok'.hh (.base _ _ _ hp))) ls.length (fun i => ⟨[("sentences", .loc n), ("word", .str word), ("least", .int (nears word ls i))], sto⟩) rfl ?_ (.inl ⟨rfl, rfl, (List.length_map _).symm, hp⟩) (by intro _; rfl)
  intro i hi
  have hs : (ls.getD i []).length ≤ 1000 := hl _ (by rw [List.getD_eq_getElem?_getD, List.getElem?_eq_getElem hi]; exact List.getElem_mem hi)
  refine ⟨.str (ls.getD i []), [("sentences", .loc n), ("word", .str word), ("least", .int (nears word ls i)), ("sentence", .str (ls.getD i []))], by rw [List.getElem?_map, getD_some ls i [] hi]; rfl, hp, by by_place, ?_⟩
  show BExs X' _ _ _ ⟨[("sentences", .loc n), ("word", .str word), ("least", .int (nearStep word (nears word ls i) (ls.getD i [])))], sto⟩
  generalize ls.getD i [] = s at hs
  generalize nears word ls i = m
  dsimp only
  refine B.less (l := [("sentences", .loc n), ("word", .str word), ("least", .int (nearStep word m s)), ("sentence", .str s), ("told", .int (lev word s (m - 1)))]) ?_ (by walk_at "lk")
  refine Q.s2 ⟨[("sentences", .loc n), ("word", .str word), ("least", .int m), ("sentence", .str s), ("told", .int (lev word s (m - 1)))], sto⟩ (Q.assign ok' (B.callF 5 ok' tp' (by boot_fast) rfl (by decide) (Q.c3 (by walk_at "nm") (by walk_at "nm") (Q.binop (by walk_at "nm") B.int Op.sub_int) (by walk_at "st") (by walk_at "st") (by walk_at "st")) (by walk_at "pl") (c5 ok' tp' word s (m - 1) hw hs hcl)) (by boot_fast) (by by_place) rfl) ?_
  apply B.one
  unfold nearStep
  by_cases c : lev word s (m - 1) < m
  · rw [if_pos c]
    exact B.if_t (Q.tcmp (c := decide (lev word s (m - 1) < m)) (by walk_at "nm") (by walk_at "nm") Op.lt_int rfl (decide_eq_true c)) (B.one (Q.assign ok' (by walk_at "nm") (by boot_fast) (by by_place) rfl))
  · rw [if_neg c]
    exact B.if_f (Q.tcmp (c := decide (lev word s (m - 1) < m)) (by walk_at "nm") (by walk_at "nm") Op.lt_int rfl (decide_eq_false c)) B.snil
end


noncomputable abbrev SItem := List Nat × List Int
noncomputable def itemPV (p : SItem) : PV := .tup [.str p.1, .tup (p.2.map .int)]
noncomputable def sentStep (R : Int → List (List Int)) (s : List SItem × List (List Nat)) : List SItem × List (List Nat) :=
  match s.1.getLast? with
  | none => s
  | some p =>
    if p.2.headD 0 < 256 then (if p.2.headD 0 = 0 then (s.1.dropLast, s.2 ++ [p.1]) else (s.1.dropLast ++ [(p.1 ++ [(p.2.headD 0).toNat], p.2.tail)], s.2))
    else (s.1.dropLast ++ (R (p.2.headD 0)).map fun right => (p.1, right ++ p.2.tail), s.2)
noncomputable def sents (R : Int → List (List Int)) : Nat → List SItem × List (List Nat)
  | 0 => ([([], [256, 0])], [])
  | i + 1 => sentStep R (sents R i)
theorem sentStep_at (R : Int → List (List Int)) (w : List SItem) (wh : List (List Nat)) (told : List Nat) (x : Int) (rest : List Int) :
    sentStep R (w ++ [(told, x :: rest)], wh) = if x < 256 then (if x = 0 then (w, wh ++ [told]) else (w ++ [(told ++ [x.toNat], rest)], wh)) else (w ++ (R x).map fun right => (told, right ++ rest), wh) := by
  unfold sentStep
  simp only [List.getLast?_append, List.getLast?_singleton, Option.some_or, List.dropLast_concat, List.headD_cons, List.tail_cons]
theorem items_flat : ∀ l : List SItem, PV.flats (l.map itemPV) = true
  | [] => rfl
  | p :: r => by
    simp only [List.map_cons, PV.flats, Bool.and_eq_true]
    refine ⟨?_, items_flat r⟩
    show PV.flats [.str p.1, .tup (p.2.map .int)] = true
    simp only [PV.flats, PV.flat, ints_flat, Bool.and_true]
theorem items_lay : ∀ l : List SItem, (∀ p ∈ l, ∀ c ∈ p.1, c < 1114112) → PyData.canLayAll0 (PV.datas (l.map itemPV)) = true
  | [], _ => rfl
  | p :: r, h => by
    simp only [List.map_cons, PV.datas, PyData.canLayAll0, Bool.and_eq_true]
    refine ⟨?_, items_lay r fun q hq => h q (.tail _ hq)⟩
    show PyData.canLay0 (.tuple [.str (T p.1), .tuple (PV.datas (p.2.map .int))]) = true
    simp only [PyData.canLay0, PyData.canLayAll0, ints_lay, PyData.strOk, Bool.and_true]
    simp only [T, List.all_toArray, List.all_eq_true, decide_eq_true_eq]
    exact fun c hc => h p (.head _) c hc
theorem items_depth : ∀ l : List SItem, PyData.depthAll (PV.datas (l.map itemPV)) ≤ 10
  | [] => Nat.zero_le _
  | p :: r => by
    simp only [List.map_cons, PV.datas, PyData.depthAll]
    refine Nat.max_le.mpr ⟨?_, items_depth r⟩
    show PyData.depth (.tuple [.str (T p.1), .tuple (PV.datas (p.2.map .int))]) ≤ 10
    have := ints_depth p.2
    simp only [PyData.depth, PyData.depthAll]
    grind
/-- the rules, in the store -/
structure Rules (sto : List PO) (rn : Nat) (R : Int → List (List Int)) : Prop where
  at_ : ∃ rs, At sto rn (.dictI rs) ∧ ∀ x : Int, 256 ≤ x → x ≤ 258 → ∃ a, dget rs x = some (.loc a) ∧ At sto a (.list ((R x).map fun r => .tup (r.map .int)))
theorem Rules.snoc {sto : List PO} {rn : Nat} {R : Int → List (List Int)} (h : Rules sto rn R) (o : PO) : Rules (sto ++ [o]) rn R := by
  obtain ⟨rs, h1, h2⟩ := h.at_
  exact ⟨rs, .prev _ _ _ _ h1, fun x a b => let ⟨l, e, f⟩ := h2 x a b; ⟨l, e, .prev _ _ _ _ f⟩⟩
section
variable {X X' : Cx} {st st₁ st₂ st₃ st' : PSt} {ad : Nat → Addr} {k : Nat}
noncomputable def sSto (sto : List PO) (s : List SItem × List (List Nat)) : List PO := sto ++ [.list (s.2.map .str)] ++ [.list (s.1.map itemPV)]
noncomputable def wh73 : Stmt := nth (fnB 73) 2
noncomputable abbrev sLoc (rn L : Nat) : List (Str × PV) := [("rules", .loc rn), ("whole", .loc L), ("waiting", .loc (L + 1))]
noncomputable abbrev sLoc2 (rn L : Nat) (told : List Nat) (x : Int) (rest : List Int) : List (Str × PV) := [("rules", .loc rn), ("whole", .loc L), ("waiting", .loc (L + 1)), ("told", .str told), ("rest", .tup ((x :: rest).map .int))]
set_option maxHeartbeats 4000000 in
theorem body73 (ok : X.Ok (k + 2)) (tp : Top ad X.w X.K) (henv : X.env.scope = fnS 73) (sto : List PO) (hcl : (sto.all (PO.inS sto.length)) = true) (rn : Nat) (R : Int → List (List Int)) (hR : Rules sto rn R) (w : List SItem) (wh : List (List Nat)) (told : List Nat) (x : Int) (rest : List Int)
    (ht : told.length ≤ 1000) (hr : rest.length ≤ 1000) (hw : w.length ≤ 1000000) (hwh : wh.length ≤ 1000000) (hx0 : 0 ≤ x) (hx1 : x ≤ 258) (hRl : (R x).length ≤ 1000) (hRr : ∀ r ∈ R x, r.length ≤ 1000) :
    BExs X (sBody wh73) ⟨sLoc rn sto.length, sSto sto (w ++ [(told, x :: rest)], wh)⟩ .next ⟨sLoc rn sto.length, sSto sto (sentStep R (w ++ [(told, x :: rest)], wh))⟩ := by
  rw [sentStep_at]
  have hLw : (sto ++ [PO.list (wh.map .str)]).length = sto.length + 1 := by simp
  conv => arg 2; whnf
  refine B.less (l := [("rules", .loc rn), ("whole", .loc sto.length), ("waiting", .loc (sto.length + 1)), ("told", .str told), ("rest", .tup ((x :: rest).map .int))]) ?_ (by walk_at "lk")
  refine Q.s2 ⟨[("rules", .loc rn), ("whole", .loc sto.length), ("waiting", .loc (sto.length + 1)), ("told", .str told), ("rest", .tup ((x :: rest).map .int))], sSto sto (w, wh)⟩ ?_ ?_
  · refine B.assignTup (v := .tup [.str told, .tup ((x :: rest).map .int)]) (B.pop (st₁ := ⟨sLoc rn sto.length, sSto sto (w ++ [(told, x :: rest)], wh)⟩) (n := sto.length + 1) (xs := w.map itemPV) ok (by walk_at "nm") ?_ ?_ (by rw [sizeLine_eq, List.length_map]; grind) rfl rfl) (As.tup2 ok (As.name ok (by boot_fast) (by by_place)) (As.name ok (by boot_fast) (by by_place)) rfl) rfl rfl
    · unfold sSto; dsimp only; rw [List.map_append]; exact .last _ _ _ hLw.symm
    · unfold sSto; exact .last _ _ _ _ hLw.symm
  have hTm : ∀ (sto' : List PO) (q1 q2 q3 q4 q5 : Pos) (kc : Nat), BTst X (.Call (.Name "ISTERMINAL" q1) [.Subscript (.Name "rest" q2) (.Constant (.int 0) kc q3) q4] [] q5) ⟨sLoc2 rn sto.length told x rest, sto'⟩ (decide (x < 256)) ⟨sLoc2 rn sto.length told x rest, sto'⟩ := fun sto' q1 q2 q3 q4 q5 kc =>
    B.tval (B.callF 63 ok tp (by boot_fast) rfl (by decide) (Q.c1 (Q.item (by walk_at "nm") B.int (Item.tup (by decide) (by decide) rfl)) (by walk_at "st")) (by walk_at "pl") (c63 ok tp x)) Truth.bool rfl
  have hNt : ∀ (sto' : List PO) (q1 q2 q3 q4 q5 : Pos) (kc : Nat), BTst X (.Call (.Name "ISNONTERMINAL" q1) [.Subscript (.Name "rest" q2) (.Constant (.int 0) kc q3) q4] [] q5) ⟨sLoc2 rn sto.length told x rest, sto'⟩ (decide (x ≥ 256)) ⟨sLoc2 rn sto.length told x rest, sto'⟩ := fun sto' q1 q2 q3 q4 q5 kc =>
    B.tval (B.callF 64 ok tp (by boot_fast) rfl (by decide) (Q.c1 (Q.item (by walk_at "nm") B.int (Item.tup (by decide) (by decide) rfl)) (by walk_at "st")) (by walk_at "pl") (c64 ok tp x)) Truth.bool rfl
  have hEo : ∀ (sto' : List PO) (q1 q2 q3 q4 q5 : Pos) (kc : Nat), BTst X (.Call (.Name "ISEOF" q1) [.Subscript (.Name "rest" q2) (.Constant (.int 0) kc q3) q4] [] q5) ⟨sLoc2 rn sto.length told x rest, sto'⟩ (x == 0) ⟨sLoc2 rn sto.length told x rest, sto'⟩ := fun sto' q1 q2 q3 q4 q5 kc =>
    B.tval (B.callF 65 ok tp (by boot_fast) rfl (by decide) (Q.c1 (Q.item (by walk_at "nm") B.int (Item.tup (by decide) (by decide) rfl)) (by walk_at "st")) (by walk_at "pl") (c65 ok tp x)) Truth.bool rfl
  have hTl : ∀ (sto' : List PO) (l : List (Str × PV)) (q1 q2 q3 q4 : Pos) (kc : Nat), Look l "rest" (.tup ((x :: rest).map .int)) → BEv X (.Subscript (.Name "rest" q1) (.Slice (Option.some (.Constant (.int 1) kc q2)) Option.none Option.none q3) q4) ⟨l, sto'⟩ (.tup (rest.map .int)) ⟨l, sto'⟩ := fun sto' l q1 q2 q3 q4 kc hl =>
    Q.slice (B.local ok (by boot_fast) hl (by decide)) (Q.some B.int) Q.none (.int _) .none (Cut.tup1 (by rw [sizeLine_eq, List.length_map]; grind))
  by_cases hx : x < 256
  · rw [if_pos hx]
    refine Q.s2 ⟨sLoc2 rn sto.length told x rest, sSto sto (if x = 0 then (w, wh ++ [told]) else (w ++ [(told ++ [x.toNat], rest)], wh))⟩ (B.if_t (B.tcast (hTm _ _ _ _ _ _ _) (decide_eq_true hx)) ?_) (B.one (B.if_f (B.tcast (hNt _ _ _ _ _ _ _) (decide_eq_false (by grind))) B.snil))
    apply B.one
    by_cases h0 : x = 0
    · rw [if_pos h0]
      refine B.if_t (B.tcast (hEo _ _ _ _ _ _ _) (by rw [h0]; rfl)) (B.one (Q.append ok (n := sto.length) (xs := wh.map .str) (v := .str told) (by walk_at "nm") (by walk_at "nm") (.prev _ _ _ _ (.last _ _ _ rfl)) ?_ (by rw [sizeLine_eq, List.length_map]; grind) (by walk_at "st") (by walk_at "pl") rfl rfl rfl))
      unfold sSto
      dsimp only
      rw [List.map_append]
      exact .prev _ _ _ _ _ (.last _ _ _ _ rfl)
    · rw [if_neg h0]
      refine B.if_f (B.tcast (hEo _ _ _ _ _ _ _) (by rw [beq_eq_false_iff_ne]; exact h0)) (B.one (Q.append ok (n := sto.length + 1) (xs := w.map itemPV) (v := itemPV (told ++ [x.toNat], rest)) (by walk_at "nm") ?_ (.last _ _ _ hLw.symm) ?_ (by rw [sizeLine_eq, List.length_map]; grind) (by walk_at "st") (by walk_at "pl") rfl rfl rfl))
      · refine B.tuple (vs := [.str (told ++ [x.toNat]), .tup (rest.map .int)]) (Q.c2 (Q.binop (a := .str told) (b := .str [x.toNat]) (by walk_at "nm") (B.bChr ok tp (by boot_fast) (Q.c1 (Q.item (v := .int x) (i := .int 0) (by walk_at "nm") B.int (Item.tup (by decide) (by decide) rfl)) (by walk_at "st")) (by walk_at "pl") (Calls.chr hx0 (by grind))) (Op.add_str (by rw [sizeLine_eq, List.length_append, List.length_singleton]; grind))) (hTl _ _ _ _ _ _ _ (by by_item)) (by walk_at "st") (by walk_at "st")) (by rw [sizeLine_eq]; simp)
      · unfold sSto
        dsimp only
        rw [List.map_append]
        exact .last _ _ _ _ hLw.symm
  · rw [if_neg hx]
    refine Q.s2 ⟨sLoc2 rn sto.length told x rest, sSto sto (w, wh)⟩ (B.if_f (B.tcast (hTm _ _ _ _ _ _ _) (decide_eq_false hx)) B.snil) ?_
    apply B.one
    refine B.if_t (B.tcast (hNt _ _ _ _ _ _ _) (decide_eq_true (by grind))) ?_
    apply B.one
    obtain ⟨rs, hrs, hra⟩ := ((hR.snoc (.list (wh.map .str)))).at_
    obtain ⟨a, ha1, ha2⟩ := hra x (by grind) hx1
    refine B.xto (st₁ := ⟨sLoc2 rn sto.length told x rest, sSto sto (w ++ ((R x).take (R x).length).map fun right => (told, right ++ rest), wh)⟩) ?_ (by rw [List.take_length])
    refine B.forS (st₁ := ⟨sLoc2 rn sto.length told x rest, sSto sto (w, wh)⟩) (items := (R x).map fun r => .tup (r.map .int)) (depS := fun st => st.sto[a]? = some (.list ((R x).map fun r => .tup (r.map .int)))) ok (by boot_fast) (Src.of (BEv.h (Q.item (i := .int x) (by walk_at "nm") (Q.item (i := .int 0) (by walk_at "nm") B.int (Item.tup (by decide) (by decide) rfl)) (Item.I (Has.dictI ok (At.prev _ _ _ _ hrs).get) ha1))) (Iters.listA ok.hh (.prev _ _ _ _ ha2))) (R x).length (fun j => ⟨sLoc2 rn sto.length told x rest, sSto sto (w ++ ((R x).take j).map fun right => (told, right ++ rest), wh)⟩) (by simp) ?_ (.inl ⟨rfl, rfl, (List.length_map _).symm, (At.prev _ _ _ _ ha2).get⟩) (by intro _; rfl)
    intro j hj
    have hrl : ((R x).getD j []).length ≤ 1000 := hRr _ (by rw [List.getD_eq_getElem?_getD, List.getElem?_eq_getElem hj]; exact List.getElem_mem hj)
    refine ⟨.tup (((R x).getD j []).map .int), [("rules", .loc rn), ("whole", .loc sto.length), ("waiting", .loc (sto.length + 1)), ("told", .str told), ("rest", .tup ((x :: rest).map .int)), ("right", .tup (((R x).getD j []).map .int))], by rw [List.getElem?_map, getD_some (R x) j [] hj]; rfl, (At.prev _ _ _ _ ha2).get, by by_place, ?_⟩
    have et : ((R x).take (j + 1)).map (fun right => (told, right ++ rest)) = ((R x).take j).map (fun right => (told, right ++ rest)) ++ [(told, (R x).getD j [] ++ rest)] := by
      rw [List.take_succ_eq_append_getElem hj, List.map_append, List.getD_eq_getElem?_getD, List.getElem?_eq_getElem hj]; rfl
    dsimp only
    rw [et, ← List.append_assoc]
    generalize (R x).getD j [] = right at hrl
    refine B.less (l := [("rules", .loc rn), ("whole", .loc sto.length), ("waiting", .loc (sto.length + 1)), ("told", .str told), ("rest", .tup ((x :: rest).map .int)), ("right", .tup (right.map .int))]) ?_ (by walk_at "lk")
    refine B.one (Q.append ok (n := sto.length + 1) (xs := (w ++ ((R x).take j).map (fun right => (told, right ++ rest))).map itemPV) (v := itemPV (told, right ++ rest)) (by walk_at "nm") ?_ (.last _ _ _ hLw.symm) ?_ (by rw [sizeLine_eq, List.length_map, List.length_append, List.length_map, List.length_take]; grind) (by walk_at "st") (by walk_at "pl") rfl rfl rfl)
    · refine B.tuple (vs := [.str told, .tup ((right ++ rest).map .int)]) (Q.c2 (by walk_at "nm") (B.cast (a := .tup (right.map .int ++ rest.map .int)) (Q.binop (by walk_at "nm") (hTl _ _ _ _ _ _ _ (by by_item)) (Op.add_tup (by rw [sizeLine_eq, List.length_map, List.length_map]; grind))) (by rw [List.map_append])) (by walk_at "st") (by walk_at "st")) (by rw [sizeLine_eq]; simp)
    · unfold sSto
      dsimp only
      rw [List.map_append (l₂ := [(told, right ++ rest)])]
      exact .last _ _ _ _ hLw.symm
end


theorem items_inAll (m : Nat) : ∀ l : List SItem, PV.inAll m (l.map itemPV) = true
  | [] => rfl
  | p :: r => by
    simp only [List.map_cons, PV.inAll, Bool.and_eq_true]
    refine ⟨?_, items_inAll m r⟩
    show PV.inAll m [.str p.1, .tup (p.2.map .int)] = true
    simp only [PV.inAll, PV.inS, Bool.true_and, Bool.and_true]
    exact inAll_ints _ _
theorem inAll_strs (k : Nat) : ∀ r : List (List Nat), PV.inAll k (r.map .str) = true
  | [] => rfl
  | i :: r => by simp only [List.map_cons, PV.inAll, PV.inS, Bool.true_and]; exact inAll_strs k r
structure SOk (R : Int → List (List Int)) (s : List SItem × List (List Nat)) : Prop where
  top : ∃ w told x rest, s.1 = w ++ [(told, x :: rest)] ∧ told.length ≤ 1000 ∧ rest.length ≤ 1000 ∧ w.length ≤ 1000000 ∧ 0 ≤ x ∧ x ≤ 258 ∧ (R x).length ≤ 1000 ∧ ∀ r ∈ R x, r.length ≤ 1000
  wh : s.2.length ≤ 1000000
  ch : ∀ p ∈ s.1, ∀ c ∈ p.1, c < 1114112
section
variable {X X' : Cx} {st st₁ st₂ st₃ st' : PSt} {ad : Nat → Addr} {k : Nat}
set_option maxHeartbeats 4000000 in
theorem c73 (ok : X.Ok (k + 3)) (tp : Top ad X.w X.K) (rn : Nat) (R : Int → List (List Int)) (hR : Rules st.sto rn R) (hcl : (st.sto.all (PO.inS st.sto.length)) = true) (N : Nat) (hgo : ∀ i, i < N → SOk R (sents R i)) (hstop : (sents R N).1 = []) :
    Calls X (.glob (.ref (ad 73))) [.loc rn] st (.loc st.sto.length) ⟨st.loc, st.sto ++ [.list ((sents R N).2.map .str)]⟩ := by
  obtain ⟨loc, sto⟩ := st
  dsimp only at hR hcl
  refine Calls.fn 73 ["rules"] ok tp (loc₀ := [("rules", .loc rn)]) rfl (fun _ _ _ _ vals h => by match vals, h with | [a], _ => rfl) rfl rfl (by decide +kernel) (by decide +kernel) rfl rfl rfl (fun X' ok' tp' henv => ?_)
  refine ⟨[("whole", .loc sto.length)], ?_⟩
  have hrn : rn < sto.length := by obtain ⟨rs, h, _⟩ := hR.at_; exact (List.getElem?_eq_some_iff.mp h.get).1
  have hLw : ∀ o : PO, (sto ++ [o]).length = sto.length + 1 := fun o => by simp
  have hcls : ∀ s : List SItem × List (List Nat), ((sSto sto s).all (PO.inS (sSto sto s).length)) = true := fun s => closed_snoc (o := .list (s.1.map itemPV)) (closed_snoc (o := .list (s.2.map .str)) hcl (inAll_strs _ _)) (items_inAll _ _)
  have hsl : ∀ s : List SItem × List (List Nat), (sSto sto s).length = sto.length + 2 := fun s => by unfold sSto; simp
  have htest : ∀ (s : List SItem × List (List Nat)) (q1 q2 q3 : Pos), (∀ p ∈ s.1, ∀ c ∈ p.1, c < 1114112) → BTst X' (.Compare (.Name "waiting" q1) [.NotEq] [.List [] q2] q3) ⟨sLoc rn sto.length, sSto sto s⟩ (!(s.1.map itemPV).isEmpty) ⟨sLoc rn sto.length, sSto sto s⟩ := fun s q1 q2 q3 hch =>
    B.tstG (sSto sto s) (sto₁ := sSto sto s ++ [PO.list []]) (B.tcmp (st₁ := ⟨sLoc rn sto.length, sSto sto s⟩) (a := .loc (sto.length + 1)) (by walk_at "nm") (B.list B.nil (by rw [sizeLine_eq]; decide)) (Op.ne_nil ok' (xs := s.1.map itemPV) (.prev _ _ _ _ (.last _ _ _ (hLw _).symm)) (.last _ _ _ rfl) (items_flat _) (items_lay _ hch) (Nat.le_trans (items_depth _) (by decide))) rfl) (by walk_at "pre") (by
        have := hrn
        rw [hsl]; simp [PV.inS]; omega) (hcls s) (Nat.le_refl _)
  refine B.cutRet (st₁ := ⟨sLoc rn sto.length, sSto sto (sents R N)⟩) ?_ ?_ ?_ ?_
  · conv => arg 2; whnf
    refine Q.s2 ⟨[("rules", .loc rn), ("whole", .loc sto.length)], sto ++ [.list []]⟩ (A.assign ok' (B.list B.nil (by rw [sizeLine_eq]; decide)) (by boot_fast) (by by_place) rfl) ?_
    refine Q.s2 ⟨sLoc rn sto.length, sSto sto (sents R 0)⟩ ?_ ?_
    · have e0 : ("" : Str).cps.toList = [] := rfl
      refine A.assign (v := .loc (sto.length + 1)) (l₁ := [("rules", .loc rn), ("whole", .loc sto.length)]) ok' ?_ (by boot_fast) (by by_place) rfl
      refine B.cast (a := .loc (sto ++ [PO.list []]).length) ?_ (by rw [hLw])
      refine B.list (st₁ := ⟨[("rules", .loc rn), ("whole", .loc sto.length)], sto ++ [.list []]⟩) (vs := [itemPV ([], [256, 0])]) (Q.c1 (B.tuple (vs := [.str [], .tup [.int 256, .int 0]]) (Q.c2 ⟨Ev.str (l := []) rfl⟩ (B.tuple (Q.c2 B.int B.int (by walk_at "st") (by walk_at "st")) (by rw [sizeLine_eq]; simp)) (by walk_at "st") (by walk_at "st")) (by rw [sizeLine_eq]; simp)) (by walk_at "st")) (by rw [sizeLine_eq]; simp)
    refine Q.s2 ⟨sLoc rn sto.length, sSto sto (sents R N)⟩ ?_ (B.rets (B.ret (by walk_at "nm")))
    refine B.while N (fun i => ⟨sLoc rn sto.length, sSto sto (sents R i)⟩) (fun i hi => ?_) ?_
    · have q := hgo i hi
      obtain ⟨w, told, x, rest, e, h1, h2, h3, h4, h5, h6, h7⟩ := q.top
      refine ⟨⟨sLoc rn sto.length, sSto sto (sents R i)⟩, B.tcast (htest _ _ _ _ q.ch) (by rw [e]; simp), ?_⟩
      have hb := body73 ok' tp' henv sto hcl rn R hR w (sents R i).2 told x rest h1 h2 h3 q.wh h4 h5 h6 h7
      have es : (w ++ [(told, x :: rest)], (sents R i).2) = sents R i := by rw [← e]
      rw [es] at hb
      exact hb
    · exact B.tcast (htest _ _ _ _ (by rw [hstop]; intro p hp; exact (List.not_mem_nil hp).elim)) (by rw [hstop]; rfl)
  · refine ⟨fun x v e => ?_, by simp [PV.inS], ?_, closed_snoc (o := .list ((sents R N).2.map .str)) hcl (inAll_strs _ _)⟩
    · simp only [List.lookup] at e
      split at e
      · rename_i h
        have hx := eq_of_beq h
        cases e
        rw [hx]
        exact Look.eq (by by_item)
      · cases e
    · unfold sSto
      dsimp only
      exact (List.take_left' (l₁ := sto ++ [PO.list ((sents R N).2.map .str)]) rfl).symm
  · simp
  · simp [PV.inS]
end


structure RS where
  right : List Int
  more : Nat
  rest : Nat
noncomputable def turnT (above : List Int) (cnt : Int → Nat) (pool : List Int) (s : RS) : RS :=
  if s.rest % (above.length + 1) < above.length then ⟨s.right ++ [above.getD (s.rest % (above.length + 1)) 0], s.more * cnt (above.getD (s.rest % (above.length + 1)) 0), s.rest / (above.length + 1)⟩
  else ⟨s.right ++ [pool.getD (s.rest / (above.length + 1) % pool.length) 0], s.more, s.rest / (above.length + 1) / pool.length⟩
noncomputable def for72 : Stmt := nth (fnB 72) 2
noncomputable def forx72 : Stmt := nth (sBody for72) 3
noncomputable def fort72 : Stmt := nth (sBody forx72) 3
noncomputable abbrev rL (pn nn rn cn i : Nat) (left : Int) (an x : Nat) (s : RS) : List (Str × PV) := [("pool", .loc pn), ("numbers", .loc nn), ("rules", .loc rn), ("counts", .loc cn), ("place", .int (i : Nat)), ("left", .int left), ("above", .loc an), ("x", .int (x : Nat)), ("right", .tup (s.right.map .int)), ("more", .int (s.more : Nat)), ("rest", .int (s.rest : Nat))]
noncomputable abbrev rLT (pn nn rn cn i : Nat) (left : Int) (an x j : Nat) (s : RS) : List (Str × PV) := [("pool", .loc pn), ("numbers", .loc nn), ("rules", .loc rn), ("counts", .loc cn), ("place", .int (i : Nat)), ("left", .int left), ("above", .loc an), ("x", .int (x : Nat)), ("right", .tup (s.right.map .int)), ("more", .int (s.more : Nat)), ("rest", .int (s.rest : Nat)), ("turn", .int (j : Nat))]
section
variable {X X' : Cx} {st st₁ st₂ st₃ st' : PSt} {ad : Nat → Addr} {k : Nat}
theorem Calls.divmodN {a b : Nat} (hb : 0 < b) (hs : b < 2 ^ 30) : Calls X (.glob (.builtin "divmod")) [.int (a : Nat), .int (b : Nat)] st (.tup [.int ((a / b : Nat) : Int), .int ((a % b : Nat) : Int)]) st := by
  have := Calls.divmod (X := X) (st := st) (a := (a : Int)) (b := (b : Int)) (by grind) (PyProof.noPylong_small (by grind))
  rwa [Mine.fdivN a (b : Int) (by grind), fmodN a (b : Int) (by grind), Int.toNat_natCast] at this
theorem B.lenL (ok : X.Ok k) (tp : Top ad X.w X.K) {np p q : Pos} {x : Str} {n : Nat} {xs : List PV} (hk : X.env.kindOf "len" = some .globalImplicit) (h : BEv X (.Name x q) st (.loc n) st) (ha : At st.sto n (.list xs)) (hl : xs.length < 2 ^ 62) (hs : ∀ env, starEach [.Name x q] env = (false, eval (.Name x q) env) :: starEach [] env) (hx : Plain [.Name x q]) : BEv X (.Call (.Name "len" np) [.Name x q] [] p) st (.int (xs.length : Nat)) st :=
  B.bLen ok tp hk (Q.c1 h hs) hx (Calls.len_listA ha hl)
set_option maxHeartbeats 4000000 in
theorem turn72 (ok : X.Ok (k + 1)) (tp : Top ad X.w X.K) (henv : X.env.scope = fnS 72) (U : List PO) (pn nn rn cn i : Nat) (left : Int) (an x j : Nat) (above pool : List Int) (cs : List (Int × Int)) (cnt : Int → Nat) (hA : At U an (.list (above.map .int))) (hP : At U pn (.list (pool.map .int))) (hC : At U cn (.dictI (ipv cs))) (hcs : ∀ a ∈ above, iget cs a = some (cnt a : Int) ∧ cnt a < 1000)
    (hal : above.length ≤ 10) (hpl : pool.length ≤ 1000) (hp0 : 0 < pool.length) (s : RS) (hr : s.right.length ≤ 10) :
    BExs X (sBody fort72) ⟨rLT pn nn rn cn i left an x j s, U⟩ .next ⟨rL pn nn rn cn i left an x (turnT above cnt pool s), U⟩ := by
  obtain ⟨right, more, rest⟩ := s
  dsimp only at hr
  conv => arg 2; whnf
  have hm := Nat.mod_lt rest (show 0 < above.length + 1 by grind)
  have hlA : (above.map PV.int).length = above.length := List.length_map _
  have hlP : (pool.map PV.int).length = pool.length := List.length_map _
  refine Q.s2 ⟨[("pool", .loc pn), ("numbers", .loc nn), ("rules", .loc rn), ("counts", .loc cn), ("place", .int (i : Nat)), ("left", .int left), ("above", .loc an), ("x", .int (x : Nat)), ("right", .tup (right.map .int)), ("more", .int (more : Nat)), ("rest", .int ((rest / (above.length + 1) : Nat) : Int)), ("turn", .int (j : Nat)), ("pick", .int ((rest % (above.length + 1) : Nat) : Int))], U⟩ ?_ ?_
  · refine B.assignTup (v := .tup [.int ((rest / (above.length + 1) : Nat) : Int), .int ((rest % (above.length + 1) : Nat) : Int)]) (st₁ := ⟨[("pool", .loc pn), ("numbers", .loc nn), ("rules", .loc rn), ("counts", .loc cn), ("place", .int (i : Nat)), ("left", .int left), ("above", .loc an), ("x", .int (x : Nat)), ("right", .tup (right.map .int)), ("more", .int (more : Nat)), ("rest", .int (rest : Nat)), ("turn", .int (j : Nat))], U⟩) ?_ (As.tup2 ok (As.name ok (by boot_fast) (by by_place)) (As.name ok (by boot_fast) (by by_place)) rfl) rfl rfl
    refine B.bDivmod ok tp (by boot_fast) (vs := [.int (rest : Nat), .int ((above.length + 1 : Nat) : Int)]) (Q.c2 (by walk_at "nm") (B.cast (a := .int (((above.map PV.int).length : Nat) + 1 : Int)) (Q.binop (B.lenL ok tp (by boot_fast) (by walk_at "nm") hA (by grind) (by walk_at "st") (by walk_at "pl")) B.int Op.add_int) (by rw [hlA]; rfl)) (by walk_at "st") (by walk_at "st")) (by walk_at "pl") (Calls.divmodN (by grind) (by grind))
  by_cases hpk : rest % (above.length + 1) < above.length
  · have e : turnT above cnt pool ⟨right, more, rest⟩ = ⟨right ++ [above.getD (rest % (above.length + 1)) 0], more * cnt (above.getD (rest % (above.length + 1)) 0), rest / (above.length + 1)⟩ := by unfold turnT; rw [if_pos hpk]
    rw [e]
    have hmem : above.getD (rest % (above.length + 1)) 0 ∈ above := by rw [List.getD_eq_getElem?_getD, List.getElem?_eq_getElem hpk]; exact List.getElem_mem hpk
    have hit : (above.map PV.int)[rest % (above.length + 1)]? = some (.int (above.getD (rest % (above.length + 1)) 0)) := by rw [List.getElem?_map, getD_some above _ 0 hpk]; rfl
    obtain ⟨hc1, hc2⟩ := hcs _ hmem
    generalize above.getD (rest % (above.length + 1)) 0 = part at hc1 hc2 hit
    try dsimp only
    refine B.less (l := [("pool", .loc pn), ("numbers", .loc nn), ("rules", .loc rn), ("counts", .loc cn), ("place", .int (i : Nat)), ("left", .int left), ("above", .loc an), ("x", .int (x : Nat)), ("right", .tup ((right ++ [part]).map .int)), ("more", .int ((more * cnt part : Nat) : Int)), ("rest", .int ((rest / (above.length + 1) : Nat) : Int)), ("turn", .int (j : Nat)), ("pick", .int ((rest % (above.length + 1) : Nat) : Int)), ("part", .int part)]) ?_ (by walk_at "lk")
    refine Q.s2 ⟨[("pool", .loc pn), ("numbers", .loc nn), ("rules", .loc rn), ("counts", .loc cn), ("place", .int (i : Nat)), ("left", .int left), ("above", .loc an), ("x", .int (x : Nat)), ("right", .tup (right.map .int)), ("more", .int ((more * cnt part : Nat) : Int)), ("rest", .int ((rest / (above.length + 1) : Nat) : Int)), ("turn", .int (j : Nat)), ("pick", .int ((rest % (above.length + 1) : Nat) : Int)), ("part", .int part)], U⟩ ?_ ?_
    · refine B.if_t (Q.tcmp (c := decide (((rest % (above.length + 1) : Nat) : Int) < ((above.map PV.int).length : Nat))) (by walk_at "nm") (B.lenL ok tp (by boot_fast) (by walk_at "nm") hA (by grind) (by walk_at "st") (by walk_at "pl")) Op.lt_int rfl (decide_eq_true (by rw [hlA]; grind))) ?_
      refine Q.s2 ⟨[("pool", .loc pn), ("numbers", .loc nn), ("rules", .loc rn), ("counts", .loc cn), ("place", .int (i : Nat)), ("left", .int left), ("above", .loc an), ("x", .int (x : Nat)), ("right", .tup (right.map .int)), ("more", .int (more : Nat)), ("rest", .int ((rest / (above.length + 1) : Nat) : Int)), ("turn", .int (j : Nat)), ("pick", .int ((rest % (above.length + 1) : Nat) : Int)), ("part", .int part)], U⟩ (Q.assign ok (Q.item (i := .int ((rest % (above.length + 1) : Nat) : Int)) (by walk_at "nm") (by walk_at "nm") (Item.listA hA (Int.natCast_nonneg _) (by grind) (by rw [Int.toNat_natCast]; exact hit))) (by boot_fast) (by by_place) rfl) ?_
      apply B.one
      rw [Int.natCast_mul]
      exact Q.aug (a := .int (more : Nat)) (b := .int (cnt part : Nat)) ok (by boot_fast) (by by_item) (Q.item (i := .int part) (by walk_at "nm") (by walk_at "nm") (Item.I (Has.dictI ok hC.get) (by rw [ipv_get, hc1]; rfl))) (Q.mul_int (PySem.IntMulOk.of_right (PySem.intBits_le_64 (by grind) (by grind)))) (by by_place)
    · apply B.one
      refine Q.aug (a := .tup (right.map .int)) (b := .tup [.int part]) ok (by boot_fast) (by by_item) (B.tuple (Q.c1 (by walk_at "nm") (by walk_at "st")) (by rw [sizeLine_eq]; simp)) (Op.iadd_tup (by rw [sizeLine_eq, List.length_map, List.length_singleton]; grind)) ?_
      rw [show right.map PV.int ++ [PV.int part] = (right ++ [part]).map PV.int by rw [List.map_append]; rfl]
      by_place
  · have e : turnT above cnt pool ⟨right, more, rest⟩ = ⟨right ++ [pool.getD (rest / (above.length + 1) % pool.length) 0], more, rest / (above.length + 1) / pool.length⟩ := by unfold turnT; rw [if_neg hpk]
    rw [e]
    have hpk2 := Nat.mod_lt (rest / (above.length + 1)) hp0
    have hit : (pool.map PV.int)[rest / (above.length + 1) % pool.length]? = some (.int (pool.getD (rest / (above.length + 1) % pool.length) 0)) := by rw [List.getElem?_map, getD_some pool _ 0 hpk2]; rfl
    generalize pool.getD (rest / (above.length + 1) % pool.length) 0 = part at hit
    generalize rest % (above.length + 1) = pk at hpk
    generalize rest / (above.length + 1) = rs at hit hpk2
    try dsimp only
    refine B.less (l := [("pool", .loc pn), ("numbers", .loc nn), ("rules", .loc rn), ("counts", .loc cn), ("place", .int (i : Nat)), ("left", .int left), ("above", .loc an), ("x", .int (x : Nat)), ("right", .tup ((right ++ [part]).map .int)), ("more", .int (more : Nat)), ("rest", .int ((rs / pool.length : Nat) : Int)), ("turn", .int (j : Nat)), ("pick", .int ((rs % pool.length : Nat) : Int)), ("part", .int part)]) ?_ (by walk_at "lk")
    refine Q.s2 ⟨[("pool", .loc pn), ("numbers", .loc nn), ("rules", .loc rn), ("counts", .loc cn), ("place", .int (i : Nat)), ("left", .int left), ("above", .loc an), ("x", .int (x : Nat)), ("right", .tup (right.map .int)), ("more", .int (more : Nat)), ("rest", .int ((rs / pool.length : Nat) : Int)), ("turn", .int (j : Nat)), ("pick", .int ((rs % pool.length : Nat) : Int)), ("part", .int part)], U⟩ ?_ ?_
    · refine B.if_f (Q.tcmp (c := decide ((pk : Int) < ((above.map PV.int).length : Nat))) (by walk_at "nm") (B.lenL ok tp (by boot_fast) (by walk_at "nm") hA (by grind) (by walk_at "st") (by walk_at "pl")) Op.lt_int rfl (decide_eq_false (by rw [hlA]; grind))) ?_
      refine Q.s2 ⟨[("pool", .loc pn), ("numbers", .loc nn), ("rules", .loc rn), ("counts", .loc cn), ("place", .int (i : Nat)), ("left", .int left), ("above", .loc an), ("x", .int (x : Nat)), ("right", .tup (right.map .int)), ("more", .int (more : Nat)), ("rest", .int ((rs / pool.length : Nat) : Int)), ("turn", .int (j : Nat)), ("pick", .int ((rs % pool.length : Nat) : Int))], U⟩ ?_ ?_
      · refine B.assignTup (v := .tup [.int ((rs / pool.length : Nat) : Int), .int ((rs % pool.length : Nat) : Int)]) (st₁ := ⟨[("pool", .loc pn), ("numbers", .loc nn), ("rules", .loc rn), ("counts", .loc cn), ("place", .int (i : Nat)), ("left", .int left), ("above", .loc an), ("x", .int (x : Nat)), ("right", .tup (right.map .int)), ("more", .int (more : Nat)), ("rest", .int (rs : Nat)), ("turn", .int (j : Nat)), ("pick", .int (pk : Nat))], U⟩) ?_ (As.tup2 ok (As.name ok (by boot_fast) (by by_place)) (As.name ok (by boot_fast) (by by_place)) rfl) rfl rfl
        refine B.bDivmod ok tp (by boot_fast) (vs := [.int (rs : Nat), .int (pool.length : Nat)]) (Q.c2 (by walk_at "nm") (B.cast (a := .int ((pool.map PV.int).length : Nat)) (B.lenL ok tp (by boot_fast) (by walk_at "nm") hP (by grind) (by walk_at "st") (by walk_at "pl")) (by rw [hlP])) (by walk_at "st") (by walk_at "st")) (by walk_at "pl") (Calls.divmodN hp0 (by grind))
      · apply B.one
        exact Q.assign ok (Q.item (i := .int ((rs % pool.length : Nat) : Int)) (by walk_at "nm") (by walk_at "nm") (Item.listA hP (Int.natCast_nonneg _) (by grind) (by rw [Int.toNat_natCast]; exact hit))) (by boot_fast) (by by_place) rfl
    · apply B.one
      refine Q.aug (a := .tup (right.map .int)) (b := .tup [.int part]) ok (by boot_fast) (by by_item) (B.tuple (Q.c1 (by walk_at "nm") (by walk_at "st")) (by rw [sizeLine_eq]; simp)) (Op.iadd_tup (by rw [sizeLine_eq, List.length_map, List.length_singleton]; grind)) ?_
      rw [show right.map PV.int ++ [PV.int part] = (right ++ [part]).map PV.int by rw [List.map_append]; rfl]
      by_place
end


noncomputable def draws (above : List Int) (cnt : Int → Nat) (pool : List Int) (x : Nat) : Nat → RS
  | 0 => ⟨[], 1, x / 4⟩
  | j + 1 => turnT above cnt pool (draws above cnt pool x j)
noncomputable def turnsL : List Nat := [0, 1, 2, 2]
noncomputable def limL : List Nat := [2, 4, 9]
noncomputable def drawT (above : List Int) (cnt : Int → Nat) (pool : List Int) (x : Nat) : RS := draws above cnt pool x (turnsL.getD (x % 4) 0)
theorem turnT_len (above : List Int) (cnt : Int → Nat) (pool : List Int) (s : RS) : (turnT above cnt pool s).right.length = s.right.length + 1 := by unfold turnT; split <;> simp
theorem draws_len (above : List Int) (cnt : Int → Nat) (pool : List Int) (x : Nat) : ∀ j, (draws above cnt pool x j).right.length = j
  | 0 => rfl
  | j + 1 => by rw [draws, turnT_len, draws_len]
structure LS where
  rl : List (List Int)
  c : Nat
noncomputable def acceptT (lim : Nat) (d : RS) (s : LS) : LS := if s.c + d.more ≤ lim then ⟨s.rl ++ [d.right], s.c + d.more⟩ else s
noncomputable def tupsPO (rl : List (List Int)) : PO := .list (rl.map fun r => .tup (r.map .int))
section
variable {X X' : Cx} {st st₁ st₂ st₃ st' : PSt} {ad : Nat → Addr} {k : Nat}
noncomputable abbrev bL (pn nn rn cn i : Nat) (left : Int) (an : Nat) : List (Str × PV) := [("pool", .loc pn), ("numbers", .loc nn), ("rules", .loc rn), ("counts", .loc cn), ("place", .int (i : Nat)), ("left", .int left), ("above", .loc an)]
noncomputable abbrev bLx (pn nn rn cn i : Nat) (left : Int) (an x : Nat) : List (Str × PV) := [("pool", .loc pn), ("numbers", .loc nn), ("rules", .loc rn), ("counts", .loc cn), ("place", .int (i : Nat)), ("left", .int left), ("above", .loc an), ("x", .int (x : Nat))]
noncomputable abbrev bLx1 (pn nn rn cn i : Nat) (left : Int) (an x : Nat) : List (Str × PV) := [("pool", .loc pn), ("numbers", .loc nn), ("rules", .loc rn), ("counts", .loc cn), ("place", .int (i : Nat)), ("left", .int left), ("above", .loc an), ("x", .int (x : Nat)), ("right", .tup [])]
noncomputable abbrev bLx2 (pn nn rn cn i : Nat) (left : Int) (an x : Nat) : List (Str × PV) := [("pool", .loc pn), ("numbers", .loc nn), ("rules", .loc rn), ("counts", .loc cn), ("place", .int (i : Nat)), ("left", .int left), ("above", .loc an), ("x", .int (x : Nat)), ("right", .tup []), ("more", .int 1)]
noncomputable def accSto (U : List PO) (rl cn : Nat) (left : Int) (lim : Nat) (d : RS) (R : List (List Int)) (cs : List (Int × Int)) (c : Nat) : List PO :=
  if c + d.more ≤ lim then (U.set rl (tupsPO (R ++ [d.right]))).set cn (.dictI (ipv (iput cs left ((c + d.more : Nat) : Int)))) else U
set_option maxHeartbeats 8000000 in
theorem xbody72 (ok : X.Ok (k + 1)) (tp : Top ad X.w X.K) (henv : X.env.scope = fnS 72) (U : List PO) (hcl : (U.all (PO.inS U.length)) = true) (pn nn rn cn i : Nat) (left : Int) (an x : Nat) (above pool : List Int) (cs : List (Int × Int)) (cnt : Int → Nat) (hA : At U an (.list (above.map .int))) (hP : At U pn (.list (pool.map .int))) (hC : At U cn (.dictI (ipv cs))) (hcs : ∀ a ∈ above, iget cs a = some (cnt a : Int) ∧ cnt a < 1000)
    (hal : above.length ≤ 10) (hpl : pool.length ≤ 1000) (hp0 : 0 < pool.length) (rd : List (Int × PV)) (rl : Nat) (R : List (List Int)) (c : Nat) (hrd : At U rn (.dictI rd)) (hrl : dget rd left = some (.loc rl)) (hR : At U rl (tupsPO R)) (hc : iget cs left = some (c : Int)) (hcl2 : cs.length ≤ 1000) (hRl : R.length ≤ 1000) (hi : i < 3) (hnn : nn < U.length) (hne : rl ≠ cn) (hne2 : rl ≠ rn) :
    BExs X (sBody forx72) ⟨bLx pn nn rn cn i left an x, U⟩ .next ⟨bL pn nn rn cn i left an, accSto U rl cn left (limL.getD i 0) (drawT above cnt pool x) R cs c⟩ := by
  have lt : ∀ {n : Nat} {o : PO}, At U n o → n < U.length := fun h => (List.getElem?_eq_some_iff.mp h.get).1
  have l1 := lt hA
  have l2 := lt hP
  have l3 := lt hC
  have l4 := lt hrd
  have l5 := lt hR
  have h4 := Nat.mod_lt x (show 0 < 4 by decide)
  have htl : turnsL.getD (x % 4) 0 ≤ 2 := by
    have : ∀ j, j < 4 → turnsL.getD j 0 ≤ 2 := by decide
    exact this _ h4
  conv => arg 2; whnf
  refine Q.s2 ⟨bLx1 pn nn rn cn i left an x, U⟩ (Q.assign ok (B.tuple B.nil (by rw [sizeLine_eq]; simp)) (by boot_fast) (by by_place) rfl) ?_
  refine Q.s2 ⟨bLx2 pn nn rn cn i left an x, U⟩ (Q.assign ok B.int (by boot_fast) (by by_place) rfl) ?_
  refine Q.s2 ⟨rL pn nn rn cn i left an x (draws above cnt pool x 0), U⟩ (B.xto (st₁ := ⟨[("pool", .loc pn), ("numbers", .loc nn), ("rules", .loc rn), ("counts", .loc cn), ("place", .int (i : Nat)), ("left", .int left), ("above", .loc an), ("x", .int (x : Nat)), ("right", .tup []), ("more", .int 1), ("rest", .int ((x / 4 : Nat) : Int))], U⟩) (Q.assign ok (Q.divC 4 rfl (by decide) (by decide) (by walk_at "nm")) (by boot_fast) (by by_place) rfl) rfl) ?_
  refine B.stepG U (l₁ := rL pn nn rn cn i left an x (drawT above cnt pool x)) (sto₁ := U ++ [.list (turnsL.map fun n : Nat => .int (n : Int))]) ?_ (by walk_at "pre") ?_ hcl (Nat.le_refl _) ?_
  · refine B.forS (st₁ := ⟨rL pn nn rn cn i left an x (draws above cnt pool x 0), U ++ [.list (turnsL.map fun n : Nat => .int (n : Int))]⟩) (items := rngL 0 1 (turnsL.getD (x % 4) 0)) (depS := fun _ => True) ok (by boot_fast) ?_ (turnsL.getD (x % 4) 0) (fun j => ⟨rL pn nn rn cn i left an x (draws above cnt pool x j), U ++ [.list (turnsL.map fun n : Nat => .int (n : Int))]⟩) rfl ?_ (.inl ⟨rfl, rfl, rngL_len.symm, trivial⟩) (by intro _; rfl)
    · refine Src.range1 (a := (turnsL.getD (x % 4) 0 : Nat)) ok (Ev.bi 5 ok tp (by boot_fast) gB5 (by decide)) (BEvs.h (B.cons (st₁ := ⟨rL pn nn rn cn i left an x (draws above cnt pool x 0), U ++ [.list (turnsL.map fun n : Nat => .int (n : Int))]⟩) (B.item (st₁ := ⟨rL pn nn rn cn i left an x (draws above cnt pool x 0), U ++ [.list (turnsL.map fun n : Nat => .int (n : Int))]⟩) (st₂ := ⟨rL pn nn rn cn i left an x (draws above cnt pool x 0), U ++ [.list (turnsL.map fun n : Nat => .int (n : Int))]⟩) (o := .loc U.length) (i := .int ((x % 4 : Nat) : Int)) ?_ (Q.modC 4 rfl (by decide) (by walk_at "nm")) (Item.listA (.last _ _ _ rfl) (Int.natCast_nonneg _) (by grind) ?_)) B.nil (by walk_at "st"))) (by walk_at "pl") (Int.toNat_natCast _) (by grind) (by grind)
      · exact B.list (st₁ := ⟨rL pn nn rn cn i left an x (draws above cnt pool x 0), U⟩) (vs := [.int 0, .int 1, .int 2, .int 2]) (by repeat first | exact B.int | exact B.nil | apply B.cons | walk_at "st") (by rw [sizeLine_eq]; simp)
      · rw [Int.toNat_natCast, List.getElem?_map, getD_some turnsL (x % 4) 0 h4]; rfl
    · intro j hj
      refine ⟨.int (j : Nat), rLT pn nn rn cn i left an x j (draws above cnt pool x j), ?_, trivial, by by_place, ?_⟩
      · rw [rngL_get hj]; congr 2; grind
      · exact turn72 ok tp henv _ pn nn rn cn i left an x j above pool cs cnt (.prev _ _ _ _ hA) (.prev _ _ _ _ hP) (.prev _ _ _ _ hC) hcs hal hpl hp0 _ (by rw [draws_len]; grind)
  · simp [PV.inS, List.all_cons]
    refine ⟨by grind, by grind, by grind, by grind, by grind, ?_⟩
    exact inAll_ints _ _
  have hdl : (drawT above cnt pool x).right.length ≤ 2 := by unfold drawT; rw [draws_len]; exact htl
  generalize drawT above cnt pool x = d at hdl
  obtain ⟨right, more, rest⟩ := d
  dsimp only at hdl
  unfold accSto
  dsimp only
  refine B.less (l := rL pn nn rn cn i left an x ⟨right, more, rest⟩) ?_ (by walk_at "lk")
  have hlm : limL[i]? = some (limL.getD i 0) := getD_some limL i 0 hi
  have htest : ∀ (q1 q2 q3 q4 q5 q6 q7 q8 q9 q10 q11 q12 : Pos) (k1 k2 k3 : Nat), BTst X (.Compare (.BinOp (.Subscript (.Name "counts" q1) (.Name "left" q2) q3) .Add (.Name "more" q4) q5) [.LtE] [.Subscript (.List [.Constant (.int 2) k1 q6, .Constant (.int 4) k2 q7, .Constant (.int 9) k3 q8] q9) (.Name "place" q10) q11] q12) ⟨rL pn nn rn cn i left an x ⟨right, more, rest⟩, U⟩ (decide ((c : Int) + (more : Int) ≤ (limL.getD i 0 : Nat))) ⟨rL pn nn rn cn i left an x ⟨right, more, rest⟩, U⟩ := fun q1 q2 q3 q4 q5 q6 q7 q8 q9 q10 q11 q12 k1 k2 k3 =>
    B.tstG U (sto₁ := U ++ [.list [.int 2, .int 4, .int 9]]) (B.tcmp (st₁ := ⟨rL pn nn rn cn i left an x ⟨right, more, rest⟩, U⟩) (st₂ := ⟨rL pn nn rn cn i left an x ⟨right, more, rest⟩, U ++ [.list [.int 2, .int 4, .int 9]]⟩) (a := .int ((c : Int) + (more : Int))) (b := .int (limL.getD i 0 : Nat)) (Q.binop (a := .int c) (b := .int (more : Nat)) (Q.item (i := .int left) (by walk_at "nm") (by walk_at "nm") (Item.I (Has.dictI ok hC.get) (by rw [ipv_get, hc]; rfl))) (by walk_at "nm") Op.add_int) (B.item (st₁ := ⟨rL pn nn rn cn i left an x ⟨right, more, rest⟩, U ++ [.list [.int 2, .int 4, .int 9]]⟩) (st₂ := ⟨rL pn nn rn cn i left an x ⟨right, more, rest⟩, U ++ [.list [.int 2, .int 4, .int 9]]⟩) (i := .int (i : Nat)) (B.list (st₁ := ⟨rL pn nn rn cn i left an x ⟨right, more, rest⟩, U⟩) (vs := [.int 2, .int 4, .int 9]) (by repeat first | exact B.int | exact B.nil | apply B.cons | walk_at "st") (by rw [sizeLine_eq]; simp)) (by walk_at "nm") (Item.listA (.last _ _ _ rfl) (Int.natCast_nonneg _) (by grind) (by rw [Int.toNat_natCast]; show (limL.map fun n : Nat => PV.int (n : Int))[i]? = _; rw [List.getElem?_map, hlm]; rfl))) Op.le_int rfl) (by walk_at "pre") (by simp [PV.inS, List.all_cons]; exact ⟨by grind, by grind, by grind, by grind, by grind, inAll_ints _ _⟩) hcl (Nat.le_refl _)
  apply B.one
  by_cases hacc : c + more ≤ limL.getD i 0
  · rw [if_pos hacc]
    refine B.if_t (B.tcast (b := decide ((c : Int) + (more : Int) ≤ ((limL.getD i 0 : Nat) : Int))) (htest _ _ _ _ _ _ _ _ _ _ _ _ _ _ _) (decide_eq_true (by grind))) ?_
    refine Q.s2 ⟨rL pn nn rn cn i left an x ⟨right, more, rest⟩, U.set rl (tupsPO (R ++ [right]))⟩ (Q.append ok (n := rl) (xs := R.map fun r : List Int => PV.tup (r.map PV.int)) (v := .tup (right.map .int)) (Q.item (i := .int left) (by walk_at "nm") (by walk_at "nm") (Item.I (Has.dictI ok hrd.get) hrl)) (by walk_at "nm") hR ?_ (by rw [sizeLine_eq, List.length_map]; grind) (by walk_at "st") (by walk_at "pl") rfl rfl rfl) ?_
    · unfold tupsPO; rw [List.map_append]; exact .base _ _ _ l5
    apply B.one
    have hC' : At (U.set rl (tupsPO (R ++ [right]))) cn (.dictI (ipv cs)) := hC.set_ne (Ne.symm hne)
    refine Q.augItem (ov := .loc cn) (iv := .int left) (old := .int c) (v := .int (more : Nat)) (new := .int ((c + more : Nat) : Int)) (by walk_at "nm") (by walk_at "nm") (Item.I (Has.dictI ok hC'.get) (by rw [ipv_get, hc]; rfl)) (by walk_at "nm") (by rw [Int.natCast_add]; exact Op.iadd_int) ?_ (by intro _ _ _; rfl)
    refine SetIt.IA ok hC' ?_ (by rw [ipv_len, sizeLine_eq]; grind)
    rw [ipv_put]
    exact .base _ _ _ (by rw [List.length_set]; exact l3)
  · rw [if_neg hacc]
    exact B.if_f (B.tcast (b := decide ((c : Int) + (more : Int) ≤ ((limL.getD i 0 : Nat) : Int))) (htest _ _ _ _ _ _ _ _ _ _ _ _ _ _ _) (decide_eq_false (by grind))) B.snil
end


noncomputable def aboveL (i : Nat) : List Int := (List.range i).map fun j : Nat => (259 - (i : Int)) + (j : Int) * 1
noncomputable def cntO (cs : List (Int × Int)) (a : Int) : Nat := ((iget cs a).getD 0).toNat
noncomputable def lvl (pool : List Int) (i : Nat) (cs : List (Int × Int)) (xs : List Nat) : Nat → LS
  | 0 => ⟨[], 0⟩
  | m + 1 => acceptT (limL.getD i 0) (drawT (aboveL i) (cntO cs) pool (xs.getD m 0)) (lvl pool i cs xs m)
theorem lvl_c (pool : List Int) (i : Nat) (cs : List (Int × Int)) (xs : List Nat) : ∀ m, (lvl pool i cs xs m).c ≤ limL.getD i 0 ∧ (lvl pool i cs xs m).rl.length ≤ m
  | 0 => ⟨Nat.zero_le _, Nat.le_refl _⟩
  | m + 1 => by
    have ih := lvl_c pool i cs xs m
    simp only [lvl, acceptT]
    split
    · rename_i h; exact ⟨h, by simp; grind⟩
    · exact ⟨ih.1, by grind⟩
theorem lim_le : ∀ i, limL.getD i 0 ≤ 9
  | 0 => by decide
  | 1 => by decide
  | 2 => by decide
  | i + 3 => Nat.zero_le _
theorem iput_iput (D : List (Int × Int)) (k a b : Int) : iput (iput D k a) k b = iput D k b := by
  unfold iput
  by_cases h : D.any (fun p => decide (p.1 = k)) = true
  · rw [if_pos h]
    have h2 : (D.map fun p => if p.1 = k then (p.1, a) else p).any (fun p => decide (p.1 = k)) = true := by
      obtain ⟨p, hp, e⟩ := List.any_eq_true.mp h
      refine List.any_eq_true.mpr ⟨(p.1, a), List.mem_map.mpr ⟨p, hp, ?_⟩, e⟩
      rw [if_pos (of_decide_eq_true e)]
    rw [if_pos h2, if_pos h, List.map_map]
    congr 1
    funext p
    simp only [Function.comp]
    by_cases e : p.1 = k
    · simp [e]
    · simp [e]
  · rw [if_neg h]
    have h2 : (D ++ [(k, a)]).any (fun p => decide (p.1 = k)) = true := by simp
    rw [if_pos h2, if_neg h, List.map_append]
    congr 1
    · conv => rhs; rw [← List.map_id D]
      apply List.map_congr_left
      intro p hp
      have : p.1 ≠ k := fun e => h (List.any_eq_true.mpr ⟨p, hp, decide_eq_true e⟩)
      simp [this]
    · simp
theorem iget_iput_ne (D : List (Int × Int)) (k v a : Int) (h : a ≠ k) : iget (iput D k v) a = iget D a := by
  unfold iput iget
  split
  · congr 1
    rename_i hh; clear hh
    induction D with
    | nil => rfl
    | cons p r ih =>
      simp only [List.map_cons, List.find?_cons]
      by_cases e : p.1 = k
      · simp only [e, if_true]
        have : ¬ k = a := fun q => h q.symm
        simp only [this, decide_false]; exact ih
      · simp only [e, if_false]
        by_cases e2 : p.1 = a
        · simp [e2]
        · simp only [e2, decide_false]; exact ih
  · rw [List.find?_append]
    have : ¬ k = a := fun q => h q.symm
    simp [this]
theorem dget_dput {K : Type} [DecidableEq K] (ps : List (K × PV)) (k : K) (v : PV) : dget (dput ps k v) k = some v := by
  unfold dput dget
  split
  · rename_i h
    induction ps with
    | nil => cases h
    | cons p r ih =>
      simp only [List.map_cons, List.find?_cons]
      by_cases e : p.1 = k
      · simp [e]
      · simp only [e, if_false, decide_false]
        refine ih ?_
        simp only [List.any_cons, e, decide_false, Bool.false_or] at h
        exact h
  · rename_i h
    have hn : ps.find? (fun p => decide (p.1 = k)) = none := by
      rw [List.find?_eq_none]
      intro p hp hk
      exact h (List.any_eq_true.mpr ⟨p, hp, hk⟩)
    rw [List.find?_append, hn]; simp
theorem dput_len2 {K : Type} [DecidableEq K] (ps : List (K × PV)) (k : K) (v : PV) : (dput ps k v).length ≤ ps.length + 1 := by unfold dput; split <;> simp
theorem dput_mem {K : Type} [DecidableEq K] {ps : List (K × PV)} {k : K} {v : PV} {p : K × PV} (h : p ∈ dput ps k v) : p ∈ ps ∨ p.2 = v := by
  unfold dput at h
  split at h
  · obtain ⟨q, hq, rfl⟩ := List.mem_map.mp h
    split
    · exact .inr rfl
    · exact .inl hq
  · rcases List.mem_append.mp h with h | h
    · exact .inl h
    · rw [List.mem_singleton.mp h]; exact .inr rfl
theorem At.app {l : List PO} {n : Nat} {p : PO} (h : At l n p) (m : List PO) : At (l ++ m) n p := .base _ _ _ (by rw [List.getElem?_append_left (List.getElem?_eq_some_iff.mp h.get).1]; exact h.get)
theorem At.lt {l : List PO} {n : Nat} {p : PO} (h : At l n p) : n < l.length := (List.getElem?_eq_some_iff.mp h.get).1
theorem SetAt.app {l l' : List PO} {n : Nat} {p : PO} (h : SetAt l n p l') (m : List PO) : SetAt (l ++ m) n p (l' ++ m) := by
  obtain ⟨e, hn⟩ := h.eq
  rw [e, ← List.set_append_left _ _ hn]
  exact .base _ _ _ (by rw [List.length_append]; grind)
noncomputable abbrev leftsP : List PV := [.int 258, .int 257, .int 256]
noncomputable def zHead (sto : List PO) (rd : List (Int × PV)) (cs : List (Int × Int)) : List PO := sto ++ [.dictI rd] ++ [.dictI (ipv cs)] ++ [.list leftsP]
theorem zHead_len (sto : List PO) (rd : List (Int × PV)) (cs : List (Int × Int)) : (zHead sto rd cs).length = sto.length + 3 := by simp [zHead]
theorem zHead_r (sto : List PO) (rd : List (Int × PV)) (cs : List (Int × Int)) : At (zHead sto rd cs) sto.length (.dictI rd) := .prev _ _ _ _ (.prev _ _ _ _ (.last _ _ _ rfl))
theorem zHead_c (sto : List PO) (rd : List (Int × PV)) (cs : List (Int × Int)) : At (zHead sto rd cs) (sto.length + 1) (.dictI (ipv cs)) := .prev _ _ _ _ (.last _ _ _ (by simp))
theorem zHead_l (sto : List PO) (rd : List (Int × PV)) (cs : List (Int × Int)) : At (zHead sto rd cs) (sto.length + 2) (.list leftsP) := .last _ _ _ (by simp)
theorem zHead_sr (sto : List PO) (rd rd' : List (Int × PV)) (cs : List (Int × Int)) : SetAt (zHead sto rd cs) sto.length (.dictI rd') (zHead sto rd' cs) := .prev _ _ _ _ _ (.prev _ _ _ _ _ (.last _ _ _ _ rfl))
theorem zHead_sc (sto : List PO) (rd : List (Int × PV)) (cs cs' : List (Int × Int)) : SetAt (zHead sto rd cs) (sto.length + 1) (.dictI (ipv cs')) (zHead sto rd cs') := .prev _ _ _ _ _ (.last _ _ _ _ (by simp))
theorem zHead_o {sto : List PO} {n : Nat} {o : PO} (h : At sto n o) (rd : List (Int × PV)) (cs : List (Int × Int)) : At (zHead sto rd cs) n o := .prev _ _ _ _ (.prev _ _ _ _ (.prev _ _ _ _ h))
theorem tups_inS (m : Nat) : ∀ r : List (List Int), PV.inAll m (r.map fun r => .tup (r.map .int)) = true
  | [] => rfl
  | p :: r => by
    simp only [List.map_cons, PV.inAll, Bool.and_eq_true]
    exact ⟨inAll_ints _ _, tups_inS m r⟩


theorem zcl {sto : List PO} {rd : List (Int × PV)} {cs : List (Int × Int)} {m : List PO} (hcl : (sto.all (PO.inS sto.length)) = true) (hm : ∀ o ∈ m, ∀ k, o.inS k = true) (hr : ∀ p ∈ rd, p.2.inS (sto.length + 3 + m.length) = true) : ((zHead sto rd cs ++ m).all (PO.inS (zHead sto rd cs ++ m).length)) = true := by
  have hl : (zHead sto rd cs ++ m).length = sto.length + 3 + m.length := by rw [List.length_append, zHead_len]
  rw [hl, List.all_eq_true]
  intro o ho
  rcases List.mem_append.mp ho with h | h
  · unfold zHead at h
    rcases List.mem_append.mp h with h | h
    · rcases List.mem_append.mp h with h | h
      · rcases List.mem_append.mp h with h | h
        · exact PO.inS_mono (by grind) (List.all_eq_true.mp hcl o h)
        · rw [List.mem_singleton.mp h]; exact List.all_eq_true.mpr hr
      · rw [List.mem_singleton.mp h]; exact ipv_inS _ _
    · rw [List.mem_singleton.mp h]; rfl
  · exact hm o h _
theorem tupsPO_inS (rl : List (List Int)) : ∀ k, (tupsPO rl).inS k = true := fun k => tups_inS k rl
theorem intsPO_inS (l : List Int) : ∀ k, (PO.list (l.map .int)).inS k = true := fun k => inAll_ints _ _
section
variable {X X' : Cx} {st st₁ st₂ st₃ st' : PSt} {ad : Nat → Addr} {k : Nat}
theorem B.cutS {c : List Stmt} {st₂ : PSt} (st₁ : PSt) (h : BExs X c st .next st₁) (ft : Fits st₁ st₂) (hk : st.sto.length ≤ st₂.sto.length) : BExs X c st .next st₂ := ⟨Exs.cut h.h ft hk⟩
noncomputable abbrev b4 (pn nn rn cn : Nat) : List (Str × PV) := [("pool", .loc pn), ("numbers", .loc nn), ("rules", .loc rn), ("counts", .loc cn)]
noncomputable abbrev b6 (pn nn rn cn i : Nat) (left : Int) : List (Str × PV) := [("pool", .loc pn), ("numbers", .loc nn), ("rules", .loc rn), ("counts", .loc cn), ("place", .int (i : Nat)), ("left", .int left)]
theorem acc_form {A : List PO} {sto : List PO} {rd : List (Int × PV)} {cs : List (Int × Int)} {Rl : List PO} {R : List (List Int)} {c i : Nat} {left : Int} (hRll : Rl.length = i) (lim : Nat) (d : RS) (s : LS) (hs : s = ⟨R, c⟩) :
    accSto (zHead sto rd (iput cs left (c : Int)) ++ Rl ++ [tupsPO R] ++ A) (sto.length + 3 + i) (sto.length + 1) left lim d R (iput cs left (c : Int)) c = zHead sto rd (iput cs left ((acceptT lim d s).c : Int)) ++ Rl ++ [tupsPO (acceptT lim d s).rl] ++ A := by
  subst hs
  unfold accSto acceptT
  dsimp only
  split
  · dsimp only
    rw [iput_iput]
    have h1 : SetAt (zHead sto rd (iput cs left (c : Int)) ++ Rl ++ [tupsPO R] ++ A) (sto.length + 3 + i) (tupsPO (R ++ [d.right])) (zHead sto rd (iput cs left (c : Int)) ++ Rl ++ [tupsPO (R ++ [d.right])] ++ A) := (SetAt.last _ _ _ _ (by rw [List.length_append, zHead_len, hRll])).app A
    rw [← h1.eq.1]
    have h2 : SetAt (zHead sto rd (iput cs left (c : Int)) ++ Rl ++ [tupsPO (R ++ [d.right])] ++ A) (sto.length + 1) (.dictI (ipv (iput cs left ((c + d.more : Nat) : Int)))) (zHead sto rd (iput cs left ((c + d.more : Nat) : Int)) ++ Rl ++ [tupsPO (R ++ [d.right])] ++ A) := (((zHead_sc sto rd _ _).app Rl).app _).app A
    rw [← h2.eq.1]
  · rfl
set_option maxHeartbeats 8000000 in
theorem body72 (ok : X.Ok (k + 1)) (tp : Top ad X.w X.K) (henv : X.env.scope = fnS 72) (sto : List PO) (hcl : (sto.all (PO.inS sto.length)) = true) (pn nn : Nat) (nums : List Nat) (pool : List Int) (hN : At sto nn (.list (nums.map fun x : Nat => .int (x : Int)))) (hP : At sto pn (.list (pool.map .int))) (hpl : pool.length ≤ 1000) (hp0 : 0 < pool.length) (hnl : nums.length = 6)
    (i : Nat) (hi : i < 3) (rd : List (Int × PV)) (cs : List (Int × Int)) (Rl : List PO) (hRll : Rl.length = i) (hRlS : ∀ o ∈ Rl, ∀ m, o.inS m = true) (hrd : ∀ p ∈ rd, p.2.inS (sto.length + 3 + i) = true) (hrdm : ∀ p ∈ rd, ∃ a, p.2 = .loc a) (hrdl : rd.length ≤ 10) (hcsl : cs.length ≤ 10)
    (hab : ∀ a ∈ aboveL i, iget cs a = some (cntO cs a : Int) ∧ cntO cs a < 1000) :
    BExs X (sBody for72) ⟨b6 pn nn sto.length (sto.length + 1) i (258 - (i : Int)), zHead sto rd cs ++ Rl⟩ .next
      ⟨b4 pn nn sto.length (sto.length + 1), zHead sto (dput rd (258 - (i : Int)) (.loc (sto.length + 3 + i))) (iput cs (258 - (i : Int)) ((lvl pool i cs ((nums.drop (2 * i)).take 2) 2).c : Int)) ++ Rl ++ [tupsPO (lvl pool i cs ((nums.drop (2 * i)).take 2) 2).rl]⟩ := by
  have hU0 : (zHead sto rd cs ++ Rl).length = sto.length + 3 + i := by rw [List.length_append, zHead_len, hRll]
  have hxl : ((nums.drop (2 * i)).take 2).length = 2 := by rw [List.length_take, List.length_drop]; grind
  generalize hxs : (nums.drop (2 * i)).take 2 = xs at hxl
  generalize hlf : (258 - (i : Int)) = left
  have hleft : ∀ a ∈ aboveL i, a ≠ left := by
    intro a ha
    unfold aboveL at ha
    obtain ⟨j, _, rfl⟩ := List.mem_map.mp ha
    grind
  have hrd' : ∀ p ∈ dput rd left (.loc (sto.length + 3 + i)), ∀ n, sto.length + 3 + i < n → p.2.inS n = true := by
    intro p hp n hn
    rcases dput_mem hp with h | h
    · obtain ⟨a, ha⟩ := hrdm p h
      have := hrd p h
      rw [ha] at this ⊢
      simp only [PV.inS, decide_eq_true_eq] at this ⊢
      grind
    · rw [h]; simp only [PV.inS, decide_eq_true_eq]; exact hn
  have hrl' : (dput rd left (.loc (sto.length + 3 + i))).length ≤ 11 := by have := dput_len2 rd left (.loc (sto.length + 3 + i)); grind
  conv => arg 2; whnf
  refine Q.s2 ⟨b6 pn nn sto.length (sto.length + 1) i left, zHead sto (dput rd left (.loc (sto.length + 3 + i))) cs ++ Rl ++ [tupsPO []]⟩ (B.setIt (st₁ := ⟨b6 pn nn sto.length (sto.length + 1) i left, zHead sto rd cs ++ Rl ++ [PO.list []]⟩) (st₂ := ⟨b6 pn nn sto.length (sto.length + 1) i left, zHead sto rd cs ++ Rl ++ [PO.list []]⟩) (st₃ := ⟨b6 pn nn sto.length (sto.length + 1) i left, zHead sto rd cs ++ Rl ++ [PO.list []]⟩) (ov := .loc sto.length) (iv := .int left) (v := .loc (sto.length + 3 + i)) (B.cast (a := .loc (zHead sto rd cs ++ Rl).length) (B.list B.nil (by rw [sizeLine_eq]; decide)) (by rw [hU0])) (by walk_at "nm") (by walk_at "nm") (SetIt.IA ok (((zHead_r sto rd cs).app Rl).app _) (((zHead_sr sto rd _ cs).app Rl).app _) (by rw [sizeLine_eq]; grind)) rfl) ?_
  refine Q.s2 ⟨b6 pn nn sto.length (sto.length + 1) i left, zHead sto (dput rd left (.loc (sto.length + 3 + i))) (iput cs left 0) ++ Rl ++ [tupsPO []]⟩ (Q.setIt (ov := .loc (sto.length + 1)) (iv := .int left) (v := .int 0) B.int (by walk_at "nm") (by walk_at "nm") (SetIt.IA ok (((zHead_c sto _ cs).app Rl).app _) (by rw [ipv_put]; exact (((zHead_sc sto _ cs _).app Rl).app _)) (by rw [ipv_len, sizeLine_eq]; grind)) rfl) ?_
  generalize hrdg : dput rd left (.loc (sto.length + 3 + i)) = rd' at hrd' hrl'
  have hget : dget rd' left = some (.loc (sto.length + 3 + i)) := by rw [← hrdg]; exact dget_dput _ _ _
  have hV : ∀ cs' R, (zHead sto rd' cs' ++ Rl ++ [tupsPO R]).length = sto.length + 3 + i + 1 := fun cs' R => by rw [List.length_append, List.length_append, zHead_len, hRll]; rfl
  have habl : (aboveL i).length = i := by unfold aboveL; simp
  refine B.cutS ⟨b4 pn nn sto.length (sto.length + 1), zHead sto rd' (iput cs left ((lvl pool i cs xs 2).c : Int)) ++ Rl ++ [tupsPO (lvl pool i cs xs 2).rl] ++ [PO.list ((aboveL i).map .int)]⟩ ?_ ⟨fun x v e => e, ?_, ?_, ?_⟩ (by dsimp only; rw [hV, hV]; exact Nat.le_refl _)
  rotate_left
  · have := hN.lt; have := hP.lt
    rw [hV]
    simp [PV.inS]; grind
  · exact (List.take_left' rfl).symm
  · rw [List.append_assoc]
    refine zcl hcl ?_ (fun p hp => hrd' p hp _ (by simp only [List.length_append, List.length_singleton]; grind))
    intro o ho
    rcases List.mem_append.mp ho with h | h
    · exact hRlS o h
    · rw [List.mem_singleton.mp h]; exact tupsPO_inS _
  refine Q.s2 ⟨bL pn nn sto.length (sto.length + 1) i left (sto.length + 3 + i + 1), zHead sto rd' (iput cs left 0) ++ Rl ++ [tupsPO []] ++ [.list ((aboveL i).map .int)]⟩ (A.assign (v := .loc (sto.length + 3 + i + 1)) (l₁ := b6 pn nn sto.length (sto.length + 1) i left) ok ?_ (by boot_fast) (by by_place) rfl) ?_
  · refine B.cast (a := .loc (zHead sto rd' (iput cs left 0) ++ Rl ++ [tupsPO []]).length) ?_ (by rw [hV])
    have e : PO.list ((aboveL i).map .int) = .list (rngL (left + 1) 1 i) := by
      unfold aboveL rngL
      rw [List.map_map]
      congr 1
      apply List.map_congr_left
      intro j _
      simp only [Function.comp]
      congr 1; grind
    rw [e]
    constructor
    refine' Ev.list_rng (st₁ := ⟨b6 pn nn sto.length (sto.length + 1) i left, zHead sto rd' (iput cs left 0) ++ Rl ++ [tupsPO []]⟩) (a := left + 1) (b := 259) (c := 1) (n := i) ok ?a1 ?a2 ?a3 ?a4 ?a5 ?a6
    case a1 => refine' Ev.bi 6 ok tp ?b1 gB6 ?b2; (case b1 => boot_fast); (case b2 => decide)
    case a2 =>
      apply RngV.two
      · refine' Ev.bi 5 ok tp ?c1 gB5 ?c2; (case c1 => boot_fast); (case c2 => decide)
      · exact (Q.c2 (Q.binop (by walk_at "nm") B.int Op.add_int) B.int (by walk_at "st") (by walk_at "st")).h
      · walk_at "pl"
    case a3 => walk_at "pl"
    case a4 => subst hlf; have : i = 0 ∨ i = 1 ∨ i = 2 := by grind
               rcases this with h | h | h <;> rw [h] <;> decide
    case a5 => subst hlf; have : i = 0 ∨ i = 1 ∨ i = 2 := by grind
               rcases this with h | h | h <;> rw [h] <;> decide
    case a6 => grind
  have hsl : slc (nums.map fun x : Nat => PV.int (x : Int)) (some ((2 * i : Nat) : Int)) (some ((2 * i + 2 : Nat) : Int)) = xs.map fun x : Nat => PV.int (x : Int) := by
    rw [slc_mid _ (2 * i) 2 (by rw [List.length_map]; grind), ← List.map_drop, ← List.map_take, hxs]
  have e0 : zHead sto rd' (iput cs left 0) ++ Rl ++ [tupsPO []] = zHead sto rd' (iput cs left ((lvl pool i cs xs 0).c : Int)) ++ Rl ++ [tupsPO (lvl pool i cs xs 0).rl] := rfl
  rw [e0]
  generalize hA : ([PO.list ((aboveL i).map .int)] : List PO) = A1
  refine B.stepG (zHead sto rd' (iput cs left ((lvl pool i cs xs 2).c : Int)) ++ Rl ++ [tupsPO (lvl pool i cs xs 2).rl] ++ A1) (l₁ := b4 pn nn sto.length (sto.length + 1)) (sto₁ := zHead sto rd' (iput cs left ((lvl pool i cs xs 2).c : Int)) ++ Rl ++ [tupsPO (lvl pool i cs xs 2).rl] ++ A1 ++ [.list (xs.map fun x : Nat => .int (x : Int))]) ?_ (by walk_at "pre") ?_ ?_ ?_ B.snil
  · refine B.xless (l := bL pn nn sto.length (sto.length + 1) i left (sto.length + 3 + i + 1)) ?_ (by walk_at "lk")
    refine B.forS (st₁ := ⟨bL pn nn sto.length (sto.length + 1) i left (sto.length + 3 + i + 1), zHead sto rd' (iput cs left ((lvl pool i cs xs 0).c : Int)) ++ Rl ++ [tupsPO (lvl pool i cs xs 0).rl] ++ A1 ++ [.list (xs.map fun x : Nat => .int (x : Int))]⟩) (items := xs.map fun x : Nat => .int (x : Int)) (depS := fun st => st.sto[sto.length + 3 + i + 2]? = some (.list (xs.map fun x : Nat => .int (x : Int)))) ok (by boot_fast) ?_ 2 (fun m => ⟨bL pn nn sto.length (sto.length + 1) i left (sto.length + 3 + i + 1), zHead sto rd' (iput cs left ((lvl pool i cs xs m).c : Int)) ++ Rl ++ [tupsPO (lvl pool i cs xs m).rl] ++ A1 ++ [.list (xs.map fun x : Nat => .int (x : Int))]⟩) rfl ?_ (.inl ⟨rfl, rfl, by rw [List.length_map, hxl], ?_⟩) (by intro _; rfl)
    · refine Src.of (pv := .loc (sto.length + 3 + i + 2)) (BEv.h ?_) (Iters.listA ok.hh (.last _ _ _ (by subst hA; rw [List.length_append, hV]; rfl)))
      refine B.cast (a := .loc (zHead sto rd' (iput cs left ((lvl pool i cs xs 0).c : Int)) ++ Rl ++ [tupsPO (lvl pool i cs xs 0).rl] ++ A1).length) ?_ (by subst hA; rw [List.length_append, hV]; rfl)
      rw [← hsl]
      exact Q.slice (o := .loc nn) (a := .int ((2 * i : Nat) : Int)) (b := .int ((2 * i + 2 : Nat) : Int)) (by walk_at "nm") (Q.some (B.cast (a := .int (2 * (i : Int))) (Q.binop B.int (by walk_at "nm") (Op.mul_int (PySem.IntMulOk.of_left (by decide)))) (by rw [Int.natCast_mul]; rfl))) (Q.some (B.cast (a := .int (2 * (i : Int) + 2)) (Q.binop (Q.binop B.int (by walk_at "nm") (Op.mul_int (PySem.IntMulOk.of_left (by decide)))) B.int Op.add_int) (by rw [Int.natCast_add, Int.natCast_mul]; rfl))) (.int _) (.int _) (Cut.listA ((((zHead_o hN _ _).app Rl).app _).app A1) (by rw [sizeLine_eq, List.length_map]; grind))
    · intro m hm
      have hlc := lvl_c pool i cs xs m
      have hlim := lim_le i
      refine ⟨.int (xs.getD m 0 : Nat), bLx pn nn sto.length (sto.length + 1) i left (sto.length + 3 + i + 1) (xs.getD m 0), by rw [List.getElem?_map, getD_some xs m 0 (by grind)]; rfl, ?_, by by_place, ?_⟩
      · subst hA; exact (At.last _ _ _ (by rw [List.length_append, hV]; rfl)).get
      · have hx := xbody72 ok tp henv (zHead sto rd' (iput cs left ((lvl pool i cs xs m).c : Int)) ++ Rl ++ [tupsPO (lvl pool i cs xs m).rl] ++ A1 ++ [.list (xs.map fun x : Nat => .int (x : Int))]) ?_ pn nn sto.length (sto.length + 1) i left (sto.length + 3 + i + 1) (xs.getD m 0) (aboveL i) pool (iput cs left ((lvl pool i cs xs m).c : Int)) (cntO cs) ?_ (((((zHead_o hP _ _).app Rl).app _).app A1).app _) (((((zHead_c sto rd' _).app Rl).app _).app A1).app _) ?_ (by grind) hpl hp0 rd' (sto.length + 3 + i) (lvl pool i cs xs m).rl (lvl pool i cs xs m).c (((((zHead_r sto rd' _).app Rl).app _).app A1).app _) hget ?_ (iput_get _ _ _) (by have := iput_len cs left ((lvl pool i cs xs m).c : Int); grind) (by grind) hi (by have := hN.lt; rw [List.length_append, List.length_append, hV]; grind) (by grind) (by grind)
        · have hf := acc_form (A := A1 ++ [.list (xs.map fun x : Nat => .int (x : Int))]) (sto := sto) (rd := rd') (cs := cs) (Rl := Rl) (left := left) hRll (limL.getD i 0) (drawT (aboveL i) (cntO cs) pool (xs.getD m 0)) (lvl pool i cs xs m) rfl
          rw [← List.append_assoc, ← List.append_assoc] at hf
          rw [hf] at hx
          exact hx
        · subst hA
          have e : zHead sto rd' (iput cs left ((lvl pool i cs xs m).c : Int)) ++ Rl ++ [tupsPO (lvl pool i cs xs m).rl] ++ [PO.list ((aboveL i).map .int)] ++ [.list (xs.map fun x : Nat => .int (x : Int))] = zHead sto rd' (iput cs left ((lvl pool i cs xs m).c : Int)) ++ (Rl ++ [tupsPO (lvl pool i cs xs m).rl] ++ [PO.list ((aboveL i).map .int)] ++ [.list (xs.map fun x : Nat => .int (x : Int))]) := by simp only [List.append_assoc]
          rw [e]
          refine zcl hcl ?_ (fun p hp => hrd' p hp _ (by simp only [List.length_append, List.length_singleton]; grind))
          intro o ho
          rcases List.mem_append.mp ho with h | h
          · rcases List.mem_append.mp h with h | h
            · rcases List.mem_append.mp h with h | h
              · exact hRlS o h
              · rw [List.mem_singleton.mp h]; exact tupsPO_inS _
            · rw [List.mem_singleton.mp h]; exact intsPO_inS _
          · rw [List.mem_singleton.mp h]
            intro k
            have := intsPO_inS (xs.map fun x : Nat => (x : Int)) k
            rwa [List.map_map] at this
        · subst hA; exact (At.last _ _ _ (by rw [hV])).app _
        · intro a ha
          rw [iget_iput_ne _ _ _ _ (hleft a ha)]
          exact hab a ha
        · exact ((At.last _ _ _ (by rw [List.length_append, zHead_len, hRll])).app _).app _
    · subst hA; exact (At.last _ _ _ (by rw [List.length_append, hV]; rfl)).get
  · have := hN.lt; have := hP.lt
    rw [List.length_append, hV]
    simp [PV.inS]; grind
  · subst hA
    rw [List.append_assoc, List.append_assoc]
    refine zcl hcl ?_ (fun p hp => hrd' p hp _ (by simp only [List.length_append, List.length_singleton]; grind))
    intro o ho
    rcases List.mem_append.mp ho with h | h
    · exact hRlS o h
    · rcases List.mem_append.mp h with h | h
      · rw [List.mem_singleton.mp h]; exact tupsPO_inS _
      · rw [List.mem_singleton.mp h]; exact intsPO_inS _
  · simp only [List.length_append, zHead_len, List.length_cons, List.length_nil]; grind
end


noncomputable def gR (pool : List Int) (nums : List Nat) : Nat → List (List (List Int)) × List (Int × Int)
  | 0 => ([], [])
  | i + 1 => ((gR pool nums i).1 ++ [(lvl pool i (gR pool nums i).2 ((nums.drop (2 * i)).take 2) 2).rl], iput (gR pool nums i).2 (258 - (i : Int)) ((lvl pool i (gR pool nums i).2 ((nums.drop (2 * i)).take 2) 2).c : Int))
noncomputable def rdT (L : Nat) : Nat → List (Int × PV)
  | 0 => []
  | i + 1 => dput (rdT L i) (258 - (i : Int)) (.loc (L + 3 + i))
theorem gR_len (pool : List Int) (nums : List Nat) : ∀ i, (gR pool nums i).1.length = i ∧ (gR pool nums i).2.length ≤ i
  | 0 => ⟨rfl, Nat.le_refl _⟩
  | i + 1 => by
    have ih := gR_len pool nums i
    have := iput_len (gR pool nums i).2 (258 - (i : Int)) ((lvl pool i (gR pool nums i).2 ((nums.drop (2 * i)).take 2) 2).c : Int)
    simp only [gR, List.length_append, List.length_singleton]; grind
theorem gR_get (pool : List Int) (nums : List Nat) : ∀ i j : Nat, j < i → ∃ c : Nat, c ≤ 9 ∧ iget (gR pool nums i).2 (258 - (j : Int)) = some (c : Int)
  | 0, j, h => absurd h (Nat.not_lt_zero _)
  | i + 1, j, h => by
    by_cases e : j = i
    · subst e
      have h1 := (lvl_c pool j (gR pool nums j).2 ((nums.drop (2 * j)).take 2) 2).1
      have h2 := lim_le j
      exact ⟨_, Nat.le_trans h1 h2, iput_get _ _ _⟩
    · obtain ⟨c, h1, h2⟩ := gR_get pool nums i j (by grind)
      refine ⟨c, h1, ?_⟩
      simp only [gR]
      rw [iget_iput_ne _ _ _ _ (by grind)]; exact h2
theorem gR_above (pool : List Int) (nums : List Nat) (i : Nat) : ∀ a ∈ aboveL i, iget (gR pool nums i).2 a = some (cntO (gR pool nums i).2 a : Int) ∧ cntO (gR pool nums i).2 a < 1000 := by
  intro a ha
  obtain ⟨j, hj, rfl⟩ := List.mem_map.mp ha
  have hj' := List.mem_range.mp hj
  obtain ⟨c, h1, h2⟩ := gR_get pool nums i (i - 1 - j) (by grind)
  have e : (259 - (i : Int)) + (j : Int) * 1 = 258 - ((i - 1 - j : Nat) : Int) := by grind
  rw [e]
  unfold cntO
  rw [h2]
  exact ⟨by simp, by simp; grind⟩
theorem rdT_mem (L : Nat) : ∀ i, (rdT L i).length ≤ i ∧ ∀ p ∈ rdT L i, ∃ a, p.2 = .loc a ∧ a < L + 3 + i
  | 0 => ⟨Nat.le_refl _, fun p h => (List.not_mem_nil h).elim⟩
  | i + 1 => by
    obtain ⟨h1, h2⟩ := rdT_mem L i
    refine ⟨?_, fun p hp => ?_⟩
    · have := dput_len2 (rdT L i) (258 - (i : Int)) (.loc (L + 3 + i)); simp only [rdT]; grind
    · simp only [rdT] at hp
      rcases dput_mem hp with h | h
      · obtain ⟨a, e, q⟩ := h2 p h
        exact ⟨a, e, by grind⟩
      · exact ⟨_, h, by grind⟩
theorem tups_flat : ∀ l : List (List Int), PV.flats (l.map fun r => PV.tup (r.map PV.int)) = true
  | [] => rfl
  | p :: r => by simp only [List.map_cons, PV.flats, PV.flat, ints_flat, tups_flat r, Bool.and_self]
theorem tups_lay : ∀ l : List (List Int), PyData.canLayAll0 (PV.datas (l.map fun r => PV.tup (r.map PV.int))) = true
  | [] => rfl
  | p :: r => by
    simp only [List.map_cons, PV.datas, PyData.canLayAll0, Bool.and_eq_true]
    refine ⟨?_, tups_lay r⟩
    show PyData.canLay0 (.tuple (PV.datas (p.map .int))) = true
    simp only [PyData.canLay0, ints_lay]
theorem tups_depth : ∀ l : List (List Int), PyData.depthAll (PV.datas (l.map fun r => PV.tup (r.map PV.int))) ≤ 10
  | [] => Nat.zero_le _
  | p :: r => by
    simp only [List.map_cons, PV.datas, PyData.depthAll]
    refine Nat.max_le.mpr ⟨?_, tups_depth r⟩
    show PyData.depth (.tuple (PV.datas (p.map .int))) ≤ 10
    have := ints_depth p
    simp only [PyData.depth]
    grind
noncomputable def lastR (r : List (List Int)) : List (List Int) := if r = [] then [[257, 258]] else r
noncomputable def RF (pool : List Int) (nums : List Nat) (x : Int) : List (List Int) := if x = 258 then (gR pool nums 3).1.getD 0 [] else if x = 257 then (gR pool nums 3).1.getD 1 [] else lastR ((gR pool nums 3).1.getD 2 [])
noncomputable def rulesS (sto : List PO) (pool : List Int) (nums : List Nat) : List PO := zHead sto (rdT sto.length 3) (gR pool nums 3).2 ++ [tupsPO (RF pool nums 258)] ++ [tupsPO (RF pool nums 257)] ++ [tupsPO (RF pool nums 256)]
theorem len3 {α : Type} (l : List α) (d : α) (h : l.length = 3) : l = [l.getD 0 d, l.getD 1 d, l.getD 2 d] := by
  match l, h with
  | [a, b, c], _ => rfl
theorem rdT3 (L : Nat) : rdT L 3 = [(258, .loc (L + 3)), (257, .loc (L + 4)), (256, .loc (L + 5))] := by
  simp [rdT, dput]
theorem rulesS_rules (sto : List PO) (pool : List Int) (nums : List Nat) : Rules (rulesS sto pool nums) sto.length (RF pool nums) := by
  refine ⟨rdT sto.length 3, .prev _ _ _ _ (.prev _ _ _ _ (.prev _ _ _ _ (zHead_r _ _ _))), fun x h1 h2 => ?_⟩
  have hx : x = 256 ∨ x = 257 ∨ x = 258 := by grind
  rw [rdT3]
  rcases hx with e | e | e <;> rw [e]
  · exact ⟨sto.length + 5, by simp [dget], .last _ _ _ (by simp [zHead_len])⟩
  · exact ⟨sto.length + 4, by simp [dget], .prev _ _ _ _ (.last _ _ _ (by simp [zHead_len]))⟩
  · exact ⟨sto.length + 3, by simp [dget], .prev _ _ _ _ (.prev _ _ _ _ (.last _ _ _ (by simp [zHead_len])))⟩
section
variable {X X' : Cx} {st st₁ st₂ st₃ st' : PSt} {ad : Nat → Addr} {k : Nat}
set_option maxHeartbeats 8000000 in
theorem c72 (ok : X.Ok (k + 2)) (tp : Top ad X.w X.K) (nn pn : Nat) (nums : List Nat) (pool : List Int) (hN : st.sto[nn]? = some (.list (nums.map fun x : Nat => .int (x : Int)))) (hP : st.sto[pn]? = some (.list (pool.map .int))) (hcl : (st.sto.all (PO.inS st.sto.length)) = true) (hpl : pool.length ≤ 1000) (hp0 : 0 < pool.length) (hnl : nums.length = 6) :
    Calls X (.glob (.ref (ad 72))) [.loc nn, .loc pn] st (.loc st.sto.length) ⟨st.loc, rulesS st.sto pool nums⟩ := by
  obtain ⟨loc, sto⟩ := st
  dsimp only at hN hP hcl
  refine Calls.fn 72 ["numbers", "pool"] ok tp (loc₀ := [("pool", .loc pn), ("numbers", .loc nn)]) rfl (fun _ _ _ _ vals h => by match vals, h with | [a, b], _ => rfl) rfl rfl (by decide +kernel) (by decide +kernel) rfl rfl rfl (fun X' ok' tp' henv => ?_)
  refine ⟨b4 pn nn sto.length (sto.length + 1), ?_⟩
  have aN := At.base _ _ _ hN
  have aP := At.base _ _ _ hP
  have nnl := aN.lt
  have pnl := aP.lt
  conv => arg 2; whnf
  refine BExs.h ?_
  refine Q.s2 ⟨[("pool", .loc pn), ("numbers", .loc nn), ("rules", .loc sto.length)], sto ++ [.dictI []]⟩ (A.assign ok' ⟨Ev.dictI0⟩ (by boot_fast) (by by_place) rfl) ?_
  refine Q.s2 ⟨b4 pn nn sto.length (sto.length + 1), sto ++ [.dictI []] ++ [.dictI []]⟩ (A.assign (l₁ := [("pool", .loc pn), ("numbers", .loc nn), ("rules", .loc sto.length)]) ok' (B.cast (b := .loc (sto.length + 1)) ⟨Ev.dictI0⟩ (by simp)) (by boot_fast) (by by_place) rfl) ?_
  have hlS : ∀ i, ((gR pool nums i).1.map tupsPO).length = i := fun i => by rw [List.length_map]; exact (gR_len pool nums i).1
  refine Q.s2 ⟨b4 pn nn sto.length (sto.length + 1), zHead sto (rdT sto.length 3) (gR pool nums 3).2 ++ (gR pool nums 3).1.map tupsPO⟩ ?_ ?_
  · refine B.forEnum ok' (n := sto.length + 2) (xs := leftsP) (st₁ := ⟨b4 pn nn sto.length (sto.length + 1), zHead sto [] []⟩) (by boot_fast) (by boot_fast) (B.bName 7 ok' tp' (by boot_fast) gB7 (by decide)) (B.cast (a := .loc (sto ++ [PO.dictI []] ++ [PO.dictI []]).length) (B.list (st₁ := ⟨b4 pn nn sto.length (sto.length + 1), sto ++ [.dictI []] ++ [.dictI []]⟩) (vs := leftsP) (by repeat first | exact B.int | exact B.nil | apply B.cons | walk_at "st") (by rw [sizeLine_eq]; decide)) (by simp)) (by walk_at "pl") (zHead_l _ _ _) (fun i => ⟨b4 pn nn sto.length (sto.length + 1), zHead sto (rdT sto.length i) (gR pool nums i).2 ++ (gR pool nums i).1.map tupsPO⟩) (by simp [rdT, gR]) ?_ ((zHead_l _ _ _).app _).get (by intro _; rfl)
    intro i hi
    have hi' : i < 3 := hi
    refine ⟨.int (258 - (i : Int)), [("pool", .loc pn), ("numbers", .loc nn), ("rules", .loc sto.length), ("counts", .loc (sto.length + 1)), ("place", .int i)], b6 pn nn sto.length (sto.length + 1) i (258 - (i : Int)), ?_, ((zHead_l _ _ _).app _).get, by by_place, by by_place, ?_⟩
    · have : i = 0 ∨ i = 1 ∨ i = 2 := by grind
      rcases this with h | h | h <;> rw [h] <;> rfl
    · have hb := body72 ok' tp' henv sto hcl pn nn nums pool aN aP hpl hp0 hnl i hi' (rdT sto.length i) (gR pool nums i).2 ((gR pool nums i).1.map tupsPO) (hlS i) ?_ ?_ ?_ (by have := (rdT_mem sto.length i).1; grind) (by have := (gR_len pool nums i).2; grind) (gR_above pool nums i)
      · have e : zHead sto (rdT sto.length (i + 1)) (gR pool nums (i + 1)).2 ++ (gR pool nums (i + 1)).1.map tupsPO = zHead sto (dput (rdT sto.length i) (258 - (i : Int)) (.loc (sto.length + 3 + i))) (iput (gR pool nums i).2 (258 - (i : Int)) ((lvl pool i (gR pool nums i).2 ((nums.drop (2 * i)).take 2) 2).c : Int)) ++ (gR pool nums i).1.map tupsPO ++ [tupsPO (lvl pool i (gR pool nums i).2 ((nums.drop (2 * i)).take 2) 2).rl] := by
          simp only [gR, rdT, List.map_append, List.append_assoc, List.map_cons, List.map_nil]
        dsimp only
        rw [e]; exact hb
      · intro o ho m
        obtain ⟨r, _, rfl⟩ := List.mem_map.mp ho
        exact tupsPO_inS _ _
      · intro p hp
        obtain ⟨a, h1, h2⟩ := (rdT_mem sto.length i).2 p hp
        rw [h1]; simp only [PV.inS, decide_eq_true_eq]; omega
      · intro p hp
        obtain ⟨a, h1, h2⟩ := (rdT_mem sto.length i).2 p hp
        exact ⟨a, h1⟩
  have e3 : zHead sto (rdT sto.length 3) (gR pool nums 3).2 ++ (gR pool nums 3).1.map tupsPO = zHead sto (rdT sto.length 3) (gR pool nums 3).2 ++ [tupsPO (RF pool nums 258)] ++ [tupsPO (RF pool nums 257)] ++ [tupsPO ((gR pool nums 3).1.getD 2 [])] := by
    rw [len3 (gR pool nums 3).1 [] (gR_len pool nums 3).1]
    simp only [RF, List.append_assoc]; rfl
  rw [e3]
  have e256 : RF pool nums 256 = lastR ((gR pool nums 3).1.getD 2 []) := by simp [RF]
  unfold rulesS
  rw [e256]
  have hcl3 : ∀ R : List (List Int), ((zHead sto (rdT sto.length 3) (gR pool nums 3).2 ++ [tupsPO (RF pool nums 258)] ++ [tupsPO (RF pool nums 257)] ++ [tupsPO R]).all (PO.inS (zHead sto (rdT sto.length 3) (gR pool nums 3).2 ++ [tupsPO (RF pool nums 258)] ++ [tupsPO (RF pool nums 257)] ++ [tupsPO R]).length)) = true := fun R => by
    have e : zHead sto (rdT sto.length 3) (gR pool nums 3).2 ++ [tupsPO (RF pool nums 258)] ++ [tupsPO (RF pool nums 257)] ++ [tupsPO R] = zHead sto (rdT sto.length 3) (gR pool nums 3).2 ++ [tupsPO (RF pool nums 258), tupsPO (RF pool nums 257), tupsPO R] := by simp only [List.append_assoc]; rfl
    rw [e]
    refine zcl hcl ?_ ?_
    · intro o ho k
      simp only [List.mem_cons, List.not_mem_nil, or_false] at ho
      rcases ho with h | h | h <;> rw [h] <;> exact tupsPO_inS _ _
    · intro p hp
      obtain ⟨a, h1, h2⟩ := (rdT_mem sto.length 3).2 p hp
      rw [h1]; simp only [PV.inS, decide_eq_true_eq, List.length_cons, List.length_nil]; omega
  generalize (gR pool nums 3).1.getD 2 [] = R2
  have hV : ∀ R : List (List Int), (zHead sto (rdT sto.length 3) (gR pool nums 3).2 ++ [tupsPO (RF pool nums 258)] ++ [tupsPO (RF pool nums 257)] ++ [tupsPO R]).length = sto.length + 6 := fun R => by simp [zHead_len]
  have hr : At (zHead sto (rdT sto.length 3) (gR pool nums 3).2 ++ [tupsPO (RF pool nums 258)] ++ [tupsPO (RF pool nums 257)] ++ [tupsPO R2]) sto.length (.dictI (rdT sto.length 3)) := .prev _ _ _ _ (.prev _ _ _ _ (.prev _ _ _ _ (zHead_r _ _ _)))
  have hl : At (zHead sto (rdT sto.length 3) (gR pool nums 3).2 ++ [tupsPO (RF pool nums 258)] ++ [tupsPO (RF pool nums 257)] ++ [tupsPO R2]) (sto.length + 5) (tupsPO R2) := .last _ _ _ (by simp [zHead_len])
  have hg : dget (rdT sto.length 3) 256 = some (.loc (sto.length + 5)) := by rw [rdT3]; simp [dget]
  have hitem : ∀ (sto' : List PO) (q1 q2 q3 : Pos) (kc : Nat), At sto' sto.length (.dictI (rdT sto.length 3)) → BEv X' (.Subscript (.Name "rules" q1) (.Constant (.int 256) kc q2) q3) ⟨b4 pn nn sto.length (sto.length + 1), sto'⟩ (.loc (sto.length + 5)) ⟨b4 pn nn sto.length (sto.length + 1), sto'⟩ := fun sto' q1 q2 q3 kc h =>
    Q.item (i := .int 256) (by walk_at "nm") B.int (Item.I (Has.dictI ok' h.get) hg)
  have htest : ∀ (q1 q2 q3 q4 q5 : Pos) (kc : Nat), BTst X' (.Compare (.Subscript (.Name "rules" q1) (.Constant (.int 256) kc q2) q3) [.Eq] [.List [] q4] q5) ⟨b4 pn nn sto.length (sto.length + 1), zHead sto (rdT sto.length 3) (gR pool nums 3).2 ++ [tupsPO (RF pool nums 258)] ++ [tupsPO (RF pool nums 257)] ++ [tupsPO R2]⟩ ((R2.map fun r => PV.tup (r.map PV.int)).isEmpty) ⟨b4 pn nn sto.length (sto.length + 1), zHead sto (rdT sto.length 3) (gR pool nums 3).2 ++ [tupsPO (RF pool nums 258)] ++ [tupsPO (RF pool nums 257)] ++ [tupsPO R2]⟩ := fun q1 q2 q3 q4 q5 kc =>
    B.tstG _ (sto₁ := zHead sto (rdT sto.length 3) (gR pool nums 3).2 ++ [tupsPO (RF pool nums 258)] ++ [tupsPO (RF pool nums 257)] ++ [tupsPO R2] ++ [PO.list []]) (B.tcmp (st₁ := ⟨b4 pn nn sto.length (sto.length + 1), zHead sto (rdT sto.length 3) (gR pool nums 3).2 ++ [tupsPO (RF pool nums 258)] ++ [tupsPO (RF pool nums 257)] ++ [tupsPO R2]⟩) (hitem _ _ _ _ _ hr) (B.list B.nil (by rw [sizeLine_eq]; decide)) (Op.eq_nil ok' (.prev _ _ _ _ hl) (.last _ _ _ rfl) (tups_flat _) (tups_lay _) (Nat.le_trans (tups_depth _) (by decide))) rfl) (by walk_at "pre") (by rw [hV]; simp [PV.inS]; grind) (hcl3 R2) (Nat.le_refl _)
  refine Q.s2 ⟨b4 pn nn sto.length (sto.length + 1), zHead sto (rdT sto.length 3) (gR pool nums 3).2 ++ [tupsPO (RF pool nums 258)] ++ [tupsPO (RF pool nums 257)] ++ [tupsPO (lastR R2)]⟩ ?_ (B.rets (B.ret (by walk_at "nm")))
  by_cases h0 : R2 = []
  · have e : lastR R2 = [[257, 258]] := by unfold lastR; rw [if_pos h0]
    rw [e]
    refine B.if_t (B.tcast (htest _ _ _ _ _ _) (by rw [h0]; rfl)) (B.one (Q.append ok' (n := sto.length + 5) (xs := []) (v := .tup [.int 257, .int 258]) (hitem _ _ _ _ _ hr) (B.tuple (Q.c2 B.int B.int (by walk_at "st") (by walk_at "st")) (by rw [sizeLine_eq]; simp)) (by have hl2 := hl; rw [h0] at hl2 ⊢; exact hl2) (.last _ _ _ _ (by simp [zHead_len])) (by rw [sizeLine_eq]; simp) (by walk_at "st") (by walk_at "pl") rfl rfl rfl))
  · have e : lastR R2 = R2 := by unfold lastR; rw [if_neg h0]
    rw [e]
    exact B.if_f (B.tcast (htest _ _ _ _ _ _) (by cases R2 with | nil => exact absurd rfl h0 | cons _ _ => rfl)) B.snil
end


noncomputable abbrev PW := List Int × List (Int × Int)
noncomputable def kStep (row : List Int) (a b : Int) (i j : Nat) (s : PW) (k : Nat) : PW := (s.1 ++ [partV row s.2 a i k + partV row (partD row s.2 a i k) b k j], partD row (partD row s.2 a i k) b k j)
noncomputable def kFold (row : List Int) (a b : Int) (i j : Nat) (s : PW) : Nat → PW
  | 0 => s
  | m + 1 => kStep row a b i j (kFold row a b i j s m) (i + m)
noncomputable def rStep (row : List Int) (i j : Nat) (s : PW) (right : List Int) : PW := match right with
  | [] => (s.1 ++ [2 * ((j : Int) - (i : Int))], s.2)
  | [a] => (s.1 ++ [partV row s.2 a i j], partD row s.2 a i j)
  | a :: b :: _ => kFold row a b i j s (j + 1 - i)
noncomputable def rFold (row : List Int) (i j : Nat) (rs : List (List Int)) (D : List (Int × Int)) : Nat → PW
  | 0 => ([], D)
  | m + 1 => rStep row i j (rFold row i j rs D m) (rs.getD m [])
noncomputable def cellStep (row : List Int) (rs : List (List Int)) (left : Int) (D : List (Int × Int)) (ij : Nat × Nat) : List (Int × Int) :=
  iput (rFold row ij.1 ij.2 rs D rs.length).2 (keyT left ij.1 ij.2) (minI (rFold row ij.1 ij.2 rs D rs.length).1)
theorem partD_len (row : List Int) (D : List (Int × Int)) (p : Int) (i j : Nat) : (partD row D p i j).length ≤ D.length + 1 := by
  unfold partD; split
  · grind
  · exact iput_len _ _ _
theorem kFold_len (row : List Int) (a b : Int) (i j : Nat) (s : PW) : ∀ m, (kFold row a b i j s m).1.length = s.1.length + m ∧ (kFold row a b i j s m).2.length ≤ s.2.length + 2 * m
  | 0 => ⟨rfl, Nat.le_refl _⟩
  | m + 1 => by
    obtain ⟨h1, h2⟩ := kFold_len row a b i j s m
    have h3 := partD_len row (kFold row a b i j s m).2 a i (i + m)
    have h4 := partD_len row (partD row (kFold row a b i j s m).2 a i (i + m)) b (i + m) j
    simp only [kFold, kStep, List.length_append, List.length_singleton]
    grind
theorem rStep_len (row : List Int) (i j : Nat) (s : PW) (right : List Int) (hij : i ≤ j) (hj : j ≤ 20) : (rStep row i j s right).1.length ≤ s.1.length + 21 ∧ (rStep row i j s right).2.length ≤ s.2.length + 42 ∧ s.1.length < (rStep row i j s right).1.length := by
  match right with
  | [] => simp only [rStep, List.length_append, List.length_singleton]; grind
  | [a] => have := partD_len row s.2 a i j; simp only [rStep, List.length_append, List.length_singleton]; grind
  | a :: b :: _ => have := kFold_len row a b i j s (j + 1 - i); simp only [rStep]; grind
theorem rFold_len (row : List Int) (i j : Nat) (rs : List (List Int)) (D : List (Int × Int)) (hij : i ≤ j) (hj : j ≤ 20) : ∀ m, (rFold row i j rs D m).1.length ≤ 21 * m ∧ (rFold row i j rs D m).2.length ≤ D.length + 42 * m ∧ m ≤ (rFold row i j rs D m).1.length
  | 0 => by simp [rFold]
  | m + 1 => by
    obtain ⟨h1, h2, h3⟩ := rFold_len row i j rs D hij hj m
    obtain ⟨g1, g2, g3⟩ := rStep_len row i j (rFold row i j rs D m) (rs.getD m []) hij hj
    simp only [rFold]; grind
noncomputable def TS (sto : List PO) (D : List (Int × Int)) (M : List PO) : List PO := sto ++ [.dictI (ipv D)] ++ M
theorem TS_t (sto : List PO) (D : List (Int × Int)) (M W : List PO) : At (TS sto D M ++ W) sto.length (.dictI (ipv D)) := (((At.last _ _ _ rfl).app M)).app W
theorem TS_set (sto : List PO) (D D' : List (Int × Int)) (M W : List PO) : (TS sto D M ++ W).set sto.length (.dictI (ipv D')) = TS sto D' M ++ W :=
  (SetAt.eq (((SetAt.last sto (.dictI (ipv D)) (.dictI (ipv D')) sto.length rfl).app M).app W)).1.symm
theorem TS_o {sto : List PO} {n : Nat} {o : PO} (h : At sto n o) (D : List (Int × Int)) (M W : List PO) : At (TS sto D M ++ W) n o := ((h.app _).app M).app W
section
variable {X X' : Cx} {st st₁ st₂ st₃ st' : PSt} {ad : Nat → Addr} {k : Nat}
noncomputable abbrev cl9 (rn L i j : Nat) (left : Int) (wl wy : Nat) : List (Str × PV) := [("rules", .loc rn), ("table", .loc L), ("stretches", .loc (L + 1)), ("left", .int left), ("wanted", .loc wl), ("i", .int (i : Nat)), ("j", .int (j : Nat)), ("ways", .loc wy)]
noncomputable abbrev cl10 (rn L i j : Nat) (left : Int) (wl wy : Nat) (right : List Int) : List (Str × PV) := [("rules", .loc rn), ("table", .loc L), ("stretches", .loc (L + 1)), ("left", .int left), ("wanted", .loc wl), ("i", .int (i : Nat)), ("j", .int (j : Nat)), ("ways", .loc wy), ("right", .tup (right.map .int))]
noncomputable abbrev cl11 (rn L i j : Nat) (left : Int) (wl wy : Nat) (right : List Int) (q : Nat) : List (Str × PV) := [("rules", .loc rn), ("table", .loc L), ("stretches", .loc (L + 1)), ("left", .int left), ("wanted", .loc wl), ("i", .int (i : Nat)), ("j", .int (j : Nat)), ("ways", .loc wy), ("right", .tup (right.map .int)), ("k", .int (q : Nat))]
theorem Calls.fnCell (i : Nat) {x y0 y1 : Str} (ok : X.Ok (k + 1)) (tp : Top ad X.w X.K) {r : Nat} {v1 v : PV} {sto' : List PO} (hm : fName i = some x)
    (hb : ∀ pm an cd ct, Binds (fnOf x x (fnP i) (fnB i) (fnS i) .none .none .none pm an cd ct) [y0, y1]) (h0 : (fnS i).names.lookup y0 = some .cell) (h1 : (fnS i).names.lookup y1 = some .local) (hcells : ∀ n, cellsFrom n (fnS i).names [] = [(y0, n)])
    (hco : (fnS i).isCoroutine = false) (hgen : (fnS i).isGenerator = false) (hk : (fnS i).kind = .function)
    (hbody : ∀ (X' : Cx) (c : Addr), X'.Ok k → Top ad X'.w X'.K → X'.env.scope = fnS i → RowCell X' y0 r c → Exs X' (fnB i) ⟨[(y1, v1)], st.sto⟩ (.ret v) ⟨[], sto'⟩) : Calls X (.glob (.ref (ad i))) [.loc r, v1] st v ⟨st.loc, sto'⟩ := by
  obtain ⟨oc, od, pm, an, cd, ct, osl, _, ho, hcd⟩ := tp.fn _ _ hm
  exact Calls.defCell ok ho hcd (hb _ _ _ _) h0 h1 hcells hco hgen hk (fun X' c ok' sub henv hrc => hbody X' c ok' (tp.sub sub) henv hrc)
theorem B.part (ok : X.Ok (k + 3)) (tp : Top ad X.w X.K) {l : List (Str × PV)} {sto : List PO} {D : List (Int × Int)} {M W : List PO} {row : List Int} {r i j : Nat} {part : Int} {e1 e2 e3 : Expr} {p p0 p4 p5 : Pos} (hr : At sto r (.list (row.map .int))) (hcl : ((TS sto D M ++ W).all (PO.inS (TS sto D M ++ W).length)) = true) (hij : i ≤ j) (hj : j ≤ row.length) (hl : row.length ≤ 1000) (hD : D.length ≤ 1000000)
    (h1 : BEv X e1 ⟨l, TS sto D M ++ W⟩ (.int part) ⟨l, TS sto D M ++ W⟩) (h2 : BEv X e2 ⟨l, TS sto D M ++ W⟩ (.int (i : Nat)) ⟨l, TS sto D M ++ W⟩) (h3 : BEv X e3 ⟨l, TS sto D M ++ W⟩ (.int (j : Nat)) ⟨l, TS sto D M ++ W⟩) (h4 : BEv X (.Name "row" p4) ⟨l, TS sto D M ++ W⟩ (.loc r) ⟨l, TS sto D M ++ W⟩) (h5 : BEv X (.Name "table" p5) ⟨l, TS sto D M ++ W⟩ (.loc sto.length) ⟨l, TS sto D M ++ W⟩)
    (hk : X.env.kindOf "_law_part" = some .globalImplicit) (s1 : ∀ env, starEach [e1, e2, e3, .Name "row" p4, .Name "table" p5] env = (false, eval e1 env) :: starEach [e2, e3, .Name "row" p4, .Name "table" p5] env) (s2 : ∀ env, starEach [e2, e3, .Name "row" p4, .Name "table" p5] env = (false, eval e2 env) :: starEach [e3, .Name "row" p4, .Name "table" p5] env) (s3 : ∀ env, starEach [e3, .Name "row" p4, .Name "table" p5] env = (false, eval e3 env) :: starEach [.Name "row" p4, .Name "table" p5] env) (hx : Plain [e1, e2, e3, .Name "row" p4, .Name "table" p5]) :
    BEv X (.Call (.Name "_law_part" p0) [e1, e2, e3, .Name "row" p4, .Name "table" p5] [] p) ⟨l, TS sto D M ++ W⟩ (.int (partV row D part i j)) ⟨l, TS sto (partD row D part i j) M ++ W⟩ := by
  have hc := c76 (st := ⟨l, TS sto D M ++ W⟩) ok tp part i j r sto.length row D (TS_o hr D M W).get (TS_t sto D M W).get hcl hij hj hl hD
  rw [TS_set] at hc
  exact B.callF 76 ok tp hk rfl (by decide) (B.cons h1 (B.cons h2 (B.cons h3 (Q.c2 h4 h5 (by walk_at "st") (by walk_at "st")) s3) s2) s1) hx hc
noncomputable def for77 : Stmt := nth (fnB 77) 2
noncomputable def cell77 : Stmt := nth (sBody for77) 0
noncomputable def right77 : Stmt := nth (sBody cell77) 1
noncomputable def k77 : Stmt := match nth (sBody right77) 0 with | .If _ _ o _ => (match nth o 0 with | .If _ _ o2 _ => nth o2 0 | s => s) | s => s
set_option maxHeartbeats 4000000 in
theorem kbody77 (ok : X.Ok (k + 3)) (tp : Top ad X.w X.K) (henv : X.env.scope = fnS 77) {c : Addr} (r : Nat) (hrow : RowCell X "row" r c) (sto : List PO) (M : List PO) (rn wl : Nat) (left : Int) (row : List Int) (hr : At sto r (.list (row.map .int))) (i j q : Nat) (hiq : i ≤ q) (hqj : q ≤ j) (hj : j ≤ row.length) (hl : row.length ≤ 20) (a b : Int) (tl : List Int) (s : PW) (hD : s.2.length ≤ 900000) (hs : s.1.length ≤ 1000000)
    (hcl : ∀ (D : List (Int × Int)) (w : List Int), ((TS sto D M ++ [PO.list (w.map .int)]).all (PO.inS (TS sto D M ++ [PO.list (w.map .int)]).length)) = true) :
    BExs X (sBody k77) ⟨cl11 rn sto.length i j left wl (sto.length + 1 + M.length) (a :: b :: tl) q, TS sto s.2 M ++ [.list (s.1.map .int)]⟩ .next ⟨cl10 rn sto.length i j left wl (sto.length + 1 + M.length) (a :: b :: tl), TS sto (kStep row a b i j s q).2 M ++ [.list ((kStep row a b i j s q).1.map .int)]⟩ := by
  have hTl : ∀ D, (TS sto D M).length = sto.length + 1 + M.length := fun D => by unfold TS; simp; grind
  have hpd := partD_len row s.2 a i q
  obtain ⟨w, D⟩ := s
  unfold kStep
  dsimp only at hD hs hpd ⊢
  conv => arg 2; whnf
  refine B.less (l := cl11 rn sto.length i j left wl (sto.length + 1 + M.length) (a :: b :: tl) q) ?_ (by walk_at "lk")
  apply B.one
  refine B.append (st₁ := ⟨cl11 rn sto.length i j left wl (sto.length + 1 + M.length) (a :: b :: tl) q, TS sto D M ++ [.list (w.map .int)]⟩) (st₂ := ⟨cl11 rn sto.length i j left wl (sto.length + 1 + M.length) (a :: b :: tl) q, TS sto (partD row (partD row D a i q) b q j) M ++ [.list (w.map .int)]⟩) (v := .int (partV row D a i q + partV row (partD row D a i q) b q j)) (xs := w.map .int) (n := sto.length + 1 + M.length) ok (by walk_at "nm") (.last _ _ _ (hTl _).symm) ?_ (.last _ _ _ (hTl _).symm) ?_ (by rw [sizeLine_eq, List.length_map]; grind) (by walk_at "pl") rfl rfl rfl
  · refine B.cons (st₁ := ⟨cl11 rn sto.length i j left wl (sto.length + 1 + M.length) (a :: b :: tl) q, TS sto (partD row (partD row D a i q) b q j) M ++ [.list (w.map .int)]⟩) ?_ B.nil (by walk_at "st")
    have q0 : ∀ (D' : List (Int × Int)) (p1 p2 p3 : Pos) (kc : Nat), BEv X (.Subscript (.Name "right" p1) (.Constant (.int 0) kc p2) p3) ⟨cl11 rn sto.length i j left wl (sto.length + 1 + M.length) (a :: b :: tl) q, TS sto D' M ++ [.list (w.map .int)]⟩ (.int a) ⟨cl11 rn sto.length i j left wl (sto.length + 1 + M.length) (a :: b :: tl) q, TS sto D' M ++ [.list (w.map .int)]⟩ := fun D' p1 p2 p3 kc => Q.item (i := .int 0) (by walk_at "nm") B.int (Item.tup (by decide) (by decide) rfl)
    have q1 : ∀ (D' : List (Int × Int)) (p1 p2 p3 : Pos) (kc : Nat), BEv X (.Subscript (.Name "right" p1) (.Constant (.int 1) kc p2) p3) ⟨cl11 rn sto.length i j left wl (sto.length + 1 + M.length) (a :: b :: tl) q, TS sto D' M ++ [.list (w.map .int)]⟩ (.int b) ⟨cl11 rn sto.length i j left wl (sto.length + 1 + M.length) (a :: b :: tl) q, TS sto D' M ++ [.list (w.map .int)]⟩ := fun D' p1 p2 p3 kc => Q.item (i := .int 1) (by walk_at "nm") B.int (Item.tup (by decide) (by decide) rfl)
    refine B.binop (st₁ := ⟨cl11 rn sto.length i j left wl (sto.length + 1 + M.length) (a :: b :: tl) q, TS sto (partD row D a i q) M ++ [.list (w.map .int)]⟩) (st₂ := ⟨cl11 rn sto.length i j left wl (sto.length + 1 + M.length) (a :: b :: tl) q, TS sto (partD row (partD row D a i q) b q j) M ++ [.list (w.map .int)]⟩) ?_ ?_ Op.add_int
    · refine B.part (part := a) (i := i) (j := q) ok tp hr (hcl _ _) hiq (by grind) (by grind) (by grind) (q0 _ _ _ _ _) ?_ ?_ ?_ ?_ ?_ ?_ ?_ ?_ ?_
      · walk_at "nm"
      · walk_at "nm"
      · exact B.cellN ok hrow (by decide)
      · walk_at "nm"
      · boot_fast
      · walk_at "st"
      · walk_at "st"
      · walk_at "st"
      · walk_at "pl"
    · refine B.part (part := b) (i := q) (j := j) ok tp hr (hcl _ _) hqj hj (by grind) (by grind) (q1 _ _ _ _ _) ?_ ?_ ?_ ?_ ?_ ?_ ?_ ?_ ?_
      · walk_at "nm"
      · walk_at "nm"
      · exact B.cellN ok hrow (by decide)
      · walk_at "nm"
      · boot_fast
      · walk_at "st"
      · walk_at "st"
      · walk_at "st"
      · walk_at "pl"
  · rw [List.map_append]
    exact .last _ _ _ _ (hTl _).symm
end


section
variable {X X' : Cx} {st st₁ st₂ st₃ st' : PSt} {ad : Nat → Addr} {k : Nat}
theorem B.lenT (ok : X.Ok k) (tp : Top ad X.w X.K) {np p q : Pos} {x : Str} {xs : List PV} (hk : X.env.kindOf "len" = some .globalImplicit) (h : BEv X (.Name x q) st (.tup xs) st) (hl : xs.length < 2 ^ 62) (hs : ∀ env, starEach [.Name x q] env = (false, eval (.Name x q) env) :: starEach [] env) (hx : Plain [.Name x q]) : BEv X (.Call (.Name "len" np) [.Name x q] [] p) st (.int (xs.length : Nat)) st :=
  B.bLen ok tp hk (Q.c1 h hs) hx (Calls.len_tup hl)
set_option maxHeartbeats 8000000 in
theorem rbody77 (ok : X.Ok (k + 3)) (tp : Top ad X.w X.K) (henv : X.env.scope = fnS 77) {c : Addr} (r : Nat) (hrow : RowCell X "row" r c) (sto : List PO) (M : List PO) (rn wl : Nat) (left : Int) (row : List Int) (hr : At sto r (.list (row.map .int))) (i j : Nat) (hij : i ≤ j) (hj : j ≤ row.length) (hl : row.length ≤ 20) (right : List Int) (hrt : right.length ≤ 1000) (s : PW) (hD : s.2.length ≤ 800000) (hs : s.1.length ≤ 900000)
    (hcl : ∀ (D : List (Int × Int)) (w : List Int), ((TS sto D M ++ [PO.list (w.map .int)]).all (PO.inS (TS sto D M ++ [PO.list (w.map .int)]).length)) = true) :
    BExs X (sBody right77) ⟨cl10 rn sto.length i j left wl (sto.length + 1 + M.length) right, TS sto s.2 M ++ [.list (s.1.map .int)]⟩ .next ⟨cl9 rn sto.length i j left wl (sto.length + 1 + M.length), TS sto (rStep row i j s right).2 M ++ [.list ((rStep row i j s right).1.map .int)]⟩ := by
  have hTl : ∀ D, (TS sto D M).length = sto.length + 1 + M.length := fun D => by unfold TS; simp; grind
  have hlr : (right.map PV.int).length = right.length := List.length_map _
  conv => arg 2; whnf
  refine B.less (l := cl10 rn sto.length i j left wl (sto.length + 1 + M.length) right) ?_ (by walk_at "lk")
  apply B.one
  have ht : ∀ (e : Int) (q1 q2 q3 q4 q5 : Pos) (kc : Nat), BTst X (.Compare (.Call (.Name "len" q1) [.Name "right" q2] [] q3) [.Eq] [.Constant (.int e) kc q4] q5) ⟨cl10 rn sto.length i j left wl (sto.length + 1 + M.length) right, TS sto s.2 M ++ [.list (s.1.map .int)]⟩ (((right.map PV.int).length : Int) == e) ⟨cl10 rn sto.length i j left wl (sto.length + 1 + M.length) right, TS sto s.2 M ++ [.list (s.1.map .int)]⟩ := fun e q1 q2 q3 q4 q5 kc =>
    Q.tcmp (B.lenT ok tp (by boot_fast) (by walk_at "nm") (by grind) (by walk_at "st") (by walk_at "pl")) B.int Op.eq_int rfl rfl
  match right, hrt, hlr, ht with
  | [], _, _, ht =>
    show BEx X _ _ _ ⟨cl10 rn sto.length i j left wl (sto.length + 1 + M.length) [], TS sto s.2 M ++ [.list ((s.1 ++ [2 * ((j : Int) - (i : Int))]).map .int)]⟩
    refine B.if_t (B.tcast (ht 0 _ _ _ _ _ _) rfl) (B.one (Q.append ok (n := sto.length + 1 + M.length) (xs := s.1.map .int) (v := .int (2 * ((j : Int) - (i : Int)))) (by walk_at "nm") (Q.binop (a := .int 2) (b := .int ((j : Int) - (i : Int))) B.int (Q.binop (by walk_at "nm") (by walk_at "nm") Op.sub_int) (Op.mul_int (PySem.IntMulOk.of_left (by decide)))) (.last _ _ _ (hTl _).symm) ?_ (by rw [sizeLine_eq, List.length_map]; grind) (by walk_at "st") (by walk_at "pl") rfl rfl rfl))
    rw [List.map_append]
    exact .last _ _ _ _ (hTl _).symm
  | [a], _, _, ht =>
    show BEx X _ _ _ ⟨cl10 rn sto.length i j left wl (sto.length + 1 + M.length) [a], TS sto (partD row s.2 a i j) M ++ [.list ((s.1 ++ [partV row s.2 a i j]).map .int)]⟩
    refine B.if_f (B.tcast (ht 0 _ _ _ _ _ _) rfl) ?_
    apply B.one
    refine B.if_t (B.tcast (ht 1 _ _ _ _ _ _) rfl) ?_
    apply B.one
    refine B.append (st₁ := ⟨cl10 rn sto.length i j left wl (sto.length + 1 + M.length) [a], TS sto s.2 M ++ [.list (s.1.map .int)]⟩) (st₂ := ⟨cl10 rn sto.length i j left wl (sto.length + 1 + M.length) [a], TS sto (partD row s.2 a i j) M ++ [.list (s.1.map .int)]⟩) (v := .int (partV row s.2 a i j)) (xs := s.1.map .int) (n := sto.length + 1 + M.length) ok (by walk_at "nm") (.last _ _ _ (hTl _).symm) ?_ (.last _ _ _ (hTl _).symm) ?_ (by rw [sizeLine_eq, List.length_map]; grind) (by walk_at "pl") rfl rfl rfl
    · refine B.cons (st₁ := ⟨cl10 rn sto.length i j left wl (sto.length + 1 + M.length) [a], TS sto (partD row s.2 a i j) M ++ [.list (s.1.map .int)]⟩) ?_ B.nil (by walk_at "st")
      refine B.part (part := a) (i := i) (j := j) ok tp hr (hcl _ _) hij hj (by grind) (by grind) (Q.item (o := .tup (([a] : List Int).map .int)) (i := .int 0) (v := .int a) ?_ B.int (Item.tup (xs := ([a] : List Int).map .int) (by decide) (by decide) rfl)) ?_ ?_ ?_ ?_ ?_ ?_ ?_ ?_ ?_
      · walk_at "nm"
      · walk_at "nm"
      · walk_at "nm"
      · exact B.cellN ok hrow (by decide)
      · walk_at "nm"
      · boot_fast
      · walk_at "st"
      · walk_at "st"
      · walk_at "st"
      · walk_at "pl"
    · rw [List.map_append]
      exact .last _ _ _ _ (hTl _).symm
  | a :: b :: tl, hrt, _, ht =>
    have e0 : ((((a :: b :: tl).map PV.int).length : Int) == 0) = false := by rw [beq_eq_false_iff_ne]; simp only [List.length_map, List.length_cons]; grind
    have e1 : ((((a :: b :: tl).map PV.int).length : Int) == 1) = false := by rw [beq_eq_false_iff_ne]; simp only [List.length_map, List.length_cons]; grind
    refine B.if_f (B.tcast (ht 0 _ _ _ _ _ _) e0) ?_
    apply B.one
    refine B.if_f (B.tcast (ht 1 _ _ _ _ _ _) e1) ?_
    apply B.one
    show BEx X _ _ _ ⟨cl10 rn sto.length i j left wl (sto.length + 1 + M.length) (a :: b :: tl), TS sto (kFold row a b i j s (j + 1 - i)).2 M ++ [.list ((kFold row a b i j s (j + 1 - i)).1.map .int)]⟩
    refine B.forS (st₁ := ⟨cl10 rn sto.length i j left wl (sto.length + 1 + M.length) (a :: b :: tl), TS sto s.2 M ++ [.list (s.1.map .int)]⟩) (items := rngL (i : Nat) 1 (j + 1 - i)) (depS := fun _ => True) ok (by boot_fast) ?_ (j + 1 - i) (fun m => ⟨cl10 rn sto.length i j left wl (sto.length + 1 + M.length) (a :: b :: tl), TS sto (kFold row a b i j s m).2 M ++ [.list ((kFold row a b i j s m).1.map .int)]⟩) rfl ?_ (.inl ⟨rfl, rfl, rngL_len.symm, trivial⟩) (by intro _; rfl)
    · exact Src.range2 (a := (i : Nat)) (b := (j : Int) + 1) ok (Ev.bi 5 ok tp (by boot_fast) gB5 (by decide)) (BEvs.h (Q.c2 (by walk_at "nm") (Q.binop (by walk_at "nm") B.int Op.add_int) (by walk_at "st") (by walk_at "st"))) (by walk_at "pl") (by grind) (by grind) (by grind) (by grind) (by grind)
    · intro m hm
      have hkl := kFold_len row a b i j s m
      refine ⟨.int ((i + m : Nat) : Int), cl11 rn sto.length i j left wl (sto.length + 1 + M.length) (a :: b :: tl) (i + m), ?_, trivial, by by_place, ?_⟩
      · rw [rngL_get hm]; congr 2; rw [Int.natCast_add]; grind
      · exact kbody77 ok tp henv r hrow sto M rn wl left row hr i j (i + m) (by grind) (by grind) hj hl a b tl (kFold row a b i j s m) (by grind) (by grind) hcl
end


theorem getD_in {α : Type} (l : List α) (i : Nat) (d : α) (h : i < l.length) : l.getD i d ∈ l := by rw [List.getD_eq_getElem?_getD, List.getElem?_eq_getElem h]; exact List.getElem_mem h
theorem TS_sa (sto : List PO) (D D' : List (Int × Int)) (M W : List PO) : SetAt (TS sto D M ++ W) sto.length (.dictI (ipv D')) (TS sto D' M ++ W) := ((SetAt.last sto (.dictI (ipv D)) (.dictI (ipv D')) sto.length rfl).app M).app W
theorem cellStep_len (row : List Int) (rs : List (List Int)) (left : Int) (D : List (Int × Int)) (i j : Nat) (hij : i ≤ j) (hj : j ≤ 20) : (cellStep row rs left D (i, j)).length ≤ D.length + 42 * rs.length + 1 := by
  have h1 := (rFold_len row i j rs D hij hj rs.length).2.1
  have h2 := iput_len (rFold row i j rs D rs.length).2 (keyT left i j) (minI (rFold row i j rs D rs.length).1)
  unfold cellStep; dsimp only; grind
section
variable {X X' : Cx} {st st₁ st₂ st₃ st' : PSt} {ad : Nat → Addr} {k : Nat}
noncomputable abbrev cl6 (rn L : Nat) (left : Int) (wl : Nat) : List (Str × PV) := [("rules", .loc rn), ("table", .loc L), ("stretches", .loc (L + 1)), ("left", .int left), ("wanted", .loc wl)]
noncomputable abbrev cl8 (rn L i j : Nat) (left : Int) (wl : Nat) : List (Str × PV) := [("rules", .loc rn), ("table", .loc L), ("stretches", .loc (L + 1)), ("left", .int left), ("wanted", .loc wl), ("i", .int (i : Nat)), ("j", .int (j : Nat))]
set_option maxHeartbeats 8000000 in
theorem cellbody77 (ok : X.Ok (k + 3)) (tp : Top ad X.w X.K) (henv : X.env.scope = fnS 77) {c : Addr} (r : Nat) (hrow : RowCell X "row" r c) (sto : List PO) (M : List PO) (hM : 1 ≤ M.length) (rn wl : Nat) (left : Int) (hle : 256 ≤ left) (hle2 : left ≤ 258) (row : List Int) (hr : At sto r (.list (row.map .int))) (R : Int → List (List Int)) (hR : Rules sto rn R) (hRn : R left ≠ []) (hRl : (R left).length ≤ 3) (hRr : ∀ q ∈ R left, q.length ≤ 1000) (hwl : wl < sto.length + 1 + M.length)
    (i j : Nat) (hij : i ≤ j) (hj : j ≤ row.length) (hl : row.length ≤ 20) (D : List (Int × Int)) (hD : D.length ≤ 700000)
    (hcl : ∀ (D : List (Int × Int)), ((TS sto D M).all (PO.inS (TS sto D M).length)) = true) :
    BExs X (sBody cell77) ⟨cl8 rn sto.length i j left wl, TS sto D M⟩ .next ⟨cl6 rn sto.length left wl, TS sto (cellStep row (R left) left D (i, j)) M⟩ := by
  have hTl : ∀ D, (TS sto D M).length = sto.length + 1 + M.length := fun D => by unfold TS; simp; grind
  have hclw : ∀ (D : List (Int × Int)) (w : List Int), ((TS sto D M ++ [PO.list (w.map .int)]).all (PO.inS (TS sto D M ++ [PO.list (w.map .int)]).length)) = true := fun D w => closed_snoc (hcl D) (inAll_ints _ _)
  have hrn : rn < sto.length := by obtain ⟨rs, h, _⟩ := hR.at_; exact h.lt
  obtain ⟨rs, hrs, hra⟩ := hR.at_
  obtain ⟨ra, hg, hlist⟩ := hra left hle hle2
  have hfl := fun m => rFold_len row i j (R left) D hij (by grind) m
  have hne : (rFold row i j (R left) D (R left).length).1 ≠ [] := by
    intro e
    have := (hfl (R left).length).2.2
    rw [e] at this
    have := List.length_pos_iff.mpr hRn
    simp only [List.length_nil] at *; grind
  refine B.cutS ⟨cl6 rn sto.length left wl, TS sto (cellStep row (R left) left D (i, j)) M ++ [.list ((rFold row i j (R left) D (R left).length).1.map .int)]⟩ ?_ ⟨fun x v e => e, ?_, (List.take_left' rfl).symm, hcl _⟩ (by dsimp only; rw [hTl, hTl]; exact Nat.le_refl _)
  · conv => arg 2; whnf
    refine Q.s2 ⟨cl9 rn sto.length i j left wl (sto.length + 1 + M.length), TS sto D M ++ [.list []]⟩ (A.assign (v := .loc (sto.length + 1 + M.length)) (l₁ := cl8 rn sto.length i j left wl) ok (B.cast (a := .loc (TS sto D M).length) (B.list B.nil (by rw [sizeLine_eq]; decide)) (by rw [hTl])) (by boot_fast) (by by_place) rfl) ?_
    refine B.less (l := cl9 rn sto.length i j left wl (sto.length + 1 + M.length)) ?_ (by walk_at "lk")
    refine Q.s2 ⟨cl9 rn sto.length i j left wl (sto.length + 1 + M.length), TS sto (rFold row i j (R left) D (R left).length).2 M ++ [.list ((rFold row i j (R left) D (R left).length).1.map .int)]⟩ ?_ ?_
    · refine B.forS (st₁ := ⟨cl9 rn sto.length i j left wl (sto.length + 1 + M.length), TS sto D M ++ [.list []]⟩) (items := (R left).map fun q => .tup (q.map .int)) (depS := fun st => st.sto[ra]? = some (.list ((R left).map fun q => .tup (q.map .int)))) ok (by boot_fast) (Src.of (pv := .loc ra) (BEv.h (Q.item (o := .loc rn) (i := .int left) (by walk_at "nm") (by walk_at "nm") (Item.I (Has.dictI ok (TS_o hrs D M _).get) hg))) (Iters.listA ok.hh (TS_o hlist D M _))) (R left).length (fun m => ⟨cl9 rn sto.length i j left wl (sto.length + 1 + M.length), TS sto (rFold row i j (R left) D m).2 M ++ [.list ((rFold row i j (R left) D m).1.map .int)]⟩) rfl ?_ (.inl ⟨rfl, rfl, (List.length_map _).symm, (TS_o hlist _ M _).get⟩) (by intro _; rfl)
      intro m hm
      have h1 := hfl m
      refine ⟨.tup (((R left).getD m []).map .int), cl10 rn sto.length i j left wl (sto.length + 1 + M.length) ((R left).getD m []), by rw [List.getElem?_map, getD_some (R left) m [] hm]; rfl, (TS_o hlist _ M _).get, by by_place, ?_⟩
      exact rbody77 ok tp henv r hrow sto M rn wl left row hr i j hij hj hl ((R left).getD m []) (hRr _ (getD_in (R left) m [] hm)) (rFold row i j (R left) D m) (by grind) (by grind) hclw
    · have h1 := hfl (R left).length
      apply B.one
      refine Q.setIt (ov := .loc sto.length) (iv := .int (keyT left i j)) (v := .int (minI (rFold row i j (R left) D (R left).length).1)) (B.bMin ok tp (by boot_fast) (Q.c1 (v := .loc (sto.length + 1 + M.length)) (by walk_at "nm") (by walk_at "st")) (by walk_at "pl") (Calls.min_list ok (At.last _ _ _ (hTl _).symm).get (minI_mem _ hne) (minI_le _))) (by walk_at "nm") (B.cast (a := .int (left * 10000 + (i : Int) * 100 + (j : Int))) (Q.binop (a := .int (left * 10000 + (i : Int) * 100)) (b := .int (j : Nat)) (Q.binop (a := .int (left * 10000)) (b := .int ((i : Int) * 100)) (Q.binop (by walk_at "nm") B.int (Op.mul_int (PySem.IntMulOk.of_right (by decide)))) (Q.binop (by walk_at "nm") B.int (Op.mul_int (PySem.IntMulOk.of_right (by decide)))) Op.add_int) (by walk_at "nm") Op.add_int) rfl) ?_ rfl
      refine SetIt.IA ok (TS_t sto _ M _) ?_ (by rw [ipv_len, sizeLine_eq]; grind)
      rw [ipv_put]
      exact TS_sa sto _ _ M _
  · rw [hTl]
    simp [PV.inS]; grind
end


noncomputable def strP (n : Nat) : Nat → List (Nat × Nat)
  | 0 => []
  | i + 1 => strP n i ++ (List.range (n + 1 - i)).map fun j => (i, i + j)
noncomputable def pairP (p : Nat × Nat) : PV := .tup [.int (p.1 : Nat), .int (p.2 : Nat)]
theorem strP_len (n : Nat) : ∀ i, i ≤ n + 1 → (strP n i).length ≤ i * (n + 1)
  | 0, _ => Nat.zero_le _
  | i + 1, h => by
    have ih := strP_len n i (by grind)
    simp only [strP, List.length_append, List.length_map, List.length_range]
    rw [Nat.succ_mul]; grind
theorem strP_mem (n : Nat) : ∀ i, i ≤ n + 1 → ∀ p ∈ strP n i, p.1 ≤ p.2 ∧ p.2 ≤ n
  | 0, _, p, h => (List.not_mem_nil h).elim
  | i + 1, hi, p, h => by
    simp only [strP] at h
    rcases List.mem_append.mp h with h | h
    · exact strP_mem n i (by grind) p h
    · obtain ⟨j, hj, rfl⟩ := List.mem_map.mp h
      have := List.mem_range.mp hj
      simp only; grind
theorem strP_vals (n : Nat) : ∀ i, vals2 (fun i => (rngL ((i : Nat) : Int) 1 (n + 1 - i)).length) (fun i j => pairP (i, i + j)) i = (strP n i).map pairP
  | 0 => rfl
  | i + 1 => by
    simp only [vals2, strP, List.map_append, List.map_map, rngL_len]
    rw [← strP_vals n i]
    simp only [rngL_len]
    rfl
noncomputable def cells (row : List Int) (rs : List (List Int)) (left : Int) (w : List (Nat × Nat)) (D : List (Int × Int)) : Nat → List (Int × Int)
  | 0 => D
  | m + 1 => cellStep row rs left (cells row rs left w D m) (w.getD m (0, 0))
noncomputable def wantT (n m : Nat) : List (Nat × Nat) := if m < 2 then strP n (n + 1) else [(0, n)]
noncomputable def tabT (row : List Int) (R : Int → List (List Int)) : Nat → List (Int × Int)
  | 0 => []
  | m + 1 => cells row (R (258 - (m : Int))) (258 - (m : Int)) (wantT row.length m) (tabT row R m) (wantT row.length m).length
noncomputable def tabV (row : List Int) (R : Int → List (List Int)) : Int := (iget (tabT row R 3) (2560000 + (row.length : Int))).getD 0
theorem wantT_mem (n m : Nat) : ∀ p ∈ wantT n m, p.1 ≤ p.2 ∧ p.2 ≤ n := by
  intro p hp
  unfold wantT at hp
  split at hp
  · exact strP_mem n _ (Nat.le_refl _) p hp
  · rw [List.mem_singleton.mp hp]; simp
theorem wantT_len (n m : Nat) (hn : n ≤ 20) : (wantT n m).length ≤ 441 := by
  unfold wantT
  split
  · have h1 := strP_len n (n + 1) (Nat.le_refl _)
    have h2 : (n + 1) * (n + 1) ≤ 21 * 21 := Nat.mul_le_mul (by grind) (by grind)
    grind
  · simp
theorem cells_len (row : List Int) (rs : List (List Int)) (left : Int) (w : List (Nat × Nat)) (D : List (Int × Int)) (hw : ∀ p ∈ w, p.1 ≤ p.2 ∧ p.2 ≤ 20) (hr : rs.length ≤ 3) : ∀ m, m ≤ w.length → (cells row rs left w D m).length ≤ D.length + 127 * m
  | 0, _ => Nat.le_refl _
  | m + 1, h => by
    have ih := cells_len row rs left w D hw hr m (by grind)
    obtain ⟨h1, h2⟩ := hw _ (getD_in w m (0, 0) h)
    have := cellStep_len row rs left (cells row rs left w D m) (w.getD m (0, 0)).1 (w.getD m (0, 0)).2 h1 h2
    have e : cellStep row rs left (cells row rs left w D m) ((w.getD m (0, 0)).1, (w.getD m (0, 0)).2) = cells row rs left w D (m + 1) := rfl
    rw [e] at this; grind
theorem tabT_len (row : List Int) (R : Int → List (List Int)) (hn : row.length ≤ 20) (hR : ∀ x : Int, 256 ≤ x → x ≤ 258 → (R x).length ≤ 3) : ∀ m, m ≤ 3 → (tabT row R m).length ≤ 56007 * m
  | 0, _ => Nat.le_refl _
  | m + 1, h => by
    have ih := tabT_len row R hn hR m (by grind)
    have h1 := cells_len row (R (258 - (m : Int))) (258 - (m : Int)) (wantT row.length m) (tabT row R m) (fun p hp => by have := wantT_mem row.length m p hp; grind) (hR _ (by grind) (by grind)) _ (Nat.le_refl _)
    have h2 := wantT_len row.length m hn
    simp only [tabT]
    grind
theorem tab_get (row : List Int) (R : Int → List (List Int)) : iget (tabT row R 3) (2560000 + (row.length : Int)) = some (tabV row R) := by
  have h : ∃ v, iget (tabT row R 3) (2560000 + (row.length : Int)) = some v := by
    refine ⟨minI (rFold row 0 row.length (R 256) (tabT row R 2) (R 256).length).1, ?_⟩
    show iget (cellStep row (R (258 - ((2 : Nat) : Int))) (258 - ((2 : Nat) : Int)) (tabT row R 2) (0, row.length)) _ = _
    have e : (2560000 + (row.length : Int)) = keyT 256 0 row.length := by unfold keyT; grind
    rw [e]
    exact iput_get _ _ _
  obtain ⟨v, hv⟩ := h
  unfold tabV
  rw [hv]; rfl
noncomputable def strPO (n : Nat) : PO := .list ((strP n (n + 1)).map pairP)
noncomputable def onePO (n : Nat) : PO := .list [pairP (0, n)]
noncomputable def outP (L : Nat) : List PV := [.tup [.int 258, .loc (L + 1)], .tup [.int 257, .loc (L + 1)], .tup [.int 256, .loc (L + 2)]]
noncomputable def tM (L n : Nat) : List PO := [strPO n, onePO n, .list (outP L)]
theorem pairs_inS (m : Nat) : ∀ l : List (Nat × Nat), PV.inAll m (l.map pairP) = true
  | [] => rfl
  | p :: r => by simp only [List.map_cons, PV.inAll, Bool.and_eq_true]; exact ⟨rfl, pairs_inS m r⟩
theorem tM_closed {sto : List PO} (hcl : (sto.all (PO.inS sto.length)) = true) (n : Nat) (D : List (Int × Int)) : ((TS sto D (tM sto.length n)).all (PO.inS (TS sto D (tM sto.length n)).length)) = true := by
  have e : TS sto D (tM sto.length n) = sto ++ [.dictI (ipv D)] ++ [strPO n] ++ [onePO n] ++ [.list (outP sto.length)] := by unfold TS tM; simp
  rw [e]
  refine closed_snoc (closed_snoc (closed_snoc (closed_snoc hcl (ipv_inS _ _)) (pairs_inS _ _)) rfl) ?_
  simp [outP, PO.inS, PV.inAll, PV.inS]
noncomputable def scope77 : Scope := match nth (fnB 77) 1 with | .Assign _ (.ListComp _ _ sc _) _ => sc | _ => default
theorem clos77 (env : Env) (c : Addr) (h : env.cells = [(("row" : Str), c)]) : closureFor scope77 env = pure [(("row" : Str), c)] := by
  cases env
  cases h
  rfl
theorem kind77 (env : Env) (h : env.scope = fnS 77) : (relabel scope77 env).names.lookup ("row" : Str) = some .cell := by
  cases env
  cases h
  rfl
theorem loc77 : scope77.names.lookup ("start" : Str) = some .local ∧ scope77.names.lookup ("end" : Str) = some .local ∧ scope77.kind = .function ∧ (scope77.names.all fun y => decide (y.2 ≠ .cell)) = true ∧ (scope77.names.all fun y => decide (y.2 = .local → scope77.names.lookup y.1 = some .local)) = true := by decide +kernel
theorem rel77 (env : Env) (h : env.scope = fnS 77) : (relabel scope77 env).names.lookup ("len" : Str) = some .globalImplicit ∧ (relabel scope77 env).names.lookup ("range" : Str) = some .globalImplicit := by
  cases env
  cases h
  exact ⟨rfl, rfl⟩

section
variable {X X' : Cx} {st st₁ st₂ st₃ st' : PSt} {ad : Nat → Addr} {k : Nat}
noncomputable abbrev cl4 (rn L : Nat) : List (Str × PV) := [("rules", .loc rn), ("table", .loc L), ("stretches", .loc (L + 1))]
theorem B.lenC (ok : X.Ok k) (tp : Top ad X.w X.K) {c : Addr} {r : Nat} (hrow : RowCell X "row" r c) {np p q : Pos} {xs : List PV} (hk : X.env.kindOf "len" = some .globalImplicit) (ha : At st.sto r (.list xs)) (hl : xs.length < 2 ^ 62) : BEv X (.Call (.Name "len" np) [.Name "row" q] [] p) st (.int (xs.length : Nat)) st :=
  B.bLen ok tp hk (Q.c1 (B.cellN ok hrow (by decide)) (by walk_at "st")) (by walk_at "pl") (Calls.len_listA ha hl)
set_option maxHeartbeats 8000000 in
theorem inner77 (ok : X.Ok (k + 3)) (tp : Top ad X.w X.K) (henv : X.env.scope = fnS 77) {c : Addr} (r : Nat) (hrow : RowCell X "row" r c) (sto : List PO) (M : List PO) (hM : 1 ≤ M.length) (rn wl : Nat) (left : Int) (hle : 256 ≤ left) (hle2 : left ≤ 258) (row : List Int) (hr : At sto r (.list (row.map .int))) (R : Int → List (List Int)) (hR : Rules sto rn R) (hRn : R left ≠ []) (hRl : (R left).length ≤ 3) (hRr : ∀ q ∈ R left, q.length ≤ 1000) (hl : row.length ≤ 20) (D : List (Int × Int)) (hD : D.length ≤ 500000)
    (w : List (Nat × Nat)) (hw : ∀ p ∈ w, p.1 ≤ p.2 ∧ p.2 ≤ row.length) (hwn : w.length ≤ 441) (hwl : ∀ D, At (TS sto D M) wl (.list (w.map pairP)))
    (hcl : ∀ (D : List (Int × Int)), ((TS sto D M).all (PO.inS (TS sto D M).length)) = true) :
    BExs X (sBody for77) ⟨cl6 rn sto.length left wl, TS sto D M⟩ .next ⟨cl4 rn sto.length, TS sto (cells row (R left) left w D w.length) M⟩ := by
  have hTl : ∀ D, (TS sto D M).length = sto.length + 1 + M.length := fun D => by unfold TS; simp; grind
  have hlw : (w.map pairP).length = w.length := List.length_map _
  conv => arg 2; whnf
  refine B.less (l := cl6 rn sto.length left wl) ?_ (by walk_at "lk")
  apply B.one
  refine B.xto (B.forT ok (n := wl) (xs := w.map pairP) (st₁ := ⟨cl6 rn sto.length left wl, TS sto D M⟩) (by walk_at "nm") (hwl D) (fun m => ⟨cl6 rn sto.length left wl, TS sto (cells row (R left) left w D m) M⟩) rfl ?_ (hwl _).get (by intro _; rfl)) (by rw [hlw])
  intro m hm
  rw [hlw] at hm
  obtain ⟨h1, h2⟩ := hw _ (getD_in w m (0, 0) hm)
  have hcl2 := cells_len row (R left) left w D (fun p hp => by have := hw p hp; grind) hRl m (by grind)
  refine ⟨[.int ((w.getD m (0, 0)).1 : Nat), .int ((w.getD m (0, 0)).2 : Nat)], ⟨cl8 rn sto.length (w.getD m (0, 0)).1 (w.getD m (0, 0)).2 left wl, TS sto (cells row (R left) left w D m) M⟩, by rw [List.getElem?_map, getD_some w m (0, 0) hm]; rfl, (hwl _).get, As.tup2 (st₁ := ⟨[("rules", .loc rn), ("table", .loc sto.length), ("stretches", .loc (sto.length + 1)), ("left", .int left), ("wanted", .loc wl), ("i", .int ((w.getD m (0, 0)).1 : Nat))], TS sto (cells row (R left) left w D m) M⟩) ok (As.name ok (by boot_fast) (by by_place)) (As.name ok (by boot_fast) (by by_place)) rfl, ?_⟩
  exact cellbody77 ok tp henv r hrow sto M hM rn wl left hle hle2 row hr R hR hRn hRl hRr (by have := (hwl D).lt; rw [hTl] at this; exact this) (w.getD m (0, 0)).1 (w.getD m (0, 0)).2 h1 h2 hl _ (by grind) hcl
end


section
variable {X X' : Cx} {st st₁ st₂ st₃ st' : PSt} {ad : Nat → Addr} {k : Nat}
theorem strP_total (n : Nat) (hn : n ≤ 20) (i : Nat) (hi : i ≤ n + 1) : (vals2 (fun i => (rngL ((i : Nat) : Int) 1 (n + 1 - i)).length) (fun i j => pairP (i, i + j)) i).length + (rngL ((i : Nat) : Int) 1 (n + 1 - i)).length ≤ sizeLine := by
  rw [strP_vals, List.length_map, rngL_len, sizeLine_eq]
  have h1 := strP_len n i hi
  have h2 : i * (n + 1) ≤ 21 * 21 := Nat.mul_le_mul (by grind) (by grind)
  grind
theorem swap77 (env : Env) (h : env.scope = fnS 77) : (match nth (fnB 77) 1 with | .Assign [t] v p => swapsWith v (some t) p.line env | _ => pure true) = pure true := by
  cases env
  cases h
  rfl
set_option maxHeartbeats 8000000 in
theorem str77 (ok : X.Ok (k + 3)) (tp : Top ad X.w X.K) (henv : X.env.scope = fnS 77) {c : Addr} (r : Nat) (hrow : RowCell X "row" r c) (sto : List PO) (rn : Nat) (row : List Int) (hr : At sto r (.list (row.map .int))) (hl : row.length ≤ 20) :
    BEx X (nth (fnB 77) 1) ⟨[("rules", .loc rn), ("table", .loc sto.length)], sto ++ [.dictI []]⟩ .next ⟨cl4 rn sto.length, sto ++ [.dictI []] ++ [strPO row.length]⟩ := by
  have hlr : (row.map PV.int).length = row.length := List.length_map _
  obtain ⟨z1, z2, z3, z4, z5⟩ := loc77
  have e : strPO row.length = .list (vals2 (fun i => (rngL ((i : Nat) : Int) 1 (row.length + 1 - i)).length) (fun i j => pairP (i, i + j)) (rngL 0 1 (row.length + 1)).length) := by
    rw [strP_vals, rngL_len]; rfl
  rw [e]
  have e2 : nth (fnB 77) 1 = nth (fnB 77) 1 := rfl
  conv => arg 2; whnf
  have e3 : cl4 rn sto.length = ([("rules", .loc rn), ("table", .loc sto.length), ("stretches", .loc (sto ++ [PO.dictI []]).length)] : List (Str × PV)) := by simp [cl4]
  rw [e3]
  constructor
  refine Ex.assignComp2C (st₁ := ⟨[("rules", .loc rn), ("table", .loc sto.length)], sto ++ [.dictI []]⟩) (spos := _) (hky := ?hky) (hput := ?hput) (scope := scope77) (items := rngL 0 1 (row.length + 1)) (depS := fun _ => True) (cl := [("row", c)]) ok ?_ (clos77 _ c hrow.cells) (fun y hy => of_decide_eq_true (List.all_eq_true.mp z4 y hy)) z3 (fun y hy => of_decide_eq_true (List.all_eq_true.mp z5 y hy)) z1 z2 (by decide) (fun _ _ => trivial) (fun i => rngL ((i : Nat) : Int) 1 (row.length + 1 - i)) (fun i j => pairP (i, i + j)) (fun i hi => strP_total row.length hl i (by rw [rngL_len] at hi; exact hi)) ?_ (by intro _ _; rfl) ?_ (by intro _; rfl) (swap77 _ henv)
  case hky => boot_fast
  case hput => by_place
  · refine Src.range1 (a := (row.length : Int) + 1) ok (Ev.bi 5 ok tp (by boot_fast) gB5 (by decide)) (BEvs.h (Q.c1 (B.cast (a := .int (((row.map PV.int).length : Nat) + 1 : Int)) (Q.binop (B.lenC ok tp hrow (by boot_fast) (hr.app _) (by grind)) B.int Op.add_int) (by rw [hlr])) (by walk_at "st"))) (by walk_at "pl") (by grind) (by grind) (by grind)
  · intro X' ok' sub henv' hpin i item hi l ys hlk
    have hi' : i < row.length + 1 := by have := (List.getElem?_eq_some_iff.mp hi).1; rwa [rngL_len] at this
    have hit : item = .int (i : Nat) := by rw [rngL_get hi'] at hi; cases hi; congr 1; grind
    subst hit
    have tp' := tp.sub sub
    have hsc : X'.env.scope = relabel scope77 X.env := by rw [henv']; rfl
    obtain ⟨r1, r2⟩ := rel77 X.env henv
    have hrow' : RowCell X' "row" r c := ⟨by rw [hpin]; exact hrow.pin, by show X'.env.scope.names.lookup _ = _; rw [hsc]; exact kind77 _ henv, by rw [henv']; rfl⟩
    have kl : X'.env.kindOf "len" = some .globalImplicit := by show X'.env.scope.names.lookup _ = _; rw [hsc]; exact r1
    have kr : X'.env.kindOf "range" = some .globalImplicit := by show X'.env.scope.names.lookup _ = _; rw [hsc]; exact r2
    have ks : X'.env.kindOf "start" = some .local := by show X'.env.scope.names.lookup _ = _; rw [hsc]; exact lookup_relabel_local z1
    exact Src.range2 (a := (i : Nat)) (b := (row.length : Int) + 1) ok' (Ev.bi 5 ok' tp' kr gB5 (by decide)) (BEvs.h (Q.c2 (B.local ok' ks hlk (by decide)) (B.cast (a := .int (((row.map PV.int).length : Nat) + 1 : Int)) (Q.binop (B.lenC ok' tp' hrow' kl ((hr.app _).app _) (by grind)) B.int Op.add_int) (by rw [hlr])) (by walk_at "st") (by walk_at "st"))) (by walk_at "pl") (by grind) (by grind) (by grind) (by grind) (by grind)
  · intro X' ok' sub henv' hpin i item hi j item2 hj ys
    have hi' : i < row.length + 1 := by have := (List.getElem?_eq_some_iff.mp hi).1; rwa [rngL_len] at this
    have hit : item = .int (i : Nat) := by rw [rngL_get hi'] at hi; cases hi; congr 1; grind
    have hj' : j < row.length + 1 - i := by have := (List.getElem?_eq_some_iff.mp hj).1; rwa [rngL_len] at this
    have hjt : item2 = .int ((i + j : Nat) : Int) := by rw [rngL_get hj'] at hj; cases hj; congr 1; rw [Int.natCast_add]; grind
    subst hit hjt
    have hsc : X'.env.scope = relabel scope77 X.env := by rw [henv']; rfl
    have ks : X'.env.kindOf "start" = some .local := by show X'.env.scope.names.lookup _ = _; rw [hsc]; exact lookup_relabel_local z1
    have ke : X'.env.kindOf "end" = some .local := by show X'.env.scope.names.lookup _ = _; rw [hsc]; exact lookup_relabel_local z2
    exact (B.tuple (Q.c2 (B.local ok' ks (by by_item) (by decide)) (B.local ok' ke (by by_item) (by decide)) (by walk_at "st") (by walk_at "st")) (by rw [sizeLine_eq]; simp)).h
set_option maxHeartbeats 8000000 in
theorem c77 (ok : X.Ok (k + 4)) (tp : Top ad X.w X.K) (r rn : Nat) (row : List Int) (R : Int → List (List Int)) (hr : st.sto[r]? = some (.list (row.map .int))) (hR : Rules st.sto rn R) (hcl : (st.sto.all (PO.inS st.sto.length)) = true) (hl : row.length ≤ 20) (hRn : ∀ x : Int, 256 ≤ x → x ≤ 258 → R x ≠ []) (hRl : ∀ x : Int, 256 ≤ x → x ≤ 258 → (R x).length ≤ 3) (hRr : ∀ x : Int, 256 ≤ x → x ≤ 258 → ∀ q ∈ R x, q.length ≤ 1000) :
    Calls X (.glob (.ref (ad 77))) [.loc r, .loc rn] st (.int (tabV row R)) st := by
  obtain ⟨loc, sto⟩ := st
  dsimp only at hr hR hcl
  refine Calls.fnCell 77 (y0 := "row") (y1 := "rules") ok tp rfl (fun _ _ _ _ vals h => by match vals, h with | [a, b], _ => rfl) (by decide +kernel) (by decide +kernel) (by intro n; rfl) rfl rfl rfl (fun X' c ok' tp' henv hrow => ?_)
  have aR := At.base _ _ _ hr
  have hlr : (row.map PV.int).length = row.length := List.length_map _
  have eT : ∀ D, TS sto D (tM sto.length row.length) = sto ++ [.dictI (ipv D)] ++ [strPO row.length] ++ [onePO row.length] ++ [.list (outP sto.length)] := fun D => by unfold TS tM; simp
  have hTl : ∀ D, (TS sto D (tM sto.length row.length)).length = sto.length + 4 := fun D => by rw [eT]; simp
  have hcl' := tM_closed hcl row.length
  have atStr : ∀ D, At (TS sto D (tM sto.length row.length)) (sto.length + 1) (strPO row.length) := fun D => by rw [eT]; exact .prev _ _ _ _ (.prev _ _ _ _ (.last _ _ _ (by simp)))
  have atOne : ∀ D, At (TS sto D (tM sto.length row.length)) (sto.length + 2) (onePO row.length) := fun D => by rw [eT]; exact .prev _ _ _ _ (.last _ _ _ (by simp))
  have atOut : ∀ D, At (TS sto D (tM sto.length row.length)) (sto.length + 3) (.list (outP sto.length)) := fun D => by rw [eT]; exact .last _ _ _ (by simp)
  have htl := tabT_len row R hl hRl
  refine B.cutRet (st₁ := ⟨cl4 rn sto.length, TS sto (tabT row R 3) (tM sto.length row.length)⟩) ?_ ?_ ?_ ?_
  · conv => arg 2; whnf
    refine Q.s2 ⟨[("rules", .loc rn), ("table", .loc sto.length)], sto ++ [.dictI []]⟩ (A.assign ok' ⟨Ev.dictI0⟩ (by boot_fast) (by by_place) rfl) ?_
    refine Q.s2 _ (str77 ok' tp' henv r hrow sto rn row aR hl) ?_
    refine Q.s2 ⟨cl4 rn sto.length, TS sto (tabT row R 3) (tM sto.length row.length)⟩ ?_ ?_
    · refine B.forT ok' (n := sto.length + 3) (xs := outP sto.length) (st₁ := ⟨cl4 rn sto.length, TS sto (tabT row R 0) (tM sto.length row.length)⟩) ?_ (atOut _) (fun m => ⟨cl4 rn sto.length, TS sto (tabT row R m) (tM sto.length row.length)⟩) rfl ?_ (atOut _).get (by intro _; rfl)
      · refine B.eto (st₁ := ⟨cl4 rn sto.length, sto ++ [.dictI []] ++ [strPO row.length] ++ [onePO row.length] ++ [.list (outP sto.length)]⟩) ?_ (by rw [eT]; rfl)
        refine B.cast (a := .loc (sto ++ [PO.dictI []] ++ [strPO row.length] ++ [onePO row.length]).length) ?_ (by simp)
        refine B.list (st₁ := ⟨cl4 rn sto.length, sto ++ [.dictI []] ++ [strPO row.length] ++ [onePO row.length]⟩) (vs := outP sto.length) ?_ (by rw [sizeLine_eq]; simp [outP])
        refine B.cons (st₁ := ⟨cl4 rn sto.length, sto ++ [.dictI []] ++ [strPO row.length]⟩) (B.tuple (vs := [.int 258, .loc (sto.length + 1)]) (Q.c2 B.int (by walk_at "nm") (by walk_at "st") (by walk_at "st")) (by rw [sizeLine_eq]; simp)) ?_ (by walk_at "st")
        refine B.cons (st₁ := ⟨cl4 rn sto.length, sto ++ [.dictI []] ++ [strPO row.length]⟩) (B.tuple (vs := [.int 257, .loc (sto.length + 1)]) (Q.c2 B.int (by walk_at "nm") (by walk_at "st") (by walk_at "st")) (by rw [sizeLine_eq]; simp)) ?_ (by walk_at "st")
        refine B.cons (st₁ := ⟨cl4 rn sto.length, sto ++ [.dictI []] ++ [strPO row.length] ++ [onePO row.length]⟩) (B.tuple (vs := [.int 256, .loc (sto.length + 2)]) ?_ (by rw [sizeLine_eq]; simp)) B.nil (by walk_at "st")
        refine B.cons (st₁ := ⟨cl4 rn sto.length, sto ++ [.dictI []] ++ [strPO row.length]⟩) B.int (B.cons (st₁ := ⟨cl4 rn sto.length, sto ++ [.dictI []] ++ [strPO row.length] ++ [onePO row.length]⟩) ?_ B.nil (by walk_at "st")) (by walk_at "st")
        refine B.cast (a := .loc (sto ++ [PO.dictI []] ++ [strPO row.length]).length) ?_ (by simp)
        refine B.list (st₁ := ⟨cl4 rn sto.length, sto ++ [.dictI []] ++ [strPO row.length]⟩) (vs := [pairP (0, row.length)]) (Q.c1 (B.tuple (vs := [.int ((0 : Nat) : Int), .int (row.length : Nat)]) (Q.c2 B.int (B.cast (a := .int ((row.map PV.int).length : Nat)) (B.lenC ok' tp' hrow (by boot_fast) ((aR.app _).app _) (by grind)) (by rw [hlr])) (by walk_at "st") (by walk_at "st")) (by rw [sizeLine_eq]; simp)) (by walk_at "st")) (by rw [sizeLine_eq]; simp)
      · intro m hm
        have hm3 : m < 3 := hm
        have hwa : ∃ wl, (outP sto.length)[m]? = some (.tup [.int (258 - (m : Int)), .loc wl]) ∧ ∀ D, At (TS sto D (tM sto.length row.length)) wl (.list ((wantT row.length m).map pairP)) := by
          have h3 : m = 0 ∨ m = 1 ∨ m = 2 := by grind
          rcases h3 with h | h | h <;> subst h
          · exact ⟨sto.length + 1, rfl, atStr⟩
          · exact ⟨sto.length + 1, rfl, atStr⟩
          · exact ⟨sto.length + 2, rfl, atOne⟩
        obtain ⟨wl, hw1, hw2⟩ := hwa
        have h1 := htl m (by grind)
        refine ⟨[.int (258 - (m : Int)), .loc wl], ⟨cl6 rn sto.length (258 - (m : Int)) wl, TS sto (tabT row R m) (tM sto.length row.length)⟩, hw1, (atOut _).get, As.tup2 (st₁ := ⟨[("rules", .loc rn), ("table", .loc sto.length), ("stretches", .loc (sto.length + 1)), ("left", .int (258 - (m : Int)))], TS sto (tabT row R m) (tM sto.length row.length)⟩) ok' (As.name ok' (by boot_fast) (by by_place)) (As.name ok' (by boot_fast) (by by_place)) rfl, ?_⟩
        exact inner77 ok' tp' henv r hrow sto (tM sto.length row.length) (by simp [tM]) rn wl (258 - (m : Int)) (by grind) (by grind) row aR R hR (hRn _ (by grind) (by grind)) (hRl _ (by grind) (by grind)) (hRr _ (by grind) (by grind)) hl (tabT row R m) (by grind) (wantT row.length m) (wantT_mem _ _) (wantT_len _ _ hl) hw2 hcl'
    · have aT : At (TS sto (tabT row R 3) (tM sto.length row.length)) sto.length (.dictI (ipv (tabT row R 3))) := by have := TS_t sto (tabT row R 3) (tM sto.length row.length) []; rwa [List.append_nil] at this
      have aR' : At (TS sto (tabT row R 3) (tM sto.length row.length)) r (.list (row.map .int)) := by have := TS_o aR (tabT row R 3) (tM sto.length row.length) []; rwa [List.append_nil] at this
      refine B.rets (B.ret (Q.item (o := .loc sto.length) (i := .int (2560000 + (row.length : Int))) (by walk_at "nm") (B.cast (a := .int (2560000 + ((row.map PV.int).length : Nat) : Int)) (Q.binop B.int (B.lenC ok' tp' hrow (by boot_fast) aR' (by grind)) Op.add_int) (by rw [hlr])) (Item.I (Has.dictI ok' aT.get) ?_)))
      rw [ipv_get, tab_get]; rfl
  · refine ⟨fun x v e => (by cases e), rfl, ?_, hcl⟩
    dsimp only
    rw [eT]
    simp only [List.append_assoc]
    exact (List.take_left' rfl).symm
  · exact Nat.le_refl _
  · rfl
end


theorem range_getD {α : Type} (l : List α) (d : α) : (List.range l.length).map (fun i => l.getD i d) = l := by
  apply List.ext_getElem?
  intro i
  rw [List.getElem?_map]
  by_cases h : i < l.length
  · rw [List.getElem?_range h, List.getElem?_eq_getElem h]
    simp [List.getD_eq_getElem?_getD, List.getElem?_eq_getElem h]
  · rw [List.getElem?_eq_none (by simpa using h), List.getElem?_eq_none (by grind)]; rfl
theorem range_filter {α β : Type} (l : List α) (d : α) (p : α → Bool) (f : α → β) : ((List.range l.length).filter fun i => p (l.getD i d)).map (fun i => f (l.getD i d)) = (l.filter p).map f := by
  have : l.filter p = ((List.range l.length).map (fun i => l.getD i d)).filter p := by rw [range_getD]
  rw [this, List.filter_map, List.map_map]; rfl
section
variable {X X' : Cx} {st st₁ st₂ st₃ st' : PSt} {ad : Nat → Addr} {k : Nat}
/-- ''.join(e) -/
theorem Ev.joinE (ok : X.Ok k) {e : Expr} {x : Str} {apos p cp : Pos} {kc : Nat} {n : Nat} {ls : List (List Nat)} (hx0 : x = T []) (h : Ev X e st (.loc n) st₁) (hp : st₁.sto[n]? = some (.list (ls.map .str))) (hl : ls.flatten.length ≤ 16777216)
    (he : ∀ env, starEach [e] env = (false, eval e env) :: starEach [] env) (hx : Plain [e]) (hline : (apos.endLine == p.line) = true)
    (hbase : attributeBase (.Constant (.str x) kc cp) "join" X.env (eval (.Constant (.str x) kc cp) X.env) = eval (.Constant (.str x) kc cp) X.env) :
    Ev X (.Call (.Attribute (.Constant (.str x) kc cp) "join" apos) [e] [] p) st (.str ls.flatten) st₁ :=
  Ev.meth ok (Ev.str hx0) (meth_str PySem.F.slot_str_join PySem.F.type_str_join) (Evs.cons h Evs.nil he) hx (Calls.join hp hl) hbase (by simp) hline
/-- [map_table_b3(one) for one in .. if not in_table_b1(one)] -/
theorem Ev.foldComp (ok : X.Ok (k + 1)) (tp : Top ad X.w X.K) {iter : Expr} {px pos p1 p2 p3 p4 p5 p6 p7 : Pos} {scope : Scope} {ls : List Nat} {depS : PSt → Prop} (hsrc : Src X iter st (ls.map fun c => .str [c]) depS st₁)
    (hfree : (scope.names.all fun y => decide (y.2 ≠ .free)) = true) (hcell : (scope.names.all fun y => decide (y.2 ≠ .cell)) = true) (hkind : scope.kind = .function) (hnames : (scope.names.all fun y => decide (y.2 = .local → scope.names.lookup y.1 = some .local)) = true)
    (hx : scope.names.lookup ("one" : Str) = some .local) (h8 : scope.names.lookup ("in_table_b1" : Str) = some .globalImplicit) (h10 : scope.names.lookup ("map_table_b3" : Str) = some .globalImplicit) (hdep : ∀ loc o, depS ⟨loc, st₁.sto ++ [o]⟩) (hl : ls.length ≤ 1000) (hf : ∀ x, foldedSetIterable iter X.env x = pure x) :
    Ev X (.ListComp (.Call (.Name "map_table_b3" p1) [.Name "one" p2] [] p3) [⟨.Name "one" px, iter, [.UnaryOp .Not (.Call (.Name "in_table_b1" p4) [.Name "one" p5] [] p6) p7], 0⟩] scope pos) st (.loc st₁.sto.length)
      ⟨st₁.loc, st₁.sto ++ [.list (((ls.filter fun c : Nat => !b1L.contains (c : Int)).map map3).map .str)]⟩ := by
  have h := Ev.comp (px := px) (elt := .Call (.Name "map_table_b3" p1) [.Name "one" p2] [] p3) (ifs := [.UnaryOp .Not (.Call (.Name "in_table_b1" p4) [.Name "one" p5] [] p6) p7]) (pos := pos) ok hsrc
    (fun y hy => of_decide_eq_true (List.all_eq_true.mp hfree y hy)) (fun y hy => of_decide_eq_true (List.all_eq_true.mp hcell y hy)) hkind (fun y hy => of_decide_eq_true (List.all_eq_true.mp hnames y hy)) hx hdep (by rw [List.length_map, sizeLine_eq]; grind)
    (fun i => !b1L.contains ((ls.getD i 0 : Nat) : Int)) (fun i => .str (map3 (ls.getD i 0))) (fun X' ok' sub henv i item hi ys => by
      have hil : i < ls.length := by have := (List.getElem?_eq_some_iff.mp hi).1; simpa using this
      have hitem : item = .str [ls.getD i 0] := by
        rw [List.getElem?_map, List.getElem?_eq_getElem hil] at hi
        rw [List.getD_eq_getElem?_getD, List.getElem?_eq_getElem hil]
        exact (Option.some.inj hi).symm
      subst hitem
      have k1 : X'.env.kindOf "one" = some .local := by rw [henv]; exact hx
      have k2 : X'.env.kindOf "in_table_b1" = some .globalImplicit := by rw [henv]; exact h8
      have k3 : X'.env.kindOf "map_table_b3" = some .globalImplicit := by rw [henv]; exact h10
      have tp' := tp.sub sub
      refine ⟨Tests.one (Tst.not (Tst.val (Ev.callF 8 ok' tp' k2 rfl (by decide) (Evs.cons (Ev.local ok' k1 (.here _ _ _) (by decide)) Evs.nil (by walk_at "st")) (by walk_at "pl") (c8 ok' tp' _)) Truth.bool rfl)), fun _ => ?_⟩
      exact Ev.callF 10 ok' tp' k3 rfl (by decide) (Evs.cons (Ev.local ok' k1 (.here _ _ _) (by decide)) Evs.nil (by walk_at "st")) (by walk_at "pl") (c10 ok' tp' _)) hf
  rw [List.length_map] at h
  have e := range_filter ls 0 (fun c : Nat => !b1L.contains (c : Int)) (fun c => PV.str (map3 c))
  rw [e] at h
  rw [List.map_map]
  exact h
/-- [chr(code) for code in ..] -/
theorem Ev.chrComp (ok : X.Ok k) (tp : Top ad X.w X.K) {iter : Expr} {px pos p1 p2 p3 : Pos} {scope : Scope} {ls : List Int} {depS : PSt → Prop} (hsrc : Src X iter st (ls.map .int) depS st₁)
    (hfree : (scope.names.all fun y => decide (y.2 ≠ .free)) = true) (hcell : (scope.names.all fun y => decide (y.2 ≠ .cell)) = true) (hkind : scope.kind = .function) (hnames : (scope.names.all fun y => decide (y.2 = .local → scope.names.lookup y.1 = some .local)) = true)
    (hx : scope.names.lookup ("code" : Str) = some .local) (hchr : scope.names.lookup ("chr" : Str) = some .globalImplicit) (hdep : ∀ loc o, depS ⟨loc, st₁.sto ++ [o]⟩) (hl : ls.length ≤ 1000) (hb : ∀ i ∈ ls, 0 ≤ i ∧ i ≤ 1114111) (hf : ∀ x, foldedSetIterable iter X.env x = pure x) :
    Ev X (.ListComp (.Call (.Name "chr" p1) [.Name "code" p2] [] p3) [⟨.Name "code" px, iter, [], 0⟩] scope pos) st (.loc st₁.sto.length)
      ⟨st₁.loc, st₁.sto ++ [.list ((ls.map fun i => [i.toNat]).map .str)]⟩ := by
  have h := Ev.comp (px := px) (elt := .Call (.Name "chr" p1) [.Name "code" p2] [] p3) (ifs := []) (pos := pos) ok hsrc
    (fun y hy => of_decide_eq_true (List.all_eq_true.mp hfree y hy)) (fun y hy => of_decide_eq_true (List.all_eq_true.mp hcell y hy)) hkind (fun y hy => of_decide_eq_true (List.all_eq_true.mp hnames y hy)) hx hdep (by rw [List.length_map, sizeLine_eq]; grind)
    (fun i => true) (fun i => .str [(ls.getD i 0).toNat]) (fun X' ok' sub henv i item hi ys => by
      have hil : i < ls.length := by have := (List.getElem?_eq_some_iff.mp hi).1; simpa using this
      have hitem : item = .int (ls.getD i 0) := by
        rw [List.getElem?_map, List.getElem?_eq_getElem hil] at hi
        rw [List.getD_eq_getElem?_getD, List.getElem?_eq_getElem hil]
        exact (Option.some.inj hi).symm
      subst hitem
      have hbi := hb (ls.getD i 0) (by rw [List.getD_eq_getElem?_getD, List.getElem?_eq_getElem hil]; exact List.getElem_mem hil)
      have k1 : X'.env.kindOf "code" = some .local := by rw [henv]; exact hx
      have k2 : X'.env.kindOf "chr" = some .globalImplicit := by rw [henv]; exact hchr
      have tp' := tp.sub sub
      refine ⟨Tests.nil, fun _ => ?_⟩
      exact (B.bChr ok' tp' k2 (B.cons (B.local ok' k1 (.here _ _ _) (by decide)) B.nil (by walk_at "st")) (by walk_at "pl") (Calls.chr hbi.1 hbi.2)).h) hf
  rw [List.length_map] at h
  have e := range_filter ls 0 (fun _ => true) (fun i => PV.str [i.toNat])
  rw [e] at h
  have e2 : ls.filter (fun _ => true) = ls := List.filter_eq_self.mpr (by simp)
  rw [e2] at h
  rw [List.map_map]
  exact h
/-- [code - 32 for code in .. if code > 64] -/
theorem Ev.greatComp (ok : X.Ok k) {iter : Expr} {px pos p1 p2 p3 p4 p5 p6 : Pos} {k1 k2 : Nat} {scope : Scope} {ls : List Int} {depS : PSt → Prop} (hsrc : Src X iter st (ls.map .int) depS st₁)
    (hfree : (scope.names.all fun y => decide (y.2 ≠ .free)) = true) (hcell : (scope.names.all fun y => decide (y.2 ≠ .cell)) = true) (hkind : scope.kind = .function) (hnames : (scope.names.all fun y => decide (y.2 = .local → scope.names.lookup y.1 = some .local)) = true)
    (hx : scope.names.lookup ("code" : Str) = some .local) (hdep : ∀ loc o, depS ⟨loc, st₁.sto ++ [o]⟩) (hl : ls.length ≤ 1000) (hf : ∀ x, foldedSetIterable iter X.env x = pure x) :
    Ev X (.ListComp (.BinOp (.Name "code" p1) .Sub (.Constant (.int 32) k1 p2) p3) [⟨.Name "code" px, iter, [.Compare (.Name "code" p4) [.Gt] [.Constant (.int 64) k2 p5] p6], 0⟩] scope pos) st (.loc st₁.sto.length)
      ⟨st₁.loc, st₁.sto ++ [.list (((ls.filter fun i => decide (i > 64)).map fun i => i - 32).map .int)]⟩ := by
  have h := Ev.comp (px := px) (elt := .BinOp (.Name "code" p1) .Sub (.Constant (.int 32) k1 p2) p3) (ifs := [.Compare (.Name "code" p4) [.Gt] [.Constant (.int 64) k2 p5] p6]) (pos := pos) ok hsrc
    (fun y hy => of_decide_eq_true (List.all_eq_true.mp hfree y hy)) (fun y hy => of_decide_eq_true (List.all_eq_true.mp hcell y hy)) hkind (fun y hy => of_decide_eq_true (List.all_eq_true.mp hnames y hy)) hx hdep (by rw [List.length_map, sizeLine_eq]; grind)
    (fun i => decide (ls.getD i 0 > 64)) (fun i => .int (ls.getD i 0 - 32)) (fun X' ok' sub henv i item hi ys => by
      have hil : i < ls.length := by have := (List.getElem?_eq_some_iff.mp hi).1; simpa using this
      have hitem : item = .int (ls.getD i 0) := by
        rw [List.getElem?_map, List.getElem?_eq_getElem hil] at hi
        rw [List.getD_eq_getElem?_getD, List.getElem?_eq_getElem hil]
        exact (Option.some.inj hi).symm
      subst hitem
      have k1 : X'.env.kindOf "code" = some .local := by rw [henv]; exact hx
      refine ⟨Tests.one (Tst.cmp (Ev.local ok' k1 (.here _ _ _) (by decide)) Ev.int Op.gt_int rfl), fun _ => ?_⟩
      exact Ev.binop (Ev.local ok' k1 (.here _ _ _) (by decide)) Ev.int Op.sub_int) hf
  rw [List.length_map] at h
  have e := range_filter ls 0 (fun i => decide (i > 64)) (fun i => PV.int (i - 32))
  rw [e] at h
  rw [List.map_map]
  exact h

theorem ints_eqv : ∀ l : List Int, PyData.eqvAll (PV.datas (l.map PV.int)) (PV.datas (l.map PV.int)) = true
  | [] => by simp [PV.datas, PyData.eqvAll]
  | p :: r => by
    have ih := ints_eqv r
    simp only [List.map_cons, PV.datas, PyData.eqvAll, Bool.and_eq_true]
    refine ⟨?_, ih⟩
    simp [PV.data, PyData.eqv]
-- the words of the law
noncomputable def foldT (sp : List Nat) : List Nat := ((sp.filter fun c : Nat => !b1L.contains (c : Int)).map map3).flatten
noncomputable def bookL : List (List Nat × Int) := (List.range 48).map fun i => (opsT.getD i [], 7 + (i : Int))
noncomputable def bookF (l : List Nat) : Option Int := (bookL.find? fun p => decide (p.1 = l)).map (·.2)
theorem bookT_eq : bookT = bookL.map fun p => (p.1, PV.int p.2) := by rfl
theorem bookF_get (l : List Nat) : dget bookT l = (bookF l).map PV.int := by
  rw [bookT_eq]
  unfold dget bookF
  rw [List.find?_map, Option.map_map, Option.map_map]; rfl
noncomputable def greatT (due : List Int) : List Int := (due.filter fun i => decide (i > 64)).map fun i => i - 32
end


noncomputable def lS1 (sto : List PO) (is : List Int) : List PO := sto ++ [PO.list ((numsOf01 is).map .int)]
noncomputable def lS4 (sto : List PO) (is : List Int) (due : List Nat) : List PO := lS1 sto is ++ [PO.list (opsT.map .str)] ++ [PO.dictS bookT] ++ [rowI due]
noncomputable def intsN (l : List Nat) : List Int := l.map fun c : Nat => (c : Int)
theorem rowI_eq (l : List Nat) : rowI l = .list ((intsN l).map .int) := by simp [rowI, intsN, Function.comp_def]
noncomputable def lS7 (sto : List PO) (is : List Int) (due : List Nat) (d4 : List PV) : List PO := lS4 sto is due ++ [PO.list d4] ++ [PO.list ((greatT (intsN due)).map .int)] ++ [PO.list ((intsN due ++ greatT (intsN due)).map .int)]
theorem slcA (l : List PV) (h : l.length = 10) : slc l none (some 4) = l.take 4 := by simp [slc, clip, h]
theorem slcB (l : List PV) (h : l.length = 10) : slc l (some 4) none = l.drop 4 := by
  simp [slc, clip, h]; rw [List.take_of_length_le (by simp [h])]
theorem lS1_len (sto : List PO) (is : List Int) : (lS1 sto is).length = sto.length + 1 := by simp [lS1]
theorem lS4_len (sto : List PO) (is : List Int) (due : List Nat) : (lS4 sto is due).length = sto.length + 4 := by simp [lS4, lS1]
theorem lS7_len (sto : List PO) (is : List Int) (due : List Nat) (d4 : List PV) : (lS7 sto is due d4).length = sto.length + 7 := by simp [lS7, lS4_len]
theorem book_inS (k : Nat) : (PO.dictS bookT).inS k = true := by
  rw [bookT_eq]
  exact List.all_eq_true.mpr fun p hp => by obtain ⟨q, _, rfl⟩ := List.mem_map.mp hp; rfl
theorem lS1_cl {sto : List PO} (hcl : (sto.all (PO.inS sto.length)) = true) (is : List Int) : ((lS1 sto is).all (PO.inS (lS1 sto is).length)) = true := closed_ints hcl _
theorem lS4_cl {sto : List PO} (hcl : (sto.all (PO.inS sto.length)) = true) (is : List Int) (due : List Nat) : ((lS4 sto is due).all (PO.inS (lS4 sto is due).length)) = true := by
  unfold lS4
  refine closed_snoc (closed_snoc (closed_snoc (lS1_cl hcl is) (inAll_strs _ _)) (book_inS _)) ?_
  rw [rowI_eq]; exact inAll_ints _ _
theorem lS7_cl {sto : List PO} (hcl : (sto.all (PO.inS sto.length)) = true) (is : List Int) (due : List Nat) (ds : List Int) : ((lS7 sto is due (ds.map .int)).all (PO.inS (lS7 sto is due (ds.map .int)).length)) = true :=
  closed_snoc (closed_snoc (closed_snoc (lS4_cl hcl is due) (inAll_ints _ _)) (inAll_ints _ _)) (inAll_ints _ _)
theorem lS8_cl {sto : List PO} (hcl : (sto.all (PO.inS sto.length)) = true) (pool : List Int) (nums : List Nat) : ((rulesS sto pool nums).all (PO.inS (rulesS sto pool nums).length)) = true := by
  have e : rulesS sto pool nums = zHead sto (rdT sto.length 3) (gR pool nums 3).2 ++ [tupsPO (RF pool nums 258), tupsPO (RF pool nums 257), tupsPO (RF pool nums 256)] := by unfold rulesS; simp only [List.append_assoc]; rfl
  rw [e]
  refine zcl hcl ?_ ?_
  · intro o ho k
    simp only [List.mem_cons, List.not_mem_nil, or_false] at ho
    rcases ho with h | h | h <;> rw [h] <;> exact tupsPO_inS _ _
  · intro p hp
    obtain ⟨a, h1, h2⟩ := (rdT_mem sto.length 3).2 p hp
    rw [h1]; simp only [PV.inS, decide_eq_true_eq, List.length_cons, List.length_nil]; omega
theorem lS8_len (sto : List PO) (pool : List Int) (nums : List Nat) : (rulesS sto pool nums).length = sto.length + 6 := by simp [rulesS, zHead_len]
theorem rulesS_old {sto : List PO} {n : Nat} {o : PO} (h : At sto n o) (pool : List Int) (nums : List Nat) : At (rulesS sto pool nums) n o := .prev _ _ _ _ (.prev _ _ _ _ (.prev _ _ _ _ (.prev _ _ _ _ (.prev _ _ _ _ (.prev _ _ _ _ h)))))
theorem tab_book (X : Cx) (sto : List PO) (n : Nat) (h : At sto n (.dictS bookT)) : TabS X sto (.loc n) bookF := fun X' k loc more sub ok' => by
  have := Has.dictS (X := X') (st := ⟨loc, sto ++ more⟩) ok' (n := n) (ps := bookT) (by
    have := h.get
    show (sto ++ more)[n]? = _
    rw [List.getElem?_append_left (List.getElem?_eq_some_iff.mp this).1]; exact this)
  have e : dget bookT = fun l => (bookF l).map PV.int := funext bookF_get
  rw [e] at this; exact this
theorem bookF_bnd : ∀ p i, bookF p = some i → 0 ≤ i ∧ i ≤ 1114111 := by
  intro p i h
  unfold bookF at h
  obtain ⟨q, hq, rfl⟩ := Option.map_eq_some_iff.mp h
  have := List.mem_of_find?_eq_some hq
  obtain ⟨j, hj, rfl⟩ := List.mem_map.mp this
  have := List.mem_range.mp hj
  simp only; omega
section
variable {X X' : Cx} {st st₁ st₂ st₃ st' : PSt} {ad : Nat → Addr} {k : Nat}
theorem Ev.joinF (ok : X.Ok k) {flat : List Nat} {e : Expr} {x : Str} {apos p cp : Pos} {kc : Nat} {n : Nat} {ls : List (List Nat)} (hfl : ls.flatten = flat) (hx0 : x = T []) (h : Ev X e st (.loc n) st₁) (hp : st₁.sto[n]? = some (.list (ls.map .str))) (hl : ls.flatten.length ≤ 16777216)
    (he : ∀ env, starEach [e] env = (false, eval e env) :: starEach [] env) (hx : Plain [e]) (hline : (apos.endLine == p.line) = true)
    (hbase : attributeBase (.Constant (.str x) kc cp) "join" X.env (eval (.Constant (.str x) kc cp) X.env) = eval (.Constant (.str x) kc cp) X.env) :
    Ev X (.Call (.Attribute (.Constant (.str x) kc cp) "join" apos) [e] [] p) st (.str flat) st₁ := by
  subst hfl; exact Ev.joinE ok hx0 h hp hl he hx hline hbase
noncomputable abbrev lw1 (a₀ : Addr) : List (Str × PV) := [("script", .glob (.ref a₀))]
noncomputable abbrev lw2 (a₀ : Addr) (L : Nat) : List (Str × PV) := [("script", .glob (.ref a₀)), ("drawn", .loc L)]
noncomputable abbrev lw4 (a₀ : Addr) (L : Nat) (sp pl : List Nat) : List (Str × PV) := [("script", .glob (.ref a₀)), ("drawn", .loc L), ("spelled", .str sp), ("wanted", .str pl)]
noncomputable abbrev lw5 (a₀ : Addr) (L : Nat) (sp pl : List Nat) : List (Str × PV) := [("script", .glob (.ref a₀)), ("drawn", .loc L), ("spelled", .str sp), ("wanted", .str pl), ("due", .loc (L + 3))]
noncomputable abbrev lw6 (a₀ : Addr) (L : Nat) (sp pl : List Nat) : List (Str × PV) := [("script", .glob (.ref a₀)), ("drawn", .loc L), ("spelled", .str sp), ("wanted", .str pl), ("due", .loc (L + 3)), ("grammar", .loc (L + 7))]
noncomputable abbrev lw7 (a₀ : Addr) (L : Nat) (sp pl fo : List Nat) : List (Str × PV) := [("script", .glob (.ref a₀)), ("drawn", .loc L), ("spelled", .str sp), ("wanted", .str pl), ("due", .loc (L + 3)), ("grammar", .loc (L + 7)), ("folded", .str fo)]
noncomputable abbrev lw8 (a₀ : Addr) (L : Nat) (sp pl fo : List Nat) : List (Str × PV) := [("script", .glob (.ref a₀)), ("drawn", .loc L), ("spelled", .str sp), ("wanted", .str pl), ("due", .loc (L + 3)), ("grammar", .loc (L + 7)), ("folded", .str fo), ("got", .loc (L + 13))]
set_option maxHeartbeats 4000000 in
theorem head78 (ok : X.Ok (k + 4)) (tp : Top ad X.w X.K) (henv : X.env.scope = fnS 78) (sto : List PO) (hcl : (sto.all (PO.inS sto.length)) = true) (a₀ : Addr) (is : List Int) (hp : ListOf X.K a₀ is) (hl : is.length ≤ 63)
    (ns : List Nat) (hns : numsOf01 is = ns.map fun x : Nat => (x : Int)) (hnl : ns.length = 10) (sp pl due : List Nat) (hsp : tx1 (ns.take 4) 4 = (sp, pl)) (hdue : rowText bookF pl = due) (hpll : pl.length ≤ 1000) (hplc : ∀ c ∈ pl, c ≤ 1114111)
    {f : PFlow} {st' : PSt} (hrest : BExs X ((fnB 78).drop 3) ⟨lw5 a₀ sto.length sp pl, lS4 sto is due⟩ f st') : Exs X (fnB 78) ⟨lw1 a₀, sto⟩ f st' := by
  conv at hrest => arg 2; whnf
  conv => arg 2; whnf
  refine BExs.h (st' := st') ?_
  have hdl : ((numsOf01 is).map PV.int).length = 10 := by rw [hns]; simp [hnl]
  have aD : At (lS1 sto is) sto.length (.list ((numsOf01 is).map .int)) := .last _ _ _ rfl
  refine Q.s2 ⟨lw2 a₀ sto.length, lS1 sto is⟩ (A.assign (l₁ := lw1 a₀) ok ?_ (by boot_fast) (by by_place) rfl) ?_
  · refine' B.callF 67 ok tp ?b1 rfl ?b2 ?b3 ?b4 ?b5
    case b1 => boot_fast
    case b2 => decide
    case b3 => exact Q.c1 (by walk_at "nm") (by walk_at "st")
    case b4 => walk_at "pl"
    case b5 => exact c67 (k := k + 3) ok tp a₀ is hp hl hcl
  refine B.stepG (lS1 sto is) (l₁ := lw4 a₀ sto.length sp pl) (sto₁ := lS1 sto is ++ [PO.list (slc ((numsOf01 is).map .int) none (some 4))]) ?_ (by walk_at "pre") (by simp [PV.inS, lS1_len]) (lS1_cl hcl is) (Nat.le_refl _) ?_
  · apply B.assignTup (st₁ := ⟨lw2 a₀ sto.length, lS1 sto is ++ [PO.list (slc ((numsOf01 is).map .int) none (some 4))]⟩) (v := .tup [.str sp, .str pl])
    · refine' B.callF 70 ok tp ?d1 rfl ?d2 ?d3 ?d4 ?d5 (vs := [.loc (sto.length + 1)])
      case d1 => boot_fast
      case d2 => decide
      case d3 => exact B.cons (B.cast (a := .loc (lS1 sto is).length) (B.slice (by walk_at "nm") B.onone (B.osome B.int) .none (.int _) (Cut.listA aD (by rw [hdl, sizeLine_eq]; decide))) (by rw [lS1_len])) B.nil (by walk_at "st")
      case d4 => walk_at "pl"
      case d5 =>
        have h70 := c70 (k := k + 1) (st := ⟨lw2 a₀ sto.length, lS1 sto is ++ [PO.list (slc ((numsOf01 is).map .int) none (some 4))]⟩) ok tp (sto.length + 1) (ns.take 4) (by
          rw [slcA _ hdl, hns, List.map_map, ← List.map_take]
          exact (At.last _ _ _ (by rw [lS1_len])).get) (closed_snoc (lS1_cl hcl is) (by
            rw [slcA _ hdl, ← List.map_take]; exact inAll_ints _ _)) (by simp; omega)
        rw [show (ns.take 4).length = 4 by simp [hnl], hsp] at h70
        exact h70
    · exact As.tup2 ok (As.name ok (by boot_fast) (by by_place)) (As.name ok (by boot_fast) (by by_place)) rfl
    · rfl
    · rfl
  refine B.scons (st₁ := ⟨lw5 a₀ sto.length sp pl, lS4 sto is due⟩) (A.assign (l₁ := lw4 a₀ sto.length sp pl) ok ?_ (by boot_fast) (by by_place) rfl) hrest
  refine' B.callF 71 ok tp ?e1 rfl ?e2 ?e3 ?e4 ?e5 (vs := [.str pl, .loc (sto.length + 2)]) (st₁ := ⟨lw4 a₀ sto.length sp pl, lS1 sto is ++ [PO.list (opsT.map .str)] ++ [PO.dictS bookT]⟩)
  case e1 => boot_fast
  case e2 => decide
  case e3 =>
    refine B.cons (by walk_at "nm") (B.cons (B.callF0 69 ok tp (by boot_fast) rfl (by decide) ?_) B.nil (by walk_at "st")) (by walk_at "st")
    have h69 := c69 (k := k + 2) (st := ⟨lw4 a₀ sto.length sp pl, lS1 sto is⟩) ok tp (lS1_cl hcl is)
    dsimp only at h69
    rw [lS1_len] at h69
    exact h69
  case e4 => walk_at "pl"
  case e5 =>
    have h71 := c71 (k := k + 3) (st := ⟨lw4 a₀ sto.length sp pl, lS1 sto is ++ [PO.list (opsT.map .str)] ++ [PO.dictS bookT]⟩) ok tp pl (.loc (sto.length + 2)) bookF hpll (tab_book X _ _ (.last _ _ _ (by simp [lS1_len]))) hplc bookF_bnd
    rw [hdue] at h71
    have e : (lS1 sto is ++ [PO.list (opsT.map .str)] ++ [PO.dictS bookT]).length = sto.length + 3 := by simp [lS1_len]
    dsimp only at h71
    rw [e] at h71
    exact h71
end


noncomputable def lS8 (sto : List PO) (is : List Int) (due : List Nat) (d4 : List Nat) : List PO := rulesS (lS7 sto is due (d4.map fun x : Nat => PV.int (x : Int))) (intsN due ++ greatT (intsN due)) d4
theorem lS8_cl2 {sto : List PO} (hcl : (sto.all (PO.inS sto.length)) = true) (is : List Int) (due d4 : List Nat) : ((lS8 sto is due d4).all (PO.inS (lS8 sto is due d4).length)) = true := by
  have := lS7_cl hcl is due (intsN d4)
  rw [show (intsN d4).map PV.int = d4.map fun x : Nat => PV.int (x : Int) by simp [intsN, Function.comp_def]] at this
  exact lS8_cl this _ _
theorem lS8_len2 (sto : List PO) (is : List Int) (due d4 : List Nat) : (lS8 sto is due d4).length = sto.length + 13 := by unfold lS8; rw [lS8_len, lS7_len]
section
variable {X X' : Cx} {st st₁ st₂ st₃ st' : PSt} {ad : Nat → Addr} {k : Nat}
set_option maxHeartbeats 4000000 in
theorem gram78 (ok : X.Ok (k + 4)) (tp : Top ad X.w X.K) (henv : X.env.scope = fnS 78) (sto : List PO) (hcl : (sto.all (PO.inS sto.length)) = true) (a₀ : Addr) (is : List Int)
    (ns : List Nat) (hns : numsOf01 is = ns.map fun x : Nat => (x : Int)) (hnl : ns.length = 10) (sp pl due : List Nat) (hdl : due.length ≤ 20) (hdn : due ≠ [])
    {f : PFlow} {st' : PSt} (hrest : BExs X ((fnB 78).drop 4) ⟨lw6 a₀ sto.length sp pl, lS8 sto is due (ns.drop 4)⟩ f st') : BExs X ((fnB 78).drop 3) ⟨lw5 a₀ sto.length sp pl, lS4 sto is due⟩ f st' := by
  conv at hrest => arg 2; whnf
  conv => arg 2; whnf
  have hdl10 : ((numsOf01 is).map PV.int).length = 10 := by rw [hns]; simp [hnl]
  have h1 := lS1_len sto is
  have h4 := lS4_len sto is due
  have hg : (greatT (intsN due)).length ≤ due.length := by unfold greatT; rw [List.length_map]; exact Nat.le_trans (List.length_filter_le _ _) (by simp [intsN])
  have hi : (intsN due).length = due.length := by simp [intsN]
  have aD : At (lS4 sto is due) sto.length (.list ((numsOf01 is).map .int)) := .prev _ _ _ _ (.prev _ _ _ _ (.prev _ _ _ _ (.last _ _ _ rfl)))
  have aU : At (lS4 sto is due) (sto.length + 3) (.list ((intsN due).map .int)) := by rw [← rowI_eq]; exact .last _ _ _ (by simp [h1])
  have e4 : slc ((numsOf01 is).map PV.int) (some 4) none = (ns.drop 4).map fun x : Nat => PV.int (x : Int) := by
    rw [slcB _ hdl10, hns, List.map_map, List.map_drop]; rfl
  refine B.scons (st₁ := ⟨lw6 a₀ sto.length sp pl, lS8 sto is due (ns.drop 4)⟩) (A.assign (l₁ := lw5 a₀ sto.length sp pl) ok ?_ (by boot_fast) (by by_place) rfl) hrest
  refine' B.callF 72 ok tp ?e1 rfl ?e2 ?e3 ?e4 ?e5 (vs := [.loc (sto.length + 4), .loc (sto.length + 6)]) (st₁ := ⟨lw5 a₀ sto.length sp pl, lS7 sto is due ((ns.drop 4).map fun x : Nat => PV.int (x : Int))⟩)
  case e1 => boot_fast
  case e2 => decide
  case e3 =>
    refine B.cons (st₁ := ⟨lw5 a₀ sto.length sp pl, lS4 sto is due ++ [PO.list ((ns.drop 4).map fun x : Nat => PV.int (x : Int))]⟩) ?_ (B.cons ?_ B.nil (by walk_at "st")) (by walk_at "st")
    · refine B.cast (a := .loc (lS4 sto is due).length) ?_ (by rw [h4])
      have := Cut.listA (X := X) (st := ⟨lw5 a₀ sto.length sp pl, lS4 sto is due⟩) (lo := some 4) (hi := none) aD (by rw [hdl10, sizeLine_eq]; decide)
      rw [e4] at this
      exact B.slice (by walk_at "nm") (B.osome B.int) B.onone (.int _) .none this
    · refine B.cast (a := .loc (lS4 sto is due ++ [PO.list ((ns.drop 4).map fun x : Nat => PV.int (x : Int))] ++ [PO.list ((greatT (intsN due)).map .int)]).length) ?_ (by simp [h4])
      refine B.eto (st₁ := ⟨lw5 a₀ sto.length sp pl, lS4 sto is due ++ [PO.list ((ns.drop 4).map fun x : Nat => PV.int (x : Int))] ++ [PO.list ((greatT (intsN due)).map .int)] ++ [PO.list ((intsN due).map .int ++ (greatT (intsN due)).map .int)]⟩) ?_ (by unfold lS7; rw [List.map_append])
      refine B.binop (a := .loc (sto.length + 3)) (b := .loc (sto.length + 5)) (st₁ := ⟨lw5 a₀ sto.length sp pl, lS4 sto is due ++ [PO.list ((ns.drop 4).map fun x : Nat => PV.int (x : Int))]⟩) (st₂ := ⟨lw5 a₀ sto.length sp pl, lS4 sto is due ++ [PO.list ((ns.drop 4).map fun x : Nat => PV.int (x : Int))] ++ [PO.list ((greatT (intsN due)).map .int)]⟩) (by walk_at "nm") ?_ (Op.add_listA (.prev _ _ _ _ (.prev _ _ _ _ aU)) (.last _ _ _ (by simp [h4])) (by rw [sizeLine_eq]; simp only [List.length_map]; grind))
      refine B.cast (a := .loc (lS4 sto is due ++ [PO.list ((ns.drop 4).map fun x : Nat => PV.int (x : Int))]).length) (BEv.mk ?_) (by simp [h4])
      refine Ev.greatComp (st₁ := ⟨lw5 a₀ sto.length sp pl, lS4 sto is due ++ [PO.list ((ns.drop 4).map fun x : Nat => PV.int (x : Int))]⟩) ok (ls := intsN due) (depS := fun st => st.sto[sto.length + 3]? = some (.list ((intsN due).map PV.int))) (Src.of (pv := .loc (sto.length + 3)) ?_ (Iters.listA ok.hh (.prev _ _ _ _ aU))) ?_ ?_ ?_ ?_ ?_ ?_ (by grind) ?_
      · apply BEv.h
        walk_at "nm"
      · decide +kernel
      · decide +kernel
      · rfl
      · decide +kernel
      · decide +kernel
      · intro loc o; exact (At.prev _ _ _ _ (At.prev _ _ _ _ aU)).get
      · intro _; rfl
  case e4 => walk_at "pl"
  case e5 =>
    have h72 := c72 (k := k + 2) (st := ⟨lw5 a₀ sto.length sp pl, lS7 sto is due ((ns.drop 4).map fun x : Nat => PV.int (x : Int))⟩) ok tp (sto.length + 4) (sto.length + 6) (ns.drop 4) (intsN due ++ greatT (intsN due)) (by
        exact (At.prev _ _ _ _ (At.prev _ _ _ _ (At.last _ _ _ (by rw [h4])))).get) (by exact (At.last _ _ _ (by simp [h4])).get) (by
        have := lS7_cl hcl is due (intsN (ns.drop 4))
        rw [show (intsN (ns.drop 4)).map PV.int = (ns.drop 4).map fun x : Nat => PV.int (x : Int) by simp only [intsN, List.map_map]; rfl] at this
        exact this) (by rw [List.length_append]; grind) (by rw [List.length_append]; have : 0 < due.length := List.length_pos_iff.mpr hdn; grind) (by simp [hnl])
    dsimp only at h72
    rw [lS7_len] at h72
    exact h72
set_option maxHeartbeats 4000000 in
theorem fold78 (ok : X.Ok (k + 4)) (tp : Top ad X.w X.K) (henv : X.env.scope = fnS 78) (sto : List PO) (hcl : (sto.all (PO.inS sto.length)) = true) (a₀ : Addr) (is : List Int)
    (d4 : List Nat) (sp pl due : List Nat) (hspl : sp.length ≤ 1000) (hpll : pl.length ≤ 1000) (hplc : ∀ c ∈ pl, c ≤ 1114111) (hfold : foldT sp = pl) (hgot : rowText exF pl = due) (hexr : ∀ p i, exF p = some i → 0 ≤ i ∧ i ≤ 1114111)
    {f : PFlow} {st' : PSt} (hrest : BExs X ((fnB 78).drop 6) ⟨lw8 a₀ sto.length sp pl pl, lS8 sto is due d4 ++ [rowI due]⟩ f st') : BExs X ((fnB 78).drop 4) ⟨lw6 a₀ sto.length sp pl, lS8 sto is due d4⟩ f st' := by
  conv at hrest => arg 2; whnf
  conv => arg 2; whnf
  have hc8 := lS8_cl2 hcl is due d4
  have h8 := lS8_len2 sto is due d4
  refine B.stepG (lS8 sto is due d4) (l₁ := lw7 a₀ sto.length sp pl pl) (sto₁ := lS8 sto is due d4 ++ [PO.list (((sp.filter fun c : Nat => !b1L.contains (c : Int)).map map3).map .str)]) (A.assign (l₁ := lw6 a₀ sto.length sp pl) ok ?_ (by boot_fast) (by by_place) rfl) (by walk_at "pre") (by rw [h8]; simp [PV.inS]) hc8 (Nat.le_refl _) ?_
  · refine BEv.mk (v := .str pl) ?_
    refine' Ev.joinF (ls := (sp.filter fun c : Nat => !b1L.contains (c : Int)).map map3) (n := (lS8 sto is due d4).length) ok hfold ?j0 ?j1 ?j2 ?j3 ?j4 ?j5 ?j6 ?j7
    case j0 => rfl
    case j1 =>
      refine Ev.foldComp (st₁ := ⟨lw6 a₀ sto.length sp pl, lS8 sto is due d4⟩) ok tp (ls := sp) (depS := fun _ => True) (Src.of (pv := .str sp) ?_ (Iters.str ok.hh)) ?_ ?_ ?_ ?_ ?_ ?_ ?_ (fun _ _ => trivial) hspl ?_
      · apply BEv.h
        walk_at "nm"
      · decide +kernel
      · decide +kernel
      · rfl
      · decide +kernel
      · decide +kernel
      · decide +kernel
      · decide +kernel
      · intro _; rfl
    case j2 => simp
    case j3 =>
      have : ((sp.filter fun c : Nat => !b1L.contains (c : Int)).map map3).flatten = pl := hfold
      rw [this]; grind
    case j4 => walk_at "st"
    case j5 => walk_at "pl"
    case j6 => rfl
    case j7 => rfl
  obtain ⟨ea, heN, heH⟩ := ex_rule (X := X) (k := 0) (ok.less (Nat.zero_le _)) tp (kind_of henv (by decide +kernel))
  refine B.scons (st₁ := ⟨lw8 a₀ sto.length sp pl pl, lS8 sto is due d4 ++ [rowI due]⟩) (A.assign (l₁ := lw7 a₀ sto.length sp pl pl) ok ?_ (by boot_fast) (by by_place) rfl) hrest
  refine' B.callF 71 ok tp ?l1 rfl ?l2 ?l3 ?l4 ?l5 (vs := [.str pl, .glob (.ref ea)]) (st₁ := ⟨lw7 a₀ sto.length sp pl pl, lS8 sto is due d4⟩)
  case l1 => boot_fast
  case l2 => decide
  case l3 => exact Q.c2 (by walk_at "nm") ⟨heN _ _⟩ (by walk_at "st") (by walk_at "st")
  case l4 => walk_at "pl"
  case l5 =>
    have h71 := c71 (k := k + 3) (st := ⟨lw7 a₀ sto.length sp pl pl, lS8 sto is due d4⟩) ok tp pl (.glob (.ref ea)) exF hpll (fun X' k loc more sub ok' => heH X' sub (ok'.less (Nat.zero_le _)) _) hplc hexr
    rw [hgot] at h71
    dsimp only at h71
    rw [h8] at h71
    exact h71
end


noncomputable abbrev chPO (due : List Nat) : PO := .list (((intsN due).map fun i => [i.toNat]).map .str)
section
variable {X X' : Cx} {st st₁ st₂ st₃ st' : PSt} {ad : Nat → Addr} {k : Nat}
theorem lS8_due (sto : List PO) (is : List Int) (due d4 : List Nat) : At (lS8 sto is due d4) (sto.length + 3) (.list ((intsN due).map .int)) := by
  refine rulesS_old (.prev _ _ _ _ (.prev _ _ _ _ (.prev _ _ _ _ ?_))) _ _
  rw [← rowI_eq]; exact .last _ _ _ (by simp [lS1_len])
theorem lS8_rules (sto : List PO) (is : List Int) (due d4 : List Nat) : Rules (lS8 sto is due d4) (sto.length + 7) (RF (intsN due ++ greatT (intsN due)) d4) := by
  have := rulesS_rules (lS7 sto is due (d4.map fun x : Nat => PV.int (x : Int))) (intsN due ++ greatT (intsN due)) d4
  rw [lS7_len] at this; exact this
set_option maxHeartbeats 8000000 in
theorem end78 (ok : X.Ok (k + 4)) (tp : Top ad X.w X.K) (henv : X.env.scope = fnS 78) (sto : List PO) (hcl : (sto.all (PO.inS sto.length)) = true) (a₀ : Addr) (is : List Int)
    (d4 : List Nat) (sp pl due : List Nat) (hdl : due.length ≤ 20) (hdc : ∀ c ∈ due, c ≤ 1114111)
    (R : Int → List (List Int)) (hR : RF (intsN due ++ greatT (intsN due)) d4 = R) (N : Nat) (hgo : ∀ i, i < N → SOk R (sents R i)) (hstop : (sents R N).1 = [])
    (hRn : ∀ x : Int, 256 ≤ x → x ≤ 258 → R x ≠ []) (hRl : ∀ x : Int, 256 ≤ x → x ≤ 258 → (R x).length ≤ 3) (hRr : ∀ x : Int, 256 ≤ x → x ≤ 258 → ∀ q ∈ R x, q.length ≤ 1000)
    (hls : ∀ s ∈ (sents R N).2, s.length ≤ 1000) (hfin : nears due (sents R N).2 (sents R N).2.length = tabV (intsN due) R) :
    ∃ st', BExs X ((fnB 78).drop 6) ⟨lw8 a₀ sto.length sp pl pl, lS8 sto is due d4 ++ [rowI due]⟩ (.ret (.bool true)) st' := by
  refine ⟨⟨lw8 a₀ sto.length sp pl pl, lS8 sto is due d4 ++ [rowI due] ++ [chPO due] ++ [PO.list ((sents R N).2.map .str)]⟩, ?_⟩
  conv => arg 2; whnf
  have h8 := lS8_len2 sto is due d4
  have c8 := lS8_cl2 hcl is due d4
  have aU := lS8_due sto is due d4
  have hR8 := lS8_rules sto is due d4
  rw [hR] at hR8
  have c9 : ((lS8 sto is due d4 ++ [rowI due]).all (PO.inS (lS8 sto is due d4 ++ [rowI due]).length)) = true := closed_snoc c8 (by rw [rowI_eq]; exact inAll_ints _ _)
  have aG : At (lS8 sto is due d4 ++ [rowI due]) (sto.length + 13) (.list ((intsN due).map .int)) := by rw [← rowI_eq]; exact .last _ _ _ (by rw [h8])
  refine Q.s2 ⟨lw8 a₀ sto.length sp pl pl, lS8 sto is due d4 ++ [rowI due]⟩ (B.if_f (B.tcast (B.tcmp (by walk_at "nm") (by walk_at "nm") (Op.ne_list ok aG.get (At.prev _ _ _ _ aU).get (ints_flat _) (ints_flat _) (ints_lay _) (ints_lay _) (Nat.le_trans (ints_depth _) (by decide))) rfl) (by rw [ints_eqv]; rfl)) B.snil) ?_
  have hch : ∀ l : List Nat, ((intsN l).map fun i => [i.toNat]).flatten = l := by
    intro l
    unfold intsN
    rw [List.map_map]
    induction l with
    | nil => rfl
    | cons c r ih => simp only [List.map_cons, List.flatten_cons, Function.comp_apply, Int.toNat_natCast, ih]; rfl
  have hil : (intsN due).length = due.length := by simp [intsN]
  have hic : ∀ i ∈ intsN due, 0 ≤ i ∧ i ≤ 1114111 := by
    intro i hi
    obtain ⟨c, hc, rfl⟩ := List.mem_map.mp hi
    have := hdc c hc
    grind
  have c10 : ((lS8 sto is due d4 ++ [rowI due] ++ [chPO due]).all (PO.inS (lS8 sto is due d4 ++ [rowI due] ++ [chPO due]).length)) = true := closed_snoc c9 (inAll_strs _ _)
  have c11 : ((lS8 sto is due d4 ++ [rowI due] ++ [chPO due] ++ [PO.list ((sents R N).2.map .str)]).all (PO.inS (lS8 sto is due d4 ++ [rowI due] ++ [chPO due] ++ [PO.list ((sents R N).2.map .str)]).length)) = true := closed_snoc c10 (inAll_strs _ _)
  refine B.rets (B.ret (B.cast (a := .bool (nears due (sents R N).2 (sents R N).2.length == tabV (intsN due) R)) (B.cmp (st₁ := ⟨lw8 a₀ sto.length sp pl pl, lS8 sto is due d4 ++ [rowI due] ++ [chPO due] ++ [PO.list ((sents R N).2.map .str)]⟩) ?_ ?_ Op.eq_int rfl) (by rw [hfin]; simp)))
  · refine' B.callF 74 ok tp ?a1 rfl ?a2 ?a3 ?a4 ?a5 (vs := [.str due, .loc (sto.length + 15)]) (st₁ := ⟨lw8 a₀ sto.length sp pl pl, lS8 sto is due d4 ++ [rowI due] ++ [chPO due] ++ [PO.list ((sents R N).2.map .str)]⟩)
    case a1 => boot_fast
    case a2 => decide
    case a3 =>
      refine B.cons (st₁ := ⟨lw8 a₀ sto.length sp pl pl, lS8 sto is due d4 ++ [rowI due] ++ [chPO due]⟩) ?_ (B.cons ?_ B.nil (by walk_at "st")) (by walk_at "st")
      · refine BEv.mk (v := .str due) ?_
        refine' Ev.joinF (ls := (intsN due).map fun i => [i.toNat]) (n := (lS8 sto is due d4 ++ [rowI due]).length) ok (hch due) ?j0 ?j1 ?j2 ?j3 ?j4 ?j5 ?j6 ?j7
        case j0 => rfl
        case j1 =>
          refine Ev.chrComp (st₁ := ⟨lw8 a₀ sto.length sp pl pl, lS8 sto is due d4 ++ [rowI due]⟩) ok tp (ls := intsN due) (depS := fun st => st.sto[sto.length + 13]? = some (.list ((intsN due).map PV.int))) (Src.of (pv := .loc (sto.length + 13)) ?_ (Iters.listA ok.hh aG)) ?_ ?_ ?_ ?_ ?_ ?_ ?_ (by grind) hic ?_
          · apply BEv.h
            walk_at "nm"
          · decide +kernel
          · decide +kernel
          · rfl
          · decide +kernel
          · decide +kernel
          · decide +kernel
          · intro loc o; exact (At.prev _ _ _ _ aG).get
          · intro _; rfl
        case j2 => simp
        case j3 => rw [hch]; grind
        case j4 => walk_at "st"
        case j5 => walk_at "pl"
        case j6 => rfl
        case j7 => rfl
      · refine' B.callF 73 ok tp ?b1 rfl ?b2 ?b3 ?b4 ?b5 (vs := [.loc (sto.length + 7)]) (st₁ := ⟨lw8 a₀ sto.length sp pl pl, lS8 sto is due d4 ++ [rowI due] ++ [chPO due]⟩)
        case b1 => boot_fast
        case b2 => decide
        case b3 => exact Q.c1 (by walk_at "nm") (by walk_at "st")
        case b4 => walk_at "pl"
        case b5 =>
          have h73 := c73 (k := k + 1) (st := ⟨lw8 a₀ sto.length sp pl pl, lS8 sto is due d4 ++ [rowI due] ++ [chPO due]⟩) ok tp (sto.length + 7) R ((hR8.snoc _).snoc _) c10 N hgo hstop
          have e : (lS8 sto is due d4 ++ [rowI due] ++ [chPO due]).length = sto.length + 15 := by simp [h8]
          dsimp only at h73
          rw [e] at h73
          exact h73
    case a4 => walk_at "pl"
    case a5 =>
      exact c74 (k := k + 1) (st := ⟨lw8 a₀ sto.length sp pl pl, lS8 sto is due d4 ++ [rowI due] ++ [chPO due] ++ [PO.list ((sents R N).2.map .str)]⟩) ok tp due (sto.length + 15) (sents R N).2 (At.last _ _ _ (by simp [h8])).get c11 (by grind) hls
  · refine' B.callF 77 ok tp ?d1 rfl ?d2 ?d3 ?d4 ?d5 (vs := [.loc (sto.length + 3), .loc (sto.length + 7)]) (st₁ := ⟨lw8 a₀ sto.length sp pl pl, lS8 sto is due d4 ++ [rowI due] ++ [chPO due] ++ [PO.list ((sents R N).2.map .str)]⟩)
    case d1 => boot_fast
    case d2 => decide
    case d3 => exact Q.c2 (by walk_at "nm") (by walk_at "nm") (by walk_at "st") (by walk_at "st")
    case d4 => walk_at "pl"
    case d5 =>
      exact c77 (k := k) (st := ⟨lw8 a₀ sto.length sp pl pl, lS8 sto is due d4 ++ [rowI due] ++ [chPO due] ++ [PO.list ((sents R N).2.map .str)]⟩) ok tp (sto.length + 3) (sto.length + 7) (intsN due) R (At.prev _ _ _ _ (At.prev _ _ _ _ (At.prev _ _ _ _ aU))).get (((hR8.snoc _).snoc _).snoc _) c11 (by grind) hRn hRl hRr
end


section
variable {X X' : Cx} {st st₁ st₂ st₃ st' : PSt} {ad : Nat → Addr} {k : Nat}
theorem bodyLaw (ok : X.Ok (k + 4)) (tp : Top ad X.w X.K) (henv : X.env.scope = fnS 78) (sto : List PO) (hcl : (sto.all (PO.inS sto.length)) = true) (a₀ : Addr) (is : List Int) (hp : ListOf X.K a₀ is) (hl : is.length ≤ 63)
    (ns : List Nat) (hns : numsOf01 is = ns.map fun x : Nat => (x : Int)) (hnl : ns.length = 10) (sp pl due : List Nat) (hsp : tx1 (ns.take 4) 4 = (sp, pl)) (hdue : rowText bookF pl = due) (hspl : sp.length ≤ 1000) (hpll : pl.length ≤ 1000) (hplc : ∀ c ∈ pl, c ≤ 1114111)
    (hdl : due.length ≤ 20) (hdn : due ≠ []) (hdc : ∀ c ∈ due, c ≤ 1114111) (hfold : foldT sp = pl) (hex : ∀ p, exF p = bookF p)
    (R : Int → List (List Int)) (hR : RF (intsN due ++ greatT (intsN due)) (ns.drop 4) = R) (N : Nat) (hgo : ∀ i, i < N → SOk R (sents R i)) (hstop : (sents R N).1 = [])
    (hRn : ∀ x : Int, 256 ≤ x → x ≤ 258 → R x ≠ []) (hRl : ∀ x : Int, 256 ≤ x → x ≤ 258 → (R x).length ≤ 3) (hRr : ∀ x : Int, 256 ≤ x → x ≤ 258 → ∀ q ∈ R x, q.length ≤ 1000)
    (hls : ∀ s ∈ (sents R N).2, s.length ≤ 1000) (hfin : nears due (sents R N).2 (sents R N).2.length = tabV (intsN due) R) :
    ∃ st', Exs X (fnB 78) ⟨[("script", .glob (.ref a₀))], sto⟩ (.ret (.bool true)) st' := by
  have he : exF = bookF := funext hex
  obtain ⟨st', h⟩ := end78 ok tp henv sto hcl a₀ is (ns.drop 4) sp pl due hdl hdc R hR N hgo hstop hRn hRl hRr hls hfin
  refine ⟨st', head78 ok tp henv sto hcl a₀ is hp hl ns hns hnl sp pl due hsp hdue hpll hplc ?_⟩
  refine gram78 ok tp henv sto hcl a₀ is ns hns hnl sp pl due hdl hdn ?_
  exact fold78 ok tp henv sto hcl a₀ is (ns.drop 4) sp pl due hspl hpll hplc hfold (by rw [he]; exact hdue) (by rw [he]; exact bookF_bnd) h
end

open PySem PySem.W PySem.Calls PyProof.Rows


theorem enterW {w : World} {K : Frag} {s : Shared} {name : Str} {params : Arguments} {body : List Stmt} {scope : Scope} {fa : Addr} {o : Obj} {pm cd doc dV kV : Value} {ns : List Str} {vals : List Value} {pvs : List PV} {b : Bool} {k : Nat} (hkk : k ≤ 100)
    (hkin : K.In s.heap) (hnl : s.heap.NoLimit) (hmods : ∃ o, s.heap.get? sysModules = some o) (ho : s.heap.get? fa = some o) (hd : o.data = .func { docDef name params body scope pm cd doc with defaults := dV, kwdefaults := kV })
    (hcd : s.heap.CodeRec cd name) (hb : BindsTo s { docDef name params body scope pm cd doc with defaults := dV, kwdefaults := kV } { pos := vals } (ns.zip vals)) (hv : VRs ⟨[], []⟩ vals pvs) (hlen : pvs.length = ns.length)
    (hloc : ∀ y ∈ ns, scope.names.lookup y = some .local) (hcell : ∀ x ∈ scope.names, x.2 ≠ .cell) (hco : scope.isCoroutine = false) (hgen : scope.isGenerator = false) (hk : scope.kind = .function)
    (hbody : ∀ X' : Cx, X'.Ok k → X'.w = w → X'.K = K → X'.env.scope = scope → ∃ st', Exs X' body ⟨(ns.zip pvs).reverse, []⟩ (.ret (.bool b)) st') :
    wpAny (model P1 w) callerA (PySem.call (.ref fa) vals) (fun v s' => v = .bool b ∧ (∃ m, Fr s.heap s.heap.objs.size s'.heap m) ∧ Same s s') (fun _ _ => False) s := by
  refine wpAny_call ?_
  have hlen' : vals.length = ns.length := hv.length.trans hlen
  refine call_fullW (by decide +kernel) ho hd hnl hcd hb (fun y hy => hloc _ (List.of_mem_zip hy).1) (fun h₁ F => ?_) hco hgen hk hcell
  let X' : Cx := ⟨P1, w, K, callerA.deeper (envOf name scope s.heap.objs.size fa cd), s.heap, s.heap.objs.size, envOf name scope s.heap.objs.size fa cd, Pin.triv⟩
  have hd : callerA.depth + 1 + 100 < 900 := by decide +kernel
  have hu : callerA.units + 3 + 8 * 100 + 100 < cLine := by decide +kernel
  have ok' : X'.Ok k := ⟨rfl, by show callerA.depth + 1 + k < 900; omega, by show callerA.units + 3 + 8 * k + 100 < cLine; omega, hkin, hnl, rfl, hk, rfl, rfl, hmods⟩
  obtain ⟨st', hw⟩ := hbody X' ok' rfl rfl rfl
  have G' : Good X' ⟨[], []⟩ ⟨(ns.zip pvs).reverse, []⟩ { s with heap := h₁, toks := s.toks + (ns.zip vals).length } (fun x => (ns.zip vals).reverse.lookup x) [] :=
    ⟨F, fun x v e => (zip_lookup x ns hv).1 v e, fun p hp => (by cases hp), (by constructor), rfl, List.nodup_nil, trivial⟩
  refine wpAny_mono (hw _ _ ⟨_, _, G'⟩) (fun fl s' hl => ?_) fun _ _ x => x.elim
  obtain ⟨μ', le, hr, ⟨m', objs', G₂⟩, sm⟩ := hl
  cases hr with
  | ret v' x hv =>
    cases hv with
    | bool => exact ⟨rfl, ⟨_, G₂.fr⟩, sm⟩
theorem VRs.ints {μ : Mem} : ∀ {vs : List Value} {is : List Int}, IntsAre vs is → VRs μ vs (is.map PV.int)
  | _, _, .nil => .nil
  | _, _, .cons n t r => by
    rw [List.map_cons]
    constructor
    · exact .int n t
    · exact VRs.ints r
theorem kin_snoc {K : Frag} {h : Heap} {a : Addr} {o : Obj} (hk : K.In h) (ho : h.get? a = some o) : (K ++ [(a, o)]).In h ∧ (K ++ [(a, o)]).lookup a = some o := by
  have hl : ∀ b, (K ++ [(a, o)]).lookup b = (K.lookup b).or (if b == a then some o else none) := fun b => by
    rw [List.lookup_append, List.lookup_cons, List.lookup_nil]
    cases b == a <;> rfl
  refine ⟨fun b p e => ?_, ?_⟩
  · rw [hl] at e
    cases q : K.lookup b with
    | some x => rw [q] at e; cases e; exact hk _ _ q
    | none =>
      rw [q] at e
      cases r : b == a with
      | true => rw [r] at e; cases e; rw [eq_of_beq r]; exact ho
      | false => rw [r] at e; cases e
  · rw [hl]
    cases q : K.lookup a with
    | some x => have := hk _ _ q; rw [ho] at this; cases this; rfl
    | none => simp


theorem law_walk {w : World} {s : Shared} {fa a : Addr} {vs : List Value} {is : List Int} {o : Obj} {pm cd doc kV : Value} (hkin : (KF w.params).In s.heap) (hnl : s.heap.NoLimit) (ho : s.heap.get? fa = some o)
    (hd : o.data = .func { docDef "law" (fnP 78) (fnB 78) (fnS 78) pm cd doc with defaults := .none, kwdefaults := kV }) (hcd : s.heap.CodeRec cd "law")
    (hL : s.heap.IsList a vs.toArray) (hI : IntsAre vs is) (hl : is.length ≤ 63)
    (hbody : ∀ X' : Cx, X'.Ok 50 → ∀ e, X'.K = KF w.params ++ [e] → Top adF X'.w X'.K → ListOf X'.K a is → X'.env.scope = fnS 78 → ∃ st', Exs X' (fnB 78) ⟨[("script", .glob (.ref a))], []⟩ (.ret (.bool true)) st') :
    wpAny (model P1 w) callerA (PySem.call (.ref fa) [.ref a]) (fun v s' => v = .bool true ∧ (∃ m, Fr s.heap s.heap.objs.size s'.heap m) ∧ Same s s') (fun _ _ => False) s := by
  obtain ⟨ol, h1, h2, n, h3⟩ := hL
  obtain ⟨k1, k2⟩ := kin_snoc hkin h1
  refine enterW (name := "law") (params := fnP 78) (body := fnB 78) (scope := fnS 78) (k := 50) (K := KF w.params ++ [(a, ol)]) (ns := ["script"]) (pvs := [.glob (.ref a)]) (by decide) k1 hnl ⟨boot_o_1 w.params, hkin 1 (boot_o_1 w.params) (by kernel_rfl)⟩ ho hd hcd (BindsTo.of_eq ?_) ?_ rfl ?_ ?_ rfl rfl rfl ?_
  · with_unfolding_all rfl
  · exact .cons _ _ _ _ (.glob _) .nil
  · intro y hy; cases hy with | head => decide +kernel | tail _ h => cases h
  · have : ((fnS 78).names.all fun x => decide (x.2 ≠ .cell)) = true := by decide +kernel
    exact fun x hx => of_decide_eq_true (List.all_eq_true.mp this x hx)
  · intro X' ok hw hK hs
    refine hbody X' ok (a, ol) hK (by rw [hK, hw]; exact top w _) ⟨ol, vs, by rw [hK]; exact k2, fun h hh => ⟨ol, hh, h2, n, h3⟩, fun μ => VRs.ints hI⟩ hs


theorem said1 : PySem.W.OpenLaw.wellSaid PySem.Challenge.rw_rs0227_01 = true := by kernel_rfl
theorem cw1 (plain : ∀ (w : World) (a : Addr) (is : List Int), is.length ≤ 63 → ∀ X' : Cx, X'.Ok 50 → ∀ e, X'.K = KF w.params ++ [e] → Top adF X'.w X'.K → ListOf X'.K a is → X'.env.scope = fnS 78 → ∃ st', Exs X' (fnB 78) ⟨[("script", .glob (.ref a))], []⟩ (.ret (.bool true)) st') : PySem.Challenge.rw_rs0227_01.Holds := by
  w_on
  refine holds_law said1 fun said => ?_
  refine holds_open (q := q2) (loose := loose2) (Xt := Xt2) (XP := fun _ _ => True) (Yf := (kHook KF KAs KAs_eq).obs) (Ya := (kHook KF KAs KAs_eq).val) (YP := (kHook KF KAs KAs_eq).says) (N := 600000) left (Hook.of _) (Hook.keeps _) (fun s e => trivial) (fun _ _ _ _ _ => trivial) (by rfl) (by rfl) (by rfl) (fun s e => recFacts_of e) (by rfl) (by first | assumption | decide +kernel) (by decide +kernel) ⟨rfl, rfl, rfl, rfl, rfl, by decide +kernel⟩ ?hw ?hc
  case hw => w_witness2
  case hc =>
    intro w s₀ s₁ mg mb G Y fa o pm cd doc dV kV ho hd hcd hD hmg hg args vals as hpre hlay hrd hwl hlo
    have he := Dflts.none hD rfl
    subst he
    have hkin := kIn_of Y
    refine Ground.open G ?_
    intro T B D TE TW
    have hnl := Top.nolimit T
    wrow_args hpre hlay hrd hwl hlo
    rename_i hL _ _ _ hI _ hlen _
    refine wpAny_mono (law_walk hkin hnl ho hd hcd hL hI (by omega) (plain w _ _ (by omega))) (fun v s' hv => ?_) (fun _ _ x => x.elim)
    obtain ⟨rfl, ⟨m, F⟩, sm⟩ := hv
    exact (goodW_bool F (by rw [sm]; exact hg) (by intro cls; rfl) (by wrow_post) (by rw [sm])).toG

-- law 01, the plain law: the numbers and the text
theorem nst_nat (xs : List Int) : ∀ i, ∃ ns : List Nat, nst xs i = ns.map (fun x : Nat => (x : Int)) ∧ ns.length = 10
  | 0 => ⟨[1, 19, 63, 68, 17, 62, 90, 5, 6, 98], rfl, rfl⟩
  | i + 1 => by
    obtain ⟨ns, h, hl⟩ := nst_nat xs i
    refine ⟨ns.set (i % 10) (ns.getD (i % 10) 0 + ((xs.getD i 0).fmod 1000000).toNat), ?_, by simp [hl]⟩
    have h0 : 0 ≤ (xs.getD i 0).fmod 1000000 := Int.fmod_nonneg_of_pos _ (by decide)
    have hi : i % 10 < ns.length := by rw [hl]; exact Nat.mod_lt _ (by decide)
    rw [nst, h, List.map_set]
    congr 1
    rw [Int.natCast_add, Int.toNat_of_nonneg h0]
    congr 1
    simp [List.getD_eq_getElem?_getD, List.getElem?_eq_getElem hi]
theorem nums_nat (is : List Int) : ∃ ns : List Nat, numsOf01 is = ns.map (fun x : Nat => (x : Int)) ∧ ns.length = 10 := nst_nat _ _
theorem hide_mem (x : Nat) : b1L.contains ((hideN x : Nat) : Int) = true := by
  have : ∀ j, j < 27 → b1L.contains (((b1L.getD j 0).toNat : Nat) : Int) = true := by decide +kernel
  exact this _ (Nat.mod_lt _ (by decide))
theorem foldT_app (a b : List Nat) : foldT (a ++ b) = foldT a ++ foldT b := by simp [foldT]
theorem fold_shown (h : Nat) (hh : b1L.contains ((h : Nat) : Int) = true) (l : List Nat) (hl : ∀ c ∈ l, b1L.contains ((c : Nat) : Int) = false) : foldT (l.flatMap fun c => [c, h]) = (l.map map3).flatten := by
  induction l with
  | nil => rfl
  | cons c r ih =>
    have h1 := hl c (.head _)
    have ih := ih fun c hc => hl c (.tail _ hc)
    rw [List.flatMap_cons, foldT_app, ih, List.map_cons, List.flatten_cons]
    congr 1
    simp only [foldT, List.filter_cons, h1, hh, List.filter_nil, Bool.not_true, Bool.not_false, Bool.false_eq_true, if_true, if_false, List.map_cons, List.map_nil, List.flatten_cons, List.flatten_nil, List.append_nil]
-- what is shown, by its few numbers
noncomputable def shL (a f : Nat) : Nat := if f = 0 then 97 + a else if f = 1 then 65 + a else 119808 + 52 * (offsL.getD (f - 2) 0).toNat + a
noncomputable def okSh (s m : List Nat) : Bool := (s.all fun c => !b1L.contains ((c : Nat) : Int)) && decide ((s.map map3).flatten = m)
theorem b3_ge : (b3L.all fun q => decide (181 ≤ q.1)) = true := by decide +kernel
theorem b3_low (c : Nat) (h : c < 181) : b3F c = none := by
  unfold b3F
  have : ∀ L : List (Int × List Nat), (L.all fun q => decide (181 ≤ q.1)) = true → L.lookup (c : Int) = none := by
    intro L
    induction L with
    | nil => intro _; rfl
    | cons q r ih =>
      intro hq
      simp only [List.all_cons, Bool.and_eq_true, decide_eq_true_eq] at hq
      obtain ⟨q1, q2⟩ := q
      rw [List.lookup_cons]
      have : ((c : Int) == q1) = false := by
        rw [beq_eq_false_iff_ne]; intro e; dsimp only at hq; grind
      rw [this]; exact ih hq.2
  exact this _ b3_ge
noncomputable def loC (c : Nat) : Nat := if 65 ≤ c ∧ c ≤ 90 then c + 32 else c
theorem lw_lows : ((List.range 128).all fun c => decide (lw c = [loC c])) = true := by decide +kernel
theorem lw_low (c : Nat) (h : c < 128) : lw c = [loC c] := of_decide_eq_true (List.all_eq_true.mp lw_lows c (List.mem_range.mpr h))
theorem map3_low (c : Nat) (h : c < 128) : map3 c = [loC c] := by unfold map3; rw [b3_low c (by grind), Option.getD_none, lw_low c h]
-- the table of B.3 climbs
noncomputable def ascB : List (Int × List Nat) → Bool
  | a :: b :: r => decide (a.1 < b.1) && ascB (b :: r)
  | _ => true
theorem asc_lt : ∀ (q : Int × List Nat) (L : List (Int × List Nat)), ascB (q :: L) = true → ascB L = true ∧ ∀ e ∈ L, q.1 < e.1
  | q, [], _ => ⟨rfl, fun e h => (List.not_mem_nil h).elim⟩
  | q, b :: r, h => by
    unfold ascB at h
    rw [Bool.and_eq_true, decide_eq_true_eq] at h
    obtain ⟨_, ih⟩ := asc_lt b r h.2
    refine ⟨h.2, fun e he => ?_⟩
    rcases List.mem_cons.mp he with rfl | he
    · exact h.1
    · exact Int.lt_trans h.1 (ih e he)
theorem asc_lookup : ∀ (L : List (Int × List Nat)), ascB L = true → ∀ p l, (p, l) ∈ L → L.lookup p = some l
  | [], _, p, l, h => (List.not_mem_nil h).elim
  | q :: r, ha, p, l, h => by
    obtain ⟨h1, h2⟩ := asc_lt q r ha
    rcases List.mem_cons.mp h with e | e
    · rw [← e]; simp
    · obtain ⟨q1, q2⟩ := q
      have := h2 _ e
      rw [List.lookup_cons]
      have : (p == q1) = false := by rw [beq_eq_false_iff_ne]; intro e; dsimp only at this; grind
      rw [this]; exact asc_lookup r h1 p l e
theorem b3_asc : ascB b3L = true := by decide +kernel
noncomputable def subB : List (Int × List Nat) → List (Int × List Nat) → Bool
  | [], _ => true
  | _ :: _, [] => false
  | e :: es, q :: qs => if e.1 = q.1 then decide (e.2 = q.2) && subB es qs else subB (e :: es) qs
theorem subB_mem : ∀ (L E : List (Int × List Nat)), subB E L = true → ∀ e ∈ E, e ∈ L
  | [], [], _, e, h => (List.not_mem_nil h).elim
  | [], _ :: _, h, e, _ => by cases h
  | q :: qs, [], _, e, h => (List.not_mem_nil h).elim
  | q :: qs, x :: es, h, e, he => by
    unfold subB at h
    split at h
    · rename_i hk
      rw [Bool.and_eq_true, decide_eq_true_eq] at h
      rcases List.mem_cons.mp he with rfl | he
      · have : e = q := Prod.ext hk h.1
        rw [this]; exact .head _
      · exact .tail _ (subB_mem qs es h.2 e he)
    · exact .tail _ (subB_mem qs (x :: es) h e he)
noncomputable def expE : List (Int × List Nat) := ((List.range 7).map fun j => (((64256 + j : Nat) : Int), headT.getD j [])) ++ ((List.range 10).map fun f => (List.range 26).map fun a => (((119808 + 52 * (offsL.getD f 0).toNat + a : Nat) : Int), [97 + a])).flatten
theorem exp_sub : subB expE b3L = true := by decide +kernel
theorem exp_b3 (c : Nat) (l : List Nat) (h : ((c : Int), l) ∈ expE) : map3 c = l := by
  have : b3F c = some l := asc_lookup _ b3_asc _ _ (subB_mem _ _ exp_sub _ h)
  unfold map3; rw [this]; rfl
theorem notb1 (c : Nat) (h : c < 173 ∨ 65280 ≤ c ∨ (64000 ≤ c ∧ c < 65000)) : b1L.contains ((c : Nat) : Int) = false := by
  have hb : (b1L.all fun i => (decide (173 ≤ i) && decide (i < 64000)) || (decide (65000 ≤ i) && decide (i < 65280))) = true := by decide +kernel
  cases e : b1L.contains ((c : Nat) : Int) with
  | false => rfl
  | true =>
    have := List.all_eq_true.mp hb _ (List.contains_iff_mem.mp e)
    simp only [Bool.or_eq_true, Bool.and_eq_true, decide_eq_true_eq] at this
    omega
theorem ok_one (c : Nat) (m : List Nat) (hb : b1L.contains ((c : Nat) : Int) = false) (hm : map3 c = m) : okSh [c] m = true := by
  unfold okSh
  simp only [List.all_cons, List.all_nil, hb, hm, List.map_cons, List.map_nil, List.flatten_cons, List.flatten_nil, List.append_nil, decide_true, Bool.not_false, Bool.and_self]
theorem head_ok : ∀ j, j < 7 → okSh [64256 + j] (headT.getD j []) = true := fun j hj =>
  ok_one _ _ (notb1 _ (by grind)) (exp_b3 _ _ (List.mem_append_left _ (List.mem_map.mpr ⟨j, List.mem_range.mpr hj, rfl⟩)))
theorem ok_low : ∀ l : List Nat, (∀ c ∈ l, c < 128 ∧ loC c = c) → okSh l l = true := by
  intro l h
  unfold okSh
  rw [Bool.and_eq_true, decide_eq_true_eq]
  refine ⟨List.all_eq_true.mpr fun c hc => by rw [notb1 c (by have := (h c hc).1; grind)]; rfl, ?_⟩
  induction l with
  | nil => rfl
  | cons c r ih =>
    obtain ⟨h1, h2⟩ := h c (.head _)
    rw [List.map_cons, List.flatten_cons, map3_low c h1, h2, ih fun x hx => h x (.tail _ hx)]; rfl
theorem ops_low : (opsT.all fun l => l.all fun c => decide (c < 128) && decide (loC c = c)) = true := by decide +kernel
theorem ops_ok : ∀ l ∈ opsT, okSh l l = true := fun l hl => ok_low l fun c hc => by
  have := List.all_eq_true.mp (List.all_eq_true.mp ops_low l hl) c hc
  simpa only [Bool.and_eq_true, decide_eq_true_eq] using this
theorem let_ok (f a : Nat) (hf : f < 12) (ha : a < 26) : okSh [shL a f] [97 + a] = true := by
  unfold shL
  split
  · exact ok_one _ _ (notb1 _ (by grind)) (by rw [map3_low _ (by grind)]; unfold loC; rw [if_neg (by grind)])
  · split
    · exact ok_one _ _ (notb1 _ (by grind)) (by rw [map3_low _ (by grind)]; unfold loC; rw [if_pos (by grind)]; congr 1; grind)
    · exact ok_one _ _ (notb1 _ (by grind)) (exp_b3 _ _ (List.mem_append_right _ (List.mem_flatten.mpr ⟨_, List.mem_map.mpr ⟨f - 2, List.mem_range.mpr (by omega), rfl⟩, List.mem_map.mpr ⟨a, List.mem_range.mpr ha, rfl⟩⟩)))
theorem shown_ok (i x : Nat) : okSh (shown1 i x) (means1 i x) = true := by
  unfold shown1 means1
  split
  · exact head_ok _ (Nat.mod_lt _ (by decide))
  · split
    · have hj : x / 2 % 48 < opsT.length := Nat.mod_lt _ (by decide)
      rw [List.getD_eq_getElem?_getD, List.getElem?_eq_getElem hj]
      exact ops_ok _ (List.getElem_mem hj)
    · have h := let_ok (x / 2 / 26 % 12) (x / 2 % 26) (Nat.mod_lt _ (by decide)) (Nat.mod_lt _ (by decide))
      unfold shL at h
      split
      · rename_i e; rw [if_pos e] at h; exact h
      · rename_i e
        rw [if_neg e] at h
        split
        · rename_i e1; rw [if_pos e1] at h; exact h
        · rename_i e1; rw [if_neg e1] at h; exact h
theorem fold_step (s : List Nat × List Nat) (i x : Nat) (h : foldT s.1 = s.2) : foldT (tx1Step s i x).1 = (tx1Step s i x).2 := by
  have hs := shown_ok i x
  unfold okSh at hs
  rw [Bool.and_eq_true] at hs
  show foldT (s.1 ++ _) = s.2 ++ means1 i x
  rw [foldT_app, h, fold_shown (hideN x) (hide_mem x) _ (fun c hc => by simpa using List.all_eq_true.mp hs.1 c hc), of_decide_eq_true hs.2]
theorem fold_tx1 (ns : List Nat) : ∀ i, foldT (tx1 ns i).1 = (tx1 ns i).2
  | 0 => rfl
  | i + 1 => fold_step _ _ _ (fold_tx1 ns i)
-- the letters and the operators' signs
noncomputable def isLet (c : Nat) : Bool := decide (97 ≤ c) && decide (c ≤ 122)
noncomputable def signs : List Nat := opsT.flatten
noncomputable def inAl (c : Nat) : Bool := isLet c || signs.contains c
theorem head_al : (headT.all fun l => l.all inAl && decide (l.length ≤ 3) && !l.isEmpty) = true := by decide +kernel
theorem ops_al : (opsT.all fun l => l.all inAl && decide (l.length ≤ 3) && !l.isEmpty) = true := by decide +kernel
theorem means_al (i x : Nat) : ((means1 i x).all inAl && decide ((means1 i x).length ≤ 3) && !(means1 i x).isEmpty) = true := by
  unfold means1
  split
  · have hj : x % 7 < headT.length := Nat.mod_lt _ (by decide)
    rw [List.getD_eq_getElem?_getD, List.getElem?_eq_getElem hj]
    exact List.all_eq_true.mp head_al _ (List.getElem_mem hj)
  · split
    · have hj : x / 2 % 48 < opsT.length := Nat.mod_lt _ (by decide)
      rw [List.getD_eq_getElem?_getD, List.getElem?_eq_getElem hj]
      exact List.all_eq_true.mp ops_al _ (List.getElem_mem hj)
    · have : x / 2 % 26 < 26 := Nat.mod_lt _ (by decide)
      have h : inAl (97 + x / 2 % 26) = true := by
        unfold inAl isLet
        rw [Bool.or_eq_true, Bool.and_eq_true]
        left; exact ⟨by simp, by simp; grind⟩
      simp [h]
theorem shown_len (i x : Nat) : (shown1 i x).length ≤ 3 := by
  unfold shown1
  split
  · simp
  · split
    · have hj : x / 2 % 48 < opsT.length := Nat.mod_lt _ (by decide)
      have h := List.all_eq_true.mp ops_al _ (List.getElem_mem hj)
      simp only [Bool.and_eq_true, decide_eq_true_eq] at h
      rw [List.getD_eq_getElem?_getD, List.getElem?_eq_getElem hj]
      exact h.1.2
    · split <;> (try split) <;> simp
theorem pairs_len (l : List Nat) (h : Nat) : (l.flatMap fun c => [c, h]).length = 2 * l.length := by
  induction l with
  | nil => rfl
  | cons x l ih => rw [List.flatMap_cons, List.length_append, ih]; simp only [List.length_cons, List.length_nil]; grind
theorem tx1_facts (ns : List Nat) : ∀ i, (tx1 ns i).1.length ≤ 6 * i ∧ (tx1 ns i).2.length ≤ 3 * i ∧ (∀ c ∈ (tx1 ns i).2, inAl c = true) ∧ (0 < i → (tx1 ns i).2 ≠ [])
  | 0 => ⟨Nat.le_refl _, Nat.le_refl _, fun c h => (List.not_mem_nil h).elim, fun h => absurd h (Nat.lt_irrefl 0)⟩
  | i + 1 => by
    obtain ⟨h1, h2, h3, _⟩ := tx1_facts ns i
    have hs := shown_len i (ns.getD i 0)
    have hm := means_al i (ns.getD i 0)
    simp only [Bool.and_eq_true, decide_eq_true_eq, Bool.not_eq_true', List.isEmpty_eq_false_iff] at hm
    obtain ⟨⟨ha, hb⟩, hc⟩ := hm
    simp only [tx1, tx1Step, List.length_append, pairs_len]
    refine ⟨by grind, by grind, fun c hc => ?_, fun _ e => hc (List.append_eq_nil_iff.mp e).2⟩
    rcases List.mem_append.mp hc with e | e
    · exact h3 c e
    · exact List.all_eq_true.mp ha c e
theorem al_le : ∀ c, inAl c = true → c ≤ 126 := by
  have h : (signs.all fun c => decide (c ≤ 126)) = true := by decide +kernel
  intro c hc
  unfold inAl isLet at hc
  rw [Bool.or_eq_true, Bool.and_eq_true, decide_eq_true_eq, decide_eq_true_eq] at hc
  rcases hc with e | e
  · grind
  · exact of_decide_eq_true (List.all_eq_true.mp h c (List.contains_iff_mem.mp e))

-- law 01, the plain law: the symbols' row
theorem ex_book : (exL.all fun q => decide (bookF q.1 = some q.2)) = true := by decide +kernel
theorem book_ex : (bookL.all fun q => decide (exF q.1 = some q.2)) = true := by decide +kernel
theorem book_mem (p : List Nat) (i : Int) (h : bookF p = some i) : (p, i) ∈ bookL := by
  unfold bookF at h
  obtain ⟨q, hq, rfl⟩ := Option.map_eq_some_iff.mp h
  have h1 := List.mem_of_find?_eq_some hq
  have h2 := List.find?_some hq
  rw [← of_decide_eq_true h2]; exact h1
theorem ex_eq (p : List Nat) : exF p = bookF p := by
  cases h : exF p with
  | some i => exact (of_decide_eq_true (List.all_eq_true.mp ex_book _ (lkp_mem exL p i h))).symm
  | none =>
    cases g : bookF p with
    | none => rfl
    | some i => rw [of_decide_eq_true (List.all_eq_true.mp book_ex _ (book_mem p i g))] at h; cases h
/-- a code of the row: an operator's number or a small letter -/
noncomputable def CodeOk (c : Nat) : Prop := (7 ≤ c ∧ c ≤ 54) ∨ (97 ≤ c ∧ c ≤ 122)
theorem book_bd (p : List Nat) (i : Int) (h : bookF p = some i) : CodeOk i.toNat := by
  obtain ⟨j, hj, e⟩ := List.mem_map.mp (book_mem p i h)
  have := List.mem_range.mp hj
  injection e with _ e
  left; grind
theorem sign_book : (signs.all fun c => (bookF [c]).isSome) = true := by decide +kernel
theorem tok_ok (l : List Nat) (h : l ≠ []) (hc : ∀ c ∈ l, inAl c = true) : CodeOk (tokCode bookF l) := by
  cases e : bookF (l.take (tokSize bookF l)) with
  | some i => unfold tokCode; rw [e]; exact book_bd _ _ e
  | none =>
    have h1 : tokSize bookF l = 1 := by
      unfold tokSize at e ⊢
      split
      · rename_i h3; rw [if_pos h3] at e; rw [e] at h3; cases h3
      · rename_i h3
        rw [if_neg h3] at e
        split
        · rename_i h2; rw [if_pos h2] at e; rw [e] at h2; cases h2
        · rfl
    obtain ⟨c, r, rfl⟩ := List.exists_cons_of_ne_nil h
    rw [h1] at e
    have hcc := hc c (.head _)
    unfold inAl isLet at hcc
    rw [Bool.or_eq_true, Bool.and_eq_true, decide_eq_true_eq, decide_eq_true_eq] at hcc
    rcases hcc with g | g
    · unfold tokCode
      rw [h1]
      rw [e]
      right; simpa using g
    · have := List.all_eq_true.mp sign_book c (List.contains_iff_mem.mp g)
      have e' : bookF [c] = none := e
      rw [e'] at this; cases this
theorem rst_ok (l : List Nat) (hc : ∀ c ∈ l, inAl c = true) : ∀ i, (∀ c ∈ (rst bookF l i).2, CodeOk c) ∧ (rst bookF l i).2.length ≤ i ∧ (0 < i → l ≠ [] → (rst bookF l i).2 ≠ [])
  | 0 => ⟨fun c h => (List.not_mem_nil h).elim, Nat.le_refl _, fun h => absurd h (Nat.lt_irrefl 0)⟩
  | i + 1 => by
    obtain ⟨h1, h2, h3⟩ := rst_ok l hc i
    rw [rst]
    split
    · rename_i hlt
      refine ⟨fun c h => ?_, ?_, fun _ _ => by simp⟩
      · rcases List.mem_append.mp h with e | e
        · exact h1 c e
        · rw [List.mem_singleton.mp e]
          refine tok_ok _ ?_ fun c hm => hc c (List.mem_of_mem_drop hm)
          intro e
          have := congrArg List.length e
          rw [List.length_drop, List.length_nil] at this; grind
      · rw [List.length_append, List.length_singleton]; grind
    · rename_i hlt
      refine ⟨h1, by grind, fun _ hl => ?_⟩
      rcases Nat.eq_zero_or_pos i with h0 | h0
      · subst h0
        have := List.length_pos_iff.mpr hl
        exact absurd this hlt
      · exact h3 h0 hl
/-- a sign of the grammar -/
noncomputable def SignOk (c : Nat) : Prop := (7 ≤ c ∧ c ≤ 54) ∨ (65 ≤ c ∧ c ≤ 90) ∨ (97 ≤ c ∧ c ≤ 122)
theorem pool_ok (due : List Nat) (h : ∀ c ∈ due, CodeOk c) : ∀ x ∈ intsN due ++ greatT (intsN due), ∃ c : Nat, x = (c : Int) ∧ SignOk c := by
  intro x hx
  rcases List.mem_append.mp hx with e | e
  · obtain ⟨c, hc, rfl⟩ := List.mem_map.mp e
    exact ⟨c, rfl, (h c hc).imp id fun h => .inr h⟩
  · obtain ⟨y, hy, rfl⟩ := List.mem_map.mp e
    obtain ⟨h1, h2⟩ := List.mem_filter.mp hy
    obtain ⟨c, hc, rfl⟩ := List.mem_map.mp h1
    have h3 : (c : Int) > 64 := of_decide_eq_true h2
    have h4 := h c hc
    unfold CodeOk at h4
    exact ⟨c - 32, by grind, .inr (.inl (by grind))⟩

-- law 01, the plain law: the grammar
structure GOk (R : Int → List (List Int)) : Prop where
  ne : ∀ x : Int, 256 ≤ x → x ≤ 258 → R x ≠ []
  len : ∀ x : Int, 256 ≤ x → x ≤ 258 → (R x).length ≤ 2
  rl : ∀ x : Int, 256 ≤ x → x ≤ 258 → ∀ r ∈ R x, r.length ≤ 2
  part : ∀ x : Int, 256 ≤ x → x ≤ 258 → ∀ r ∈ R x, ∀ p ∈ r, (∃ c : Nat, p = (c : Int) ∧ SignOk c) ∨ (x < p ∧ p ≤ 258)
theorem draws_mem (above : List Int) (cnt : Int → Nat) (pool : List Int) (hp : 0 < pool.length) (x : Nat) : ∀ j, ∀ p ∈ (draws above cnt pool x j).right, p ∈ above ∨ p ∈ pool
  | 0, p, h => (List.not_mem_nil h).elim
  | j + 1, p, h => by
    have ih := draws_mem above cnt pool hp x j
    unfold draws turnT at h
    split at h
    · rename_i hl
      rcases List.mem_append.mp h with e | e
      · exact ih p e
      · rw [List.mem_singleton.mp e, List.getD_eq_getElem?_getD, List.getElem?_eq_getElem hl]
        exact .inl (List.getElem_mem hl)
    · rcases List.mem_append.mp h with e | e
      · exact ih p e
      · have hl : (draws above cnt pool x j).rest / (above.length + 1) % pool.length < pool.length := Nat.mod_lt _ hp
        rw [List.mem_singleton.mp e, List.getD_eq_getElem?_getD, List.getElem?_eq_getElem hl]
        exact .inr (List.getElem_mem hl)
theorem draws_more (above : List Int) (cnt : Int → Nat) (pool : List Int) (x : Nat) (b : Nat) (hb : 1 ≤ b) (hc : ∀ a ∈ above, cnt a ≤ b) : ∀ j, (draws above cnt pool x j).more ≤ b ^ j
  | 0 => Nat.le_refl _
  | j + 1 => by
    have ih := draws_more above cnt pool x b hb hc j
    unfold draws turnT
    split
    · rename_i hl
      have : above.getD ((draws above cnt pool x j).rest % (above.length + 1)) 0 ∈ above := by
        rw [List.getD_eq_getElem?_getD, List.getElem?_eq_getElem hl]; exact List.getElem_mem hl
      rw [Nat.pow_succ]
      exact Nat.mul_le_mul ih (hc _ this)
    · rw [Nat.pow_succ]
      exact Nat.le_trans ih (Nat.le_mul_of_pos_right _ hb)
theorem turns_le (x : Nat) : turnsL.getD (x % 4) 0 ≤ 2 := by
  have : ∀ j, j < 4 → turnsL.getD j 0 ≤ 2 := by decide
  exact this _ (Nat.mod_lt _ (by decide))
theorem lvl_mem (pool : List Int) (hp : 0 < pool.length) (i : Nat) (cs : List (Int × Int)) (xs : List Nat) : ∀ m, ∀ r ∈ (lvl pool i cs xs m).rl, r.length ≤ 2 ∧ ∀ p ∈ r, p ∈ aboveL i ∨ p ∈ pool
  | 0, r, h => (List.not_mem_nil h).elim
  | m + 1, r, h => by
    have ih := lvl_mem pool hp i cs xs m
    unfold lvl acceptT at h
    split at h
    · rcases List.mem_append.mp h with e | e
      · exact ih r e
      · rw [List.mem_singleton.mp e]
        unfold drawT
        exact ⟨by rw [draws_len]; exact turns_le _, draws_mem _ _ _ hp _ _⟩
    · exact ih r h
theorem lvl_ne (pool : List Int) (i : Nat) (cs : List (Int × Int)) (xs : List Nat) (b : Nat) (hb : 1 ≤ b) (hc : ∀ a ∈ aboveL i, cntO cs a ≤ b) (hl : b ^ 2 ≤ limL.getD i 0) : (lvl pool i cs xs 2).rl ≠ [] := by
  have h1 : (lvl pool i cs xs 1).rl ≠ [] := by
    unfold lvl acceptT
    have h := draws_more (aboveL i) (cntO cs) pool (xs.getD 0 0) b hb hc (turnsL.getD (xs.getD 0 0 % 4) 0)
    have h2 : b ^ (turnsL.getD (xs.getD 0 0 % 4) 0) ≤ b ^ 2 := Nat.pow_le_pow_right hb (turns_le _)
    rw [if_pos (by unfold drawT lvl; dsimp only; grind)]
    simp
  unfold lvl acceptT
  split
  · simp
  · exact h1
theorem above_bd (i : Nat) : ∀ p ∈ aboveL i, 258 - (i : Int) < p ∧ p ≤ 258 := by
  intro p hp
  obtain ⟨j, hj, rfl⟩ := List.mem_map.mp hp
  have := List.mem_range.mp hj
  grind
theorem gR_0 (pool : List Int) (nums : List Nat) : (gR pool nums 3).1.getD 0 [] = (lvl pool 0 [] ((nums.drop 0).take 2) 2).rl := rfl
theorem gR_1 (pool : List Int) (nums : List Nat) : (gR pool nums 3).1.getD 1 [] = (lvl pool 1 (gR pool nums 1).2 ((nums.drop 2).take 2) 2).rl := rfl
theorem gR_2 (pool : List Int) (nums : List Nat) : (gR pool nums 3).1.getD 2 [] = (lvl pool 2 (gR pool nums 2).2 ((nums.drop 4).take 2) 2).rl := rfl
theorem RF_lvl (pool : List Int) (nums : List Nat) (x : Int) (h0 : 256 ≤ x) (h1 : x ≤ 258) (r : List Int) (hr : r ∈ RF pool nums x) :
    (∃ (i : Nat) (cs : List (Int × Int)) (xs : List Nat), x = 258 - (i : Int) ∧ r ∈ (lvl pool i cs xs 2).rl) ∨ (x = 256 ∧ r = [257, 258]) := by
  have h3 : x = 258 ∨ x = 257 ∨ x = 256 := by grind
  unfold RF at hr
  rcases h3 with h | h | h <;> subst h
  · rw [if_pos rfl, gR_0] at hr; exact .inl ⟨0, _, _, rfl, hr⟩
  · rw [if_neg (by decide), if_pos rfl, gR_1] at hr; exact .inl ⟨1, _, _, rfl, hr⟩
  · rw [if_neg (by decide), if_neg (by decide), gR_2] at hr
    unfold lastR at hr
    split at hr
    · exact .inr ⟨rfl, List.mem_singleton.mp hr⟩
    · exact .inl ⟨2, _, _, rfl, hr⟩
theorem lastR_ne (r : List (List Int)) : lastR r ≠ [] := by
  unfold lastR
  split
  · exact List.cons_ne_nil _ _
  · assumption
theorem lastR_len (r : List (List Int)) : (lastR r).length ≤ max 1 r.length := by
  unfold lastR
  split
  · simp; grind
  · grind
theorem RF_ok (pool : List Int) (nums : List Nat) (hp : 0 < pool.length) (hpool : ∀ x ∈ pool, ∃ c : Nat, x = (c : Int) ∧ SignOk c) : GOk (RF pool nums) := by
  refine ⟨fun x h0 h1 => ?_, fun x h0 h1 => ?_, fun x h0 h1 r hr => ?_, fun x h0 h1 r hr p hpr => ?_⟩
  · have h3 : x = 258 ∨ x = 257 ∨ x = 256 := by grind
    unfold RF
    rcases h3 with h | h | h <;> subst h
    · rw [if_pos rfl, gR_0]
      exact lvl_ne pool 0 _ _ 1 (by decide) (fun a ha => (List.not_mem_nil ha).elim) (by decide)
    · rw [if_neg (by decide), if_pos rfl, gR_1]
      refine lvl_ne pool 1 _ _ 2 (by decide) (fun a ha => ?_) (by decide)
      have ha' : a = 258 := by have := above_bd 1 a ha; grind
      subst ha'
      have : cntO (gR pool nums 1).2 258 = (lvl pool 0 [] ((nums.drop 0).take 2) 2).c := by
        show ((iget (iput [] (258 - ((0 : Nat) : Int)) _) 258).getD 0).toNat = _
        rw [show (258 : Int) - ((0 : Nat) : Int) = 258 by grind, iput_get]
        simp [gR]
      rw [this]
      exact (lvl_c pool 0 [] _ 2).1
    · rw [if_neg (by decide), if_neg (by decide)]
      exact lastR_ne _
  · have h3 : x = 258 ∨ x = 257 ∨ x = 256 := by grind
    unfold RF
    rcases h3 with h | h | h <;> subst h
    · rw [if_pos rfl, gR_0]; exact (lvl_c pool 0 _ _ 2).2
    · rw [if_neg (by decide), if_pos rfl, gR_1]; exact (lvl_c pool 1 _ _ 2).2
    · rw [if_neg (by decide), if_neg (by decide), gR_2]
      have := (lvl_c pool 2 (gR pool nums 2).2 ((nums.drop 4).take 2) 2).2
      have h4 := lastR_len (lvl pool 2 (gR pool nums 2).2 ((nums.drop 4).take 2) 2).rl
      grind
  · rcases RF_lvl pool nums x h0 h1 r hr with ⟨i, cs, xs, _, h⟩ | ⟨_, h⟩
    · exact (lvl_mem pool hp i cs xs 2 r h).1
    · rw [h]; simp
  · rcases RF_lvl pool nums x h0 h1 r hr with ⟨i, cs, xs, e, h⟩ | ⟨e, h⟩
    · rcases (lvl_mem pool hp i cs xs 2 r h).2 p hpr with h | h
      · have := above_bd i p h
        exact .inr (by grind)
      · exact .inl (hpool p h)
    · subst h e
      right
      simp only [List.mem_cons, List.not_mem_nil, or_false] at hpr
      rcases hpr with h | h <;> subst h <;> decide

-- law 01, the plain law: all that comes of a row of symbols
inductive Der (R : Int → List (List Int)) : List Int → List Nat → Prop
  | nil : Der R [] []
  | sign (c : Nat) (rest : List Int) (s : List Nat) : SignOk c → Der R rest s → Der R ((c : Int) :: rest) (c :: s)
  | rule (x : Int) (r rest : List Int) (s : List Nat) : 256 ≤ x → x ≤ 258 → r ∈ R x → Der R (r ++ rest) s → Der R (x :: rest) s
theorem Der.nil_inv {R : Int → List (List Int)} {s : List Nat} (h : Der R [] s) : s = [] := by cases h; rfl
theorem Der.sign_inv {R : Int → List (List Int)} {c : Nat} {rest : List Int} {s : List Nat} (hc : SignOk c) (h : Der R ((c : Int) :: rest) s) : ∃ t, s = c :: t ∧ Der R rest t := by
  generalize e : (c : Int) :: rest = l at h
  cases h with
  | nil => cases e
  | sign d rest' t hd h =>
    injection e with e1 e2
    have : c = d := by grind
    subst this e2
    exact ⟨t, rfl, h⟩
  | rule x r rest' t h0 h1 hr h =>
    injection e with e1 e2
    unfold SignOk at hc
    grind
theorem Der.rule_inv {R : Int → List (List Int)} {x : Int} {rest : List Int} {s : List Nat} (hx : 256 ≤ x) (h : Der R (x :: rest) s) : ∃ r ∈ R x, Der R (r ++ rest) s := by
  generalize e : x :: rest = l at h
  cases h with
  | nil => cases e
  | sign d rest' t hd h =>
    injection e with e1 e2
    unfold SignOk at hd
    grind
  | rule y r rest' t h0 h1 hr h =>
    injection e with e1 e2
    subst e1 e2
    exact ⟨r, hr, h⟩
noncomputable def rk (p : Int) : Nat := if p < 256 then 1 else if p = 258 then 3 else if p = 257 then 7 else 15
noncomputable def wt (l : List Int) : Nat := (l.map rk).sum
theorem wt_cons (x : Int) (l : List Int) : wt (x :: l) = rk x + wt l := by simp [wt]
theorem wt_app (a b : List Int) : wt (a ++ b) = wt a + wt b := by simp [wt]
theorem rk_pos (p : Int) : 1 ≤ rk p := by unfold rk; split <;> (try split) <;> (try split) <;> decide
theorem wt_len : ∀ l : List Int, l.length ≤ wt l
  | [] => Nat.le_refl _
  | x :: l => by rw [wt_cons, List.length_cons]; have := wt_len l; have := rk_pos x; grind
theorem rk_part (x p : Int) (h0 : 256 ≤ x) (h1 : x ≤ 258) (h : (∃ c : Nat, p = (c : Int) ∧ SignOk c) ∨ (x < p ∧ p ≤ 258)) : 2 * rk p + 1 ≤ rk x := by
  have h3 : x = 258 ∨ x = 257 ∨ x = 256 := by grind
  rcases h with ⟨c, rfl, hc⟩ | ⟨h, h'⟩
  · have : rk (c : Int) = 1 := by unfold rk; rw [if_pos (by unfold SignOk at hc; grind)]
    rw [this]
    rcases h3 with e | e | e <;> subst e <;> decide
  · rcases h3 with e | e | e <;> subst e
    · grind
    · have : p = 258 := by grind
      subst this; decide
    · have : p = 257 ∨ p = 258 := by grind
      rcases this with e | e <;> subst e <;> decide
theorem wt_rule {R : Int → List (List Int)} (g : GOk R) (x : Int) (h0 : 256 ≤ x) (h1 : x ≤ 258) (r : List Int) (hr : r ∈ R x) : wt r + 1 ≤ rk x := by
  have hl := g.rl x h0 h1 r hr
  have hp := g.part x h0 h1 r hr
  match r, hl, hp with
  | [], _, _ => have := rk_pos x; simp [wt]; omega
  | [a], _, hp => have := rk_part x a h0 h1 (hp a (.head _)); simp [wt]; grind
  | [a, b], _, hp =>
    have := rk_part x a h0 h1 (hp a (.head _))
    have := rk_part x b h0 h1 (hp b (.tail _ (.head _)))
    simp [wt]; grind
noncomputable def SymOk (p : Int) : Prop := (∃ c : Nat, p = (c : Int) ∧ SignOk c) ∨ (256 ≤ p ∧ p ≤ 258)
structure ItOk (p : SItem) (rest : List Int) : Prop where
  e : p.2 = rest ++ [0]
  sym : ∀ y ∈ rest, SymOk y
  len : p.1.length + wt rest ≤ 15
  told : ∀ c ∈ p.1, SignOk c
noncomputable def pot (p : SItem) : Nat := 2 ^ wt p.2 - 1
noncomputable def pots (l : List SItem) : Nat := (l.map pot).sum
theorem pots_app (a b : List SItem) : pots (a ++ b) = pots a + pots b := by simp [pots]
theorem pots_one (p : SItem) : pots [p] = pot p := by simp [pots]
theorem pot_pos (p : SItem) (rest : List Int) (h : ItOk p rest) : 1 ≤ pot p := by
  unfold pot
  rw [h.e, wt_app]
  have h1 : 1 ≤ wt [0] := by decide
  have : 2 ^ 1 ≤ 2 ^ (wt rest + wt [0]) := Nat.pow_le_pow_right (by decide) (by grind)
  grind
noncomputable def One (R : Int → List (List Int)) (p : SItem) (t : List Nat) : Prop := ∃ rest, ItOk p rest ∧ ∃ u, Der R rest u ∧ t = p.1 ++ u
structure Inv (R : Int → List (List Int)) (s : List SItem × List (List Nat)) : Prop where
  it : ∀ p ∈ s.1, ∃ rest, ItOk p rest
  b : s.2.length + pots s.1 ≤ 65535
  whok : ∀ t ∈ s.2, t.length ≤ 15
  lang : ∀ t, (t ∈ s.2 ∨ ∃ p ∈ s.1, One R p t) ↔ Der R [256] t
theorem pots_len : ∀ l : List SItem, (∀ p ∈ l, ∃ rest, ItOk p rest) → l.length ≤ pots l
  | [], _ => Nat.zero_le _
  | p :: r, h => by
    have ih := pots_len r fun q hq => h q (.tail _ hq)
    obtain ⟨rest, hp⟩ := h p (.head _)
    have := pot_pos p rest hp
    simp only [pots, List.map_cons, List.sum_cons, List.length_cons] at ih ⊢
    grind
theorem inv_0 (R : Int → List (List Int)) : Inv R (sents R 0) := by
  have h0 : ItOk (([], [256, 0]) : SItem) [256] := ⟨rfl, fun y hy => by rw [List.mem_singleton.mp hy]; exact .inr (by decide), by decide, fun c h => (List.not_mem_nil h).elim⟩
  refine ⟨fun p hp => ?_, (by decide : (0 : Nat) + pots [(([], [256, 0]) : SItem)] ≤ 65535), fun t h => (List.not_mem_nil h).elim, fun t => ⟨fun h => ?_, fun h => ?_⟩⟩
  · rw [List.mem_singleton.mp hp]; exact ⟨_, h0⟩
  · rcases h with h | ⟨p, hp, rest, hi, u, hu, rfl⟩
    · exact (List.not_mem_nil h).elim
    · rw [List.mem_singleton.mp hp] at hi ⊢
      have e : rest = [256] := (List.append_cancel_right (as := [256]) (bs := [0]) (cs := rest) hi.e).symm
      subst e
      exact hu
  · exact .inr ⟨_, List.mem_singleton.mpr rfl, [256], h0, t, h, rfl⟩

-- law 01, the plain law: the sentences, step by step
theorem ItOk.cons {told : List Nat} {x : Int} {rest : List Int} {q : List Int} (h : ItOk (told, x :: rest) q) : (x = 0 ∧ rest = [] ∧ q = []) ∨ ∃ q', q = x :: q' ∧ rest = q' ++ [0] ∧ SymOk x := by
  have e := h.e
  dsimp only at e
  cases q with
  | nil => left; simp only [List.nil_append, List.cons.injEq] at e; exact ⟨e.1, e.2, rfl⟩
  | cons y q' =>
    right
    simp only [List.cons_append, List.cons.injEq] at e
    exact ⟨q', by rw [e.1], e.2, by rw [e.1]; exact h.sym y (.head _)⟩
theorem ItOk.uniq {p : SItem} {a b : List Int} (h : ItOk p a) (g : ItOk p b) : a = b := List.append_cancel_right (h.e.symm.trans g.e)
theorem pow_le_sum (l : List (List Int)) (f : List Int → Nat) (m : Nat) (hl : l.length ≤ 2) (h : ∀ r ∈ l, f r ≤ m) : (l.map f).sum ≤ 2 * m := by
  match l, hl, h with
  | [], _, _ => simp
  | [a], _, h => have := h a (.head _); simp; grind
  | [a, b], _, h => have := h a (.head _); have := h b (.tail _ (.head _)); simp; grind
theorem last_cases {α : Type} (l : List α) (h : l ≠ []) : ∃ w a, l = w ++ [a] := ⟨l.dropLast, l.getLast h, (List.dropLast_concat_getLast h).symm⟩
theorem pow_pred (a : Nat) : 2 ^ (a + 1) = 2 * 2 ^ a := by rw [Nat.pow_succ]; grind
theorem pow_pos2 (a : Nat) : 1 ≤ 2 ^ a := Nat.one_le_two_pow
theorem ex_snoc {w : List SItem} {p : SItem} {P : SItem → Prop} : (∃ q ∈ w ++ [p], P q) ↔ (∃ q ∈ w, P q) ∨ P p := by simp only [List.mem_append, List.mem_singleton, or_and_right, exists_or, exists_eq_left]
theorem ex_app {w l : List SItem} {P : SItem → Prop} : (∃ q ∈ w ++ l, P q) ↔ (∃ q ∈ w, P q) ∨ ∃ q ∈ l, P q := by simp only [List.mem_append, or_and_right, exists_or]
theorem one_end {R : Int → List (List Int)} {told t : List Nat} (h : ItOk (told, [0]) []) : One R (told, [0]) t ↔ t = told := by
  constructor
  · rintro ⟨rest, hi, u, hu, rfl⟩
    have := hi.uniq h
    subst this
    rw [hu.nil_inv]; simp
  · rintro rfl; exact ⟨_, h, [], .nil, by simp⟩
theorem one_sign {R : Int → List (List Int)} {told t : List Nat} {c : Nat} {q : List Int} (hc : SignOk c) (h : ItOk (told, (c : Int) :: (q ++ [0])) ((c : Int) :: q)) (hn : ItOk (told ++ [c], q ++ [0]) q) : One R (told, (c : Int) :: (q ++ [0])) t ↔ One R (told ++ [c], q ++ [0]) t := by
  constructor
  · rintro ⟨rest, hi, u, hu, rfl⟩
    have := hi.uniq h
    subst this
    obtain ⟨v, rfl, hv⟩ := hu.sign_inv hc
    exact ⟨_, hn, v, hv, by simp⟩
  · rintro ⟨rest, hi, u, hu, rfl⟩
    have := hi.uniq hn
    subst this
    exact ⟨_, h, c :: u, .sign c _ _ hc hu, by simp⟩
theorem one_rule {R : Int → List (List Int)} {told t : List Nat} {x : Int} {q : List Int} (h0 : 256 ≤ x) (h1 : x ≤ 258) (h : ItOk (told, x :: (q ++ [0])) (x :: q)) (hn : ∀ r ∈ R x, ItOk (told, r ++ (q ++ [0])) (r ++ q)) :
    One R (told, x :: (q ++ [0])) t ↔ ∃ p ∈ (R x).map (fun right => (told, right ++ (q ++ [0]))), One R p t := by
  constructor
  · rintro ⟨rest, hi, u, hu, rfl⟩
    have := hi.uniq h
    subst this
    obtain ⟨r, hr, hv⟩ := hu.rule_inv h0
    exact ⟨_, List.mem_map.mpr ⟨r, hr, rfl⟩, _, hn r hr, u, hv, rfl⟩
  · rintro ⟨p, hp, rest, hi, u, hu, rfl⟩
    obtain ⟨r, hr, rfl⟩ := List.mem_map.mp hp
    have := hi.uniq (hn r hr)
    subst this
    exact ⟨_, h, u, .rule x r _ _ h0 h1 hr hu, rfl⟩
structure StepOk (R : Int → List (List Int)) (s s' : List SItem × List (List Nat)) : Prop where
  inv : Inv R s'
  less : pots s'.1 < pots s.1
theorem step_end {R : Int → List (List Int)} (w : List SItem) (wh : List (List Nat)) (told : List Nat) (h : Inv R (w ++ [(told, [0])], wh)) (hq : ItOk (told, [0]) []) : StepOk R (w ++ [(told, [0])], wh) (w, wh ++ [told]) := by
  have hp : pot (told, [(0 : Int)]) = 1 := rfl
  have hb := h.b
  dsimp only at hb
  rw [pots_app, pots_one, hp] at hb
  refine ⟨⟨fun p hp => h.it p (List.mem_append_left _ hp), by dsimp only; rw [List.length_append, List.length_singleton]; grind, fun t ht => ?_, fun t => ?_⟩, by dsimp only; rw [pots_app, pots_one, hp]; grind⟩
  · rcases List.mem_append.mp ht with e | e
    · exact h.whok t e
    · rw [List.mem_singleton.mp e]; have := hq.len; dsimp only at this; grind
  · rw [← h.lang t]
    dsimp only
    rw [ex_snoc, one_end hq, List.mem_append, List.mem_singleton, or_assoc, or_comm (a := t = told)]
theorem step_sign {R : Int → List (List Int)} (w : List SItem) (wh : List (List Nat)) (told : List Nat) (c : Nat) (q : List Int) (hc : SignOk c) (h : Inv R (w ++ [(told, (c : Int) :: (q ++ [0]))], wh)) (hq : ItOk (told, (c : Int) :: (q ++ [0])) ((c : Int) :: q)) :
    StepOk R (w ++ [(told, (c : Int) :: (q ++ [0]))], wh) (w ++ [(told ++ [c], q ++ [0])], wh) := by
  have hrk : rk (c : Int) = 1 := by unfold rk; rw [if_pos (by unfold SignOk at hc; omega)]
  have hlen := hq.len
  dsimp only at hlen
  rw [wt_cons, hrk] at hlen
  have hn : ItOk (told ++ [c], q ++ [0]) q := ⟨rfl, fun y hy => hq.sym y (.tail _ hy), by dsimp only; rw [List.length_append, List.length_singleton]; grind, fun d hd => by
    rcases List.mem_append.mp hd with e | e
    · exact hq.told d e
    · rw [List.mem_singleton.mp e]; exact hc⟩
  have hp1 : pot (told, (c : Int) :: (q ++ [0])) = 2 * 2 ^ (wt q + 1) - 1 := by unfold pot; dsimp only; rw [wt_cons, wt_app, hrk, Nat.add_comm 1, pow_pred]; rfl
  have hp2 : pot (told ++ [c], q ++ [0]) = 2 ^ (wt q + 1) - 1 := by unfold pot; dsimp only; rw [wt_app]; rfl
  have := pow_pos2 (wt q + 1)
  have hb := h.b
  dsimp only at hb
  rw [pots_app, pots_one, hp1] at hb
  refine ⟨⟨fun p hp => ?_, by dsimp only; rw [pots_app, pots_one, hp2]; omega, h.whok, fun t => ?_⟩, by dsimp only; rw [pots_app, pots_one, pots_app, pots_one, hp2, hp1]; omega⟩
  · rcases List.mem_append.mp hp with e | e
    · exact h.it p (List.mem_append_left _ e)
    · rw [List.mem_singleton.mp e]; exact ⟨_, hn⟩
  · rw [← h.lang t]
    dsimp only
    rw [ex_snoc, ex_snoc, one_sign hc hq hn]
theorem step_rule {R : Int → List (List Int)} (g : GOk R) (w : List SItem) (wh : List (List Nat)) (told : List Nat) (x : Int) (q : List Int) (h0 : 256 ≤ x) (h1 : x ≤ 258) (h : Inv R (w ++ [(told, x :: (q ++ [0]))], wh)) (hq : ItOk (told, x :: (q ++ [0])) (x :: q)) :
    StepOk R (w ++ [(told, x :: (q ++ [0]))], wh) (w ++ (R x).map fun right => (told, right ++ (q ++ [0])), wh) := by
  have hlen := hq.len
  dsimp only at hlen
  rw [wt_cons] at hlen
  have hn : ∀ r ∈ R x, ItOk (told, r ++ (q ++ [0])) (r ++ q) := fun r hr => by
    have h3 := wt_rule g x h0 h1 r hr
    refine ⟨by simp, fun y hy => ?_, by dsimp only; rw [wt_app]; grind, hq.told⟩
    rcases List.mem_append.mp hy with e | e
    · rcases g.part x h0 h1 r hr y e with h | ⟨h, h'⟩
      · exact .inl h
      · exact .inr ⟨by grind, h'⟩
    · exact hq.sym y (.tail _ e)
  have hrx := rk_pos x
  have hp1 : pot (told, x :: (q ++ [0])) = 2 * 2 ^ (rk x - 1 + (wt q + 1)) - 1 := by
    unfold pot; dsimp only; rw [wt_cons, wt_app, ← pow_pred, show rk x - 1 + (wt q + 1) + 1 = rk x + (wt q + 1) by grind]; rfl
  have hsum : pots ((R x).map fun right => (told, right ++ (q ++ [0]))) ≤ 2 * (2 ^ (rk x - 1 + (wt q + 1)) - 1) := by
    unfold pots
    rw [List.map_map]
    refine pow_le_sum _ _ _ (g.len x h0 h1) fun r hr => ?_
    have h3 := wt_rule g x h0 h1 r hr
    have e : (pot ∘ fun right => (told, right ++ (q ++ [0]))) r = 2 ^ (wt r + (wt q + 1)) - 1 := by
      show 2 ^ wt (r ++ (q ++ [0])) - 1 = _
      rw [wt_app, wt_app]; rfl
    rw [e]
    exact Nat.sub_le_sub_right (Nat.pow_le_pow_right (by decide) (by omega)) 1
  have := pow_pos2 (rk x - 1 + (wt q + 1))
  have hb := h.b
  dsimp only at hb
  rw [pots_app, pots_one, hp1] at hb
  refine ⟨⟨fun p hp => ?_, by dsimp only; rw [pots_app]; omega, h.whok, fun t => ?_⟩, by dsimp only; rw [pots_app, pots_app, pots_one, hp1]; omega⟩
  · rcases List.mem_append.mp hp with e | e
    · exact h.it p (List.mem_append_left _ e)
    · obtain ⟨r, hr, rfl⟩ := List.mem_map.mp e
      exact ⟨_, hn r hr⟩
  · rw [← h.lang t]
    dsimp only
    rw [ex_app, ex_snoc, one_rule h0 h1 hq hn]
theorem inv_step {R : Int → List (List Int)} (g : GOk R) (s : List SItem × List (List Nat)) (h : Inv R s) (hne : s.1 ≠ []) : StepOk R s (sentStep R s) := by
  obtain ⟨w, ⟨told, l⟩, hw⟩ := last_cases s.1 hne
  obtain ⟨its, wh⟩ := s
  dsimp only at hw
  subst hw
  obtain ⟨q, hq⟩ := h.it (told, l) (by simp)
  have hl0 : l ≠ [] := by have := hq.e; dsimp only at this; rw [this]; simp
  obtain ⟨x, rest, rfl⟩ := List.exists_cons_of_ne_nil hl0
  rw [sentStep_at]
  rcases hq.cons with ⟨rfl, rfl, rfl⟩ | ⟨q', rfl, rfl, hs⟩
  · rw [if_pos (by decide), if_pos rfl]
    exact step_end w wh told h hq
  · rcases hs with ⟨c, rfl, hc⟩ | ⟨h0, h1⟩
    · rw [if_pos (by unfold SignOk at hc; omega), if_neg (by unfold SignOk at hc; grind), Int.toNat_natCast]
      exact step_sign w wh told c q' hc h hq
    · rw [if_neg (by grind)]
      exact step_rule g w wh told x q' h0 h1 h hq
theorem sents_stop {R : Int → List (List Int)} (g : GOk R) : ∀ (n i : Nat), Inv R (sents R i) → pots (sents R i).1 ≤ n → (∀ j, j < i → Inv R (sents R j) ∧ (sents R j).1 ≠ []) →
    ∃ N, Inv R (sents R N) ∧ (sents R N).1 = [] ∧ ∀ j, j < N → Inv R (sents R j) ∧ (sents R j).1 ≠ []
  | n, i, hi, hn, hj => by
    by_cases he : (sents R i).1 = []
    · exact ⟨i, hi, he, hj⟩
    · have st := inv_step g (sents R i) hi he
      have hl := st.less
      match n, hn with
      | 0, hn => omega
      | n + 1, hn =>
        refine sents_stop g n (i + 1) st.inv (by show pots (sentStep R (sents R i)).1 ≤ n; grind) fun j hjj => ?_
        by_cases e : j = i
        · subst e; exact ⟨hi, he⟩
        · exact hj j (by grind)
theorem sok_of {R : Int → List (List Int)} (g : GOk R) (h0 : ∀ x : Int, x < 256 → R x = R 256) (s : List SItem × List (List Nat)) (h : Inv R s) (hne : s.1 ≠ []) : SOk R s := by
  have hb := h.b
  have hpl := pots_len s.1 h.it
  obtain ⟨w, ⟨told, l⟩, hw⟩ := last_cases s.1 hne
  obtain ⟨q, hq⟩ := h.it (told, l) (by rw [hw]; simp)
  have hl0 : l ≠ [] := by have := hq.e; dsimp only at this; rw [this]; simp
  obtain ⟨x, rest, rfl⟩ := List.exists_cons_of_ne_nil hl0
  have hlen := hq.len
  dsimp only at hlen
  have hwl : w.length ≤ s.1.length := by rw [hw, List.length_append]; grind
  refine ⟨⟨w, told, x, rest, hw, by grind, ?_, by grind, ?_⟩, by grind, ?_⟩
  · have h1 := wt_len q
    have h2 := congrArg List.length hq.e
    simp only [List.length_cons, List.length_append, List.length_nil] at h2
    grind
  · have hx : 0 ≤ x ∧ x ≤ 258 := by
      rcases hq.cons with ⟨h, _⟩ | ⟨_, _, _, ⟨c, rfl, hc⟩ | h⟩
      · grind
      · unfold SignOk at hc; omega
      · grind
    by_cases h256 : 256 ≤ x
    · exact ⟨hx.1, hx.2, Nat.le_trans (g.len x h256 hx.2) (by decide), fun r hr => Nat.le_trans (g.rl x h256 hx.2 r hr) (by decide)⟩
    · rw [h0 x (by grind)]
      exact ⟨hx.1, hx.2, Nat.le_trans (g.len 256 (by decide) (by decide)) (by decide), fun r hr => Nat.le_trans (g.rl 256 (by decide) (by decide) r hr) (by decide)⟩
  · intro p hp c hc
    obtain ⟨r, hr⟩ := h.it p hp
    have := hr.told c hc
    unfold SignOk at this
    grind
theorem sents_all {R : Int → List (List Int)} (g : GOk R) (h0 : ∀ x : Int, x < 256 → R x = R 256) : ∃ N, (sents R N).1 = [] ∧ (∀ j, j < N → SOk R (sents R j)) ∧ (∀ t ∈ (sents R N).2, t.length ≤ 15) ∧ ∀ t, t ∈ (sents R N).2 ↔ Der R [256] t := by
  have i0 := inv_0 R
  obtain ⟨N, h1, h2, h3⟩ := sents_stop g _ 0 i0 (Nat.le_refl _) (fun j hj => absurd hj (Nat.not_lt_zero _))
  refine ⟨N, h2, fun j hj => sok_of g h0 _ (h3 j hj).1 (h3 j hj).2, h1.whok, fun t => ?_⟩
  rw [← h1.lang t]
  constructor
  · exact .inl
  · rintro (h | ⟨p, hp, _⟩)
    · exact h
    · rw [h2] at hp; exact (List.not_mem_nil hp).elim
theorem RF_low (pool : List Int) (nums : List Nat) : ∀ x : Int, x < 256 → RF pool nums x = RF pool nums 256 := by
  intro x hx
  unfold RF
  rw [if_neg (by grind), if_neg (by grind), if_neg (by decide), if_neg (by decide)]


theorem subc_self (x : Nat) : subc x x = 0 := by simp [subc]
theorem subc_comm (x y : Nat) : subc x y = subc y x := by
  unfold subc
  by_cases h : x = y
  · subst h; rfl
  · have h' : ¬ y = x := fun e => h e.symm
    by_cases g : lw x = lw y
    · simp [h, h', g]
    · have g' : ¬ lw y = lw x := fun e => g e.symm
      simp [h, h', g, g']
theorem subc_bd (x y : Nat) : 0 ≤ subc x y ∧ subc x y ≤ 2 := by
  unfold subc; split
  · decide
  · split <;> decide
-- the least cost of an alignment, from the heads
noncomputable def edl : List Nat → List Nat → Int
  | [], b => 2 * (b.length : Int)
  | a@(_ :: _), [] => 2 * (a.length : Int)
  | x :: a, y :: b => min (min (edl a (y :: b)) (edl (x :: a) b) + 2) (edl a b + subc x y)
termination_by a b => a.length + b.length
theorem edl_nil (b : List Nat) : edl [] b = 2 * (b.length : Int) := by rw [edl]
theorem edl_nil' (a : List Nat) : edl a [] = 2 * (a.length : Int) := by cases a <;> rw [edl] <;> rfl
theorem edl_cons (x y : Nat) (a b : List Nat) : edl (x :: a) (y :: b) = min (min (edl a (y :: b)) (edl (x :: a) b) + 2) (edl a b + subc x y) := by rw [edl]
inductive Al : List Nat → List Nat → Int → Prop
  | nil : Al [] [] 0
  | del (x : Nat) {a b : List Nat} {c : Int} : Al a b c → Al (x :: a) b (c + 2)
  | ins (y : Nat) {a b : List Nat} {c : Int} : Al a b c → Al a (y :: b) (c + 2)
  | sub (x y : Nat) {a b : List Nat} {c : Int} : Al a b c → Al (x :: a) (y :: b) (c + subc x y)
theorem Al.to {a b : List Nat} {c c' : Int} (h : Al a b c) (e : c = c') : Al a b c' := e ▸ h
theorem Al.inss : ∀ b : List Nat, Al [] b (2 * (b.length : Int))
  | [] => .nil
  | y :: b => ((Al.inss b).ins y).to (by simp only [List.length_cons]; grind)
theorem Al.dels : ∀ a : List Nat, Al a [] (2 * (a.length : Int))
  | [] => .nil
  | y :: b => ((Al.dels b).del y).to (by simp only [List.length_cons]; grind)
theorem Al.of_edl : ∀ (n : Nat) (a b : List Nat), a.length + b.length ≤ n → Al a b (edl a b)
  | _, [], b, _ => by rw [edl_nil]; exact Al.inss b
  | _, x :: a, [], _ => by rw [edl_nil']; exact Al.dels _
  | 0, x :: a, y :: b, h => by simp only [List.length_cons] at h; grind
  | n + 1, x :: a, y :: b, h => by
    simp only [List.length_cons] at h
    have h1 := Al.of_edl n a (y :: b) (by simp only [List.length_cons]; grind)
    have h2 := Al.of_edl n (x :: a) b (by simp only [List.length_cons]; grind)
    have h3 := Al.of_edl n a b (by grind)
    rw [edl_cons]
    by_cases c1 : min (edl a (y :: b)) (edl (x :: a) b) + 2 ≤ edl a b + subc x y
    · rw [Int.min_eq_left c1]
      by_cases c2 : edl a (y :: b) ≤ edl (x :: a) b
      · rw [Int.min_eq_left c2]; exact h1.del x
      · rw [Int.min_eq_right (by grind)]; exact h2.ins y
    · rw [Int.min_eq_right (by grind)]; exact h3.sub x y
theorem edl_del (x : Nat) : ∀ a b : List Nat, edl (x :: a) b ≤ edl a b + 2
  | a, [] => by rw [edl_nil', edl_nil']; simp only [List.length_cons]; grind
  | a, y :: b => by rw [edl_cons]; grind
theorem edl_ins (y : Nat) : ∀ a b : List Nat, edl a (y :: b) ≤ edl a b + 2
  | [], b => by rw [edl_nil, edl_nil]; simp only [List.length_cons]; grind
  | x :: a, b => by rw [edl_cons]; grind
theorem edl_sub (x y : Nat) (a b : List Nat) : edl (x :: a) (y :: b) ≤ edl a b + subc x y := by rw [edl_cons]; grind
theorem Al.edl_le {a b : List Nat} {c : Int} (h : Al a b c) : edl a b ≤ c := by
  induction h with
  | nil => rw [edl_nil]; simp
  | del x _ ih => exact Int.le_trans (edl_del x _ _) (by grind)
  | ins y _ ih => exact Int.le_trans (edl_ins y _ _) (by grind)
  | sub x y _ ih => exact Int.le_trans (edl_sub x y _ _) (by grind)
theorem Al.edl (a b : List Nat) : Al a b (edl a b) := Al.of_edl _ a b (Nat.le_refl _)
theorem Al.app {a b : List Nat} {c : Int} (h : Al a b c) {a' b' : List Nat} {c' : Int} (h' : Al a' b' c') : Al (a ++ a') (b ++ b') (c + c') := by
  induction h with
  | nil => exact h'.to (by grind)
  | del x _ ih => exact (ih.del x).to (by grind)
  | ins y _ ih => exact (ih.ins y).to (by grind)
  | sub x y _ ih => exact (ih.sub x y).to (by grind)
theorem Al.rev {a b : List Nat} {c : Int} (h : Al a b c) : Al a.reverse b.reverse c := by
  induction h with
  | nil => exact .nil
  | @del x a b c _ ih =>
    have h : Al (a.reverse ++ [x]) (b.reverse ++ []) (c + (0 + 2)) := ih.app (Al.nil.del x)
    rw [List.reverse_cons]; rw [List.append_nil] at h; exact h.to (by grind)
  | @ins y a b c _ ih =>
    have h : Al (a.reverse ++ []) (b.reverse ++ [y]) (c + (0 + 2)) := ih.app (Al.nil.ins y)
    rw [List.reverse_cons]; rw [List.append_nil] at h; exact h.to (by grind)
  | sub x y _ ih => rw [List.reverse_cons, List.reverse_cons]; exact (ih.app (Al.nil.sub x y)).to (by grind)
theorem Al.swap {a b : List Nat} {c : Int} (h : Al a b c) : Al b a c := by
  induction h with
  | nil => exact .nil
  | del x _ ih => exact ih.ins x
  | ins y _ ih => exact ih.del y
  | sub x y _ ih => rw [subc_comm]; exact ih.sub y x
theorem edl_rev (a b : List Nat) : edl a.reverse b.reverse = edl a b := by
  have h1 := (Al.edl a b).rev.edl_le
  have h2 := (Al.edl a.reverse b.reverse).rev.edl_le
  rw [List.reverse_reverse, List.reverse_reverse] at h2
  grind
theorem edl_swap (a b : List Nat) : edl a b = edl b a := by
  have h1 := (Al.edl a b).swap.edl_le
  have h2 := (Al.edl b a).swap.edl_le
  grind
theorem edl_self : ∀ a : List Nat, edl a a ≤ 0
  | [] => by rw [edl_nil]; simp
  | x :: a => by have := edl_sub x x a a; rw [subc_self] at this; have := edl_self a; grind
theorem Al.nonneg {a b : List Nat} {c : Int} (h : Al a b c) : 0 ≤ c := by
  induction h with
  | nil => grind
  | del x _ ih => grind
  | ins y _ ih => grind
  | sub x y _ ih => have := subc_bd x y; grind
theorem edl_nonneg (a b : List Nat) : 0 ≤ edl a b := (Al.edl a b).nonneg
theorem Al.len {a b : List Nat} {c : Int} (h : Al a b c) : 2 * ((b.length : Int) - a.length) ≤ c ∧ 2 * ((a.length : Int) - b.length) ≤ c := by
  induction h with
  | nil => simp
  | del x _ ih => simp only [List.length_cons]; grind
  | ins y _ ih => simp only [List.length_cons]; grind
  | sub x y _ ih => have := subc_bd x y; simp only [List.length_cons]; grind
-- a common head falls away
theorem edl_less_l : ∀ (n : Nat) (x : Nat) (a b : List Nat), a.length + b.length ≤ n → edl a b ≤ edl (x :: a) b + 2
  | _, x, a, [], _ => by rw [edl_nil', edl_nil']; simp only [List.length_cons]; grind
  | 0, x, a, y :: b, h => by simp only [List.length_cons] at h; grind
  | n + 1, x, a, y :: b, h => by
    simp only [List.length_cons] at h
    have h1 := edl_less_l n x a b (by grind)
    have h2 := edl_ins y a b
    have h3 := subc_bd x y
    rw [edl_cons]; grind
theorem edl_less_r (y : Nat) (a b : List Nat) : edl a b ≤ edl a (y :: b) + 2 := by
  rw [edl_swap a b, edl_swap a (y :: b)]; exact edl_less_l _ y b a (Nat.le_refl _)
theorem edl_same (x : Nat) (a b : List Nat) : edl (x :: a) (x :: b) = edl a b := by
  have h1 := edl_less_r x a b
  have h2 := edl_less_l _ x a b (Nat.le_refl _)
  rw [edl_cons, subc_self]; grind
theorem edl_pre : ∀ a b : List Nat, edl (a.drop (cpre a b)) (b.drop (cpre a b)) = edl a b
  | [], b => by simp [cpre]
  | x :: a, [] => by simp [cpre]
  | x :: a, y :: b => by
    unfold cpre
    split
    · rename_i h; subst h
      rw [List.drop_succ_cons, List.drop_succ_cons, edl_same]; exact edl_pre a b
    · rfl
theorem take_rev (l : List Nat) (s : Nat) : l.take (l.length - s) = (l.reverse.drop s).reverse := by
  rw [List.reverse_drop, List.reverse_reverse, List.length_reverse]
theorem edl_mid (a b : List Nat) : edl (midA a b) (midB a b) = edl a b := by
  unfold midA midB sfx
  rw [take_rev, take_rev, edl_rev, edl_pre, edl_rev, edl_pre]


noncomputable def dv (a b : List Nat) (i j : Nat) : Int := edl (a.take i).reverse (b.take j).reverse
theorem take_rev_succ (a : List Nat) (i : Nat) (h : i < a.length) : (a.take (i + 1)).reverse = a.getD i 0 :: (a.take i).reverse := by
  rw [List.take_add_one, List.getElem?_eq_getElem h]
  simp [List.getD_eq_getElem?_getD, List.getElem?_eq_getElem h]
theorem dv_zero (a b : List Nat) (j : Nat) (h : j ≤ b.length) : dv a b 0 j = 2 * (j : Int) := by
  unfold dv; rw [List.take_zero, List.reverse_nil, edl_nil, List.length_reverse, List.length_take, Nat.min_eq_left h]
theorem dv_zero' (a b : List Nat) (i : Nat) (h : i ≤ a.length) : dv a b i 0 = 2 * (i : Int) := by
  unfold dv; rw [List.take_zero, List.reverse_nil, edl_nil', List.length_reverse, List.length_take, Nat.min_eq_left h]
theorem dv_succ (a b : List Nat) (i j : Nat) (hi : i < a.length) (hj : j < b.length) :
    dv a b (i + 1) (j + 1) = min (min (dv a b i (j + 1)) (dv a b (i + 1) j) + 2) (dv a b i j + subc (b.getD j 0) (a.getD i 0)) := by
  unfold dv
  rw [take_rev_succ a i hi, take_rev_succ b j hj, edl_cons, subc_comm]
theorem dv_end (a b : List Nat) : dv a b a.length b.length = edl a b := by
  unfold dv; rw [List.take_length, List.take_length, edl_rev]
theorem ist_spec (a b : List Nat) (row : List Int) (j : Nat) (hj : j < b.length) (hl : row.length = a.length) (hr : ∀ i, i < a.length → row.getD i 0 = dv a b (i + 1) j) :
    ∀ n, n ≤ a.length →
      let s := ist (b.getD j 0) a ⟨row, (j : Int) * 2, (j : Int) * 2, maxI⟩ n
      s.row.length = a.length ∧ (∀ i, i < n → s.row.getD i 0 = dv a b (i + 1) (j + 1)) ∧ (∀ i, n ≤ i → i < a.length → s.row.getD i 0 = dv a b (i + 1) j) ∧ s.dist = dv a b n j ∧ (0 < n → s.res = dv a b n (j + 1)) ∧ (n = 0 → s.res = (j : Int) * 2) ∧ (∀ i, i < n → s.mn ≤ dv a b (i + 1) (j + 1))
  | 0, _ => by
    refine ⟨hl, fun i h => absurd h (Nat.not_lt_zero i), fun i _ h => hr i h, ?_, fun h => absurd h (Nat.lt_irrefl 0), fun _ => rfl, fun i h => absurd h (Nat.not_lt_zero i)⟩
    rw [dv_zero a b j (Nat.le_of_lt hj)]; show (j : Int) * 2 = _; grind
  | n + 1, hn => by
    obtain ⟨h1, h2, h3, h4, h5, h6, h7⟩ := ist_spec a b row j hj hl hr n (by grind)
    have hn' : n < a.length := by grind
    intro s
    have hd := h3 n (Nat.le_refl _) hn'
    generalize hq : ist (b.getD j 0) a ⟨row, (j : Int) * 2, (j : Int) * 2, maxI⟩ n = q at h1 h2 h3 h4 h5 h6 h7 hd
    have hs : s = istep (b.getD j 0) a n q := by rw [← hq]; rfl
    have hr' : min (min q.res (q.row.getD n 0) + 2) (q.dist + subc (b.getD j 0) (a.getD n 0)) = dv a b (n + 1) (j + 1) := by
      rw [dv_succ a b n j hn' hj, hd, h4]
      rcases Nat.eq_zero_or_pos n with h0 | h0
      · subst h0
        rw [h6 rfl, dv_zero a b j (by grind), dv_zero a b (j + 1) (by grind)]
        have := subc_bd (b.getD j 0) (a.getD 0 0)
        grind
      · rw [h5 h0]
    rw [hs]
    unfold istep
    dsimp only
    rw [hr']
    refine ⟨by rw [List.length_set]; exact h1, ?_, ?_, hd, fun _ => rfl, fun h => absurd h (Nat.succ_ne_zero n), ?_⟩
    · intro i hi
      by_cases e : n = i
      · subst e
        rw [List.getD_eq_getElem?_getD, List.getElem?_set_self (by grind)]; rfl
      · rw [List.getD_eq_getElem?_getD, List.getElem?_set_ne e, ← List.getD_eq_getElem?_getD]
        exact h2 i (by grind)
    · intro i hi hi'
      have e : n ≠ i := by grind
      rw [List.getD_eq_getElem?_getD, List.getElem?_set_ne e, ← List.getD_eq_getElem?_getD]
      exact h3 i (by grind) hi'
    · intro i hi
      by_cases e : n = i
      · subst e
        split
        · exact Int.le_refl _
        · grind
      · have := h7 i (by grind)
        split
        · grind
        · exact this
theorem rows_spec (a b : List Nat) : ∀ j, j ≤ b.length → (rows a b j).length = a.length ∧ ∀ i, i < a.length → (rows a b j).getD i 0 = dv a b (i + 1) j
  | 0, _ => by
    refine ⟨rows_len a b 0, fun i hi => ?_⟩
    rw [dv_zero' a b (i + 1) hi]
    simp only [rows, List.getD_eq_getElem?_getD, List.getElem?_map, List.getElem?_range hi, Option.map_some, Option.getD_some]
    grind
  | j + 1, h => by
    obtain ⟨h1, h2⟩ := rows_spec a b j (by grind)
    obtain ⟨g1, g2, _⟩ := ist_spec a b (rows a b j) j (by grind) h1 h2 a.length (Nat.le_refl _)
    exact ⟨g1, g2⟩
theorem row_min (a b : List Nat) (j : Nat) (hj : j < b.length) : ∀ i, i < a.length → (rowOf a b (rows a b j) j).mn ≤ dv a b (i + 1) (j + 1) := by
  obtain ⟨h1, h2⟩ := rows_spec a b j (by grind)
  obtain ⟨_, _, _, _, _, _, g⟩ := ist_spec a b (rows a b j) j hj h1 h2 a.length (Nat.le_refl _)
  exact g
theorem res_spec (a b : List Nat) (ha : a ≠ []) (hb : b ≠ []) : resOf a b b.length = edl a b := by
  have hal : 0 < a.length := List.length_pos_iff.mpr ha
  have hbl : 0 < b.length := List.length_pos_iff.mpr hb
  obtain ⟨j, hj⟩ : ∃ j, b.length = j + 1 := ⟨b.length - 1, by grind⟩
  rw [hj]
  show (rowOf a b (rows a b j) j).res = _
  obtain ⟨h1, h2⟩ := rows_spec a b j (by grind)
  obtain ⟨_, _, _, _, g, _, _⟩ := ist_spec a b (rows a b j) j (by grind) h1 h2 a.length (Nat.le_refl _)
  rw [← dv_end a b, hj]
  exact g hal
theorem row_over (a b : List Nat) (mx : Int) (j : Nat) (h0 : 0 < a.length) (h : ∀ i, i < a.length → mx < dv a b (i + 1) (j + 1)) (hj : j + 1 < b.length) : ∀ i, i < a.length → mx < dv a b (i + 1) (j + 2)
  | 0, hi => by
    have h1 := h 0 h0
    rw [dv_succ a b 0 (j + 1) hi hj, dv_zero a b (j + 2) (by grind), dv_zero a b (j + 1) (by grind)]
    have h2 := dv_succ a b 0 j hi (by grind)
    rw [dv_zero a b j (by grind)] at h2
    have := subc_bd (b.getD j 0) (a.getD 0 0)
    have := subc_bd (b.getD (j + 1) 0) (a.getD 0 0)
    omega
  | i + 1, hi => by
    have ih : mx < dv a b (i + 1) (j + 1 + 1) := row_over a b mx j h0 h hj i (by grind)
    have h1 := h (i + 1) hi
    have h2 := h i (by grind)
    rw [dv_succ a b (i + 1) (j + 1) hi hj]
    have := subc_bd (b.getD (j + 1) 0) (a.getD (i + 1) 0)
    grind
theorem rows_over (a b : List Nat) (mx : Int) (j : Nat) (h0 : 0 < a.length) (h : ∀ i, i < a.length → mx < dv a b (i + 1) (j + 1)) : ∀ m, j + 1 + m ≤ b.length → ∀ i, i < a.length → mx < dv a b (i + 1) (j + 1 + m)
  | 0, _ => h
  | m + 1, hm => row_over a b mx (j + m) h0 (by have := rows_over a b mx j h0 h m (by grind); rwa [show j + 1 + m = j + m + 1 by grind] at this) (by grind) |> fun g => by rwa [show j + 1 + (m + 1) = j + m + 2 by grind]
theorem levT_spec (a b : List Nat) (mx : Int) (ha : a ≠ []) (hb : b ≠ []) : levT a b mx = edl a b ∨ (mx < edl a b ∧ levT a b mx = mx + 1) := by
  have hal : 0 < a.length := List.length_pos_iff.mpr ha
  have hbl : 0 < b.length := List.length_pos_iff.mpr hb
  unfold levT
  split
  · rename_i h; right
    have := (Al.edl a b).len
    exact ⟨by grind, rfl⟩
  · split
    · rename_i h; right
      refine ⟨?_, rfl⟩
      obtain ⟨j, hj, hm⟩ := List.any_eq_true.mp h
      have hj' : j < b.length := List.mem_range.mp hj
      have hm' : (rowOf a b (rows a b j) j).mn > mx := of_decide_eq_true hm
      have h1 : ∀ i, i < a.length → mx < dv a b (i + 1) (j + 1) := fun i hi => by have := row_min a b j hj' i hi; grind
      have h2 := rows_over a b mx j hal h1 (b.length - (j + 1)) (by grind) (a.length - 1) (by grind)
      rw [show a.length - 1 + 1 = a.length by grind, show j + 1 + (b.length - (j + 1)) = b.length by grind, dv_end] at h2
      exact h2
    · left; exact res_spec a b ha hb
theorem lev2_spec (a b : List Nat) (mx : Int) (ha : a.length ≤ 40) (hb : b.length ≤ 40) : lev2 a b mx = edl a b ∨ (mx < edl a b ∧ lev2 a b mx = mx + 1) := by
  unfold lev2
  split
  · rename_i h; left
    rcases h with h | h
    · subst h; rw [edl_nil]; simp
    · subst h; rw [edl_nil']; simp
  · rename_i h
    rw [if_neg (by grind)]
    have ha0 : a ≠ [] := fun e => h (.inl e)
    have hb0 : b ≠ [] := fun e => h (.inr e)
    split
    · rw [edl_swap]; exact levT_spec b a mx hb0 ha0
    · exact levT_spec a b mx ha0 hb0
theorem lev_spec (a b : List Nat) (mx : Int) (ha : a.length ≤ 40) (hb : b.length ≤ 40) : lev a b mx = edl a b ∨ (mx < edl a b ∧ lev a b mx = mx + 1) := by
  unfold lev
  split
  · rename_i h; left; subst h
    have := edl_self a; have := edl_nonneg a a; grind
  · rw [← edl_mid a b]
    refine lev2_spec _ _ mx ?_ ?_
    · unfold midA; rw [List.length_take, List.length_drop]; omega
    · unfold midB; rw [List.length_take, List.length_drop]; omega
-- the lower bound: the signs below 256

-- law 01, the plain law: the nearest sentence
theorem edl_len (a b : List Nat) : edl a b ≤ 2 * (a.length : Int) + 2 * (b.length : Int) := by
  have h := ((Al.dels a).app (Al.inss b)).edl_le
  rw [List.append_nil, List.nil_append] at h
  exact h
theorem near_le (word : List Nat) (ls : List (List Nat)) (hw : word.length ≤ 40) (hl : ∀ s ∈ ls, s.length ≤ 40) : ∀ i, i ≤ ls.length →
    nears word ls i ≤ 100 ∧ (∀ s ∈ ls.take i, nears word ls i ≤ edl word s) ∧ (nears word ls i = 100 ∨ ∃ s ∈ ls.take i, nears word ls i = edl word s)
  | 0, _ => ⟨Int.le_refl _, fun s h => (List.not_mem_nil h).elim, .inl rfl⟩
  | i + 1, hi => by
    obtain ⟨h1, h2, h3⟩ := near_le word ls hw hl i (by grind)
    have hlt : i < ls.length := by grind
    have hg : ls.getD i [] = ls[i] := by rw [List.getD_eq_getElem?_getD, List.getElem?_eq_getElem hlt]; rfl
    have ht : ls.take (i + 1) = ls.take i ++ [ls[i]] := by rw [List.take_add_one, List.getElem?_eq_getElem hlt]; rfl
    have hs := lev_spec word ls[i] (nears word ls i - 1) hw (hl _ (List.getElem_mem hlt))
    rw [nears, nearStep, hg, ht]
    split
    · rename_i hc
      have he : lev word ls[i] (nears word ls i - 1) = edl word ls[i] := by
        rcases hs with h | ⟨_, h⟩
        · exact h
        · grind
      rw [he] at hc ⊢
      refine ⟨by grind, fun s hs => ?_, .inr ⟨_, List.mem_append_right _ (List.mem_singleton.mpr rfl), rfl⟩⟩
      rcases List.mem_append.mp hs with e | e
      · have := h2 s e; grind
      · rw [List.mem_singleton.mp e]; exact Int.le_refl _
    · rename_i hc
      refine ⟨h1, fun s hs' => ?_, h3.imp id fun ⟨s, h, e⟩ => ⟨s, List.mem_append_left _ h, e⟩⟩
      rcases List.mem_append.mp hs' with e | e
      · exact h2 s e
      · rw [List.mem_singleton.mp e]
        rcases hs with h | ⟨h, _⟩ <;> grind
/-- what the least cost is -/
structure Least (R : Int → List (List Int)) (l : List Int) (w : List Nat) (v : Int) : Prop where
  at_ : ∃ s, Der R l s ∧ Al w s v
  le : ∀ s c, Der R l s → Al w s c → v ≤ c
theorem near_least {R : Int → List (List Int)} (word : List Nat) (ls : List (List Nat)) (hw : word.length ≤ 20) (hl : ∀ s ∈ ls, s.length ≤ 15) (hm : ∀ s, s ∈ ls ↔ Der R [256] s) (v : Int) (h : Least R [256] word v) : nears word ls ls.length = v := by
  obtain ⟨h1, h2, h3⟩ := near_le word ls (by grind) (fun s hs => by have := hl s hs; grind) ls.length (Nat.le_refl _)
  rw [List.take_length] at h2 h3
  obtain ⟨s, hs, ha⟩ := h.at_
  have hsm := (hm s).mpr hs
  have a1 := ha.edl_le
  have a2 := h2 s hsm
  have a3 := edl_len word s
  have a4 := hl s hsm
  have a5 := h.le s (edl word s) hs (Al.edl word s)
  rcases h3 with e | ⟨t, ht, e⟩
  · grind
  · have := h.le t (edl word t) ((hm t).mp ht) (Al.edl word t)
    grind

-- law 01, the plain law: a sign alone; a row that is cut in two
theorem Al.split {w b : List Nat} {c : Int} (h : Al w b c) : ∀ s t : List Nat, b = s ++ t → ∃ w1 w2 c1 c2, w = w1 ++ w2 ∧ Al w1 s c1 ∧ Al w2 t c2 ∧ c1 + c2 = c := by
  induction h with
  | nil =>
    intro s t e
    obtain ⟨rfl, rfl⟩ := List.append_eq_nil_iff.mp e.symm
    exact ⟨[], [], 0, 0, rfl, .nil, .nil, rfl⟩
  | @del x a b c h ih =>
    intro s t e
    obtain ⟨w1, w2, c1, c2, rfl, h1, h2, e2⟩ := ih s t e
    exact ⟨x :: w1, w2, c1 + 2, c2, rfl, h1.del x, h2, by grind⟩
  | @ins y a b c h ih =>
    intro s t e
    cases s with
    | nil => subst e; exact ⟨[], a, 0, c + 2, rfl, .nil, h.ins y, by grind⟩
    | cons z s =>
      injection e with e1 e2
      subst e1
      obtain ⟨w1, w2, c1, c2, rfl, h1, h2, e3⟩ := ih s t e2
      exact ⟨w1, w2, c1 + 2, c2, rfl, h1.ins y, h2, by grind⟩
  | @sub x y a b c h ih =>
    intro s t e
    cases s with
    | nil => subst e; exact ⟨[], x :: a, 0, c + subc x y, rfl, .nil, h.sub x y, by grind⟩
    | cons z s =>
      injection e with e1 e2
      subst e1
      obtain ⟨w1, w2, c1, c2, rfl, h1, h2, e3⟩ := ih s t e2
      exact ⟨x :: w1, w2, c1 + subc x y, c2, rfl, h1.sub x y, h2, by grind⟩
theorem price_eq (x y : Nat) (hx : SignOk x) (hy : CodeOk y) : priceT (x : Int) (y : Int) = subc y x := by
  unfold SignOk at hx
  unfold CodeOk at hy
  unfold priceT subc
  rw [lw_low y (by grind), lw_low x (by grind)]
  have e : ([loC y] = [loC x]) ↔ loC y = loC x := by simp
  by_cases h : y = x
  · subst h; simp
  · rw [if_neg (by grind), if_neg h]
    have h2 : (((y : Int) - (x : Int)).natAbs = 32 ∧ min (y : Int) (x : Int) > 64) ↔ ([loC y] = [loC x]) := by
      rw [e]
      unfold loC
      constructor
      · intro hh; split <;> split <;> grind
      · intro hh; split at hh <;> split at hh <;> grind
    by_cases h3 : [loC y] = [loC x]
    · rw [if_pos h3, if_pos (h2.mpr h3)]
    · rw [if_neg h3, if_neg (fun h => h3 (h2.mp h))]
theorem minI_bd (x : Int) : ∀ l : List Int, l ≠ [] → 0 ≤ minI (l.map (priceT x)) ∧ minI (l.map (priceT x)) ≤ 2 := by
  intro l h
  have := minI_mem (l.map (priceT x)) (by simpa using h)
  obtain ⟨y, _, e⟩ := List.mem_map.mp this
  rw [← e]
  unfold priceT
  split
  · decide
  · split <;> decide
theorem alone_edl (x : Nat) (hx : SignOk x) : ∀ w : List Nat, (∀ c ∈ w, CodeOk c) → edl w [x] = aloneT (x : Int) (intsN w)
  | [], _ => by rw [edl_nil]; rfl
  | [y], h => by
    have hp := price_eq x y hx (h y (.head _))
    have hb := subc_bd y x
    rw [edl_cons, edl_nil, edl_nil', edl_nil]
    unfold aloneT intsN
    rw [if_neg (by simp)]
    simp only [List.map_cons, List.map_nil, List.length_cons, List.length_nil, minI, hp]
    grind
  | y :: z :: r, h => by
    have ih := alone_edl x hx (z :: r) fun c hc => h c (.tail _ hc)
    have hp := price_eq x y hx (h y (.head _))
    have hb := subc_bd y x
    have hm := minI_bd (x : Int) (intsN (z :: r)) (by simp [intsN])
    rw [edl_cons, ih, edl_nil', edl_nil']
    unfold aloneT
    rw [if_neg (by simp [intsN]), if_neg (by simp [intsN])]
    have e : minI ((intsN (y :: z :: r)).map (priceT (x : Int))) = min (subc y x) (minI ((intsN (z :: r)).map (priceT (x : Int)))) := by rw [← hp]; rfl
    rw [e]
    have l1 : (intsN (y :: z :: r)).length = r.length + 2 := by simp [intsN]
    have l2 : (intsN (z :: r)).length = r.length + 1 := by simp [intsN]
    rw [l1, l2]
    simp only [List.length_cons]
    grind
theorem Der.sign1 {R : Int → List (List Int)} {c : Nat} {s : List Nat} (hc : SignOk c) (h : Der R [(c : Int)] s) : s = [c] := by
  obtain ⟨t, rfl, h2⟩ := h.sign_inv hc
  have := h2.nil_inv
  subst this; rfl
theorem alone_least (R : Int → List (List Int)) (x : Nat) (hx : SignOk x) (w : List Nat) (hw : ∀ c ∈ w, CodeOk c) : Least R [(x : Int)] w (aloneT (x : Int) (intsN w)) := by
  rw [← alone_edl x hx w hw]
  refine ⟨⟨[x], .sign x [] [] hx .nil, Al.edl _ _⟩, fun s c hs ha => ?_⟩
  rw [hs.sign1 hx] at ha
  exact ha.edl_le
theorem Der.app {R : Int → List (List Int)} {l : List Int} {s : List Nat} (h : Der R l s) {l' : List Int} {s' : List Nat} (h' : Der R l' s') : Der R (l ++ l') (s ++ s') := by
  induction h with
  | nil => exact h'
  | sign c rest s hc _ ih => exact .sign c _ _ hc ih
  | rule x r rest s h0 h1 hr _ ih => exact .rule x r _ _ h0 h1 hr (by have := ih; rw [List.append_assoc] at this; exact this)
theorem Der.cut {R : Int → List (List Int)} {m : List Int} {s : List Nat} (h : Der R m s) : ∀ l l' : List Int, m = l ++ l' → ∃ a b, s = a ++ b ∧ Der R l a ∧ Der R l' b := by
  induction h with
  | nil =>
    intro l l' e
    obtain ⟨rfl, rfl⟩ := List.append_eq_nil_iff.mp e.symm
    exact ⟨[], [], rfl, .nil, .nil⟩
  | sign c rest s hc h ih =>
    intro l l' e
    cases l with
    | nil => subst e; exact ⟨[], _, rfl, .nil, .sign c _ _ hc h⟩
    | cons z l =>
      injection e with e1 e2
      subst e1
      obtain ⟨a, b, rfl, h1, h2⟩ := ih l l' e2
      exact ⟨c :: a, b, rfl, .sign c _ _ hc h1, h2⟩
  | rule x r rest s h0 h1 hr h ih =>
    intro l l' e
    cases l with
    | nil => subst e; exact ⟨[], _, rfl, .nil, .rule x r _ _ h0 h1 hr h⟩
    | cons z l =>
      injection e with e1 e2
      subst e1 e2
      obtain ⟨a, b, rfl, h3, h4⟩ := ih (r ++ l) l' (List.append_assoc r l l').symm
      exact ⟨a, b, rfl, .rule x r _ _ h0 h1 hr h3, h4⟩

-- law 01, the plain law: the table
noncomputable def wd (due : List Nat) (i j : Nat) : List Nat := (due.drop i).take (j - i)
theorem wd_len (due : List Nat) (i j : Nat) (hj : j ≤ due.length) : (wd due i j).length = j - i := by
  unfold wd; rw [List.length_take, List.length_drop]; grind
theorem wd_app (due : List Nat) (i k j : Nat) (h1 : i ≤ k) (h2 : k ≤ j) : wd due i j = wd due i k ++ wd due k j := by
  unfold wd
  have e : j - i = (k - i) + (j - k) := by grind
  have e2 : due.drop k = (due.drop i).drop (k - i) := by rw [List.drop_drop]; congr 1; grind
  rw [e, List.take_add, e2]
theorem wd_stretch (due : List Nat) (i j : Nat) : stretchT (intsN due) i j = intsN (wd due i j) := by
  unfold stretchT wd intsN
  rw [List.map_take, List.map_drop]
theorem wd_mem (due : List Nat) (i j : Nat) : ∀ c ∈ wd due i j, c ∈ due := fun c h => List.mem_of_mem_drop (List.mem_of_mem_take h)
theorem wd_cut (due : List Nat) (i j : Nat) (hij : i ≤ j) (hj : j ≤ due.length) (a b : List Nat) (h : wd due i j = a ++ b) : i + a.length ≤ j ∧ a = wd due i (i + a.length) ∧ b = wd due (i + a.length) j := by
  have hl := congrArg List.length h
  rw [wd_len due i j hj, List.length_append] at hl
  have hk : i + a.length ≤ j := by grind
  have e := (wd_app due i (i + a.length) j (by grind) hk).symm.trans h
  obtain ⟨e1, e2⟩ := List.append_inj e (by rw [wd_len _ _ _ (by grind)]; grind)
  exact ⟨hk, e1.symm, e2.symm⟩
theorem key_inj (p q : Int) (i j a b : Nat) (hj : j ≤ 20) (hi : i ≤ 20) (ha : a ≤ 20) (hb : b ≤ 20) (h : keyT p i j = keyT q a b) : p = q ∧ i = a ∧ j = b := by
  unfold keyT at h; grind
/-- the table so far: inner symbols above L stand for every stretch -/
structure TOk (R : Int → List (List Int)) (due : List Nat) (L : Int) (D : List (Int × Int)) : Prop where
  ok : ∀ (p : Int) (i j : Nat) (v : Int), i ≤ j → j ≤ due.length → iget D (keyT p i j) = some v → Least R [p] (wd due i j) v
  full : ∀ (x : Int) (i j : Nat), L < x → x ≤ 258 → i ≤ j → j ≤ due.length → ∃ v, iget D (keyT x i j) = some v
noncomputable def Kept (D D' : List (Int × Int)) : Prop := ∀ k v, iget D k = some v → ∃ v', iget D' k = some v'
theorem Kept.refl (D : List (Int × Int)) : Kept D D := fun k v h => ⟨v, h⟩
theorem Kept.trans {a b c : List (Int × Int)} (h : Kept a b) (g : Kept b c) : Kept a c := fun k v e => let ⟨v', e'⟩ := h k v e; g k v' e'
theorem Kept.put (D : List (Int × Int)) (k v : Int) : Kept D (iput D k v) := fun a w h => by
  by_cases e : a = k
  · subst e; exact ⟨v, iput_get D a v⟩
  · exact ⟨w, by rw [iget_iput_ne D k v a e]; exact h⟩
section
variable {R : Int → List (List Int)} {due : List Nat} {L : Int}
theorem TOk.put (hn : due.length ≤ 20) {D : List (Int × Int)} (t : TOk R due L D) (p : Int) (i j : Nat) (v : Int) (hij : i ≤ j) (hj : j ≤ due.length) (hv : Least R [p] (wd due i j) v) : TOk R due L (iput D (keyT p i j) v) := by
  refine ⟨fun q a b u hab hb hu => ?_, fun x a b h0 h1 hab hb => ?_⟩
  · by_cases e : keyT q a b = keyT p i j
    · obtain ⟨rfl, rfl, rfl⟩ := key_inj q p a b i j (by grind) (by grind) (by grind) (by grind) e
      rw [iput_get] at hu
      cases hu; exact hv
    · rw [iget_iput_ne _ _ _ _ e] at hu
      exact t.ok q a b u hab hb hu
  · obtain ⟨w, hw⟩ := t.full x a b h0 h1 hab hb
    exact Kept.put D _ v _ w hw
/-- a part that stands ahead of what is asked -/
noncomputable def PartOk (L p : Int) : Prop := (∃ c : Nat, p = (c : Int) ∧ SignOk c) ∨ (L < p ∧ p ≤ 258)
theorem part_least (hc : ∀ c ∈ due, CodeOk c) {D : List (Int × Int)} (t : TOk R due L D) (p : Int) (hp : PartOk L p) (i j : Nat) (hij : i ≤ j) (hj : j ≤ due.length) : Least R [p] (wd due i j) (partV (intsN due) D p i j) := by
  unfold partV
  cases e : iget D (keyT p i j) with
  | some v => exact t.ok p i j v hij hj e
  | none =>
    rcases hp with ⟨c, rfl, hs⟩ | ⟨h0, h1⟩
    · rw [Option.getD_none, wd_stretch]
      exact alone_least R c hs _ fun x hx => hc x (wd_mem due i j x hx)
    · obtain ⟨v, hv⟩ := t.full p i j h0 h1 hij hj
      rw [e] at hv; cases hv
theorem part_tok (hn : due.length ≤ 20) (hc : ∀ c ∈ due, CodeOk c) {D : List (Int × Int)} (t : TOk R due L D) (p : Int) (hp : PartOk L p) (i j : Nat) (hij : i ≤ j) (hj : j ≤ due.length) : TOk R due L (partD (intsN due) D p i j) ∧ Kept D (partD (intsN due) D p i j) := by
  unfold partD
  split
  · exact ⟨t, .refl D⟩
  · rename_i h
    have := part_least hc t p hp i j hij hj
    unfold partV at this
    have e : iget D (keyT p i j) = none := by cases e : iget D (keyT p i j) <;> simp [e] at h ⊢
    rw [e, Option.getD_none] at this
    exact ⟨t.put hn p i j _ hij hj this, Kept.put _ _ _⟩
/-- the ways found so far come of the rules -/
noncomputable def From (R : Int → List (List Int)) (rs : List (List Int)) (w : List Nat) (ways : List Int) : Prop := ∀ v ∈ ways, ∃ r ∈ rs, ∃ s, Der R r s ∧ Al w s v
noncomputable def Covers (R : Int → List (List Int)) (r : List Int) (w : List Nat) (ways : List Int) : Prop := ∀ s c, Der R r s → Al w s c → ∃ v ∈ ways, v ≤ c
theorem From.snoc {rs : List (List Int)} {w : List Nat} {ways : List Int} (h : From R rs w ways) {v : Int} (hv : ∃ r ∈ rs, ∃ s, Der R r s ∧ Al w s v) : From R rs w (ways ++ [v]) := fun u hu => by
  rcases List.mem_append.mp hu with e | e
  · exact h u e
  · rw [List.mem_singleton.mp e]; exact hv
theorem k_ok (hn : due.length ≤ 20) (hc : ∀ c ∈ due, CodeOk c) (rs : List (List Int)) (a b : Int) (ha : PartOk L a) (hb : PartOk L b) (hr : [a, b] ∈ rs) (i j : Nat) (hij : i ≤ j) (hj : j ≤ due.length) (s : PW) (t : TOk R due L s.2) (hf : From R rs (wd due i j) s.1) :
    ∀ m, m ≤ j + 1 - i → TOk R due L (kFold (intsN due) a b i j s m).2 ∧ Kept s.2 (kFold (intsN due) a b i j s m).2 ∧ From R rs (wd due i j) (kFold (intsN due) a b i j s m).1 ∧ (∀ v ∈ s.1, v ∈ (kFold (intsN due) a b i j s m).1) ∧
      ∀ k, i ≤ k → k < i + m → ∃ v1 v2, Least R [a] (wd due i k) v1 ∧ Least R [b] (wd due k j) v2 ∧ v1 + v2 ∈ (kFold (intsN due) a b i j s m).1
  | 0, _ => ⟨t, .refl _, hf, fun v h => h, fun k h0 h1 => by grind⟩
  | m + 1, hm => by
    obtain ⟨h1, h2, h3, h4, h5⟩ := k_ok hn hc rs a b ha hb hr i j hij hj s t hf m (by grind)
    have l1 := part_least hc h1 a ha i (i + m) (by grind) (by grind)
    obtain ⟨t1, q1⟩ := part_tok hn hc h1 a ha i (i + m) (by grind) (by grind)
    have l2 := part_least hc t1 b hb (i + m) j (by grind) hj
    obtain ⟨t2, q2⟩ := part_tok hn hc t1 b hb (i + m) j (by grind) hj
    simp only [kFold, kStep]
    refine ⟨t2, (h2.trans q1).trans q2, h3.snoc ?_, fun v hv => List.mem_append_left _ (h4 v hv), fun k h0 h1' => ?_⟩
    · obtain ⟨s1, d1, e1⟩ := l1.at_
      obtain ⟨s2, d2, e2⟩ := l2.at_
      refine ⟨[a, b], hr, s1 ++ s2, d1.app d2, ?_⟩
      rw [wd_app due i (i + m) j (by grind) (by grind)]
      exact e1.app e2
    · by_cases e : k = i + m
      · subst e
        exact ⟨_, _, l1, l2, List.mem_append_right _ (List.mem_singleton.mpr rfl)⟩
      · obtain ⟨v1, v2, g1, g2, g3⟩ := h5 k h0 (by grind)
        exact ⟨v1, v2, g1, g2, List.mem_append_left _ g3⟩
theorem r_ok (hn : due.length ≤ 20) (hc : ∀ c ∈ due, CodeOk c) (rs : List (List Int)) (r : List Int) (hr : r ∈ rs) (hl : r.length ≤ 2) (hp : ∀ p ∈ r, PartOk L p) (i j : Nat) (hij : i ≤ j) (hj : j ≤ due.length) (s : PW) (t : TOk R due L s.2) (hf : From R rs (wd due i j) s.1) :
    TOk R due L (rStep (intsN due) i j s r).2 ∧ Kept s.2 (rStep (intsN due) i j s r).2 ∧ From R rs (wd due i j) (rStep (intsN due) i j s r).1 ∧ (∀ v ∈ s.1, v ∈ (rStep (intsN due) i j s r).1) ∧ Covers R r (wd due i j) (rStep (intsN due) i j s r).1 := by
  match r, hl, hp, hr with
  | [], _, _, hr =>
    have hw := wd_len due i j hj
    refine ⟨t, .refl _, hf.snoc ⟨[], hr, [], .nil, (Al.dels (wd due i j)).to (by rw [hw]; grind)⟩, fun v h => List.mem_append_left _ h, fun u c hd ha => ?_⟩
    have := hd.nil_inv
    subst this
    refine ⟨_, List.mem_append_right _ (List.mem_singleton.mpr rfl), ?_⟩
    have := ha.len.2
    rw [hw] at this
    simp only [List.length_nil] at this
    grind
  | [a], _, hp, hr =>
    have ha := hp a (.head _)
    have l1 := part_least hc t a ha i j hij hj
    obtain ⟨t1, q1⟩ := part_tok hn hc t a ha i j hij hj
    obtain ⟨s1, d1, e1⟩ := l1.at_
    exact ⟨t1, q1, hf.snoc ⟨[a], hr, s1, d1, e1⟩, fun v h => List.mem_append_left _ h, fun u c hd hal => ⟨_, List.mem_append_right _ (List.mem_singleton.mpr rfl), l1.le u c hd hal⟩⟩
  | [a, b], _, hp, hr =>
    have ha := hp a (.head _)
    have hb := hp b (.tail _ (.head _))
    obtain ⟨h1, h2, h3, h4, h5⟩ := k_ok hn hc rs a b ha hb hr i j hij hj s t hf (j + 1 - i) (Nat.le_refl _)
    refine ⟨h1, h2, h3, h4, fun u c hd hal => ?_⟩
    obtain ⟨u1, u2, rfl, d1, d2⟩ := hd.cut [a] [b] rfl
    obtain ⟨w1, w2, c1, c2, hw, a1, a2, rfl⟩ := hal.split u1 u2 rfl
    obtain ⟨hk, e1, e2⟩ := wd_cut due i j hij hj w1 w2 hw
    obtain ⟨v1, v2, g1, g2, g3⟩ := h5 (i + w1.length) (by grind) (by grind)
    refine ⟨_, g3, ?_⟩
    rw [e1] at a1
    rw [e2] at a2
    have b1 := g1.le u1 c1 d1 a1
    have b2 := g2.le u2 c2 d2 a2
    grind
end

-- law 01, the plain law: the table's cells; what the table tells
section
variable {R : Int → List (List Int)} {due : List Nat} {L : Int}
theorem fold_ok (hn : due.length ≤ 20) (hc : ∀ c ∈ due, CodeOk c) (rs : List (List Int)) (hl : ∀ r ∈ rs, r.length ≤ 2) (hp : ∀ r ∈ rs, ∀ p ∈ r, PartOk L p) (i j : Nat) (hij : i ≤ j) (hj : j ≤ due.length) (D : List (Int × Int)) (t : TOk R due L D) :
    ∀ m, m ≤ rs.length → TOk R due L (rFold (intsN due) i j rs D m).2 ∧ Kept D (rFold (intsN due) i j rs D m).2 ∧ From R rs (wd due i j) (rFold (intsN due) i j rs D m).1 ∧ ∀ q (hq : q < m) (h : q < rs.length), Covers R rs[q] (wd due i j) (rFold (intsN due) i j rs D m).1
  | 0, _ => ⟨t, .refl D, fun v h => (List.not_mem_nil h).elim, fun q hq => absurd hq (Nat.not_lt_zero _)⟩
  | m + 1, hm => by
    obtain ⟨h1, h2, h3, h4⟩ := fold_ok hn hc rs hl hp i j hij hj D t m (by grind)
    have hlt : m < rs.length := by grind
    have hg : rs.getD m [] = rs[m] := by rw [List.getD_eq_getElem?_getD, List.getElem?_eq_getElem hlt]; rfl
    have hmem : rs[m] ∈ rs := List.getElem_mem hlt
    obtain ⟨g1, g2, g3, g4, g5⟩ := r_ok hn hc rs rs[m] hmem (hl _ hmem) (hp _ hmem) i j hij hj _ h1 h3
    simp only [rFold, hg]
    refine ⟨g1, h2.trans g2, g3, fun q hq h => ?_⟩
    by_cases e : q = m
    · subst e; exact g5
    · intro s c hd ha
      obtain ⟨v, hv, hle⟩ := h4 q (by grind) h s c hd ha
      exact ⟨v, g4 v hv, hle⟩
theorem cell_ok (hn : due.length ≤ 20) (hc : ∀ c ∈ due, CodeOk c) (g : GOk R) (x : Int) (h0 : 256 ≤ x) (h1 : x ≤ 258) (i j : Nat) (hij : i ≤ j) (hj : j ≤ due.length) (D : List (Int × Int)) (t : TOk R due x D) :
    TOk R due x (cellStep (intsN due) (R x) x D (i, j)) ∧ Kept D (cellStep (intsN due) (R x) x D (i, j)) ∧ ∃ v, iget (cellStep (intsN due) (R x) x D (i, j)) (keyT x i j) = some v := by
  have hparts : ∀ r ∈ R x, ∀ p ∈ r, PartOk x p := fun r hr p hp => g.part x h0 h1 r hr p hp
  obtain ⟨t1, q1, f1, c1⟩ := fold_ok hn hc (R x) (g.rl x h0 h1) hparts i j hij hj D t (R x).length (Nat.le_refl _)
  have hcov : ∀ r ∈ R x, Covers R r (wd due i j) (rFold (intsN due) i j (R x) D (R x).length).1 := fun r hr => by
    obtain ⟨q, hq, rfl⟩ := List.getElem_of_mem hr
    exact c1 q hq hq
  have hne : (rFold (intsN due) i j (R x) D (R x).length).1 ≠ [] := by
    have := (rFold_len (intsN due) i j (R x) D hij (by grind) (R x).length).2.2
    have h2 : 0 < (R x).length := List.length_pos_iff.mpr (g.ne x h0 h1)
    intro e
    rw [e] at this
    simp only [List.length_nil] at this
    grind
  have hl : Least R [x] (wd due i j) (minI (rFold (intsN due) i j (R x) D (R x).length).1) := by
    refine ⟨?_, fun s c hd ha => ?_⟩
    · obtain ⟨r, hr, s, hd, ha⟩ := f1 _ (minI_mem _ hne)
      exact ⟨s, .rule x r [] s h0 h1 hr (by rw [List.append_nil]; exact hd), ha⟩
    · obtain ⟨r, hr, hd2⟩ := hd.rule_inv h0
      rw [List.append_nil] at hd2
      obtain ⟨v, hv, hle⟩ := hcov r hr s c hd2 ha
      exact Int.le_trans (minI_le _ v hv) hle
  unfold cellStep
  exact ⟨t1.put hn x i j _ hij hj hl, q1.trans (Kept.put _ _ _), _, iput_get _ _ _⟩
theorem cells_ok (hn : due.length ≤ 20) (hc : ∀ c ∈ due, CodeOk c) (g : GOk R) (x : Int) (h0 : 256 ≤ x) (h1 : x ≤ 258) (w : List (Nat × Nat)) (hw : ∀ p ∈ w, p.1 ≤ p.2 ∧ p.2 ≤ due.length) (D : List (Int × Int)) (t : TOk R due x D) :
    ∀ m, m ≤ w.length → TOk R due x (cells (intsN due) (R x) x w D m) ∧ ∀ q (hq : q < m) (h : q < w.length), ∃ v, iget (cells (intsN due) (R x) x w D m) (keyT x w[q].1 w[q].2) = some v
  | 0, _ => ⟨t, fun q hq => absurd hq (Nat.not_lt_zero _)⟩
  | m + 1, hm => by
    obtain ⟨t1, f1⟩ := cells_ok hn hc g x h0 h1 w hw D t m (by grind)
    have hlt : m < w.length := by grind
    have hg : w.getD m (0, 0) = w[m] := by rw [List.getD_eq_getElem?_getD, List.getElem?_eq_getElem hlt]; rfl
    obtain ⟨a1, a2⟩ := hw w[m] (List.getElem_mem hlt)
    obtain ⟨t2, q2, v2, e2⟩ := cell_ok hn hc g x h0 h1 w[m].1 w[m].2 a1 a2 _ t1
    simp only [cells, hg]
    refine ⟨t2, fun q hq h => ?_⟩
    by_cases e : q = m
    · subst e; exact ⟨v2, e2⟩
    · obtain ⟨v, hv⟩ := f1 q (by grind) h
      exact q2 _ v hv
theorem strP_all (n : Nat) : ∀ k, k ≤ n + 1 → ∀ i j, i < k → i ≤ j → j ≤ n → (i, j) ∈ strP n k
  | 0, _, i, j, h, _, _ => absurd h (Nat.not_lt_zero _)
  | k + 1, hk, i, j, hi, hij, hj => by
    unfold strP
    by_cases e : i = k
    · subst e
      exact List.mem_append_right _ (List.mem_map.mpr ⟨j - i, List.mem_range.mpr (by grind), by rw [Nat.add_sub_cancel' hij]⟩)
    · exact List.mem_append_left _ (strP_all n k (by grind) i j (by grind) hij hj)
theorem tab_ok (hn : due.length ≤ 20) (hc : ∀ c ∈ due, CodeOk c) (g : GOk R) : ∀ m : Nat, m ≤ 2 → TOk R due (258 - (m : Int)) (tabT (intsN due) R m)
  | 0, _ => ⟨fun p i j v _ _ h => (by cases h), fun x i j h0 h1 => by grind⟩
  | m + 1, hm => by
    have ih := tab_ok hn hc g m (by grind)
    have hlen : (intsN due).length = due.length := by simp [intsN]
    have hw : wantT (intsN due).length m = strP due.length (due.length + 1) := by unfold wantT; rw [if_pos (by grind), hlen]
    obtain ⟨t1, f1⟩ := cells_ok hn hc g (258 - (m : Int)) (by grind) (by grind) (strP due.length (due.length + 1)) (strP_mem due.length _ (Nat.le_refl _)) _ ih _ (Nat.le_refl _)
    simp only [tabT, hw]
    refine ⟨t1.ok, fun x i j h0 h1 hij hj => ?_⟩
    by_cases e : x = 258 - (m : Int)
    · subst e
      obtain ⟨q, hq, e2⟩ := List.getElem_of_mem (strP_all due.length (due.length + 1) (Nat.le_refl _) i j (by grind) hij hj)
      have := f1 q hq hq
      rw [e2] at this
      exact this
    · exact t1.full x i j (by grind) h1 hij hj
theorem tabV_least (hn : due.length ≤ 20) (hc : ∀ c ∈ due, CodeOk c) (g : GOk R) : Least R [256] due (tabV (intsN due) R) := by
  have ih := tab_ok (R := R) hn hc g 2 (by decide)
  have hlen : (intsN due).length = due.length := by simp [intsN]
  have hw : wantT (intsN due).length 2 = [(0, due.length)] := by unfold wantT; rw [if_neg (by decide), hlen]
  obtain ⟨t1, f1⟩ := cells_ok hn hc g 256 (by decide) (by decide) [(0, due.length)] (fun p hp => by rw [List.mem_singleton.mp hp]; exact ⟨Nat.zero_le _, Nat.le_refl _⟩) _ ih 1 (Nat.le_refl _)
  have hk := tab_get (intsN due) R
  rw [hlen] at hk
  have hk2 : iget (cells (intsN due) (R 256) 256 [(0, due.length)] (tabT (intsN due) R 2) 1) (keyT 256 0 due.length) = some (tabV (intsN due) R) := by
    have e : tabT (intsN due) R 3 = cells (intsN due) (R 256) 256 [(0, due.length)] (tabT (intsN due) R 2) 1 := by
      rw [tabT, hw]; rfl
    rw [← e, ← hk]
    congr 1
  have := t1.ok 256 0 due.length _ (Nat.zero_le _) (Nat.le_refl _) hk2
  have e : wd due 0 due.length = due := by unfold wd; simp
  rw [e] at this
  exact this
end
theorem plain01 {X : Cx} {ad : Nat → Addr} {k : Nat} (ok : X.Ok (k + 4)) (tp : Top ad X.w X.K) (henv : X.env.scope = fnS 78) (a₀ : Addr) (is : List Int) (hp : ListOf X.K a₀ is) (hl : is.length ≤ 63) :
    ∃ st', Exs X (fnB 78) ⟨[("script", .glob (.ref a₀))], []⟩ (.ret (.bool true)) st' := by
  obtain ⟨ns, hns, h10⟩ := nums_nat is
  obtain ⟨f1, f2, f3, f4⟩ := tx1_facts (ns.take 4) 4
  have hfo := fold_tx1 (ns.take 4) 4
  generalize hsp : tx1 (ns.take 4) 4 = q at f1 f2 f3 f4 hfo
  obtain ⟨sp, pl⟩ := q
  dsimp only at f1 f2 f3 f4 hfo
  have fne := f4 (by decide)
  obtain ⟨g1, g2, g3⟩ := rst_ok pl f3 pl.length
  have gne := g3 (List.length_pos_iff.mpr fne) fne
  have hda : ∀ c ∈ rowText bookF pl, CodeOk c := g1
  have hdl : (rowText bookF pl).length ≤ pl.length := g2
  have hdn : rowText bookF pl ≠ [] := gne
  generalize hdue : rowText bookF pl = due at hda hdl hdn
  have hplen : 0 < (intsN due ++ greatT (intsN due)).length := by
    rw [List.length_append]
    have : (intsN due).length = due.length := by simp [intsN]
    have := List.length_pos_iff.mpr hdn
    grind
  have g := RF_ok (intsN due ++ greatT (intsN due)) (ns.drop 4) hplen (pool_ok due hda)
  have hlow := RF_low (intsN due ++ greatT (intsN due)) (ns.drop 4)
  generalize hR : RF (intsN due ++ greatT (intsN due)) (ns.drop 4) = R at g hlow
  obtain ⟨N, n1, n2, n3, n4⟩ := sents_all g hlow
  have hn : due.length ≤ 20 := by grind
  have hle := tabV_least hn hda g
  refine bodyLaw ok tp henv [] rfl a₀ is hp hl ns hns h10 sp pl due hsp hdue (by grind) (by grind) (fun c hc => by have := al_le c (f3 c hc); grind) hn hdn (fun c hc => by have := hda c hc; unfold CodeOk at this; grind) hfo ex_eq R hR N n2 n1 g.ne
    (fun x h0 h1 => Nat.le_trans (g.len x h0 h1) (by decide)) (fun x h0 h1 q hq => Nat.le_trans (g.rl x h0 h1 q hq) (by decide)) (fun s hs => by have := n3 s hs; grind) ?_
  exact near_least due _ hn n3 n4 _ hle

theorem holds01 : PySem.Challenge.rw_rs0227_01.Holds := cw1 fun w a is hl X' ok e hK tp hp henv => plain01 (k := 46) ok tp henv a is hp hl

end Mine
set_option maxRecDepth 100000 in
set_option maxHeartbeats 8000000 in
theorem PySem.Challenge.cw_rs0227_01_holds : PySem.Challenge.rw_rs0227_01.Holds := by
  exact Mine.holds01
