import PyProof.Rows.All
import Wide.All
import OpenK.AllK
import Open.Tops
import Wide.FinOn
import PySem.Challenge.RW_to0032_01
set_option Elab.async false
section
open PySem PySem.W PyProof.Rows
set_option maxRecDepth 100000
namespace D32

section
variable {α β : Type} (p : Program) (w : World) (n₀ : Nat) (ann : Option Value)

def Go (m : Sem α) (s : Shared) (a : α) (s' : Shared) (N : Nat) : Prop :=
  ∀ (K : α → Sem Fin) (H : Value → Sem Fin) (gd : Bool → Bool) (lv : List Value → List Value) (c : Code) (pos : Pos) (F : Frame) (B : List Frame),
    ∃ n pos', n ≤ N ∧ segGo treeTable p w n₀ ann 1 n s ⟨m.wrap K H gd lv, c, pos, F :: B⟩ = some (s', ⟨K a, c, pos', F :: B⟩)

def Rn (c : Code) (s : Shared) (r : Result) (s' : Shared) (N : Nat) : Prop :=
  ∀ (k : Result → Sem Fin) (h : Option Value) (g : Bool) (l : List Value) (cd : Code) (pos pos₁ : Pos) (kept : List Value) (F : Frame) (B : List Frame),
    ∃ n, n ≤ N ∧ segGo treeTable p w n₀ ann 1 n s ⟨denote treeTable c, c, pos, .ret k h g l cd pos₁ kept :: F :: B⟩ = some (s', ⟨k r, cd, pos₁, F :: B⟩)
end

section
variable {α β : Type} {p : Program} {w : World} {n₀ : Nat} {ann : Option Value} {s s' s'' : Shared} {N M : Nat}

theorem segGo_add {n m : Nat} {s s' s'' : Shared} {t t' t'' : Thread} : segGo treeTable p w n₀ ann 1 n s t = some (s', t') → segGo treeTable p w n₀ ann 1 m s' t' = some (s'', t'') →
    segGo treeTable p w n₀ ann 1 (n + m) s t = some (s'', t'') := by
  induction n generalizing s t with
  | zero =>
    intro h k
    obtain ⟨rfl, rfl⟩ : s = s' ∧ t = t' := by simpa [segGo] using h
    rw [Nat.zero_add]; exact k
  | succ n ih =>
    intro h k
    rw [show n + 1 + m = n + m + 1 by omega]
    unfold segGo at h ⊢
    cases he : endAt 1 t with
    | some f => rw [he] at h; cases h
    | none =>
      rw [he] at h
      cases hk : stepOk n₀ ann t with
      | false => rw [hk] at h; cases h
      | true =>
        rw [hk] at h
        cases hs : step (denote treeTable) p w s t with
        | halt o s₂ => rw [hs] at h; cases h
        | go s₂ t₂ => rw [hs] at h; exact ih h k

theorem segGo_one {s s' : Shared} {t t' : Thread} (he : endAt 1 t = none) (hk : stepOk n₀ ann t = true) (hs : step (denote treeTable) p w s t = .go s' t') :
    segGo treeTable p w n₀ ann 1 1 s t = some (s', t') := by
  unfold segGo
  rw [he, hk, hs]
  rfl

theorem Go.le {m : Sem α} {a : α} (h : Go p w n₀ ann m s a s' N) (hle : N ≤ M) : Go p w n₀ ann m s a s' M := fun K H gd lv c pos F B =>
  let ⟨n, q, hn, e⟩ := h K H gd lv c pos F B
  ⟨n, q, Nat.le_trans hn hle, e⟩
theorem Rn.le {c : Code} {r : Result} (h : Rn p w n₀ ann c s r s' N) (hle : N ≤ M) : Rn p w n₀ ann c s r s' M := fun k hd g l cd pos q kept F B =>
  let ⟨n, hn, e⟩ := h k hd g l cd pos q kept F B
  ⟨n, Nat.le_trans hn hle, e⟩

theorem goPure {a : α} : Go p w n₀ ann (.pure a) s a s 0 := fun _ _ _ _ _ pos _ _ => ⟨0, pos, Nat.le_refl _, rfl⟩
theorem goPure' {a : α} : Go p w n₀ ann (Pure.pure a : Sem α) s a s 0 := goPure

theorem goBind {m : Sem α} {f : α → Sem β} {a : α} {b : β} (h : Go p w n₀ ann m s a s' N) (k : Go p w n₀ ann (f a) s' b s'' M) : Go p w n₀ ann (m >>= f) s b s'' (N + M) := by
  intro K H gd lv c pos F B
  rw [Sem.bind_eq_wrap', Sem.wrap_wrap]
  obtain ⟨n, q, hn, e⟩ := h (fun a => (f a).wrap K H gd lv) (fun e => (Sem.raise e : Sem β).wrap K H gd lv) (fun g => gd (id g)) (fun l => lv (id l)) c pos F B
  obtain ⟨n', q', hn', e'⟩ := k K H gd lv c q F B
  exact ⟨n + n', q', Nat.add_le_add hn hn', segGo_add e e'⟩
theorem goKeep {m : Sem α} {a : α} {vs : List Value} (h : Go p w n₀ ann m s a s' N) : Go p w n₀ ann (m.keep vs) s a s' N := by
  intro K H gd lv c pos F B
  rw [Sem.keep_eq_wrap, Sem.wrap_wrap]
  exact h K (fun e => (Sem.raise e : Sem α).wrap K H gd lv) (fun g => gd (id g)) (fun l => lv (vs ++ l)) c pos F B
theorem goHolding {m : Sem α} {a : α} {vs : List Value} (h : Go p w n₀ ann m s a s' N) : Go p w n₀ ann (holding vs m) s a s' N := by
  unfold PySem.holding
  split
  · exact h
  · exact goKeep h
theorem goOnRaise {m : Sem α} {a : α} {g : Value → Sem Unit} (h : Go p w n₀ ann m s a s' N) : Go p w n₀ ann (m.onRaise g) s a s' N := by
  intro K H gd lv c pos F B
  rw [Sem.onRaise_eq_wrap, Sem.wrap_wrap]
  exact h K _ (fun g => gd (id g)) (fun l => lv (id l)) c pos F B
theorem goTryCatch {m : Sem α} {a : α} {g : Value → Sem α} (h : Go p w n₀ ann m s a s' N) : Go p w n₀ ann (m.tryCatch g) s a s' N := by
  intro K H gd lv c pos F B
  rw [Sem.tryCatch_eq_wrap, Sem.wrap_wrap]
  exact h K _ (fun g => gd ((fun _ => true) g)) (fun l => lv (id l)) c pos F B

theorem goOne {m : Sem α} {a : α} (x : ∀ (K : α → Sem Fin) (H : Value → Sem Fin) (gd : Bool → Bool) (lv : List Value → List Value) (c : Code) (pos : Pos) (F : Frame) (B : List Frame), ∃ t : Thread,
      endAt 1 ⟨m.wrap K H gd lv, c, pos, F :: B⟩ = none ∧ stepOk n₀ ann ⟨m.wrap K H gd lv, c, pos, F :: B⟩ = true ∧ step (denote treeTable) p w s ⟨m.wrap K H gd lv, c, pos, F :: B⟩ = .go s' t ∧
      ∃ n q, n ≤ N ∧ segGo treeTable p w n₀ ann 1 n s' t = some (s'', ⟨K a, c, q, F :: B⟩)) : Go p w n₀ ann m s a s'' (N + 1) := by
  intro K H gd lv c pos F B
  obtain ⟨t, h1, h2, h3, n, q, hn, e⟩ := x K H gd lv c pos F B
  refine ⟨1 + n, q, by omega, segGo_add (segGo_one h1 h2 h3) e⟩

theorem endAt_of {x : Sem Fin} {c : Code} {pos : Pos} {st : List Frame} (h : ∀ f, x ≠ .pure (.done f)) : endAt 1 ⟨x, c, pos, st⟩ = none := by
  cases hx : endAt 1 ⟨x, c, pos, st⟩ with
  | none => rfl
  | some f =>
    exfalso
    unfold endAt at hx
    dsimp only at hx
    split at hx
    · exact h _ rfl
    · cases hx

theorem goRule {tag : String} {k : Unit → Sem α} {a : α} (h : Go p w n₀ ann (k ()) s a s' N) : Go p w n₀ ann (.rule tag k) s a s' (N + 1) :=
  goOne fun K H gd lv c pos F B => ⟨_, endAt_of (by intro f e; cases e), rfl, rfl, h K H gd lv c pos F B⟩
theorem goAt {q : Pos} {k : Unit → Sem α} {a : α} (h : Go p w n₀ ann (k ()) s a s' N) : Go p w n₀ ann (.at q k) s a s' (N + 1) :=
  goOne fun K H gd lv c _ F B => ⟨_, endAt_of (by intro f e; cases e), rfl, rfl, h K H gd lv c q F B⟩
theorem goPoint {l : List Value} {k : Unit → Sem α} {a : α} (h : Go p w n₀ ann (k ()) s a s' N) : Go p w n₀ ann (.point l k) s a s' (N + 1) :=
  goOne fun K H gd lv c pos F B => ⟨_, endAt_of (by intro f e; cases e), rfl, rfl, h K H gd lv c pos F B⟩
theorem goAsk {k : Setting → Sem α} {a : α} (h : Go p w n₀ ann (k ⟨p, w.params⟩) s a s' N) : Go p w n₀ ann (.ask k) s a s' (N + 1) :=
  goOne fun K H gd lv c pos F B => ⟨_, endAt_of (by intro f e; cases e), rfl, rfl, h K H gd lv c pos F B⟩
theorem goFresh {k : Tok → Sem α} {a : α} (h : Go p w n₀ ann (k s.toks) { s with toks := s.toks + 1 } a s' N) : Go p w n₀ ann (.fresh k) s a s' (N + 1) :=
  goOne fun K H gd lv c pos F B => ⟨_, endAt_of (by intro f e; cases e), rfl, rfl, h K H gd lv c pos F B⟩
theorem goAlloc {o : Obj} {k : Addr → Sem α} {a : α} (h : Go p w n₀ ann (k s.heap.objs.size) { s with heap := s.heap.push o } a s' N) : Go p w n₀ ann (.alloc o k) s a s' (N + 1) :=
  goOne fun K H gd lv c pos F B => ⟨_, endAt_of (by intro f e; cases e), rfl, rfl, h K H gd lv c pos F B⟩
theorem goLoad {b : Addr} {part : Option Value} {k : Obj → Sem α} {a : α} {o : Obj} (ho : s.heap.get? b = some o) (h : Go p w n₀ ann (k o) s a s' N) : Go p w n₀ ann (.load b part k) s a s' (N + 1) :=
  goOne fun K H gd lv c pos F B => ⟨_, endAt_of (by intro f e; cases e), rfl, by simp only [Sem.wrap, step, ho], h K H gd lv c pos F B⟩
theorem goUpdate {b : Addr} {part : Option Value} {f : Obj → Obj} {k : Unit → Sem α} {a : α} (hb : n₀ ≤ b) (ho : (s.heap.get? b).isSome = true) (h : Go p w n₀ ann (k ()) { s with heap := s.heap.update b f } a s' N) :
    Go p w n₀ ann (.update b part f k) s a s' (N + 1) :=
  goOne fun K H gd lv c pos F B => ⟨_, endAt_of (by intro f e; cases e),
    by
      have e : Nat.ble n₀ b = true := Nat.ble_eq_true_of_le hb
      simp only [Sem.wrap, stepOk, e, Bool.true_or, Bool.and_true]; rfl,
    by simp only [Sem.wrap, step, ho, if_true], h K H gd lv c pos F B⟩

theorem goCall {c : Code} {hd : Option Value} {g : Bool} {l : List Value} {k : Result → Sem α} {a : α} {r : Result} (h : Rn p w n₀ ann c s r s' N) (h2 : Go p w n₀ ann (k r) s' a s'' M) : Go p w n₀ ann (.call c hd g l k) s a s'' (N + M + 1) := by
  refine goOne fun K H gd lv cd pos F B => ⟨_, endAt_of (by intro f e; cases e), rfl, rfl, ?_⟩
  obtain ⟨n, hn, e⟩ := h (fun r => (k r).wrap K H gd lv) hd (gd g) (lv l) cd pos pos _ F B
  obtain ⟨n', q', hn', e'⟩ := h2 K H gd lv cd pos F B
  exact ⟨n + n', q', Nat.add_le_add hn hn', segGo_add e e'⟩

theorem wrap_self (m : Sem α) : m.wrap .pure .raise id id = m := by
  induction m <;> simp only [Sem.wrap, id, *]

theorem rnDone {c : Code} {f : Flow} (h : Go p w n₀ ann (denote treeTable c) s (.done f) s' N) : Rn p w n₀ ann c s (.ok f) s' (N + 1) := by
  intro k hd g l cd pos pos₁ kept F B
  obtain ⟨n, q, hn, e⟩ := h .pure .raise id id c pos (.ret k hd g l cd pos₁ kept) (F :: B)
  rw [wrap_self] at e
  refine ⟨n + 1, by omega, segGo_add e (segGo_one rfl rfl rfl)⟩
theorem rnAgain {c c' : Code} {r : Result} (h : Go p w n₀ ann (denote treeTable c) s (.again c') s' N) (hq : c'.quiet = true) (h2 : Rn p w n₀ ann c' s' r s'' M) : Rn p w n₀ ann c s r s'' (N + M + 1) := by
  intro k hd g l cd pos pos₁ kept F B
  obtain ⟨n, q, hn, e⟩ := h .pure .raise id id c pos (.ret k hd g l cd pos₁ kept) (F :: B)
  rw [wrap_self] at e
  have ok : stepOk n₀ ann ⟨.pure (.again c'), c, q, .ret k hd g l cd pos₁ kept :: F :: B⟩ = true := by
    have : Thread.calm ⟨.pure (.again c'), c, q, .ret k hd g l cd pos₁ kept :: F :: B⟩ = true := by
      rw [Thread.calm_eq, Thread.loud_again, hq]; rfl
    simp only [stepOk, this, Bool.and_true]
  have st : ∃ kept', step (denote treeTable) p w s' ⟨.pure (.again c'), c, q, .ret k hd g l cd pos₁ kept :: F :: B⟩ = .go s' ⟨denote treeTable c', c', q, .ret k hd g l cd pos₁ kept' :: F :: B⟩ := by
    obtain ⟨heap, gens, drawn, toks, os⟩ := s'
    exact ⟨_, PySem.W.step_again⟩
  obtain ⟨kept', st⟩ := st
  obtain ⟨n', hn', e'⟩ := h2 k hd g l cd q pos₁ kept' F B
  refine ⟨n + (1 + n'), by omega, segGo_add e (segGo_add (segGo_one (endAt_of (by intro f e; cases e)) ok st) e')⟩

theorem goSeq (N M : Nat) {L : Nat} {m : Sem α} {f : α → Sem β} {a : α} {b : β} (h : Go p w n₀ ann m s a s' N) (k : Go p w n₀ ann (f a) s' b s'' M) (hL : N + M ≤ L := by omega) : Go p w n₀ ann (m >>= f) s b s'' L := (goBind h k).le hL
theorem goOf_eq {m m' : Sem α} {a : α} (e : m = m') (h : Go p w n₀ ann m' s a s' N) : Go p w n₀ ann m s a s' N := e ▸ h
end
end D32
end
section
open PySem PySem.W PyProof.Rows
set_option maxRecDepth 100000
namespace D32

section
variable {α β : Type} {p : Program} {w : World} {n₀ : Nat} {ann : Option Value} {s s' s'' : Shared} {N M : Nat}

theorem goLoadPart {b : Addr} {part : Option Value} {o : Obj} (ho : s.heap.get? b = some o) : Go p w n₀ ann (PySem.loadPart b part) s o s 1 := goLoad ho goPure
theorem goMkInt {i : Int} : Go p w n₀ ann (PySem.mkInt i) s (.int i s.toks) { s with toks := s.toks + 1 } 1 := goFresh goPure
theorem goMkText {x : Str} : Go p w n₀ ann (PySem.mkText x) s (.str x s.toks) { s with toks := s.toks + 1 } 1 := goFresh goPure
theorem goStandAt {q : Pos} : Go p w n₀ ann (PySem.standAt q) s () s 1 := goAt goPure
theorem goRule' {t : String} : Go p w n₀ ann (PySem.rule t) s () s 1 := goRule goPure
theorem goPoint' : Go p w n₀ ann PySem.point s () s 1 := goPoint goPure
theorem goAsk' : Go p w n₀ ann PySem.ask s ⟨p, w.params⟩ s 1 := goAsk goPure
theorem goTypeOf_ref {b : Addr} {o : Obj} (ho : s.heap.get? b = some o) : Go p w n₀ ann (PySem.typeOf (.ref b)) s o.cls s 1 :=
  goOf_eq (m' := PySem.loadPart b (some headPart) >>= fun o => Pure.pure o.cls) rfl (goSeq 1 0 (goLoadPart ho) goPure')

theorem check_int_hash (k : Int) (t : Tok) : checkBuiltinCall "int.__hash__" ⟨[.int k t], []⟩ = pure () := by
  have hsplit : splitId "int.__hash__" = some ("int", "__hash__") := by decide +kernel
  have hk : builtinKind "int.__hash__" = some .slot := by decide +kernel
  have ha := args_int_hash (.int k t)
  unfold argsOk at ha
  simp only [checkBuiltinCall, hk, hsplit, isInstance, typeOf, pure_bind, isSubtype_int_int, Bool.not_true, Bool.false_eq_true, if_false]
  cases hs : Manifest.signature? "int.__hash__" with
  | none => rfl
  | some sig => rw [hs] at ha; exact ha

theorem entryT_int_hash : entryFor treeTable "int.__hash__" = some Builtin.«int.__hash__» := by rw [← table_eq_tree]; exact entry_int_hash

theorem rnInt_hash {k : Int} {t : Tok} : Rn p w n₀ ann (.call (.builtin "int.__hash__") ⟨[.int k t], []⟩) s (.ok (.ret (.int (rawHash k) s.toks))) { s with toks := s.toks + 1 } 4 := by
  have e1 : denote treeTable (.call (.builtin "int.__hash__") ⟨[.int k t], []⟩) = Sem.pure (.again (.builtin "int.__hash__" ⟨[.int k t], []⟩)) := by
    show (checkBuiltinCall "int.__hash__" ⟨[.int k t], []⟩ >>= fun _ => again (.builtin "int.__hash__" ⟨[.int k t], []⟩)) = _
    rw [check_int_hash]; rfl
  have e2 : denote treeTable (.builtin "int.__hash__" ⟨[.int k t], []⟩) = (do ret (← PySem.mkInt (rawHash k))) := by
    show (match entryFor treeTable "int.__hash__" with | some b => b ⟨[.int k t], []⟩ | none => unsupported ((withoutEnding? "int.__hash__" "#data").getD "int.__hash__")) = _
    rw [entryT_int_hash]
    rfl
  refine (rnAgain (N := 0) (M := 2) (s' := s) (c' := Code.builtin "int.__hash__" ⟨[.int k t], []⟩) ?_ (Code.quiet_builtin _ (by decide +kernel)) ?_).le (by decide)
  · rw [e1]; exact goPure (a := Fin.again _)
  · refine (rnDone (N := 1) ?_).le (by decide)
    rw [e2]
    exact goSeq 1 0 goMkInt goPure

theorem goPyHash_int {k : Int} {t : Tok} : Go p w n₀ ann (pyHash (.int k t)) s (hashInt k) { s with toks := s.toks + 1 } 10 := by
  have hr := rawHash_range k
  have hl : typeLookup (.type "int") "__hash__" = pure (some (.builtin "int.__hash__")) := slot_int_hash.lookup
  have hb : bindSpecial (.builtin "int.__hash__") (.int k t) = pure (.builtin "int.__hash__", [.int k t]) := slot_int_hash.bind _
  have hv : [Value.int k t].any Value.onHeap = false := rfl
  have hs : specialOf (.int k t) "__hash__" = pure (some (.builtin "int.__hash__")) := by
    unfold specialOf; simp only [typeOf, pure_bind]; exact hl
  have hi : Go p w n₀ ann (bindSpecialIfBound? (.int k t) "__hash__") s (some (.builtin "int.__hash__", [.int k t])) s 1 := by
    unfold bindSpecialIfBound?
    rw [hs]
    simp only [pure_bind, hb]
    refine goSeq 1 0 goAsk' ?_
    split
    · exact goPure
    · exact goTryCatch goPure
  have hc : ∀ refuse, Go p w n₀ ann (callSpecialIfBoundUnlessNone? (.int k t) "__hash__" refuse) s (some (.int (rawHash k) s.toks)) { s with toks := s.toks + 1 } 7 := by
    intro refuse
    unfold callSpecialIfBoundUnlessNone?
    refine goHolding (goSeq 1 6 hi ?_)
    have hn : ((Value.builtin "int.__hash__") == Value.none) = false := by decide
    simp only [hn, Bool.false_eq_true, if_false]
    refine goSeq 5 0 (a := Value.int (rawHash k) s.toks) (s' := { s with toks := s.toks + 1 }) ?_ goPure
    refine goSeq 5 0 (a := Flow.ret (.int (rawHash k) s.toks)) (s' := { s with toks := s.toks + 1 }) ?_ goPure
    exact Go.le (goCall rnInt_hash (M := 0) goPure) (show 4 + 0 + 1 ≤ 5 by decide)
  show Go p w n₀ ann (pyHashByItsType (.int k t)) _ _ _ _
  unfold pyHashByItsType
  have hr0 : cRoomFor "hash" [Value.int k t] = pure () := by
    show (if [Value.int k t].any Value.onHeap then cRoom "hash" else pure ()) = _
    rw [if_neg (by rw [hv]; exact Bool.false_ne_true)]
  rw [hr0, hs]
  simp only [pure_bind]
  have hn : ((some (Value.builtin "int.__hash__")) == some Value.none) = false := by decide
  simp only [hn, Bool.false_eq_true, if_false, Option.isNone_some, pure_bind]
  refine goSeq 7 0 (hc _) ?_
  show Go p w n₀ ann (if (decide (-(2 : Int) ^ 63 ≤ rawHash k) && decide (rawHash k < 2 ^ 63)) = true then _ else _) _ _ _ _
  rw [if_pos (by rw [decide_eq_true hr.1, decide_eq_true hr.2]; rfl)]
  exact goPure


def HL (base l : List Obj) : Heap := ⟨⟨base ++ l⟩, {}⟩
theorem HL_size (base l : List Obj) : (HL base l).objs.size = base.length + l.length := by simp [HL]
theorem HL_push (base l : List Obj) (o : Obj) : (HL base l).push o = HL base (l ++ [o]) := by simp [HL, Heap.push]
theorem HL_get {base l : List Obj} {i : Nat} {o : Obj} (h : l[i]? = some o) (hf : o.isFreed = false) : (HL base l).get? (base.length + i) = some o := by
  have e : (HL base l).objs[base.length + i]? = some o := by
    simp only [HL, List.getElem?_toArray]
    rw [List.getElem?_append_right (by omega)]
    simpa using h
  unfold Heap.get?
  rw [e]
  obtain ⟨c, d, dt, sl⟩ := o
  cases dt <;> first | rfl | (simp [Obj.isFreed] at hf)
theorem HL_update {base l : List Obj} {i : Nat} {f : Obj → Obj} : (HL base l).update (base.length + i) f = HL base (l.modify i f) := by
  simp only [HL, Heap.update, Heap.mk.injEq, and_true]
  apply Array.ext'
  simp only [Array.toList_modify]
  induction base with
  | nil => simp
  | cons b base ih =>
    simp only [List.cons_append, List.length_cons]
    rw [show base.length + 1 + i = base.length + i + 1 by omega, List.modify_succ_cons, ih]

theorem modify_set {α : Type} {f : α → α} {x : α} : ∀ {l : List α} {i : Nat}, l[i]? = some x → l.modify i f = l.set i (f x)
  | a :: l, 0, h => by simp at h; subst h; simp
  | a :: l, i + 1, h => by
    simp at h
    rw [List.modify_succ_cons, List.set_cons_succ, modify_set h]

theorem mapKeys_dict {es : List DictEntry} {n : Nat} {e : DictEntry} : Obj.mapDictKeys (·.push e) (dictOf es n) = dictOf (es ++ [e]) (n + 1) := by
  simp [Obj.mapDictKeys, dictOf]

section
variable {base l : List Obj} {g : Array GenState} {dr : Drawn} {tk : Nat} {os : OsState} {i : Nat} {es : List DictEntry} {n : Nat}
theorem goKeys {e : DictEntry} {part : Option Value} (ho : l[i]? = some (dictOf es n)) (hb : n₀ ≤ base.length) (hz : es.length ≤ 2000) :
    Go p w n₀ ann (updateDictKeys (base.length + i) (·.push e) part) ⟨HL base l, g, dr, tk, os⟩ () ⟨HL base (l.set i (dictOf (es ++ [e]) (n + 1))), g, dr, tk, os⟩ 4 := by
  have hg : (HL base l).get? (base.length + i) = some (dictOf es n) := HL_get ho rfl
  have hu : (HL base l).update (base.length + i) (Obj.mapDictKeys (·.push e)) = HL base (l.set i (dictOf (es ++ [e]) (n + 1))) := by
    rw [HL_update, modify_set ho, mapKeys_dict]
  have hi : i < l.length := (List.getElem?_eq_some_iff.mp ho).1
  have hg2 : (HL base (l.set i (dictOf (es ++ [e]) (n + 1)))).get? (base.length + i) = some (dictOf (es ++ [e]) (n + 1)) := HL_get (by simp [hi]) rfl
  unfold updateDictKeys
  refine goSeq 1 3 (goLoadPart (s := ⟨HL base l, g, dr, tk, os⟩) hg) ?_
  refine goSeq 1 2 (s' := ⟨HL base (l.set i (dictOf (es ++ [e]) (n + 1))), g, dr, tk, os⟩) (a := ()) ?_ ?_
  · refine Go.le (goUpdate (s := ⟨HL base l, g, dr, tk, os⟩) (N := 0) (by omega) (by show ((HL base l).get? _).isSome = true; rw [hg]; rfl) ?_) (Nat.le_refl 1)
    show Go p w n₀ ann (Sem.pure ()) ⟨(HL base l).update _ _, g, dr, tk, os⟩ _ _ _
    rw [hu]
    exact goPure
  · unfold lookBehind
    refine goSeq 1 0 (goLoadPart (s := ⟨HL base (l.set i (dictOf (es ++ [e]) (n + 1))), g, dr, tk, os⟩) hg2) ?_
    have : (dictOf (es ++ [e]) (n + 1)).data.pastItsLine = none := by
      show (if (es ++ [e]).toArray.size > sizeLine + 1 then _ else _) = _
      rw [if_neg]
      rw [List.size_toArray, List.length_append, List.length_singleton]
      have : sizeLine = 16777216 := rfl
      omega
    rw [this]
    exact goPure

theorem places_none {es : List DictEntry} {h : Int} (hh : ∀ e ∈ es, e.hash ≠ h) : placesWithHash es.toArray.size (fun i => es.toArray[i]?.map (·.hash)) h = [] := by
  unfold placesWithHash
  rw [List.filter_eq_nil_iff]
  intro j _
  simp only [List.getElem?_toArray]
  cases e : es[j]? with
  | none => simp
  | some x => simpa using hh x (List.mem_of_getElem? e)

theorem goFind {k : Int} {t : Tok} {h : Int} (ho : l[i]? = some (dictOf es n)) (hh : ∀ e ∈ es, e.hash ≠ h) :
    Go p w n₀ ann (dictFind (base.length + i) (.int k t) h) ⟨HL base l, g, dr, tk, os⟩ none ⟨HL base l, g, dr, tk, os⟩ 1 := by
  have hg : (HL base l).get? (base.length + i) = some (dictOf es n) := HL_get ho rfl
  unfold dictFind
  refine goHolding (goSeq 1 0 (a := es.toArray) (s' := ⟨HL base l, g, dr, tk, os⟩) ?_ ?_)
  · unfold dictEntries
    exact goSeq 1 0 (goLoadPart (s := ⟨HL base l, g, dr, tk, os⟩) hg) goPure
  · have hp := places_none hh
    dsimp only
    rw [hp]
    show Go p w n₀ ann (dictWalkPlain (base.length + i) (.int k t) h es.toArray [] >>= fun r => pure r) _ _ _ _
    exact goSeq 0 0 (a := none) goPure goPure

theorem goDictSet {k : Int} {t : Tok} {v : Value} (ho : l[i]? = some (dictOf es n)) (hh : ∀ e ∈ es, e.hash ≠ hashInt k) (hb : n₀ ≤ base.length) (hz : es.length ≤ 2000) :
    Go p w n₀ ann (dictSet (base.length + i) (.int k t) v) ⟨HL base l, g, dr, tk, os⟩ () ⟨HL base (l.set i (dictOf (es ++ [⟨hashInt k, .int k t, v⟩]) (n + 1))), g, dr, tk + 1, os⟩ 20 := by
  unfold dictSet
  refine goHolding (goSeq 10 10 goPyHash_int ?_)
  unfold dictSetHashed
  refine goHolding (goSeq 1 5 (goFind ho hh) ?_)
  refine goSeq 1 4 goRule' ?_
  exact goKeys ho hb hz

theorem goDictPut {k : Int} {t : Tok} {h : Int} {v : Value} (ho : l[i]? = some (dictOf es n)) (hh : ∀ e ∈ es, e.hash ≠ h) (hb : n₀ ≤ base.length) (hz : es.length ≤ 2000) :
    Go p w n₀ ann (dictPut (base.length + i) h (.int k t) v) ⟨HL base l, g, dr, tk, os⟩ () ⟨HL base (l.set i (dictOf (es ++ [⟨h, .int k t, v⟩]) (n + 1))), g, dr, tk, os⟩ 5 := by
  unfold dictPut
  refine goSeq 1 4 (goFind ho hh) ?_
  exact goKeys ho hb hz
end

end
end D32
end
section
open PySem PySem.W PyProof.Rows
set_option maxRecDepth 100000
namespace D32

section
variable {α β : Type} {p : Program} {w : World} {n₀ : Nat} {ann : Option Value} {s s' s'' : Shared} {N M : Nat}

def item (env : Env) (pos : Pos) (kv : Int × Str) : Sem Value × Sem Value := (constValue env (.int kv.1), do let x ← constValue env (.str kv.2); standAt pos; pure x)
def ents : Nat → List (Int × Str) → List DictEntry
  | _, [] => []
  | tk, kv :: r => ⟨hashInt kv.1, .int kv.1 tk, .str kv.2 (tk + 1)⟩ :: ents (tk + 3) r
def ents2 : Nat → List (Int × Str) → List DictEntry
  | _, [] => []
  | tk, kv :: r => ⟨hashInt kv.1, .int kv.1 tk, .str kv.2 (tk + 1)⟩ :: ents2 (tk + 2) r
theorem ents_length : ∀ (tk : Nat) (ps : List (Int × Str)), (ents tk ps).length = ps.length
  | _, [] => rfl
  | tk, _ :: r => by simp [ents, ents_length (tk + 3) r]
theorem ents2_length : ∀ (tk : Nat) (ps : List (Int × Str)), (ents2 tk ps).length = ps.length
  | _, [] => rfl
  | tk, _ :: r => by simp [ents2, ents2_length (tk + 2) r]
theorem ents_append : ∀ (tk : Nat) (a b : List (Int × Str)), ents tk (a ++ b) = ents tk a ++ ents (tk + 3 * a.length) b
  | _, [], _ => rfl
  | tk, x :: a, b => by
    simp only [List.cons_append, ents, ents_append (tk + 3) a b, List.length_cons]
    rw [show tk + 3 + 3 * a.length = tk + 3 * (a.length + 1) by omega]

def okKeys : Int → List (Int × Str) → Bool
  | _, [] => true
  | lo, kv :: r => decide (lo < kv.1) && (hashInt kv.1 == kv.1) && okKeys kv.1 r
def Low (hi : Int) (es : List DictEntry) : Prop := ∀ e ∈ es, e.hash ≤ hi
def topKey : Int → List (Int × Str) → Int
  | lo, [] => lo
  | _, kv :: r => topKey kv.1 r
theorem okKeys_append : ∀ (lo : Int) (a b : List (Int × Str)), okKeys lo (a ++ b) = true → okKeys lo a = true ∧ okKeys (topKey lo a) b = true
  | _, [], _, h => ⟨rfl, h⟩
  | lo, x :: a, b, h => by
    simp only [List.cons_append, okKeys, Bool.and_eq_true] at h ⊢
    obtain ⟨h1, h2⟩ := okKeys_append x.1 a b h.2
    exact ⟨⟨h.1, h1⟩, h2⟩
theorem topKey_ge : ∀ (lo : Int) (a : List (Int × Str)), okKeys lo a = true → lo ≤ topKey lo a
  | _, [], _ => Int.le_refl _
  | lo, x :: a, h => by
    simp only [okKeys, Bool.and_eq_true, decide_eq_true_eq] at h
    exact Int.le_trans (Int.le_of_lt h.1.1) (topKey_ge x.1 a h.2)
theorem low_ents : ∀ (lo : Int) (tk : Nat) (a : List (Int × Str)), okKeys lo a = true → Low (topKey lo a) (ents tk a)
  | _, _, [], _ => fun _ h => nomatch h
  | lo, tk, x :: a, h => by
    simp only [okKeys, Bool.and_eq_true, decide_eq_true_eq, beq_iff_eq] at h
    intro e he
    simp only [ents, List.mem_cons] at he
    rcases he with rfl | he
    · show hashInt x.1 ≤ _; rw [h.1.2]; exact topKey_ge x.1 a h.2
    · exact low_ents x.1 (tk + 3) a h.2 e he
theorem Low.append {hi : Int} {a b : List DictEntry} (h1 : Low hi a) (h2 : Low hi b) : Low hi (a ++ b) := fun e he => (List.mem_append.mp he).elim (h1 e) (h2 e)
theorem Low.mono {hi hi' : Int} {a : List DictEntry} (h1 : Low hi a) (h : hi ≤ hi') : Low hi' a := fun e he => Int.le_trans (h1 e he) h

variable {base l : List Obj} {g : Array GenState} {dr : Drawn} {os : OsState}

theorem set_last {α : Type} (l : List α) (x y : α) : (l ++ [x]).set l.length y = l ++ [y] := by simp
theorem get_last {α : Type} (l : List α) (x : α) : (l ++ [x])[l.length]? = some x := by simp

theorem goItem1 {env : Env} {pos : Pos} {kv : Int × Str} : Go p w n₀ ann (item env pos kv).1 s (.int kv.1 s.toks) { s with toks := s.toks + 1 } 1 := goMkInt
theorem goItem2 {env : Env} {pos : Pos} {kv : Int × Str} : Go p w n₀ ann (item env pos kv).2 s (.str kv.2 s.toks) { s with toks := s.toks + 1 } 2 := by
  refine goSeq 1 1 (goMkText (x := kv.2)) ?_
  exact goSeq 1 0 goStandAt goPure

theorem goLong (env : Env) (pos : Pos) (hb : n₀ ≤ base.length) : ∀ (ps : List (Int × Str)) (lo : Int) (es : List DictEntry) (n tk : Nat), okKeys lo ps = true → Low lo es → es.length + ps.length ≤ 2000 →
    Go p w n₀ ann (forIn (ps.map (item env pos)) PUnit.unit fun (x : Sem Value × Sem Value) (_ : PUnit) => (do
        let kv ← x.1
        let vv ← holding [kv] x.2
        holding [kv, vv] (dictSet (base.length + l.length) kv vv)
        pure (ForInStep.yield PUnit.unit) : Sem (ForInStep PUnit)))
      ⟨HL base (l ++ [dictOf es n]), g, dr, tk, os⟩ PUnit.unit ⟨HL base (l ++ [dictOf (es ++ ents tk ps) (n + ps.length)]), g, dr, tk + 3 * ps.length, os⟩ (24 * ps.length)
  | [], lo, es, n, tk, _, _, _ => by
    simp only [List.map_nil, List.forIn_nil, ents, List.append_nil, List.length_nil, Nat.mul_zero, Nat.add_zero]
    exact goPure
  | kv :: r, lo, es, n, tk, hk, hlo, hz => by
    simp only [okKeys, Bool.and_eq_true, decide_eq_true_eq, beq_iff_eq] at hk
    simp only [List.length_cons] at hz
    rw [List.map_cons, List.forIn_cons]
    refine goSeq 24 (24 * r.length) (a := ForInStep.yield PUnit.unit) (s' := ⟨HL base (l ++ [dictOf (es ++ [⟨hashInt kv.1, .int kv.1 tk, .str kv.2 (tk + 1)⟩]) (n + 1)]), g, dr, tk + 3, os⟩) ?_ ?_ (by simp only [List.length_cons]; omega)
    · refine goSeq 1 23 (goItem1 (s := ⟨HL base (l ++ [dictOf es n]), g, dr, tk, os⟩)) ?_
      refine goSeq 2 21 (goHolding goItem2) ?_
      refine goSeq 20 0 (a := ()) (s' := ⟨HL base (l ++ [dictOf (es ++ [⟨hashInt kv.1, .int kv.1 tk, .str kv.2 (tk + 1)⟩]) (n + 1)]), g, dr, tk + 3, os⟩) ?_ goPure
      have := goDictSet (p := p) (w := w) (ann := ann) (base := base) (l := l ++ [dictOf es n]) (g := g) (dr := dr) (os := os) (tk := tk + 1 + 1) (k := kv.1) (t := tk) (v := .str kv.2 (tk + 1)) (get_last _ _) (fun e he => by have := hlo e he; rw [hk.1.2]; omega) hb (by omega)
      rw [set_last] at this
      exact goHolding this
    · have ih := goLong env pos hb r kv.1 (es ++ [⟨hashInt kv.1, .int kv.1 tk, .str kv.2 (tk + 1)⟩]) (n + 1) (tk + 3) hk.2 ((hlo.mono (Int.le_of_lt hk.1.1)).append (by
        intro e he
        simp only [List.mem_singleton] at he
        subst he
        show hashInt kv.1 ≤ kv.1
        rw [hk.1.2]; exact Int.le_refl _)) (by simp only [List.length_append, List.length_singleton]; omega)
      simp only [List.append_assoc, List.singleton_append] at ih
      simp only [ents, List.length_cons]
      rw [show tk + 3 * (r.length + 1) = tk + 3 + 3 * r.length by omega, show n + (r.length + 1) = n + 1 + r.length by omega]
      exact ih

theorem goSubLong (env : Env) (pos : Pos) (hb : n₀ ≤ base.length) (ps : List (Int × Str)) (lo : Int) (tk : Nat) (hk : okKeys lo ps = true) (hl : 15 < ps.length) (hz : ps.length ≤ 2000) :
    Go p w n₀ ann (subDict (ps.map (item env pos))) ⟨HL base l, g, dr, tk, os⟩ (base.length + l.length) ⟨HL base (l ++ [dictOf (ents tk ps) ps.length]), g, dr, tk + 3 * ps.length, os⟩ (24 * ps.length + 3) := by
  unfold subDict
  refine goSeq 1 (24 * ps.length + 2) (a := base.length + l.length) (s' := ⟨HL base (l ++ [dictOf [] 0]), g, dr, tk, os⟩) ?_ ?_
  · refine Go.le (goAlloc (N := 0) ?_) (Nat.le_refl _)
    show Go p w n₀ ann (Sem.pure (HL base l).objs.size) ⟨(HL base l).push _, g, dr, tk, os⟩ _ _ _
    rw [HL_size, HL_push]
    exact goPure
  · refine goSeq (24 * ps.length + 2) 0 (a := ()) (s' := ⟨HL base (l ++ [dictOf (ents tk ps) ps.length]), g, dr, tk + 3 * ps.length, os⟩) ?_ goPure
    have hn : ¬ ((ps.map (item env pos)).length ≤ 15) := by rw [List.length_map]; omega
    rw [if_neg hn]
    refine goHolding (goSeq 1 (24 * ps.length) goRule' ?_)
    have := goLong (p := p) (w := w) (ann := ann) (base := base) (l := l) (g := g) (dr := dr) (os := os) env pos hb ps lo [] 0 tk hk (fun _ h => nomatch h) (by simpa using hz)
    simp only [List.nil_append, Nat.zero_add] at this
    exact goSeq (24 * ps.length) 0 this goPure

theorem low_ents2 : ∀ (lo : Int) (tk : Nat) (a : List (Int × Str)), okKeys lo a = true → Low (topKey lo a) (ents2 tk a)
  | _, _, [], _ => fun _ h => nomatch h
  | lo, tk, x :: a, h => by
    simp only [okKeys, Bool.and_eq_true, decide_eq_true_eq, beq_iff_eq] at h
    intro e he
    simp only [ents2, List.mem_cons] at he
    rcases he with rfl | he
    · show hashInt x.1 ≤ _; rw [h.1.2]; exact topKey_ge x.1 a h.2
    · exact low_ents2 x.1 (tk + 2) a h.2 e he

def vals2 : Nat → List (Int × Str) → List (Value × Value)
  | _, [] => []
  | tk, kv :: r => (.int kv.1 tk, .str kv.2 (tk + 1)) :: vals2 (tk + 2) r

theorem goPairs (env : Env) (pos : Pos) : ∀ (ps : List (Int × Str)) (h : Heap) (tk : Nat),
    Go p w n₀ ann (evalPairs (ps.map (item env pos))) ⟨h, g, dr, tk, os⟩ (vals2 tk ps) ⟨h, g, dr, tk + 2 * ps.length, os⟩ (3 * ps.length)
  | [], _, _ => goPure
  | kv :: r, h, tk => by
    rw [List.map_cons]
    unfold evalPairs
    refine goSeq 1 (2 + 3 * r.length) (goItem1 (s := ⟨h, g, dr, tk, os⟩)) ?_ (by simp only [List.length_cons]; omega)
    refine goSeq 2 (3 * r.length) (goHolding goItem2) ?_
    refine goSeq (3 * r.length) 0 (goHolding (goPairs env pos r h (tk + 2))) ?_
    have e : tk + 2 + 2 * r.length = tk + 2 * (kv :: r).length := by simp only [List.length_cons]; omega
    rw [e]
    exact goPure

theorem goPuts (hb : n₀ ≤ base.length) : ∀ (ps : List (Int × Str)) (lo : Int) (es : List DictEntry) (n tk u : Nat), okKeys lo ps = true → Low lo es → es.length + ps.length ≤ 2000 →
    Go p w n₀ ann (forIn (vals2 u ps) PUnit.unit fun (x : Value × Value) (_ : PUnit) => (do
        dictSet (base.length + l.length) x.1 x.2
        pure (ForInStep.yield PUnit.unit) : Sem (ForInStep PUnit)))
      ⟨HL base (l ++ [dictOf es n]), g, dr, tk, os⟩ PUnit.unit ⟨HL base (l ++ [dictOf (es ++ ents2 u ps) (n + ps.length)]), g, dr, tk + ps.length, os⟩ (24 * ps.length)
  | [], lo, es, n, tk, u, _, _, _ => by
    simp only [vals2, List.forIn_nil, ents2, List.append_nil, List.length_nil, Nat.mul_zero, Nat.add_zero]
    exact goPure
  | kv :: r, lo, es, n, tk, u, hk, hlo, hz => by
    simp only [okKeys, Bool.and_eq_true, decide_eq_true_eq, beq_iff_eq] at hk
    simp only [List.length_cons] at hz
    simp only [vals2]
    rw [List.forIn_cons]
    refine goSeq 24 (24 * r.length) (a := ForInStep.yield PUnit.unit) (s' := ⟨HL base (l ++ [dictOf (es ++ [⟨hashInt kv.1, .int kv.1 u, .str kv.2 (u + 1)⟩]) (n + 1)]), g, dr, tk + 1, os⟩) ?_ ?_ (by simp only [List.length_cons]; omega)
    · refine goSeq 20 0 (a := ()) (s' := ⟨HL base (l ++ [dictOf (es ++ [⟨hashInt kv.1, .int kv.1 u, .str kv.2 (u + 1)⟩]) (n + 1)]), g, dr, tk + 1, os⟩) ?_ goPure
      have := goDictSet (p := p) (w := w) (ann := ann) (base := base) (l := l ++ [dictOf es n]) (g := g) (dr := dr) (os := os) (tk := tk) (k := kv.1) (t := u) (v := .str kv.2 (u + 1)) (get_last _ _) (fun e he => by have := hlo e he; rw [hk.1.2]; omega) hb (by omega)
      rw [set_last] at this
      exact this
    · have ih := goPuts hb r kv.1 (es ++ [⟨hashInt kv.1, .int kv.1 u, .str kv.2 (u + 1)⟩]) (n + 1) (tk + 1) (u + 2) hk.2 ((hlo.mono (Int.le_of_lt hk.1.1)).append (by
        intro e he
        simp only [List.mem_singleton] at he
        subst he
        show hashInt kv.1 ≤ kv.1
        rw [hk.1.2]; exact Int.le_refl _)) (by simp only [List.length_append, List.length_singleton]; omega)
      simp only [List.append_assoc, List.singleton_append] at ih
      simp only [ents2, List.length_cons]
      rw [show tk + (r.length + 1) = tk + 1 + r.length by omega, show n + (r.length + 1) = n + 1 + r.length by omega]
      exact ih

theorem goSubShort (env : Env) (pos : Pos) (hb : n₀ ≤ base.length) (ps : List (Int × Str)) (lo : Int) (tk : Nat) (hk : okKeys lo ps = true) (hl : ps.length ≤ 15) :
    Go p w n₀ ann (subDict (ps.map (item env pos))) ⟨HL base l, g, dr, tk, os⟩ (base.length + l.length) ⟨HL base (l ++ [dictOf (ents2 tk ps) ps.length]), g, dr, tk + 3 * ps.length, os⟩ (27 * ps.length + 3) := by
  unfold subDict
  refine goSeq 1 (27 * ps.length + 2) (a := base.length + l.length) (s' := ⟨HL base (l ++ [dictOf [] 0]), g, dr, tk, os⟩) ?_ ?_
  · refine Go.le (goAlloc (N := 0) ?_) (Nat.le_refl _)
    show Go p w n₀ ann (Sem.pure (HL base l).objs.size) ⟨(HL base l).push _, g, dr, tk, os⟩ _ _ _
    rw [HL_size, HL_push]
    exact goPure
  · refine goSeq (27 * ps.length + 2) 0 (a := ()) (s' := ⟨HL base (l ++ [dictOf (ents2 tk ps) ps.length]), g, dr, tk + 3 * ps.length, os⟩) ?_ goPure
    have hn : (ps.map (item env pos)).length ≤ 15 := by rw [List.length_map]; omega
    rw [if_pos hn]
    refine goHolding (goSeq (3 * ps.length) (24 * ps.length) (goPairs env pos ps _ tk) ?_)
    have := goPuts (p := p) (w := w) (ann := ann) (base := base) (l := l) (g := g) (dr := dr) (os := os) hb ps lo [] 0 (tk + 2 * ps.length) tk hk (fun _ h => nomatch h) (by simp only [List.length_nil]; omega)
    simp only [List.nil_append, Nat.zero_add] at this
    rw [show tk + 2 * ps.length + ps.length = tk + 3 * ps.length by omega] at this
    exact goHolding (goSeq (24 * ps.length) 0 this goPure)

theorem look_dict_iter : typeLookup (.type "dict") "__iter__" = pure (some (.builtin "dict.__iter__")) := by rw [typeLookup_type, builtinLookup_eq_fast]; kernel_rfl



theorem goRangeLoop {subs : List Obj} {se : List DictEntry} (hpw : se.Pairwise (fun a b => a.hash < b.hash)) (f : Nat → PUnit → Sem (ForInStep PUnit))
    (hf : ∀ (i : Nat) (e : DictEntry) (es : List DictEntry) (n tk : Nat), se[i]? = some e → (∀ x ∈ es, x.hash ≠ e.hash) → es.length ≤ 2000 →
      Go p w n₀ ann (f i PUnit.unit) ⟨HL base (dictOf es n :: subs), g, dr, tk, os⟩ (.yield PUnit.unit) ⟨HL base (dictOf (es ++ [e]) (n + 1) :: subs), g, dr, tk, os⟩ 8) :
    ∀ (k i : Nat) (es : List DictEntry) (n tk : Nat), i + k = se.length → (∀ j e, i ≤ j → se[j]? = some e → ∀ x ∈ es, x.hash < e.hash) → es.length + k ≤ 2000 →
      Go p w n₀ ann (forIn (List.range' i k) PUnit.unit f) ⟨HL base (dictOf es n :: subs), g, dr, tk, os⟩ PUnit.unit ⟨HL base (dictOf (es ++ se.drop i) (n + k) :: subs), g, dr, tk, os⟩ (8 * k)
  | 0, i, es, n, tk, hi, _, _ => by
    have : se.drop i = [] := List.drop_eq_nil_of_le (by omega)
    rw [this, List.append_nil]
    simp only [List.range'_zero, List.forIn_nil, Nat.mul_zero, Nat.add_zero]
    exact goPure
  | k + 1, i, es, n, tk, hi, hlo, hz => by
    have hlt : i < se.length := by omega
    rw [List.range'_succ, List.forIn_cons]
    have he : se[i]? = some se[i] := List.getElem?_eq_getElem hlt
    refine goSeq 8 (8 * k) (hf i se[i] es n tk he (fun x hx => Int.ne_of_lt (hlo i _ (Nat.le_refl _) he x hx)) (by omega)) ?_
    have ih := goRangeLoop hpw f hf k (i + 1) (es ++ [se[i]]) (n + 1) tk (by omega) (fun j e hj hje x hx => by
      rcases List.mem_append.mp hx with hx | hx
      · exact hlo j e (by omega) hje x hx
      · simp only [List.mem_singleton] at hx
        subst hx
        obtain ⟨hj', rfl⟩ := List.getElem?_eq_some_iff.mp hje
        exact List.pairwise_iff_getElem.mp hpw i j hlt hj' (by omega)) (by simp only [List.length_append, List.length_singleton]; omega)
    rw [List.append_assoc, List.singleton_append, ← List.drop_eq_getElem_cons hlt, show n + 1 + k = n + (k + 1) by omega] at ih
    exact ih

theorem goMerge {j₀ : Nat} {subs : List Obj} {es se : List DictEntry} {n sn tk : Nat} {lo : Int} (hb : n₀ ≤ base.length) (hbig : 10 < base.length) (hsub : subs[j₀]? = some (dictOf se sn)) (hne : es ≠ []) (hlo : Low lo es) (hse : ∀ e ∈ se, lo < e.hash)
    (hpw : se.Pairwise (fun a b => a.hash < b.hash)) (hkey : ∀ e ∈ se, ∃ k t, e.key = .int k t) (hz : es.length + se.length ≤ 2000) :
    Go p w n₀ ann (mergeMapping (base.length + 0) (.ref (base.length + (1 + j₀))) false) ⟨HL base (dictOf es n :: subs), g, dr, tk, os⟩ () ⟨HL base (dictOf (es ++ se) (n + se.length) :: subs), g, dr, tk, os⟩ (8 * se.length + 10) := by
  have hg : ∀ x, (HL base (x :: subs)).get? (base.length + (1 + j₀)) = some (dictOf se sn) := fun x => HL_get (by rw [Nat.add_comm 1 j₀, List.getElem?_cons_succ]; exact hsub) rfl
  have hg0 : (HL base (dictOf es n :: subs)).get? (base.length + 0) = some (dictOf es n) := HL_get rfl rfl
  unfold mergeMapping
  refine goSeq 1 (8 * se.length + 9) (a := true) (s' := ⟨HL base (dictOf es n :: subs), g, dr, tk, os⟩) ?_ ?_
  · unfold isInstance
    refine goSeq 1 0 (goTypeOf_ref (s := ⟨HL base (dictOf es n :: subs), g, dr, tk, os⟩) (hg _)) ?_
    show Go p w n₀ ann (isSubtype (.type "dict") (.type "dict")) _ _ _ _
    rw [isSubtype_dict_dict]
    exact goPure
  · dsimp only
    rw [if_pos rfl]
    refine goSeq 1 (8 * se.length + 8) (a := some (.builtin "dict.__iter__")) (s' := ⟨HL base (dictOf es n :: subs), g, dr, tk, os⟩) ?_ ?_
    · unfold specialOf
      refine goSeq 1 0 (goTypeOf_ref (s := ⟨HL base (dictOf es n :: subs), g, dr, tk, os⟩) (hg _)) ?_
      show Go p w n₀ ann (typeLookup (.type "dict") "__iter__") _ _ _ _
      rw [look_dict_iter]
      exact goPure
    · refine goSeq 0 (8 * se.length + 8) goPure ?_
      have h0 : ((some (Value.builtin "dict.__iter__")) == some (Value.builtin "dict.__iter__")) = true := by decide
      simp only [h0]
      have h1 : ¬ (((base.length + (1 + j₀)) == sysModules) = true) := by
        have : sysModules = (1 : Nat) := rfl
        rw [this]
        simp; omega
      rw [if_neg h1]
      refine goSeq 1 (8 * se.length + 7) (a := es.toArray) (s' := ⟨HL base (dictOf es n :: subs), g, dr, tk, os⟩) ?_ ?_
      · unfold dictEntries
        exact goSeq 1 0 (goLoadPart (s := ⟨HL base (dictOf es n :: subs), g, dr, tk, os⟩) hg0) goPure
      · have he : ¬ (es.toArray.isEmpty = true) := by cases es with | nil => exact absurd rfl hne | cons => simp
        rw [if_neg he]
        refine goSeq 1 (8 * se.length + 6) (a := se.toArray) (s' := ⟨HL base (dictOf es n :: subs), g, dr, tk, os⟩) ?_ ?_
        · unfold dictEntries
          exact goSeq 1 0 (goLoadPart (s := ⟨HL base (dictOf es n :: subs), g, dr, tk, os⟩) (hg _)) goPure
        refine goSeq 1 (8 * se.length + 5) (a := sn) (s' := ⟨HL base (dictOf es n :: subs), g, dr, tk, os⟩) ?_ ?_
        · unfold dictEpoch
          exact goSeq 1 0 (goLoadPart (s := ⟨HL base (dictOf es n :: subs), g, dr, tk, os⟩) (hg _)) goPure
        rw [List.size_toArray, List.range_eq_range']
        have := goRangeLoop (p := p) (w := w) (n₀ := n₀) (ann := ann) (base := base) (g := g) (dr := dr) (os := os) (subs := subs) hpw (fun i __s => do
            let __do_lift ← dictEntries (base.length + (1 + j₀))
            match __do_lift[i]? with
              | some e => do
                holding [e.key, e.val] (dictPut (base.length + 0) e.hash e.key e.val)
                let __do_lift ← dictEpoch (base.length + (1 + j₀))
                if (__do_lift != sn) = true then do
                    unsupported "dict.changed-during-merge"
                    pure (ForInStep.yield PUnit.unit)
                  else pure (ForInStep.yield PUnit.unit)
              | x => do
                unsupported "dict.changed-during-merge"
                pure (ForInStep.yield PUnit.unit)) ?_ se.length 0 es n tk (by omega) ?_ hz
        · rw [List.drop_zero] at this
          exact goSeq (8 * se.length) 0 this goPure
        · intro i e es n tk hie hx hz
          refine goSeq 1 7 (a := se.toArray) (s' := ⟨HL base (dictOf es n :: subs), g, dr, tk, os⟩) ?_ ?_
          · unfold dictEntries
            exact goSeq 1 0 (goLoadPart (s := ⟨HL base (dictOf es n :: subs), g, dr, tk, os⟩) (hg _)) goPure
          have e1 : se.toArray[i]? = some e := by rw [List.getElem?_toArray]; exact hie
          simp only [e1]
          obtain ⟨k, t, hk⟩ := hkey e (List.mem_of_getElem? hie)
          refine goSeq 5 2 (a := ()) (s' := ⟨HL base (dictOf (es ++ [e]) (n + 1) :: subs), g, dr, tk, os⟩) ?_ ?_
          · refine goHolding ?_
            have := goDictPut (p := p) (w := w) (ann := ann) (base := base) (l := dictOf es n :: subs) (i := 0) (g := g) (dr := dr) (os := os) (tk := tk) (k := k) (t := t) (h := e.hash) (v := e.val) rfl hx hb hz
            rw [hk]
            have e2 : (⟨e.hash, .int k t, e.val⟩ : DictEntry) = e := by rw [← hk]
            rw [e2] at this
            exact this
          · refine goSeq 1 0 (a := sn) (s' := ⟨HL base (dictOf (es ++ [e]) (n + 1) :: subs), g, dr, tk, os⟩) ?_ ?_
            · unfold dictEpoch
              exact goSeq 1 0 (goLoadPart (s := ⟨HL base (dictOf (es ++ [e]) (n + 1) :: subs), g, dr, tk, os⟩) (hg _)) goPure
            · have : (sn != sn) = false := by simp
              rw [this]
              exact goPure
        · intro j e _ hj x hx
          exact Int.lt_of_le_of_lt (hlo x hx) (hse e (List.mem_of_getElem? hj))

theorem ents_facts : ∀ (lo : Int) (tk : Nat) (a : List (Int × Str)), okKeys lo a = true → (ents tk a).Pairwise (fun x y => x.hash < y.hash) ∧ ∀ e ∈ ents tk a, lo < e.hash ∧ ∃ k t, e.key = .int k t
  | _, _, [], _ => ⟨.nil, fun _ h => nomatch h⟩
  | lo, tk, x :: a, h => by
    simp only [okKeys, Bool.and_eq_true, decide_eq_true_eq, beq_iff_eq] at h
    obtain ⟨h1, h2⟩ := ents_facts x.1 (tk + 3) a h.2
    refine ⟨List.pairwise_cons.mpr ⟨fun e he => ?_, h1⟩, fun e he => ?_⟩
    · show hashInt x.1 < e.hash; rw [h.1.2]; exact (h2 e he).1
    · simp only [ents, List.mem_cons] at he
      rcases he with rfl | he
      · exact ⟨by show lo < hashInt x.1; rw [h.1.2]; exact h.1.1, _, _, rfl⟩
      · exact ⟨Int.lt_trans h.1.1 (h2 e he).1, (h2 e he).2⟩
theorem ents2_facts : ∀ (lo : Int) (tk : Nat) (a : List (Int × Str)), okKeys lo a = true → (ents2 tk a).Pairwise (fun x y => x.hash < y.hash) ∧ ∀ e ∈ ents2 tk a, lo < e.hash ∧ ∃ k t, e.key = .int k t
  | _, _, [], _ => ⟨.nil, fun _ h => nomatch h⟩
  | lo, tk, x :: a, h => by
    simp only [okKeys, Bool.and_eq_true, decide_eq_true_eq, beq_iff_eq] at h
    obtain ⟨h1, h2⟩ := ents2_facts x.1 (tk + 2) a h.2
    refine ⟨List.pairwise_cons.mpr ⟨fun e he => ?_, h1⟩, fun e he => ?_⟩
    · show hashInt x.1 < e.hash; rw [h.1.2]; exact (h2 e he).1
    · simp only [ents2, List.mem_cons] at he
      rcases he with rfl | he
      · exact ⟨by show lo < hashInt x.1; rw [h.1.2]; exact h.1.1, _, _, rfl⟩
      · exact ⟨Int.lt_trans h.1.1 (h2 e he).1, (h2 e he).2⟩

def subsOf : Nat → List (List (Int × Str)) → List Obj
  | _, [] => []
  | tk, c :: r => dictOf (ents tk c) c.length :: subsOf (tk + 3 * c.length) r
def itemsOf (env : Env) (pos : Pos) (ps : List (Int × Str)) : List (Option (Sem Value) × Sem Value) := ps.map fun kv => (some (item env pos kv).1, (item env pos kv).2)

section
variable {env : Env} {pos : Pos} {f : (Option (Sem Value) × Sem Value) → (Option Addr × List (Sem Value × Sem Value)) → Sem (ForInStep (Option Addr × List (Sem Value × Sem Value)))}
  {fl : List (Sem Value × Sem Value) → Option Addr → Sem (Option Addr)}

theorem gather17 (hA : ∀ (q : Sem Value × Sem Value) m r, r.length + 1 < 17 → f (some q.1, q.2) (m, r) = pure (.yield (m, r ++ [q])))
    (hB : ∀ (q : Sem Value × Sem Value) m r, r.length + 1 = 17 → f (some q.1, q.2) (m, r) = (fl (r ++ [q]) m >>= fun m' => pure (.yield (m', [])))) (m : Option Addr) (rest : List (Option (Sem Value) × Sem Value)) :
    ∀ (c : List (Int × Str)) (r : List (Sem Value × Sem Value)), r.length + c.length = 17 → c ≠ [] →
      forIn (itemsOf env pos c ++ rest) (m, r) f = (fl (r ++ c.map (item env pos)) m >>= fun m' => forIn rest (m', []) f)
  | [], _, _, h => absurd rfl h
  | [x], r, h, _ => by
    have e : itemsOf env pos [x] ++ rest = (some (item env pos x).1, (item env pos x).2) :: rest := rfl
    rw [e, List.forIn_cons, hB _ _ _ (by simpa using h), bind_assoc]
    rfl
  | x :: y :: c, r, h, _ => by
    have e : itemsOf env pos (x :: y :: c) ++ rest = (some (item env pos x).1, (item env pos x).2) :: (itemsOf env pos (y :: c) ++ rest) := rfl
    rw [e, List.forIn_cons, hA _ _ _ (by simp at h ⊢; omega), pure_bind]
    show forIn (itemsOf env pos (y :: c) ++ rest) (m, r ++ [item env pos x]) f = _
    rw [gather17 hA hB m rest (y :: c) (r ++ [item env pos x]) (by simp at h ⊢; omega) (by simp), List.map_cons (l := y :: c), List.append_assoc, List.singleton_append]

theorem gatherLast (hA : ∀ (q : Sem Value × Sem Value) m r, r.length + 1 < 17 → f (some q.1, q.2) (m, r) = pure (.yield (m, r ++ [q]))) (m : Option Addr) :
    ∀ (c : List (Int × Str)) (r : List (Sem Value × Sem Value)), r.length + c.length < 17 → forIn (itemsOf env pos c) (m, r) f = (pure (m, r ++ c.map (item env pos)) : Sem _)
  | [], r, _ => by simp [itemsOf]
  | x :: c, r, h => by
    have e : itemsOf env pos (x :: c) = (some (item env pos x).1, (item env pos x).2) :: itemsOf env pos c := rfl
    rw [e, List.forIn_cons, hA _ _ _ (by simp at h ⊢; omega), pure_bind]
    show forIn (itemsOf env pos c) (m, r ++ [item env pos x]) f = _
    rw [gatherLast hA m c (r ++ [item env pos x]) (by simp at h ⊢; omega), List.map_cons, List.append_assoc, List.singleton_append]

theorem goChunks (hb : n₀ ≤ base.length) (hbig : 10 < base.length) (hA : ∀ (q : Sem Value × Sem Value) m r, r.length + 1 < 17 → f (some q.1, q.2) (m, r) = pure (.yield (m, r ++ [q])))
    (hB : ∀ (q : Sem Value × Sem Value) m r, r.length + 1 = 17 → f (some q.1, q.2) (m, r) = (fl (r ++ [q]) m >>= fun m' => pure (.yield (m', []))))
    (hF : ∀ (run : List (Sem Value × Sem Value)) (s s' s'' : Shared) (sub N M : Nat), run ≠ [] → Go p w n₀ ann (subDict run) s sub s' N → Go p w n₀ ann (mergeMapping (base.length + 0) (.ref sub) false) s' () s'' M →
      Go p w n₀ ann (fl run (some (base.length + 0))) s (some (base.length + 0)) s'' (N + M))
    (last : List (Int × Str)) (hl : last.length ≤ 15) : ∀ (cs : List (List (Int × Str))) (lo : Int) (E : List DictEntry) (n tk : Nat) (subs : List Obj), (∀ c ∈ cs, c.length = 17) → okKeys lo (cs.flatten ++ last) = true → Low lo E → E ≠ [] → E.length + cs.flatten.length ≤ 2000 →
      Go p w n₀ ann (forIn (itemsOf env pos (cs.flatten ++ last)) (some (base.length + 0), ([] : List (Sem Value × Sem Value))) f) ⟨HL base (dictOf E n :: subs), g, dr, tk, os⟩ (some (base.length + 0), last.map (item env pos))
        ⟨HL base (dictOf (E ++ ents tk cs.flatten) (n + cs.flatten.length) :: (subs ++ subsOf tk cs)), g, dr, tk + 3 * cs.flatten.length, os⟩ (33 * cs.flatten.length)
  | [], lo, E, n, tk, subs, _, _, _, _, _ => by
    simp only [List.flatten_nil, List.nil_append, List.length_nil, ents, subsOf, List.append_nil, Nat.mul_zero, Nat.add_zero]
    rw [gatherLast hA _ _ _ (by simp; omega), List.nil_append]
    exact goPure
  | c :: cs, lo, E, n, tk, subs, hcs, hk, hlo, hne, hz => by
    have hc : c.length = 17 := hcs c List.mem_cons_self
    have hcne : c ≠ [] := by intro e; rw [e] at hc; cases hc
    simp only [List.flatten_cons, List.append_assoc, List.length_append] at hk hz ⊢
    obtain ⟨k1, k2⟩ := okKeys_append lo c _ hk
    obtain ⟨w1, w2⟩ := ents_facts lo tk c k1
    have e : itemsOf env pos (c ++ (cs.flatten ++ last)) = itemsOf env pos c ++ itemsOf env pos (cs.flatten ++ last) := by simp [itemsOf]
    rw [e, gather17 hA hB _ _ c [] (by simp [hc]) hcne, List.nil_append]
    have h1 := goSubLong (p := p) (w := w) (ann := ann) (base := base) (l := dictOf E n :: subs) (g := g) (dr := dr) (os := os) env pos hb c lo tk k1 (by omega) (by omega)
    rw [List.cons_append, List.length_cons, show subs.length + 1 = 1 + subs.length by omega] at h1
    have h2 := goMerge (p := p) (w := w) (ann := ann) (base := base) (g := g) (dr := dr) (os := os) (j₀ := subs.length) (subs := subs ++ [dictOf (ents tk c) c.length]) (es := E) (se := ents tk c) (n := n) (sn := c.length) (tk := tk + 3 * c.length) hb hbig (by simp) hne hlo (fun e he => (w2 e he).1) w1 (fun e he => (w2 e he).2) (by rw [ents_length]; omega)
    rw [ents_length] at h2
    have h3 := hF _ _ _ _ _ _ _ (by simpa using hcne) h1 h2
    refine goSeq _ (33 * cs.flatten.length) h3 ?_ (by omega)
    have ih := goChunks hb hbig hA hB hF last hl cs (topKey lo c) (E ++ ents tk c) (n + c.length) (tk + 3 * c.length) (subs ++ [dictOf (ents tk c) c.length]) (fun x hx => hcs x (List.mem_cons_of_mem _ hx)) k2
      ((hlo.mono (topKey_ge lo c k1)).append (low_ents lo tk c k1)) (by simp [hne]) (by rw [List.length_append, ents_length]; omega)
    rw [ents_append]
    simp only [subsOf]
    simp only [List.append_assoc, List.singleton_append] at ih ⊢
    rw [show n + (c.length + cs.flatten.length) = n + c.length + cs.flatten.length by omega, show tk + 3 * (c.length + cs.flatten.length) = tk + 3 * c.length + 3 * cs.flatten.length by omega]
    exact ih
end

theorem goDisplay (env : Env) (pos : Pos) (hb : n₀ ≤ base.length) (hbig : 10 < base.length) (c : List (Int × Str)) (cs : List (List (Int × Str))) (last : List (Int × Str)) (hc : c.length = 17) (hcs : ∀ c ∈ cs, c.length = 17) (hl : last.length ≤ 15) (hl0 : last ≠ [])
    (lo : Int) (tk : Nat) (hk : okKeys lo (c ++ (cs.flatten ++ last)) = true) (hz : c.length + cs.flatten.length + last.length ≤ 2000) :
    Go p w n₀ ann (dictDisplay (itemsOf env pos (c ++ (cs.flatten ++ last)))) ⟨HL base [], g, dr, tk, os⟩ (.ref base.length)
      ⟨HL base (dictOf (ents tk (c ++ cs.flatten) ++ ents2 (tk + 3 * (c ++ cs.flatten).length) last) ((c ++ cs.flatten).length + last.length) :: (subsOf (tk + 3 * 17) cs ++ [dictOf (ents2 (tk + 3 * (c ++ cs.flatten).length) last) last.length])), g, dr, tk + 3 * (c ++ cs.flatten).length + 3 * last.length, os⟩ 70000 := by
  have hcne : c ≠ [] := by intro e; rw [e] at hc; cases hc
  obtain ⟨k1, k2⟩ := okKeys_append lo c _ hk
  obtain ⟨k3, k4⟩ := okKeys_append _ _ _ k2
  have e : itemsOf env pos (c ++ (cs.flatten ++ last)) = itemsOf env pos c ++ itemsOf env pos (cs.flatten ++ last) := by simp [itemsOf]
  rw [e]
  unfold dictDisplay
  dsimp only
  let fl : List (Sem Value × Sem Value) → Option Addr → Sem (Option Addr) := fun run m => if run.isEmpty = true then pure m else
    match m with
    | none => do
      let d ← subDict run
      pure (some d)
    | some d => do
      let sub ← holding [Value.ref d] (subDict run)
      (holding [Value.ref d, Value.ref sub] (mergeMapping d (Value.ref sub) false)).onRaise fun x => do
        let _ ← holding [Value.ref d, x] (runValue (Code.builtin "proto.let_go" { }))
        pure ()
      pure (some d)
  have hF : ∀ (run : List (Sem Value × Sem Value)) (s s' s'' : Shared) (sub N M : Nat), run ≠ [] → Go p w n₀ ann (subDict run) s sub s' N → Go p w n₀ ann (mergeMapping (base.length + 0) (.ref sub) false) s' () s'' M →
      Go p w n₀ ann (fl run (some (base.length + 0))) s (some (base.length + 0)) s'' (N + M) := by
    intro run s s' s'' sub N M hr h1 h2
    have he : ¬ (run.isEmpty = true) := by simpa using hr
    show Go p w n₀ ann (if run.isEmpty = true then _ else _) _ _ _ _
    rw [if_neg he]
    refine goSeq N M (goHolding h1) ?_
    exact goSeq M 0 (goOnRaise (goHolding h2)) goPure
  have hN : ∀ (run : List (Sem Value × Sem Value)) (s s' : Shared) (d N : Nat), run ≠ [] → Go p w n₀ ann (subDict run) s d s' N → Go p w n₀ ann (fl run none) s (some d) s' N := by
    intro run s s' d N hr h1
    have he : ¬ (run.isEmpty = true) := by simpa using hr
    show Go p w n₀ ann (if run.isEmpty = true then _ else _) _ _ _ _
    rw [if_neg he]
    exact goSeq N 0 h1 goPure
  have h1 := goSubLong (p := p) (w := w) (ann := ann) (base := base) (l := []) (g := g) (dr := dr) (os := os) env pos hb c lo tk k1 (by omega) (by omega)
  rw [List.nil_append, List.length_nil] at h1
  have h2 := hN _ _ _ _ _ (by simpa using hcne) h1
  obtain ⟨w1, w2⟩ := ents2_facts _ (tk + 3 * (c ++ cs.flatten).length) last k4
  have k5 := topKey_ge _ _ k3
  refine goSeq (24 * 17 + 3 + 33 * cs.flatten.length) 1000 (a := (some (base.length + 0), last.map (item env pos)))
    (s' := ⟨HL base (dictOf (ents tk (c ++ cs.flatten)) (c ++ cs.flatten).length :: subsOf (tk + 3 * 17) cs), g, dr, tk + 3 * (c ++ cs.flatten).length, os⟩) ?_ ?_
  · rw [gather17 (fl := fl) ?hA ?hB none (itemsOf env pos (cs.flatten ++ last)) c [] (by simp [hc]) hcne, List.nil_append]
    case hA =>
      intro q m r h
      have hne : ((r ++ [(q.1, q.2)]).length == 17) = false := by simp; omega
      simp only [hne, Bool.false_eq_true, if_false]
    case hB =>
      intro q m r h
      have hne : ((r ++ [(q.1, q.2)]).length == 17) = true := by simp; omega
      simp only [hne, if_true]
      rfl
    refine goSeq (24 * c.length + 3) (33 * cs.flatten.length) h2 ?_ (by rw [hc]; omega)
    have key : ∀ (f : (Option (Sem Value) × Sem Value) → (Option Addr × List (Sem Value × Sem Value)) → Sem (ForInStep (Option Addr × List (Sem Value × Sem Value)))),
        (∀ (q : Sem Value × Sem Value) m r, r.length + 1 < 17 → f (some q.1, q.2) (m, r) = pure (.yield (m, r ++ [q]))) →
        (∀ (q : Sem Value × Sem Value) m r, r.length + 1 = 17 → f (some q.1, q.2) (m, r) = (fl (r ++ [q]) m >>= fun m' => pure (.yield (m', [])))) →
        Go p w n₀ ann (forIn (itemsOf env pos (cs.flatten ++ last)) (some (base.length + 0), ([] : List (Sem Value × Sem Value))) f) ⟨HL base [dictOf (ents tk c) c.length], g, dr, tk + 3 * c.length, os⟩ (some (base.length + 0), last.map (item env pos))
          ⟨HL base (dictOf (ents tk (c ++ cs.flatten)) (c ++ cs.flatten).length :: subsOf (tk + 3 * 17) cs), g, dr, tk + 3 * (c ++ cs.flatten).length, os⟩ (33 * cs.flatten.length) := by
      intro f hA hB
      have h3 := goChunks (p := p) (w := w) (n₀ := n₀) (ann := ann) (base := base) (g := g) (dr := dr) (os := os) (env := env) (pos := pos) (f := f) (fl := fl) hb hbig hA hB hF last hl cs (topKey lo c) (ents tk c) c.length (tk + 3 * c.length) [] hcs k2 (low_ents lo tk c k1)
        (by intro e; have := congrArg List.length e; rw [ents_length] at this; rw [hc] at this; cases this) (by rw [ents_length]; omega)
      rw [← ents_append] at h3
      rw [show c.length + cs.flatten.length = (c ++ cs.flatten).length by simp, List.nil_append, show tk + 3 * c.length + 3 * cs.flatten.length = tk + 3 * (c ++ cs.flatten).length by simp; omega] at h3
      rw [show tk + 3 * 17 = tk + 3 * c.length by rw [hc]]
      exact h3
    refine key _ ?_ ?_
    · intro q m r h
      have hne : ((r ++ [(q.1, q.2)]).length == 17) = false := by simp; omega
      simp only [hne, Bool.false_eq_true, if_false]
    · intro q m r h
      have hne : ((r ++ [(q.1, q.2)]).length == 17) = true := by simp; omega
      simp only [hne, if_true]
      rfl
  · refine goSeq 1000 0 (a := some (base.length + 0)) (Go.le (hF (last.map (item env pos)) _ ⟨HL base (dictOf (ents tk (c ++ cs.flatten)) (c ++ cs.flatten).length :: (subsOf (tk + 3 * 17) cs ++ [dictOf (ents2 (tk + 3 * (c ++ cs.flatten).length) last) last.length])), g, dr, tk + 3 * (c ++ cs.flatten).length + 3 * last.length, os⟩ _ (base.length + (1 + (subsOf (tk + 3 * 17) cs).length)) (27 * last.length + 3) (8 * last.length + 10) (by simpa using hl0) ?_ ?_) (by omega)) goPure
    · have := goSubShort (p := p) (w := w) (ann := ann) (base := base) (l := dictOf (ents tk (c ++ cs.flatten)) (c ++ cs.flatten).length :: subsOf (tk + 3 * 17) cs) (g := g) (dr := dr) (os := os) env pos hb last _ (tk + 3 * (c ++ cs.flatten).length) k4 hl
      rw [List.cons_append, List.length_cons, show (subsOf (tk + 3 * 17) cs).length + 1 = 1 + (subsOf (tk + 3 * 17) cs).length by omega] at this
      exact this
    · have := goMerge (p := p) (w := w) (ann := ann) (base := base) (g := g) (dr := dr) (os := os) (j₀ := (subsOf (tk + 3 * 17) cs).length) (subs := subsOf (tk + 3 * 17) cs ++ [dictOf (ents2 (tk + 3 * (c ++ cs.flatten).length) last) last.length]) (es := ents tk (c ++ cs.flatten)) (se := ents2 (tk + 3 * (c ++ cs.flatten).length) last) (n := (c ++ cs.flatten).length) (sn := last.length) (tk := tk + 3 * (c ++ cs.flatten).length + 3 * last.length) (lo := topKey (topKey lo c) cs.flatten) hb hbig (by simp)
        (by intro e; have := congrArg List.length e; rw [ents_length, List.length_append, hc] at this; simp at this) (by
          rw [ents_append]
          exact ((low_ents lo tk c k1).mono k5).append (low_ents _ _ _ k3)) (fun e he => (w2 e he).1) w1 (fun e he => (w2 e he).2) (by rw [ents_length, ents2_length, List.length_append]; omega)
      rw [ents2_length] at this
      exact this
end
end D32
end
section
open PySem PySem.W PyProof.Rows
set_option maxRecDepth 100000
set_option maxHeartbeats 0
set_option linter.unusedVariables false
namespace D32
abbrev pw : Program := PySem.Challenge.pw_to0032_01
def stm (i : Nat) : Stmt := (pw.main.body[i]?).getD (.Pass ⟨0, 0, 0, 0⟩)
def fArgs : Stmt → Arguments
  | .FunctionDef _ a _ _ _ _ _ _ _ _ => a
  | _ => default
def fBody : Stmt → List Stmt
  | .FunctionDef _ _ b _ _ _ _ _ _ _ => b
  | _ => []
def fScope : Stmt → Scope
  | .FunctionDef _ _ _ _ _ _ sc _ _ _ => sc
  | _ => default
namespace top
noncomputable def o_1 (P : Params) : Obj := ⟨(.type "dict"), none, (.dict #[⟨PyData.keyHash P (Str.ofString "__name__"), (.str (Str.ofString "__name__") 1), (.str (Str.ofString "builtins") 160)⟩, ⟨PyData.keyHash P (Str.ofString "__doc__"), (.str (Str.ofString "__doc__") 2), (.builtin "builtins.__doc__:str#opaque")⟩, ⟨PyData.keyHash P (Str.ofString "__package__"), (.str (Str.ofString "__package__") 3), (.builtin "builtins.__package__:str#opaque")⟩, ⟨PyData.keyHash P (Str.ofString "__loader__"), (.str (Str.ofString "__loader__") 4), (.builtin "builtins.__loader__:shared#opaque")⟩, ⟨PyData.keyHash P (Str.ofString "__spec__"), (.str (Str.ofString "__spec__") 5), (.builtin "builtins.__spec__#opaque")⟩, ⟨PyData.keyHash P (Str.ofString "__build_class__"), (.str (Str.ofString "__build_class__") 6), (.builtin "__build_class__")⟩, ⟨PyData.keyHash P (Str.ofString "__import__"), (.str (Str.ofString "__import__") 7), (.builtin "__import__")⟩, ⟨PyData.keyHash P (Str.ofString "abs"), (.str (Str.ofString "abs") 8), (.builtin "abs")⟩, ⟨PyData.keyHash P (Str.ofString "all"), (.str (Str.ofString "all") 9), (.builtin "all")⟩, ⟨PyData.keyHash P (Str.ofString "any"), (.str (Str.ofString "any") 10), (.builtin "any")⟩, ⟨PyData.keyHash P (Str.ofString "ascii"), (.str (Str.ofString "ascii") 11), (.builtin "ascii")⟩, ⟨PyData.keyHash P (Str.ofString "bin"), (.str (Str.ofString "bin") 12), (.builtin "bin")⟩, ⟨PyData.keyHash P (Str.ofString "breakpoint"), (.str (Str.ofString "breakpoint") 13), (.builtin "breakpoint")⟩, ⟨PyData.keyHash P (Str.ofString "callable"), (.str (Str.ofString "callable") 14), (.builtin "callable")⟩, ⟨PyData.keyHash P (Str.ofString "chr"), (.str (Str.ofString "chr") 15), (.builtin "chr")⟩, ⟨PyData.keyHash P (Str.ofString "compile"), (.str (Str.ofString "compile") 16), (.builtin "compile")⟩, ⟨PyData.keyHash P (Str.ofString "delattr"), (.str (Str.ofString "delattr") 17), (.builtin "delattr")⟩, ⟨PyData.keyHash P (Str.ofString "dir"), (.str (Str.ofString "dir") 18), (.builtin "dir")⟩, ⟨PyData.keyHash P (Str.ofString "divmod"), (.str (Str.ofString "divmod") 19), (.builtin "divmod")⟩, ⟨PyData.keyHash P (Str.ofString "eval"), (.str (Str.ofString "eval") 20), (.builtin "eval")⟩, ⟨PyData.keyHash P (Str.ofString "exec"), (.str (Str.ofString "exec") 21), (.builtin "exec")⟩, ⟨PyData.keyHash P (Str.ofString "format"), (.str (Str.ofString "format") 22), (.builtin "format")⟩, ⟨PyData.keyHash P (Str.ofString "getattr"), (.str (Str.ofString "getattr") 23), (.builtin "getattr")⟩, ⟨PyData.keyHash P (Str.ofString "globals"), (.str (Str.ofString "globals") 24), (.builtin "globals")⟩, ⟨PyData.keyHash P (Str.ofString "hasattr"), (.str (Str.ofString "hasattr") 25), (.builtin "hasattr")⟩, ⟨PyData.keyHash P (Str.ofString "hash"), (.str (Str.ofString "hash") 26), (.builtin "hash")⟩, ⟨PyData.keyHash P (Str.ofString "hex"), (.str (Str.ofString "hex") 27), (.builtin "hex")⟩, ⟨PyData.keyHash P (Str.ofString "id"), (.str (Str.ofString "id") 28), (.builtin "id")⟩, ⟨PyData.keyHash P (Str.ofString "input"), (.str (Str.ofString "input") 29), (.builtin "input")⟩, ⟨PyData.keyHash P (Str.ofString "isinstance"), (.str (Str.ofString "isinstance") 30), (.builtin "isinstance")⟩, ⟨PyData.keyHash P (Str.ofString "issubclass"), (.str (Str.ofString "issubclass") 31), (.builtin "issubclass")⟩, ⟨PyData.keyHash P (Str.ofString "iter"), (.str (Str.ofString "iter") 32), (.builtin "iter")⟩, ⟨PyData.keyHash P (Str.ofString "aiter"), (.str (Str.ofString "aiter") 33), (.builtin "aiter")⟩, ⟨PyData.keyHash P (Str.ofString "len"), (.str (Str.ofString "len") 34), (.builtin "len")⟩, ⟨PyData.keyHash P (Str.ofString "locals"), (.str (Str.ofString "locals") 35), (.builtin "locals")⟩, ⟨PyData.keyHash P (Str.ofString "max"), (.str (Str.ofString "max") 36), (.builtin "max")⟩, ⟨PyData.keyHash P (Str.ofString "min"), (.str (Str.ofString "min") 37), (.builtin "min")⟩, ⟨PyData.keyHash P (Str.ofString "next"), (.str (Str.ofString "next") 38), (.builtin "next")⟩, ⟨PyData.keyHash P (Str.ofString "anext"), (.str (Str.ofString "anext") 39), (.builtin "anext")⟩, ⟨PyData.keyHash P (Str.ofString "oct"), (.str (Str.ofString "oct") 40), (.builtin "oct")⟩, ⟨PyData.keyHash P (Str.ofString "ord"), (.str (Str.ofString "ord") 41), (.builtin "ord")⟩, ⟨PyData.keyHash P (Str.ofString "pow"), (.str (Str.ofString "pow") 42), (.builtin "pow")⟩, ⟨PyData.keyHash P (Str.ofString "print"), (.str (Str.ofString "print") 43), (.builtin "print")⟩, ⟨PyData.keyHash P (Str.ofString "repr"), (.str (Str.ofString "repr") 44), (.builtin "repr")⟩, ⟨PyData.keyHash P (Str.ofString "round"), (.str (Str.ofString "round") 45), (.builtin "round")⟩, ⟨PyData.keyHash P (Str.ofString "setattr"), (.str (Str.ofString "setattr") 46), (.builtin "setattr")⟩, ⟨PyData.keyHash P (Str.ofString "sorted"), (.str (Str.ofString "sorted") 47), (.builtin "sorted")⟩, ⟨PyData.keyHash P (Str.ofString "sum"), (.str (Str.ofString "sum") 48), (.builtin "sum")⟩, ⟨PyData.keyHash P (Str.ofString "vars"), (.str (Str.ofString "vars") 49), (.builtin "vars")⟩, ⟨PyData.keyHash P (Str.ofString "None"), (.str (Str.ofString "None") 50), .none⟩, ⟨PyData.keyHash P (Str.ofString "Ellipsis"), (.str (Str.ofString "Ellipsis") 51), .ellipsis⟩, ⟨PyData.keyHash P (Str.ofString "NotImplemented"), (.str (Str.ofString "NotImplemented") 52), .notImplemented⟩, ⟨PyData.keyHash P (Str.ofString "False"), (.str (Str.ofString "False") 53), (.bool false)⟩, ⟨PyData.keyHash P (Str.ofString "True"), (.str (Str.ofString "True") 54), (.bool true)⟩, ⟨PyData.keyHash P (Str.ofString "bool"), (.str (Str.ofString "bool") 55), (.type "bool")⟩, ⟨PyData.keyHash P (Str.ofString "memoryview"), (.str (Str.ofString "memoryview") 56), (.type "memoryview")⟩, ⟨PyData.keyHash P (Str.ofString "bytearray"), (.str (Str.ofString "bytearray") 57), (.type "bytearray")⟩, ⟨PyData.keyHash P (Str.ofString "bytes"), (.str (Str.ofString "bytes") 58), (.type "bytes")⟩, ⟨PyData.keyHash P (Str.ofString "classmethod"), (.str (Str.ofString "classmethod") 59), (.type "classmethod")⟩, ⟨PyData.keyHash P (Str.ofString "complex"), (.str (Str.ofString "complex") 60), (.type "complex")⟩, ⟨PyData.keyHash P (Str.ofString "dict"), (.str (Str.ofString "dict") 61), (.type "dict")⟩, ⟨PyData.keyHash P (Str.ofString "enumerate"), (.str (Str.ofString "enumerate") 62), (.type "enumerate")⟩, ⟨PyData.keyHash P (Str.ofString "filter"), (.str (Str.ofString "filter") 63), (.type "filter")⟩, ⟨PyData.keyHash P (Str.ofString "float"), (.str (Str.ofString "float") 64), (.type "float")⟩, ⟨PyData.keyHash P (Str.ofString "frozenset"), (.str (Str.ofString "frozenset") 65), (.type "frozenset")⟩, ⟨PyData.keyHash P (Str.ofString "property"), (.str (Str.ofString "property") 66), (.type "property")⟩, ⟨PyData.keyHash P (Str.ofString "int"), (.str (Str.ofString "int") 67), (.type "int")⟩, ⟨PyData.keyHash P (Str.ofString "list"), (.str (Str.ofString "list") 68), (.type "list")⟩, ⟨PyData.keyHash P (Str.ofString "map"), (.str (Str.ofString "map") 69), (.type "map")⟩, ⟨PyData.keyHash P (Str.ofString "object"), (.str (Str.ofString "object") 70), (.type "object")⟩, ⟨PyData.keyHash P (Str.ofString "range"), (.str (Str.ofString "range") 71), (.type "range")⟩, ⟨PyData.keyHash P (Str.ofString "reversed"), (.str (Str.ofString "reversed") 72), (.type "reversed")⟩, ⟨PyData.keyHash P (Str.ofString "set"), (.str (Str.ofString "set") 73), (.type "set")⟩, ⟨PyData.keyHash P (Str.ofString "slice"), (.str (Str.ofString "slice") 74), (.type "slice")⟩, ⟨PyData.keyHash P (Str.ofString "staticmethod"), (.str (Str.ofString "staticmethod") 75), (.type "staticmethod")⟩, ⟨PyData.keyHash P (Str.ofString "str"), (.str (Str.ofString "str") 76), (.type "str")⟩, ⟨PyData.keyHash P (Str.ofString "super"), (.str (Str.ofString "super") 77), (.type "super")⟩, ⟨PyData.keyHash P (Str.ofString "tuple"), (.str (Str.ofString "tuple") 78), (.type "tuple")⟩, ⟨PyData.keyHash P (Str.ofString "type"), (.str (Str.ofString "type") 79), (.type "type")⟩, ⟨PyData.keyHash P (Str.ofString "zip"), (.str (Str.ofString "zip") 80), (.type "zip")⟩, ⟨PyData.keyHash P (Str.ofString "__debug__"), (.str (Str.ofString "__debug__") 81), (.bool true)⟩, ⟨PyData.keyHash P (Str.ofString "BaseException"), (.str (Str.ofString "BaseException") 82), (.type "BaseException")⟩, ⟨PyData.keyHash P (Str.ofString "BaseExceptionGroup"), (.str (Str.ofString "BaseExceptionGroup") 83), (.type "BaseExceptionGroup")⟩, ⟨PyData.keyHash P (Str.ofString "Exception"), (.str (Str.ofString "Exception") 84), (.type "Exception")⟩, ⟨PyData.keyHash P (Str.ofString "GeneratorExit"), (.str (Str.ofString "GeneratorExit") 85), (.type "GeneratorExit")⟩, ⟨PyData.keyHash P (Str.ofString "KeyboardInterrupt"), (.str (Str.ofString "KeyboardInterrupt") 86), (.type "KeyboardInterrupt")⟩, ⟨PyData.keyHash P (Str.ofString "SystemExit"), (.str (Str.ofString "SystemExit") 87), (.type "SystemExit")⟩, ⟨PyData.keyHash P (Str.ofString "ArithmeticError"), (.str (Str.ofString "ArithmeticError") 88), (.type "ArithmeticError")⟩, ⟨PyData.keyHash P (Str.ofString "AssertionError"), (.str (Str.ofString "AssertionError") 89), (.type "AssertionError")⟩, ⟨PyData.keyHash P (Str.ofString "AttributeError"), (.str (Str.ofString "AttributeError") 90), (.type "AttributeError")⟩, ⟨PyData.keyHash P (Str.ofString "BufferError"), (.str (Str.ofString "BufferError") 91), (.type "BufferError")⟩, ⟨PyData.keyHash P (Str.ofString "EOFError"), (.str (Str.ofString "EOFError") 92), (.type "EOFError")⟩, ⟨PyData.keyHash P (Str.ofString "ImportError"), (.str (Str.ofString "ImportError") 93), (.type "ImportError")⟩, ⟨PyData.keyHash P (Str.ofString "LookupError"), (.str (Str.ofString "LookupError") 94), (.type "LookupError")⟩, ⟨PyData.keyHash P (Str.ofString "MemoryError"), (.str (Str.ofString "MemoryError") 95), (.type "MemoryError")⟩, ⟨PyData.keyHash P (Str.ofString "NameError"), (.str (Str.ofString "NameError") 96), (.type "NameError")⟩, ⟨PyData.keyHash P (Str.ofString "OSError"), (.str (Str.ofString "OSError") 97), (.type "OSError")⟩, ⟨PyData.keyHash P (Str.ofString "ReferenceError"), (.str (Str.ofString "ReferenceError") 98), (.type "ReferenceError")⟩, ⟨PyData.keyHash P (Str.ofString "RuntimeError"), (.str (Str.ofString "RuntimeError") 99), (.type "RuntimeError")⟩, ⟨PyData.keyHash P (Str.ofString "StopAsyncIteration"), (.str (Str.ofString "StopAsyncIteration") 100), (.type "StopAsyncIteration")⟩, ⟨PyData.keyHash P (Str.ofString "StopIteration"), (.str (Str.ofString "StopIteration") 101), (.type "StopIteration")⟩, ⟨PyData.keyHash P (Str.ofString "SyntaxError"), (.str (Str.ofString "SyntaxError") 102), (.type "SyntaxError")⟩, ⟨PyData.keyHash P (Str.ofString "SystemError"), (.str (Str.ofString "SystemError") 103), (.type "SystemError")⟩, ⟨PyData.keyHash P (Str.ofString "TypeError"), (.str (Str.ofString "TypeError") 104), (.type "TypeError")⟩, ⟨PyData.keyHash P (Str.ofString "ValueError"), (.str (Str.ofString "ValueError") 105), (.type "ValueError")⟩, ⟨PyData.keyHash P (Str.ofString "Warning"), (.str (Str.ofString "Warning") 106), (.type "Warning")⟩, ⟨PyData.keyHash P (Str.ofString "FloatingPointError"), (.str (Str.ofString "FloatingPointError") 107), (.type "FloatingPointError")⟩, ⟨PyData.keyHash P (Str.ofString "OverflowError"), (.str (Str.ofString "OverflowError") 108), (.type "OverflowError")⟩, ⟨PyData.keyHash P (Str.ofString "ZeroDivisionError"), (.str (Str.ofString "ZeroDivisionError") 109), (.type "ZeroDivisionError")⟩, ⟨PyData.keyHash P (Str.ofString "BytesWarning"), (.str (Str.ofString "BytesWarning") 110), (.type "BytesWarning")⟩, ⟨PyData.keyHash P (Str.ofString "DeprecationWarning"), (.str (Str.ofString "DeprecationWarning") 111), (.type "DeprecationWarning")⟩, ⟨PyData.keyHash P (Str.ofString "EncodingWarning"), (.str (Str.ofString "EncodingWarning") 112), (.type "EncodingWarning")⟩, ⟨PyData.keyHash P (Str.ofString "FutureWarning"), (.str (Str.ofString "FutureWarning") 113), (.type "FutureWarning")⟩, ⟨PyData.keyHash P (Str.ofString "ImportWarning"), (.str (Str.ofString "ImportWarning") 114), (.type "ImportWarning")⟩, ⟨PyData.keyHash P (Str.ofString "PendingDeprecationWarning"), (.str (Str.ofString "PendingDeprecationWarning") 115), (.type "PendingDeprecationWarning")⟩, ⟨PyData.keyHash P (Str.ofString "ResourceWarning"), (.str (Str.ofString "ResourceWarning") 116), (.type "ResourceWarning")⟩, ⟨PyData.keyHash P (Str.ofString "RuntimeWarning"), (.str (Str.ofString "RuntimeWarning") 117), (.type "RuntimeWarning")⟩, ⟨PyData.keyHash P (Str.ofString "SyntaxWarning"), (.str (Str.ofString "SyntaxWarning") 118), (.type "SyntaxWarning")⟩, ⟨PyData.keyHash P (Str.ofString "UnicodeWarning"), (.str (Str.ofString "UnicodeWarning") 119), (.type "UnicodeWarning")⟩, ⟨PyData.keyHash P (Str.ofString "UserWarning"), (.str (Str.ofString "UserWarning") 120), (.type "UserWarning")⟩, ⟨PyData.keyHash P (Str.ofString "BlockingIOError"), (.str (Str.ofString "BlockingIOError") 121), (.type "BlockingIOError")⟩, ⟨PyData.keyHash P (Str.ofString "ChildProcessError"), (.str (Str.ofString "ChildProcessError") 122), (.type "ChildProcessError")⟩, ⟨PyData.keyHash P (Str.ofString "ConnectionError"), (.str (Str.ofString "ConnectionError") 123), (.type "ConnectionError")⟩, ⟨PyData.keyHash P (Str.ofString "FileExistsError"), (.str (Str.ofString "FileExistsError") 124), (.type "FileExistsError")⟩, ⟨PyData.keyHash P (Str.ofString "FileNotFoundError"), (.str (Str.ofString "FileNotFoundError") 125), (.type "FileNotFoundError")⟩, ⟨PyData.keyHash P (Str.ofString "InterruptedError"), (.str (Str.ofString "InterruptedError") 126), (.type "InterruptedError")⟩, ⟨PyData.keyHash P (Str.ofString "IsADirectoryError"), (.str (Str.ofString "IsADirectoryError") 127), (.type "IsADirectoryError")⟩, ⟨PyData.keyHash P (Str.ofString "NotADirectoryError"), (.str (Str.ofString "NotADirectoryError") 128), (.type "NotADirectoryError")⟩, ⟨PyData.keyHash P (Str.ofString "PermissionError"), (.str (Str.ofString "PermissionError") 129), (.type "PermissionError")⟩, ⟨PyData.keyHash P (Str.ofString "ProcessLookupError"), (.str (Str.ofString "ProcessLookupError") 130), (.type "ProcessLookupError")⟩, ⟨PyData.keyHash P (Str.ofString "TimeoutError"), (.str (Str.ofString "TimeoutError") 131), (.type "TimeoutError")⟩, ⟨PyData.keyHash P (Str.ofString "IndentationError"), (.str (Str.ofString "IndentationError") 132), (.type "IndentationError")⟩, ⟨PyData.keyHash P (Str.ofString "_IncompleteInputError"), (.str (Str.ofString "_IncompleteInputError") 133), (.type "_IncompleteInputError")⟩, ⟨PyData.keyHash P (Str.ofString "IndexError"), (.str (Str.ofString "IndexError") 134), (.type "IndexError")⟩, ⟨PyData.keyHash P (Str.ofString "KeyError"), (.str (Str.ofString "KeyError") 135), (.type "KeyError")⟩, ⟨PyData.keyHash P (Str.ofString "ModuleNotFoundError"), (.str (Str.ofString "ModuleNotFoundError") 136), (.type "ModuleNotFoundError")⟩, ⟨PyData.keyHash P (Str.ofString "NotImplementedError"), (.str (Str.ofString "NotImplementedError") 137), (.type "NotImplementedError")⟩, ⟨PyData.keyHash P (Str.ofString "PythonFinalizationError"), (.str (Str.ofString "PythonFinalizationError") 138), (.type "PythonFinalizationError")⟩, ⟨PyData.keyHash P (Str.ofString "RecursionError"), (.str (Str.ofString "RecursionError") 139), (.type "RecursionError")⟩, ⟨PyData.keyHash P (Str.ofString "UnboundLocalError"), (.str (Str.ofString "UnboundLocalError") 140), (.type "UnboundLocalError")⟩, ⟨PyData.keyHash P (Str.ofString "UnicodeError"), (.str (Str.ofString "UnicodeError") 141), (.type "UnicodeError")⟩, ⟨PyData.keyHash P (Str.ofString "BrokenPipeError"), (.str (Str.ofString "BrokenPipeError") 142), (.type "BrokenPipeError")⟩, ⟨PyData.keyHash P (Str.ofString "ConnectionAbortedError"), (.str (Str.ofString "ConnectionAbortedError") 143), (.type "ConnectionAbortedError")⟩, ⟨PyData.keyHash P (Str.ofString "ConnectionRefusedError"), (.str (Str.ofString "ConnectionRefusedError") 144), (.type "ConnectionRefusedError")⟩, ⟨PyData.keyHash P (Str.ofString "ConnectionResetError"), (.str (Str.ofString "ConnectionResetError") 145), (.type "ConnectionResetError")⟩, ⟨PyData.keyHash P (Str.ofString "TabError"), (.str (Str.ofString "TabError") 146), (.type "TabError")⟩, ⟨PyData.keyHash P (Str.ofString "UnicodeDecodeError"), (.str (Str.ofString "UnicodeDecodeError") 147), (.type "UnicodeDecodeError")⟩, ⟨PyData.keyHash P (Str.ofString "UnicodeEncodeError"), (.str (Str.ofString "UnicodeEncodeError") 148), (.type "UnicodeEncodeError")⟩, ⟨PyData.keyHash P (Str.ofString "UnicodeTranslateError"), (.str (Str.ofString "UnicodeTranslateError") 149), (.type "UnicodeTranslateError")⟩, ⟨PyData.keyHash P (Str.ofString "ExceptionGroup"), (.str (Str.ofString "ExceptionGroup") 150), (.type "ExceptionGroup")⟩, ⟨PyData.keyHash P (Str.ofString "EnvironmentError"), (.str (Str.ofString "EnvironmentError") 151), (.type "OSError")⟩, ⟨PyData.keyHash P (Str.ofString "IOError"), (.str (Str.ofString "IOError") 152), (.type "OSError")⟩, ⟨PyData.keyHash P (Str.ofString "open"), (.str (Str.ofString "open") 153), (.builtin "open")⟩, ⟨PyData.keyHash P (Str.ofString "quit"), (.str (Str.ofString "quit") 154), (.builtin "builtins.quit#opaque")⟩, ⟨PyData.keyHash P (Str.ofString "exit"), (.str (Str.ofString "exit") 155), (.builtin "builtins.exit#opaque")⟩, ⟨PyData.keyHash P (Str.ofString "copyright"), (.str (Str.ofString "copyright") 156), (.builtin "builtins.copyright#opaque")⟩, ⟨PyData.keyHash P (Str.ofString "credits"), (.str (Str.ofString "credits") 157), (.builtin "builtins.credits#opaque")⟩, ⟨PyData.keyHash P (Str.ofString "license"), (.str (Str.ofString "license") 158), (.builtin "builtins.license#opaque")⟩, ⟨PyData.keyHash P (Str.ofString "help"), (.str (Str.ofString "help") 159), (.builtin "builtins.help#opaque")⟩] 159), #[]⟩
noncomputable def o_2 (P : Params) : Obj := ⟨(.type "dict"), none, (.dict #[⟨PyData.keyHash P (Str.ofString "builtins"), (.str (Str.ofString "builtins") 162), (.ref 4)⟩, ⟨PyData.keyHash P (Str.ofString "__main__"), (.str (Str.ofString "__main__") 163), (.ref 5)⟩, ⟨PyData.keyHash P (Str.ofString "_sre"), (.str (Str.ofString "_sre") 244), (.ref 12)⟩] 3), #[]⟩
noncomputable def o_3 (P : Params) : Obj := ⟨.none, none, (.dict #[⟨PyData.keyHash P (Str.mk #[105, 109, 112, 111, 114, 116, 46, 108, 111, 97, 100, 101, 100, 46, 95, 115, 114, 101]), (.str (Str.mk #[105, 109, 112, 111, 114, 116, 46, 108, 111, 97, 100, 101, 100, 46, 95, 115, 114, 101]) 183), (.bool true)⟩, ⟨PyData.keyHash P (Str.ofString "class._frozen_importlib.BuiltinImporter"), (.str (Str.ofString "class._frozen_importlib.BuiltinImporter") 185), (.ref 14)⟩, ⟨PyData.keyHash P (Str.mk #[119, 97, 116, 99, 104, 101, 100, 46, 105, 109, 112, 111, 114, 116]), (.str (Str.mk #[119, 97, 116, 99, 104, 101, 100, 46, 105, 109, 112, 111, 114, 116]) 206), (.ref 18)⟩, ⟨PyData.keyHash P (Str.ofString "class._frozen_importlib.ModuleSpec"), (.str (Str.ofString "class._frozen_importlib.ModuleSpec") 216), (.ref 22)⟩, ⟨PyData.keyHash P (Str.ofString "sys.modules.booked-epoch"), (.str (Str.ofString "sys.modules.booked-epoch") 245), (.int 3 0)⟩, ⟨PyData.keyHash P (Str.mk #[105, 109, 112, 111, 114, 116, 46, 108, 97, 116, 101, 114, 45, 108, 97, 105, 100, 46, 95, 115, 114, 101]), (.str (Str.mk #[105, 109, 112, 111, 114, 116, 46, 108, 97, 116, 101, 114, 45, 108, 97, 105, 100, 46, 95, 115, 114, 101]) 270), (.bool true)⟩, ⟨PyData.keyHash P (Str.ofString "watched.library"), (.str (Str.ofString "watched.library") 272), (.ref 27)⟩, ⟨PyData.keyHash P (Str.ofString "watched.library-objects"), (.str (Str.ofString "watched.library-objects") 0), (.str (Str.mk #[12]) 0)⟩, ⟨PyData.keyHash P (Str.ofString "watched.library-deep._sre"), (.str (Str.ofString "watched.library-deep._sre") 273), (.str (Str.mk #[4, 0, 0, 11, 4, 0, 0, 11, 4, 0, 0, 3, 4, 0, 0, 11, 8, 4, 100, 105, 99, 116, 2]) 0)⟩] 9), #[]⟩
noncomputable def o_4 (P : Params) : Obj := ⟨(.type "dict"), none, (.dict #[⟨PyData.keyHash P (Str.ofString "__name__"), (.str (Str.ofString "__name__") 165), (.str (Str.ofString "__main__") 164)⟩, ⟨PyData.keyHash P (Str.ofString "__doc__"), (.str (Str.ofString "__doc__") 166), .none⟩, ⟨PyData.keyHash P (Str.ofString "__package__"), (.str (Str.ofString "__package__") 167), .none⟩, ⟨PyData.keyHash P (Str.ofString "__loader__"), (.str (Str.ofString "__loader__") 168), (.builtin "__main__.__loader__#opaque")⟩, ⟨PyData.keyHash P (Str.ofString "__spec__"), (.str (Str.ofString "__spec__") 169), .none⟩, ⟨PyData.keyHash P (Str.ofString "__annotations__"), (.str (Str.ofString "__annotations__") 170), (.ref 6)⟩, ⟨PyData.keyHash P (Str.ofString "__builtins__"), (.str (Str.ofString "__builtins__") 171), (.ref 4)⟩, ⟨PyData.keyHash P (Str.ofString "__file__"), (.str (Str.ofString "__file__") 173), (.str (Str.ofString "/claim/cut.py") 172)⟩, ⟨PyData.keyHash P (Str.ofString "__cached__"), (.str (Str.ofString "__cached__") 174), .none⟩, ⟨PyData.keyHash P (Str.ofString "_sre"), (.str (Str.ofString "_sre") 275), (.ref 12)⟩] 10), #[]⟩
noncomputable def o_5 (P : Params) : Obj := ⟨(.type "module"), (some 0), .plain, #[]⟩
noncomputable def o_6 (P : Params) : Obj := ⟨(.type "module"), (some 3), .plain, #[]⟩
noncomputable def o_7 (P : Params) : Obj := ⟨(.type "dict"), none, (.dict #[] 0), #[]⟩
noncomputable def o_8 (P : Params) : Obj := ⟨(.type "tuple"), none, (.seq #[] 0), #[]⟩
noncomputable def o_9 (P : Params) : Obj := ⟨.none, none, (.fields #[]), #[]⟩
noncomputable def o_10 (P : Params) : Obj := ⟨(.type "code"), none, (.fields #[(.str (Str.ofString "<module>") 176), (.str (Str.ofString "<module>") 177), (.str (Str.ofString "/claim/cut.py") 178), (.int 1 0), (.int 0 0), (.int 0 0), (.int 0 0), (.int 0 0), (.ref 7), (.bool false), (.int 175 0), (.ref 8), .none, .none, .none, .none, (.int 179 0), (.int 1 0), (.str (Str.ofString "/claim/cut.py") 180)]), #[]⟩
noncomputable def o_11 (P : Params) : Obj := ⟨(.type "frame"), none, .plain, #[(some (.ref 9)), (some (.ref 3)), (some (.ref 3)), none, (some (.str (Str.ofString "__main__") 164)), none, (some (.ref 0))]⟩
noncomputable def o_12 (P : Params) : Obj := ⟨(.type "dict"), none, (.dict #[⟨PyData.keyHash P (Str.ofString "__name__"), (.str (Str.ofString "__name__") 247), (.str (Str.ofString "_sre") 246)⟩, ⟨PyData.keyHash P (Str.ofString "__doc__"), (.str (Str.ofString "__doc__") 248), .none⟩, ⟨PyData.keyHash P (Str.ofString "__package__"), (.str (Str.ofString "__package__") 250), (.str (Str.ofString "") 249)⟩, ⟨PyData.keyHash P (Str.ofString "__loader__"), (.str (Str.ofString "__loader__") 251), (.builtin "off-the-table:_sre.__loader__:shared#opaque")⟩, ⟨PyData.keyHash P (Str.ofString "__spec__"), (.str (Str.ofString "__spec__") 252), (.builtin "off-the-table:_sre.__spec__:shared#opaque")⟩, ⟨PyData.keyHash P (Str.ofString "compile"), (.str (Str.ofString "compile") 253), (.builtin "_sre.compile")⟩, ⟨PyData.keyHash P (Str.ofString "template"), (.str (Str.ofString "template") 254), (.builtin "off-the-table:_sre.template:shared#opaque")⟩, ⟨PyData.keyHash P (Str.ofString "getcodesize"), (.str (Str.ofString "getcodesize") 255), (.builtin "off-the-table:_sre.getcodesize:shared#opaque")⟩, ⟨PyData.keyHash P (Str.ofString "ascii_iscased"), (.str (Str.ofString "ascii_iscased") 256), (.builtin "off-the-table:_sre.ascii_iscased:shared#opaque")⟩, ⟨PyData.keyHash P (Str.ofString "unicode_iscased"), (.str (Str.ofString "unicode_iscased") 257), (.builtin "off-the-table:_sre.unicode_iscased:shared#opaque")⟩, ⟨PyData.keyHash P (Str.ofString "ascii_tolower"), (.str (Str.ofString "ascii_tolower") 258), (.builtin "off-the-table:_sre.ascii_tolower:shared#opaque")⟩, ⟨PyData.keyHash P (Str.ofString "unicode_tolower"), (.str (Str.ofString "unicode_tolower") 259), (.builtin "off-the-table:_sre.unicode_tolower:shared#opaque")⟩, ⟨PyData.keyHash P (Str.ofString "MAGIC"), (.str (Str.ofString "MAGIC") 261), (.int 20230612 260)⟩, ⟨PyData.keyHash P (Str.ofString "CODESIZE"), (.str (Str.ofString "CODESIZE") 263), (.int 4 262)⟩, ⟨PyData.keyHash P (Str.ofString "MAXREPEAT"), (.str (Str.ofString "MAXREPEAT") 265), (.int 4294967295 264)⟩, ⟨PyData.keyHash P (Str.ofString "MAXGROUPS"), (.str (Str.ofString "MAXGROUPS") 267), (.int 1073741823 266)⟩, ⟨PyData.keyHash P (Str.ofString "copyright"), (.str (Str.ofString "copyright") 269), (.str (Str.ofString " SRE 2.2.2 Copyright (c) 1997-2002 by Secret Labs AB ") 268)⟩] 17), #[]⟩
noncomputable def o_13 (P : Params) : Obj := ⟨(.type "module"), (some 11), .plain, #[]⟩
noncomputable def o_14 (P : Params) : Obj := ⟨(.type "dict"), none, (.dict #[⟨PyData.keyHash P (Str.ofString "__module__"), (.str (Str.ofString "__module__") 189), (.str (Str.ofString "_frozen_importlib") 186)⟩, ⟨PyData.keyHash P (Str.ofString "__firstlineno__"), (.str (Str.ofString "__firstlineno__") 190), (.int 971 187)⟩, ⟨PyData.keyHash P (Str.ofString "__doc__"), (.str (Str.ofString "__doc__") 191), (.builtin "_frozen_importlib.BuiltinImporter.__doc__:str#opaque")⟩, ⟨PyData.keyHash P (Str.ofString "_ORIGIN"), (.str (Str.ofString "_ORIGIN") 192), (.str (Str.ofString "built-in") 188)⟩, ⟨PyData.keyHash P (Str.ofString "find_spec"), (.str (Str.ofString "find_spec") 193), (.builtin "_frozen_importlib.BuiltinImporter.find_spec#opaque")⟩, ⟨PyData.keyHash P (Str.ofString "create_module"), (.str (Str.ofString "create_module") 194), (.builtin "_frozen_importlib.BuiltinImporter.create_module#opaque")⟩, ⟨PyData.keyHash P (Str.ofString "exec_module"), (.str (Str.ofString "exec_module") 195), (.builtin "_frozen_importlib.BuiltinImporter.exec_module#opaque")⟩, ⟨PyData.keyHash P (Str.ofString "get_code"), (.str (Str.ofString "get_code") 196), (.builtin "_frozen_importlib.BuiltinImporter.get_code#opaque")⟩, ⟨PyData.keyHash P (Str.ofString "get_source"), (.str (Str.ofString "get_source") 197), (.builtin "_frozen_importlib.BuiltinImporter.get_source#opaque")⟩, ⟨PyData.keyHash P (Str.ofString "is_package"), (.str (Str.ofString "is_package") 198), (.builtin "_frozen_importlib.BuiltinImporter.is_package#opaque")⟩, ⟨PyData.keyHash P (Str.ofString "load_module"), (.str (Str.ofString "load_module") 199), (.builtin "_frozen_importlib.BuiltinImporter.load_module#opaque")⟩, ⟨PyData.keyHash P (Str.ofString "__static_attributes__"), (.str (Str.ofString "__static_attributes__") 200), (.ref 15)⟩, ⟨PyData.keyHash P (Str.ofString "__dict__"), (.str (Str.ofString "__dict__") 202), (.ref 16)⟩, ⟨PyData.keyHash P (Str.ofString "__weakref__"), (.str (Str.ofString "__weakref__") 204), (.ref 17)⟩] 14), #[]⟩
noncomputable def o_15 (P : Params) : Obj := { cls := .type "type", data := .cls { name := Str.ofString "BuiltinImporter", bases := [.type "object"], mro := [.ref 14, .type "object"], ns := 13, qualname := Str.ofString "BuiltinImporter" } }
noncomputable def o_16 (P : Params) : Obj := ⟨(.type "tuple"), none, (.seq #[] 0), #[]⟩
noncomputable def o_17 (P : Params) : Obj := ⟨(.type "getset_descriptor"), none, (.fields #[(.str (Str.ofString "__dict__") 201), (.ref 14), (.builtin "function.__dict__"), (.builtin "function.__dict__#set")]), #[]⟩
noncomputable def o_18 (P : Params) : Obj := ⟨(.type "getset_descriptor"), none, (.fields #[(.str (Str.ofString "__weakref__") 203), (.ref 14), (.builtin "ExceptionGroup.__weakref__"), .none]), #[]⟩
noncomputable def o_19 (P : Params) : Obj := ⟨.none, none, (.seq #[(.int 13 0), (.str (Str.mk #[6, 189, 10, 95, 95, 109, 111, 100, 117, 108, 101, 95, 95, 6, 186, 17, 95, 102, 114, 111, 122, 101, 110, 95, 105, 109, 112, 111, 114, 116, 108, 105, 98, 6, 190, 15, 95, 95, 102, 105, 114, 115, 116, 108, 105, 110, 101, 110, 111, 95, 95, 4, 187, 0, 971, 6, 191, 7, 95, 95, 100, 111, 99, 95, 95, 9, 52, 95, 102, 114, 111, 122, 101, 110, 95, 105, 109, 112, 111, 114, 116, 108, 105, 98, 46, 66, 117, 105, 108, 116, 105, 110, 73, 109, 112, 111, 114, 116, 101, 114, 46, 95, 95, 100, 111, 99, 95, 95, 58, 115, 116, 114, 35, 111, 112, 97, 113, 117, 101, 6, 192, 7, 95, 79, 82, 73, 71, 73, 78, 6, 188, 8, 98, 117, 105, 108, 116, 45, 105, 110, 6, 193, 9, 102, 105, 110, 100, 95, 115, 112, 101, 99, 9, 50, 95, 102, 114, 111, 122, 101, 110, 95, 105, 109, 112, 111, 114, 116, 108, 105, 98, 46, 66, 117, 105, 108, 116, 105, 110, 73, 109, 112, 111, 114, 116, 101, 114, 46, 102, 105, 110, 100, 95, 115, 112, 101, 99, 35, 111, 112, 97, 113, 117, 101, 6, 194, 13, 99, 114, 101, 97, 116, 101, 95, 109, 111, 100, 117, 108, 101, 9, 54, 95, 102, 114, 111, 122, 101, 110, 95, 105, 109, 112, 111, 114, 116, 108, 105, 98, 46, 66, 117, 105, 108, 116, 105, 110, 73, 109, 112, 111, 114, 116, 101, 114, 46, 99, 114, 101, 97, 116, 101, 95, 109, 111, 100, 117, 108, 101, 35, 111, 112, 97, 113, 117, 101, 6, 195, 11, 101, 120, 101, 99, 95, 109, 111, 100, 117, 108, 101, 9, 52, 95, 102, 114, 111, 122, 101, 110, 95, 105, 109, 112, 111, 114, 116, 108, 105, 98, 46, 66, 117, 105, 108, 116, 105, 110, 73, 109, 112, 111, 114, 116, 101, 114, 46, 101, 120, 101, 99, 95, 109, 111, 100, 117, 108, 101, 35, 111, 112, 97, 113, 117, 101, 6, 196, 8, 103, 101, 116, 95, 99, 111, 100, 101, 9, 49, 95, 102, 114, 111, 122, 101, 110, 95, 105, 109, 112, 111, 114, 116, 108, 105, 98, 46, 66, 117, 105, 108, 116, 105, 110, 73, 109, 112, 111, 114, 116, 101, 114, 46, 103, 101, 116, 95, 99, 111, 100, 101, 35, 111, 112, 97, 113, 117, 101, 6, 197, 10, 103, 101, 116, 95, 115, 111, 117, 114, 99, 101, 9, 51, 95, 102, 114, 111, 122, 101, 110, 95, 105, 109, 112, 111, 114, 116, 108, 105, 98, 46, 66, 117, 105, 108, 116, 105, 110, 73, 109, 112, 111, 114, 116, 101, 114, 46, 103, 101, 116, 95, 115, 111, 117, 114, 99, 101, 35, 111, 112, 97, 113, 117, 101, 6, 198, 10, 105, 115, 95, 112, 97, 99, 107, 97, 103, 101, 9, 51, 95, 102, 114, 111, 122, 101, 110, 95, 105, 109, 112, 111, 114, 116, 108, 105, 98, 46, 66, 117, 105, 108, 116, 105, 110, 73, 109, 112, 111, 114, 116, 101, 114, 46, 105, 115, 95, 112, 97, 99, 107, 97, 103, 101, 35, 111, 112, 97, 113, 117, 101, 6, 199, 11, 108, 111, 97, 100, 95, 109, 111, 100, 117, 108, 101, 9, 52, 95, 102, 114, 111, 122, 101, 110, 95, 105, 109, 112, 111, 114, 116, 108, 105, 98, 46, 66, 117, 105, 108, 116, 105, 110, 73, 109, 112, 111, 114, 116, 101, 114, 46, 108, 111, 97, 100, 95, 109, 111, 100, 117, 108, 101, 35, 111, 112, 97, 113, 117, 101, 6, 200, 21, 95, 95, 115, 116, 97, 116, 105, 99, 95, 97, 116, 116, 114, 105, 98, 117, 116, 101, 115, 95, 95, 4, 0, 0, 15, 6, 202, 8, 95, 95, 100, 105, 99, 116, 95, 95, 4, 0, 0, 16, 6, 204, 11, 95, 95, 119, 101, 97, 107, 114, 101, 102, 95, 95, 4, 0, 0, 17]) 0), (.bool true), (.bool true), (.str (Str.ofString "") 205), (.int 21 0), (.str (Str.mk #[6, 227, 10, 95, 95, 109, 111, 100, 117, 108, 101, 95, 95, 6, 217, 17, 95, 102, 114, 111, 122, 101, 110, 95, 105, 109, 112, 111, 114, 116, 108, 105, 98, 6, 228, 15, 95, 95, 102, 105, 114, 115, 116, 108, 105, 110, 101, 110, 111, 95, 95, 4, 218, 0, 562, 6, 229, 7, 95, 95, 100, 111, 99, 95, 95, 9, 47, 95, 102, 114, 111, 122, 101, 110, 95, 105, 109, 112, 111, 114, 116, 108, 105, 98, 46, 77, 111, 100, 117, 108, 101, 83, 112, 101, 99, 46, 95, 95, 100, 111, 99, 95, 95, 58, 115, 116, 114, 35, 111, 112, 97, 113, 117, 101, 6, 230, 8, 95, 95, 105, 110, 105, 116, 95, 95, 9, 44, 95, 102, 114, 111, 122, 101, 110, 95, 105, 109, 112, 111, 114, 116, 108, 105, 98, 46, 77, 111, 100, 117, 108, 101, 83, 112, 101, 99, 46, 95, 95, 105, 110, 105, 116, 95, 95, 35, 111, 112, 97, 113, 117, 101, 6, 231, 8, 95, 95, 114, 101, 112, 114, 95, 95, 9, 44, 95, 102, 114, 111, 122, 101, 110, 95, 105, 109, 112, 111, 114, 116, 108, 105, 98, 46, 77, 111, 100, 117, 108, 101, 83, 112, 101, 99, 46, 95, 95, 114, 101, 112, 114, 95, 95, 35, 111, 112, 97, 113, 117, 101, 6, 232, 6, 95, 95, 101, 113, 95, 95, 9, 42, 95, 102, 114, 111, 122, 101, 110, 95, 105, 109, 112, 111, 114, 116, 108, 105, 98, 46, 77, 111, 100, 117, 108, 101, 83, 112, 101, 99, 46, 95, 95, 101, 113, 95, 95, 35, 111, 112, 97, 113, 117, 101, 6, 233, 6, 99, 97, 99, 104, 101, 100, 9, 42, 95, 102, 114, 111, 122, 101, 110, 95, 105, 109, 112, 111, 114, 116, 108, 105, 98, 46, 77, 111, 100, 117, 108, 101, 83, 112, 101, 99, 46, 99, 97, 99, 104, 101, 100, 35, 111, 112, 97, 113, 117, 101, 6, 234, 6, 112, 97, 114, 101, 110, 116, 9, 42, 95, 102, 114, 111, 122, 101, 110, 95, 105, 109, 112, 111, 114, 116, 108, 105, 98, 46, 77, 111, 100, 117, 108, 101, 83, 112, 101, 99, 46, 112, 97, 114, 101, 110, 116, 35, 111, 112, 97, 113, 117, 101, 6, 235, 12, 104, 97, 115, 95, 108, 111, 99, 97, 116, 105, 111, 110, 9, 48, 95, 102, 114, 111, 122, 101, 110, 95, 105, 109, 112, 111, 114, 116, 108, 105, 98, 46, 77, 111, 100, 117, 108, 101, 83, 112, 101, 99, 46, 104, 97, 115, 95, 108, 111, 99, 97, 116, 105, 111, 110, 35, 111, 112, 97, 113, 117, 101, 6, 236, 21, 95, 95, 115, 116, 97, 116, 105, 99, 95, 97, 116, 116, 114, 105, 98, 117, 116, 101, 115, 95, 95, 4, 0, 0, 23, 6, 238, 8, 95, 95, 100, 105, 99, 116, 95, 95, 4, 0, 0, 24, 6, 240, 11, 95, 95, 119, 101, 97, 107, 114, 101, 102, 95, 95, 4, 0, 0, 25, 6, 241, 8, 95, 95, 104, 97, 115, 104, 95, 95, 0]) 0), (.bool true), (.bool true), (.str (Str.ofString "") 242)] 1), #[]⟩
noncomputable def o_20 (P : Params) : Obj := ⟨(.type "list"), none, (.seq #[] 0), #[]⟩
noncomputable def o_21 (P : Params) : Obj := ⟨(.type "dict"), none, (.dict #[⟨PyData.keyHash P (Str.ofString "name"), (.str (Str.ofString "name") 208), (.str (Str.ofString "_sre") 207)⟩, ⟨PyData.keyHash P (Str.ofString "loader"), (.str (Str.ofString "loader") 209), (.ref 14)⟩, ⟨PyData.keyHash P (Str.ofString "origin"), (.str (Str.ofString "origin") 210), (.str (Str.ofString "built-in") 184)⟩, ⟨PyData.keyHash P (Str.ofString "loader_state"), (.str (Str.ofString "loader_state") 211), .none⟩, ⟨PyData.keyHash P (Str.ofString "submodule_search_locations"), (.str (Str.ofString "submodule_search_locations") 212), .none⟩, ⟨PyData.keyHash P (Str.ofString "_uninitialized_submodules"), (.str (Str.ofString "_uninitialized_submodules") 213), (.ref 19)⟩, ⟨PyData.keyHash P (Str.ofString "_set_fileattr"), (.str (Str.ofString "_set_fileattr") 214), (.bool false)⟩, ⟨PyData.keyHash P (Str.ofString "_cached"), (.str (Str.ofString "_cached") 215), .none⟩, ⟨PyData.keyHash P (Str.ofString "_initializing"), (.str (Str.ofString "_initializing") 243), (.bool false)⟩] 9), #[]⟩
noncomputable def o_22 (P : Params) : Obj := ⟨(.type "dict"), none, (.dict #[⟨PyData.keyHash P (Str.ofString "__module__"), (.str (Str.ofString "__module__") 227), (.str (Str.ofString "_frozen_importlib") 217)⟩, ⟨PyData.keyHash P (Str.ofString "__firstlineno__"), (.str (Str.ofString "__firstlineno__") 228), (.int 562 218)⟩, ⟨PyData.keyHash P (Str.ofString "__doc__"), (.str (Str.ofString "__doc__") 229), (.builtin "_frozen_importlib.ModuleSpec.__doc__:str#opaque")⟩, ⟨PyData.keyHash P (Str.ofString "__init__"), (.str (Str.ofString "__init__") 230), (.builtin "_frozen_importlib.ModuleSpec.__init__#opaque")⟩, ⟨PyData.keyHash P (Str.ofString "__repr__"), (.str (Str.ofString "__repr__") 231), (.builtin "_frozen_importlib.ModuleSpec.__repr__#opaque")⟩, ⟨PyData.keyHash P (Str.ofString "__eq__"), (.str (Str.ofString "__eq__") 232), (.builtin "_frozen_importlib.ModuleSpec.__eq__#opaque")⟩, ⟨PyData.keyHash P (Str.ofString "cached"), (.str (Str.ofString "cached") 233), (.builtin "_frozen_importlib.ModuleSpec.cached#opaque")⟩, ⟨PyData.keyHash P (Str.ofString "parent"), (.str (Str.ofString "parent") 234), (.builtin "_frozen_importlib.ModuleSpec.parent#opaque")⟩, ⟨PyData.keyHash P (Str.ofString "has_location"), (.str (Str.ofString "has_location") 235), (.builtin "_frozen_importlib.ModuleSpec.has_location#opaque")⟩, ⟨PyData.keyHash P (Str.ofString "__static_attributes__"), (.str (Str.ofString "__static_attributes__") 236), (.ref 23)⟩, ⟨PyData.keyHash P (Str.ofString "__dict__"), (.str (Str.ofString "__dict__") 238), (.ref 24)⟩, ⟨PyData.keyHash P (Str.ofString "__weakref__"), (.str (Str.ofString "__weakref__") 240), (.ref 25)⟩, ⟨PyData.keyHash P (Str.ofString "__hash__"), (.str (Str.ofString "__hash__") 241), .none⟩] 13), #[]⟩
noncomputable def o_23 (P : Params) : Obj := { cls := .type "type", data := .cls { name := Str.ofString "ModuleSpec", bases := [.type "object"], mro := [.ref 22, .type "object"], ns := 21, qualname := Str.ofString "ModuleSpec" } }
noncomputable def o_24 (P : Params) : Obj := ⟨(.type "tuple"), none, (.seq #[(.str (Str.ofString "_cached") 219), (.str (Str.ofString "_set_fileattr") 220), (.str (Str.ofString "_uninitialized_submodules") 221), (.str (Str.ofString "loader") 222), (.str (Str.ofString "loader_state") 223), (.str (Str.ofString "name") 224), (.str (Str.ofString "origin") 225), (.str (Str.ofString "submodule_search_locations") 226)] 0), #[]⟩
noncomputable def o_25 (P : Params) : Obj := ⟨(.type "getset_descriptor"), none, (.fields #[(.str (Str.ofString "__dict__") 237), (.ref 22), (.builtin "function.__dict__"), (.builtin "function.__dict__#set")]), #[]⟩
noncomputable def o_26 (P : Params) : Obj := ⟨(.type "getset_descriptor"), none, (.fields #[(.str (Str.ofString "__weakref__") 239), (.ref 22), (.builtin "ExceptionGroup.__weakref__"), .none]), #[]⟩
noncomputable def o_27 (P : Params) : Obj := ⟨(.ref 22), (some 20), .plain, #[]⟩
noncomputable def o_28 (P : Params) : Obj := ⟨.none, none, (.seq #[(.int 11 0), (.str (Str.mk #[6, 247, 8, 95, 95, 110, 97, 109, 101, 95, 95, 6, 246, 4, 95, 115, 114, 101, 6, 248, 7, 95, 95, 100, 111, 99, 95, 95, 0, 6, 250, 11, 95, 95, 112, 97, 99, 107, 97, 103, 101, 95, 95, 6, 249, 0, 6, 251, 10, 95, 95, 108, 111, 97, 100, 101, 114, 95, 95, 4, 0, 0, 14, 6, 252, 8, 95, 95, 115, 112, 101, 99, 95, 95, 4, 0, 0, 26, 6, 253, 7, 99, 111, 109, 112, 105, 108, 101, 9, 12, 95, 115, 114, 101, 46, 99, 111, 109, 112, 105, 108, 101, 6, 254, 8, 116, 101, 109, 112, 108, 97, 116, 101, 9, 13, 95, 115, 114, 101, 46, 116, 101, 109, 112, 108, 97, 116, 101, 6, 255, 11, 103, 101, 116, 99, 111, 100, 101, 115, 105, 122, 101, 9, 16, 95, 115, 114, 101, 46, 103, 101, 116, 99, 111, 100, 101, 115, 105, 122, 101, 6, 256, 13, 97, 115, 99, 105, 105, 95, 105, 115, 99, 97, 115, 101, 100, 9, 18, 95, 115, 114, 101, 46, 97, 115, 99, 105, 105, 95, 105, 115, 99, 97, 115, 101, 100, 6, 257, 15, 117, 110, 105, 99, 111, 100, 101, 95, 105, 115, 99, 97, 115, 101, 100, 9, 20, 95, 115, 114, 101, 46, 117, 110, 105, 99, 111, 100, 101, 95, 105, 115, 99, 97, 115, 101, 100, 6, 258, 13, 97, 115, 99, 105, 105, 95, 116, 111, 108, 111, 119, 101, 114, 9, 18, 95, 115, 114, 101, 46, 97, 115, 99, 105, 105, 95, 116, 111, 108, 111, 119, 101, 114, 6, 259, 15, 117, 110, 105, 99, 111, 100, 101, 95, 116, 111, 108, 111, 119, 101, 114, 9, 20, 95, 115, 114, 101, 46, 117, 110, 105, 99, 111, 100, 101, 95, 116, 111, 108, 111, 119, 101, 114, 6, 261, 5, 77, 65, 71, 73, 67, 4, 260, 0, 20230612, 6, 263, 8, 67, 79, 68, 69, 83, 73, 90, 69, 4, 262, 0, 4, 6, 265, 9, 77, 65, 88, 82, 69, 80, 69, 65, 84, 4, 264, 0, 4294967295, 6, 267, 9, 77, 65, 88, 71, 82, 79, 85, 80, 83, 4, 266, 0, 1073741823, 6, 269, 9, 99, 111, 112, 121, 114, 105, 103, 104, 116, 6, 268, 53, 32, 83, 82, 69, 32, 50, 46, 50, 46, 50, 32, 67, 111, 112, 121, 114, 105, 103, 104, 116, 32, 40, 99, 41, 32, 49, 57, 57, 55, 45, 50, 48, 48, 50, 32, 98, 121, 32, 83, 101, 99, 114, 101, 116, 32, 76, 97, 98, 115, 32, 65, 66, 32]) 0), (.bool true), (.bool false), (.str (Str.ofString "_sre") 271)] 0), #[]⟩
noncomputable def o_29 (P : Params) : Obj := ⟨(.type "tuple"), none, (.seq #[] 0), #[]⟩
noncomputable def o_30 (P : Params) : Obj := ⟨.none, none, (.fields #[]), #[]⟩
noncomputable def o_31 (P : Params) : Obj := ⟨(.type "code"), none, (.fields #[(.str (Str.ofString "<module>") 277), (.str (Str.ofString "<module>") 278), (.str (Str.ofString "/claim/cut.py") 279), (.int 1 0), (.int 0 0), (.int 0 0), (.int 0 0), (.int 0 0), (.ref 28), (.bool false), (.int 276 0), (.ref 29), .none, .none, .none, .none, (.int 280 0), (.int 1 0), (.str (Str.ofString "/claim/cut.py") 281)]), #[]⟩
noncomputable def o_32 (P : Params) : Obj := ⟨(.type "frame"), none, .plain, #[(some (.ref 30)), (some (.ref 3)), (some (.ref 3)), none, (some (.str (Str.ofString "__main__") 164)), none, (some (.ref 0))]⟩
noncomputable def o_33 (P : Params) : Obj := ⟨(.type "dict"), none, (.dict #[⟨PyData.keyHash P (Str.ofString "__name__"), (.str (Str.ofString "__name__") 165), (.str (Str.ofString "cpy313.stringprep") 403)⟩, ⟨PyData.keyHash P (Str.ofString "__doc__"), (.str (Str.ofString "__doc__") 166), .none⟩, ⟨PyData.keyHash P (Str.ofString "__package__"), (.str (Str.ofString "__package__") 167), .none⟩, ⟨PyData.keyHash P (Str.ofString "__loader__"), (.str (Str.ofString "__loader__") 168), (.builtin "__main__.__loader__#opaque")⟩, ⟨PyData.keyHash P (Str.ofString "__spec__"), (.str (Str.ofString "__spec__") 169), .none⟩, ⟨PyData.keyHash P (Str.ofString "__annotations__"), (.str (Str.ofString "__annotations__") 170), (.ref 6)⟩, ⟨PyData.keyHash P (Str.ofString "__builtins__"), (.str (Str.ofString "__builtins__") 171), (.ref 4)⟩, ⟨PyData.keyHash P (Str.ofString "__file__"), (.str (Str.ofString "__file__") 173), (.str (Str.ofString "/claim/cut.py") 172)⟩, ⟨PyData.keyHash P (Str.ofString "__cached__"), (.str (Str.ofString "__cached__") 174), .none⟩, ⟨PyData.keyHash P (Str.ofString "_sre"), (.str (Str.ofString "_sre") 275), (.ref 12)⟩, ⟨PyData.keyHash P (Str.ofString "_twin_re_1"), (.str (Str.ofString "_twin_re_1") 299), (.ref 36)⟩, ⟨PyData.keyHash P (Str.ofString "_twin_re_2"), (.str (Str.ofString "_twin_re_2") 341), (.ref 41)⟩, ⟨PyData.keyHash P (Str.ofString "CRLF"), (.str (Str.ofString "CRLF") 343), (.str (Str.mk #[13, 10]) 342)⟩, ⟨PyData.keyHash P (Str.ofString "quotedata"), (.str (Str.ofString "quotedata") 350), (.ref 48)⟩, ⟨PyData.keyHash P (Str.ofString "_fix_eols"), (.str (Str.ofString "_fix_eols") 357), (.ref 55)⟩, ⟨PyData.keyHash P (Str.ofString "_strxfrm"), (.str (Str.ofString "_strxfrm") 366), (.ref 62)⟩, ⟨PyData.keyHash P (Str.ofString "_strip_padding"), (.str (Str.ofString "_strip_padding") 376), (.ref 69)⟩, ⟨PyData.keyHash P (Str.ofString "add"), (.str (Str.ofString "add") 386), (.ref 76)⟩, ⟨PyData.keyHash P (Str.ofString "or_"), (.str (Str.ofString "or_") 394), (.ref 83)⟩, ⟨PyData.keyHash P (Str.ofString "sub"), (.str (Str.ofString "sub") 402), (.ref 90)⟩] 20), #[]⟩
noncomputable def o_34 (P : Params) : Obj := ⟨.none, none, (.fields #[(.int 6 0), (.int 0 0), (.ref 47), (.int 8 0), (.int 0 0), (.ref 54), (.int 11 0), (.int 0 0), (.ref 61), (.int 13 0), (.int 0 0), (.ref 68), (.int 24 0), (.int 0 0), (.ref 75), (.int 26 0), (.int 0 0), (.ref 82), (.int 28 0), (.int 0 0), (.ref 89)]), #[]⟩
noncomputable def o_35 (P : Params) : Obj := ⟨(.type "list"), none, (.seq #[(.int 14 287), (.int 4 288), (.int 0 289), (.int 1 290), (.int 1 291), (.int 6 292), (.int 1 293), (.int 16 294), (.int 46 295), (.int 1 296)] 0), #[]⟩
noncomputable def o_36 (P : Params) : Obj := ⟨(.type "dict"), none, (.dict #[] 0), #[]⟩
noncomputable def o_37 (P : Params) : Obj := ⟨(.type "tuple"), none, (.seq #[.none] 0), #[]⟩
noncomputable def o_38 (P : Params) : Obj := ⟨(.type "tuple"), none, (.seq #[(.int 14 0), (.int 4 0), (.int 0 0), (.int 1 0), (.int 1 0), (.int 6 0), (.int 1 0), (.int 16 0), (.int 46 0), (.int 1 0)] 0), #[]⟩
noncomputable def o_39 (P : Params) : Obj := ⟨(.type "re.Pattern"), none, (.fields #[(.str (Str.mk #[40, 63, 109, 41, 94, 92, 46]) 285), (.int 40 298), (.int 0 0), .none, .none, (.ref 35), (.int 0 0)]), #[]⟩
noncomputable def o_40 (P : Params) : Obj := ⟨(.type "list"), none, (.seq #[(.int 14 303), (.int 9 304), (.int 4 305), (.int 1 306), (.int 2 307), (.int 16 308), (.int 10 309), (.int 16 310), (.int 13 311), (.int 0 312), (.int 7 313), (.int 7 314), (.int 16 315), (.int 13 316), (.int 16 317), (.int 10 318), (.int 15 319), (.int 18 320), (.int 5 321), (.int 16 322), (.int 10 323), (.int 15 324), (.int 13 325), (.int 11 326), (.int 16 327), (.int 13 328), (.int 5 329), (.int 5 330), (.int 0 331), (.int 16 332), (.int 10 333), (.int 1 334), (.int 15 335), (.int 2 336), (.int 0 337), (.int 1 338)] 0), #[]⟩
noncomputable def o_41 (P : Params) : Obj := ⟨(.type "dict"), none, (.dict #[] 0), #[]⟩
noncomputable def o_42 (P : Params) : Obj := ⟨(.type "tuple"), none, (.seq #[.none] 0), #[]⟩
noncomputable def o_43 (P : Params) : Obj := ⟨(.type "tuple"), none, (.seq #[(.int 14 0), (.int 9 0), (.int 4 0), (.int 1 0), (.int 2 0), (.int 16 0), (.int 10 0), (.int 16 0), (.int 13 0), (.int 0 0), (.int 7 0), (.int 7 0), (.int 16 0), (.int 13 0), (.int 16 0), (.int 10 0), (.int 15 0), (.int 18 0), (.int 5 0), (.int 16 0), (.int 10 0), (.int 15 0), (.int 13 0), (.int 11 0), (.int 16 0), (.int 13 0), (.int 5 0), (.int 5 0), (.int 0 0), (.int 16 0), (.int 10 0), (.int 1 0), (.int 15 0), (.int 2 0), (.int 0 0), (.int 1 0)] 0), #[]⟩
noncomputable def o_44 (P : Params) : Obj := ⟨(.type "re.Pattern"), none, (.fields #[(.str (Str.mk #[40, 63, 58, 92, 114, 92, 110, 124, 92, 110, 124, 92, 114, 40, 63, 33, 92, 110, 41, 41]) 301), (.int 32 340), (.int 0 0), .none, .none, (.ref 40), (.int 0 0)]), #[]⟩
noncomputable def o_45 (P : Params) : Obj := ⟨(.type "tuple"), none, (.seq #[] 0), #[]⟩
noncomputable def o_46 (P : Params) : Obj := ⟨.none, none, (.fields #[]), #[]⟩
noncomputable def o_47 (P : Params) : Obj := ⟨(.type "tuple"), none, (.seq #[(.str (Str.ofString "data") 347)] 0), #[]⟩
noncomputable def o_48 (P : Params) : Obj := ⟨(.type "tuple"), none, (.seq #[] 0), #[]⟩
noncomputable def o_49 (P : Params) : Obj := ⟨.none, none, (.func { name := (Str.ofString "quotedata"), qualname := (Str.ofString "quotedata"), params := fArgs (stm 5), body := .stmts (fBody (stm 5)), scope := fScope (stm 5), globals := 0, closure := [], defaults := .none, kwdefaults := .none, doc := .none, pyModule := .none, annotations := none, code := .none, closureTuple := .none, builtins := 0 }), #[]⟩
noncomputable def o_50 (P : Params) : Obj := ⟨(.type "code"), none, (.fields #[(.str (Str.ofString "quotedata") 344), (.str (Str.ofString "quotedata") 345), (.str (Str.ofString "/claim/cut.py") 346), (.int 6 0), (.int 1 0), (.int 0 0), (.int 0 0), (.int 3 0), (.ref 42), (.bool true), (.int 276 0), (.ref 43), .none, (.ref 44), (.ref 45), (.ref 46), (.int 348 0), (.int 6 0), (.str (Str.ofString "/claim/cut.py") 349)]), #[]⟩
noncomputable def o_51 (P : Params) : Obj := ⟨(.type "function"), none, (.func { name := (Str.ofString "quotedata"), qualname := (Str.ofString "quotedata"), params := fArgs (stm 5), body := .stmts (fBody (stm 5)), scope := fScope (stm 5), globals := 3, closure := [], defaults := .none, kwdefaults := .none, doc := .none, pyModule := (.str (Str.ofString "cpy313.smtplib") 282), annotations := none, code := (.ref 47), closureTuple := .none, builtins := 0 }), #[]⟩
noncomputable def o_52 (P : Params) : Obj := ⟨(.type "tuple"), none, (.seq #[] 0), #[]⟩
noncomputable def o_53 (P : Params) : Obj := ⟨.none, none, (.fields #[]), #[]⟩
noncomputable def o_54 (P : Params) : Obj := ⟨(.type "tuple"), none, (.seq #[(.str (Str.ofString "data") 354)] 0), #[]⟩
noncomputable def o_55 (P : Params) : Obj := ⟨(.type "tuple"), none, (.seq #[] 0), #[]⟩
noncomputable def o_56 (P : Params) : Obj := ⟨.none, none, (.func { name := (Str.ofString "_fix_eols"), qualname := (Str.ofString "_fix_eols"), params := fArgs (stm 6), body := .stmts (fBody (stm 6)), scope := fScope (stm 6), globals := 0, closure := [], defaults := .none, kwdefaults := .none, doc := .none, pyModule := .none, annotations := none, code := .none, closureTuple := .none, builtins := 0 }), #[]⟩
noncomputable def o_57 (P : Params) : Obj := ⟨(.type "code"), none, (.fields #[(.str (Str.ofString "_fix_eols") 351), (.str (Str.ofString "_fix_eols") 352), (.str (Str.ofString "/claim/cut.py") 353), (.int 8 0), (.int 1 0), (.int 0 0), (.int 0 0), (.int 3 0), (.ref 49), (.bool true), (.int 276 0), (.ref 50), .none, (.ref 51), (.ref 52), (.ref 53), (.int 355 0), (.int 8 0), (.str (Str.ofString "/claim/cut.py") 356)]), #[]⟩
noncomputable def o_58 (P : Params) : Obj := ⟨(.type "function"), none, (.func { name := (Str.ofString "_fix_eols"), qualname := (Str.ofString "_fix_eols"), params := fArgs (stm 6), body := .stmts (fBody (stm 6)), scope := fScope (stm 6), globals := 3, closure := [], defaults := .none, kwdefaults := .none, doc := .none, pyModule := (.str (Str.ofString "cpy313.smtplib") 282), annotations := none, code := (.ref 54), closureTuple := .none, builtins := 0 }), #[]⟩
noncomputable def o_59 (P : Params) : Obj := ⟨(.type "tuple"), none, (.seq #[] 0), #[]⟩
noncomputable def o_60 (P : Params) : Obj := ⟨.none, none, (.fields #[]), #[]⟩
noncomputable def o_61 (P : Params) : Obj := ⟨(.type "tuple"), none, (.seq #[(.str (Str.ofString "s") 363)] 0), #[]⟩
noncomputable def o_62 (P : Params) : Obj := ⟨(.type "tuple"), none, (.seq #[] 0), #[]⟩
noncomputable def o_63 (P : Params) : Obj := ⟨.none, none, (.func { name := (Str.ofString "_strxfrm"), qualname := (Str.ofString "_strxfrm"), params := fArgs (stm 8), body := .stmts (fBody (stm 8)), scope := fScope (stm 8), globals := 0, closure := [], defaults := .none, kwdefaults := .none, doc := .none, pyModule := .none, annotations := none, code := .none, closureTuple := .none, builtins := 0 }), #[]⟩
noncomputable def o_64 (P : Params) : Obj := ⟨(.type "code"), none, (.fields #[(.str (Str.ofString "_strxfrm") 360), (.str (Str.ofString "_strxfrm") 361), (.str (Str.ofString "/claim/cut.py") 362), (.int 11 0), (.int 1 0), (.int 0 0), (.int 0 0), (.int 3 0), (.ref 56), (.bool true), (.int 276 0), (.ref 57), .none, (.ref 58), (.ref 59), (.ref 60), (.int 364 0), (.int 11 0), (.str (Str.ofString "/claim/cut.py") 365)]), #[]⟩
noncomputable def o_65 (P : Params) : Obj := ⟨(.type "function"), none, (.func { name := (Str.ofString "_strxfrm"), qualname := (Str.ofString "_strxfrm"), params := fArgs (stm 8), body := .stmts (fBody (stm 8)), scope := fScope (stm 8), globals := 3, closure := [], defaults := .none, kwdefaults := .none, doc := .none, pyModule := (.str (Str.ofString "cpy313.locale") 358), annotations := none, code := (.ref 61), closureTuple := .none, builtins := 0 }), #[]⟩
noncomputable def o_66 (P : Params) : Obj := ⟨(.type "tuple"), none, (.seq #[] 0), #[]⟩
noncomputable def o_67 (P : Params) : Obj := ⟨.none, none, (.fields #[]), #[]⟩
noncomputable def o_68 (P : Params) : Obj := ⟨(.type "tuple"), none, (.seq #[(.str (Str.ofString "s") 370), (.str (Str.ofString "amount") 371), (.str (Str.ofString "lpos") 372), (.str (Str.ofString "rpos") 373)] 0), #[]⟩
noncomputable def o_69 (P : Params) : Obj := ⟨(.type "tuple"), none, (.seq #[] 0), #[]⟩
noncomputable def o_70 (P : Params) : Obj := ⟨.none, none, (.func { name := (Str.ofString "_strip_padding"), qualname := (Str.ofString "_strip_padding"), params := fArgs (stm 9), body := .stmts (fBody (stm 9)), scope := fScope (stm 9), globals := 0, closure := [], defaults := .none, kwdefaults := .none, doc := .none, pyModule := .none, annotations := none, code := .none, closureTuple := .none, builtins := 0 }), #[]⟩
noncomputable def o_71 (P : Params) : Obj := ⟨(.type "code"), none, (.fields #[(.str (Str.ofString "_strip_padding") 367), (.str (Str.ofString "_strip_padding") 368), (.str (Str.ofString "/claim/cut.py") 369), (.int 13 0), (.int 2 0), (.int 0 0), (.int 0 0), (.int 3 0), (.ref 63), (.bool true), (.int 276 0), (.ref 64), .none, (.ref 65), (.ref 66), (.ref 67), (.int 374 0), (.int 13 0), (.str (Str.ofString "/claim/cut.py") 375)]), #[]⟩
noncomputable def o_72 (P : Params) : Obj := ⟨(.type "function"), none, (.func { name := (Str.ofString "_strip_padding"), qualname := (Str.ofString "_strip_padding"), params := fArgs (stm 9), body := .stmts (fBody (stm 9)), scope := fScope (stm 9), globals := 3, closure := [], defaults := .none, kwdefaults := .none, doc := .none, pyModule := (.str (Str.ofString "cpy313.locale") 358), annotations := none, code := (.ref 68), closureTuple := .none, builtins := 0 }), #[]⟩
noncomputable def o_73 (P : Params) : Obj := ⟨(.type "tuple"), none, (.seq #[] 0), #[]⟩
noncomputable def o_74 (P : Params) : Obj := ⟨.none, none, (.fields #[]), #[]⟩
noncomputable def o_75 (P : Params) : Obj := ⟨(.type "tuple"), none, (.seq #[(.str (Str.ofString "a") 382), (.str (Str.ofString "b") 383)] 0), #[]⟩
noncomputable def o_76 (P : Params) : Obj := ⟨(.type "tuple"), none, (.seq #[] 0), #[]⟩
noncomputable def o_77 (P : Params) : Obj := ⟨.none, none, (.func { name := (Str.ofString "add"), qualname := (Str.ofString "add"), params := fArgs (stm 11), body := .stmts (fBody (stm 11)), scope := fScope (stm 11), globals := 0, closure := [], defaults := .none, kwdefaults := .none, doc := .none, pyModule := .none, annotations := none, code := .none, closureTuple := .none, builtins := 0 }), #[]⟩
noncomputable def o_78 (P : Params) : Obj := ⟨(.type "code"), none, (.fields #[(.str (Str.ofString "add") 379), (.str (Str.ofString "add") 380), (.str (Str.ofString "/claim/cut.py") 381), (.int 24 0), (.int 2 0), (.int 0 0), (.int 0 0), (.int 3 0), (.ref 70), (.bool true), (.int 276 0), (.ref 71), .none, (.ref 72), (.ref 73), (.ref 74), (.int 384 0), (.int 24 0), (.str (Str.ofString "/claim/cut.py") 385)]), #[]⟩
noncomputable def o_79 (P : Params) : Obj := ⟨(.type "function"), none, (.func { name := (Str.ofString "add"), qualname := (Str.ofString "add"), params := fArgs (stm 11), body := .stmts (fBody (stm 11)), scope := fScope (stm 11), globals := 3, closure := [], defaults := .none, kwdefaults := .none, doc := .none, pyModule := (.str (Str.ofString "cpy313.operator") 377), annotations := none, code := (.ref 75), closureTuple := .none, builtins := 0 }), #[]⟩
noncomputable def o_80 (P : Params) : Obj := ⟨(.type "tuple"), none, (.seq #[] 0), #[]⟩
noncomputable def o_81 (P : Params) : Obj := ⟨.none, none, (.fields #[]), #[]⟩
noncomputable def o_82 (P : Params) : Obj := ⟨(.type "tuple"), none, (.seq #[(.str (Str.ofString "a") 390), (.str (Str.ofString "b") 391)] 0), #[]⟩
noncomputable def o_83 (P : Params) : Obj := ⟨(.type "tuple"), none, (.seq #[] 0), #[]⟩
noncomputable def o_84 (P : Params) : Obj := ⟨.none, none, (.func { name := (Str.ofString "or_"), qualname := (Str.ofString "or_"), params := fArgs (stm 12), body := .stmts (fBody (stm 12)), scope := fScope (stm 12), globals := 0, closure := [], defaults := .none, kwdefaults := .none, doc := .none, pyModule := .none, annotations := none, code := .none, closureTuple := .none, builtins := 0 }), #[]⟩
noncomputable def o_85 (P : Params) : Obj := ⟨(.type "code"), none, (.fields #[(.str (Str.ofString "or_") 387), (.str (Str.ofString "or_") 388), (.str (Str.ofString "/claim/cut.py") 389), (.int 26 0), (.int 2 0), (.int 0 0), (.int 0 0), (.int 3 0), (.ref 77), (.bool true), (.int 276 0), (.ref 78), .none, (.ref 79), (.ref 80), (.ref 81), (.int 392 0), (.int 26 0), (.str (Str.ofString "/claim/cut.py") 393)]), #[]⟩
noncomputable def o_86 (P : Params) : Obj := ⟨(.type "function"), none, (.func { name := (Str.ofString "or_"), qualname := (Str.ofString "or_"), params := fArgs (stm 12), body := .stmts (fBody (stm 12)), scope := fScope (stm 12), globals := 3, closure := [], defaults := .none, kwdefaults := .none, doc := .none, pyModule := (.str (Str.ofString "cpy313.operator") 377), annotations := none, code := (.ref 82), closureTuple := .none, builtins := 0 }), #[]⟩
noncomputable def o_87 (P : Params) : Obj := ⟨(.type "tuple"), none, (.seq #[] 0), #[]⟩
noncomputable def o_88 (P : Params) : Obj := ⟨.none, none, (.fields #[]), #[]⟩
noncomputable def o_89 (P : Params) : Obj := ⟨(.type "tuple"), none, (.seq #[(.str (Str.ofString "a") 398), (.str (Str.ofString "b") 399)] 0), #[]⟩
noncomputable def o_90 (P : Params) : Obj := ⟨(.type "tuple"), none, (.seq #[] 0), #[]⟩
noncomputable def o_91 (P : Params) : Obj := ⟨.none, none, (.func { name := (Str.ofString "sub"), qualname := (Str.ofString "sub"), params := fArgs (stm 13), body := .stmts (fBody (stm 13)), scope := fScope (stm 13), globals := 0, closure := [], defaults := .none, kwdefaults := .none, doc := .none, pyModule := .none, annotations := none, code := .none, closureTuple := .none, builtins := 0 }), #[]⟩
noncomputable def o_92 (P : Params) : Obj := ⟨(.type "code"), none, (.fields #[(.str (Str.ofString "sub") 395), (.str (Str.ofString "sub") 396), (.str (Str.ofString "/claim/cut.py") 397), (.int 28 0), (.int 2 0), (.int 0 0), (.int 0 0), (.int 3 0), (.ref 84), (.bool true), (.int 276 0), (.ref 85), .none, (.ref 86), (.ref 87), (.ref 88), (.int 400 0), (.int 28 0), (.str (Str.ofString "/claim/cut.py") 401)]), #[]⟩
noncomputable def o_93 (P : Params) : Obj := ⟨(.type "function"), none, (.func { name := (Str.ofString "sub"), qualname := (Str.ofString "sub"), params := fArgs (stm 13), body := .stmts (fBody (stm 13)), scope := fScope (stm 13), globals := 3, closure := [], defaults := .none, kwdefaults := .none, doc := .none, pyModule := (.str (Str.ofString "cpy313.operator") 377), annotations := none, code := (.ref 89), closureTuple := .none, builtins := 0 }), #[]⟩
noncomputable def tree_32 : Params → BT := fun P => (.node (o_1 P) (.node (o_2 P) (.node (o_4 P) (.node (o_8 P) (.node (o_16 P) (.node (o_32 P) .nil .nil) .nil) (.node (o_24 P) .nil .nil)) (.node (o_12 P) (.node (o_20 P) .nil .nil) (.node (o_28 P) .nil .nil))) (.node (o_6 P) (.node (o_10 P) (.node (o_18 P) .nil .nil) (.node (o_26 P) .nil .nil)) (.node (o_14 P) (.node (o_22 P) .nil .nil) (.node (o_30 P) .nil .nil)))) (.node (o_3 P) (.node (o_5 P) (.node (o_9 P) (.node (o_17 P) .nil .nil) (.node (o_25 P) .nil .nil)) (.node (o_13 P) (.node (o_21 P) .nil .nil) (.node (o_29 P) .nil .nil))) (.node (o_7 P) (.node (o_11 P) (.node (o_19 P) .nil .nil) (.node (o_27 P) .nil .nil)) (.node (o_15 P) (.node (o_23 P) .nil .nil) (.node (o_31 P) .nil .nil)))))
noncomputable def tree_93 : Params → BT := fun P => (.node (o_1 P) (.node (o_2 P) (.node (o_33 P) (.node (o_8 P) (.node (o_16 P) (.node (o_32 P) (.node (o_66 P) .nil .nil) .nil) (.node (o_50 P) (.node (o_82 P) .nil .nil) .nil)) (.node (o_24 P) (.node (o_42 P) (.node (o_74 P) .nil .nil) .nil) (.node (o_58 P) (.node (o_90 P) .nil .nil) .nil))) (.node (o_12 P) (.node (o_20 P) (.node (o_38 P) (.node (o_70 P) .nil .nil) .nil) (.node (o_54 P) (.node (o_86 P) .nil .nil) .nil)) (.node (o_28 P) (.node (o_46 P) (.node (o_78 P) .nil .nil) .nil) (.node (o_62 P) .nil .nil)))) (.node (o_6 P) (.node (o_10 P) (.node (o_18 P) (.node (o_36 P) (.node (o_68 P) .nil .nil) .nil) (.node (o_52 P) (.node (o_84 P) .nil .nil) .nil)) (.node (o_26 P) (.node (o_44 P) (.node (o_76 P) .nil .nil) .nil) (.node (o_60 P) (.node (o_92 P) .nil .nil) .nil))) (.node (o_14 P) (.node (o_22 P) (.node (o_40 P) (.node (o_72 P) .nil .nil) .nil) (.node (o_56 P) (.node (o_88 P) .nil .nil) .nil)) (.node (o_34 P) (.node (o_48 P) (.node (o_80 P) .nil .nil) .nil) (.node (o_64 P) .nil .nil))))) (.node (o_3 P) (.node (o_5 P) (.node (o_9 P) (.node (o_17 P) (.node (o_35 P) (.node (o_67 P) .nil .nil) .nil) (.node (o_51 P) (.node (o_83 P) .nil .nil) .nil)) (.node (o_25 P) (.node (o_43 P) (.node (o_75 P) .nil .nil) .nil) (.node (o_59 P) (.node (o_91 P) .nil .nil) .nil))) (.node (o_13 P) (.node (o_21 P) (.node (o_39 P) (.node (o_71 P) .nil .nil) .nil) (.node (o_55 P) (.node (o_87 P) .nil .nil) .nil)) (.node (o_29 P) (.node (o_47 P) (.node (o_79 P) .nil .nil) .nil) (.node (o_63 P) .nil .nil)))) (.node (o_7 P) (.node (o_11 P) (.node (o_19 P) (.node (o_37 P) (.node (o_69 P) .nil .nil) .nil) (.node (o_53 P) (.node (o_85 P) .nil .nil) .nil)) (.node (o_27 P) (.node (o_45 P) (.node (o_77 P) .nil .nil) .nil) (.node (o_61 P) (.node (o_93 P) .nil .nil) .nil))) (.node (o_15 P) (.node (o_23 P) (.node (o_41 P) (.node (o_73 P) .nil .nil) .nil) (.node (o_57 P) (.node (o_89 P) .nil .nil) .nil)) (.node (o_31 P) (.node (o_49 P) (.node (o_81 P) .nil .nil) .nil) (.node (o_65 P) .nil .nil))))))
noncomputable def env_1 : Env := { scope := PySem.Challenge.pw_to0032_01.main.scope, locals := mainNs, globals := mainNs, cells := [], code := .ref 30, frame := some 31 }
noncomputable def sts_32 : List Stmt := [stm 1, stm 2, stm 3, stm 4, stm 5, stm 6, stm 7, stm 8, stm 9, stm 10, stm 11, stm 12, stm 13, stm 14]
end top
def chunks17 : Nat → List (Int × Str) → List (List (Int × Str))
  | 0, _ => []
  | n + 1, l => l.take 17 :: chunks17 n (l.drop 17)
def pairsIn : List (Option Expr) → List Expr → List (Int × Str)
  | some (.Constant (.int k) _ _) :: ks, (.Constant (.str x) _ _) :: vs => (k, x) :: pairsIn ks vs
  | _, _ => []
def pairsOf : Stmt → List (Int × Str)
  | .Assign _ (.Dict ks vs _) _ => pairsIn ks vs
  | _ => []
def ps : List (Int × Str) := pairsOf (stm 17)
def ps0 : List (Int × Str) := ps.take 17
def psC : List (List (Int × Str)) := chunks17 37 (ps.drop 17)
def psL : List (Int × Str) := ps.drop 646
def y109 (_ : Params) : Obj := dictOf (ents 472 (ps0 ++ psC.flatten) ++ ents2 2410 psL) 650
def yAt (i : Nat) : Obj := ((subsOf (472 + 51) psC ++ [dictOf (ents2 2410 psL) 4])[i]?).getD default
def y110 (_ : Params) : Obj := yAt 0
def y111 (_ : Params) : Obj := yAt 1
def y112 (_ : Params) : Obj := yAt 2
def y113 (_ : Params) : Obj := yAt 3
def y114 (_ : Params) : Obj := yAt 4
def y115 (_ : Params) : Obj := yAt 5
def y116 (_ : Params) : Obj := yAt 6
def y117 (_ : Params) : Obj := yAt 7
def y118 (_ : Params) : Obj := yAt 8
def y119 (_ : Params) : Obj := yAt 9
def y120 (_ : Params) : Obj := yAt 10
def y121 (_ : Params) : Obj := yAt 11
def y122 (_ : Params) : Obj := yAt 12
def y123 (_ : Params) : Obj := yAt 13
def y124 (_ : Params) : Obj := yAt 14
def y125 (_ : Params) : Obj := yAt 15
def y126 (_ : Params) : Obj := yAt 16
def y127 (_ : Params) : Obj := yAt 17
def y128 (_ : Params) : Obj := yAt 18
def y129 (_ : Params) : Obj := yAt 19
def y130 (_ : Params) : Obj := yAt 20
def y131 (_ : Params) : Obj := yAt 21
def y132 (_ : Params) : Obj := yAt 22
def y133 (_ : Params) : Obj := yAt 23
def y134 (_ : Params) : Obj := yAt 24
def y135 (_ : Params) : Obj := yAt 25
def y136 (_ : Params) : Obj := yAt 26
def y137 (_ : Params) : Obj := yAt 27
def y138 (_ : Params) : Obj := yAt 28
def y139 (_ : Params) : Obj := yAt 29
def y140 (_ : Params) : Obj := yAt 30
def y141 (_ : Params) : Obj := yAt 31
def y142 (_ : Params) : Obj := yAt 32
def y143 (_ : Params) : Obj := yAt 33
def y144 (_ : Params) : Obj := yAt 34
def y145 (_ : Params) : Obj := yAt 35
def y146 (_ : Params) : Obj := yAt 36
def y147 (_ : Params) : Obj := yAt 37
noncomputable def a3 (P : Params) : Obj := ⟨(.type "dict"), none, (.dict #[⟨PyData.keyHash P (Str.ofString "__name__"), (.str (Str.ofString "__name__") 165), (.str (Str.ofString "cpy313.stringprep") 403)⟩, ⟨PyData.keyHash P (Str.ofString "__doc__"), (.str (Str.ofString "__doc__") 166), .none⟩, ⟨PyData.keyHash P (Str.ofString "__package__"), (.str (Str.ofString "__package__") 167), .none⟩, ⟨PyData.keyHash P (Str.ofString "__loader__"), (.str (Str.ofString "__loader__") 168), (.builtin "__main__.__loader__#opaque")⟩, ⟨PyData.keyHash P (Str.ofString "__spec__"), (.str (Str.ofString "__spec__") 169), .none⟩, ⟨PyData.keyHash P (Str.ofString "__annotations__"), (.str (Str.ofString "__annotations__") 170), (.ref 6)⟩, ⟨PyData.keyHash P (Str.ofString "__builtins__"), (.str (Str.ofString "__builtins__") 171), (.ref 4)⟩, ⟨PyData.keyHash P (Str.ofString "__file__"), (.str (Str.ofString "__file__") 173), (.str (Str.ofString "/claim/cut.py") 172)⟩, ⟨PyData.keyHash P (Str.ofString "__cached__"), (.str (Str.ofString "__cached__") 174), .none⟩, ⟨PyData.keyHash P (Str.ofString "_sre"), (.str (Str.ofString "_sre") 275), (.ref 12)⟩, ⟨PyData.keyHash P (Str.ofString "_twin_re_1"), (.str (Str.ofString "_twin_re_1") 299), (.ref 36)⟩, ⟨PyData.keyHash P (Str.ofString "_twin_re_2"), (.str (Str.ofString "_twin_re_2") 341), (.ref 41)⟩, ⟨PyData.keyHash P (Str.ofString "CRLF"), (.str (Str.ofString "CRLF") 343), (.str (Str.mk #[13, 10]) 342)⟩, ⟨PyData.keyHash P (Str.ofString "quotedata"), (.str (Str.ofString "quotedata") 350), (.ref 48)⟩, ⟨PyData.keyHash P (Str.ofString "_fix_eols"), (.str (Str.ofString "_fix_eols") 357), (.ref 55)⟩, ⟨PyData.keyHash P (Str.ofString "_strxfrm"), (.str (Str.ofString "_strxfrm") 366), (.ref 62)⟩, ⟨PyData.keyHash P (Str.ofString "_strip_padding"), (.str (Str.ofString "_strip_padding") 376), (.ref 69)⟩, ⟨PyData.keyHash P (Str.ofString "add"), (.str (Str.ofString "add") 386), (.ref 76)⟩, ⟨PyData.keyHash P (Str.ofString "or_"), (.str (Str.ofString "or_") 394), (.ref 83)⟩, ⟨PyData.keyHash P (Str.ofString "sub"), (.str (Str.ofString "sub") 402), (.ref 90)⟩, ⟨PyData.keyHash P (Str.ofString "b1_set"), (.str (Str.ofString "b1_set") 464), (.ref 98)⟩, ⟨PyData.keyHash P (Str.ofString "in_table_b1"), (.str (Str.ofString "in_table_b1") 471), (.ref 108)⟩] 22), #[]⟩
noncomputable def a29 (P : Params) : Obj := ⟨.none, none, (.fields #[(.int 6 0), (.int 0 0), (.ref 47), (.int 8 0), (.int 0 0), (.ref 54), (.int 11 0), (.int 0 0), (.ref 61), (.int 13 0), (.int 0 0), (.ref 68), (.int 24 0), (.int 0 0), (.ref 75), (.int 26 0), (.int 0 0), (.ref 82), (.int 28 0), (.int 0 0), (.ref 89), (.int 32 0), (.int 0 0), (.ref 107)]), #[]⟩
noncomputable def x91 (P : Params) : Obj := ⟨(.type "list"), none, (.seq #[(.int 173 405), (.int 847 406), (.int 6150 407), (.int 6155 408), (.int 6156 409), (.int 6157 410), (.int 8203 411), (.int 8204 412), (.int 8205 413), (.int 8288 414), (.int 65279 415)] 0), #[]⟩
noncomputable def x92 (P : Params) : Obj := ⟨(.type "range"), none, (.fields #[(.int 65024 416), (.int 65040 417), (.int 1 418)]), #[]⟩
noncomputable def x93 (P : Params) : Obj := ⟨(.type "list"), none, (.seq #[(.int 65024 421), (.int 65025 422), (.int 65026 423), (.int 65027 424), (.int 65028 425), (.int 65029 426), (.int 65030 427), (.int 65031 428), (.int 65032 429), (.int 65033 430), (.int 65034 431), (.int 65035 432), (.int 65036 433), (.int 65037 434), (.int 65038 435), (.int 65039 436)] 18), #[]⟩
noncomputable def x94 (P : Params) : Obj := ⟨(.type "range_iterator"), none, (.fields #[(.int 65040 0), (.int 0 0), (.int 1 0)]), #[]⟩
noncomputable def x95 (P : Params) : Obj := ⟨(.type "tuple"), none, (.seq #[] 0), #[]⟩
noncomputable def x96 (P : Params) : Obj := ⟨(.type "StopIteration"), none, (.fields #[(.ref 95), .none, .none, .none, (.bool false), .none]), #[]⟩
noncomputable def x97 (P : Params) : Obj := ⟨(.type "list"), none, (.seq #[(.int 173 405), (.int 847 406), (.int 6150 407), (.int 6155 408), (.int 6156 409), (.int 6157 410), (.int 8203 411), (.int 8204 412), (.int 8205 413), (.int 8288 414), (.int 65279 415), (.int 65024 421), (.int 65025 422), (.int 65026 423), (.int 65027 424), (.int 65028 425), (.int 65029 426), (.int 65030 427), (.int 65031 428), (.int 65032 429), (.int 65033 430), (.int 65034 431), (.int 65035 432), (.int 65036 433), (.int 65037 434), (.int 65038 435), (.int 65039 436)] 0), #[]⟩
noncomputable def x98 (P : Params) : Obj := ⟨(.type "set"), none, (.set #[(65024, (.int 65024 421)), (65025, (.int 65025 422)), (65026, (.int 65026 423)), (65027, (.int 65027 424)), (65028, (.int 65028 425)), (65029, (.int 65029 426)), (6150, (.int 6150 407)), (65030, (.int 65030 427)), (65031, (.int 65031 428)), (65032, (.int 65032 429)), (65033, (.int 65033 430)), (6155, (.int 6155 408)), (6156, (.int 6156 409)), (6157, (.int 6157 410)), (8203, (.int 8203 411)), (8204, (.int 8204 412)), (8205, (.int 8205 413)), (65034, (.int 65034 431)), (65035, (.int 65035 432)), (65036, (.int 65036 433)), (65037, (.int 65037 434)), (65038, (.int 65038 435)), (65039, (.int 65039 436)), (173, (.int 173 405)), (847, (.int 847 406)), (8288, (.int 8288 414)), (65279, (.int 65279 415))] 29 { mask := 127, place := #[0, 1, 2, 3, 4, 5, 6, 7, 8, 9, 10, 11, 12, 13, 14, 15, 16, 17, 18, 19, 20, 21, 22, 45, 79, 96, 127], dummies := #[], finger := 0, led := !P.followText "set-order", moves := 2, plain := true }), #[]⟩
noncomputable def x99 (P : Params) : Obj := ⟨(.type "list_iterator"), none, (.fields #[.none, (.int 27 0)]), #[]⟩
noncomputable def x100 (P : Params) : Obj := ⟨(.type "tuple"), none, (.seq #[] 0), #[]⟩
noncomputable def x101 (P : Params) : Obj := ⟨(.type "StopIteration"), none, (.fields #[(.ref 100), .none, .none, .none, (.bool false), .none]), #[]⟩
noncomputable def x102 (P : Params) : Obj := ⟨(.type "tuple"), none, (.seq #[] 0), #[]⟩
noncomputable def x103 (P : Params) : Obj := ⟨.none, none, (.fields #[]), #[]⟩
noncomputable def x104 (P : Params) : Obj := ⟨(.type "tuple"), none, (.seq #[(.str (Str.ofString "code") 468)] 0), #[]⟩
noncomputable def x105 (P : Params) : Obj := ⟨(.type "tuple"), none, (.seq #[] 0), #[]⟩
noncomputable def x106 (P : Params) : Obj := ⟨.none, none, (.func { name := (Str.ofString "in_table_b1"), qualname := (Str.ofString "in_table_b1"), params := fArgs (stm 16), body := .stmts (fBody (stm 16)), scope := fScope (stm 16), globals := 0, closure := [], defaults := .none, kwdefaults := .none, doc := .none, pyModule := .none, annotations := none, code := .none, closureTuple := .none, builtins := 0 }), #[]⟩
noncomputable def x107 (P : Params) : Obj := ⟨(.type "code"), none, (.fields #[(.str (Str.ofString "in_table_b1") 465), (.str (Str.ofString "in_table_b1") 466), (.str (Str.ofString "/claim/cut.py") 467), (.int 32 0), (.int 1 0), (.int 0 0), (.int 0 0), (.int 3 0), (.ref 102), (.bool true), (.int 276 0), (.ref 103), .none, (.ref 104), (.ref 105), (.ref 106), (.int 469 0), (.int 32 0), (.str (Str.ofString "/claim/cut.py") 470)]), #[]⟩
noncomputable def x108 (P : Params) : Obj := ⟨(.type "function"), none, (.func { name := (Str.ofString "in_table_b1"), qualname := (Str.ofString "in_table_b1"), params := fArgs (stm 16), body := .stmts (fBody (stm 16)), scope := fScope (stm 16), globals := 3, closure := [], defaults := .none, kwdefaults := .none, doc := .none, pyModule := (.str (Str.ofString "cpy313.stringprep") 403), annotations := none, code := (.ref 107), closureTuple := .none, builtins := 0 }), #[]⟩
noncomputable def b3 (P : Params) : Obj := ⟨(.type "dict"), none, (.dict #[⟨PyData.keyHash P (Str.ofString "__name__"), (.str (Str.ofString "__name__") 165), (.str (Str.ofString "cpy313.stringprep") 403)⟩, ⟨PyData.keyHash P (Str.ofString "__doc__"), (.str (Str.ofString "__doc__") 166), .none⟩, ⟨PyData.keyHash P (Str.ofString "__package__"), (.str (Str.ofString "__package__") 167), .none⟩, ⟨PyData.keyHash P (Str.ofString "__loader__"), (.str (Str.ofString "__loader__") 168), (.builtin "__main__.__loader__#opaque")⟩, ⟨PyData.keyHash P (Str.ofString "__spec__"), (.str (Str.ofString "__spec__") 169), .none⟩, ⟨PyData.keyHash P (Str.ofString "__annotations__"), (.str (Str.ofString "__annotations__") 170), (.ref 6)⟩, ⟨PyData.keyHash P (Str.ofString "__builtins__"), (.str (Str.ofString "__builtins__") 171), (.ref 4)⟩, ⟨PyData.keyHash P (Str.ofString "__file__"), (.str (Str.ofString "__file__") 173), (.str (Str.ofString "/claim/cut.py") 172)⟩, ⟨PyData.keyHash P (Str.ofString "__cached__"), (.str (Str.ofString "__cached__") 174), .none⟩, ⟨PyData.keyHash P (Str.ofString "_sre"), (.str (Str.ofString "_sre") 275), (.ref 12)⟩, ⟨PyData.keyHash P (Str.ofString "_twin_re_1"), (.str (Str.ofString "_twin_re_1") 299), (.ref 36)⟩, ⟨PyData.keyHash P (Str.ofString "_twin_re_2"), (.str (Str.ofString "_twin_re_2") 341), (.ref 41)⟩, ⟨PyData.keyHash P (Str.ofString "CRLF"), (.str (Str.ofString "CRLF") 343), (.str (Str.mk #[13, 10]) 342)⟩, ⟨PyData.keyHash P (Str.ofString "quotedata"), (.str (Str.ofString "quotedata") 350), (.ref 48)⟩, ⟨PyData.keyHash P (Str.ofString "_fix_eols"), (.str (Str.ofString "_fix_eols") 357), (.ref 55)⟩, ⟨PyData.keyHash P (Str.ofString "_strxfrm"), (.str (Str.ofString "_strxfrm") 366), (.ref 62)⟩, ⟨PyData.keyHash P (Str.ofString "_strip_padding"), (.str (Str.ofString "_strip_padding") 376), (.ref 69)⟩, ⟨PyData.keyHash P (Str.ofString "add"), (.str (Str.ofString "add") 386), (.ref 76)⟩, ⟨PyData.keyHash P (Str.ofString "or_"), (.str (Str.ofString "or_") 394), (.ref 83)⟩, ⟨PyData.keyHash P (Str.ofString "sub"), (.str (Str.ofString "sub") 402), (.ref 90)⟩, ⟨PyData.keyHash P (Str.ofString "b1_set"), (.str (Str.ofString "b1_set") 464), (.ref 98)⟩, ⟨PyData.keyHash P (Str.ofString "in_table_b1"), (.str (Str.ofString "in_table_b1") 471), (.ref 108)⟩, ⟨PyData.keyHash P (Str.ofString "b3_exceptions"), (.str (Str.ofString "b3_exceptions") 2422), (.ref 109)⟩] 23), #[]⟩
noncomputable def c3 (P : Params) : Obj := ⟨(.type "dict"), none, (.dict #[⟨PyData.keyHash P (Str.ofString "__name__"), (.str (Str.ofString "__name__") 165), (.str (Str.ofString "law_to0032_01") 2438)⟩, ⟨PyData.keyHash P (Str.ofString "__doc__"), (.str (Str.ofString "__doc__") 166), .none⟩, ⟨PyData.keyHash P (Str.ofString "__package__"), (.str (Str.ofString "__package__") 167), .none⟩, ⟨PyData.keyHash P (Str.ofString "__loader__"), (.str (Str.ofString "__loader__") 168), (.builtin "__main__.__loader__#opaque")⟩, ⟨PyData.keyHash P (Str.ofString "__spec__"), (.str (Str.ofString "__spec__") 169), .none⟩, ⟨PyData.keyHash P (Str.ofString "__annotations__"), (.str (Str.ofString "__annotations__") 170), (.ref 6)⟩, ⟨PyData.keyHash P (Str.ofString "__builtins__"), (.str (Str.ofString "__builtins__") 171), (.ref 4)⟩, ⟨PyData.keyHash P (Str.ofString "__file__"), (.str (Str.ofString "__file__") 173), (.str (Str.ofString "/claim/cut.py") 172)⟩, ⟨PyData.keyHash P (Str.ofString "__cached__"), (.str (Str.ofString "__cached__") 174), .none⟩, ⟨PyData.keyHash P (Str.ofString "_sre"), (.str (Str.ofString "_sre") 275), (.ref 12)⟩, ⟨PyData.keyHash P (Str.ofString "_twin_re_1"), (.str (Str.ofString "_twin_re_1") 299), (.ref 36)⟩, ⟨PyData.keyHash P (Str.ofString "_twin_re_2"), (.str (Str.ofString "_twin_re_2") 341), (.ref 41)⟩, ⟨PyData.keyHash P (Str.ofString "CRLF"), (.str (Str.ofString "CRLF") 343), (.str (Str.mk #[13, 10]) 342)⟩, ⟨PyData.keyHash P (Str.ofString "quotedata"), (.str (Str.ofString "quotedata") 350), (.ref 48)⟩, ⟨PyData.keyHash P (Str.ofString "_fix_eols"), (.str (Str.ofString "_fix_eols") 357), (.ref 55)⟩, ⟨PyData.keyHash P (Str.ofString "_strxfrm"), (.str (Str.ofString "_strxfrm") 366), (.ref 62)⟩, ⟨PyData.keyHash P (Str.ofString "_strip_padding"), (.str (Str.ofString "_strip_padding") 376), (.ref 69)⟩, ⟨PyData.keyHash P (Str.ofString "add"), (.str (Str.ofString "add") 386), (.ref 76)⟩, ⟨PyData.keyHash P (Str.ofString "or_"), (.str (Str.ofString "or_") 394), (.ref 83)⟩, ⟨PyData.keyHash P (Str.ofString "sub"), (.str (Str.ofString "sub") 402), (.ref 90)⟩, ⟨PyData.keyHash P (Str.ofString "b1_set"), (.str (Str.ofString "b1_set") 464), (.ref 98)⟩, ⟨PyData.keyHash P (Str.ofString "in_table_b1"), (.str (Str.ofString "in_table_b1") 471), (.ref 108)⟩, ⟨PyData.keyHash P (Str.ofString "b3_exceptions"), (.str (Str.ofString "b3_exceptions") 2422), (.ref 109)⟩, ⟨PyData.keyHash P (Str.ofString "map_table_b3"), (.str (Str.ofString "map_table_b3") 2430), (.ref 154)⟩, ⟨PyData.keyHash P (Str.ofString "in_table_c11"), (.str (Str.ofString "in_table_c11") 2437), (.ref 161)⟩, ⟨PyData.keyHash P (Str.ofString "_law_typed"), (.str (Str.ofString "_law_typed") 2448), (.ref 168)⟩, ⟨PyData.keyHash P (Str.ofString "_law_places"), (.str (Str.ofString "_law_places") 2454), (.ref 173)⟩, ⟨PyData.keyHash P (Str.ofString "_law_laid"), (.str (Str.ofString "_law_laid") 2460), (.ref 178)⟩, ⟨PyData.keyHash P (Str.ofString "_law_told"), (.str (Str.ofString "_law_told") 2466), (.ref 183)⟩, ⟨PyData.keyHash P (Str.ofString "_law_falls"), (.str (Str.ofString "_law_falls") 2472), (.ref 188)⟩, ⟨PyData.keyHash P (Str.ofString "law"), (.str (Str.ofString "law") 2478), (.ref 193)⟩] 31), #[]⟩
noncomputable def c29 (P : Params) : Obj := ⟨.none, none, (.fields #[(.int 6 0), (.int 0 0), (.ref 47), (.int 8 0), (.int 0 0), (.ref 54), (.int 11 0), (.int 0 0), (.ref 61), (.int 13 0), (.int 0 0), (.ref 68), (.int 24 0), (.int 0 0), (.ref 75), (.int 26 0), (.int 0 0), (.ref 82), (.int 28 0), (.int 0 0), (.ref 89), (.int 32 0), (.int 0 0), (.ref 107), (.int 35 0), (.int 0 0), (.ref 153), (.int 40 0), (.int 0 0), (.ref 160), (.int 43 0), (.int 0 0), (.ref 167), (.int 49 0), (.int 0 0), (.ref 172), (.int 52 0), (.int 0 0), (.ref 177), (.int 59 0), (.int 0 0), (.ref 182), (.int 69 0), (.int 0 0), (.ref 187), (.int 71 0), (.int 0 0), (.ref 192)]), #[]⟩
noncomputable def x148 (P : Params) : Obj := ⟨(.type "tuple"), none, (.seq #[] 0), #[]⟩
noncomputable def x149 (P : Params) : Obj := ⟨.none, none, (.fields #[]), #[]⟩
noncomputable def x150 (P : Params) : Obj := ⟨(.type "tuple"), none, (.seq #[(.str (Str.ofString "code") 2426), (.str (Str.ofString "r") 2427)] 0), #[]⟩
noncomputable def x151 (P : Params) : Obj := ⟨(.type "tuple"), none, (.seq #[] 0), #[]⟩
noncomputable def x152 (P : Params) : Obj := ⟨.none, none, (.func { name := (Str.ofString "map_table_b3"), qualname := (Str.ofString "map_table_b3"), params := fArgs (stm 18), body := .stmts (fBody (stm 18)), scope := fScope (stm 18), globals := 0, closure := [], defaults := .none, kwdefaults := .none, doc := .none, pyModule := .none, annotations := none, code := .none, closureTuple := .none, builtins := 0 }), #[]⟩
noncomputable def x153 (P : Params) : Obj := ⟨(.type "code"), none, (.fields #[(.str (Str.ofString "map_table_b3") 2423), (.str (Str.ofString "map_table_b3") 2424), (.str (Str.ofString "/claim/cut.py") 2425), (.int 35 0), (.int 1 0), (.int 0 0), (.int 0 0), (.int 3 0), (.ref 148), (.bool true), (.int 276 0), (.ref 149), .none, (.ref 150), (.ref 151), (.ref 152), (.int 2428 0), (.int 35 0), (.str (Str.ofString "/claim/cut.py") 2429)]), #[]⟩
noncomputable def x154 (P : Params) : Obj := ⟨(.type "function"), none, (.func { name := (Str.ofString "map_table_b3"), qualname := (Str.ofString "map_table_b3"), params := fArgs (stm 18), body := .stmts (fBody (stm 18)), scope := fScope (stm 18), globals := 3, closure := [], defaults := .none, kwdefaults := .none, doc := .none, pyModule := (.str (Str.ofString "cpy313.stringprep") 403), annotations := none, code := (.ref 153), closureTuple := .none, builtins := 0 }), #[]⟩
noncomputable def x155 (P : Params) : Obj := ⟨(.type "tuple"), none, (.seq #[] 0), #[]⟩
noncomputable def x156 (P : Params) : Obj := ⟨.none, none, (.fields #[]), #[]⟩
noncomputable def x157 (P : Params) : Obj := ⟨(.type "tuple"), none, (.seq #[(.str (Str.ofString "code") 2434)] 0), #[]⟩
noncomputable def x158 (P : Params) : Obj := ⟨(.type "tuple"), none, (.seq #[] 0), #[]⟩
noncomputable def x159 (P : Params) : Obj := ⟨.none, none, (.func { name := (Str.ofString "in_table_c11"), qualname := (Str.ofString "in_table_c11"), params := fArgs (stm 19), body := .stmts (fBody (stm 19)), scope := fScope (stm 19), globals := 0, closure := [], defaults := .none, kwdefaults := .none, doc := .none, pyModule := .none, annotations := none, code := .none, closureTuple := .none, builtins := 0 }), #[]⟩
noncomputable def x160 (P : Params) : Obj := ⟨(.type "code"), none, (.fields #[(.str (Str.ofString "in_table_c11") 2431), (.str (Str.ofString "in_table_c11") 2432), (.str (Str.ofString "/claim/cut.py") 2433), (.int 40 0), (.int 1 0), (.int 0 0), (.int 0 0), (.int 3 0), (.ref 155), (.bool true), (.int 276 0), (.ref 156), .none, (.ref 157), (.ref 158), (.ref 159), (.int 2435 0), (.int 40 0), (.str (Str.ofString "/claim/cut.py") 2436)]), #[]⟩
noncomputable def x161 (P : Params) : Obj := ⟨(.type "function"), none, (.func { name := (Str.ofString "in_table_c11"), qualname := (Str.ofString "in_table_c11"), params := fArgs (stm 19), body := .stmts (fBody (stm 19)), scope := fScope (stm 19), globals := 3, closure := [], defaults := .none, kwdefaults := .none, doc := .none, pyModule := (.str (Str.ofString "cpy313.stringprep") 403), annotations := none, code := (.ref 160), closureTuple := .none, builtins := 0 }), #[]⟩
noncomputable def x162 (P : Params) : Obj := ⟨(.type "tuple"), none, (.seq #[] 0), #[]⟩
noncomputable def x163 (P : Params) : Obj := ⟨.none, none, (.fields #[]), #[]⟩
noncomputable def x164 (P : Params) : Obj := ⟨(.type "tuple"), none, (.seq #[(.str (Str.ofString "cells") 2443), (.str (Str.ofString "typed") 2444), (.str (Str.ofString "cell") 2445)] 0), #[]⟩
noncomputable def x165 (P : Params) : Obj := ⟨(.type "tuple"), none, (.seq #[] 0), #[]⟩
noncomputable def x166 (P : Params) : Obj := ⟨.none, none, (.func { name := (Str.ofString "_law_typed"), qualname := (Str.ofString "_law_typed"), params := fArgs (stm 21), body := .stmts (fBody (stm 21)), scope := fScope (stm 21), globals := 0, closure := [], defaults := .none, kwdefaults := .none, doc := .none, pyModule := .none, annotations := none, code := .none, closureTuple := .none, builtins := 0 }), #[]⟩
noncomputable def x167 (P : Params) : Obj := ⟨(.type "code"), none, (.fields #[(.str (Str.ofString "_law_typed") 2440), (.str (Str.ofString "_law_typed") 2441), (.str (Str.ofString "/claim/cut.py") 2442), (.int 43 0), (.int 1 0), (.int 0 0), (.int 0 0), (.int 3 0), (.ref 162), (.bool true), (.int 276 0), (.ref 163), .none, (.ref 164), (.ref 165), (.ref 166), (.int 2446 0), (.int 43 0), (.str (Str.ofString "/claim/cut.py") 2447)]), #[]⟩
noncomputable def x168 (P : Params) : Obj := ⟨(.type "function"), none, (.func { name := (Str.ofString "_law_typed"), qualname := (Str.ofString "_law_typed"), params := fArgs (stm 21), body := .stmts (fBody (stm 21)), scope := fScope (stm 21), globals := 3, closure := [], defaults := .none, kwdefaults := .none, doc := .none, pyModule := (.str (Str.ofString "law_to0032_01") 2438), annotations := none, code := (.ref 167), closureTuple := .none, builtins := 0 }), #[]⟩
noncomputable def x169 (P : Params) : Obj := ⟨(.type "tuple"), none, (.seq #[] 0), #[]⟩
noncomputable def x170 (P : Params) : Obj := ⟨.none, none, (.fields #[]), #[]⟩
noncomputable def x171 (P : Params) : Obj := ⟨.none, none, (.func { name := (Str.ofString "_law_places"), qualname := (Str.ofString "_law_places"), params := fArgs (stm 22), body := .stmts (fBody (stm 22)), scope := fScope (stm 22), globals := 0, closure := [], defaults := .none, kwdefaults := .none, doc := .none, pyModule := .none, annotations := none, code := .none, closureTuple := .none, builtins := 0 }), #[]⟩
noncomputable def x172 (P : Params) : Obj := ⟨(.type "code"), none, (.fields #[(.str (Str.ofString "_law_places") 2449), (.str (Str.ofString "_law_places") 2450), (.str (Str.ofString "/claim/cut.py") 2451), (.int 49 0), (.int 1 0), (.int 0 0), (.int 0 0), (.int 3 0), (.ref 169), (.bool true), (.int 276 0), (.ref 170), .none, .none, .none, (.ref 171), (.int 2452 0), (.int 49 0), (.str (Str.ofString "/claim/cut.py") 2453)]), #[]⟩
noncomputable def x173 (P : Params) : Obj := ⟨(.type "function"), none, (.func { name := (Str.ofString "_law_places"), qualname := (Str.ofString "_law_places"), params := fArgs (stm 22), body := .stmts (fBody (stm 22)), scope := fScope (stm 22), globals := 3, closure := [], defaults := .none, kwdefaults := .none, doc := .none, pyModule := (.str (Str.ofString "law_to0032_01") 2438), annotations := none, code := (.ref 172), closureTuple := .none, builtins := 0 }), #[]⟩
noncomputable def x174 (P : Params) : Obj := ⟨(.type "tuple"), none, (.seq #[] 0), #[]⟩
noncomputable def x175 (P : Params) : Obj := ⟨.none, none, (.fields #[]), #[]⟩
noncomputable def x176 (P : Params) : Obj := ⟨.none, none, (.func { name := (Str.ofString "_law_laid"), qualname := (Str.ofString "_law_laid"), params := fArgs (stm 23), body := .stmts (fBody (stm 23)), scope := fScope (stm 23), globals := 0, closure := [], defaults := .none, kwdefaults := .none, doc := .none, pyModule := .none, annotations := none, code := .none, closureTuple := .none, builtins := 0 }), #[]⟩
noncomputable def x177 (P : Params) : Obj := ⟨(.type "code"), none, (.fields #[(.str (Str.ofString "_law_laid") 2455), (.str (Str.ofString "_law_laid") 2456), (.str (Str.ofString "/claim/cut.py") 2457), (.int 52 0), (.int 1 0), (.int 0 0), (.int 0 0), (.int 3 0), (.ref 174), (.bool true), (.int 276 0), (.ref 175), .none, .none, .none, (.ref 176), (.int 2458 0), (.int 52 0), (.str (Str.ofString "/claim/cut.py") 2459)]), #[]⟩
noncomputable def x178 (P : Params) : Obj := ⟨(.type "function"), none, (.func { name := (Str.ofString "_law_laid"), qualname := (Str.ofString "_law_laid"), params := fArgs (stm 23), body := .stmts (fBody (stm 23)), scope := fScope (stm 23), globals := 3, closure := [], defaults := .none, kwdefaults := .none, doc := .none, pyModule := (.str (Str.ofString "law_to0032_01") 2438), annotations := none, code := (.ref 177), closureTuple := .none, builtins := 0 }), #[]⟩
noncomputable def x179 (P : Params) : Obj := ⟨(.type "tuple"), none, (.seq #[] 0), #[]⟩
noncomputable def x180 (P : Params) : Obj := ⟨.none, none, (.fields #[]), #[]⟩
noncomputable def x181 (P : Params) : Obj := ⟨.none, none, (.func { name := (Str.ofString "_law_told"), qualname := (Str.ofString "_law_told"), params := fArgs (stm 24), body := .stmts (fBody (stm 24)), scope := fScope (stm 24), globals := 0, closure := [], defaults := .none, kwdefaults := .none, doc := .none, pyModule := .none, annotations := none, code := .none, closureTuple := .none, builtins := 0 }), #[]⟩
noncomputable def x182 (P : Params) : Obj := ⟨(.type "code"), none, (.fields #[(.str (Str.ofString "_law_told") 2461), (.str (Str.ofString "_law_told") 2462), (.str (Str.ofString "/claim/cut.py") 2463), (.int 59 0), (.int 2 0), (.int 0 0), (.int 0 0), (.int 3 0), (.ref 179), (.bool true), (.int 276 0), (.ref 180), .none, .none, .none, (.ref 181), (.int 2464 0), (.int 59 0), (.str (Str.ofString "/claim/cut.py") 2465)]), #[]⟩
noncomputable def x183 (P : Params) : Obj := ⟨(.type "function"), none, (.func { name := (Str.ofString "_law_told"), qualname := (Str.ofString "_law_told"), params := fArgs (stm 24), body := .stmts (fBody (stm 24)), scope := fScope (stm 24), globals := 3, closure := [], defaults := .none, kwdefaults := .none, doc := .none, pyModule := (.str (Str.ofString "law_to0032_01") 2438), annotations := none, code := (.ref 182), closureTuple := .none, builtins := 0 }), #[]⟩
noncomputable def x184 (P : Params) : Obj := ⟨(.type "tuple"), none, (.seq #[] 0), #[]⟩
noncomputable def x185 (P : Params) : Obj := ⟨.none, none, (.fields #[]), #[]⟩
noncomputable def x186 (P : Params) : Obj := ⟨.none, none, (.func { name := (Str.ofString "_law_falls"), qualname := (Str.ofString "_law_falls"), params := fArgs (stm 25), body := .stmts (fBody (stm 25)), scope := fScope (stm 25), globals := 0, closure := [], defaults := .none, kwdefaults := .none, doc := .none, pyModule := .none, annotations := none, code := .none, closureTuple := .none, builtins := 0 }), #[]⟩
noncomputable def x187 (P : Params) : Obj := ⟨(.type "code"), none, (.fields #[(.str (Str.ofString "_law_falls") 2467), (.str (Str.ofString "_law_falls") 2468), (.str (Str.ofString "/claim/cut.py") 2469), (.int 69 0), (.int 2 0), (.int 0 0), (.int 0 0), (.int 3 0), (.ref 184), (.bool true), (.int 276 0), (.ref 185), .none, .none, .none, (.ref 186), (.int 2470 0), (.int 69 0), (.str (Str.ofString "/claim/cut.py") 2471)]), #[]⟩
noncomputable def x188 (P : Params) : Obj := ⟨(.type "function"), none, (.func { name := (Str.ofString "_law_falls"), qualname := (Str.ofString "_law_falls"), params := fArgs (stm 25), body := .stmts (fBody (stm 25)), scope := fScope (stm 25), globals := 3, closure := [], defaults := .none, kwdefaults := .none, doc := .none, pyModule := (.str (Str.ofString "law_to0032_01") 2438), annotations := none, code := (.ref 187), closureTuple := .none, builtins := 0 }), #[]⟩
noncomputable def x189 (P : Params) : Obj := ⟨(.type "tuple"), none, (.seq #[] 0), #[]⟩
noncomputable def x190 (P : Params) : Obj := ⟨.none, none, (.fields #[]), #[]⟩
noncomputable def x191 (P : Params) : Obj := ⟨.none, none, (.func { name := (Str.ofString "law"), qualname := (Str.ofString "law"), params := fArgs (stm 26), body := .stmts (fBody (stm 26)), scope := fScope (stm 26), globals := 0, closure := [], defaults := .none, kwdefaults := .none, doc := .none, pyModule := .none, annotations := none, code := .none, closureTuple := .none, builtins := 0 }), #[]⟩
noncomputable def x192 (P : Params) : Obj := ⟨(.type "code"), none, (.fields #[(.str (Str.ofString "law") 2473), (.str (Str.ofString "law") 2474), (.str (Str.ofString "/claim/cut.py") 2475), (.int 71 0), (.int 1 0), (.int 0 0), (.int 0 0), (.int 3 0), (.ref 189), (.bool true), (.int 276 0), (.ref 190), .none, .none, .none, (.ref 191), (.int 2476 0), (.int 71 0), (.str (Str.ofString "/claim/cut.py") 2477)]), #[]⟩
noncomputable def x193 (P : Params) : Obj := ⟨(.type "function"), none, (.func { name := (Str.ofString "law"), qualname := (Str.ofString "law"), params := fArgs (stm 26), body := .stmts (fBody (stm 26)), scope := fScope (stm 26), globals := 3, closure := [], defaults := .none, kwdefaults := .none, doc := .none, pyModule := (.str (Str.ofString "law_to0032_01") 2438), annotations := none, code := (.ref 192), closureTuple := .none, builtins := 0 }), #[]⟩
noncomputable def t15 : Params → BT := fun P => (.node (top.o_1 P) (.node (top.o_2 P) (.node (a3 P) (.node (top.o_8 P) (.node (top.o_16 P) (.node (top.o_32 P) (.node (top.o_66 P) .nil .nil) (.node (x95 P) .nil .nil)) (.node (top.o_50 P) (.node (top.o_82 P) .nil .nil) .nil)) (.node (top.o_24 P) (.node (top.o_42 P) (.node (top.o_74 P) .nil .nil) (.node (x103 P) .nil .nil)) (.node (top.o_58 P) (.node (top.o_90 P) .nil .nil) .nil))) (.node (top.o_12 P) (.node (top.o_20 P) (.node (top.o_38 P) (.node (top.o_70 P) .nil .nil) (.node (x99 P) .nil .nil)) (.node (top.o_54 P) (.node (top.o_86 P) .nil .nil) .nil)) (.node (top.o_28 P) (.node (top.o_46 P) (.node (top.o_78 P) .nil .nil) (.node (x107 P) .nil .nil)) (.node (top.o_62 P) (.node (x91 P) .nil .nil) .nil)))) (.node (top.o_6 P) (.node (top.o_10 P) (.node (top.o_18 P) (.node (top.o_36 P) (.node (top.o_68 P) .nil .nil) (.node (x97 P) .nil .nil)) (.node (top.o_52 P) (.node (top.o_84 P) .nil .nil) .nil)) (.node (top.o_26 P) (.node (top.o_44 P) (.node (top.o_76 P) .nil .nil) (.node (x105 P) .nil .nil)) (.node (top.o_60 P) (.node (top.o_92 P) .nil .nil) .nil))) (.node (top.o_14 P) (.node (top.o_22 P) (.node (top.o_40 P) (.node (top.o_72 P) .nil .nil) (.node (x101 P) .nil .nil)) (.node (top.o_56 P) (.node (top.o_88 P) .nil .nil) .nil)) (.node (a29 P) (.node (top.o_48 P) (.node (top.o_80 P) .nil .nil) .nil) (.node (top.o_64 P) (.node (x93 P) .nil .nil) .nil))))) (.node (top.o_3 P) (.node (top.o_5 P) (.node (top.o_9 P) (.node (top.o_17 P) (.node (top.o_35 P) (.node (top.o_67 P) .nil .nil) (.node (x96 P) .nil .nil)) (.node (top.o_51 P) (.node (top.o_83 P) .nil .nil) .nil)) (.node (top.o_25 P) (.node (top.o_43 P) (.node (top.o_75 P) .nil .nil) (.node (x104 P) .nil .nil)) (.node (top.o_59 P) (.node (top.o_91 P) .nil .nil) .nil))) (.node (top.o_13 P) (.node (top.o_21 P) (.node (top.o_39 P) (.node (top.o_71 P) .nil .nil) (.node (x100 P) .nil .nil)) (.node (top.o_55 P) (.node (top.o_87 P) .nil .nil) .nil)) (.node (top.o_29 P) (.node (top.o_47 P) (.node (top.o_79 P) .nil .nil) (.node (x108 P) .nil .nil)) (.node (top.o_63 P) (.node (x92 P) .nil .nil) .nil)))) (.node (top.o_7 P) (.node (top.o_11 P) (.node (top.o_19 P) (.node (top.o_37 P) (.node (top.o_69 P) .nil .nil) (.node (x98 P) .nil .nil)) (.node (top.o_53 P) (.node (top.o_85 P) .nil .nil) .nil)) (.node (top.o_27 P) (.node (top.o_45 P) (.node (top.o_77 P) .nil .nil) (.node (x106 P) .nil .nil)) (.node (top.o_61 P) (.node (top.o_93 P) .nil .nil) .nil))) (.node (top.o_15 P) (.node (top.o_23 P) (.node (top.o_41 P) (.node (top.o_73 P) .nil .nil) (.node (x102 P) .nil .nil)) (.node (top.o_57 P) (.node (top.o_89 P) .nil .nil) .nil)) (.node (top.o_31 P) (.node (top.o_49 P) (.node (top.o_81 P) .nil .nil) .nil) (.node (top.o_65 P) (.node (x94 P) .nil .nil) .nil))))))
noncomputable def l15 (P : Params) : List Obj := [top.o_1 P, top.o_2 P, top.o_3 P, a3 P, top.o_5 P, top.o_6 P, top.o_7 P, top.o_8 P, top.o_9 P, top.o_10 P, top.o_11 P, top.o_12 P, top.o_13 P, top.o_14 P, top.o_15 P, top.o_16 P, top.o_17 P, top.o_18 P, top.o_19 P, top.o_20 P, top.o_21 P, top.o_22 P, top.o_23 P, top.o_24 P, top.o_25 P, top.o_26 P, top.o_27 P, top.o_28 P, top.o_29 P, a29 P, top.o_31 P, top.o_32 P, top.o_35 P, top.o_36 P, top.o_37 P, top.o_38 P, top.o_39 P, top.o_40 P, top.o_41 P, top.o_42 P, top.o_43 P, top.o_44 P, top.o_45 P, top.o_46 P, top.o_47 P, top.o_48 P, top.o_49 P, top.o_50 P, top.o_51 P, top.o_52 P, top.o_53 P, top.o_54 P, top.o_55 P, top.o_56 P, top.o_57 P, top.o_58 P, top.o_59 P, top.o_60 P, top.o_61 P, top.o_62 P, top.o_63 P, top.o_64 P, top.o_65 P, top.o_66 P, top.o_67 P, top.o_68 P, top.o_69 P, top.o_70 P, top.o_71 P, top.o_72 P, top.o_73 P, top.o_74 P, top.o_75 P, top.o_76 P, top.o_77 P, top.o_78 P, top.o_79 P, top.o_80 P, top.o_81 P, top.o_82 P, top.o_83 P, top.o_84 P, top.o_85 P, top.o_86 P, top.o_87 P, top.o_88 P, top.o_89 P, top.o_90 P, top.o_91 P, top.o_92 P, top.o_93 P, x91 P, x92 P, x93 P, x94 P, x95 P, x96 P, x97 P, x98 P, x99 P, x100 P, x101 P, x102 P, x103 P, x104 P, x105 P, x106 P, x107 P, x108 P]
noncomputable def t15d : Params → BT := fun P => (.node (top.o_1 P) (.node (top.o_2 P) (.node (a3 P) (.node (top.o_8 P) (.node (top.o_16 P) (.node (top.o_32 P) (.node (top.o_66 P) (.node (y127 P) .nil .nil) .nil) (.node (x95 P) .nil .nil)) (.node (top.o_50 P) (.node (top.o_82 P) (.node (y143 P) .nil .nil) .nil) (.node (y111 P) .nil .nil))) (.node (top.o_24 P) (.node (top.o_42 P) (.node (top.o_74 P) (.node (y135 P) .nil .nil) .nil) (.node (x103 P) .nil .nil)) (.node (top.o_58 P) (.node (top.o_90 P) .nil .nil) (.node (y119 P) .nil .nil)))) (.node (top.o_12 P) (.node (top.o_20 P) (.node (top.o_38 P) (.node (top.o_70 P) (.node (y131 P) .nil .nil) .nil) (.node (x99 P) .nil .nil)) (.node (top.o_54 P) (.node (top.o_86 P) (.node (y147 P) .nil .nil) .nil) (.node (y115 P) .nil .nil))) (.node (top.o_28 P) (.node (top.o_46 P) (.node (top.o_78 P) (.node (y139 P) .nil .nil) .nil) (.node (x107 P) .nil .nil)) (.node (top.o_62 P) (.node (x91 P) .nil .nil) (.node (y123 P) .nil .nil))))) (.node (top.o_6 P) (.node (top.o_10 P) (.node (top.o_18 P) (.node (top.o_36 P) (.node (top.o_68 P) (.node (y129 P) .nil .nil) .nil) (.node (x97 P) .nil .nil)) (.node (top.o_52 P) (.node (top.o_84 P) (.node (y145 P) .nil .nil) .nil) (.node (y113 P) .nil .nil))) (.node (top.o_26 P) (.node (top.o_44 P) (.node (top.o_76 P) (.node (y137 P) .nil .nil) .nil) (.node (x105 P) .nil .nil)) (.node (top.o_60 P) (.node (top.o_92 P) .nil .nil) (.node (y121 P) .nil .nil)))) (.node (top.o_14 P) (.node (top.o_22 P) (.node (top.o_40 P) (.node (top.o_72 P) (.node (y133 P) .nil .nil) .nil) (.node (x101 P) .nil .nil)) (.node (top.o_56 P) (.node (top.o_88 P) .nil .nil) (.node (y117 P) .nil .nil))) (.node (a29 P) (.node (top.o_48 P) (.node (top.o_80 P) (.node (y141 P) .nil .nil) .nil) (.node (y109 P) .nil .nil)) (.node (top.o_64 P) (.node (x93 P) .nil .nil) (.node (y125 P) .nil .nil)))))) (.node (top.o_3 P) (.node (top.o_5 P) (.node (top.o_9 P) (.node (top.o_17 P) (.node (top.o_35 P) (.node (top.o_67 P) (.node (y128 P) .nil .nil) .nil) (.node (x96 P) .nil .nil)) (.node (top.o_51 P) (.node (top.o_83 P) (.node (y144 P) .nil .nil) .nil) (.node (y112 P) .nil .nil))) (.node (top.o_25 P) (.node (top.o_43 P) (.node (top.o_75 P) (.node (y136 P) .nil .nil) .nil) (.node (x104 P) .nil .nil)) (.node (top.o_59 P) (.node (top.o_91 P) .nil .nil) (.node (y120 P) .nil .nil)))) (.node (top.o_13 P) (.node (top.o_21 P) (.node (top.o_39 P) (.node (top.o_71 P) (.node (y132 P) .nil .nil) .nil) (.node (x100 P) .nil .nil)) (.node (top.o_55 P) (.node (top.o_87 P) .nil .nil) (.node (y116 P) .nil .nil))) (.node (top.o_29 P) (.node (top.o_47 P) (.node (top.o_79 P) (.node (y140 P) .nil .nil) .nil) (.node (x108 P) .nil .nil)) (.node (top.o_63 P) (.node (x92 P) .nil .nil) (.node (y124 P) .nil .nil))))) (.node (top.o_7 P) (.node (top.o_11 P) (.node (top.o_19 P) (.node (top.o_37 P) (.node (top.o_69 P) (.node (y130 P) .nil .nil) .nil) (.node (x98 P) .nil .nil)) (.node (top.o_53 P) (.node (top.o_85 P) (.node (y146 P) .nil .nil) .nil) (.node (y114 P) .nil .nil))) (.node (top.o_27 P) (.node (top.o_45 P) (.node (top.o_77 P) (.node (y138 P) .nil .nil) .nil) (.node (x106 P) .nil .nil)) (.node (top.o_61 P) (.node (top.o_93 P) .nil .nil) (.node (y122 P) .nil .nil)))) (.node (top.o_15 P) (.node (top.o_23 P) (.node (top.o_41 P) (.node (top.o_73 P) (.node (y134 P) .nil .nil) .nil) (.node (x102 P) .nil .nil)) (.node (top.o_57 P) (.node (top.o_89 P) .nil .nil) (.node (y118 P) .nil .nil))) (.node (top.o_31 P) (.node (top.o_49 P) (.node (top.o_81 P) (.node (y142 P) .nil .nil) .nil) (.node (y110 P) .nil .nil)) (.node (top.o_65 P) (.node (x94 P) .nil .nil) (.node (y126 P) .nil .nil)))))))
noncomputable def t16 : Params → BT := fun P => (.node (top.o_1 P) (.node (top.o_2 P) (.node (b3 P) (.node (top.o_8 P) (.node (top.o_16 P) (.node (top.o_32 P) (.node (top.o_66 P) (.node (y127 P) .nil .nil) .nil) (.node (x95 P) .nil .nil)) (.node (top.o_50 P) (.node (top.o_82 P) (.node (y143 P) .nil .nil) .nil) (.node (y111 P) .nil .nil))) (.node (top.o_24 P) (.node (top.o_42 P) (.node (top.o_74 P) (.node (y135 P) .nil .nil) .nil) (.node (x103 P) .nil .nil)) (.node (top.o_58 P) (.node (top.o_90 P) .nil .nil) (.node (y119 P) .nil .nil)))) (.node (top.o_12 P) (.node (top.o_20 P) (.node (top.o_38 P) (.node (top.o_70 P) (.node (y131 P) .nil .nil) .nil) (.node (x99 P) .nil .nil)) (.node (top.o_54 P) (.node (top.o_86 P) (.node (y147 P) .nil .nil) .nil) (.node (y115 P) .nil .nil))) (.node (top.o_28 P) (.node (top.o_46 P) (.node (top.o_78 P) (.node (y139 P) .nil .nil) .nil) (.node (x107 P) .nil .nil)) (.node (top.o_62 P) (.node (x91 P) .nil .nil) (.node (y123 P) .nil .nil))))) (.node (top.o_6 P) (.node (top.o_10 P) (.node (top.o_18 P) (.node (top.o_36 P) (.node (top.o_68 P) (.node (y129 P) .nil .nil) .nil) (.node (x97 P) .nil .nil)) (.node (top.o_52 P) (.node (top.o_84 P) (.node (y145 P) .nil .nil) .nil) (.node (y113 P) .nil .nil))) (.node (top.o_26 P) (.node (top.o_44 P) (.node (top.o_76 P) (.node (y137 P) .nil .nil) .nil) (.node (x105 P) .nil .nil)) (.node (top.o_60 P) (.node (top.o_92 P) .nil .nil) (.node (y121 P) .nil .nil)))) (.node (top.o_14 P) (.node (top.o_22 P) (.node (top.o_40 P) (.node (top.o_72 P) (.node (y133 P) .nil .nil) .nil) (.node (x101 P) .nil .nil)) (.node (top.o_56 P) (.node (top.o_88 P) .nil .nil) (.node (y117 P) .nil .nil))) (.node (a29 P) (.node (top.o_48 P) (.node (top.o_80 P) (.node (y141 P) .nil .nil) .nil) (.node (y109 P) .nil .nil)) (.node (top.o_64 P) (.node (x93 P) .nil .nil) (.node (y125 P) .nil .nil)))))) (.node (top.o_3 P) (.node (top.o_5 P) (.node (top.o_9 P) (.node (top.o_17 P) (.node (top.o_35 P) (.node (top.o_67 P) (.node (y128 P) .nil .nil) .nil) (.node (x96 P) .nil .nil)) (.node (top.o_51 P) (.node (top.o_83 P) (.node (y144 P) .nil .nil) .nil) (.node (y112 P) .nil .nil))) (.node (top.o_25 P) (.node (top.o_43 P) (.node (top.o_75 P) (.node (y136 P) .nil .nil) .nil) (.node (x104 P) .nil .nil)) (.node (top.o_59 P) (.node (top.o_91 P) .nil .nil) (.node (y120 P) .nil .nil)))) (.node (top.o_13 P) (.node (top.o_21 P) (.node (top.o_39 P) (.node (top.o_71 P) (.node (y132 P) .nil .nil) .nil) (.node (x100 P) .nil .nil)) (.node (top.o_55 P) (.node (top.o_87 P) .nil .nil) (.node (y116 P) .nil .nil))) (.node (top.o_29 P) (.node (top.o_47 P) (.node (top.o_79 P) (.node (y140 P) .nil .nil) .nil) (.node (x108 P) .nil .nil)) (.node (top.o_63 P) (.node (x92 P) .nil .nil) (.node (y124 P) .nil .nil))))) (.node (top.o_7 P) (.node (top.o_11 P) (.node (top.o_19 P) (.node (top.o_37 P) (.node (top.o_69 P) (.node (y130 P) .nil .nil) .nil) (.node (x98 P) .nil .nil)) (.node (top.o_53 P) (.node (top.o_85 P) (.node (y146 P) .nil .nil) .nil) (.node (y114 P) .nil .nil))) (.node (top.o_27 P) (.node (top.o_45 P) (.node (top.o_77 P) (.node (y138 P) .nil .nil) .nil) (.node (x106 P) .nil .nil)) (.node (top.o_61 P) (.node (top.o_93 P) .nil .nil) (.node (y122 P) .nil .nil)))) (.node (top.o_15 P) (.node (top.o_23 P) (.node (top.o_41 P) (.node (top.o_73 P) (.node (y134 P) .nil .nil) .nil) (.node (x102 P) .nil .nil)) (.node (top.o_57 P) (.node (top.o_89 P) .nil .nil) (.node (y118 P) .nil .nil))) (.node (top.o_31 P) (.node (top.o_49 P) (.node (top.o_81 P) (.node (y142 P) .nil .nil) .nil) (.node (y110 P) .nil .nil)) (.node (top.o_65 P) (.node (x94 P) .nil .nil) (.node (y126 P) .nil .nil)))))))
noncomputable def t26 : Params → BT := fun P => (.node (top.o_1 P) (.node (top.o_2 P) (.node (c3 P) (.node (top.o_8 P) (.node (top.o_16 P) (.node (top.o_32 P) (.node (top.o_66 P) (.node (y127 P) .nil .nil) (.node (x191 P) .nil .nil)) (.node (x95 P) (.node (x159 P) .nil .nil) .nil)) (.node (top.o_50 P) (.node (top.o_82 P) (.node (y143 P) .nil .nil) .nil) (.node (y111 P) (.node (x175 P) .nil .nil) .nil))) (.node (top.o_24 P) (.node (top.o_42 P) (.node (top.o_74 P) (.node (y135 P) .nil .nil) .nil) (.node (x103 P) (.node (x167 P) .nil .nil) .nil)) (.node (top.o_58 P) (.node (top.o_90 P) (.node (x151 P) .nil .nil) .nil) (.node (y119 P) (.node (x183 P) .nil .nil) .nil)))) (.node (top.o_12 P) (.node (top.o_20 P) (.node (top.o_38 P) (.node (top.o_70 P) (.node (y131 P) .nil .nil) .nil) (.node (x99 P) (.node (x163 P) .nil .nil) .nil)) (.node (top.o_54 P) (.node (top.o_86 P) (.node (y147 P) .nil .nil) .nil) (.node (y115 P) (.node (x179 P) .nil .nil) .nil))) (.node (top.o_28 P) (.node (top.o_46 P) (.node (top.o_78 P) (.node (y139 P) .nil .nil) .nil) (.node (x107 P) (.node (x171 P) .nil .nil) .nil)) (.node (top.o_62 P) (.node (x91 P) (.node (x155 P) .nil .nil) .nil) (.node (y123 P) (.node (x187 P) .nil .nil) .nil))))) (.node (top.o_6 P) (.node (top.o_10 P) (.node (top.o_18 P) (.node (top.o_36 P) (.node (top.o_68 P) (.node (y129 P) .nil .nil) (.node (x193 P) .nil .nil)) (.node (x97 P) (.node (x161 P) .nil .nil) .nil)) (.node (top.o_52 P) (.node (top.o_84 P) (.node (y145 P) .nil .nil) .nil) (.node (y113 P) (.node (x177 P) .nil .nil) .nil))) (.node (top.o_26 P) (.node (top.o_44 P) (.node (top.o_76 P) (.node (y137 P) .nil .nil) .nil) (.node (x105 P) (.node (x169 P) .nil .nil) .nil)) (.node (top.o_60 P) (.node (top.o_92 P) (.node (x153 P) .nil .nil) .nil) (.node (y121 P) (.node (x185 P) .nil .nil) .nil)))) (.node (top.o_14 P) (.node (top.o_22 P) (.node (top.o_40 P) (.node (top.o_72 P) (.node (y133 P) .nil .nil) .nil) (.node (x101 P) (.node (x165 P) .nil .nil) .nil)) (.node (top.o_56 P) (.node (top.o_88 P) (.node (x149 P) .nil .nil) .nil) (.node (y117 P) (.node (x181 P) .nil .nil) .nil))) (.node (c29 P) (.node (top.o_48 P) (.node (top.o_80 P) (.node (y141 P) .nil .nil) .nil) (.node (y109 P) (.node (x173 P) .nil .nil) .nil)) (.node (top.o_64 P) (.node (x93 P) (.node (x157 P) .nil .nil) .nil) (.node (y125 P) (.node (x189 P) .nil .nil) .nil)))))) (.node (top.o_3 P) (.node (top.o_5 P) (.node (top.o_9 P) (.node (top.o_17 P) (.node (top.o_35 P) (.node (top.o_67 P) (.node (y128 P) .nil .nil) (.node (x192 P) .nil .nil)) (.node (x96 P) (.node (x160 P) .nil .nil) .nil)) (.node (top.o_51 P) (.node (top.o_83 P) (.node (y144 P) .nil .nil) .nil) (.node (y112 P) (.node (x176 P) .nil .nil) .nil))) (.node (top.o_25 P) (.node (top.o_43 P) (.node (top.o_75 P) (.node (y136 P) .nil .nil) .nil) (.node (x104 P) (.node (x168 P) .nil .nil) .nil)) (.node (top.o_59 P) (.node (top.o_91 P) (.node (x152 P) .nil .nil) .nil) (.node (y120 P) (.node (x184 P) .nil .nil) .nil)))) (.node (top.o_13 P) (.node (top.o_21 P) (.node (top.o_39 P) (.node (top.o_71 P) (.node (y132 P) .nil .nil) .nil) (.node (x100 P) (.node (x164 P) .nil .nil) .nil)) (.node (top.o_55 P) (.node (top.o_87 P) (.node (x148 P) .nil .nil) .nil) (.node (y116 P) (.node (x180 P) .nil .nil) .nil))) (.node (top.o_29 P) (.node (top.o_47 P) (.node (top.o_79 P) (.node (y140 P) .nil .nil) .nil) (.node (x108 P) (.node (x172 P) .nil .nil) .nil)) (.node (top.o_63 P) (.node (x92 P) (.node (x156 P) .nil .nil) .nil) (.node (y124 P) (.node (x188 P) .nil .nil) .nil))))) (.node (top.o_7 P) (.node (top.o_11 P) (.node (top.o_19 P) (.node (top.o_37 P) (.node (top.o_69 P) (.node (y130 P) .nil .nil) .nil) (.node (x98 P) (.node (x162 P) .nil .nil) .nil)) (.node (top.o_53 P) (.node (top.o_85 P) (.node (y146 P) .nil .nil) .nil) (.node (y114 P) (.node (x178 P) .nil .nil) .nil))) (.node (top.o_27 P) (.node (top.o_45 P) (.node (top.o_77 P) (.node (y138 P) .nil .nil) .nil) (.node (x106 P) (.node (x170 P) .nil .nil) .nil)) (.node (top.o_61 P) (.node (top.o_93 P) (.node (x154 P) .nil .nil) .nil) (.node (y122 P) (.node (x186 P) .nil .nil) .nil)))) (.node (top.o_15 P) (.node (top.o_23 P) (.node (top.o_41 P) (.node (top.o_73 P) (.node (y134 P) .nil .nil) .nil) (.node (x102 P) (.node (x166 P) .nil .nil) .nil)) (.node (top.o_57 P) (.node (top.o_89 P) (.node (x150 P) .nil .nil) .nil) (.node (y118 P) (.node (x182 P) .nil .nil) .nil))) (.node (top.o_31 P) (.node (top.o_49 P) (.node (top.o_81 P) (.node (y142 P) .nil .nil) .nil) (.node (y110 P) (.node (x174 P) .nil .nil) .nil)) (.node (top.o_65 P) (.node (x94 P) (.node (x158 P) .nil .nil) .nil) (.node (y126 P) (.node (x190 P) .nil .nil) .nil)))))))
noncomputable def l26 (P : Params) : List Obj := [top.o_1 P, top.o_2 P, top.o_3 P, c3 P, top.o_5 P, top.o_6 P, top.o_7 P, top.o_8 P, top.o_9 P, top.o_10 P, top.o_11 P, top.o_12 P, top.o_13 P, top.o_14 P, top.o_15 P, top.o_16 P, top.o_17 P, top.o_18 P, top.o_19 P, top.o_20 P, top.o_21 P, top.o_22 P, top.o_23 P, top.o_24 P, top.o_25 P, top.o_26 P, top.o_27 P, top.o_28 P, top.o_29 P, c29 P, top.o_31 P, top.o_32 P, top.o_35 P, top.o_36 P, top.o_37 P, top.o_38 P, top.o_39 P, top.o_40 P, top.o_41 P, top.o_42 P, top.o_43 P, top.o_44 P, top.o_45 P, top.o_46 P, top.o_47 P, top.o_48 P, top.o_49 P, top.o_50 P, top.o_51 P, top.o_52 P, top.o_53 P, top.o_54 P, top.o_55 P, top.o_56 P, top.o_57 P, top.o_58 P, top.o_59 P, top.o_60 P, top.o_61 P, top.o_62 P, top.o_63 P, top.o_64 P, top.o_65 P, top.o_66 P, top.o_67 P, top.o_68 P, top.o_69 P, top.o_70 P, top.o_71 P, top.o_72 P, top.o_73 P, top.o_74 P, top.o_75 P, top.o_76 P, top.o_77 P, top.o_78 P, top.o_79 P, top.o_80 P, top.o_81 P, top.o_82 P, top.o_83 P, top.o_84 P, top.o_85 P, top.o_86 P, top.o_87 P, top.o_88 P, top.o_89 P, top.o_90 P, top.o_91 P, top.o_92 P, top.o_93 P, x91 P, x92 P, x93 P, x94 P, x95 P, x96 P, x97 P, x98 P, x99 P, x100 P, x101 P, x102 P, x103 P, x104 P, x105 P, x106 P, x107 P, x108 P, y109 P, y110 P, y111 P, y112 P, y113 P, y114 P, y115 P, y116 P, y117 P, y118 P, y119 P, y120 P, y121 P, y122 P, y123 P, y124 P, y125 P, y126 P, y127 P, y128 P, y129 P, y130 P, y131 P, y132 P, y133 P, y134 P, y135 P, y136 P, y137 P, y138 P, y139 P, y140 P, y141 P, y142 P, y143 P, y144 P, y145 P, y146 P, y147 P, x148 P, x149 P, x150 P, x151 P, x152 P, x153 P, x154 P, x155 P, x156 P, x157 P, x158 P, x159 P, x160 P, x161 P, x162 P, x163 P, x164 P, x165 P, x166 P, x167 P, x168 P, x169 P, x170 P, x171 P, x172 P, x173 P, x174 P, x175 P, x176 P, x177 P, x178 P, x179 P, x180 P, x181 P, x182 P, x183 P, x184 P, x185 P, x186 P, x187 P, x188 P, x189 P, x190 P, x191 P, x192 P, x193 P]

noncomputable abbrev cE : Code := .body (behindTheImports pw) top.env_1
abbrev q0 : Pos := ⟨0, 0, 0, 0⟩
noncomputable abbrev S15 (w : World) (os : OsState) : SharedT := ⟨t15 w.params, 109, {}, Array.mk [], {}, 472, os⟩
noncomputable abbrev S14 (w : World) (os : OsState) : SharedT := ⟨top.tree_93 w.params, 91, {}, Array.mk [], {}, 405, os⟩
theorem pc1a (w : World) (os : OsState) : segRunT treeTable pw (w.withFollow "special-get-raises" false) 28 (some (.ref 6)) 1 1100 (S14 (w.withFollow "special-get-raises" false) os) (piecesOf [stm 15, stm 16] top.env_1 cE ⟨30, 0, 30, 8⟩ [topFrame q0]) = some (.next, S15 (w.withFollow "special-get-raises" false) os, cE, ⟨32, 0, 33, 30⟩) := by
  rw [PySem.W.Fast.te10110043849684766642, PySem.W.Fast.te14364793385576792824]
  kernel_rfl
theorem pc1b (w : World) (os : OsState) : segRunT treeTable pw (w.withFollow "special-get-raises" true) 28 (some (.ref 6)) 1 1100 (S14 (w.withFollow "special-get-raises" true) os) (piecesOf [stm 15, stm 16] top.env_1 cE ⟨30, 0, 30, 8⟩ [topFrame q0]) = some (.next, S15 (w.withFollow "special-get-raises" true) os, cE, ⟨32, 0, 33, 30⟩) := by
  rw [PySem.W.Fast.te10110043849684766642, PySem.W.Fast.te14364793385576792824]
  kernel_rfl
theorem pc1T (b : Bool) (w : World) (os : OsState) : segRunT treeTable pw (w.withFollow "special-get-raises" b) 28 (some (.ref 6)) 1 1100 (S14 (w.withFollow "special-get-raises" b) os) (piecesOf [stm 15, stm 16] top.env_1 cE ⟨30, 0, 30, 8⟩ [topFrame q0]) = some (.next, S15 (w.withFollow "special-get-raises" b) os, cE, ⟨32, 0, 33, 30⟩) := by
  cases b
  · exact pc1a w os
  · exact pc1b w os
end D32
end
section
open PySem PySem.W PyProof.Rows
set_option maxRecDepth 100000
set_option maxHeartbeats 0
set_option linter.unusedVariables false
namespace D32
def dKeys : Stmt → List (Option Expr)
  | .Assign _ (.Dict ks _ _) _ => ks
  | _ => []
def dVals : Stmt → List Expr
  | .Assign _ (.Dict _ vs _) _ => vs
  | _ => []
def dPos : Stmt → Pos
  | .Assign _ (.Dict _ _ q) _ => q
  | _ => ⟨0, 0, 0, 0⟩
def aPos : Stmt → Pos
  | .Assign _ _ q => q
  | _ => ⟨0, 0, 0, 0⟩
def nPos : Stmt → Pos
  | .Assign [.Name _ q] _ _ => q
  | _ => ⟨0, 0, 0, 0⟩
theorem stm17_is : stm 17 = .Assign [.Name "b3_exceptions" (nPos (stm 17))] (.Dict (dKeys (stm 17)) (dVals (stm 17)) (dPos (stm 17))) (aPos (stm 17)) := by kernel_rfl
theorem items17 (env : Env) : (evalEachOpt (dKeys (stm 17)) env).zip ((evalEach (dVals (stm 17)) env).map fun v => do let x ← v; standAt (dPos (stm 17)); pure x) = itemsOf env (dPos (stm 17)) (ps0 ++ (psC.flatten ++ psL)) := by kernel_rfl
theorem ps0_len : ps0.length = 17 := by decide +kernel
theorem psC_len : ∀ c ∈ psC, c.length = 17 := by
  have : psC.all (fun c => c.length == 17) = true := by decide +kernel
  intro c hc
  simpa using List.all_eq_true.mp this c hc
theorem psL_len : psL.length = 4 := by decide +kernel
theorem psC_flat : psC.flatten.length = 629 := by decide +kernel
theorem ps_ok : okKeys 0 (ps0 ++ (psC.flatten ++ psL)) = true := by decide +kernel
theorem heap15 (P : Params) : absHeap (t15 P) 109 {} = HL (l15 P) [] := by kernel_rfl
theorem l15_len (P : Params) : (l15 P).length = 109 := by kernel_rfl
theorem heap15d (P : Params) : HL (l15 P) (dictOf (ents 472 (ps0 ++ psC.flatten) ++ ents2 (472 + 3 * (ps0 ++ psC.flatten).length) psL) ((ps0 ++ psC.flatten).length + psL.length) :: (subsOf (472 + 3 * 17) psC ++ [dictOf (ents2 (472 + 3 * (ps0 ++ psC.flatten).length) psL) psL.length])) = absHeap (t15d P) 148 {} := by kernel_rfl
noncomputable abbrev S15d (w : World) (os : OsState) : SharedT := ⟨t15d w.params, 148, {}, Array.mk [], {}, 2422, os⟩
noncomputable abbrev S16 (w : World) (os : OsState) : SharedT := ⟨t16 w.params, 148, {}, Array.mk [], {}, 2423, os⟩

theorem goDict17 (w : World) (os : OsState) : Go pw w 28 (some (.ref 6)) (eval (.Dict (dKeys (stm 17)) (dVals (stm 17)) (dPos (stm 17))) top.env_1) (S15 w os).abs (.ref 109) (S15d w os).abs 70001 := by
  have h := goDisplay (p := pw) (w := w) (n₀ := 28) (ann := some (.ref 6)) (base := l15 w.params) (g := Array.mk []) (dr := {}) (os := os) top.env_1 (dPos (stm 17)) (by rw [l15_len]; decide) (by rw [l15_len]; decide) ps0 psC psL ps0_len psC_len (by rw [psL_len]; decide)
    (by intro e; have := psL_len; rw [e] at this; cases this) 0 472 ps_ok (by rw [ps0_len, psC_flat, psL_len]; decide)
  rw [heap15d, l15_len, ← items17, ← heap15] at h
  rw [show 472 + 3 * (ps0 ++ psC.flatten).length + 3 * psL.length = 2422 by rw [List.length_append, ps0_len, psC_flat, psL_len]] at h
  exact goSeq 1 70000 goStandAt h

theorem swaps17 (vs : List Expr) (ks : List (Option Expr)) (q q' : Pos) (x : Str) (n : Nat) (env : Env) : swapsWith (.Dict ks vs q) (some (.Name x q')) n env = pure false := rfl

noncomputable abbrev tail17 : Value → Sem Flow := fun v => do
  standAt (nPos (stm 17))
  bindName top.env_1 "b3_exceptions" v
  pure .next
theorem exec17 : exec (stm 17) top.env_1 = (do
    standAt (aPos (stm 17))
    let v ← eval (.Dict (dKeys (stm 17)) (dVals (stm 17)) (dPos (stm 17))) top.env_1
    tail17 v) := by
  conv => lhs; rw [stm17_is]
  exact exec_Assign_Name _ _ _ _ _ (swaps17 ..)

theorem tail17_run (w : World) (os : OsState) (q : Pos) : segRunT treeTable pw w 28 (some (.ref 6)) 1 30 (S15d w os) ⟨(tail17 (.ref 109)).wrap doneF deadEnd id id, cE, q, [topFrame q0]⟩ = some (.next, S16 w os, cE, ⟨34, 0, 34, 13⟩) := by
  rw [PySem.W.Fast.te10110043849684766642, PySem.W.Fast.te14364793385576792824]
  kernel_rfl

theorem pc17 (w : World) (os : OsState) (q : Pos) : ∃ n, n ≤ 70100 ∧ segRun treeTable pw w 28 (some (.ref 6)) 1 n (S15 w os).abs (piecesOf [stm 17] top.env_1 cE q [topFrame q0]) = some (.next, (S16 w os).abs, cE, ⟨34, 0, 34, 13⟩) := by
  have e1 : execs [stm 17] top.env_1 = (do
      let _ ← standAt (aPos (stm 17))
      let v ← eval (.Dict (dKeys (stm 17)) (dVals (stm 17)) (dPos (stm 17))) top.env_1
      tail17 v) := by
    rw [execs_cons, exec17]
    simp only [bind_assoc]
    congr 1
  have g : Go pw w 28 (some (.ref 6)) (do
      let _ ← standAt (aPos (stm 17))
      eval (.Dict (dKeys (stm 17)) (dVals (stm 17)) (dPos (stm 17))) top.env_1) (S15 w os).abs (.ref 109) (S15d w os).abs 70002 := goSeq 1 70001 goStandAt (goDict17 w os)
  have e2 : (execs [stm 17] top.env_1).wrap doneF deadEnd id id = (do
      let _ ← standAt (aPos (stm 17))
      eval (.Dict (dKeys (stm 17)) (dVals (stm 17)) (dPos (stm 17))) top.env_1 : Sem Value).wrap (fun v => (tail17 v).wrap doneF deadEnd id id) deadEnd id id := by
    rw [e1, ← bind_assoc, Sem.bind_eq_wrap', Sem.wrap_wrap]
    rfl
  obtain ⟨n, q', hn, h⟩ := g (fun v => (tail17 v).wrap doneF deadEnd id id) deadEnd id id cE q (topFrame q0) []
  refine ⟨n + 30, by omega, ?_⟩
  show segRun treeTable pw w 28 (some (.ref 6)) 1 (n + 30) (S15 w os).abs ⟨(execs [stm 17] top.env_1).wrap doneF deadEnd id id, cE, q, [topFrame q0]⟩ = _
  rw [e2]
  exact seg_go h (segRun_of (tail17_run w os q'))
noncomputable abbrev S26 (w : World) (os : OsState) : SharedT := ⟨t26 w.params, 194, {}, Array.mk [], {}, 2479, os⟩
theorem pc18 (w : World) (os : OsState) : segRunT treeTable pw w 28 (some (.ref 6)) 1 300 (S16 w os) (piecesOf [stm 18, stm 19, stm 20, stm 21, stm 22, stm 23, stm 24, stm 25, stm 26] top.env_1 cE ⟨34, 0, 34, 13⟩ [topFrame q0]) = some (.next, S26 w os, cE, ⟨71, 0, 86, 36⟩) := by
  rw [PySem.W.Fast.te10110043849684766642, PySem.W.Fast.te14364793385576792824]
  kernel_rfl
theorem fin26 (w : World) (os : OsState) : topRun treeTable pw w 28 (some (.ref 6)) 2 (S26 w os).abs ⟨doneF .next, cE, ⟨71, 0, 86, 36⟩, [topFrame q0]⟩ = some (S26 w os).abs := by kernel_rfl

theorem pc14 (w : World) : ∀ os, segRun treeTable pw w 28 (some (.ref 6)) 1 1100 (S14 w os).abs (piecesOf [stm 15, stm 16] top.env_1 cE ⟨30, 0, 30, 8⟩ [topFrame q0]) = some (.next, (S15 w os).abs, cE, ⟨32, 0, 33, 30⟩) :=
  byRow2 "special-get-raises" (P := fun w => ∀ os, segRun treeTable pw w 28 (some (.ref 6)) 1 1100 (S14 w os).abs (piecesOf [stm 15, stm 16] top.env_1 cE ⟨30, 0, 30, 8⟩ [topFrame q0]) = some (.next, (S15 w os).abs, cE, ⟨32, 0, 33, 30⟩))
    (fun w os => segRun_of (pc1T false w os)) (fun w os => segRun_of (pc1T true w os)) w

theorem rest14 (w : World) (os : OsState) : topRun treeTable pw w 28 (some (.ref 6)) 80000 (S14 w os).abs (restOf [stm 15, stm 16, stm 17, stm 18, stm 19, stm 20, stm 21, stm 22, stm 23, stm 24, stm 25, stm 26] top.env_1 cE ⟨30, 0, 30, 8⟩ [topFrame q0]) = some (S26 w os).abs := by
  obtain ⟨n, hn, h17⟩ := pc17 w os ⟨32, 0, 33, 30⟩
  have a := piece_app (rest := []) (segRun_of (pc18 w os)) (fin26 w os)
  have b := piece_app h17 a
  have c := piece_app (pc14 w os) b
  have d := topRun_mono (80000 - (1100 + (n + (300 + 2)))) _ _ _ _ c
  rw [show 1100 + (n + (300 + 2)) + (80000 - (1100 + (n + (300 + 2)))) = 80000 by omega] at d
  exact d
end D32
end
section
open PySem PySem.W PyProof.Rows
set_option maxRecDepth 100000
set_option maxHeartbeats 0
set_option linter.unusedVariables false
namespace D32
noncomputable def H0 (P : Params) : Heap := ⟨⟨[top.o_1 P, top.o_2 P, top.o_3 P, top.o_4 P, top.o_5 P, top.o_6 P, top.o_7 P, top.o_8 P, top.o_9 P, top.o_10 P, top.o_11 P, top.o_12 P, top.o_13 P, top.o_14 P, top.o_15 P, top.o_16 P, top.o_17 P, top.o_18 P, top.o_19 P, top.o_20 P, top.o_21 P, top.o_22 P, top.o_23 P, top.o_24 P, top.o_25 P, top.o_26 P, top.o_27 P, top.o_28 P]⟩, {}⟩
theorem size0 (w : World) : ((H0 w.params).isNs mainGlobals && (Array.mk [] : Array GenState).size == 0, (H0 w.params).objs.size, (H0 w.params).nsMap mainGlobals "__annotations__") = (true, 28, some (.ref 6)) := by kernel_rfl
noncomputable abbrev S32 (w : World) (os : OsState) : SharedT := ⟨top.tree_32 w.params, 32, {}, Array.mk [], {}, 282, os⟩
theorem pre0 (w : World) (os : OsState) : topGo treeTable pw w 28 (some (.ref 6)) 12 ⟨H0 w.params, Array.mk [], {}, 276, os⟩ (topStub pw) = some ((S32 w os).abs, ⟨denote treeTable cE, cE, q0, [topFrame q0]⟩) := by kernel_rfl
theorem block0 (w : World) (os : OsState) : segRunT treeTable pw w 28 (some (.ref 6)) 1 1 (S32 w os) (blockOf (behindTheImports pw) top.env_1 cE q0 [topFrame q0]) = some (.next, S32 w os, cE, q0) := by kernel_rfl
theorem pc0 (w : World) (os : OsState) : segRunT treeTable pw w 28 (some (.ref 6)) 1 399 (S32 w os) (piecesOf top.sts_32 top.env_1 cE q0 [topFrame q0]) = some (.next, S14 w os, cE, ⟨30, 0, 30, 8⟩) := by
  rw [PySem.W.Fast.te10110043849684766642, PySem.W.Fast.te14364793385576792824]
  kernel_rfl
theorem body0 : behindTheImports pw = top.sts_32 ++ [stm 15, stm 16, stm 17, stm 18, stm 19, stm 20, stm 21, stm 22, stm 23, stm 24, stm 25, stm 26] := by kernel_rfl
noncomputable def H1 (P : Params) : Heap := absHeap (t26 P) 194 {}
theorem run0 (w : World) (os : OsState) : topRun treeTable pw w 28 (some (.ref 6)) 81000 ⟨H0 w.params, Array.mk [], {}, 276, os⟩ (topStub pw) = some ⟨H1 w.params, Array.mk [], {}, 2479, os⟩ := by
  have a := piece_app (segRun_of (pc0 w os)) (rest14 w os)
  have b := piece_block (b := behindTheImports pw) (segRun_of (block0 w os)) (by rw [← body0] at a; exact a)
  have c := go_top (pre0 w os) b
  have d := topRun_mono (81000 - (12 + (1 + (399 + 80000)))) _ _ _ _ c
  exact d
noncomputable def K : Params → Frag := fun P => (nat_lit 2, top.o_3 P) :: (nat_lit 3, c3 P) :: (nat_lit 6, top.o_7 P) :: (nat_lit 11, top.o_12 P) :: (nat_lit 12, top.o_13 P) :: (nat_lit 35, top.o_38 P) :: (nat_lit 36, top.o_39 P) :: (nat_lit 40, top.o_43 P) :: (nat_lit 41, top.o_44 P) :: (nat_lit 42, top.o_45 P) :: (nat_lit 44, top.o_47 P) :: (nat_lit 45, top.o_48 P) :: (nat_lit 47, top.o_50 P) :: (nat_lit 48, top.o_51 P) :: (nat_lit 49, top.o_52 P) :: (nat_lit 51, top.o_54 P) :: (nat_lit 52, top.o_55 P) :: (nat_lit 54, top.o_57 P) :: (nat_lit 55, top.o_58 P) :: (nat_lit 56, top.o_59 P) :: (nat_lit 58, top.o_61 P) :: (nat_lit 59, top.o_62 P) :: (nat_lit 61, top.o_64 P) :: (nat_lit 62, top.o_65 P) :: (nat_lit 63, top.o_66 P) :: (nat_lit 65, top.o_68 P) :: (nat_lit 66, top.o_69 P) :: (nat_lit 68, top.o_71 P) :: (nat_lit 69, top.o_72 P) :: (nat_lit 70, top.o_73 P) :: (nat_lit 72, top.o_75 P) :: (nat_lit 73, top.o_76 P) :: (nat_lit 75, top.o_78 P) :: (nat_lit 76, top.o_79 P) :: (nat_lit 77, top.o_80 P) :: (nat_lit 79, top.o_82 P) :: (nat_lit 80, top.o_83 P) :: (nat_lit 82, top.o_85 P) :: (nat_lit 83, top.o_86 P) :: (nat_lit 84, top.o_87 P) :: (nat_lit 86, top.o_89 P) :: (nat_lit 87, top.o_90 P) :: (nat_lit 89, top.o_92 P) :: (nat_lit 90, top.o_93 P) :: (nat_lit 98, x98 P) :: (nat_lit 102, x102 P) :: (nat_lit 104, x104 P) :: (nat_lit 105, x105 P) :: (nat_lit 107, x107 P) :: (nat_lit 108, x108 P) :: (nat_lit 109, y109 P) :: (nat_lit 148, x148 P) :: (nat_lit 150, x150 P) :: (nat_lit 151, x151 P) :: (nat_lit 153, x153 P) :: (nat_lit 154, x154 P) :: (nat_lit 155, x155 P) :: (nat_lit 157, x157 P) :: (nat_lit 158, x158 P) :: (nat_lit 160, x160 P) :: (nat_lit 161, x161 P) :: (nat_lit 162, x162 P) :: (nat_lit 164, x164 P) :: (nat_lit 165, x165 P) :: (nat_lit 167, x167 P) :: (nat_lit 168, x168 P) :: (nat_lit 169, x169 P) :: (nat_lit 172, x172 P) :: (nat_lit 173, x173 P) :: (nat_lit 174, x174 P) :: (nat_lit 177, x177 P) :: (nat_lit 178, x178 P) :: (nat_lit 179, x179 P) :: (nat_lit 182, x182 P) :: (nat_lit 183, x183 P) :: (nat_lit 184, x184 P) :: (nat_lit 187, x187 P) :: (nat_lit 188, x188 P) :: (nat_lit 189, x189 P) :: (nat_lit 192, x192 P) :: (nat_lit 193, x193 P) :: []
def Kas : List Addr := nat_lit 2 :: nat_lit 3 :: nat_lit 6 :: nat_lit 11 :: nat_lit 12 :: nat_lit 35 :: nat_lit 36 :: nat_lit 40 :: nat_lit 41 :: nat_lit 42 :: nat_lit 44 :: nat_lit 45 :: nat_lit 47 :: nat_lit 48 :: nat_lit 49 :: nat_lit 51 :: nat_lit 52 :: nat_lit 54 :: nat_lit 55 :: nat_lit 56 :: nat_lit 58 :: nat_lit 59 :: nat_lit 61 :: nat_lit 62 :: nat_lit 63 :: nat_lit 65 :: nat_lit 66 :: nat_lit 68 :: nat_lit 69 :: nat_lit 70 :: nat_lit 72 :: nat_lit 73 :: nat_lit 75 :: nat_lit 76 :: nat_lit 77 :: nat_lit 79 :: nat_lit 80 :: nat_lit 82 :: nat_lit 83 :: nat_lit 84 :: nat_lit 86 :: nat_lit 87 :: nat_lit 89 :: nat_lit 90 :: nat_lit 98 :: nat_lit 102 :: nat_lit 104 :: nat_lit 105 :: nat_lit 107 :: nat_lit 108 :: nat_lit 109 :: nat_lit 148 :: nat_lit 150 :: nat_lit 151 :: nat_lit 153 :: nat_lit 154 :: nat_lit 155 :: nat_lit 157 :: nat_lit 158 :: nat_lit 160 :: nat_lit 161 :: nat_lit 162 :: nat_lit 164 :: nat_lit 165 :: nat_lit 167 :: nat_lit 168 :: nat_lit 169 :: nat_lit 172 :: nat_lit 173 :: nat_lit 174 :: nat_lit 177 :: nat_lit 178 :: nat_lit 179 :: nat_lit 182 :: nat_lit 183 :: nat_lit 184 :: nat_lit 187 :: nat_lit 188 :: nat_lit 189 :: nat_lit 192 :: nat_lit 193 :: []
theorem K_as (P : Params) : Kas = (K P).map (·.1) := by kernel_rfl
def q : Program := view pw [0, 2, 3, 4, 5, 6, 8, 9, 11, 12, 13, 15, 16, 17, 18, 19, 21, 22, 23, 24, 25, 26]
def loose : List Str := [Str.ofString "_twin_re_1", Str.ofString "_twin_re_2", Str.ofString "b1_set", Str.ofString "b3_exceptions"]
abbrev rowW : RowW := OpenRow.toRowW (OpenLaw.row PySem.Challenge.rw_to0032_01)
abbrev Xt (s : Shared) : Bool := xlAt q [] s && recOk (RowW.records rowW) s
end D32
end
section
open PySem PySem.W PyProof.Rows
set_option maxRecDepth 100000
set_option maxHeartbeats 0
set_option linter.unusedVariables false
namespace D32
theorem opn (w : World) : (fencedOpening treeTable pw w 100000).map (fun s => (s.heap, s.gens, s.drawn, s.toks)) = some (H0 w.params, Array.mk [], {}, 276) := by
  unfold fencedOpening
  rw [PySem.W.Fast.te10274390034422433532, PySem.W.Fast.te14289696077712309145, PySem.W.Fast.te14364793385576792824, PySem.W.Fast.te1435165496053646825]
  kernel_rfl
theorem statics26 (w : World) (os : OsState) : (staticsOk (importedModules pw.main.body) (H0 w.params) (H1 w.params) && namesBound pw (H1 w.params) && gensDone ⟨H1 w.params, Array.mk [], {}, 2479, os⟩ && laidKept (H0 w.params) (H1 w.params)) = true := by kernel_rfl
theorem obs26 (w : World) (os : OsState) : Kas.map (Heap.get? (H1 w.params)) = (K w.params).map fun p => some p.2 := by kernel_rfl
def sortedN : Nat → List (PyData × PyData) → Bool
  | _, [] => true
  | b, (.int (.ofNat n), _) :: D => Nat.ble b n && sortedN (n + 1) D
  | _, _ => false
theorem apart_sorted : ∀ (D : List (PyData × PyData)) (b : Nat), sortedN b D = true → keysApartInt D = true ∧ ∀ k : Int, k < (b : Int) → hasIntKey k D = false := by
  intro D
  induction D with
  | nil => exact fun b _ => ⟨rfl, fun _ _ => rfl⟩
  | cons p D ih =>
    intro b h
    obtain ⟨k, d⟩ := p
    cases k with
    | int i =>
      cases i with
      | ofNat n =>
        obtain ⟨h1, h2⟩ := Bool.and_eq_true_iff.mp (show (Nat.ble b n && sortedN (n + 1) D) = true from h)
        obtain ⟨a, c⟩ := ih (n + 1) h2
        have h1 := Nat.le_of_ble_eq_true h1
        refine ⟨?_, fun k hk => ?_⟩
        · show (!hasIntKey (Int.ofNat n) D && keysApartInt D) = true
          rw [c (Int.ofNat n) (by show (n : Int) < _; omega), a]; rfl
        · show ((Int.ofNat n == k) || hasIntKey k D) = false
          rw [c k (by omega), Bool.or_false, beq_eq_false_iff_ne]
          show (n : Int) ≠ k
          omega
      | negSucc n => cases h
    | _ => cases h
def fastApart (D : List (PyData × PyData)) : Bool := sortedN 0 D || keysApartInt D
theorem fastApart_eq (D : List (PyData × PyData)) : fastApart D = keysApartInt D := by
  unfold fastApart
  cases h : sortedN 0 D with
  | false => rfl
  | true => rw [(apart_sorted D 0 h).1]; rfl
open PySem.W.Fast in
noncomputable def tabF (h : Heap) (name : Str) (D : List (PyData × PyData)) : Bool :=
  match tw8920871248978507458 h mainGlobals name with
  | some (Value.ref a) =>
    match h.get? a with
    | some o =>
      match o.cls, o.dict, o.data with
      | Value.type n, none, Data.dict es _ =>
        S.eqLit 1969515109 n && o.slots.size == 0 && tw13008680317910767495 es.toList D && fastApart D && a != sysModules
      | _, _, _ => false
    | none => false
  | _ => false
open PySem.W.Fast in
theorem tabF_eq (h : Heap) (name : Str) (D : List (PyData × PyData)) : tabF h name D = tw14927025687674330080 h name D := by
  unfold tabF tw14927025687674330080
  rw [fastApart_eq]
  rfl
open PySem.W.Fast in
noncomputable def tablesF (p : Program) (h : Heap) : Bool :=
  R.allR (valNames p) fun x =>
    ((match tw15722548840688424386 p x with
        | some ns => tw9904233695019617717 h x ns
        | none => true) &&
        match tw14491516231548247274 p x with
        | some ss => tw5263368880259041517 h x ss
        | none => true) &&
      match tw10077548348588599076 p x with
      | some D => tabF h x D
      | none => true
open PySem.W.Fast in
theorem tablesF_eq (p : Program) (h : Heap) : tablesF p h = tw10994771534591457954 p h := by
  unfold tablesF tw10994771534591457954
  simp only [tabF_eq]
  rfl
section
open PySem.W.Fast
theorem sn1 (w : World) (os : OsState) : tw5160383126252970620 (R.mapR (fun x => x.name) (tw3399658132070893891 q)) (tw5991557255702980513 q) [] { heap := H1 w.params, gens := #[], drawn := {}, toks := 2479, os := os } = expectedOf q := by kernel_rfl
theorem sn2 (w : World) : (H1 w.params).bltView = bltViewBooted := by kernel_rfl
theorem sn3 (w : World) : (tw10880121769531294198 (H1 w.params) (tw821141287760084731 q loose) (R.mapR (fun x => x.name) (tw3399658132070893891 q)) (R.mapR (fun x => x.fst) (tw7409074990110511671 q)) (R.mapR (fun x => x.name) (tw13664370479719496447 q (tw821141287760084731 q loose))) && tw14722251495701143533 (H1 w.params) (importedModules pw.main.body) && (H1 w.params).isNs mainGlobals && (H1 w.params).isNs builtinsNs) = true := by kernel_rfl
theorem sn4 (w : World) : tw10994771534591457954 q (H1 w.params) = true := by
  rw [← tablesF_eq]
  kernel_rfl
theorem sn5 (w : World) (os : OsState) : Xt ⟨H1 w.params, Array.mk [], {}, 2479, os⟩ = true := by kernel_rfl
theorem sn6 (w : World) (os : OsState) : tw479339242167458305 q ⟨H1 w.params, Array.mk [], {}, 2479, os⟩ = true := by kernel_rfl
theorem sn7 (w : World) (os : OsState) : (tw16090120013241838585 q (tw3247288618530077131 q) ⟨H1 w.params, Array.mk [], {}, 2479, os⟩, tw2386780881361962483 q (tw821141287760084731 q loose) ⟨H1 w.params, Array.mk [], {}, 2479, os⟩, tw11698064438423848299 q loose ⟨H1 w.params, Array.mk [], {}, 2479, os⟩,
    tw7317090234206586261 q ⟨H1 w.params, Array.mk [], {}, 2479, os⟩, tw7369524293546568484 q loose ⟨H1 w.params, Array.mk [], {}, 2479, os⟩) = (pinGoodD (drecsOf q), plainGoodE q (looseW q loose), plainGoodD q loose, wideGood q, clsGoodW q loose) := by kernel_rfl
theorem sn37 (w : World) (os : OsState) : (tw10880121769531294198 (H1 w.params) (tw821141287760084731 q loose) (R.mapR (fun x => x.name) (tw3399658132070893891 q)) (R.mapR (fun x => x.fst) (tw7409074990110511671 q)) (R.mapR (fun x => x.name) (tw13664370479719496447 q (tw821141287760084731 q loose))) && tw14722251495701143533 (H1 w.params) (importedModules pw.main.body) && (H1 w.params).isNs mainGlobals && (H1 w.params).isNs builtinsNs && tw10994771534591457954 q (H1 w.params) && Xt ⟨H1 w.params, Array.mk [], {}, 2479, os⟩ && (if true = true then (Shared.gens ⟨H1 w.params, Array.mk [], {}, 2479, os⟩).size == 0 else !leftWithCleanup (Shared.gens ⟨H1 w.params, Array.mk [], {}, 2479, os⟩))) = true := by
  rw [sn3, sn4, sn5]; rfl
end
theorem seen26 (w : World) (os : OsState) : openSeen q loose (importedModules pw.main.body) Xt true ⟨H1 w.params, Array.mk [], {}, 2479, os⟩ = openGood q loose := by
  rw [PySem.W.Fast.te4187177175401517315]
  unfold PySem.W.Fast.tw4187177175401517315 openGood
  refine congr (congrArg Prod.mk ?_) (congr (congrArg Prod.mk ?_) (congr (congrArg Prod.mk ?_) (congr (congrArg Prod.mk ?_) ?_)))
  · exact sn1 w os
  · exact sn2 w
  · exact sn37 w os
  · exact sn6 w os
  · exact sn7 w os
end D32
end
section
open PySem PySem.W PyProof.Rows
set_option maxRecDepth 100000
set_option maxHeartbeats 0
set_option linter.unusedVariables false
namespace D32
noncomputable abbrev Hk : Hook := kHook K Kas K_as
theorem left0 : LeftO PySem.Challenge.rw_to0032_01.row.prog q loose Xt (Hook.obs Hk) (Hook.val Hk) 100000 :=
  LeftO.of_pieces (H₀ := H0) (H₁ := H1) (gs₀ := Array.mk []) (gs₁ := Array.mk []) (d₀ := {}) (d₁ := {}) (k₀ := 276) (k₁ := 2479) (m₀ := 28) (ann := some (.ref 6)) (M := 81000) opn size0 run0 rfl
    (fun w => funext fun os => by
      refine Prod.ext (statics26 w os) (Prod.ext (seen26 w os) (obs26 w os)))
end D32
end
section
open PySem PySem.W PyProof.Rows PySem.Calls
set_option maxRecDepth 100000
set_option maxHeartbeats 4000000
set_option linter.unusedVariables false
namespace D32
abbrev Ext (h h' : Heap) : Prop := ∀ b o, h.get? b = some o → h'.get? b = some o
abbrev TopH (mean : ExcName → Option Value) (mg mb : Str → Option Value) (h : Heap) : Prop := Top q (looseW q loose) mean mg mb h
theorem use_ext {h₀ h h' : Heap} {L : Addr} {m : Str → Option Value} {news : List (Addr × Obj)} (F : Fr h₀ L h m) (N : News h₀ L h news) (e : Ext h h') : Fr h₀ L h' m ∧ News h₀ L h' news :=
  ⟨⟨F.ns.keeps e, fun b o x => e b o (F.keep b o x), F.above⟩, fun p hp => ⟨e _ _ (N p hp).1, (N p hp).2⟩⟩
section
variable {M : Model} {A : Around} {E : Value → Shared → Prop} {s : Shared} {h₀ : Heap} {L : Addr} {m mg mb : Str → Option Value} {mean : ExcName → Option Value} {scope : Scope} {cl : List (Str × Addr)} {C : Addr} {env : Env} {x : Str} {pos : Pos} {v : Value} {Q : Value → Shared → Prop} {P : Params}
theorem cName_L (F : Fr h₀ C s.heap m) (hv : m x = some v) (h : Q v s)
    (hk : (compEnvC scope cl C env).scope.kind = .function) (hl : (compEnvC scope cl C env).kindOf x = some .local) (hd : (x == ("__debug__" : Str)) = false) :
    wpAny M A (eval (.Name x pos) (compEnvC scope cl C env)) Q E s := wpAny_Name (wpAny_loadName_local hk hl F.ns hv h) hd
theorem cName_K (F : Fr h₀ L s.heap m) (X : (K P).In h₀) (T : TopH mean mg mb h₀) (e : nsIn (K P) mainGlobals x = some (some v)) (h : Q v s)
    (hg : env.globals = mainGlobals) (hk : (compEnvC scope cl C env).scope.kind = .function) (hx : (compEnvC scope cl C env).kindOf x = some .globalImplicit) (hd : (x == ("__debug__" : Str)) = false) :
    wpAny M A (eval (.Name x pos) (compEnvC scope cl C env)) Q E s :=
  Name_function_global hk hx (loadGlobal_global (env := compEnvC scope cl C env) (show s.heap.Ns env.globals mg from hg ▸ T.g.keeps F.keep) (mg_of X T.g e) h) hd
theorem cName_B (F : Fr h₀ L s.heap m) (X : (K P).In h₀) (T : TopH mean mg mb h₀) (e : nsIn (K P) mainGlobals x = some none) (hv : bootBuiltins x = some v) (hn : x ≠ "__name__") (h : Q v s)
    (hg : env.globals = mainGlobals) (hb : env.builtins = builtinsNs) (hk : (compEnvC scope cl C env).scope.kind = .function) (hx : (compEnvC scope cl C env).kindOf x = some .globalImplicit) (hd : (x == ("__debug__" : Str)) = false) :
    wpAny M A (eval (.Name x pos) (compEnvC scope cl C env)) Q E s :=
  Name_function_global hk hx (loadGlobal_builtin (env := compEnvC scope cl C env) (show s.heap.Ns env.globals mg from hg ▸ T.g.keeps F.keep) (mg_none_of X T.g e) (show s.heap.Ns env.builtins mb from hb ▸ T.b.keeps F.keep) ((T.builtins x hn).trans hv) h) hd
end
section
variable {w : World} {A : Around} {E : Value → Shared → Prop} {s : Shared} {env : Env} {scope : Scope} {cl : List (Str × Addr)} {x : Str} {ifs : List Expr} {elt : Expr} {p : Value → Bool} {G : Value → Value → Prop} {Q : Value → Shared → Prop}
def SrcOk (w : World) (A : Around) (env : Env) (scope : Scope) (cl : List (Str × Addr)) (x : Str) (ifs : List Expr) (elt : Expr) (p : Value → Bool) (G : Value → Value → Prop)
    (ex : List Addr) (Hn : Heap → Prop) (X : Addr → Heap → Prop) (Q : Addr → Shared → Prop) (it : Value) (s₂ : Shared) : Prop :=
  ∃ I fp wr n P St, it = .ref I ∧ Walks pw w A I fp wr n P St ∧ n ≤ sizeLine ∧ St 0 s₂.heap ∧ (∀ b ∈ fp, b < s₂.heap.objs.size) ∧
      QuietOnC pw w A env scope cl x ifs elt wr P p G s₂ ∧ Hn s₂.heap ∧ (∀ b ∈ ex, b ∉ wr) ∧
      (∀ D h' tk ys (vs : List Value), s₂.heap.get? D = none → h'.PlainList D ys → vs.length = n → (∀ j v, vs[j]? = some v → P j v) → Paired G (vs.filter p) ys.toList → X D h' →
        (∀ b o, b ∉ ex → b ∉ wr → s₂.heap.get? b = some o → h'.get? b = some o) → Q D { s₂ with heap := h', toks := tk })
theorem lcE {iter : Expr} {px pos : Pos} (p : Value → Bool) (G : Value → Value → Prop)
    (h : wpAny (model pw w) A (eval iter env) (fun xv s₁ => wpAny (model pw w) A (pyIter xv) (SrcOk w A env scope cl x ifs elt p G [] (fun _ => True) (fun _ _ => True) (fun D => Q (.ref D))) E s₁) E s)
    (hclos : closureFor scope env = pure cl := by rfl) (hcell : ∀ y ∈ scope.names, y.2 ≠ .cell := by decide) (hkind : scope.kind = .function := by rfl)
    (hnames : ∀ y ∈ scope.names, y.2 = .local → scope.names.lookup y.1 = some .local := by decide) (hx : scope.names.lookup x = some .local := by rfl)
    (hs : ∀ x, foldedSetIterable iter env x = pure x := by intro _; rfl) :
    wpAny (model pw w) A (eval (.ListComp elt [⟨.Name x px, iter, ifs, 0⟩] scope pos) env) Q E s :=
  wpAny_ListComp_free p G hclos hcell hkind hnames hx (wpAny_mono h (fun xv s₁ h₁ => wpAny_mono h₁ (fun it s₂ h₂ => by
    obtain ⟨I, fp, wr, n, P, St, e, W, hz, hst, hfp, hq, _, _, hQ⟩ := h₂
    exact ⟨I, fp, wr, n, P, St, e, W, hz, hst, hfp, hq, fun D h' tk ys vs hD _ hpl hl hP hG hk => hQ D h' tk ys vs hD hpl hl hP hG trivial fun b o _ hb e => hk b o hb e⟩) fun _ _ e => e) fun _ _ e => e) hs
theorem lcA {iter : Expr} {px py pos spos : Pos} {y : Str} {m : Str → Option Value} {Q : Flow → Shared → Prop} {h₀ : Heap} (F : Fr h₀ env.locals s.heap m) (p : Value → Bool) (G : Value → Value → Prop)
    (h : wpAny (model pw w) A (eval iter env) (fun xv s₁ => wpAny (model pw w) A (pyIter xv) (SrcOk w A env scope cl x ifs elt p G [env.locals] (fun h => h.Ns env.locals m)
      (fun D h' => h'.Ns env.locals (fun z => if z = y then some (.ref D) else m z)) (fun _ => Q .next)) E s₁) E s)
    (hsw : swapsWith (.ListComp elt [⟨.Name x px, iter, ifs, 0⟩] scope pos) (some (.Name y py)) spos.line env = pure true := by rfl)
    (hclos : closureFor scope env = pure cl := by rfl) (hcell : ∀ y ∈ scope.names, y.2 ≠ .cell := by decide) (hkind : scope.kind = .function := by rfl)
    (hnames : ∀ y ∈ scope.names, y.2 = .local → scope.names.lookup y.1 = some .local := by decide) (hx : scope.names.lookup x = some .local := by rfl)
    (hy : env.kindOf y = some .local := by rfl) (hp : (env.scope.kind == .class || (env.scope.kind == .module && env.locals != env.globals)) = false := by rfl)
    (hs : ∀ x, foldedSetIterable iter env x = pure x := by intro _; rfl) :
    wpAny (model pw w) A (exec (.Assign [.Name y py] (.ListComp elt [⟨.Name x px, iter, ifs, 0⟩] scope pos) spos) env) Q E s :=
  wpAny_Assign_ListComp_free p G hsw hclos hcell hkind hnames hx hy hp (wpAny_mono h (fun xv s₁ h₁ => wpAny_mono h₁ (fun it s₂ h₂ => by
    obtain ⟨I, fp, wr, n, P, St, e, W, hz, hst, hfp, hq, hn, hex, hQ⟩ := h₂
    exact ⟨I, fp, wr, n, P, St, m, e, W, hz, hst, hfp, hex _ (by simp), hn, hq, fun D h' tk ys vs hD _ hpl hl hP hG hX hk => hQ D h' tk ys vs hD hpl hl hP hG hX fun b o hb hb' e => hk b o (by simpa using hb) hb' e⟩) fun _ _ e => e) fun _ _ e => e) hs
theorem push_ext (h : Heap) (o : Obj) : Ext h (h.push o) := fun b o' e => Heap.get?_push_of_some _ e
theorem ext_or {h : Heap} {o : Obj} {h' : Heap} (k : ∀ b o', b ∉ [h.objs.size] → (h.push o).get? b = some o' → h'.get? b = some o') : Ext h h' := fun b o' e =>
  k b o' (by simp only [List.mem_singleton]; rintro rfl; exact absurd (Heap.lt_size e) (Nat.lt_irrefl _)) (push_ext h o b o' e)
theorem quiet0 {h₂ : Shared} {wr : List Addr} {P : Nat → Value → Prop} {h : Heap} (hext : ∀ h', (∀ b o, b ∉ wr → h₂.heap.get? b = some o → h'.get? b = some o) → Ext h h') (hle : h.objs.size ≤ h₂.heap.objs.size)
    (elt' : ∀ C i v s₃ m₃ E', P i v → Fr h C s₃.heap m₃ → m₃ x = some v → wpAny (model pw w) A (eval elt (compEnvC scope cl C env)) (fun y s₄ => G v y ∧ Keeps s₃ s₄) E' s₃) :
    QuietOnC pw w A env scope cl x [] elt wr P (fun _ => true) G h₂ where
  tests := fun C i v s₃ m₃ E' hC hP hn hm hk ht => wpAny_pure ⟨rfl, s₃.heap, s₃.toks, rfl, fun _ _ e => e⟩
  elt := fun C i v s₃ m₃ E' hC hP hp hn hm hk ht => elt' C i v s₃ m₃ E' hP ⟨hn, hext _ hk, Nat.le_trans hle hC⟩ hm
theorem quiet1 {c : Expr} {h₂ : Shared} {wr : List Addr} {P : Nat → Value → Prop} {h : Heap} (hext : ∀ h', (∀ b o, b ∉ wr → h₂.heap.get? b = some o → h'.get? b = some o) → Ext h h') (hle : h.objs.size ≤ h₂.heap.objs.size)
    (test : ∀ C i v s₃ m₃ E', P i v → Fr h C s₃.heap m₃ → m₃ x = some v → wpAny (model pw w) A (isTrue c (compEnvC scope cl C env) (eval c (compEnvC scope cl C env))) (fun ok s₄ => ok = p v ∧ Keeps s₃ s₄) E' s₃)
    (elt' : ∀ C i v s₃ m₃ E', P i v → p v = true → Fr h C s₃.heap m₃ → m₃ x = some v → wpAny (model pw w) A (eval elt (compEnvC scope cl C env)) (fun y s₄ => G v y ∧ Keeps s₃ s₄) E' s₃) :
    QuietOnC pw w A env scope cl x [c] elt wr P p G h₂ where
  tests := fun C i v s₃ m₃ E' hC hP hn hm hk ht => by
    have h1 := test C i v s₃ m₃ E' hP ⟨hn, hext _ hk, Nat.le_trans hle hC⟩ hm
    simp only [List.forIn_cons, if_true, bind_assoc, pure_bind, List.forIn_nil]
    refine wpAny_bind (wpAny_mono h1 (fun ok s₄ h => ?_) fun _ _ e => e)
    exact wpAny_pure h
  elt := fun C i v s₃ m₃ E' hC hP hp hn hm hk ht => elt' C i v s₃ m₃ E' hP hp ⟨hn, hext _ hk, Nat.le_trans hle hC⟩ hm
end
section
variable {w : World} {A : Around} {E : Value → Shared → Prop} {s : Shared} {env : Env} {scope : Scope} {cl : List (Str × Addr)} {x : Str} {elt : Expr} {p : Value → Bool} {G : Value → Value → Prop} 
def SignV (l : List Nat) (v : Value) : Prop := ∃ c ∈ l, ∃ u, v = .str ⟨#[c]⟩ u
def SignsV (l : List Nat) (vs : List Value) : Prop := Paired (fun c v => ∃ u, v = .str ⟨#[c]⟩ u) l vs
theorem paired_of_get {α β : Type} {R : α → β → Prop} : ∀ {l : List α} {vs : List β}, vs.length = l.length → (∀ (j : Nat) v, vs[j]? = some v → ∃ c, l[j]? = some c ∧ R c v) → Paired R l vs
  | [], [], _, _ => .nil
  | [], _ :: _, h, _ => by simp at h
  | _ :: _, [], h, _ => by simp at h
  | a :: l, v :: vs, h, g => by
    refine .cons ?_ (paired_of_get (by simpa using h) fun j v' e => ?_)
    · obtain ⟨c, e, r⟩ := g 0 v (by simp)
      simp at e; subst e; exact r
    · obtain ⟨c, e', r⟩ := g (j + 1) v' (by simpa using e)
      exact ⟨c, by simpa using e', r⟩
theorem signV_of {y : Str} {i : Nat} {v : Value} (h : SignAt y i v) : SignV y.cps.toList v := by
  obtain ⟨c, u, e, rfl⟩ := h
  exact ⟨c, List.mem_of_getElem? (by simpa using e), u, rfl⟩
theorem frLive {h₀ h : Heap} {L : Addr} {m : Str → Option Value} (F : Fr h₀ L h m) : ∀ b ∈ [L], ∃ o, h.get? b = some o := fun b hb => by
  rw [List.mem_singleton.mp hb]
  obtain ⟨o, _, _, e, _⟩ := F.ns
  exact ⟨o, e⟩
theorem none_of_push {h : Heap} {o : Obj} {D : Addr} (hD : (h.push o).get? D = none) : h.get? D = none := by
  cases e : h.get? D with
  | none => rfl
  | some o' => rw [push_ext _ _ _ _ e] at hD; cases hD
abbrev ExtBut (ex : List Addr) (h h' : Heap) : Prop := ∀ b o, b ∉ ex → h.get? b = some o → h'.get? b = some o
theorem ext_or2 {ex : List Addr} {h : Heap} {o : Obj} {h' : Heap} (k : ∀ b o', b ∉ ex → b ∉ [h.objs.size] → (h.push o).get? b = some o' → h'.get? b = some o') : ExtBut ex h h' := fun b o' hb e =>
  k b o' hb (by simp only [List.mem_singleton]; rintro rfl; exact absurd (Heap.lt_size e) (Nat.lt_irrefl _)) (push_ext h o b o' e)
theorem use_extL {h₀ h h' : Heap} {L : Addr} {m m' : Str → Option Value} {news : List (Addr × Obj)} (F : Fr h₀ L h m) (N : News h₀ L h news) (hn : h'.Ns L m') (e : ExtBut [L] h h') : Fr h₀ L h' m' ∧ News h₀ L h' news :=
  ⟨⟨hn, fun b o x => e b o (by simp only [List.mem_singleton]; rintro rfl; exact absurd (Heap.lt_size x) (Nat.not_lt.mpr F.above)) (F.keep b o x), F.above⟩,
    fun p hp => ⟨e _ _ (by simpa using (N p hp).2.1) (N p hp).1, (N p hp).2⟩⟩
variable {ex : List Addr} {Hn : Heap → Prop} {X : Addr → Heap → Prop} {Q : Addr → Shared → Prop}
theorem src_str1 {c : Expr} {y : Str} {t : Tok} (hA : A.handled = none) (hn : y.cps.size ≤ sizeLine)
    (hH : ∀ h, Ext s.heap h → Hn h) (hex : ∀ b ∈ ex, ∃ o, s.heap.get? b = some o)
    (test : ∀ C v s₃ m₃ E', SignV y.cps.toList v → Fr s.heap C s₃.heap m₃ → m₃ x = some v → wpAny (model pw w) A (isTrue c (compEnvC scope cl C env) (eval c (compEnvC scope cl C env))) (fun ok s₄ => ok = p v ∧ Keeps s₃ s₄) E' s₃)
    (elt' : ∀ C v s₃ m₃ E', SignV y.cps.toList v → p v = true → Fr s.heap C s₃.heap m₃ → m₃ x = some v → wpAny (model pw w) A (eval elt (compEnvC scope cl C env)) (fun y s₄ => G v y ∧ Keeps s₃ s₄) E' s₃)
    (hQ : ∀ D h' tk ys vs, ExtBut ex s.heap h' → X D h' → s.heap.get? D = none → h'.PlainList D ys → SignsV y.cps.toList vs → Paired G (vs.filter p) ys.toList → Q D { s with heap := h', toks := tk }) :
    wpAny (model pw w) A (pyIter (.str y t)) (SrcOk w A env scope cl x [c] elt p G ex Hn X Q) E s := by
  refine wpAny_pyIter_str fun o St W st => ?_
  refine ⟨_, _, _, _, _, St, rfl, W A hA, hn, st, ?_, ?_, hH _ (push_ext _ _), ?_, ?_⟩
  · intro b hb
    rw [List.mem_singleton.mp hb]; show _ < (s.heap.push o).objs.size
    rw [Heap.size_push]; exact Nat.lt_succ_self _
  · refine quiet1 (h := s.heap) (fun h' k => ext_or k) ?_ ?_ ?_
    · show _ ≤ (s.heap.push _).objs.size
      rw [Heap.size_push]; exact Nat.le_succ _
    · intro C i v s₃ m₃ E' hP
      exact test C v s₃ m₃ E' (signV_of hP)
    · intro C i v s₃ m₃ E' hP
      exact elt' C v s₃ m₃ E' (signV_of hP)
  · intro b hb
    obtain ⟨o', e⟩ := hex b hb
    simp only [List.mem_singleton]
    rintro rfl
    exact absurd (Heap.lt_size e) (Nat.lt_irrefl _)
  · intro D h' tk ys vs hD hpl hlen hP hF hX hk
    refine hQ D h' tk ys vs (ext_or2 hk) hX (none_of_push hD) hpl (paired_of_get (by simpa using hlen) fun j v e => ?_) hF
    obtain ⟨c, u, e', r⟩ := hP j v e
    exact ⟨c, by simpa using e', u, r⟩
theorem src_list0 {l : Addr} {items : Array Value} (hA : A.handled = none) (hn : items.size ≤ sizeLine) (hl : s.heap.IsList l items)
    (hH : ∀ h, Ext s.heap h → Hn h) (hex : ∀ b ∈ ex, ∃ o, s.heap.get? b = some o)
    (elt' : ∀ C v s₃ m₃ E', v ∈ items.toList → Fr s.heap C s₃.heap m₃ → m₃ x = some v → wpAny (model pw w) A (eval elt (compEnvC scope cl C env)) (fun y s₄ => G v y ∧ Keeps s₃ s₄) E' s₃)
    (hQ : ∀ D h' tk ys, ExtBut ex s.heap h' → X D h' → s.heap.get? D = none → h'.PlainList D ys → Paired G items.toList ys.toList → Q D { s with heap := h', toks := tk }) :
    wpAny (model pw w) A (pyIter (.ref l)) (SrcOk w A env scope cl x [] elt (fun _ => true) G ex Hn X Q) E s := by
  obtain ⟨oL, hoL, _⟩ := id hl
  have hlt := Heap.lt_size hoL
  refine wpAny_pyIter_list hl ?_
  refine ⟨_, _, _, _, _, _, rfl, Walks.list hA s.heap.objs.size l (Nat.ne_of_lt hlt) items, hn, ⟨⟨_, Heap.get?_push_size _ rfl, rfl, rfl⟩, ?_⟩, ?_, ?_, hH _ (push_ext _ _), ?_, ?_⟩
  · exact hl.at fun o e => push_ext _ _ _ _ e
  · intro b hb
    show _ < (s.heap.push _).objs.size
    rw [Heap.size_push]
    simp only [List.mem_cons, List.not_mem_nil, or_false] at hb
    rcases hb with rfl | rfl
    · exact Nat.lt_succ_self _
    · exact Nat.lt_succ_of_lt hlt
  · refine quiet0 (h := s.heap) (fun h' k => ext_or k) ?_ ?_
    · show _ ≤ (s.heap.push _).objs.size
      rw [Heap.size_push]; exact Nat.le_succ _
    · intro C i v s₃ m₃ E' hP
      exact elt' C v s₃ m₃ E' (List.mem_of_getElem? (i := i) (by simpa using hP))
  · intro b hb
    obtain ⟨o', e⟩ := hex b hb
    simp only [List.mem_singleton]
    rintro rfl
    exact absurd (Heap.lt_size e) (Nat.lt_irrefl _)
  · intro D h' tk ys vs hD hpl hlen hP hF hX hk
    have e0 : vs = items.toList := by
      apply List.ext_getElem?
      intro j
      cases hj : vs[j]? with
      | some v => have := hP j v hj; simpa using this.symm
      | none =>
        have : vs.length ≤ j := List.getElem?_eq_none_iff.mp hj
        rw [hlen] at this
        simp [this]
    subst e0
    rw [List.filter_eq_self.mpr (by simp)] at hF
    exact hQ D h' tk ys (ext_or2 hk) hX (none_of_push hD) hpl hF
theorem src_list1 {c : Expr} {l : Addr} {items : Array Value} (hA : A.handled = none) (hn : items.size ≤ sizeLine) (hl : s.heap.IsList l items)
    (hH : ∀ h, Ext s.heap h → Hn h) (hex : ∀ b ∈ ex, ∃ o, s.heap.get? b = some o)
    (test : ∀ C v s₃ m₃ E', v ∈ items.toList → Fr s.heap C s₃.heap m₃ → m₃ x = some v → wpAny (model pw w) A (isTrue c (compEnvC scope cl C env) (eval c (compEnvC scope cl C env))) (fun ok s₄ => ok = p v ∧ Keeps s₃ s₄) E' s₃)
    (elt' : ∀ C v s₃ m₃ E', v ∈ items.toList → p v = true → Fr s.heap C s₃.heap m₃ → m₃ x = some v → wpAny (model pw w) A (eval elt (compEnvC scope cl C env)) (fun y s₄ => G v y ∧ Keeps s₃ s₄) E' s₃)
    (hQ : ∀ D h' tk ys, ExtBut ex s.heap h' → X D h' → s.heap.get? D = none → h'.PlainList D ys → Paired G (items.toList.filter p) ys.toList → Q D { s with heap := h', toks := tk }) :
    wpAny (model pw w) A (pyIter (.ref l)) (SrcOk w A env scope cl x [c] elt p G ex Hn X Q) E s := by
  obtain ⟨oL, hoL, _⟩ := id hl
  have hlt := Heap.lt_size hoL
  refine wpAny_pyIter_list hl ?_
  refine ⟨_, _, _, _, _, _, rfl, Walks.list hA s.heap.objs.size l (Nat.ne_of_lt hlt) items, hn, ⟨⟨_, Heap.get?_push_size _ rfl, rfl, rfl⟩, ?_⟩, ?_, ?_, hH _ (push_ext _ _), ?_, ?_⟩
  · exact hl.at fun o e => push_ext _ _ _ _ e
  · intro b hb
    show _ < (s.heap.push _).objs.size
    rw [Heap.size_push]
    simp only [List.mem_cons, List.not_mem_nil, or_false] at hb
    rcases hb with rfl | rfl
    · exact Nat.lt_succ_self _
    · exact Nat.lt_succ_of_lt hlt
  · refine quiet1 (h := s.heap) (fun h' k => ext_or k) ?_ ?_ ?_
    · show _ ≤ (s.heap.push _).objs.size
      rw [Heap.size_push]; exact Nat.le_succ _
    · intro C i v s₃ m₃ E' hP
      exact test C v s₃ m₃ E' (List.mem_of_getElem? (i := i) (by simpa using hP))
    · intro C i v s₃ m₃ E' hP
      exact elt' C v s₃ m₃ E' (List.mem_of_getElem? (i := i) (by simpa using hP))
  · intro b hb
    obtain ⟨o', e⟩ := hex b hb
    simp only [List.mem_singleton]
    rintro rfl
    exact absurd (Heap.lt_size e) (Nat.lt_irrefl _)
  · intro D h' tk ys vs hD hpl hlen hP hF hX hk
    have e0 : vs = items.toList := by
      apply List.ext_getElem?
      intro j
      cases hj : vs[j]? with
      | some v => have := hP j v hj; simpa using this.symm
      | none =>
        have : vs.length ≤ j := List.getElem?_eq_none_iff.mp hj
        rw [hlen] at this
        simp [this]
    subst e0
    exact hQ D h' tk ys (ext_or2 hk) hX (none_of_push hD) hpl hF
end
def Halt (P : Prop) : Prop := P
theorem halt {P : Prop} (h : Halt P) : P := h
section
variable {w : World} {A : Around} {E : Value → Shared → Prop} {s : Shared} {env : Env} {x : Str} {px : Pos} {body : List Stmt} {h₀ : Heap} {m : Str → Option Value} {news : List (Addr × Obj)} {Q : Shared → Prop} {R : Result → Shared → Prop}
theorem for_list {l : Addr} {items : Array Value} (J : Nat → (Str → Option Value) → List (Addr × Obj) → Prop) (hA : A.handled = none) (F : Fr h₀ env.locals s.heap m) (N : News h₀ env.locals s.heap news) (hl : s.heap.IsList l items)
    (h0 : J 0 m news)
    (step : ∀ i v m₁ news₁ own s₁, items[i]? = some v → J i m₁ news₁ → Fr h₀ env.locals s₁.heap (fun y => if y = x then some v else m₁ y) → News h₀ env.locals s₁.heap (own ++ news₁) → (∃ o, (s.heap.objs.size, o) ∈ own ∧ o.cls ≠ .type "list") →
      wpAny (model pw w) A (execs body env) (LoopStepU h₀ env.locals [s.heap.objs.size] own (J (i + 1)) s₁) (fun _ _ => False) s₁)
    (hR : ∀ h' tk m' news', Fr h₀ env.locals h' m' → News h₀ env.locals h' news' → J items.size m' news' → R (.ok .next) { s with heap := h', toks := tk })
    (hx : env.kindOf x = some .local := by rfl) (hp : (env.scope.kind == .class || (env.scope.kind == .module && env.locals != env.globals)) = false := by rfl) :
    wpAny (model pw w) A (pyIter (.ref l)) (fun it s₂ => codeAny (model pw w) A (.forLoop (.Name x px) it body [] env) R s₂) E s := by
  obtain ⟨oL, hoL, hcL, _⟩ := id hl
  have hlt := Heap.lt_size hoL
  have hLlt : env.locals < s.heap.objs.size := F.ns.lt
  have hLl : env.locals ≠ l := by
    rintro e
    obtain ⟨o, es, ep, e1, e2, _⟩ := F.ns
    obtain ⟨o', e3, _, n, e4⟩ := hl
    rw [e, e3] at e1
    cases e1
    rw [e2] at e4
    cases e4
  have up := push_ext s.heap { cls := .type "list_iterator", data := .fields #[.ref l, .int 0 0] }
  obtain ⟨F1, N1⟩ := use_ext F N up
  refine wpAny_pyIter_list hl ?_
  have fresh0 : ∀ b ∈ [s.heap.objs.size], h₀.get? b = none := fun b hb => by
    rw [List.mem_singleton.mp hb]; exact Heap.get?_none_of_le (Nat.le_trans F.above (Nat.le_of_lt hLlt))
  refine codeAny_forLoop_frU (R := R) (h₀ := h₀) (news := news) (m := m) (Walks.list hA s.heap.objs.size l (Nat.ne_of_lt hlt) items) hx hp ?_ fresh0 ?_ ⟨⟨_, Heap.get?_push_size _ rfl, rfl, rfl⟩, hl.at fun o e => up _ _ e⟩ F1 N1 J h0 ?_ ?_
  · simp only [List.mem_cons, List.not_mem_nil, or_false, not_or]
    exact ⟨Nat.ne_of_lt hLlt, hLl⟩
  · intro p hp
    simp only [List.mem_singleton]
    exact Nat.ne_of_lt (Heap.lt_size (N p hp).1)
  · intro i v m₁ news₁ s₁ own hi hv hJ _ _ _ hall hst F' N'
    refine wpAny_mono (step i v m₁ news₁ own s₁ hv hJ F' N' ?_) (fun _ _ h => h) fun _ _ e => e.elim
    obtain ⟨⟨o, e, hc, _⟩, _⟩ := hst
    exact ⟨o, hall _ (by simp) (fresh0 _ (by simp)) o e, by rw [hc]; decide⟩
  · intro h' tk m' news' F' N' _ hJ
    exact hR h' tk m' news' F' N' hJ
end
theorem news_cons {h₀ h h' : Heap} {L D : Addr} {m : Str → Option Value} {news : List (Addr × Obj)} {o : Obj} (F : Fr h₀ L h m) (N : News h₀ L h' news) (hD : h.get? D = none) (hp : h'.get? D = some o) : News h₀ L h' ((D, o) :: news) := fun p hp' => by
  rcases List.mem_cons.mp hp' with rfl | hp'
  · refine ⟨hp, ?_, ?_⟩
    · rintro rfl
      obtain ⟨o', _, _, e, _⟩ := F.ns
      rw [hD] at e; cases e
    · cases e : h₀.get? D with
      | none => rfl
      | some o' => rw [F.keep _ _ e] at hD; cases hD
  · exact N p hp'
end D32
end
section
open PySem PySem.W PyProof.Rows PySem.Calls
set_option maxRecDepth 100000
set_option maxHeartbeats 4000000
set_option linter.unusedVariables false
namespace D32
abbrev A0 (dp un : Nat) (fr : Option (List Env)) (gd : Option (List Code)) : Around := { handled := none, depth := dp, frames := fr, guards := gd, units := un }



theorem k_reg1 : (fun (_ : PySem.W.OpenLaw) => True) PySem.Challenge.rw_to0032_01 ∧ K = K := by
  k_fill
  exact ⟨trivial, rfl⟩

theorem c11_spec {w : World} {mean : ExcName → Option Value} {mg mb : Str → Option Value} {A : Around} {s : Shared} {Q E : Value → Shared → Prop} {x : Str} {tx : Tok}
    (X : (K w.params).In s.heap) (T : TopH mean mg mb s.heap) (hd : A.depth + 1 < recursionLimit)
    (h : ∀ (h' : Heap) (tk : Nat), Ext s.heap h' → Q (.bool (x == Str.ofString " ")) { s with heap := h', toks := tk }) : wpAny (model pw w) A (call (.ref 161) [.str x tx]) Q E s := by
  refine wpAny_call ?_
  refine call_pos_ret (name := Str.ofString "in_table_c11") (params := fArgs (stm 19)) (body := fBody (stm 19)) (scope := fScope (stm 19)) (cd := .ref 160) (doc := .none) (pm := .str (Str.ofString "cpy313.stringprep") 403) (o := x161 w.params) (by omega) (X _ _ (by k_is)) rfl T.nolimit (codeRec_of X (by k_is)) rfl (by intro y hy; rcases List.mem_singleton.mp hy with rfl; rfl) ?_
  intro h₁ F
  have N : News s.heap s.heap.objs.size h₁ [] := News.nil
  try dsimp only
  k_steps
  all_goals dsimp only
  all_goals exact h _ _ F.keep
theorem strx_spec {w : World} {mean : ExcName → Option Value} {mg mb : Str → Option Value} {A : Around} {s : Shared} {Q E : Value → Shared → Prop} {x : Str} {tx : Tok}
    (X : (K w.params).In s.heap) (T : TopH mean mg mb s.heap) (hd : A.depth + 1 < recursionLimit)
    (h : ∀ (h' : Heap) (tk : Nat), Ext s.heap h' → Q (.str x tx) { s with heap := h', toks := tk }) : wpAny (model pw w) A (call (.ref 62) [.str x tx]) Q E s := by
  refine wpAny_call ?_
  refine call_pos_ret (name := Str.ofString "_strxfrm") (params := fArgs (stm 8)) (body := fBody (stm 8)) (scope := fScope (stm 8)) (cd := .ref 61) (doc := .none) (pm := .str (Str.ofString "cpy313.locale") 358) (o := top.o_65 w.params) (by omega) (X _ _ (by k_is)) rfl T.nolimit (codeRec_of X (by k_is)) rfl (by intro y hy; rcases List.mem_singleton.mp hy with rfl; rfl) ?_
  intro h₁ F
  have N : News s.heap s.heap.objs.size h₁ [] := News.nil
  try dsimp only
  k_steps
  all_goals dsimp only
  all_goals exact h _ _ F.keep
theorem add_spec {w : World} {mean : ExcName → Option Value} {mg mb : Str → Option Value} {A : Around} {s : Shared} {Q E : Value → Shared → Prop} {a : Int} {ta : Tok} {b : Int} {tb : Tok}
    (X : (K w.params).In s.heap) (T : TopH mean mg mb s.heap) (hd : A.depth + 1 < recursionLimit)
    (h : ∀ (h' : Heap) (tk : Nat) (t' : Tok), Ext s.heap h' → Q (.int (a + b) t') { s with heap := h', toks := tk }) : wpAny (model pw w) A (call (.ref 76) [.int a ta, .int b tb]) Q E s := by
  refine wpAny_call ?_
  refine call_pos_ret (name := Str.ofString "add") (params := fArgs (stm 11)) (body := fBody (stm 11)) (scope := fScope (stm 11)) (cd := .ref 75) (doc := .none) (pm := .str (Str.ofString "cpy313.operator") 377) (o := top.o_79 w.params) (by omega) (X _ _ (by k_is)) rfl T.nolimit (codeRec_of X (by k_is)) rfl (by intro y hy; rcases List.mem_cons.mp hy with rfl | hy; rfl; rcases List.mem_singleton.mp hy with rfl; rfl) ?_
  intro h₁ F
  have N : News s.heap s.heap.objs.size h₁ [] := News.nil
  try dsimp only
  k_steps
  all_goals dsimp only
  all_goals exact h _ _ _ F.keep
theorem sub_spec {w : World} {mean : ExcName → Option Value} {mg mb : Str → Option Value} {A : Around} {s : Shared} {Q E : Value → Shared → Prop} {a : Int} {ta : Tok} {b : Int} {tb : Tok}
    (X : (K w.params).In s.heap) (T : TopH mean mg mb s.heap) (hd : A.depth + 1 < recursionLimit)
    (h : ∀ (h' : Heap) (tk : Nat) (t' : Tok), Ext s.heap h' → Q (.int (a - b) t') { s with heap := h', toks := tk }) : wpAny (model pw w) A (call (.ref 90) [.int a ta, .int b tb]) Q E s := by
  refine wpAny_call ?_
  refine call_pos_ret (name := Str.ofString "sub") (params := fArgs (stm 13)) (body := fBody (stm 13)) (scope := fScope (stm 13)) (cd := .ref 89) (doc := .none) (pm := .str (Str.ofString "cpy313.operator") 377) (o := top.o_93 w.params) (by omega) (X _ _ (by k_is)) rfl T.nolimit (codeRec_of X (by k_is)) rfl (by intro y hy; rcases List.mem_cons.mp hy with rfl | hy; rfl; rcases List.mem_singleton.mp hy with rfl; rfl) ?_
  intro h₁ F
  have N : News s.heap s.heap.objs.size h₁ [] := News.nil
  try dsimp only
  k_steps
  all_goals dsimp only
  all_goals exact h _ _ _ F.keep
theorem or_spec {w : World} {mean : ExcName → Option Value} {mg mb : Str → Option Value} {A : Around} {s : Shared} {Q E : Value → Shared → Prop} {a : Int} {ta : Tok} {b : Int} {tb : Tok}
    (X : (K w.params).In s.heap) (T : TopH mean mg mb s.heap) (hd : A.depth + 1 < recursionLimit)
    (h : ∀ (h' : Heap) (tk : Nat) (t' : Tok), Ext s.heap h' → Q (.int (Builtin.bitOr a b) t') { s with heap := h', toks := tk }) : wpAny (model pw w) A (call (.ref 83) [.int a ta, .int b tb]) Q E s := by
  refine wpAny_call ?_
  refine call_pos_ret (name := Str.ofString "or_") (params := fArgs (stm 12)) (body := fBody (stm 12)) (scope := fScope (stm 12)) (cd := .ref 82) (doc := .none) (pm := .str (Str.ofString "cpy313.operator") 377) (o := top.o_86 w.params) (by omega) (X _ _ (by k_is)) rfl T.nolimit (codeRec_of X (by k_is)) rfl (by intro y hy; rcases List.mem_cons.mp hy with rfl | hy; rfl; rcases List.mem_singleton.mp hy with rfl; rfl) ?_
  intro h₁ F
  have N : News s.heap s.heap.objs.size h₁ [] := News.nil
  try dsimp only
  k_steps
  all_goals dsimp only
  all_goals exact h _ _ _ F.keep
end D32
end
section
open PySem PySem.W PyProof.Rows PySem.Calls
set_option maxRecDepth 100000
set_option maxHeartbeats 4000000
set_option linter.unusedVariables false
namespace D32


noncomputable def es98 (P : Params) : List (Int × Value) := match (x98 P).data with | .set es _ _ => es.toList | _ => []
noncomputable def b1S (P : Params) (k : Int) : Bool := (es98 P).any fun e => Value.isInt k e.2
def okE (e : Int × Value) : Bool := match e.2 with | .int k _ => (e.1 == hashInt k) && e.2.scannable | _ => false
theorem okE_of {w : World} {e : Int × Value} (h : okE e = true) : (∃ k, (intKind pw w).is k e.2 = true ∧ e.1 = (intKind pw w).hash k) ∧ e.2.scannable = true := by
  obtain ⟨a, v⟩ := e
  cases v with
  | int k t =>
    simp only [okE, Bool.and_eq_true, beq_iff_eq] at h
    exact ⟨⟨k, intKind_is _ _ _ _, h.1⟩, h.2⟩
  | _ => cases h
theorem ok98 (P : Params) : (es98 P).all okE = true := by kernel_rfl
theorem set98 {w : World} {h : Heap} (X : (K w.params).In h) : h.SetOf (intKind pw w) 98 (fun k => b1S w.params k) 27 := by
  refine ⟨x98 w.params, (es98 w.params).toArray, 29, _, X _ _ (by k_is), ⟨rfl, rfl, rfl⟩, rfl, ?_, ?_, (by show 27 < 4096; decide), rfl, rfl⟩
  · intro e he
    exact okE_of (List.all_eq_true.mp (ok98 w.params) e he)
  · intro k
    show (es98 w.params).any _ = true ↔ _
    rw [List.any_eq_true]
    exact Iff.rfl
noncomputable def es109 (P : Params) : List DictEntry := match (y109 P).data with | .dict es _ => es.toList | _ => []
noncomputable def mapV (P : Params) (k : Int) : Option Value := ((es109 P).find? fun e => Value.isInt k e.key).map (·.val)
def okD (e : DictEntry) : Bool := match e.key with | .int k _ => e.hash == hashInt k | _ => false
theorem okD_of {w : World} {e : DictEntry} (h : okD e = true) : ∃ k, (intKind pw w).is k e.key = true ∧ e.hash = (intKind pw w).hash k := by
  obtain ⟨a, v, x⟩ := e
  cases v with
  | int k t =>
    simp only [okD, beq_iff_eq] at h
    exact ⟨k, intKind_is _ _ _ _, h⟩
  | _ => cases h
theorem ok109 (P : Params) : (es109 P).all okD = true := by kernel_rfl
theorem map109 {w : World} {h : Heap} (X : (K w.params).In h) : h.MapOf (intKind pw w) 109 (mapV w.params) := by
  refine ⟨y109 w.params, (es109 w.params).toArray, _, X _ _ (by k_is), ⟨rfl, rfl, rfl⟩, rfl, ?_, fun k => ?_⟩
  · intro e he
    exact okD_of (List.all_eq_true.mp (ok109 w.params) e (by simpa using he))
  · show (((es109 w.params).toArray.find? _).map _) = _
    rw [List.find?_toArray]
    rfl
def S27 : List Nat := [173, 8205, 65039, 97, 98, 99, 100, 101, 102, 65, 66, 67, 68, 69, 70, 119808, 119809, 119810, 119811, 119812, 119813, 120432, 120433, 120434, 120435, 120436, 120437]
def ign (c : Nat) : Bool := c == 173 || c == 8205 || c == 65039
def letterOf (c : Nat) : Nat := if c < 97 then c - 65 else if c < 103 then c - 97 else if c < 119814 then c - 119808 else c - 120432
theorem b1_all (P : Params) : S27.all (fun c => b1S P (c : Int) == ign c) = true := by kernel_rfl
noncomputable def okB3 (P : Params) (c : Nat) : Bool := match mapV P (c : Int) with
  | some (.str y _) => decide (y.cps.toList = [97 + letterOf c])
  | none => decide ((Txt.lower ⟨#[c]⟩).cps.toList = [97 + letterOf c])
  | _ => false
theorem b3_all (P : Params) : S27.all (fun c => ign c || okB3 P c) = true := by kernel_rfl
theorem b1_spec {w : World} {mean : ExcName → Option Value} {mg mb : Str → Option Value} {A : Around} {s : Shared} {Q E : Value → Shared → Prop} {c : Nat} {tx : Tok}
    (X : (K w.params).In s.heap) (T : TopH mean mg mb s.heap) (hd : A.depth + 1 < recursionLimit)
    (h : ∀ (h' : Heap) (tk : Nat), Ext s.heap h' → Q (.bool (b1S w.params c)) { s with heap := h', toks := tk }) : wpAny (model pw w) A (call (.ref 108) [.str ⟨#[c]⟩ tx]) Q E s := by
  refine wpAny_call ?_
  refine call_pos_ret (name := Str.ofString "in_table_b1") (params := fArgs (stm 16)) (body := fBody (stm 16)) (scope := fScope (stm 16)) (cd := .ref 107) (doc := .none) (pm := .str (Str.ofString "cpy313.stringprep") 403) (o := x108 w.params) (by omega) (X _ _ (by k_is)) rfl T.nolimit (codeRec_of X (by k_is)) rfl (by intro y hy; rcases List.mem_singleton.mp hy with rfl; rfl) ?_
  intro h₁ F
  have N : News s.heap s.heap.objs.size h₁ [] := News.nil
  try dsimp only
  k_steps
  refine wpAny_inSet_of (intKind_is _ _ _ _) rfl (set98 (X.keeps F.keep)) ?_
  exact h _ _ F.keep
theorem b3s_spec {w : World} {mean : ExcName → Option Value} {mg mb : Str → Option Value} {A : Around} {s : Shared} {Q E : Value → Shared → Prop} {c : Nat} {tx : Tok}
    (X : (K w.params).In s.heap) (T : TopH mean mg mb s.heap) (hd : A.depth + 1 < recursionLimit)
    {y : Str} {ty : Tok} (hv : mapV w.params c = some (.str y ty))
    (h : ∀ (h' : Heap) (tk : Nat), Ext s.heap h' → Q (.str y ty) { s with heap := h', toks := tk }) : wpAny (model pw w) A (call (.ref 154) [.str ⟨#[c]⟩ tx]) Q E s := by
  refine wpAny_call ?_
  refine call_pos_ret (name := Str.ofString "map_table_b3") (params := fArgs (stm 18)) (body := fBody (stm 18)) (scope := fScope (stm 18)) (cd := .ref 153) (doc := .none) (pm := .str (Str.ofString "cpy313.stringprep") 403) (o := x154 w.params) (by omega) (X _ _ (by k_is)) rfl T.nolimit (codeRec_of X (by k_is)) rfl (by intro y hy; rcases List.mem_singleton.mp hy with rfl; rfl) ?_
  intro h₁ F
  have N : News s.heap s.heap.objs.size h₁ [] := News.nil
  try dsimp only
  k_steps
  have hm := map109 (X.keeps F.keep)
  refine getMethod_builtin (Heap.MapOf.typeIs hm) PySem.F.plainAttrs_dict PySem.F.slot_dict_get PySem.F.type_dict_get (Heap.MapOf.noDict hm) ?_
  k_steps
  refine call_meetsIn PySem.F.slot_dict_get (Heap.MapOf.typeIs hm) PySem.F.entry_dict_get (PySem.F.args_dict_get_2 _ _) (meets_dict_get (intKind pw w) 109 (intKind_is _ _ _ _) (by decide)) ⟨_, hm, ?_⟩
  rw [hv]
  dsimp only [Option.getD]
  k_steps
  rename_i hh FF NN
  exact h _ _ FF.keep
theorem b3n_spec {w : World} {mean : ExcName → Option Value} {mg mb : Str → Option Value} {A : Around} {s : Shared} {Q E : Value → Shared → Prop} {c : Nat} {tx : Tok}
    (X : (K w.params).In s.heap) (T : TopH mean mg mb s.heap) (hd : A.depth + 1 < recursionLimit)
    {y : Str} (hv : mapV w.params c = none) (e : Txt.lower ⟨#[c]⟩ = y) (hy : Builtin.Str.tooLong y.length = false)
    (h : ∀ (h' : Heap) (tk : Nat) (t' : Tok), Ext s.heap h' → Q (.str y t') { s with heap := h', toks := tk }) : wpAny (model pw w) A (call (.ref 154) [.str ⟨#[c]⟩ tx]) Q E s := by
  refine wpAny_call ?_
  refine call_pos_ret (name := Str.ofString "map_table_b3") (params := fArgs (stm 18)) (body := fBody (stm 18)) (scope := fScope (stm 18)) (cd := .ref 153) (doc := .none) (pm := .str (Str.ofString "cpy313.stringprep") 403) (o := x154 w.params) (by omega) (X _ _ (by k_is)) rfl T.nolimit (codeRec_of X (by k_is)) rfl (by intro y hy; rcases List.mem_singleton.mp hy with rfl; rfl) ?_
  intro h₁ F
  have N : News s.heap s.heap.objs.size h₁ [] := News.nil
  try dsimp only
  k_steps
  have hm := map109 (X.keeps F.keep)
  refine getMethod_builtin (Heap.MapOf.typeIs hm) PySem.F.plainAttrs_dict PySem.F.slot_dict_get PySem.F.type_dict_get (Heap.MapOf.noDict hm) ?_
  k_steps
  refine call_meetsIn PySem.F.slot_dict_get (Heap.MapOf.typeIs hm) PySem.F.entry_dict_get (PySem.F.args_dict_get_2 _ _) (meets_dict_get (intKind pw w) 109 (intKind_is _ _ _ _) (by decide)) ⟨_, hm, ?_⟩
  rw [hv]
  dsimp only [Option.getD]
  k_steps
  rename_i hh FF NN
  refine KXw.lower e (by rw [e]; exact hy) ?_
  intro t' k
  exact h _ _ _ FF.keep
theorem str_of_list {y : Str} {l : List Nat} (h : y.cps.toList = l) : y = ⟨l.toArray⟩ := by
  obtain ⟨⟨a⟩⟩ := y
  cases h; rfl
theorem b1_sign {w : World} {mean : ExcName → Option Value} {mg mb : Str → Option Value} {A : Around} {s : Shared} {Q E : Value → Shared → Prop} {c : Nat} {tx : Tok}
    (X : (K w.params).In s.heap) (T : TopH mean mg mb s.heap) (hd : A.depth + 1 < recursionLimit) (hc : c ∈ S27)
    (h : ∀ (h' : Heap) (tk : Nat), Ext s.heap h' → Q (.bool (ign c)) { s with heap := h', toks := tk }) : wpAny (model pw w) A (call (.ref 108) [.str ⟨#[c]⟩ tx]) Q E s := by
  refine b1_spec X T hd ?_
  have e := List.all_eq_true.mp (b1_all w.params) c hc
  rw [eq_of_beq e]
  exact h
theorem b3_sign {w : World} {mean : ExcName → Option Value} {mg mb : Str → Option Value} {A : Around} {s : Shared} {Q E : Value → Shared → Prop} {c : Nat} {tx : Tok}
    (X : (K w.params).In s.heap) (T : TopH mean mg mb s.heap) (hd : A.depth + 1 < recursionLimit) (hc : c ∈ S27) (hi : ign c = false)
    (h : ∀ (h' : Heap) (tk : Nat) (t' : Tok), Ext s.heap h' → Q (.str ⟨#[97 + letterOf c]⟩ t') { s with heap := h', toks := tk }) : wpAny (model pw w) A (call (.ref 154) [.str ⟨#[c]⟩ tx]) Q E s := by
  have e := List.all_eq_true.mp (b3_all w.params) c hc
  rw [hi, Bool.false_or] at e
  unfold okB3 at e
  cases hv : mapV w.params (c : Int) with
  | none =>
    rw [hv] at e
    have e' := str_of_list (of_decide_eq_true e)
    exact b3n_spec X T hd hv e' rfl h
  | some v =>
    rw [hv] at e
    cases v with
    | str y ty =>
      have e' := str_of_list (of_decide_eq_true e)
      subst e'
      exact b3s_spec X T hd hv fun h' tk k => h h' tk ty k
    | _ => cases e
end D32
end
section
open PySem PySem.W PyProof.Rows PySem.Calls
set_option maxRecDepth 100000
set_option maxHeartbeats 4000000
set_option linter.unusedVariables false
namespace D32
theorem upd_seq {h : Heap} {a : Addr} {xs : Array Value} {n : Nat} (ho : h.get? a = some (seqObj "list" xs n)) (ys : Array Value) : ∃ c, (h.update a (Obj.mapSeq fun _ => ys)).get? a = some (seqObj "list" ys c) :=
  ⟨_, get?_update_seq ho fun _ => ys⟩
section
variable {w : World} {A : Around} {E : Value → Shared → Prop} {s : Shared} {P : PySem.Fin → Shared → Prop} {mean : ExcName → Option Value} {mg mb : Str → Option Value}
theorem srt_tail {st : SortSt} {kS a : Addr} {keys : Array Value} {e e1 : Nat} (hk : s.heap.get? kS = some (seqObj "list" keys e)) (ha : s.heap.get? a = some (seqObj "list" #[] e1)) (hne : kS ≠ a)
    (h1 : keys.size ≤ 64) (h2 : (arrOf st).size ≤ 64) (hfl : failedOf st = none)
    (h : ∀ h' c, h'.get? a = some (seqObj "list" ((arrOf st).map (·.2)).reverse c) → ExtBut [a, kS] s.heap h' → P (.done (.ret .none)) { s with heap := h' }) :
    wpAny (model pw w) A (ksk_tail a true e1 (.ref kS) st) P E s := by
  have u1 := Heap.SameBut.update s.heap kS (Obj.mapSeq fun _ => (#[] : Array Value))
  have ha1 : (s.heap.update kS (Obj.mapSeq fun _ => (#[] : Array Value))).get? a = some (seqObj "list" #[] e1) := (u1.2 a hne.symm).trans ha
  have u2 := Heap.SameBut.update (s.heap.update kS (Obj.mapSeq fun _ => (#[] : Array Value))) a (Obj.mapSeq fun _ => ((arrOf st).map (·.2)).reverse)
  have hout : (if true = true then ((arrOf st).map (·.2)).reverse else (arrOf st).map (·.2)).size = (arrOf st).size := by simp only [if_true, Array.size_reverse, Array.size_map]
  unfold ksk_tail
  refine wpAny_bind (listUpdate_at hk rfl ?_ (by rw [sizeLine_eq]; omega) (Nat.zero_le _))
  refine wpAny_bind (wpAny_letGo ?_)
  refine wpAny_bind (seqEpoch_at ha1 rfl ?_)
  refine wpAny_bind (listUpdate_at ha1 rfl ?_ (Nat.zero_le _) (Nat.le_trans (Nat.le_of_eq hout) (by rw [sizeLine_eq]; omega)))
  rw [hfl]
  simp only [bne_self_eq_false, Bool.false_eq_true, if_false, if_true]
  obtain ⟨c2, hc2⟩ := upd_seq ha1 ((arrOf st).map (·.2)).reverse
  refine wpAny_pure (h _ c2 hc2 fun b o hb eo => ?_)
  simp only [List.mem_cons, List.not_mem_nil, or_false, not_or] at hb
  rw [u2.2 b hb.1, u1.2 b hb.2]
  exact eo
theorem srt_end {kS a : Addr} {vs : List Value} {ss : List Str} {e e1 : Nat} (hS : StrsAre vs ss) (h64 : vs.length < 64) (hk : s.heap.get? kS = some (seqObj "list" vs.toArray e)) (ha : s.heap.get? a = some (seqObj "list" #[] e1)) (hne : kS ≠ a)
    (h : ∀ h' c (out : List Value) ss', h'.get? a = some (seqObj "list" out.toArray c) → StrsAre out.reverse ss' → ss'.Perm ss → sortedS ss' = true → ExtBut [a, kS] s.heap h' → P (.done (.ret .none)) { s with heap := h' }) :
    wpAny (model pw w) A (ksk_end a true vs.toArray e1 (.ref kS) vs.toArray) P E s := by
  have hzs : (PyProof.Rows.pairsOf vs).size = vs.length := by unfold PyProof.Rows.pairsOf; rw [Array.size_zip, List.size_toArray, Nat.min_self]
  have fin : ∀ st : SortSt, (arrOf st).Perm (PyProof.Rows.pairsOf vs) → failedOf st = none → SortedToK strKind (arrOf st) (PyProof.Rows.pairsOf vs).size → wpAny (model pw w) A (ksk_tail a true e1 (.ref kS) st) P E s := by
    intro st hp hf hs
    obtain ⟨ss', h1, h2, h3⟩ := sorted_out_str hS hp hs
    refine srt_tail hk ha hne (by rw [List.size_toArray]; omega) (by rw [hp.size_eq, hzs]; omega) hf fun h' c hc hx => ?_
    refine h h' c ((arrOf st).map (·.2)).reverse.toList ss' (by rw [Array.toArray_toList]; exact hc) (by simpa using h1) h2 h3 hx
  have hst : ((PyProof.Rows.pairsOf vs).reverse).Perm (PyProof.Rows.pairsOf vs) := Array.perm_iff_toList_perm.mpr (by rw [Array.toList_reverse]; exact List.reverse_perm _)
  unfold ksk_end
  dsimp only
  refine wpAny_bind (wpAny_rule ?_)
  by_cases h2 : vs.toArray.size < 2
  · rw [if_pos h2, if_pos h2]
    refine wpAny_bind (wpAny_pure ?_)
    rw [StateT.run_pure]
    refine wpAny_bind (wpAny_pure ?_)
    refine fin (SortSt.mk' general' (PyProof.Rows.pairsOf vs).reverse #[] 7 none) hst rfl ?_
    intro i j hij hj
    rw [hzs] at hj
    rw [List.size_toArray] at h2
    have e : i = j := by omega
    subst e
    exact KeyOrd.kle_refl _
  · rw [if_neg h2, if_neg h2]
    rw [List.size_toArray] at h2
    have hkk : keyKind' vs.toArray = pure oneType' := by
      match vs, hS, h2 with
      | v₁ :: v₂ :: r, hS, _ => exact keyKind_strs hS
      | [], _, h2 => exact absurd (Nat.zero_lt_succ _) h2
      | [_], _, h2 => exact absurd (Nat.lt_succ_self _) h2
    rw [hkk]
    refine wpAny_bind (wpAny_pure ?_)
    refine wpAny_bind (wpAny_mono (wpS_sortRunsK (κ := strKind) (a₀ := PyProof.Rows.pairsOf vs) (st := SortSt.mk' oneType' (PyProof.Rows.pairsOf vs).reverse #[] 7 none)
      (Q := fun _ st' => (arrOf st').Perm (PyProof.Rows.pairsOf vs) ∧ failedOf st' = none ∧ SortedToK strKind (arrOf st') (PyProof.Rows.pairsOf vs).size)
      strKind_oneLt hS.keysOf ⟨hst, rfl, rfl, rfl⟩ (by rw [hzs]; omega) (by rw [hzs]; exact h64) fun st' a1 a2 a3 => ⟨a1, a2, a3⟩) ?_ fun _ _ e => e)
    rintro ⟨⟨⟩, st'⟩ s' ⟨rfl, hp, hf, hs⟩
    exact fin st' hp hf hs
theorem srt_rest {kS a : Addr} {vs : List Value} {ss : List Str} {e1 : Nat} (hd : A.depth + 1 < recursionLimit) (hS : StrsAre vs ss) (h64 : vs.length < 64)
    {base : Heap} (hb : Ext base s.heap) (hkb : base.get? kS = none) (hab : base.get? a = none)  (X' : (K w.params).In base) (T' : TopH mean mg mb base)
    (hk : s.heap.get? kS = some (seqObj "list" #[] 0)) (ha : s.heap.get? a = some (seqObj "list" #[] e1)) (hne : kS ≠ a)
    (h : ∀ h' tk c (out : List Value) ss', h'.get? a = some (seqObj "list" out.toArray c) → StrsAre out.reverse ss' → ss'.Perm ss → sortedS ss' = true → Ext base h' → P (.done (.ret .none)) { s with heap := h', toks := tk }) :
    wpAny (model pw w) A (ksk_rest a (.ref 62) true vs.toArray e1 (.ref kS)) P E s := by
  unfold ksk_rest
  refine wpAny_bind (wpAny_rule ?_)
  rw [List.forIn_toArray]
  refine wpAny_bind (ksk_fold (fun i s' => ∃ h' tk e, s' = { s with heap := h', toks := tk } ∧ Ext base h' ∧ h'.get? kS = some (seqObj "list" (vs.take i).toArray e) ∧ h'.get? a = some (seqObj "list" #[] e1)) vs 0 s
    ⟨s.heap, s.toks, 0, rfl, hb, hk, ha⟩ ?_ ?_)
  · rintro j x s' hx ⟨h', tk, e, rfl, hb', hk', ha'⟩
    simp only [Nat.zero_add] at hk' ⊢
    have hj : j < vs.length := (List.getElem?_eq_some_iff.mp hx).1
    obtain ⟨y, t, rfl⟩ := hS.all _ (List.mem_of_getElem? hx)
    have XX : (K w.params).In h' := X'.keeps hb'
    have TT : TopH mean mg mb h' := T'.keeps hb'
    refine wpAny_bind (wpAny_attempt ?_)
    refine strx_spec (w := w) (mean := mean) (mg := mg) (mb := mb) (s := { s with heap := h', toks := tk }) XX TT hd ?_
    intro g tk2 eg
    dsimp only
    have hk2 := eg _ _ hk'
    have u := Heap.SameBut.update g kS (Obj.mapSeq (·.push (.str y t)))
    refine wpAny_bind (listUpdate_at hk2 rfl ?_ (by simp only [List.size_toArray, List.length_take]; rw [sizeLine_eq]; omega) (by simp only [Array.size_push, List.size_toArray, List.length_take]; rw [sizeLine_eq]; omega))
    obtain ⟨c2, hc2⟩ : ∃ c2, (g.update kS (Obj.mapSeq (·.push (.str y t)))).get? kS = some (seqObj "list" ((vs.take j).toArray.push (.str y t)) c2) := ⟨_, get?_update_seq hk2 (·.push (.str y t))⟩
    refine wpAny_pure ⟨rfl, _, _, c2, rfl, fun b o eb => ?_, ?_, ?_⟩
    · rw [u.2 b (by rintro rfl; rw [hkb] at eb; cases eb)]
      exact eg _ _ (hb' b o eb)
    · have e3 : (vs.take (j + 1)).toArray = (vs.take j).toArray.push (.str y t) := by rw [List.take_add_one, hx]; simp
      rw [e3]; exact hc2
    · rw [u.2 a hne.symm]; exact eg _ _ ha'
  · rintro s' ⟨h', tk, e, rfl, hb', hk', ha'⟩
    rw [Nat.zero_add, List.take_length] at hk'
    refine wpAny_bind (listItems_at hk' rfl ?_)
    refine srt_end hS h64 hk' ha' hne fun h3 c out ss' h1 h2 h4 h5 hx => h h3 tk c out ss' h1 h2 h4 h5 fun b o eb => hx b o ?_ (hb' b o eb)
    simp only [List.mem_cons, List.not_mem_nil, or_false, not_or]
    constructor
    · rintro rfl; rw [hab] at eb; cases eb
    · rintro rfl; rw [hkb] at eb; cases eb
theorem srt_sort {a : Addr} {vs : List Value} {ss : List Str} {n : Nat} (hd : A.depth + 1 < recursionLimit) (hS : StrsAre vs ss) (h64 : vs.length < 64)
    {base : Heap} (hb : Ext base s.heap) (hab : base.get? a = none) (X' : (K w.params).In base) (T' : TopH mean mg mb base) (ho : s.heap.get? a = some (seqObj "list" vs.toArray n))
    (h : ∀ h' tk c (out : List Value) ss', h'.get? a = some (seqObj "list" out.toArray c) → StrsAre out.reverse ss' → ss'.Perm ss → sortedS ss' = true → Ext base h' → P (.done (.ret .none)) { s with heap := h', toks := tk }) :
    wpAny (model pw w) A (ksk_tree a (.ref 62) true) P E s := by
  have ha : a < s.heap.objs.size := Heap.lt_size ho
  have u := Heap.SameBut.update s.heap a (Obj.mapSeq fun _ => (#[] : Array Value))
  have ho1 := get?_update_seq ho fun _ => (#[] : Array Value)
  have hb1 : Ext base (s.heap.update a (Obj.mapSeq fun _ => (#[] : Array Value))) := fun b o e => by
    rw [u.2 b (by rintro rfl; rw [hab] at e; cases e)]; exact hb b o e
  have sz : ((s.heap.update a (Obj.mapSeq fun _ => (#[] : Array Value))).push (seqObj "tuple" vs.toArray 0)).objs.size = s.heap.objs.size + 1 := by rw [size_push', Heap.size_update]
  unfold ksk_tree
  refine wpAny_bind (listItems_at ho rfl ?_)
  refine wpAny_bind (listUpdate_at ho rfl ?_ (by rw [List.size_toArray, sizeLine_eq]; omega) (Nat.zero_le _))
  refine wpAny_bind (seqEpoch_at ho1 rfl ?_)
  refine wpAny_bind (wpAny_newTuple ?_ (by show vs.length ≤ _; rw [sizeLine_eq]; omega))
  refine wpAny_bind (wpAny_newList ?_ (Nat.zero_le _))
  refine wpAny_holding ?_
  have e2 : Ext base (((s.heap.update a (Obj.mapSeq fun _ => (#[] : Array Value))).push (seqObj "tuple" vs.toArray 0)).push (seqObj "list" #[] 0)) := fun b o e => Heap.get?_push_of_some _ (Heap.get?_push_of_some _ (hb1 b o e))
  refine srt_rest (s := { s with heap := ((s.heap.update a (Obj.mapSeq fun _ => (#[] : Array Value))).push (seqObj "tuple" vs.toArray 0)).push (seqObj "list" #[] 0) }) (kS := ((s.heap.update a (Obj.mapSeq fun _ => (#[] : Array Value))).push (seqObj "tuple" vs.toArray 0)).objs.size)
    hd hS h64 e2 ?_ hab X' T' (Heap.get?_push_size _ rfl) (Heap.get?_push_of_some _ (Heap.get?_push_of_some _ ho1)) (by rw [sz]; exact Nat.ne_of_gt (Nat.lt_succ_of_lt ha)) h
  cases q : base.get? _ with
  | none => rfl
  | some o =>
    have q2 := Heap.lt_size (hb1 _ _ q)
    rw [size_push'] at q2
    exact absurd q2 (Nat.not_lt.mpr (Nat.le_succ _))
theorem srt_sorted {Q : Value → Shared → Prop} {l : Addr} {vs : List Value} {ss : List Str} (X : (K w.params).In s.heap) (T : TopH mean mg mb s.heap) (hd : A.depth + 1 < recursionLimit) (hS : StrsAre vs ss) (h64 : vs.length < 64)
    (hl : s.heap.IsList l vs.toArray) {kw : List (Str × Value)}
    (ha1 : argsOk "sorted" ⟨[.ref l], kw⟩) (ha2 : ∀ x, argsOk "list.sort" ⟨[.ref x], kw⟩) (ht : ∀ x, Builtin.«list.sort» ⟨[.ref x], kw⟩ = ksk_tree x (.ref 62) true)
    (h : ∀ D h' tk (out : List Value) ss', Ext s.heap h' → s.heap.get? D = none → h'.PlainList D out.toArray → StrsAre out.reverse ss' → ss'.Perm ss → sortedS ss' = true → Q (.ref D) { s with heap := h', toks := tk }) :
    wpAny (model pw w) A (call (.builtin "sorted") [.ref l] kw) Q E s := by
  refine call_function_entry_kw kind_sorted plain_sorted entry_sorted ha1 ?_
  unfold Builtin.«sorted»
  refine wpAny_bind (m := checkCount "sorted" 1 1 _) (wpAny_pure ?_)
  refine wpAny_bind (collect_list hl ?_ (by rw [sizeLine_eq]; omega))
  refine wpAny_bind (wpAny_newList ?_ (by rw [sizeLine_eq]; omega))
  have hsz : ((s.heap.push (seqObj "list" #[] 0)).update s.heap.objs.size (Obj.mapSeq (· ++ vs.toArray))).objs.size = s.heap.objs.size + 1 := by rw [Heap.size_update, size_push']
  have up : Ext s.heap (((s.heap.push (seqObj "list" #[] 0)).update s.heap.objs.size (Obj.mapSeq (· ++ vs.toArray))).push (seqObj "list" vs.toArray 0)) := fun b o q => by
    refine Heap.get?_push_of_some _ ?_
    rw [Heap.get?_update_ne _ _ _ _ (Nat.ne_of_lt (Heap.lt_size q))]
    exact Heap.get?_push_of_some _ q
  have ho : (((s.heap.push (seqObj "list" #[] 0)).update s.heap.objs.size (Obj.mapSeq (· ++ vs.toArray))).push (seqObj "list" vs.toArray 0)).get? (s.heap.objs.size + 1) = some (seqObj "list" vs.toArray 0) := by
    rw [← hsz]; exact Heap.get?_push_size _ rfl
  show wpAny _ _ _ _ _ { s with heap := ((s.heap.push (seqObj "list" #[] 0)).update s.heap.objs.size (Obj.mapSeq (· ++ vs.toArray))).push (seqObj "list" vs.toArray 0) }
  rw [hsz]
  have fresh : s.heap.get? (s.heap.objs.size + 1) = none := Heap.get?_none_of_le (Nat.le_succ _)
  refine wpAny_bind (wpAny_holding (wpAny_call_entry_kw slot_list_sort ⟨_, ho, rfl⟩ entry_list_sort ?_ (ha2 _)))
  show wpAny (model pw w) A.in1.in1 (Builtin.«list.sort» ⟨[.ref (s.heap.objs.size + 1)], kw⟩) _ _ _
  rw [ht]
  refine srt_sort (s := { s with heap := ((s.heap.push (seqObj "list" #[] 0)).update s.heap.objs.size (Obj.mapSeq (· ++ vs.toArray))).push (seqObj "list" vs.toArray 0) }) hd hS h64 up fresh X T ho ?_
  intro h' tk c out ss' a1 a2 a3 a4 a5
  exact ⟨_, rfl, wpAny_pure ⟨_, rfl, h _ h' tk out ss' a5 fresh ⟨c, a1⟩ a2 a3 a4⟩⟩
end
end D32
end
section
open PySem PySem.W PyProof.Rows PySem.Calls
set_option maxRecDepth 100000
set_option maxHeartbeats 4000000
set_option linter.unusedVariables false
namespace D32
local macro_rules | `(tactic| k_room) => `(tactic| ((try simp only [depth_under_make, depth_under_kw, depth_in1, depth_deeper, depth_caller]); omega))
local macro_rules | `(tactic| walk_at "eval Name") => `(tactic| k_dflt (refine' cName_L ?F ?a ?_ ?b ?c ?d; (case F => assumption); (case a => first | assumption | rfl); (case b => rfl); (case c => rfl); (case d => decide); k_whole))
local macro_rules | `(tactic| walk_at "eval Name") => `(tactic| k_dflt (refine' cName_K ?F ?X ?T ?e ?_ ?a ?b ?c ?d; (case F => assumption); (case X => assumption); (case T => assumption); (case e => k_is); (case a => rfl); (case b => rfl); (case c => rfl); (case d => decide); k_whole))
local macro_rules | `(tactic| walk_at "eval Name") => `(tactic| k_dflt (refine' cName_B ?F ?X ?T ?e ?v ?n ?_ ?a ?f ?b ?c ?d; (case F => assumption); (case X => assumption); (case T => assumption); (case e => k_is); (case v => boot_fast); (case n => decide); (case a => rfl); (case f => rfl); (case b => rfl); (case c => rfl); (case d => decide); k_whole))
section
variable {w : World} {A : Around} {env : Env} {test : Expr} {body : List Stmt} {R : Result → Shared → Prop}
def Unr (w : World) (A : Around) (env : Env) (test : Expr) (body : List Stmt) (R : Result → Shared → Prop) : Nat → Shared → Prop
  | 0, s => wpAny (model pw w) A (isTrue test env (eval test env)) (fun b s₂ => b = false ∧ R (.ok .next) s₂) (fun _ _ => False) s
  | n + 1, s => wpAny (model pw w) A (isTrue test env (eval test env)) (fun b s₂ => if b then wpAny (model pw w) A (execs body env) (fun f s₃ => f = .next ∧ Unr w A env test body R n s₃) (fun _ _ => False) s₂ else R (.ok .next) s₂) (fun _ _ => False) s
theorem while_unr {s : Shared} (n : Nat) (h : Unr w A env test body R n s) : codeAny (model pw w) A (.whileLoop test body [] env) R s := by
  refine codeAny_whileLoop (Unr w A env test body R) (fun n s h => ?_) n h
  cases n with
  | zero =>
    refine wpAny_mono h (fun b s₂ hb => ?_) fun _ _ e => e.elim
    rw [hb.1]
    exact wpAny_execs_nil hb.2
  | succ n =>
    refine wpAny_mono h (fun b s₂ hb => ?_) fun _ _ e => e.elim
    cases b with
    | true =>
      refine wpAny_mono hb (fun f s₃ hf => ?_) fun _ _ e => e.elim
      rw [hf.1]
      exact ⟨n, Nat.lt_succ_self n, hf.2⟩
    | false => exact wpAny_execs_nil hb
end
def blk (m : Nat) : Str := ⟨(List.replicate m 32 ++ [120]).toArray⟩
theorem blk_len (m : Nat) : (blk m).length = m + 1 := by
  show (List.replicate m 32 ++ [120]).toArray.size = m + 1
  simp
theorem str_toList {x y : Str} (h : x.cps.toList = y.cps.toList) : x = y := by
  obtain ⟨⟨a⟩⟩ := x
  obtain ⟨⟨b⟩⟩ := y
  cases h; rfl
theorem filt_get : ∀ (l pre : List Nat), (List.range l.length).filterMap (fun i => (pre ++ l)[pre.length + i]?) = l
  | [], _ => rfl
  | a :: l, pre => by
    rw [List.length_cons, List.range_succ_eq_map, List.filterMap_cons]
    have e : (pre ++ a :: l)[pre.length + 0]? = some a := by simp
    rw [e]
    simp only [List.filterMap_map]
    have ih := filt_get l (pre ++ [a])
    congr 1
    conv => rhs; rw [← ih]
    congr 1
    funext i
    simp only [Function.comp, List.length_append, List.length_cons, List.length_nil, List.append_assoc, List.cons_append, List.nil_append]
    congr 1
    omega
theorem slice_tail (a : Nat) (l : List Nat) : Txt.slice ⟨(a :: l).toArray⟩ (some 1) (some ((l.length + 1 : Nat) : Int)) = ⟨l.toArray⟩ := by
  have hl : (⟨(a :: l).toArray⟩ : Str).length = l.length + 1 := by show (a :: l).toArray.size = _; simp
  unfold Txt.slice
  have hi : Builtin.Str.strSliceIndices (some 1) (some ((l.length + 1 : Nat) : Int)) 1 (l.length + 1) = (List.range l.length).map fun i => 1 + i := by
    unfold Builtin.Str.strSliceIndices sliceRange
    dsimp only
    simp only [show ((1 : Int) > 0) = True from by simp, if_true]
    have e1 : max (0 : Int) (min (if (1 : Int) < 0 then 1 + ((l.length + 1 : Nat) : Int) else 1) ((l.length + 1 : Nat) : Int)) = 1 := by rw [if_neg (by omega)]; omega
    have e2 : max (0 : Int) (min (if ((l.length + 1 : Nat) : Int) < 0 then ((l.length + 1 : Nat) : Int) + ((l.length + 1 : Nat) : Int) else ((l.length + 1 : Nat) : Int)) ((l.length + 1 : Nat) : Int)) = ((l.length + 1 : Nat) : Int) := by rw [if_neg (by omega)]; omega
    rw [e1, e2]
    have e3 : (if (1 : Int) < ((l.length + 1 : Nat) : Int) then (((l.length + 1 : Nat) : Int) - 1 + 1 - 1) / 1 else 0).toNat = l.length := by
      split
      · rw [Int.ediv_one]; omega
      · omega
    rw [e3]
    refine List.map_congr_left fun k _ => ?_
    omega
  rw [hl, hi]
  rw [if_neg (by simp)]
  congr 1
  congr 1
  rw [List.filterMap_map]
  refine Eq.trans ?_ (filt_get l [a])
  congr 1
  funext i
  show (a :: l).toArray[1 + i]? = (a :: l)[1 + i]?
  simp
theorem blk_all (m : Nat) : Txt.slice (blk (m + 1)) (some 1) (some ((m + 2 : Nat) : Int)) = blk m ∧ Txt.item (blk (m + 1)) 0 = ⟨#[32]⟩ := by
  constructor
  · have h := slice_tail 32 (List.replicate m 32 ++ [120])
    have e : (List.replicate m 32 ++ [120]).length = m + 1 := by simp
    rw [e] at h
    exact h
  · have e : Txt.charAt (blk (m + 1)) 0 = some 32 := by
      unfold Txt.charAt
      rw [blk_len]
      have e2 : seqIndex? 0 (m + 1 + 1) = some 0 := by
        unfold seqIndex?
        simp
        try omega
      rw [e2]
      rfl
    unfold Txt.item
    rw [e]
    rfl
theorem blk_item (r : Nat) : (Txt.item (blk r) 0 == Str.ofString " ") = decide (0 < r) := by
  cases r with
  | zero => rfl
  | succ m => rw [(blk_all m).2]; simp; rfl
theorem fold_rep (c : Nat) : ∀ (n : Nat) (a : Array Nat), ((List.replicate n #[c]).foldl (· ++ ·) a).toList = a.toList ++ List.replicate n c
  | 0, a => by simp
  | n + 1, a => by
    rw [List.replicate_succ, List.foldl_cons, fold_rep c n, List.replicate_succ]
    simp
theorem blk_make (n : Nat) : Txt.mul (Str.ofString " ") ((n : Nat) : Int) ++ Str.ofString "x" = blk n := by
  have e : (Txt.mul (Str.ofString " ") ((n : Nat) : Int)).cps.toList = List.replicate n 32 := by
    unfold Txt.mul
    by_cases h : ((n : Nat) : Int) < 1
    · rw [if_pos h]
      have : n = 0 := by omega
      subst this; rfl
    · rw [if_neg h]
      split
      · rename_i h2
        rw [Bool.or_eq_true] at h2
        rcases h2 with h2 | h2
        · have : n = 1 := by have := eq_of_beq h2; omega
          subst this; rfl
        · exact absurd h2 (by decide)
      · rw [Int.toNat_natCast]
        have := fold_rep 32 n #[]
        rw [show (Str.ofString " ").cps = #[32] from rfl]
        simpa using this
  refine str_toList ?_
  show ((Txt.mul (Str.ofString " ") ((n : Nat) : Int)).cps ++ (Str.ofString "x").cps).toList = _
  rw [Array.toList_append, e]
  rfl
theorem blk_zero : ((Txt.slice (blk 0) (some 0) (some 1)).cps.toList == (blk 0).cps.toList && (Txt.item (blk 0) 0).cps.toList == [120]) = true := by decide +kernel
local macro_rules | `(tactic| walk_at "exec While") => `(tactic| (refine wpAny_While (while_unr 1 ?_); dsimp only [Unr]))

theorem strip1_spec {w : World} {mean : ExcName → Option Value} {mg mb : Str → Option Value} {A : Around} {s : Shared} {Q E : Value → Shared → Prop} {m : Nat} {tx : Tok} {ta : Tok} (hA : A.handled = none) (hm : m < 100)
    (X : (K w.params).In s.heap) (T : TopH mean mg mb s.heap) (hd : A.depth + 1 < recursionLimit)
    (h : ∀ (h' : Heap) (tk : Nat) (t' : Tok), Ext s.heap h' → Q (.str (blk m) t') { s with heap := h', toks := tk }) : wpAny (model pw w) A (call (.ref 69) [.str (blk (m + 1)) tx, .int 1 ta]) Q E s := by
  have hlen := blk_len (m + 1)
  have hb := blk_all m
  refine wpAny_call ?_
  refine call_pos_ret (name := Str.ofString "_strip_padding") (params := fArgs (stm 9)) (body := fBody (stm 9)) (scope := fScope (stm 9)) (cd := .ref 68) (doc := .none) (pm := .str (Str.ofString "cpy313.locale") 358) (o := top.o_72 w.params) (by omega) (X _ _ (by k_is)) rfl T.nolimit (codeRec_of X (by k_is)) rfl (by intro y hy; rcases List.mem_cons.mp hy with rfl | hy; rfl; rcases List.mem_singleton.mp hy with rfl; rfl) ?_
  intro h₁ F
  have N : News s.heap s.heap.objs.size h₁ [] := News.nil
  try dsimp only
  k_steps
  all_goals first
    | exact absurd ((show (Txt.item (blk (m + 1)) 0 == Str.ofString " ") = true by rw [hb.2]; rfl)) (by rw [‹(Txt.item (blk (m + 1)) 0 == Str.ofString " ") = false›]; decide)
    | skip
  dsimp only
  rw [show ((blk (m + 1)).length : Int) - 1 + 1 = ((m + 2 : Nat) : Int) by rw [hlen]; omega, show (0 : Int) + 1 = 1 from rfl, hb.1]
  exact h _ _ _ (Fr.keep (by assumption))
theorem strip0_spec {w : World} {mean : ExcName → Option Value} {mg mb : Str → Option Value} {A : Around} {s : Shared} {Q E : Value → Shared → Prop} {tx : Tok} {ta : Tok} (hA : A.handled = none)
    (X : (K w.params).In s.heap) (T : TopH mean mg mb s.heap) (hd : A.depth + 1 < recursionLimit)
    (h : ∀ (h' : Heap) (tk : Nat) (t' : Tok), Ext s.heap h' → Q (.str (blk 0) t') { s with heap := h', toks := tk }) : wpAny (model pw w) A (call (.ref 69) [.str (blk 0) tx, .int 1 ta]) Q E s := by
  have hlen := blk_len 0
  have hb := blk_zero
  refine wpAny_call ?_
  refine call_pos_ret (name := Str.ofString "_strip_padding") (params := fArgs (stm 9)) (body := fBody (stm 9)) (scope := fScope (stm 9)) (cd := .ref 68) (doc := .none) (pm := .str (Str.ofString "cpy313.locale") 358) (o := top.o_72 w.params) (by omega) (X _ _ (by k_is)) rfl T.nolimit (codeRec_of X (by k_is)) rfl (by intro y hy; rcases List.mem_cons.mp hy with rfl | hy; rfl; rcases List.mem_singleton.mp hy with rfl; rfl) ?_
  intro h₁ F
  have N : News s.heap s.heap.objs.size h₁ [] := News.nil
  try dsimp only
  k_steps
  dsimp only
  have e0 : Txt.slice (blk 0) (some 0) (some 1) = blk 0 := by
    rw [Bool.and_eq_true] at hb
    exact str_toList (eq_of_beq hb.1)
  rw [show ((blk 0).length : Int) - 1 + 1 = 1 by rw [hlen]; rfl, e0]
  exact h _ _ _ (Fr.keep (by assumption))
end D32
end
section
open PySem PySem.W PyProof.Rows PySem.Calls
set_option maxRecDepth 100000
set_option maxHeartbeats 4000000
set_option linter.unusedVariables false
namespace D32
local macro_rules | `(tactic| k_room) => `(tactic| ((try simp only [depth_under_make, depth_under_kw, depth_in1, depth_deeper, depth_caller]); omega))
local macro_rules | `(tactic| walk_at "eval Name") => `(tactic| k_dflt (refine' cName_L ?F ?a ?_ ?b ?c ?d; (case F => assumption); (case a => first | assumption | rfl); (case b => rfl); (case c => rfl); (case d => decide); k_whole))
local macro_rules | `(tactic| walk_at "eval Name") => `(tactic| k_dflt (refine' cName_K ?F ?X ?T ?e ?_ ?a ?b ?c ?d; (case F => assumption); (case X => assumption); (case T => assumption); (case e => k_is); (case a => rfl); (case b => rfl); (case c => rfl); (case d => decide); k_whole))
local macro_rules | `(tactic| walk_at "eval Name") => `(tactic| k_dflt (refine' cName_B ?F ?X ?T ?e ?v ?n ?_ ?a ?f ?b ?c ?d; (case F => assumption); (case X => assumption); (case T => assumption); (case e => k_is); (case v => boot_fast); (case n => decide); (case a => rfl); (case f => rfl); (case b => rfl); (case c => rfl); (case d => decide); k_whole))
local macro_rules | `(tactic| walk_at "call ref") => `(tactic| (k_dflt (refine' b1_sign ?X ?T ?d (by assumption) ?_; (case X => k_in); (case T => first | assumption | exact Top.keeps (by assumption) (Fr.keep (by k_asm))); (case d => k_room)); intros; (have kFN := use_ext (by k_asm) (by k_asm) (by assumption)); obtain ⟨kF', kN'⟩ := kFN))
local macro_rules | `(tactic| walk_at "call ref") => `(tactic| (k_dflt (refine' b3_sign ?X ?T ?d (by assumption) (by assumption) ?_; (case X => k_in); (case T => first | assumption | exact Top.keeps (by assumption) (Fr.keep (by k_asm))); (case d => k_room)); intros; (have kFN := use_ext (by k_asm) (by k_asm) (by assumption)); obtain ⟨kF', kN'⟩ := kFN))

def fS (k : Nat) : Str := ⟨#[97 + k]⟩
def decS (y : Str) : Nat := y.cps.getD 0 0 - 97
theorem dec_fS (k : Nat) : decS (fS k) = k := by show 97 + k - 97 = k; omega
theorem rising_fS : ∀ (l : List Nat) (a : Nat), risingS (fS a) (l.map fS) = true → (a :: l).Pairwise (· ≤ ·)
  | [], a, _ => List.pairwise_singleton _ _
  | b :: r, a, h => by
    simp only [List.map_cons, risingS, Bool.and_eq_true, Bool.not_eq_true'] at h
    have ih := rising_fS r b h.2
    have hab : a ≤ b := by
      have h1 := h.1
      rw [ltCps_eq] at h1
      have h2 := of_decide_eq_false h1
      by_cases hc : a ≤ b
      · exact hc
      · exact absurd (List.cons_lt_cons_iff.mpr (.inl (by omega : 97 + b < 97 + a))) h2
    refine List.pairwise_cons.mpr ⟨fun x hx => ?_, ih⟩
    rcases List.mem_cons.mp hx with rfl | hx
    · exact hab
    · exact Nat.le_trans hab ((List.pairwise_cons.mp ih).1 x hx)
theorem ks_of_sorted {ls : List Nat} {ss' : List Str} (p : ss'.Perm (ls.map fS)) (h : sortedS ss' = true) : ∃ ks : List Nat, ss'.reverse = ks.map fS ∧ ks.Perm ls ∧ ks.Pairwise (· ≥ ·) := by
  have e : (ss'.map decS).map fS = ss' := by
    rw [List.map_map]
    conv => rhs; rw [← List.map_id ss']
    refine List.map_congr_left fun y hy => ?_
    obtain ⟨k, _, rfl⟩ := List.mem_map.mp (p.mem_iff.mp hy)
    show fS (decS (fS k)) = fS k
    rw [dec_fS]
  have p2 : (ss'.map decS).Perm ls := by
    have := p.map decS
    rw [List.map_map] at this
    have e2 : (decS ∘ fS) = id := funext dec_fS
    rwa [e2, List.map_id] at this
  refine ⟨(ss'.map decS).reverse, ?_, (List.reverse_perm _).trans p2, ?_⟩
  · rw [List.map_reverse, e]
  · rw [List.pairwise_reverse]
    rw [← e] at h
    cases hm : ss'.map decS with
    | nil => exact .nil
    | cons a l => rw [hm] at h; exact rising_fS l a h
def lets (l : List Nat) : List Nat := (l.filter fun c => !ign c).map letterOf
theorem strs_rev : ∀ {vs : List Value} {ss : List Str}, StrsAre vs ss → StrsAre vs.reverse ss.reverse := fun {vs ss} h => by
  induction h with
  | nil => exact .nil
  | @cons y t vs ys _ ih =>
    rw [List.reverse_cons, List.reverse_cons]
    have snoc : ∀ {as : List Value} {bs : List Str}, StrsAre as bs → StrsAre (as ++ [.str y t]) (bs ++ [y]) := fun h => by
      induction h with
      | nil => exact .cons y t .nil
      | cons z u _ ih2 => exact .cons z u ih2
    exact snoc ih
def pS : Value → Bool
  | .str y _ => !ign (y.cps.getD 0 0)
  | _ => false
theorem letters_of : ∀ {l : List Nat} {vs ys : List Value}, SignsV l vs → Paired (fun v y => ∃ c u t', v = Value.str ⟨#[c]⟩ u ∧ y = Value.str ⟨#[97 + letterOf c]⟩ t') (vs.filter pS) ys → StrsAre ys ((lets l).map fS)
  | [], _, ys, .nil, h => by cases h; exact .nil
  | c :: l, v :: vs, ys, .cons ⟨u, e⟩ r, h => by
    subst e
    cases hi : ign c with
    | true =>
      rw [List.filter_cons_of_neg (by simp [pS, hi])] at h
      have := letters_of r h
      simpa [lets, hi] using this
    | false =>
      rw [List.filter_cons_of_pos (by simp [pS, hi])] at h
      cases h with
      | cons h1 h2 =>
        obtain ⟨c', u', t', e1, rfl⟩ := h1
        have ec : c = c' := by injection e1 with e1 _; injection e1 with e1; simpa using e1
        subst ec
        have := letters_of r h2
        simpa [lets, hi, fS] using StrsAre.cons (fS (letterOf c)) t' this
theorem ints_of : ∀ {ks : List Nat} {vs ys : List Value}, StrsAre vs (ks.map fS) → Paired (fun v y => ∃ (k : Nat) (u t' : Tok), v = Value.str (fS k) u ∧ y = Value.int k t') vs ys → IntsAre ys (ks.map fun (k : Nat) => (k : Int))
  | [], vs, ys, h, g => by
    cases h; cases g; exact .nil
  | k :: ks, _, _, .cons _ t r, g => by
    cases g with
    | cons h1 h2 =>
    obtain ⟨k', u', t', e1, rfl⟩ := h1
    have ek : k = k' := by
      injection e1 with e1 _
      have := congrArg decS e1
      rwa [dec_fS, dec_fS] at this
    subst ek
    exact .cons _ _ (ints_of r h2)
theorem strs_mem : ∀ {ks : List Nat} {vs : List Value}, StrsAre vs (ks.map fS) → ∀ v ∈ vs, ∃ k u, v = .str (fS k) u
  | [], _, h, v, hv => by cases h; cases hv
  | k :: ks, _, .cons _ t r, v, hv => by
    rcases List.mem_cons.mp hv with rfl | hv
    · exact ⟨k, t, rfl⟩
    · exact strs_mem r v hv
theorem keeps_of {s : Shared} {h' : Heap} {tk : Nat} (e : Ext s.heap h') : Keeps s { s with heap := h', toks := tk } := ⟨h', tk, rfl, e⟩
theorem lets_len (l : List Nat) : (lets l).length ≤ l.length := by unfold lets; rw [List.length_map]; exact List.length_filter_le _ _
theorem places_spec {w : World} {mean : ExcName → Option Value} {mg mb : Str → Option Value} {A : Around} {s : Shared} {Q E : Value → Shared → Prop} {y : Str} {ty : Tok} (hA : A.handled = none)
    (X : (K w.params).In s.heap) (T : TopH mean mg mb s.heap) (hd : A.depth + 3 < recursionLimit) (hy : ∀ c ∈ y.cps.toList, c ∈ S27) (hn : y.cps.size < 64)
    (h : ∀ (h' : Heap) (tk : Nat) D items (ks : List Nat), Ext s.heap h' → s.heap.get? D = none → h'.PlainList D items → IntsAre items.toList (ks.map fun (k : Nat) => (k : Int)) → ks.Perm (lets y.cps.toList) → ks.Pairwise (· ≥ ·) → Q (.ref D) { s with heap := h', toks := tk }) : wpAny (model pw w) A (call (.ref 173) [.str y ty]) Q E s := by
  refine wpAny_call ?_
  refine call_pos_ret (name := Str.ofString "_law_places") (params := fArgs (stm 22)) (body := fBody (stm 22)) (scope := fScope (stm 22)) (cd := .ref 172) (doc := .none) (pm := .str (Str.ofString "law_to0032_01") 2438) (o := x173 w.params) (by omega) (X _ _ (by k_is)) rfl T.nolimit (codeRec_of X (by k_is)) rfl (by intro y hy; rcases List.mem_singleton.mp hy with rfl; rfl) ?_
  intro h₁ F
  have N : News s.heap s.heap.objs.size h₁ [] := News.nil
  try dsimp only
  have X' := X.keeps F.keep
  have T' := T.keeps F.keep
  walk1
  refine (lcA F pS (fun v y => ∃ c u t', v = .str ⟨#[c]⟩ u ∧ y = .str ⟨#[97 + letterOf c]⟩ t') ?_)
  walk1
  refine src_str1 (by exact hA) (by rw [sizeLine_eq]; omega) (fun h e => F.ns.keeps e) (frLive F) ?_ ?_ ?_
  · intro C v s₃ m₃ E' hv F3 hm
    obtain ⟨c, hc, u, rfl⟩ := hv
    have hc27 := hy c hc
    have N3 : News h₁ C s₃.heap [] := News.nil
    k_steps
    all_goals exact keeps_of (by assumption)
  · intro C v s₃ m₃ E' hv hp F3 hm
    obtain ⟨c, hc, u, rfl⟩ := hv
    have hc27 := hy c hc
    have N3 : News h₁ C s₃.heap [] := News.nil
    have hi : ign c = false := by simpa [pS] using hp
    k_steps
    all_goals exact keeps_of (by assumption)
  · intro D h' tk ys vs e hX hD hpl hvs hG
    obtain ⟨F2, N2⟩ := use_extL F N hX e
    have hS := letters_of hvs hG
    have e1 : Ext s.heap h' := F2.keep
    have X2 := X.keeps e1
    have T2 := T.keeps e1
    have hlen : ys.toList.length < 64 := by
      have h1 := hS.length
      rw [List.length_map] at h1
      have hll : (lets y.cps.toList).length ≤ y.cps.size := Nat.le_trans (lets_len _) (Nat.le_of_eq Array.length_toList)
      omega
    refine wpAny_execs_cons ?_
    refine wpAny_Return_some ?_
    refine lcE (fun _ => true) (fun v y => ∃ (k : Nat) (u t' : Tok), v = Value.str (fS k) u ∧ y = Value.int k t') ?_
    k_steps
    show wpAny _ _ (call (.builtin "sorted") [.ref D] [(Str.ofString "key", .ref 62), (Str.ofString "reverse", .bool true)]) _ _ _
    refine srt_sorted (vs := ys.toList) (ss := (lets y.cps.toList).map fS) X2 T2 (by simp only [depth_deeper]; omega) hS hlen (by rw [Array.toArray_toList]; exact hpl.isList) (ksk_s2 _ _ _) (fun _ => ksk_l2 _ _ _) (fun x => ksk_t2 62 x true) ?_
    intro D2 h2 tk2 out ss' e2 hD2 hpl2 hout hperm hsort
    obtain ⟨ks, e3, hks, hpw⟩ := ks_of_sorted hperm hsort
    have hout2 := strs_rev hout
    rw [List.reverse_reverse, e3] at hout2
    obtain ⟨F4, N4⟩ := use_ext F2 N2 e2
    have X3 : (K w.params).In h2 := X2.keeps e2
    have T3 : TopH mean mg mb h2 := T2.keeps e2
    refine src_list0 (items := out.toArray) (by exact hA) ?_ hpl2.isList (fun _ _ => trivial) (fun _ hb => nomatch hb) ?_ ?_
    · have h1 := hout2.length
      rw [List.length_map, hks.length_eq] at h1
      have hll : (lets y.cps.toList).length ≤ y.cps.size := Nat.le_trans (lets_len _) (Nat.le_of_eq Array.length_toList)
      rw [List.size_toArray, sizeLine_eq]; omega
    · intro C v s₃ m₃ E' hv F3 hm
      have hv2 : ∃ k u, v = .str (fS k) u := by
        exact strs_mem hout2 v (by simpa using hv)
      obtain ⟨k, u, rfl⟩ := hv2
      have N3 : News h2 C s₃.heap [] := News.nil
      unfold fS at hm
      k_steps
      rotate_left 2
      · exact keeps_of fun _ _ e => e
      · rw [show ((97 + k : Nat) : Int) - 97 = (k : Int) by omega]
    · intro D3 h3 tk3 items e4 _ hD3 hpl3 hG3
      exact h h3 tk3 D3 items ks (fun b o x => e4 b o (by simp) (e2 b o (e1 b o x))) (by
        cases hq : s.heap.get? D3 with
        | none => rfl
        | some o => rw [e2 _ _ (e1 _ _ hq)] at hD3; cases hD3) hpl3 (ints_of hout2 (by simpa using hG3)) hks hpw
end D32
end
section
open PySem PySem.W PyProof.Rows PySem.Calls
set_option maxRecDepth 100000
set_option maxHeartbeats 4000000
set_option linter.unusedVariables false
namespace D32
local macro_rules | `(tactic| k_room) => `(tactic| ((try simp only [depth_under_make, depth_under_kw, depth_in1, depth_deeper, depth_caller]); omega))
local macro_rules | `(tactic| walk_at "eval Name") => `(tactic| k_dflt (refine' cName_L ?F ?a ?_ ?b ?c ?d; (case F => assumption); (case a => first | assumption | rfl); (case b => rfl); (case c => rfl); (case d => decide); k_whole))
local macro_rules | `(tactic| walk_at "eval Name") => `(tactic| k_dflt (refine' cName_K ?F ?X ?T ?e ?_ ?a ?b ?c ?d; (case F => assumption); (case X => assumption); (case T => assumption); (case e => k_is); (case a => rfl); (case b => rfl); (case c => rfl); (case d => decide); k_whole))
local macro_rules | `(tactic| walk_at "eval Name") => `(tactic| k_dflt (refine' cName_B ?F ?X ?T ?e ?v ?n ?_ ?a ?f ?b ?c ?d; (case F => assumption); (case X => assumption); (case T => assumption); (case e => k_is); (case v => boot_fast); (case n => decide); (case a => rfl); (case f => rfl); (case b => rfl); (case c => rfl); (case d => decide); k_whole))
local macro_rules | `(tactic| walk_at "eval Name") => `(tactic| k_dflt (refine' ld ?k1 ?k2 ?_; (case k1 => k_asm); (case k2 => ((try dsimp only); (repeat (refine Eq.trans (if_neg ?hn) ?_; (case hn => decide))); assumption)); k_whole))
local macro_rules | `(tactic| walk_at "loadName") => `(tactic| k_dflt (refine' ldn ?k1 ?k2 ?_; (case k1 => k_asm); (case k2 => ((try dsimp only); (repeat (refine Eq.trans (if_neg ?hn) ?_; (case hn => decide))); assumption)); k_whole))
local macro_rules | `(tactic| walk_at "call ref") => `(tactic| (k_dflt (refine' add_spec ?X ?T ?d  ?_; (case X => k_in); (case T => first | assumption | exact Top.keeps (by assumption) (Fr.keep (by k_asm))); (case d => k_room)); intros; (have kFN := use_ext (by k_asm) (by k_asm) (by assumption)); obtain ⟨kF', kN'⟩ := kFN))
local macro_rules | `(tactic| walk_at "call ref") => `(tactic| (k_dflt (refine' c11_spec ?X ?T ?d  ?_; (case X => k_in); (case T => first | assumption | exact Top.keeps (by assumption) (Fr.keep (by k_asm))); (case d => k_room)); intros; (have kFN := use_ext (by k_asm) (by k_asm) (by assumption)); obtain ⟨kF', kN'⟩ := kFN))
local macro_rules | `(tactic| walk_at "call ref") => `(tactic| (k_dflt (refine' strip0_spec ?A ?X ?T ?d  ?_; (case A => assumption); (case X => k_in); (case T => first | assumption | exact Top.keeps (by assumption) (Fr.keep (by k_asm))); (case d => k_room)); intros; (have kFN := use_ext (by k_asm) (by k_asm) (by assumption)); obtain ⟨kF', kN'⟩ := kFN))
local macro_rules | `(tactic| walk_at "call ref") => `(tactic| (k_dflt (refine' strip1_spec ?A ?M ?X ?T ?d  ?_; (case A => assumption); (case M => omega); (case X => k_in); (case T => first | assumption | exact Top.keeps (by assumption) (Fr.keep (by k_asm))); (case d => k_room)); intros; (have kFN := use_ext (by k_asm) (by k_asm) (by assumption)); obtain ⟨kF', kN'⟩ := kFN))
local macro_rules | `(tactic| walk_at "exec For Name Subscript cons nil") => `(tactic| refine halt ?_)
local macro_rules | `(tactic| walk_at "exec For Name Name cons nil") => `(tactic| refine halt ?_)
local macro_rules | `(tactic| walk_at "exec While") => `(tactic| refine halt ?_)
local macro_rules | `(tactic| walk_at "exec While BoolOp") => `(tactic| refine halt ?_)
local macro_rules | `(tactic| walk_at "pyIter ref") => `(tactic| refine halt ?_)
local macro_rules | `(tactic| walk_at "pyIter str") => `(tactic| refine halt ?_)
local macro_rules | `(tactic| walk_at "eval ListComp") => `(tactic| refine halt ?_)
local macro_rules | `(tactic| walk_at "exec Assign cons ListComp") => `(tactic| refine halt ?_)
def layStep (rs : List Nat) (o : Nat) : List Nat := (rs.length + o) :: (rs.map (· - 1)).filter (fun r => decide (0 < r))
def laid (os : List Nat) : List Nat := os.reverse.foldl layStep []
def JL (os : List Nat) (i : Nat) (m : Str → Option Value) (news : List (Addr × Obj)) : Prop :=
  ∃ Dr ys c rs, m (Str.ofString "rows") = some (.ref Dr) ∧ news = [(Dr, W.listOf ys c)] ∧ StrsAre ys.toList (rs.map blk) ∧ rs = (os.reverse.take i).foldl layStep [] ∧ rs.length ≤ i ∧ ∀ r ∈ rs, r ≤ 64
theorem nilOf {h₀ h : Heap} {L : Addr} {m : Str → Option Value} (F : Fr h₀ L h m) : News h₀ L h [] := News.nil
theorem news_pick {h₀ h : Heap} {L : Addr} {own last : List (Addr × Obj)} {a b c d : Addr × Obj} (N : News h₀ L h (a :: b :: c :: d :: (own ++ last))) : News h₀ L h (own ++ [a]) := fun p hp => by
  rcases List.mem_append.mp hp with hp | hp
  · exact N p (List.mem_cons_of_mem _ (List.mem_cons_of_mem _ (List.mem_cons_of_mem _ (List.mem_cons_of_mem _ (List.mem_append_left _ hp)))))
  · rw [List.mem_singleton.mp hp]; exact N a (List.Mem.head _)
theorem blk_mem : ∀ {rs : List Nat} {vs : List Value}, StrsAre vs (rs.map blk) → ∀ v ∈ vs, ∃ r ∈ rs, ∃ u, v = .str (blk r) u
  | [], _, h, v, hv => by cases h; cases hv
  | k :: ks, _, .cons _ t r, v, hv => by
    rcases List.mem_cons.mp hv with rfl | hv
    · exact ⟨k, .head _, t, rfl⟩
    · obtain ⟨a, b, c⟩ := blk_mem r v hv
      exact ⟨a, .tail _ b, c⟩
theorem blk_inj {a b : Nat} (h : blk a = blk b) : a = b := by
  have := congrArg Str.length h
  rw [blk_len, blk_len] at this
  omega
theorem bared_of : ∀ {rs : List Nat} {vs ys : List Value}, StrsAre vs (rs.map blk) → Paired (fun v y => ∃ (r : Nat) (t t' : Tok), v = Value.str (blk r) t ∧ y = Value.str (blk (r - 1)) t') vs ys → StrsAre ys ((rs.map (· - 1)).map blk)
  | [], vs, ys, h, g => by cases h; cases g; exact .nil
  | k :: ks, _, _, .cons _ t r, g => by
    cases g with
    | cons h1 h2 =>
    obtain ⟨k', u', t', e1, rfl⟩ := h1
    have ek : k = k' := by injection e1 with e1 _; exact blk_inj e1
    subst ek
    exact .cons _ _ (bared_of r h2)
def pB : Value → Bool
  | .str y _ => Txt.item y 0 == Str.ofString " "
  | _ => false
theorem kept_of : ∀ {rs : List Nat} {vs ys : List Value}, StrsAre vs (rs.map blk) → Paired (fun v y => y = v) (vs.filter pB) ys → StrsAre ys ((rs.filter (fun r => decide (0 < r))).map blk)
  | [], vs, ys, h, g => by cases h; cases g; exact .nil
  | k :: ks, _, ys, .cons _ t r, g => by
    have hp : pB (.str (blk k) t) = decide (0 < k) := blk_item k
    cases hk : decide (0 < k) with
    | false =>
      rw [List.filter_cons_of_neg (by rw [hp, hk]; decide)] at g
      rw [show (k :: ks).filter (fun r => decide (0 < r)) = ks.filter (fun r => decide (0 < r)) from by simp only [List.filter_cons, hk, Bool.false_eq_true, if_false]]
      exact kept_of r g
    | true =>
      rw [List.filter_cons_of_pos (by rw [hp, hk])] at g
      rw [show (k :: ks).filter (fun r => decide (0 < r)) = k :: ks.filter (fun r => decide (0 < r)) from by simp only [List.filter_cons, hk, if_true]]
      cases g with
      | cons h1 h2 =>
        subst h1
        exact .cons _ _ (kept_of r h2)
theorem sizes_of : ∀ {rs : List Nat} {vs ys : List Value}, StrsAre vs (rs.map blk) → Paired (fun v y => ∃ (r : Nat) (t t' : Tok), v = Value.str (blk r) t ∧ y = Value.int (r : Int) t') vs ys → IntsAre ys (rs.map fun (r : Nat) => (r : Int))
  | [], vs, ys, h, g => by cases h; cases g; exact .nil
  | k :: ks, _, _, .cons _ t r, g => by
    cases g with
    | cons h1 h2 =>
    obtain ⟨k', u', t', e1, rfl⟩ := h1
    have ek : k = k' := by injection e1 with e1 _; exact blk_inj e1
    subst ek
    exact .cons _ _ (sizes_of r h2)

theorem laid_spec {w : World} {mean : ExcName → Option Value} {mg mb : Str → Option Value} {A : Around} {s : Shared} {Q E : Value → Shared → Prop} {l : Addr} {items : Array Value} {os : List Nat} (hA : A.handled = none)
    (X : (K w.params).In s.heap) (T : TopH mean mg mb s.heap) (hd : A.depth + 3 < recursionLimit) (hl : s.heap.IsList l items) (hi : IntsAre items.toList (os.map fun (k : Nat) => (k : Int))) (hn : os.length ≤ 24) (hs : ∀ o ∈ os, o ≤ 40)
    (h : ∀ (h' : Heap) (tk : Nat) D items', Ext s.heap h' → s.heap.get? D = none → h'.PlainList D items' → IntsAre items'.toList ((laid os).map fun (k : Nat) => (k : Int)) → Q (.ref D) { s with heap := h', toks := tk }) : wpAny (model pw w) A (call (.ref 178) [.ref l]) Q E s := by
  refine wpAny_call ?_
  refine call_pos_ret (name := Str.ofString "_law_laid") (params := fArgs (stm 23)) (body := fBody (stm 23)) (scope := fScope (stm 23)) (cd := .ref 177) (doc := .none) (pm := .str (Str.ofString "law_to0032_01") 2438) (o := x178 w.params) (by omega) (X _ _ (by k_is)) rfl T.nolimit (codeRec_of X (by k_is)) rfl (by intro y hy; rcases List.mem_singleton.mp hy with rfl; rfl) ?_
  intro h₁ F
  have N : News s.heap s.heap.objs.size h₁ [] := News.nil
  try dsimp only
  have hl1 : h₁.IsList l items := hl.at fun o e => F.keep _ _ e
  k_steps
  unfold Halt
  refine wpAny_For ?_
  k_steps
  unfold Halt
  rename_i lR _ _ _ D ws h2 F2 N2 hI2 _ _
  have hD : h2.IsList D ws.toArray := ⟨_, N2.get (List.Mem.head _), rfl, 0, rfl⟩
  have N3 : News s.heap s.heap.objs.size h2 [(lR, W.listOf #[] 0)] := fun p hp => N2 p (List.mem_cons_of_mem _ hp)
  refine for_list (items := ws.toArray) (JL os) (by exact hA) F2 N3 hD ⟨lR, #[], 0, [], rfl, rfl, .nil, rfl, Nat.le_refl _, fun _ h => nomatch h⟩ ?_ ?_
  · intro i v m₁ news₁ own s₁ hv hJ F4 N4 hlive
    obtain ⟨Dr, ys, c, rs, hm, rfl, hS, hrs, hlen, hbd⟩ := hJ
    obtain ⟨oI, hI1, hI3⟩ := hlive
    obtain ⟨k, t, rfl, hk⟩ : ∃ (k : Nat) (t : Tok), v = .int (k : Int) t ∧ os.reverse[i]? = some k := by
      obtain ⟨n, t, e2, e1⟩ := IntsAre.at hI2 i v (by simpa using hv)
      rw [← List.map_reverse, List.getElem?_map] at e1
      obtain ⟨k, e3, e4⟩ := Option.map_eq_some_iff.mp e1
      exact ⟨k, t, by rw [e2, ← e4], e3⟩
    have hi20 : i < 24 := by
      have := (List.getElem?_eq_some_iff.mp hk).1
      simp at this; omega
    have hk40 : k ≤ 40 := hs k (by have := List.mem_of_getElem? hk; simpa using this)
    have hys : ys.size = rs.length := by have := hS.length; simpa using this
    have X4 := X.keeps F4.keep
    have T4 := T.keeps F4.keep
    k_steps
    unfold Halt
    rename_i F5 N5
    have X5 := X.keeps F5.keep
    have T5 := T.keeps F5.keep
    refine lcA F5 (fun _ => true) (fun v y => ∃ (r : Nat) (t t' : Tok), v = Value.str (blk r) t ∧ y = Value.str (blk (r - 1)) t') ?_
    k_steps
    unfold Halt
    refine src_list0 (items := ys) (by exact hA) (by rw [sizeLine_eq]; omega) (hl := ⟨_, N5.get (List.mem_append_right _ (List.Mem.head _)), rfl, c, rfl⟩) (fun h e => F5.ns.keeps e) (frLive F5) ?_ ?_
    · intro C v s₃ m₃ E' hv F6 hm6
      obtain ⟨r, hr, u, rfl⟩ := blk_mem hS v hv
      have hr60 := hbd r hr
      have N6 := nilOf F6
      cases r with
      | zero =>
        k_steps
        all_goals (try k_data)
        all_goals exact keeps_of (by assumption)
      | succ r =>
        k_steps
        all_goals (try k_data)
        all_goals exact keeps_of (by assumption)
    · intro D1 h6 tk6 ys1 e6 hX6 hD1 hpl1 hG1
      obtain ⟨F6, N6⟩ := use_extL F5 N5 hX6 e6
      have hS1 := bared_of hS hG1
      obtain ⟨c1, hpl1⟩ := hpl1
      have N7 := news_cons F5 N6 hD1 hpl1
      have X6 := X.keeps F6.keep
      have T6 := T.keeps F6.keep
      dsimp only
      k_steps
      unfold Halt
      rename_i lA h7 F7 N8 _
      have X7 := X.keeps F7.keep
      have T7 := T.keeps F7.keep
      refine lcE pB (fun v y => y = v) ?_
      k_steps
      unfold Halt
      have hys1 : ys1.size = rs.length := by have := hS1.length; simpa using this
      refine src_list1 (items := ys1) (by exact hA) (by rw [sizeLine_eq]; omega) (hl := ⟨_, N8.get (List.mem_cons_of_mem _ (List.Mem.head _)), rfl, c1, rfl⟩) (fun _ _ => trivial) (fun _ hb => nomatch hb) ?_ ?_ ?_
      · intro C v s₃ m₃ E' hv F9 hm9
        obtain ⟨r, hr, u, rfl⟩ := blk_mem hS1 v hv
        have N9 := nilOf F9
        have hlr := blk_len r
        k_steps
        all_goals (try k_data)
        all_goals exact keeps_of (by assumption)
      · intro C v s₃ m₃ E' hv hp9 F9 hm9
        obtain ⟨r, hr, u, rfl⟩ := blk_mem hS1 v hv
        have N9 := nilOf F9
        k_steps
        all_goals (try k_data)
        all_goals exact keeps_of fun _ _ e => e
      · intro D2 h8 tk8 ys2 e8 _ hD2 hpl2 hG2
        have e8' : Ext h7 h8 := fun b o x => e8 b o (by simp) x
        obtain ⟨F8, N9⟩ := use_ext F7 N8 e8'
        have hS2 := kept_of hS1 hG2
        obtain ⟨c2, hpl2⟩ := hpl2
        have N10 := news_cons F7 N9 hD2 hpl2
        have X8 := X.keeps F8.keep
        have T8 := T.keeps F8.keep
        dsimp only
        have hys2 : ys2.size ≤ rs.length := by
          have h1 := hS2.length
          have h2 := List.length_filter_le (fun r => decide (0 < r)) (rs.map (· - 1))
          rw [List.length_map] at h1 h2
          have h3 : ys2.toList.length = ys2.size := Array.length_toList
          omega
        refine add_lists (vs := [_]) (ws := ys2.toList) F8 N10 ⟨_, N10.get (List.mem_cons_of_mem _ (List.Mem.head _)), rfl, 0, rfl⟩ ⟨_, N10.get (List.Mem.head _), rfl, c2, by rw [Array.toArray_toList]⟩ ?_ (by
          have h3 : ys2.toList.length = ys2.size := Array.length_toList
          rw [h3, sizeLine_eq]
          show 1 + ys2.size ≤ _
          omega)
        intro h9 F9 N11
        have X9 := X.keeps F9.keep
        have T9 := T.keeps F9.keep
        dsimp only
        k_steps
        rename_i h10 F10 N12
        have hah : Txt.mul (Str.ofString " ") ((rs.length : Int) + (k : Int)) ++ Str.ofString "x" = blk (rs.length + k) := by
          rw [← blk_make, Int.natCast_add]
        have N13 := news_pick N12
        refine LoopStepU.intro (news₂ := [_]) F10 N13 ?_ ?_
        · intro p hp
          rw [List.mem_singleton.mp hp, List.mem_singleton]
          exact News.twoPlaces N12 (p := (h8.objs.size, _)) (q := (h2.objs.size, oI)) (List.Mem.head _) (List.mem_cons_of_mem _ (List.mem_cons_of_mem _ (List.mem_cons_of_mem _ (List.mem_cons_of_mem _ (List.mem_append_left _ hI1))))) (by rintro rfl; exact hI3 rfl)
        · refine ⟨h8.objs.size, _, 0, layStep rs k, rfl, rfl, ?_, ?_, ?_, ?_⟩
          · rw [List.toList_toArray, hah]
            exact .cons _ _ hS2
          · rw [List.take_add_one, hk, List.foldl_append, ← hrs]
            rfl
          · have h1 := List.length_filter_le (fun r => decide (0 < r)) (rs.map (· - 1))
            rw [List.length_map] at h1
            show (_ :: _ : List Nat).length ≤ _
            rw [List.length_cons]
            omega
          · intro r hr
            rcases List.mem_cons.mp hr with rfl | hr
            · omega
            · obtain ⟨a, ha, rfl⟩ := List.mem_map.mp (List.mem_filter.mp hr).1
              have := hbd a ha
              omega
  · intro h' tk' m' news' F5 N5 hJ
    obtain ⟨Dr, ys, c, rs, hm, rfl, hS, hrs, hlen, hbd⟩ := hJ
    dsimp only
    have X5 := X.keeps F5.keep
    have T5 := T.keeps F5.keep
    have hn2 : ws.toArray.size ≤ 24 := by
      have := hI2.length
      simp at this
      simp; omega
    have hys : ys.size = rs.length := by have := hS.length; simpa using this
    k_steps
    unfold Halt
    refine lcE (fun _ => true) (fun v y => ∃ (r : Nat) (t t' : Tok), v = Value.str (blk r) t ∧ y = Value.int (r : Int) t') ?_
    k_steps
    unfold Halt
    refine src_list0 (items := ys) (by exact hA) (by rw [sizeLine_eq]; omega) (hl := ⟨_, N5.get (List.Mem.head _), rfl, c, rfl⟩) (fun _ _ => trivial) (fun _ hb => nomatch hb) ?_ ?_
    · intro C v s₃ m₃ E' hv F6 hm6
      obtain ⟨r, hr, u, rfl⟩ := blk_mem hS v hv
      have hr60 := hbd r hr
      have hlr := blk_len r
      have N6 := nilOf F6
      k_steps
      all_goals (try (with_reducible show Keeps _ _; exact keeps_of fun _ _ e => e))
      all_goals (try (with_reducible show Value.int _ _ = Value.int _ _; rw [show ((blk r).length : Int) - 1 = (r : Int) by rw [hlr]; omega]))
      all_goals (try k_data)
    · intro D9 h9 tk9 items9 e9 _ hD9 hpl9 hG9
      have e10 : Ext h' h9 := fun b o x => e9 b o (by simp) x
      have hfin := sizes_of hS hG9
      refine h h9 tk9 D9 items9 (fun b o x => e10 b o (F5.keep b o x)) ?_ hpl9 ?_
      · cases hq : s.heap.get? D9 with
        | none => rfl
        | some o => rw [F5.keep _ _ hq] at hD9; cases hD9
      · have hsz : ws.toArray.size = os.reverse.length := by
          have := hI2.length
          simpa using this
        rw [hrs, hsz, List.take_length] at hfin
        exact hfin
end D32
end
section
open PySem PySem.W PyProof.Rows PySem.Calls
set_option maxRecDepth 100000
set_option maxHeartbeats 4000000
set_option linter.unusedVariables false
namespace D32
local macro_rules | `(tactic| k_room) => `(tactic| ((try simp only [depth_under_make, depth_under_kw, depth_in1, depth_deeper, depth_caller]); omega))
local macro_rules | `(tactic| walk_at "eval Name") => `(tactic| k_dflt (refine' cName_L ?F ?a ?_ ?b ?c ?d; (case F => assumption); (case a => first | assumption | rfl); (case b => rfl); (case c => rfl); (case d => decide); k_whole))
local macro_rules | `(tactic| walk_at "eval Name") => `(tactic| k_dflt (refine' cName_K ?F ?X ?T ?e ?_ ?a ?b ?c ?d; (case F => assumption); (case X => assumption); (case T => assumption); (case e => k_is); (case a => rfl); (case b => rfl); (case c => rfl); (case d => decide); k_whole))
local macro_rules | `(tactic| walk_at "eval Name") => `(tactic| k_dflt (refine' cName_B ?F ?X ?T ?e ?v ?n ?_ ?a ?f ?b ?c ?d; (case F => assumption); (case X => assumption); (case T => assumption); (case e => k_is); (case v => boot_fast); (case n => decide); (case a => rfl); (case f => rfl); (case b => rfl); (case c => rfl); (case d => decide); k_whole))
local macro_rules | `(tactic| walk_at "eval Name") => `(tactic| k_dflt (refine' ld ?k1 ?k2 ?_; (case k1 => k_asm); (case k2 => ((try dsimp only); (repeat (refine Eq.trans (if_neg ?hn) ?_; (case hn => decide))); assumption)); k_whole))
local macro_rules | `(tactic| walk_at "loadName") => `(tactic| k_dflt (refine' ldn ?k1 ?k2 ?_; (case k1 => k_asm); (case k2 => ((try dsimp only); (repeat (refine Eq.trans (if_neg ?hn) ?_; (case hn => decide))); assumption)); k_whole))
local macro_rules | `(tactic| walk_at "exec For Name Subscript cons nil") => `(tactic| refine halt ?_)
local macro_rules | `(tactic| walk_at "exec For Name Name cons nil") => `(tactic| refine halt ?_)
local macro_rules | `(tactic| walk_at "exec While") => `(tactic| refine halt ?_)
local macro_rules | `(tactic| walk_at "exec While BoolOp") => `(tactic| refine halt ?_)
local macro_rules | `(tactic| walk_at "pyIter ref") => `(tactic| refine halt ?_)
local macro_rules | `(tactic| walk_at "pyIter str") => `(tactic| refine halt ?_)
local macro_rules | `(tactic| walk_at "eval ListComp") => `(tactic| refine halt ?_)
local macro_rules | `(tactic| walk_at "exec Assign cons ListComp") => `(tactic| refine halt ?_)
def preL : Nat → List Nat
  | 0 => []
  | 1 => [173]
  | 2 => [8205]
  | _ => [65039]
def baseN : Nat → Nat
  | 0 => 97
  | 1 => 65
  | 2 => 119808
  | _ => 120432
def signsOf (c : Nat) : List Nat := preL (c / 24 % 4) ++ [baseN (c / 6 % 4) + c % 6]
def typedL (cells : List Nat) : List Nat := cells.flatMap signsOf
theorem sidx {j n : Nat} (h : j < n) : seqIndex? ((j : Nat) : Int) n = some j := by
  unfold seqIndex?
  simp
  omega
def pk {α : Type} (a b c d : α) : Nat → α
  | 0 => a
  | 1 => b
  | 2 => c
  | _ => d
theorem menu_str {x0 x1 x2 x3 : Str} {t0 t1 t2 t3 : Tok} : ∀ {j : Nat}, j < 4 → [Value.str x0 t0, Value.str x1 t1, Value.str x2 t2, Value.str x3 t3][j]? = some (.str (pk x0 x1 x2 x3 j) (pk t0 t1 t2 t3 j))
  | 0, _ => rfl
  | 1, _ => rfl
  | 2, _ => rfl
  | 3, _ => rfl
  | n + 4, h => absurd h (by omega)
theorem menu_int {t0 t1 t2 t3 : Tok} : ∀ {j : Nat}, j < 4 → [Value.int 97 t0, Value.int 65 t1, Value.int 119808 t2, Value.int 120432 t3][j]? = some (.int ((baseN j : Nat) : Int) (pk t0 t1 t2 t3 j))
  | 0, _ => rfl
  | 1, _ => rfl
  | 2, _ => rfl
  | 3, _ => rfl
  | n + 4, h => absurd h (by omega)
theorem pre_pk (j : Nat) (hj : j < 4) : (pk (Str.ofString "") (Str.ofString "­") (Str.ofString "‍") (Str.ofString "️") j).cps.toList = preL j ∧ (pk (Str.ofString "") (Str.ofString "­") (Str.ofString "‍") (Str.ofString "️") j).length ≤ 1 := by
  match j, hj with
  | 0, _ => decide
  | 1, _ => decide
  | 2, _ => decide
  | 3, _ => decide
theorem base_getD : ∀ {j : Nat}, j < 4 → ([97, 65, 119808, 120432] : List Int).getD j 0 = ((baseN j : Nat) : Int)
  | 0, _ => rfl
  | 1, _ => rfl
  | 2, _ => rfl
  | 3, _ => rfl
  | n + 4, h => absurd h (by omega)
theorem baseN_le (j : Nat) : baseN j ≤ 120432 := by unfold baseN; split <;> omega
def JT (cells : List Nat) (i : Nat) (m : Str → Option Value) (news : List (Addr × Obj)) : Prop :=
  news = [] ∧ ∃ y t, m (Str.ofString "typed") = some (.str y t) ∧ y.cps.toList = typedL (cells.take i) ∧ y.length ≤ 2 * i

theorem typed_spec {w : World} {mean : ExcName → Option Value} {mg mb : Str → Option Value} {A : Around} {s : Shared} {Q E : Value → Shared → Prop} {l : Addr} {items : Array Value} {cells : List Nat} (hA : A.handled = none)
    (X : (K w.params).In s.heap) (T : TopH mean mg mb s.heap) (hd : A.depth + 3 < recursionLimit) (hl : s.heap.IsList l items) (hi : IntsAre items.toList (cells.map fun (k : Nat) => (k : Int))) (hn : cells.length ≤ 7) (hs : ∀ o ∈ cells, o < 1000000)
    (h : ∀ (h' : Heap) (tk : Nat) y (t' : Tok), Ext s.heap h' → y.cps.toList = typedL cells → Q (.str y t') { s with heap := h', toks := tk }) : wpAny (model pw w) A (call (.ref 168) [.ref l]) Q E s := by
  refine wpAny_call ?_
  refine call_pos_ret (name := Str.ofString "_law_typed") (params := fArgs (stm 21)) (body := fBody (stm 21)) (scope := fScope (stm 21)) (cd := .ref 167) (doc := .none) (pm := .str (Str.ofString "law_to0032_01") 2438) (o := x168 w.params) (by omega) (X _ _ (by k_is)) rfl T.nolimit (codeRec_of X (by k_is)) rfl (by intro y hy; rcases List.mem_singleton.mp hy with rfl; rfl) ?_
  intro h₁ F
  have N : News s.heap s.heap.objs.size h₁ [] := News.nil
  try dsimp only
  have hl1 : h₁.IsList l items := hl.at fun o e => F.keep _ _ e
  k_steps
  unfold Halt
  refine wpAny_For ?_
  k_steps
  unfold Halt
  rename_i h2 F2 N2
  have hl2 : h2.IsList l items := hl.at fun o e => F2.keep _ _ e
  refine for_list (items := items) (JT cells) (by exact hA) F2 N2 hl2 ⟨rfl, _, _, rfl, rfl, Nat.zero_le _⟩ ?_ ?_
  · intro i v m₁ news₁ own s₁ hv hJ F4 N4 hlive
    obtain ⟨rfl, y, ty, hm, hy, hyl⟩ := hJ
    obtain ⟨c, t, rfl, hc⟩ : ∃ (c : Nat) (t : Tok), v = .int (c : Int) t ∧ cells[i]? = some c := by
      obtain ⟨n, t, e2, e1⟩ := IntsAre.at hi i v (by simpa using hv)
      rw [List.getElem?_map] at e1
      obtain ⟨k, e3, e4⟩ := Option.map_eq_some_iff.mp e1
      exact ⟨k, t, by rw [e2, ← e4], e3⟩
    have hc6 : c < 1000000 := hs c (List.mem_of_getElem? hc)
    have hi7 : i < 7 := by have := (List.getElem?_eq_some_iff.mp hc).1; omega
    have X4 := X.keeps F4.keep
    have T4 := T.keeps F4.keep
    k_steps
    rename_i D1 h5 F5 N5 _
    have X5 := X.keeps F5.keep
    have T5 := T.keeps F5.keep
    have hj4 : c / 24 % 4 < 4 := Nat.mod_lt _ (by decide)
    have hk24 : ((c : Int).fdiv 24).fmod 4 = ((c / 24 % 4 : Nat) : Int) := by rw [fdiv_eq _ (by decide), fmod_eq _ (by decide)]; omega
    have hpre := pre_pk (c / 24 % 4) hj4
    refine item_tupleT (j := c / 24 % 4) (News.isTup N5 (List.Mem.head _)) (by rw [hk24]; omega) (by rw [hk24]; omega) (by rw [hk24]; exact sidx hj4) (menu_str hj4) ?_
    have hch : ([97, 65, 119808, 120432] : List Int).getD (((c : Int).fdiv 6).fmod 4).toNat 0 + (c : Int).fmod 6 = ((baseN (c / 6 % 4) + c % 6 : Nat) : Int) := by
      rw [fdiv_eq _ (by decide), fmod_eq _ (by decide), fmod_eq _ (by decide)]
      have e1 : (((c : Int) / 6) % 4).toNat = c / 6 % 4 := by omega
      rw [e1, base_getD (Nat.mod_lt _ (by decide))]
      omega
    have hbl := baseN_le (c / 6 % 4)
    k_steps
    rename_i h9 F9 N9
    have N13 : News s.heap s.heap.objs.size h9 (own ++ []) := fun p hp => N9 p (List.mem_cons_of_mem _ (List.mem_cons_of_mem _ hp))
    refine LoopStepU.intro (news₂ := []) F9 N13 (fun p hp => nomatch hp) ?_
    refine ⟨rfl, _, _, rfl, ?_, ?_⟩
    · rw [hch, Int.toNat_natCast, List.take_add_one, hc]
      have e1 : ∀ a b : Str, (a ++ b).cps.toList = a.cps.toList ++ b.cps.toList := fun a b => Array.toList_append
      rw [e1, e1, hy, hpre.1]
      unfold typedL
      rw [List.flatMap_append, List.append_assoc]
      simp [signsOf]
    · have e1 : ∀ a b : Str, (a ++ b).length = a.length + b.length := fun a b => Array.size_append
      rw [e1, e1]
      have := hpre.2
      show _ + _ + 1 ≤ _
      omega
  · intro h' tk' m' news' F5 N5 hJ
    obtain ⟨rfl, y, ty, hm, hy, hyl⟩ := hJ
    dsimp only
    k_steps
    dsimp only
    refine h _ _ _ _ F5.keep ?_
    rw [hy]
    have hsz : items.size = cells.length := by
      have := hi.length
      simpa using this
    rw [hsz, List.take_length]
end D32
end
section
open PySem PySem.W PyProof.Rows PySem.Calls
set_option maxRecDepth 100000
set_option maxHeartbeats 4000000
set_option linter.unusedVariables false
namespace D32
theorem sign_tab : (List.range 4).all (fun a => (List.range 4).all fun b => (List.range 6).all fun r => ((preL a ++ [baseN b + r]).all fun x => S27.contains x) && (lets (preL a ++ [baseN b + r]) == [r])) = true := by decide +kernel
theorem sign_one (c : Nat) : (∀ x ∈ signsOf c, x ∈ S27) ∧ lets (signsOf c) = [c % 6] := by
  have h1 := List.all_eq_true.mp sign_tab (c / 24 % 4) (List.mem_range.mpr (Nat.mod_lt _ (by decide)))
  have h2 := List.all_eq_true.mp h1 (c / 6 % 4) (List.mem_range.mpr (Nat.mod_lt _ (by decide)))
  have h3 := List.all_eq_true.mp h2 (c % 6) (List.mem_range.mpr (Nat.mod_lt _ (by decide)))
  rw [Bool.and_eq_true] at h3
  refine ⟨fun x hx => ?_, eq_of_beq h3.2⟩
  have := List.all_eq_true.mp h3.1 x hx
  simpa using this
theorem typed_S27 (cells : List Nat) : ∀ x ∈ typedL cells, x ∈ S27 := by
  intro x hx
  obtain ⟨c, _, hx⟩ := List.mem_flatMap.mp hx
  exact (sign_one c).1 x hx
theorem lets_append (a b : List Nat) : lets (a ++ b) = lets a ++ lets b := by simp [lets]
theorem lets_typed : ∀ cells : List Nat, lets (typedL cells) = cells.map (· % 6)
  | [] => rfl
  | c :: r => by
    show lets (signsOf c ++ typedL r) = _
    rw [lets_append, (sign_one c).2, lets_typed r]
    rfl
end D32
end
section
open PySem PySem.W PyProof.Rows PySem.Calls
set_option maxRecDepth 100000
set_option maxHeartbeats 4000000
set_option linter.unusedVariables false
namespace D32
theorem call_cells_ret {w : World} {A : Around} {R : Result → Shared → Prop} {s : Shared} {name : Str} {params : Arguments} {body : List Stmt} {scope : Scope} {pm cd doc : Value} {a : Addr} {o : Obj} {args : List Value} {binds : List (Str × Value)}
    (hroom : A.depth < recursionLimit) (ho : s.heap.get? a = some o) (hd : o.data = .func (fnX name name params body scope [] .none .none doc pm none cd .none)) (hlim : s.heap.NoLimit) (hcd : s.heap.CodeRec cd name)
    (hbind : BindsTo s (fnX name name params body scope [] .none .none doc pm none cd .none) ⟨args, []⟩ binds)
    (hkind : ∀ n, ∀ x ∈ binds, scope.names.lookup x.1 = some .local ∨ (scope.names.lookup x.1 = some .cell ∧ ((cellsFrom n scope.names []).lookup x.1).isSome = true))
    (hnd : ((cellsFrom 0 scope.names []).map (·.1)).Nodup)
    (h : ∀ h₁ tk cells, Fr s.heap s.heap.objs.size h₁ (bindL (envOfC name scope s.heap.objs.size a cd).kindOf binds fun _ => none) → News s.heap s.heap.objs.size h₁ cells →
      CellsAre (bindC (envOfC name scope s.heap.objs.size a cd).kindOf binds fun _ => none) (cellsFrom (s.heap.objs.size + 1) scope.names []) cells →
      wpAny (model pw w) (A.deeper (envOfC name scope s.heap.objs.size a cd)) (execs body (envOfC name scope s.heap.objs.size a cd))
        (fun f s' => R (.ok (.ret (match f with | .ret v => v | _ => .none))) s') (fun _ _ => False) { s with heap := h₁, toks := tk })
    (hco : scope.isCoroutine = false := by rfl) (hgen : scope.isGenerator = false := by rfl) (hk : scope.kind = .function := by rfl) : codeAny (model pw w) A (.call (.ref a) ⟨args, []⟩) R s := by
  refine codeAny_call_function hroom ho hd hco hgen rfl hcd (hbind _ _ _ _ ?_)
  refine wpAny_newFunctionEnv_cells hk (hkind _) fun env' he s' x => ?_
  subst he
  refine ⟨hlim.keeps x.toInCall.keep, codeAny_func ?_⟩
  obtain ⟨h₁, tk, rfl, _⟩ := x.done
  obtain ⟨cells, NC, Y⟩ := Cl.news (h₀ := s.heap) (Nat.le_refl _) fun n c hm => ⟨x.cell n c (lookup_of_mem_nodup (cellsFrom_names scope.names 0 (s.heap.objs.size + 1) [] [] rfl ▸ hnd) hm), x.above n c hm⟩
  exact wpAny_mono (h h₁ tk cells ⟨x.toInCall.ns, x.toInCall.keep, Nat.le_refl _⟩ NC Y) (fun _ _ h => h) fun _ _ e => e.elim
end D32
end
section
open PySem PySem.W PyProof.Rows PySem.Calls
set_option maxRecDepth 100000
set_option maxHeartbeats 4000000
set_option linter.unusedVariables false
namespace D32
section
variable {w : World} {A : Around} {E : Value → Shared → Prop} {env : Env} {scope : Scope} {cl : List (Str × Addr)}
theorem pair_blockN {elt iter : Expr} {a b : Str} {pa pb tp pos : Pos} {kk : Nat} {s₂ : Shared} {I : Addr} {fp wr : List Addr} {n : Nat} {Pt : Nat → Array Value → Prop} {St : Nat → Heap → Prop} {Mid : Nat → Addr → Heap → Prop} {P2 : Nat → Value → Value → Prop}
    (G : Value → Value → Value → Prop) {RR : Value → Addr → Result → Shared → Prop}
    (W : WalksT pw w A I fp wr n Pt St Mid) (hA : A.handled = none) (hsz : n ≤ sizeLine) (h2 : ∀ i vals, Pt i vals → ∃ v1 v2, vals = #[v1, v2] ∧ P2 i v1 v2)
    (hcell : ∀ y ∈ scope.names, y.2 ≠ .cell) (hkind : scope.kind = .function) (hxa : scope.names.lookup a = some .local) (hxb : scope.names.lookup b = some .local) (hab : a ≠ b) (hst : St 0 s₂.heap) (hfp : ∀ b ∈ fp, b < s₂.heap.objs.size)
    (elt' : ∀ C v1 v2 i s₃ m₃ E', s₂.heap.objs.size ≤ C → P2 i v1 v2 → s₃.heap.Ns C m₃ → m₃ a = some v1 → m₃ b = some v2 → ExtBut wr s₂.heap s₃.heap → wpAny (model pw w) A (eval elt (compEnvC scope cl C env)) (fun y s₄ => G v1 v2 y ∧ Keeps s₃ s₄) E' s₃)
    (hRR : ∀ D C h' tk m' ys (ps : List (Value × Value)), s₂.heap.get? D = none → s₂.heap.get? C = none → D ≠ C → h'.Ns C m' → h'.PlainList D ys → ps.length = n → (∀ j q, ps[j]? = some q → P2 j q.1 q.2) → Paired (fun q y => G q.1 q.2 y) ps ys.toList →
      ExtBut wr s₂.heap h' → RR (.ref D) C (.ok .next) { s₂ with heap := h', toks := tk }) :
    wpAny (model pw w) A (newList []) (fun acc s₃ => wpAny (model pw w) A (newFunctionEnv scope env.globals cl [] env.qual none .none (some env)) (fun cenv s₄ =>
      codeAny (model pw w) A (.compStart (.ListComp elt [⟨.Tuple [.Name a pa, .Name b pb] kk tp, iter, [], 0⟩] scope pos) 0 (.ref I) acc { cenv with scope := relabel scope env }) (RR acc cenv.locals) s₄) E s₃) E s₂ := by
  refine wpAny_newObj_type (wpAny_newFunctionEnv hcell (by intro y hy; simp at hy) (fun h₁ hns₁ hsb₁ => ?_) hkind)
  dsimp only at hns₁ hsb₁ ⊢
  generalize hH2 : s₂.heap.push { cls := .type "list", dict := none, data := .seq ([] : List Value).toArray } = H2 at hns₁ hsb₁ ⊢
  have hC : H2.objs.size = s₂.heap.objs.size + 1 := by rw [← hH2, Heap.size_push]
  have hDC : s₂.heap.objs.size ≠ H2.objs.size := by rw [hC]; exact Nat.ne_of_lt (Nat.lt_succ_self _)
  have hCle : s₂.heap.objs.size ≤ H2.objs.size := by rw [hC]; exact Nat.le_succ _
  have below : ∀ x, x < s₂.heap.objs.size → x ≠ H2.objs.size ∧ x ≠ s₂.heap.objs.size := fun x hb => ⟨by rw [hC]; exact Nat.ne_of_lt (Nat.lt_succ_of_lt hb), Nat.ne_of_lt hb⟩
  have hDf : s₂.heap.objs.size ∉ fp := fun hm => Nat.lt_irrefl _ (hfp _ hm)
  have hCf : H2.objs.size ∉ fp := fun hm => by have := hfp _ hm; rw [hC] at this; exact Nat.lt_irrefl _ (Nat.lt_of_succ_lt this)
  have hDw : s₂.heap.objs.size ∉ wr := fun hm => hDf (W.sub _ hm)
  have hCw : H2.objs.size ∉ wr := fun hm => hCf (W.sub _ hm)
  have old : ∀ x o, s₂.heap.get? x = some o → h₁.get? x = some o := fun x o e => hsb₁.extBut x o (below x (Heap.lt_size e)).1 (Heap.get?_push_of_some _ (hH2 ▸ Heap.get?_push_of_some _ e))
  have hacc : h₁.PlainList s₂.heap.objs.size #[] := ⟨_, hsb₁.extBut _ _ hDC (Heap.get?_push_of_some _ (hH2 ▸ Heap.get?_push_size _ rfl))⟩
  have hst₁ : St 0 h₁ := W.frame _ _ _ hst fun x _ o e => old x o e
  have fresh : ∀ x, s₂.heap.objs.size ≤ x → s₂.heap.get? x = none := fun x hx => Heap.get?_none_of_le hx
  have loop : ∀ s₃ : Shared, s₃ = { s₂ with heap := h₁, toks := s₂.toks + ([] : List (Str × Value)).length } →
      codeAny (model pw w) A (.compLoop (.ListComp elt [⟨.Tuple [.Name a pa, .Name b pb] kk tp, iter, [], 0⟩] scope pos) 0 (.ref I) (.ref s₂.heap.objs.size) (compEnvC scope cl H2.objs.size env))
        (RR (.ref s₂.heap.objs.size) H2.objs.size) s₃ := by
    rintro s₃ rfl
    refine PyProof.Rows.LCp.codeAny_compLoop_pair
      (fun k s' => ∃ (h' : Heap) (tk i : Nat) (ys : Array Value) (ps : List (Value × Value)) (m' : Str → Option Value), s' = { s₂ with heap := h', toks := tk } ∧ i ≤ n ∧ k = n + 1 - i ∧ ps.length = i ∧ (∀ j q, ps[j]? = some q → P2 j q.1 q.2) ∧ ys.size ≤ i ∧ St i h' ∧ h'.Ns H2.objs.size m' ∧ h'.PlainList s₂.heap.objs.size ys ∧
        Paired (fun q y => G q.1 q.2 y) ps ys.toList ∧ ExtBut wr s₂.heap h') ?_ (n + 1)
      ⟨h₁, _, 0, #[], [], _, rfl, Nat.zero_le _, rfl, rfl, fun j q e => (by simp at e), Nat.le_refl _, hst₁, hns₁, hacc, .nil, fun x o _ e => old x o e⟩
    rintro k s' ⟨h', tk, i, ys, ps, m', rfl, hi, rfl, hpl, hps, hyl, hst', hn', hD', hG', hx'⟩
    by_cases hlt : i < n
    · refine W.item i _ _ _ hlt hst' fun T vals h₂ tk₂ hPt _ hT hMid hk₂ => ?_
      obtain ⟨v1, v2, rfl, hP2⟩ := h2 i vals hPt
      refine W.go _ kk tp i T _ _ _ hMid fun h₃ hst₃ hk₃ => ?_
      have ht₃ : IsTup h₃ T #[v1, v2] := by
        obtain ⟨o, e1, e2, e3⟩ := hT
        exact ⟨o, hk₃ T o (W.apart i T h₂ hMid) e1, e2, e3⟩
      refine assign_Tuple_tuple hA ht₃ rfl rfl fun h₅ he => ?_
      have he' : ∀ x o, h₃.get? x = some o → h₅.get? x = some o := fun x o e => he x o (Nat.ne_of_lt (Heap.lt_size e)) e
      have up : ∀ x o, x ∉ wr → h'.get? x = some o → h₅.get? x = some o := fun x o hb e => he' x o (hk₃ x o hb (hk₂ x o hb e))
      refine assignInOrder_cons (wpAny_assign_Name (wpAny_storeName_local (lookup_relabel_local hxa) (hn'.at' fun o e => up _ o hCw e) (fun h₆ hn₆ hs₆ => ?_) (by simp [compEnvC, relabel, hkind])))
      refine assignInOrder_cons (wpAny_assign_Name (wpAny_storeName_local (lookup_relabel_local hxb) hn₆ (fun h₇ hn₇ hs₇ => ?_) (by simp [compEnvC, relabel, hkind])))
      refine assignInOrder_nil ?_
      have up₇ : ∀ x o, x ≠ H2.objs.size → h₅.get? x = some o → h₇.get? x = some o := fun x o hb e => hs₇.extBut x o hb (hs₆.extBut x o hb e)
      have hst₇ : St (i + 1) h₇ := W.frame _ _ _ hst₃ fun x hb o e => up₇ x o (fun q => hCf (q ▸ hb)) (he' x o e)
      have hx₇ : ExtBut wr s₂.heap h₇ := fun x o hb e => up₇ x o (below x (Heap.lt_size e)).1 (up x o hb (hx' x o hb e))
      obtain ⟨c₇, hD₇⟩ : h₇.PlainList s₂.heap.objs.size ys := by
        obtain ⟨cc, e⟩ := hD'
        exact ⟨cc, up₇ _ _ hDC (up _ _ hDw e)⟩
      have hps' : ∀ j q, (ps ++ [(v1, v2)])[j]? = some q → P2 j q.1 q.2 := by
        intro j q e
        by_cases hj : j < ps.length
        · rw [List.getElem?_append_left hj] at e
          exact hps j q e
        · rw [List.getElem?_append_right (Nat.not_lt.mp hj)] at e
          have hj0 : j - ps.length = 0 := by
            have := (List.getElem?_eq_some_iff.mp e).1
            simp at this; omega
          rw [hj0] at e
          simp at e
          subst e
          have : j = i := by omega
          subst this
          exact hP2
      have hlen' : (ps ++ [(v1, v2)]).length = i + 1 := by rw [List.length_append, List.length_singleton, hpl]
      refine wpAny_mono (elt' H2.objs.size v1 v2 i _ _ _ hCle hP2 hn₇ (by simp [hab]) (by simp) hx₇) (fun y s₄ h₄ => ?_) fun _ _ e => e
      obtain ⟨hy, h₉, tk₉, rfl, hx₉⟩ := h₄
      refine append_at (hsz := by omega) (hx₉ _ _ hD₇) fun h₁₀ hs₁₀ hD₁₀ => ?_
      refine ⟨n + 1 - (i + 1), by omega, h₁₀, tk₉, i + 1, ys.push y, ps ++ [(v1, v2)], _, rfl, hlt, rfl, hlen', hps', by simp; omega, W.frame _ _ _ hst₇ fun x hb o e => hs₁₀.extBut x o (fun q => hDf (q ▸ hb)) (hx₉ x o e),
        (hn₇.at' fun o e => hx₉ _ o e).sameBut hs₁₀ (Ne.symm hDC), ⟨_, hD₁₀⟩, ?_, fun x o hb e => hs₁₀.extBut x o (below x (Heap.lt_size e)).2 (hx₉ _ _ (hx₇ x o hb e))⟩
      rw [Array.toList_push]
      exact hG'.snoc hy
    · obtain rfl : i = n := Nat.le_antisymm hi (Nat.not_lt.mp hlt)
      refine W.done _ _ _ hst' fun h₂ tk₂ hk₂ => ?_
      obtain ⟨cc, e⟩ := hD'
      exact hRR _ _ h₂ tk₂ _ ys ps (fresh _ (Nat.le_refl _)) (fresh _ hCle) hDC (hn'.at' fun o e => hk₂ _ o hCw e) ⟨cc, hk₂ _ _ hDw e⟩ hpl hps hG' fun x o hb e => hk₂ x o hb (hx' x o hb e)
  exact codeAny_compStart_list (loop _ rfl) (W.self 0 _ _ _ hst₁ (loop _ rfl))
theorem pair_blockT {elt iter c : Expr} {a b : Str} {pa pb tp pos : Pos} {kk : Nat} {s₂ : Shared} {I : Addr} {fp wr : List Addr} {n : Nat} {Pt : Nat → Array Value → Prop} {St : Nat → Heap → Prop} {Mid : Nat → Addr → Heap → Prop} {P2 : Nat → Value → Value → Prop}
    (p : Value → Value → Bool) (G : Value → Value → Value → Prop) {RR : Value → Addr → Result → Shared → Prop}
    (W : WalksT pw w A I fp wr n Pt St Mid) (hA : A.handled = none) (hsz : n ≤ sizeLine) (h2 : ∀ i vals, Pt i vals → ∃ v1 v2, vals = #[v1, v2] ∧ P2 i v1 v2)
    (hcell : ∀ y ∈ scope.names, y.2 ≠ .cell) (hkind : scope.kind = .function) (hxa : scope.names.lookup a = some .local) (hxb : scope.names.lookup b = some .local) (hab : a ≠ b) (hst : St 0 s₂.heap) (hfp : ∀ b ∈ fp, b < s₂.heap.objs.size)
    (test : ∀ C v1 v2 i s₃ m₃ E', s₂.heap.objs.size ≤ C → P2 i v1 v2 → s₃.heap.Ns C m₃ → m₃ a = some v1 → m₃ b = some v2 → ExtBut wr s₂.heap s₃.heap → wpAny (model pw w) A (isTrue c (compEnvC scope cl C env) (eval c (compEnvC scope cl C env))) (fun ok s₄ => ok = p v1 v2 ∧ Keeps s₃ s₄) E' s₃)
    (elt' : ∀ C v1 v2 i s₃ m₃ E', s₂.heap.objs.size ≤ C → P2 i v1 v2 → p v1 v2 = true → s₃.heap.Ns C m₃ → m₃ a = some v1 → m₃ b = some v2 → ExtBut wr s₂.heap s₃.heap → wpAny (model pw w) A (eval elt (compEnvC scope cl C env)) (fun y s₄ => G v1 v2 y ∧ Keeps s₃ s₄) E' s₃)
    (hRR : ∀ D C h' tk m' ys (ps : List (Value × Value)), s₂.heap.get? D = none → s₂.heap.get? C = none → D ≠ C → h'.Ns C m' → h'.PlainList D ys → ps.length = n → (∀ j q, ps[j]? = some q → P2 j q.1 q.2) → Paired (fun q y => G q.1 q.2 y) (ps.filter fun q => p q.1 q.2) ys.toList →
      ExtBut wr s₂.heap h' → RR (.ref D) C (.ok .next) { s₂ with heap := h', toks := tk }) :
    wpAny (model pw w) A (newList []) (fun acc s₃ => wpAny (model pw w) A (newFunctionEnv scope env.globals cl [] env.qual none .none (some env)) (fun cenv s₄ =>
      codeAny (model pw w) A (.compStart (.ListComp elt [⟨.Tuple [.Name a pa, .Name b pb] kk tp, iter, [c], 0⟩] scope pos) 0 (.ref I) acc { cenv with scope := relabel scope env }) (RR acc cenv.locals) s₄) E s₃) E s₂ := by
  refine wpAny_newObj_type (wpAny_newFunctionEnv hcell (by intro y hy; simp at hy) (fun h₁ hns₁ hsb₁ => ?_) hkind)
  dsimp only at hns₁ hsb₁ ⊢
  generalize hH2 : s₂.heap.push { cls := .type "list", dict := none, data := .seq ([] : List Value).toArray } = H2 at hns₁ hsb₁ ⊢
  have hC : H2.objs.size = s₂.heap.objs.size + 1 := by rw [← hH2, Heap.size_push]
  have hDC : s₂.heap.objs.size ≠ H2.objs.size := by rw [hC]; exact Nat.ne_of_lt (Nat.lt_succ_self _)
  have hCle : s₂.heap.objs.size ≤ H2.objs.size := by rw [hC]; exact Nat.le_succ _
  have below : ∀ x, x < s₂.heap.objs.size → x ≠ H2.objs.size ∧ x ≠ s₂.heap.objs.size := fun x hb => ⟨by rw [hC]; exact Nat.ne_of_lt (Nat.lt_succ_of_lt hb), Nat.ne_of_lt hb⟩
  have hDf : s₂.heap.objs.size ∉ fp := fun hm => Nat.lt_irrefl _ (hfp _ hm)
  have hCf : H2.objs.size ∉ fp := fun hm => by have := hfp _ hm; rw [hC] at this; exact Nat.lt_irrefl _ (Nat.lt_of_succ_lt this)
  have hDw : s₂.heap.objs.size ∉ wr := fun hm => hDf (W.sub _ hm)
  have hCw : H2.objs.size ∉ wr := fun hm => hCf (W.sub _ hm)
  have old : ∀ x o, s₂.heap.get? x = some o → h₁.get? x = some o := fun x o e => hsb₁.extBut x o (below x (Heap.lt_size e)).1 (Heap.get?_push_of_some _ (hH2 ▸ Heap.get?_push_of_some _ e))
  have hacc : h₁.PlainList s₂.heap.objs.size #[] := ⟨_, hsb₁.extBut _ _ hDC (Heap.get?_push_of_some _ (hH2 ▸ Heap.get?_push_size _ rfl))⟩
  have hst₁ : St 0 h₁ := W.frame _ _ _ hst fun x _ o e => old x o e
  have fresh : ∀ x, s₂.heap.objs.size ≤ x → s₂.heap.get? x = none := fun x hx => Heap.get?_none_of_le hx
  have loop : ∀ s₃ : Shared, s₃ = { s₂ with heap := h₁, toks := s₂.toks + ([] : List (Str × Value)).length } →
      codeAny (model pw w) A (.compLoop (.ListComp elt [⟨.Tuple [.Name a pa, .Name b pb] kk tp, iter, [c], 0⟩] scope pos) 0 (.ref I) (.ref s₂.heap.objs.size) (compEnvC scope cl H2.objs.size env))
        (RR (.ref s₂.heap.objs.size) H2.objs.size) s₃ := by
    rintro s₃ rfl
    refine kct_loop
      (fun k s' => ∃ (h' : Heap) (tk i : Nat) (ys : Array Value) (ps : List (Value × Value)) (m' : Str → Option Value), s' = { s₂ with heap := h', toks := tk } ∧ i ≤ n ∧ k = n + 1 - i ∧ ps.length = i ∧ (∀ j q, ps[j]? = some q → P2 j q.1 q.2) ∧ ys.size ≤ i ∧ St i h' ∧ h'.Ns H2.objs.size m' ∧ h'.PlainList s₂.heap.objs.size ys ∧
        Paired (fun q y => G q.1 q.2 y) (ps.filter fun q => p q.1 q.2) ys.toList ∧ ExtBut wr s₂.heap h') ?_ (n + 1)
      ⟨h₁, _, 0, #[], [], _, rfl, Nat.zero_le _, rfl, rfl, fun j q e => (by simp at e), Nat.le_refl _, hst₁, hns₁, hacc, .nil, fun x o _ e => old x o e⟩
    rintro k s' ⟨h', tk, i, ys, ps, m', rfl, hi, rfl, hpl, hps, hyl, hst', hn', hD', hG', hx'⟩
    by_cases hlt : i < n
    · refine W.item i _ _ _ hlt hst' fun T vals h₂ tk₂ hPt _ hT hMid hk₂ => ?_
      obtain ⟨v1, v2, rfl, hP2⟩ := h2 i vals hPt
      refine W.go _ kk tp i T _ _ _ hMid fun h₃ hst₃ hk₃ => ?_
      have ht₃ : IsTup h₃ T #[v1, v2] := by
        obtain ⟨o, e1, e2, e3⟩ := hT
        exact ⟨o, hk₃ T o (W.apart i T h₂ hMid) e1, e2, e3⟩
      refine assign_Tuple_tuple hA ht₃ rfl rfl fun h₅ he => ?_
      have he' : ∀ x o, h₃.get? x = some o → h₅.get? x = some o := fun x o e => he x o (Nat.ne_of_lt (Heap.lt_size e)) e
      have up : ∀ x o, x ∉ wr → h'.get? x = some o → h₅.get? x = some o := fun x o hb e => he' x o (hk₃ x o hb (hk₂ x o hb e))
      refine assignInOrder_cons (wpAny_assign_Name (wpAny_storeName_local (lookup_relabel_local hxa) (hn'.at' fun o e => up _ o hCw e) (fun h₆ hn₆ hs₆ => ?_) (by simp [compEnvC, relabel, hkind])))
      refine assignInOrder_cons (wpAny_assign_Name (wpAny_storeName_local (lookup_relabel_local hxb) hn₆ (fun h₇ hn₇ hs₇ => ?_) (by simp [compEnvC, relabel, hkind])))
      refine assignInOrder_nil ?_
      have up₇ : ∀ x o, x ≠ H2.objs.size → h₅.get? x = some o → h₇.get? x = some o := fun x o hb e => hs₇.extBut x o hb (hs₆.extBut x o hb e)
      have hst₇ : St (i + 1) h₇ := W.frame _ _ _ hst₃ fun x hb o e => up₇ x o (fun q => hCf (q ▸ hb)) (he' x o e)
      have hx₇ : ExtBut wr s₂.heap h₇ := fun x o hb e => up₇ x o (below x (Heap.lt_size e)).1 (up x o hb (hx' x o hb e))
      obtain ⟨c₇, hD₇⟩ : h₇.PlainList s₂.heap.objs.size ys := by
        obtain ⟨cc, e⟩ := hD'
        exact ⟨cc, up₇ _ _ hDC (up _ _ hDw e)⟩
      have hps' : ∀ j q, (ps ++ [(v1, v2)])[j]? = some q → P2 j q.1 q.2 := by
        intro j q e
        by_cases hj : j < ps.length
        · rw [List.getElem?_append_left hj] at e
          exact hps j q e
        · rw [List.getElem?_append_right (Nat.not_lt.mp hj)] at e
          have hj0 : j - ps.length = 0 := by
            have := (List.getElem?_eq_some_iff.mp e).1
            simp at this; omega
          rw [hj0] at e
          simp at e
          subst e
          have : j = i := by omega
          subst this
          exact hP2
      have hlen' : (ps ++ [(v1, v2)]).length = i + 1 := by rw [List.length_append, List.length_singleton, hpl]
      refine wpAny_mono (test H2.objs.size v1 v2 i _ _ _ hCle hP2 hn₇ (by simp [hab]) (by simp) hx₇) (fun ok s₄ h₄ => ?_) fun _ _ e => e
      obtain ⟨rfl, h₈, tk₈, rfl, hx₈⟩ := h₄
      have hst₈ : St (i + 1) h₈ := W.frame _ _ _ hst₇ fun x hb o e => hx₈ x o e
      have hn₈ := hn₇.at' fun o e => hx₈ _ o e
      cases hp : p v1 v2 with
      | false =>
        rw [if_neg (by simp)]
        refine ⟨n + 1 - (i + 1), by omega, h₈, tk₈, i + 1, ys, ps ++ [(v1, v2)], _, rfl, hlt, rfl, hlen', hps', by omega, hst₈, hn₈, ⟨c₇, hx₈ _ _ hD₇⟩, ?_, fun x o hb e => hx₈ _ _ (hx₇ x o hb e)⟩
        rw [List.filter_append, List.filter_cons_of_neg (by simp [hp])]
        simpa using hG'
      | true =>
        rw [if_pos rfl]
        refine wpAny_mono (elt' H2.objs.size v1 v2 i { s₂ with heap := h₈, toks := tk₈ } _ _ hCle hP2 hp hn₈ (by simp [hab]) (by simp) fun x o hb e => hx₈ _ _ (hx₇ x o hb e)) (fun y s₄ h₄ => ?_) fun _ _ e => e
        obtain ⟨hy, h₉, tk₉, rfl, hx₉⟩ := h₄
        refine append_at (hsz := by omega) (hx₉ _ _ (hx₈ _ _ hD₇)) fun h₁₀ hs₁₀ hD₁₀ => ?_
        refine ⟨n + 1 - (i + 1), by omega, h₁₀, tk₉, i + 1, ys.push y, ps ++ [(v1, v2)], _, rfl, hlt, rfl, hlen', hps', by simp; omega, W.frame _ _ _ hst₈ fun x hb o e => hs₁₀.extBut x o (fun q => hDf (q ▸ hb)) (hx₉ x o e),
          (hn₈.at' fun o e => hx₉ _ o e).sameBut hs₁₀ (Ne.symm hDC), ⟨_, hD₁₀⟩, ?_, fun x o hb e => hs₁₀.extBut x o (below x (Heap.lt_size e)).2 (hx₉ _ _ (hx₈ _ _ (hx₇ x o hb e)))⟩
        rw [List.filter_append, List.filter_cons_of_pos (by simp [hp]), Array.toList_push]
        exact hG'.snoc hy
    · obtain rfl : i = n := Nat.le_antisymm hi (Nat.not_lt.mp hlt)
      refine W.done _ _ _ hst' fun h₂ tk₂ hk₂ => ?_
      obtain ⟨cc, e⟩ := hD'
      exact hRR _ _ h₂ tk₂ _ ys ps (fresh _ (Nat.le_refl _)) (fresh _ hCle) hDC (hn'.at' fun o e => hk₂ _ o hCw e) ⟨cc, hk₂ _ _ hDw e⟩ hpl hps hG' fun x o hb e => hk₂ x o hb (hx' x o hb e)
  exact codeAny_compStart_list (loop _ rfl) (W.self 0 _ _ _ hst₁ (loop _ rfl))
end
end D32
end
section
open PySem PySem.W PyProof.Rows PySem.Calls
set_option maxRecDepth 100000
set_option maxHeartbeats 4000000
set_option linter.unusedVariables false
namespace D32
section
variable {w : World} {A : Around} {E : Value → Shared → Prop} {env : Env} {scope : Scope} {cl : List (Str × Addr)}
def SrcPN (w : World) (A : Around) (env : Env) (scope : Scope) (cl : List (Str × Addr)) (a b : Str) (elt : Expr) (G : Value → Value → Value → Prop) (ex : List Addr) (Hn : Heap → Prop) (X : Addr → Heap → Prop) (Q : Addr → Shared → Prop) (it : Value) (s₂ : Shared) : Prop :=
  ∃ (I : Addr) (fp wr : List Addr) (n : Nat) (Pt : Nat → Array Value → Prop) (St : Nat → Heap → Prop) (Mid : Nat → Addr → Heap → Prop) (P2 : Nat → Value → Value → Prop), it = .ref I ∧ WalksT pw w A I fp wr n Pt St Mid ∧ A.handled = none ∧ n ≤ sizeLine ∧ (∀ i vals, Pt i vals → ∃ v1 v2, vals = #[v1, v2] ∧ P2 i v1 v2) ∧
    St 0 s₂.heap ∧ (∀ x ∈ fp, x < s₂.heap.objs.size) ∧ Hn s₂.heap ∧ (∀ x ∈ ex, x ∉ wr) ∧
    (∀ C v1 v2 i s₃ m₃ E', s₂.heap.objs.size ≤ C → P2 i v1 v2 → s₃.heap.Ns C m₃ → m₃ a = some v1 → m₃ b = some v2 → ExtBut wr s₂.heap s₃.heap → wpAny (model pw w) A (eval elt (compEnvC scope cl C env)) (fun y s₄ => G v1 v2 y ∧ Keeps s₃ s₄) E' s₃) ∧
    (∀ D h' tk ys (ps : List (Value × Value)), s₂.heap.get? D = none → h'.PlainList D ys → ps.length = n → (∀ j q, ps[j]? = some q → P2 j q.1 q.2) → Paired (fun q y => G q.1 q.2 y) ps ys.toList → X D h' →
      (∀ x o, x ∉ ex → x ∉ wr → s₂.heap.get? x = some o → h'.get? x = some o) → Q D { s₂ with heap := h', toks := tk })
theorem lcPN_E {s : Shared} {elt iter : Expr} {a b : Str} {pa pb tp pos : Pos} {kk : Nat} {Q : Value → Shared → Prop} (G : Value → Value → Value → Prop)
    (h : wpAny (model pw w) A (eval iter env) (fun xv s₁ => wpAny (model pw w) A (pyIter xv) (SrcPN w A env scope cl a b elt G [] (fun _ => True) (fun _ _ => True) (fun D => Q (.ref D))) E s₁) E s)
    (hclos : closureFor scope env = pure cl := by rfl) (hcell : ∀ y ∈ scope.names, y.2 ≠ .cell := by decide) (hkind : scope.kind = .function := by rfl)
    (hnames : ∀ y ∈ scope.names, y.2 = .local → scope.names.lookup y.1 = some .local := by decide) (hxa : scope.names.lookup a = some .local := by rfl) (hxb : scope.names.lookup b = some .local := by rfl) (hab : a ≠ b := by decide)
    (hs : ∀ x, foldedSetIterable iter env x = pure x := by intro _; rfl) :
    wpAny (model pw w) A (eval (.ListComp elt [⟨.Tuple [.Name a pa, .Name b pb] kk tp, iter, [], 0⟩] scope pos) env) Q E s := by
  rw [eval_ListComp]
  refine wpAny_comprehension_free (use := none) rfl hs hclos hkind hnames (wpAny_mono h (fun xv s₁ h₁ => wpAny_mono h₁ (fun it s₂ h₂ => ?_) fun _ _ e => e) fun _ _ e => e)
  obtain ⟨I, fp, wr, n, Pt, St, Mid, P2, rfl, W, hA, hz, h2, hst, hfp, hn0, hex, helt, hQ⟩ := h₂
  refine pair_blockN (RR := fun acc C => compPost (model pw w) A E none Q acc C) G W hA hz h2 hcell hkind hxa hxb hab hst hfp helt ?_
  intro D C h' tk m' ys ps hD hC hDC hn hpl hlen hP hG hx
  refine ⟨m', hn, fun h'' hs'' => hQ D h'' tk ys ps hD (hpl.extBut hs''.extBut hDC) hlen hP hG trivial fun x o _ hb e => ?_⟩
  exact hs''.extBut x o (by rintro rfl; rw [hC] at e; cases e) (hx x o hb e)
def SrcPT (w : World) (A : Around) (env : Env) (scope : Scope) (cl : List (Str × Addr)) (a b : Str) (c : Expr) (elt : Expr) (p : Value → Value → Bool) (G : Value → Value → Value → Prop) (ex : List Addr) (Hn : Heap → Prop) (X : Addr → Heap → Prop) (Q : Addr → Shared → Prop) (it : Value) (s₂ : Shared) : Prop :=
  ∃ (I : Addr) (fp wr : List Addr) (n : Nat) (Pt : Nat → Array Value → Prop) (St : Nat → Heap → Prop) (Mid : Nat → Addr → Heap → Prop) (P2 : Nat → Value → Value → Prop), it = .ref I ∧ WalksT pw w A I fp wr n Pt St Mid ∧ A.handled = none ∧ n ≤ sizeLine ∧ (∀ i vals, Pt i vals → ∃ v1 v2, vals = #[v1, v2] ∧ P2 i v1 v2) ∧
    St 0 s₂.heap ∧ (∀ x ∈ fp, x < s₂.heap.objs.size) ∧ Hn s₂.heap ∧ (∀ x ∈ ex, x ∉ wr) ∧
    (∀ C v1 v2 i s₃ m₃ E', s₂.heap.objs.size ≤ C → P2 i v1 v2 → s₃.heap.Ns C m₃ → m₃ a = some v1 → m₃ b = some v2 → ExtBut wr s₂.heap s₃.heap → wpAny (model pw w) A (isTrue c (compEnvC scope cl C env) (eval c (compEnvC scope cl C env))) (fun ok s₄ => ok = p v1 v2 ∧ Keeps s₃ s₄) E' s₃) ∧
    (∀ C v1 v2 i s₃ m₃ E', s₂.heap.objs.size ≤ C → P2 i v1 v2 → p v1 v2 = true → s₃.heap.Ns C m₃ → m₃ a = some v1 → m₃ b = some v2 → ExtBut wr s₂.heap s₃.heap → wpAny (model pw w) A (eval elt (compEnvC scope cl C env)) (fun y s₄ => G v1 v2 y ∧ Keeps s₃ s₄) E' s₃) ∧
    (∀ D h' tk ys (ps : List (Value × Value)), s₂.heap.get? D = none → h'.PlainList D ys → ps.length = n → (∀ j q, ps[j]? = some q → P2 j q.1 q.2) → Paired (fun q y => G q.1 q.2 y) (ps.filter fun q => p q.1 q.2) ys.toList → X D h' →
      (∀ x o, x ∉ ex → x ∉ wr → s₂.heap.get? x = some o → h'.get? x = some o) → Q D { s₂ with heap := h', toks := tk })
theorem lcPT_A {s : Shared} {elt iter c : Expr} {a b y : Str} {pa pb tp pos py spos : Pos} {kk : Nat} {Q : Flow → Shared → Prop} {m : Str → Option Value} {h₀ : Heap} (F : Fr h₀ env.locals s.heap m) (p : Value → Value → Bool) (G : Value → Value → Value → Prop)
    (h : wpAny (model pw w) A (eval iter env) (fun xv s₁ => wpAny (model pw w) A (pyIter xv) (SrcPT w A env scope cl a b c elt p G [env.locals] (fun h => h.Ns env.locals m) (fun D h' => h'.Ns env.locals (fun z => if z = y then some (.ref D) else m z)) (fun _ => Q .next)) E s₁) E s)
    (hsw : swapsWith (.ListComp elt [⟨.Tuple [.Name a pa, .Name b pb] kk tp, iter, [c], 0⟩] scope pos) (some (.Name y py)) spos.line env = pure true := by rfl)
    (hclos : closureFor scope env = pure cl := by rfl) (hcell : ∀ y ∈ scope.names, y.2 ≠ .cell := by decide) (hkind : scope.kind = .function := by rfl)
    (hnames : ∀ y ∈ scope.names, y.2 = .local → scope.names.lookup y.1 = some .local := by decide) (hxa : scope.names.lookup a = some .local := by rfl) (hxb : scope.names.lookup b = some .local := by rfl) (hab : a ≠ b := by decide)
    (hy : env.kindOf y = some .local := by rfl) (hp : (env.scope.kind == .class || (env.scope.kind == .module && env.locals != env.globals)) = false := by rfl)
    (hs : ∀ x, foldedSetIterable iter env x = pure x := by intro _; rfl) :
    wpAny (model pw w) A (exec (.Assign [.Name y py] (.ListComp elt [⟨.Tuple [.Name a pa, .Name b pb] kk tp, iter, [c], 0⟩] scope pos) spos) env) Q E s := by
  rw [exec_Assign_Name_used _ _ _ _ hsw]
  refine wpAny_bind (wpAny_standAt (wpAny_bind ?_))
  show wpAny _ A (do let _ ← comprehension (.ListComp elt [⟨.Tuple [.Name a pa, .Name b pb] kk tp, iter, [c], 0⟩] scope pos) scope env _ (newList []) false (eval iter env) (some (assign (.Name y py) env))) _ _ s
  refine wpAny_bind (wpAny_mono (wpAny_comprehension_free (use := some (assign (.Name y py) env)) (Q := fun _ s' => Q .next s') rfl hs hclos hkind hnames
    (wpAny_mono h (fun xv s₁ h₁ => wpAny_mono h₁ (fun it s₂ h₂ => ?_) fun _ _ e => e) fun _ _ e => e)) (fun _ s' hq => wpAny_pure (wpAny_pure hq)) fun _ _ e => e)
  obtain ⟨I, fp, wr, n, Pt, St, Mid, P2, rfl, W, hA, hz, h2, hst, hfp, hn0, hex, htest, helt, hQ⟩ := h₂
  have hLw := hex env.locals (by simp)
  refine pair_blockT (RR := fun acc C => compPost (model pw w) A E (some (assign (.Name y py) env)) (fun _ s' => Q .next s') acc C) p G W hA hz h2 hcell hkind hxa hxb hab hst hfp htest helt ?_
  intro D C h' tk m' ys ps hD hC hDC hnC hpl hlen hP hG hx
  have hLC : env.locals ≠ C := by rintro rfl; obtain ⟨o, _, _, ho, _⟩ := hn0; rw [hC] at ho; cases ho
  have hLD : env.locals ≠ D := by rintro rfl; obtain ⟨o, _, _, ho, _⟩ := hn0; rw [hD] at ho; cases ho
  show wpAny _ A (assign (.Name y py) env (.ref D)) _ _ _
  refine wpAny_assign_Name (wpAny_storeName_local hy (hn0.at' fun o e => hx _ o hLw e) (fun h₂ hn₂ hs₂ => ?_) hp)
  refine ⟨m', hnC.sameBut hs₂ (Ne.symm hLC), fun h₃ hs₃ => ?_⟩
  refine hQ D h₃ _ ys ps hD ((hpl.extBut hs₂.extBut (Ne.symm hLD)).extBut hs₃.extBut hDC) hlen hP hG (hn₂.sameBut hs₃ hLC) fun x o hbL hbf e => ?_
  exact hs₃.extBut x o (by rintro rfl; rw [hC] at e; cases e) (hs₂.extBut x o (by simpa using hbL) (hx x o hbf e))
variable {s : Shared} {a b : Str} {elt c : Expr} {p : Value → Value → Bool} {G : Value → Value → Value → Prop} {Q : Addr → Shared → Prop} {ex : List Addr} {Hn : Heap → Prop} {X : Addr → Heap → Prop}
theorem fresh_le {h : Heap} {x : Addr} {o : Obj} (e : h.get? x = some o) (l : List Addr) (hl : ∀ y ∈ l, h.objs.size ≤ y) : x ∉ l := fun hm => Nat.lt_irrefl _ (Nat.lt_of_lt_of_le (Heap.lt_size e) (hl x hm))
theorem src_zip {l1 l2 : Addr} {xs ys : Array Value} (hA : A.handled = none) (hl1 : s.heap.IsList l1 xs) (hl2 : s.heap.IsList l2 ys) (hsz : xs.size ≤ sizeLine)
    (elt' : ∀ C v1 v2 (j : Nat) s₃ m₃ E', xs[j]? = some v1 → ys[j]? = some v2 → Fr s.heap C s₃.heap m₃ → m₃ a = some v1 → m₃ b = some v2 → wpAny (model pw w) A (eval elt (compEnvC scope cl C env)) (fun y s₄ => G v1 v2 y ∧ Keeps s₃ s₄) E' s₃)
    (hQ : ∀ D h' tk items (ps : List (Value × Value)), Ext s.heap h' → s.heap.get? D = none → h'.PlainList D items → ps.length = min xs.size ys.size → (∀ (j : Nat) (q : Value × Value), ps[j]? = some q → xs[j]? = some q.1 ∧ ys[j]? = some q.2) → Paired (fun q y => G q.1 q.2 y) ps items.toList → Q D { s with heap := h', toks := tk }) :
    wpAny (model pw w) A (call (.type "zip") [.ref l1, .ref l2]) (fun xv s₁ => wpAny (model pw w) A (pyIter xv) (SrcPN w A env scope cl a b elt G [] (fun _ => True) (fun _ _ => True) Q) E s₁) E s := by
  obtain ⟨o1, e1, _⟩ := id hl1
  obtain ⟨o2, e2, _⟩ := id hl2
  have hlt1 := Heap.lt_size e1
  have hlt2 := Heap.lt_size e2
  refine call_zip_2 hl1 hl2 fun h' hz hTI hTO hi1 hi2 hs5 hk => ?_
  refine wpAny_pyIter_zip hz ?_
  have hwr : ∀ y ∈ [s.heap.objs.size + 4, s.heap.objs.size + 3, s.heap.objs.size, s.heap.objs.size + 1], s.heap.objs.size ≤ y := by
    intro y hy
    simp only [List.mem_cons, List.not_mem_nil, or_false] at hy
    rcases hy with rfl | rfl | rfl | rfl <;> first | exact Nat.le_refl _ | exact Nat.le_add_right _ _
  have ext : ∀ h₃ : Heap, (∀ x o, x ∉ [s.heap.objs.size + 4, s.heap.objs.size + 3, s.heap.objs.size, s.heap.objs.size + 1] → h'.get? x = some o → h₃.get? x = some o) → Ext s.heap h₃ := fun h₃ k x o e => k x o (fresh_le e _ hwr) (hk x o e)
  refine ⟨_, _, _, _, _, _, _, fun j v1 v2 => xs[j]? = some v1 ∧ ys[j]? = some v2, rfl, WalksT.zip2 hA _ _ _ _ _ _ _ (ktu_apart s.heap.objs.size l1 l2 hlt1 hlt2) xs ys, hA, Nat.le_trans (Nat.min_le_left _ _) hsz, ?_, ⟨hz, hTI, ⟨_, _, hTO⟩, hi1, hi2, hl1.at fun o e => hk _ o e, hl2.at fun o e => hk _ o e⟩, ?_, trivial, (fun _ hb => nomatch hb), ?_, ?_⟩
  · rintro i vals ⟨x, y, h1, h2, rfl⟩
    exact ⟨x, y, rfl, h1, h2⟩
  · intro x hx
    show x < h'.objs.size
    rw [hs5]
    simp only [List.mem_cons, List.not_mem_nil, or_false] at hx
    rcases hx with rfl | rfl | rfl | rfl | rfl | rfl | rfl <;> first | exact Nat.add_lt_add_left (by decide) _ | exact Nat.lt_add_of_pos_right (by decide) | exact Nat.lt_of_lt_of_le hlt1 (Nat.le_add_right _ _) | exact Nat.lt_of_lt_of_le hlt2 (Nat.le_add_right _ _)
  · intro C v1 v2 i s₃ m₃ E' hC hP hn h1 h2 hx
    have hC' : h'.objs.size ≤ C := hC
    refine elt' C v1 v2 i s₃ m₃ E' hP.1 hP.2 ⟨hn, ext _ hx, ?_⟩ h1 h2
    rw [hs5] at hC'; exact Nat.le_trans (Nat.le_add_right _ _) hC'
  · intro D h₃ tk items ps hD hpl hlen hP hG _ hx
    refine hQ D h₃ tk items ps (ext _ fun x o hb e => hx x o (by simp) hb e) ?_ hpl hlen hP hG
    cases e : s.heap.get? D with
    | none => rfl
    | some o => have hD' : h'.get? D = none := hD; rw [hk _ _ e] at hD'; cases hD'
theorem src_enum {l : Addr} {xs : Array Value} (hA : A.handled = none) (hl : s.heap.IsList l xs) (hsz : xs.size ≤ sizeLine) (hH : ∀ h, Ext s.heap h → Hn h) (hex : ∀ y ∈ ex, ∃ o, s.heap.get? y = some o)
    (test : ∀ C v2 (j : Nat) t s₃ m₃ E', xs[j]? = some v2 → Fr s.heap C s₃.heap m₃ → m₃ a = some (.int (j : Int) t) → m₃ b = some v2 → wpAny (model pw w) A (isTrue c (compEnvC scope cl C env) (eval c (compEnvC scope cl C env))) (fun ok s₄ => ok = p (.int (j : Int) t) v2 ∧ Keeps s₃ s₄) E' s₃)
    (elt' : ∀ C v2 (j : Nat) t s₃ m₃ E', xs[j]? = some v2 → p (.int (j : Int) t) v2 = true → Fr s.heap C s₃.heap m₃ → m₃ a = some (.int (j : Int) t) → m₃ b = some v2 → wpAny (model pw w) A (eval elt (compEnvC scope cl C env)) (fun y s₄ => G (.int (j : Int) t) v2 y ∧ Keeps s₃ s₄) E' s₃)
    (hQ : ∀ D h' tk items (ps : List (Value × Value)), ExtBut ex s.heap h' → X D h' → s.heap.get? D = none → h'.PlainList D items → ps.length = xs.size → (∀ (j : Nat) (q : Value × Value), ps[j]? = some q → (∃ t, q.1 = .int (j : Int) t) ∧ xs[j]? = some q.2) → Paired (fun q y => G q.1 q.2 y) (ps.filter fun q => p q.1 q.2) items.toList → Q D { s with heap := h', toks := tk }) :
    wpAny (model pw w) A (call (.type "enumerate") [.ref l]) (fun xv s₁ => wpAny (model pw w) A (pyIter xv) (SrcPT w A env scope cl a b c elt p G ex Hn X Q) E s₁) E s := by
  obtain ⟨o1, e1, _⟩ := id hl
  have hlt1 := Heap.lt_size e1
  refine call_enumerate_list hl fun h' hE hI hs2 hk => ?_
  refine wpAny_pyIter_enum hE ?_
  have hwr : ∀ y ∈ [s.heap.objs.size + 1, s.heap.objs.size], s.heap.objs.size ≤ y := by
    intro y hy
    simp only [List.mem_cons, List.not_mem_nil, or_false] at hy
    rcases hy with rfl | rfl <;> first | exact Nat.le_refl _ | exact Nat.le_add_right _ _
  have ext : ∀ h₃ : Heap, (∀ x o, x ∉ [s.heap.objs.size + 1, s.heap.objs.size] → h'.get? x = some o → h₃.get? x = some o) → Ext s.heap h₃ := fun h₃ k x o e => k x o (fresh_le e _ hwr) (hk x o e)
  refine ⟨_, _, _, _, _, _, _, fun j v1 v2 => (∃ t, v1 = .int (j : Int) t) ∧ xs[j]? = some v2, rfl, WalksT.enumerate hA (s.heap.objs.size + 1) s.heap.objs.size l (Nat.succ_ne_self _) (ktu_ne 1 hlt1) (Nat.ne_of_lt hlt1) xs, hA, hsz, ?_, ⟨⟨.none, hE⟩, hI, hl.at fun o e => hk _ o e⟩, ?_, hH _ hk, ?_, ?_, ?_, ?_⟩
  · rintro i vals ⟨t, x, h1, rfl⟩
    exact ⟨_, x, rfl, ⟨t, rfl⟩, h1⟩
  · intro x hx
    show x < h'.objs.size
    rw [hs2]
    simp only [List.mem_cons, List.not_mem_nil, or_false] at hx
    rcases hx with rfl | rfl | rfl <;> first | exact Nat.add_lt_add_left (by decide) _ | exact Nat.lt_add_of_pos_right (by decide) | exact Nat.lt_of_lt_of_le hlt1 (Nat.le_add_right _ _)
  · intro y hy
    obtain ⟨o, e⟩ := hex y hy
    exact fresh_le e _ hwr
  · rintro C v1 v2 i s₃ m₃ E' hC ⟨⟨t, rfl⟩, hP⟩ hn h1 h2 hx
    have hC' : h'.objs.size ≤ C := hC
    refine test C v2 i t s₃ m₃ E' hP ⟨hn, ext _ hx, ?_⟩ h1 h2
    rw [hs2] at hC'; exact Nat.le_trans (Nat.le_add_right _ _) hC'
  · rintro C v1 v2 i s₃ m₃ E' hC ⟨⟨t, rfl⟩, hP⟩ hp hn h1 h2 hx
    have hC' : h'.objs.size ≤ C := hC
    refine elt' C v2 i t s₃ m₃ E' hP hp ⟨hn, ext _ hx, ?_⟩ h1 h2
    rw [hs2] at hC'; exact Nat.le_trans (Nat.le_add_right _ _) hC'
  · intro D h₃ tk items ps hD hpl hlen hP hG hX hx
    refine hQ D h₃ tk items ps (fun x o hb e => hx x o hb (fresh_le e _ hwr) (hk x o e)) hX ?_ hpl hlen hP hG
    cases e : s.heap.get? D with
    | none => rfl
    | some o => have hD' : h'.get? D = none := hD; rw [hk _ _ e] at hD'; cases hD'
end
end D32
end
section
open PySem PySem.W PyProof.Rows PySem.Calls
set_option maxRecDepth 100000
set_option maxHeartbeats 4000000
set_option linter.unusedVariables false
namespace D32
local macro_rules | `(tactic| k_room) => `(tactic| ((try simp only [depth_under_make, depth_under_kw, depth_in1, depth_deeper, depth_caller]); omega))
local macro_rules | `(tactic| walk_at "eval Name") => `(tactic| k_dflt (refine' cName_L ?F ?a ?_ ?b ?c ?d; (case F => assumption); (case a => first | assumption | rfl); (case b => rfl); (case c => rfl); (case d => decide); k_whole))
local macro_rules | `(tactic| walk_at "eval Name") => `(tactic| k_dflt (refine' cName_K ?F ?X ?T ?e ?_ ?a ?b ?c ?d; (case F => assumption); (case X => assumption); (case T => assumption); (case e => k_is); (case a => rfl); (case b => rfl); (case c => rfl); (case d => decide); k_whole))
local macro_rules | `(tactic| walk_at "eval Name") => `(tactic| k_dflt (refine' cName_B ?F ?X ?T ?e ?v ?n ?_ ?a ?f ?b ?c ?d; (case F => assumption); (case X => assumption); (case T => assumption); (case e => k_is); (case v => boot_fast); (case n => decide); (case a => rfl); (case f => rfl); (case b => rfl); (case c => rfl); (case d => decide); k_whole))
local macro_rules | `(tactic| walk_at "exec For Name Subscript cons nil") => `(tactic| refine halt ?_)
local macro_rules | `(tactic| walk_at "exec For Name Name cons nil") => `(tactic| refine halt ?_)
local macro_rules | `(tactic| walk_at "exec While") => `(tactic| refine halt ?_)
local macro_rules | `(tactic| walk_at "exec While BoolOp") => `(tactic| refine halt ?_)
local macro_rules | `(tactic| walk_at "pyIter ref") => `(tactic| refine halt ?_)
local macro_rules | `(tactic| walk_at "pyIter str") => `(tactic| refine halt ?_)
local macro_rules | `(tactic| walk_at "eval ListComp") => `(tactic| refine halt ?_)
local macro_rules | `(tactic| walk_at "exec Assign cons ListComp") => `(tactic| refine halt ?_)
local macro_rules | `(tactic| walk_at "call type:zip") => `(tactic| refine halt ?_)
local macro_rules | `(tactic| walk_at "call type:enumerate") => `(tactic| refine halt ?_)
local macro_rules | `(tactic| walk_at "call builtin:all") => `(tactic| refine halt ?_)
local macro_rules | `(tactic| walk_at "eval Name") => `(tactic| k_dflt (refine' ldCellK ?k ?hc ?_ ?b ?c ?d; (case k => with_reducible assumption); (case hc => assumption); (case b => rfl); (case c => rfl); (case d => decide); k_whole))

def fallsB (os : List Nat) (st : Int) : Bool := (os.zip (os.drop 1)).all fun p => decide (st ≤ (p.1 : Int) - (p.2 : Int))
theorem ints_get : ∀ {vs : List Value} {os : List Nat}, IntsAre vs (os.map fun (k : Nat) => (k : Int)) → ∀ (j : Nat) v, vs[j]? = some v → ∃ k t, os[j]? = some k ∧ v = .int (k : Int) t
  | [], [], .nil, j, v, h => by simp at h
  | _, k :: os, .cons _ t hi, 0, v, h => ⟨k, t, rfl, by simpa using h.symm⟩
  | _, k :: os, .cons _ t hi, j + 1, v, h => by
    obtain ⟨k', t', h1, h2⟩ := ints_get hi j v (by simpa using h)
    exact ⟨k', t', by simpa using h1, h2⟩
theorem ints_drop : ∀ {vs : List Value} {os : List Nat}, IntsAre vs (os.map fun (k : Nat) => (k : Int)) → IntsAre (vs.drop 1) ((os.drop 1).map fun (k : Nat) => (k : Int))
  | [], [], .nil => .nil
  | _, k :: os, .cons _ t hi => hi
theorem ints_len {vs : List Value} {os : List Nat} (h : IntsAre vs (os.map fun (k : Nat) => (k : Int))) : vs.length = os.length := by simpa using h.length
theorem bools_paired {st : Int} : ∀ {ps : List (Value × Value)} {ys : List Value} {zs : List (Nat × Nat)}, Paired (fun (q : Value × Value) y => ∃ (x1 x2 : Nat) (t1 t2 : Tok), q.1 = .int (x1 : Int) t1 ∧ q.2 = .int (x2 : Int) t2 ∧ y = .bool (decide (st ≤ (x1 : Int) - (x2 : Int)))) ps ys →
    (∀ (j : Nat) (q : Value × Value), ps[j]? = some q → ∃ (a b : Nat) (t1 t2 : Tok), zs[j]? = some (a, b) ∧ q.1 = .int (a : Int) t1 ∧ q.2 = .int (b : Int) t2) → ps.length = zs.length →
    LSm.BoolsAre ys (zs.map fun p => decide (st ≤ (p.1 : Int) - (p.2 : Int)))
  | _, _, [], .nil, _, _ => .nil
  | _, _, z :: zs, .cons h1 t, hp, hl => by
    obtain ⟨x1, x2, t1, t2, e1, e2, rfl⟩ := h1
    obtain ⟨a, b, u1, u2, hz, f1, f2⟩ := hp 0 _ rfl
    rw [e1] at f1; rw [e2] at f2
    injection f1 with f1 _; injection f2 with f2 _
    have hz : z = (a, b) := by simpa using hz
    subst hz
    rw [List.map_cons, ← f1, ← f2]
    exact .cons _ (bools_paired t (fun j q h => hp (j + 1) q (by simpa using h)) (by simpa using hl))
  | _, _, _ :: _, .nil, _, hl => by simp at hl
  | _, _, [], .cons _ _, _, hl => by simp at hl
theorem falls_spec {w : World} {mean : ExcName → Option Value} {mg mb : Str → Option Value} {A : Around} {s : Shared} {Q E : Value → Shared → Prop} {l : Addr} {items : Array Value} {os : List Nat} {st : Int} {ts : Tok} (hA : A.handled = none)
    (X : (K w.params).In s.heap) (T : TopH mean mg mb s.heap) (hd : A.depth + 3 < recursionLimit) (hl : s.heap.IsList l items) (hi : IntsAre items.toList (os.map fun (k : Nat) => (k : Int))) (hn : os.length ≤ 50)
    (h : ∀ (h' : Heap) (tk : Nat), Ext s.heap h' → Q (.bool (fallsB os st)) { s with heap := h', toks := tk }) : wpAny (model pw w) A (call (.ref 188) [.ref l, .int st ts]) Q E s := by
  refine wpAny_call ?_
  refine call_cells_ret (name := Str.ofString "_law_falls") (params := fArgs (stm 25)) (body := fBody (stm 25)) (scope := fScope (stm 25)) (cd := .ref 187) (doc := .none) (pm := .str (Str.ofString "law_to0032_01") 2438) (o := x188 w.params) (binds := [(Str.ofString "sizes", .ref l), (Str.ofString "step", .int st ts)]) (by omega) (X _ _ (by k_is)) rfl T.nolimit (codeRec_of X (by k_is)) (BindsTo.of_eq rfl) ?_ ?_ ?_
  · intro n x hx
    rcases List.mem_cons.mp hx with rfl | hx
    · exact .inl rfl
    · rw [List.mem_singleton.mp hx]; exact .inr ⟨rfl, rfl⟩
  · decide
  intro h₁ tk cells F N Y
  k_cells Y
  have hlen : items.size = os.length := by have := ints_len hi; simpa using this
  have hl1 : h₁.IsList l items.toList.toArray := by
    obtain ⟨o, e, c⟩ := hl
    exact ⟨o, F.keep _ _ e, c⟩
  have hc1 : h₁.IsCell (s.heap.objs.size + 1) (some (.int st ts)) := by
    obtain ⟨e1, e2, e3⟩ := N _ (List.Mem.head _)
    exact ⟨_, e1, by assumption⟩
  k_steps
  unfold Halt
  refine lcPN_E (cl := [(Str.ofString "step", s.heap.objs.size + 1)]) (fun v1 v2 y => ∃ (x1 x2 : Nat) (t1 t2 : Tok), v1 = .int (x1 : Int) t1 ∧ v2 = .int (x2 : Int) t2 ∧ y = .bool (decide (st ≤ (x1 : Int) - (x2 : Int)))) ?_
  k_steps
  unfold Halt
  rename_i D2 ws2 h2 F2 N2 hI2 hC2 hL2 lt2
  have hws : IntsAre ws2 ((os.drop 1).map fun (k : Nat) => (k : Int)) := by rw [List.map_drop]; exact hI2
  have hwl := ints_len hws
  have hl2 : h2.IsList l items := by
    obtain ⟨o, e, c⟩ := hl
    exact ⟨o, F2.keep _ _ e, c⟩
  have hc2 : h2.IsCell (s.heap.objs.size + 1) (some (.int st ts)) := ⟨_, (N2 _ (List.mem_cons_of_mem _ (List.Mem.head _))).1, by assumption⟩
  refine src_zip (xs := items) (ys := ws2.toArray) (by exact hA) hl2 ⟨_, N2.get (List.Mem.head _), rfl, 0, rfl⟩ (by rw [sizeLine_eq]; omega) ?_ ?_
  · intro C v1 v2 j s₃ m₃ E' h1 h2' F3 hm1 hm2
    obtain ⟨x1, t1, e1, rfl⟩ := ints_get hi j v1 (by simpa using h1)
    obtain ⟨x2, t2, e2, rfl⟩ := ints_get hws j v2 (by simpa using h2')
    have N3 := nilOf F3
    have hk3 : List.lookup (Str.ofString "step") [(Str.ofString "step", s.heap.objs.size + 1)] = some (s.heap.objs.size + 1) := rfl
    have hc3 : s₃.heap.IsCell (s.heap.objs.size + 1) (some (.int st ts)) := by
      obtain ⟨o, e, c⟩ := hc2
      exact ⟨o, F3.keep _ _ e, c⟩
    k_steps
    all_goals (try (with_reducible show Keeps _ _; exact keeps_of fun _ _ e => e))
  · intro D3 h3 tk3 items3 ps e3 hD3 hpl3 hlen3 hps hG
    obtain ⟨F3, N3⟩ := use_ext F2 N2 e3
    have X3 := X.keeps F3.keep
    have T3 := T.keeps F3.keep
    dsimp only
    k_steps
    unfold Halt
    have hB := bools_paired (zs := os.zip (os.drop 1)) hG (fun j q hq => by
      obtain ⟨g1, g2⟩ := hps j q hq
      obtain ⟨x1, t1, e1, f1⟩ := ints_get hi j q.1 (by simpa using g1)
      obtain ⟨x2, t2, e2, f2⟩ := ints_get hws j q.2 (by simpa using g2)
      exact ⟨x1, x2, t1, t2, by rw [List.getElem?_zip_eq_some]; exact ⟨e1, e2⟩, f1, f2⟩) (by
      rw [hlen3, List.length_zip, hlen]; simp [hwl])
    refine LSm.all_bools F3 N3 (by exact hA) (by rw [Array.toArray_toList]; exact hpl3.isList) hB fun h4 tk4 F4 N4 => ?_
    have hv : ((os.zip (os.drop 1)).map fun p => decide (st ≤ (p.1 : Int) - (p.2 : Int))).all id = fallsB os st := by rw [List.all_map]; rfl
    rw [hv]
    dsimp only
    k_steps
    exact h h4 tk4 F4.keep
end D32
end
section
open PySem PySem.W PyProof.Rows PySem.Calls
set_option maxRecDepth 100000
set_option maxHeartbeats 4000000
set_option linter.unusedVariables false
namespace D32
section eng
open PySem.Sre PySem.Sre.M
def St (c t : Array Nat) (st pc pos hd : Nat) (om : Bool) (fr : List Sre.Frame) (wt : Nat) (ans : Option Bool) (seen : Sre.Seen) : M :=
  { code := c, text := t, lim := t.size, start := st, lastStart := t.size, wholeText := false, mustAdvance := false, pc := pc, pos := pos, handed := hd, outermost := om, marks := #[], lastmark := -1, lastindex := -1, loops := #[], inner := none, frames := fr, weight := wt, answer := ans, seen := seen, outcome := none }
def Fn (c t : Array Nat) (st pc pos hd : Nat) (om : Bool) (wt : Nat) (ans : Bool) (seen : Sre.Seen) : M :=
  { St c t st pc pos hd om [] wt (some ans) seen with outcome := some (if ans then .matched else .failed) }
def it : Nat → M → M
  | 0, m => m
  | n + 1, m => it n m.step
theorem it_add : ∀ (a b : Nat) (m : M), it (a + b) m = it b (it a m)
  | 0, b, m => by rw [Nat.zero_add]; rfl
  | a + 1, b, m => by rw [Nat.add_right_comm]; exact it_add a b m.step
def Reach (k : Nat) (m m' : Sre.Seen → M) : Prop := ∀ seen, ∃ n seen', n ≤ k ∧ it n (m seen) = m' seen'
theorem Reach.trans {a b : Nat} {m m' m'' : Sre.Seen → M} (h : Reach a m m') (h' : Reach b m' m'') : Reach (a + b) m m'' := fun seen => by
  obtain ⟨n, s1, hn, e⟩ := h seen
  obtain ⟨n', s2, hn', e'⟩ := h' s1
  exact ⟨n + n', s2, by omega, by rw [it_add, e, e']⟩
theorem Reach.one {m m' : Sre.Seen → M} (h : ∀ seen, ∃ seen', (m seen).step = m' seen') : Reach 1 m m' := fun seen => by
  obtain ⟨s', e⟩ := h seen
  exact ⟨1, s', Nat.le_refl _, e⟩
theorem Reach.mono {a b : Nat} {m m' : Sre.Seen → M} (h : Reach a m m') (hab : a ≤ b) : Reach b m m' := fun seen => by
  obtain ⟨n, s1, hn, e⟩ := h seen
  exact ⟨n, s1, Nat.le_trans hn hab, e⟩
section
variable {c t : Array Nat} {st pc pos hd : Nat} {om : Bool} {fr : List Sre.Frame} {wt : Nat}
theorem r_run (hp : pc < c.size) : ∀ seen, (St c t st pc pos hd om fr wt none seen).step = (St c t st pc pos hd om fr wt none seen).exec := fun seen => by
  show (if pc < c.size then _ else _) = _
  rw [if_pos hp]
theorem acc_lit {x ch : Nat} {sn : Sre.Seen} (h0 : c.getD pc 0 = 16) (h1 : c.getD (pc + 1) 0 = ch) : accepts c pc x sn = .ok (x == ch, sn) := by
  unfold accepts
  rw [h0, h1]
  rfl
theorem width_lit (h0 : c.getD pc 0 = 16) : itemWidth c pc = 2 := by
  unfold itemWidth
  rw [h0]
  rfl
theorem r_lit_ok {ch : Nat} (hp : pc < c.size) (h0 : c.getD pc 0 = 16) (h1 : c.getD (pc + 1) 0 = ch) (hb : pos < t.size) (hc : t.getD pos 0 = ch) :
    Reach 1 (St c t st pc pos hd om fr wt none) (St c t st (pc + 2) (pos + 1) hd om fr wt none) := .one fun seen => by
  rw [r_run hp]
  refine ⟨seen.add 16, ?_⟩
  dsimp only [M.exec, M.word, St, Nat.add_zero]
  rw [h0]
  show (if pos ≥ t.size then _ else match accepts c pc (t.getD pos 0) (seen.add 16) with | .error why => _ | .ok (false, sn) => _ | .ok (true, sn) => _) = _
  rw [if_neg (Nat.not_le.mpr hb), acc_lit h0 h1, hc, beq_self_eq_true]
  show ({ code := c, text := t, lim := t.size, start := st, lastStart := t.size, pc := pc + itemWidth c pc, pos := pos + 1, handed := hd, outermost := om, marks := #[], frames := fr, weight := wt, seen := seen.add 16 } : M) = _
  rw [width_lit h0]
theorem r_lit_no {ch : Nat} (hp : pc < c.size) (h0 : c.getD pc 0 = 16) (h1 : c.getD (pc + 1) 0 = ch) (hc : pos < t.size → t.getD pos 0 ≠ ch) :
    Reach 1 (St c t st pc pos hd om fr wt none) (St c t st pc pos hd om fr wt (some false)) := .one fun seen => by
  rw [r_run hp]
  refine ⟨seen.add 16, ?_⟩
  dsimp only [M.exec, M.word, St, Nat.add_zero]
  rw [h0]
  show (if pos ≥ t.size then _ else match accepts c pc (t.getD pos 0) (seen.add 16) with | .error why => _ | .ok (false, sn) => _ | .ok (true, sn) => _) = _
  by_cases hb : pos < t.size
  · rw [if_neg (Nat.not_le.mpr hb), acc_lit h0 h1, beq_false_of_ne (hc hb)]
    rfl
  · rw [if_pos (Nat.le_of_not_lt hb)]
    rfl
theorem r_jump {pc' : Nat} (hp : pc < c.size) (h0 : c.getD pc 0 = 15) (h1 : pc + 1 + c.getD (pc + 1) 0 = pc') :
    Reach 1 (St c t st pc pos hd om fr wt none) (St c t st pc' pos hd om fr wt none) := .one fun seen => by
  rw [r_run hp]
  refine ⟨seen.add 15, ?_⟩
  dsimp only [M.exec, M.word, St, Nat.add_zero]
  rw [h0, h1]
  rfl
theorem r_succ (hp : pc < c.size) (h0 : c.getD pc 0 = 1) :
    Reach 1 (St c t st pc pos hd om fr wt none) (St c t st pc pos pos om fr wt (some true)) := .one fun seen => by
  rw [r_run hp]
  refine ⟨seen.add 1, ?_⟩
  dsimp only [M.exec, M.word, St, Nat.add_zero]
  rw [h0]
  show (if (om && ((false && pos != t.size) || (false && pos == st))) = true then _ else _) = _
  rw [if_neg (by simp)]
  rfl
theorem r_at {b : Bool} (hp : pc < c.size) (h0 : c.getD pc 0 = 6) (h1 : c.getD (pc + 1) 0 = 1) (hb : (pos == 0 || t.getD (pos - 1) 0 == 10) = b) :
    Reach 1 (St c t st pc pos hd om fr wt none) (if b then St c t st (pc + 2) pos hd om fr wt none else St c t st pc pos hd om fr wt (some false)) := .one fun seen => by
  rw [r_run hp]
  subst hb
  refine ⟨(seen.add 6).add (43 + 1), ?_⟩
  dsimp only [M.exec, M.word, St, Nat.add_zero]
  rw [h0, h1]
  show (if (pos == 0 || t.getD (pos - 1) 0 == 10) = true then _ else _) = _
  cases hq : (pos == 0 || t.getD (pos - 1) 0 == 10)
  · rfl
  · rfl
theorem r_branch (hp : pc < c.size) (h0 : c.getD pc 0 = 7) (h1 : (c.getD (pc + 1) 0 == 0) = false) (hw : wt ≤ 100) :
    Reach 1 (St c t st pc pos hd om fr wt none) (St c t st (pc + 2) pos pos om ({ wait := .nextBranch, pc := pc + 1, pos := pos, outermost := om, kept := { lastmark := -1, lastindex := -1, whole := false, marks := #[] } } :: fr) (wt + 1) none) := .one fun seen => by
  rw [r_run hp]
  refine ⟨seen.add 7, ?_⟩
  dsimp only [M.exec, M.word, St, Nat.add_zero]
  rw [h0]
  show (if (c.getD (pc + 1) 0 == 0) = true then _ else if wt + 1 + 0 > 16777216 then _ else _) = _
  rw [h1, if_neg Bool.false_ne_true, if_neg (by omega)]
  rfl
theorem r_branch_no {pc' k pos' : Nat} {om' : Bool} (h0 : pc' + c.getD pc' 0 = k) (h1 : (c.getD k 0 == 0) = false) (hw : wt ≤ 100) :
    Reach 1 (St c t st pc pos hd om ({ wait := .nextBranch, pc := pc', pos := pos', outermost := om', kept := { lastmark := -1, lastindex := -1, whole := false, marks := #[] } } :: fr) (wt + 1) (some false))
      (St c t st (k + 1) pos' pos' om' ({ wait := .nextBranch, pc := k, pos := pos', outermost := om', kept := { lastmark := -1, lastindex := -1, whole := false, marks := #[] } } :: fr) (wt + 1) none) := .one fun seen => by
  have hw' : ¬ (16777216 < wt + 1) := by omega
  simp only [Array.getD_eq_getD_getElem?] at h0 h1
  simp [M.step, M.resume, M.putBack, St, h0, h1, M.alternative, M.attempt, M.frame, hw']
theorem r_yes {f : Sre.Frame} (hf : f.wait = .nextStart ∨ f.wait = .nextBranch) (hk : f.kept.marks.size = 0) :
    Reach 1 (St c t st pc pos hd om (f :: fr) (wt + 1) (some true)) (St c t st f.pc f.pos hd f.outermost fr wt (some true)) := .one fun seen => by
  refine ⟨seen, ?_⟩
  have hw : wt + 1 - (1 + f.kept.marks.size) = wt := by omega
  rcases hf with hf | hf
  · show M.resume { St c t st f.pc f.pos hd f.outermost fr (wt + 1 - (1 + f.kept.marks.size)) none seen with answer := none } f true = _
    rw [hw]
    unfold M.resume
    rw [hf]
    rfl
  · show M.resume { St c t st f.pc f.pos hd f.outermost fr (wt + 1 - (1 + f.kept.marks.size)) none seen with answer := none } f true = _
    rw [hw]
    unfold M.resume
    rw [hf]
    rfl
theorem r_end {b : Bool} : Reach 1 (St c t st pc pos hd om [] wt (some b)) (Fn c t st pc pos hd om wt b) := .one fun seen => ⟨seen, rfl⟩
theorem r_not (hp : pc < c.size) (h0 : c.getD pc 0 = 5) (h2 : c.getD (pc + 2) 0 = 0) (hw : wt ≤ 100) :
    Reach 1 (St c t st pc pos hd om fr wt none) (St c t st (pc + 3) pos pos false ({ wait := .lookNot, pc := pc, pos := pos, outermost := om, kept := { lastmark := -1, lastindex := -1, whole := false, marks := #[] } } :: fr) (wt + 1) none) := .one fun seen => by
  rw [r_run hp]
  refine ⟨seen.add 5, ?_⟩
  dsimp only [M.exec, M.word, St, Nat.add_zero]
  rw [h0]
  show (if pos < c.getD (pc + 2) 0 then _ else if wt + 1 + 0 > 16777216 then _ else _) = _
  rw [h2, if_neg (Nat.not_lt_zero _), if_neg (by omega)]
  rfl
theorem r_not_no {pc' k pos' : Nat} {om' : Bool} (h0 : pc' + 1 + c.getD (pc' + 1) 0 = k) :
    Reach 1 (St c t st pc pos hd om ({ wait := .lookNot, pc := pc', pos := pos', outermost := om', kept := { lastmark := -1, lastindex := -1, whole := false, marks := #[] } } :: fr) (wt + 1) (some false))
      (St c t st k pos' hd om' fr wt none) := .one fun seen => by
  refine ⟨seen, ?_⟩
  show ({ code := c, text := t, lim := t.size, start := st, lastStart := t.size, pc := pc' + 1 + c.getD (pc' + 1) 0, pos := pos', handed := hd, outermost := om', marks := #[], frames := fr, weight := wt + 1 - (1 + 0), seen := seen } : M) = _
  rw [h0]
  rfl
theorem r_next {pc' s : Nat} {om' : Bool} (hs : s < t.size) (hf : ∀ st pc pos hd om fr wt ans seen, (St c t st pc pos hd om fr wt ans seen).hasFirstSet = false) :
    Reach 1 (St c t st pc pos hd om [{ wait := .nextStart, pc := pc', pos := s, outermost := om' }] 1 (some false))
      (St c t (s + 1) pc' (s + 1) (s + 1) false [{ wait := .nextStart, pc := pc', pos := s + 1, outermost := false }] 1 none) := .one fun seen => by
  have hf' : (St c t st pc' s hd om' [] 0 none seen).hasFirstSet = false := hf ..
  refine ⟨seen, ?_⟩
  show (if s < t.size then M.attemptFrom (St c t st pc' s hd om' [] 0 none seen) (s + 1) false else _) = _
  rw [if_pos hs]
  unfold M.attemptFrom
  rw [hf']
  rfl
theorem r_last {pc' s : Nat} {om' : Bool} (hs : ¬ s < t.size) :
    Reach 1 (St c t st pc pos hd om [{ wait := .nextStart, pc := pc', pos := s, outermost := om' }] 1 (some false)) (St c t st pc' s hd om' [] 0 (some false)) := .one fun seen => by
  refine ⟨seen, ?_⟩
  show (if s < t.size then _ else _) = _
  rw [if_neg hs]
  rfl
end
def c1 : Array Nat := #[14, 4, 0, 1, 1, 6, 1, 16, 46, 1]
def c2 : Array Nat := #[14, 9, 4, 1, 2, 16, 10, 16, 13, 0, 7, 7, 16, 13, 16, 10, 15, 18, 5, 16, 10, 15, 13, 11, 16, 13, 5, 5, 0, 16, 10, 1, 15, 2, 0, 1]
def fr1 (s pc : Nat) (om : Bool) : List Sre.Frame := [{ wait := .nextStart, pc := pc, pos := s, outermost := om }]
def bol (t : Array Nat) (s : Nat) : Bool := (s == 0 || t.getD (s - 1) 0 == 10) && t.getD s 0 == 46
theorem p1_hit {t : Array Nat} {s : Nat} {om : Bool} (hs : s < t.size) (hb : bol t s = true) :
    Reach 6 (St c1 t s 5 s s om (fr1 s 5 om) 1 none) (Fn c1 t s 5 s (s + 1) om 0 true) := by
  have hb' := Bool.and_eq_true_iff.mp hb
  have h46 : t.getD s 0 = 46 := by simpa using hb'.2
  refine Reach.mono (((((Reach.trans (r_at (b := true) (by decide) rfl rfl hb'.1) ?_)))) ) (Nat.le_refl (1 + 5))
  refine Reach.mono (Reach.trans (r_lit_ok (ch := 46) (by decide) rfl rfl hs h46) ?_) (Nat.le_refl (1 + 4))
  refine Reach.mono (Reach.trans (r_succ (by decide) rfl) ?_) (Nat.le_refl (1 + 3))
  exact Reach.mono (Reach.trans (r_yes (f := { wait := .nextStart, pc := 5, pos := s, outermost := om }) (.inl rfl) rfl) r_end) (by decide)
theorem p1_miss {t : Array Nat} {s : Nat} {om : Bool} (hb : s < t.size → bol t s = false) :
    Reach 2 (St c1 t s 5 s s om (fr1 s 5 om) 1 none) (fun seen => St c1 t s 5 s s om (fr1 s 5 om) 1 (some false) seen) ∨ Reach 2 (St c1 t s 5 s s om (fr1 s 5 om) 1 none) (St c1 t s 7 s s om (fr1 s 5 om) 1 (some false)) := by
  cases h1 : (s == 0 || t.getD (s - 1) 0 == 10) with
  | false => exact .inl (Reach.mono (r_at (b := false) (by decide) rfl rfl h1) (by decide))
  | true =>
    refine .inr (Reach.mono (Reach.trans (r_at (b := true) (by decide) rfl rfl h1) (r_lit_no (ch := 46) (by decide) rfl rfl fun hs => ?_)) (by decide))
    have := hb hs
    unfold bol at this
    rw [h1, Bool.true_and] at this
    simpa using this
theorem nofirst1 (t : Array Nat) (st pc pos hd om fr wt ans seen) : (St c1 t st pc pos hd om fr wt ans seen).hasFirstSet = false := rfl
theorem p1_find {t : Array Nat} {b : Nat} (hb : b < t.size) (hB : bol t b = true) : ∀ (n s : Nat) (om : Bool), s + n = b → (∀ x, s ≤ x → x < b → bol t x = false) →
    ∃ om', Reach (3 * n + 6) (St c1 t s 5 s s om (fr1 s 5 om) 1 none) (Fn c1 t b 5 b (b + 1) om' 0 true)
  | 0, s, om, e, h => by
    obtain rfl : s = b := e
    exact ⟨om, p1_hit hb hB⟩
  | n + 1, s, om, e, h => by
    obtain ⟨om', ih⟩ := p1_find hb hB n (s + 1) false (by omega) (fun x h1 h2 => h x (by omega) h2)
    refine ⟨om', ?_⟩
    have hk : 2 + (1 + (3 * n + 6)) ≤ 3 * (n + 1) + 6 := by omega
    rcases p1_miss (om := om) (fun _ => h s (Nat.le_refl _) (by omega)) with g | g
    · exact Reach.mono (Reach.trans g (Reach.trans (r_next (by omega) (nofirst1 t)) ih)) hk
    · exact Reach.mono (Reach.trans g (Reach.trans (r_next (by omega) (nofirst1 t)) ih)) hk
theorem p1_none {t : Array Nat} : ∀ (n s : Nat) (om : Bool), s + n = t.size → (∀ x, s ≤ x → x < t.size → bol t x = false) →
    ∃ pc pos hd om', Reach (3 * n + 6) (St c1 t s 5 s s om (fr1 s 5 om) 1 none) (Fn c1 t t.size pc pos hd om' 0 false)
  | 0, s, om, e, h => by
    obtain rfl : s = t.size := e
    rcases p1_miss (t := t) (om := om) (fun hlt => absurd hlt (Nat.lt_irrefl _)) with g | g
    · exact ⟨_, _, _, _, Reach.mono (Reach.trans g (Reach.trans (r_last (Nat.lt_irrefl _)) r_end)) (by decide)⟩
    · exact ⟨_, _, _, _, Reach.mono (Reach.trans g (Reach.trans (r_last (Nat.lt_irrefl _)) r_end)) (by decide)⟩
  | n + 1, s, om, e, h => by
    obtain ⟨pc, pos, hd, om', ih⟩ := p1_none n (s + 1) false (by omega) (fun x h1 h2 => h x (by omega) h2)
    refine ⟨pc, pos, hd, om', ?_⟩
    have hk : 2 + (1 + (3 * n + 6)) ≤ 3 * (n + 1) + 6 := by omega
    rcases p1_miss (om := om) (fun _ => h s (Nat.le_refl _) (by omega)) with g | g
    · exact Reach.mono (Reach.trans g (Reach.trans (r_next (by omega) (nofirst1 t)) ih)) hk
    · exact Reach.mono (Reach.trans g (Reach.trans (r_next (by omega) (nofirst1 t)) ih)) hk
theorem search1 {t : Array Nat} {s : Nat} (hs : s < t.size) : ∃ seen, forSearch c1 t 0 s t.size false = St c1 t s 5 s s true (fr1 s 5 true) 1 none seen := by
  refine ⟨({} : Sre.Seen).add 14, ?_⟩
  show (if (decide (s > t.size) || decide (t.size - s < 1)) = true then _ else M.attemptFrom (St c1 t s 5 s s true [] 0 none (({} : Sre.Seen).add 14)) s true) = _
  rw [if_neg (by simp; omega)]
  rfl
theorem search_none {c t : Array Nat} (hc : (header c).1 = 1) : ∃ m, forSearch c t 0 t.size t.size false = M.say m false ∧ m.outcome = none ∧ m.frames = [] := by
  have hq : (decide (t.size > t.size) || decide (t.size - t.size < (header c).1)) = true := by simp [hc]
  refine ⟨{ St c t t.size (header c).2 t.size t.size true [] 0 none (if (header c).2 == 0 then {} else ({} : Sre.Seen).add 14) with lastStart := 0 }, ?_, rfl, rfl⟩
  show (if (decide (t.size > t.size) || decide (t.size - t.size < (header c).1)) = true then _ else _) = _
  rw [if_pos hq]
  rfl
-- the second pattern
def eol (x : Nat) : Bool := x == 10 || x == 13
def wid (t : Array Nat) (s : Nat) : Nat := if t.getD s 0 = 13 ∧ s + 1 < t.size ∧ t.getD (s + 1) 0 = 10 then 2 else 1
theorem p2_hit {t : Array Nat} {s : Nat} {om : Bool} (hs : s < t.size) (hb : eol (t.getD s 0) = true) :
    Reach 20 (St c2 t s 10 s s om (fr1 s 10 om) 1 none) (Fn c2 t s 10 s (s + wid t s) om 0 true) := by
  have fin : ∀ (k pos hd : Nat) , Reach 3 (St c2 t s 35 pos hd om ({ wait := .nextBranch, pc := k, pos := s, outermost := om, kept := { lastmark := -1, lastindex := -1, whole := false, marks := #[] } } :: fr1 s 10 om) 2 (some true)) (Fn c2 t s 10 s hd om 0 true) := fun k pos hd =>
    Reach.mono (Reach.trans (r_yes (.inr rfl) rfl) (Reach.trans (r_yes (f := { wait := .nextStart, pc := 10, pos := s, outermost := om }) (.inl rfl) rfl) r_end)) (by decide)
  have b0 : Reach 1 (St c2 t s 10 s s om (fr1 s 10 om) 1 none) _ := r_branch (by decide) rfl rfl (by decide)
  rcases Bool.or_eq_true_iff.mp hb with h10 | h13
  · have h10 : t.getD s 0 = 10 := by simpa using h10
    have hw : wid t s = 1 := by unfold wid; rw [if_neg]; rw [h10]; intro h; exact absurd h.1 (by decide)
    rw [hw]
    refine Reach.mono (Reach.trans b0 (Reach.trans (r_lit_no (ch := 13) (by decide) rfl rfl fun _ => by rw [h10]; decide) (Reach.trans (r_branch_no (k := 18) rfl rfl (by decide))
      (Reach.trans (r_lit_ok (ch := 10) (by decide) rfl rfl hs h10) (Reach.trans (r_jump (pc' := 35) (by decide) rfl rfl) (Reach.trans (r_succ (by decide) rfl) (fin _ _ _))))))) (by decide)
  · have h13 : t.getD s 0 = 13 := by simpa using h13
    by_cases h2 : s + 1 < t.size ∧ t.getD (s + 1) 0 = 10
    · have hw : wid t s = 2 := by unfold wid; rw [if_pos ⟨h13, h2⟩]
      rw [hw]
      refine Reach.mono (Reach.trans b0 (Reach.trans (r_lit_ok (ch := 13) (by decide) rfl rfl hs h13) (Reach.trans (r_lit_ok (ch := 10) (by decide) rfl rfl h2.1 h2.2)
        (Reach.trans (r_jump (pc' := 35) (by decide) rfl rfl) (Reach.trans (r_succ (by decide) rfl) (fin _ _ _)))))) (by decide)
    · have hw : wid t s = 1 := by unfold wid; rw [if_neg]; exact fun h => h2 h.2
      rw [hw]
      have no10 : s + 1 < t.size → t.getD (s + 1) 0 ≠ 10 := fun a b => h2 ⟨a, b⟩
      refine Reach.mono (Reach.trans b0 (Reach.trans (r_lit_ok (ch := 13) (by decide) rfl rfl hs h13) (Reach.trans (r_lit_no (ch := 10) (by decide) rfl rfl no10) (Reach.trans (r_branch_no (k := 18) rfl rfl (by decide))
        (Reach.trans (r_lit_no (ch := 10) (by decide) rfl rfl fun _ => by rw [h13]; decide) (Reach.trans (r_branch_no (k := 23) rfl rfl (by decide)) (Reach.trans (r_lit_ok (ch := 13) (by decide) rfl rfl hs h13)
        (Reach.trans (r_not (by decide) rfl rfl (by decide)) (Reach.trans (r_lit_no (ch := 10) (by decide) rfl rfl no10) (Reach.trans (r_not_no (k := 32) rfl)
        (Reach.trans (r_jump (pc' := 35) (by decide) rfl rfl) (Reach.trans (r_succ (by decide) rfl) (fin _ _ _))))))))))))) (by decide)
theorem set2 {x : Nat} {sn : Sre.Seen} : ∃ seen', inSet c2 x c2.size 5 true sn = .ok (eol x, seen') := by
  show ∃ seen', (if x == 10 then _ else if x == 13 then _ else _) = _
  unfold eol
  cases h : (x == 10)
  · cases h' : (x == 13)
    · exact ⟨_, rfl⟩
    · exact ⟨_, rfl⟩
  · exact ⟨_, rfl⟩
theorem adm {m : M} (hc : m.code = c2) {b : Nat} (hb : b < m.lim) (hB : eol (m.text.getD b 0) = true) : ∀ (n s fuel : Nat) (sn : Sre.Seen), s + n = b → n < fuel → (∀ x, s ≤ x → x < b → eol (m.text.getD x 0) = false) →
    ∃ seen', admitted m fuel s sn = .ok (some b, seen')
  | n, s, 0, sn, e, hf, h => absurd hf (Nat.not_lt_zero _)
  | 0, s, fuel + 1, sn, e, hf, h => by
    obtain rfl : s = b := e
    obtain ⟨s', hs'⟩ := set2 (x := m.text.getD s 0) (sn := sn)
    refine ⟨s', ?_⟩
    unfold admitted
    rw [if_neg (by omega), hc, hs', hB]
  | n + 1, s, fuel + 1, sn, e, hf, h => by
    obtain ⟨s', hs'⟩ := set2 (x := m.text.getD s 0) (sn := sn)
    obtain ⟨s2, ih⟩ := adm hc hb hB n (s + 1) fuel s' (by omega) (by omega) (fun x h1 h2 => h x (by omega) h2)
    refine ⟨s2, ?_⟩
    unfold admitted
    rw [if_neg (by omega), hc, hs', h s (Nat.le_refl _) (by omega)]
    exact ih
theorem search2 {t : Array Nat} {s b : Nat} (hs : s ≤ b) (hb : b < t.size) (hB : eol (t.getD b 0) = true) (h : ∀ x, s ≤ x → x < b → eol (t.getD x 0) = false) :
    ∃ seen, forSearch c2 t 0 s t.size false = St c2 t b 10 b b true (fr1 b 10 true) 1 none seen := by
  obtain ⟨seen', ha⟩ := adm (m := St c2 t s 10 s s true [] 0 none (({} : Sre.Seen).add 14)) rfl hb hB (b - s) s (t.size + 1 - s) (({} : Sre.Seen).add 14) (by omega) (by show b - s < t.size + 1 - s; omega) h
  refine ⟨seen', ?_⟩
  show (if (decide (s > t.size) || decide (t.size - s < 1)) = true then _ else M.attemptFrom (St c2 t s 10 s s true [] 0 none (({} : Sre.Seen).add 14)) s true) = _
  rw [if_neg (by simp; omega)]
  unfold M.attemptFrom
  show (match admitted (St c2 t s 10 s s true [] 0 none (({} : Sre.Seen).add 14)) (t.size + 1 - s) s (({} : Sre.Seen).add 14) with | .ok (some s, sn) => _ | .ok (none, sn) => _ | .error why => _) = _
  rw [ha]
  rfl
end eng
end D32
end
section
open PySem PySem.W PyProof.Rows PySem.Calls
set_option maxRecDepth 100000
set_option maxHeartbeats 4000000
set_option linter.unusedVariables false
namespace D32
section eng2
open PySem.Sre PySem.Builtin PySem.Builtin.Re
theorem step_done {m : M} (h : m.outcome.isSome = true) : m.step = m := by unfold M.step; rw [if_pos h]
theorem it_done : ∀ (n : Nat) {m : M}, m.outcome.isSome = true → it n m = m
  | 0, _, _ => rfl
  | n + 1, m, h => by show it n m.step = m; rw [step_done h]; exact it_done n h
theorem runFor_it : ∀ (n : Nat) (m : M), M.runFor n m = it n m
  | 0, _ => rfl
  | n + 1, m => by
    show (if m.outcome.isSome = true then m else M.runFor n m.step) = it n m.step
    by_cases h : m.outcome.isSome = true
    · rw [if_pos h, step_done h, it_done n h]
    · rw [if_neg h, runFor_it n]
section
variable {M : Model} {A : Around} {E : Value → Shared → Prop} {s : Shared}
theorem wp_drive : ∀ (T n : Nat) {m m' : Sre.M} {Q : Sre.M → Shared → Prop} {s : Shared}, it n m = m' → m'.outcome.isSome = true → n + 1 ≤ 4 * T → Q m' s → wpAny M A (reDrive T m) Q E s
  | 0, n, m, m', Q, s, e, ho, hn, hQ => absurd hn (by omega)
  | T + 1, n, m, m', Q, s, e, ho, hn, hQ => by
    show wpAny M A (if (m.runFor reTurnSteps).outcome.isSome = true then pure (m.runFor reTurnSteps) else rule "sre.turn" >>= fun _ => reDrive T (m.runFor reTurnSteps)) Q E s
    rw [runFor_it]
    by_cases h : (it reTurnSteps m).outcome.isSome = true
    · rw [if_pos h]
      have e' : it reTurnSteps m = m' := by
        rcases Nat.le_total reTurnSteps n with hl | hl
        · rw [← e, ← Nat.add_sub_cancel' hl, it_add, it_done _ h]
        · rw [← it_done (reTurnSteps - n) ho, ← e, ← it_add, Nat.add_sub_cancel' hl]
      rw [e']
      exact wpAny_pure hQ
    · rw [if_neg h]
      have hl : reTurnSteps ≤ n := by
        refine Nat.le_of_not_lt fun hl => h ?_
        rw [← Nat.add_sub_cancel' (Nat.le_of_lt hl), it_add, e, it_done _ ho]
        exact ho
      refine wpAny_bind (wpAny_rule (wp_drive T (n - reTurnSteps) ?_ ho ?_ hQ))
      · rw [← it_add, Nat.add_sub_cancel' hl]
        exact e
      · have : reTurnSteps = 4 := rfl
        omega
theorem wp_seen {f : Nat → PUnit → Sem (ForInStep PUnit)} {Q : PUnit → Shared → Prop} (hf : ∀ i u s (Q : ForInStep PUnit → Shared → Prop), Q (.yield ⟨⟩) s → wpAny M A (f i u) Q E s) (l : List Nat) (hQ : Q ⟨⟩ s) :
    wpAny M A (forIn l PUnit.unit f) Q E s :=
  wpAny_forIn_list f (fun _ _ s' => s' = s) Q (fun x rest b s' e => hf x b s' _ e) (fun b s' e => by rw [e]; exact hQ) l ⟨⟩ rfl
theorem wp_toEnd {m m' : Sre.M} {n : Nat} {yes : Bool} {Q : Option Sre.M → Shared → Prop} (e : it n m = m') (ho : m'.outcome = some (if yes then .matched else .failed)) (hn : n ≤ 2 ^ 60) (hQ : Q (if yes then some m' else none) s) :
    wpAny M A (reRunToEnd m) Q E s := by
  unfold reRunToEnd
  refine wpAny_bind (wp_drive (2 ^ 64) n e (by rw [ho]; rfl) (by omega) ?_)
  refine wpAny_bind (wp_seen (fun i u s Q hq => ?_) _ ?_)
  · show wpAny M A (if m'.seen.has i = true then _ else _) Q E s
    by_cases h : m'.seen.has i = true
    · rw [if_pos h]
      exact wpAny_bind (wpAny_rule (wpAny_pure hq))
    · rw [if_neg h]
      exact wpAny_pure hq
  · rw [ho]
    cases yes <;> exact wpAny_pure hQ
end
def Match (c t : Array Nat) (d b e : Nat) : Prop := ∃ n m', n ≤ 2 ^ 60 ∧ it n (forSearch c t 0 d t.size false) = m' ∧ m'.outcome = some .matched ∧ m'.start = b ∧ m'.handed = e
def NoMatch (c t : Array Nat) (d : Nat) : Prop := ∃ n m', n ≤ 2 ^ 60 ∧ it n (forSearch c t 0 d t.size false) = m' ∧ m'.outcome = some .failed
inductive Subs (c : Array Nat) (x r : Str) : Nat → List Str → Prop
  | last {d : Nat} : NoMatch c x.cps d → Subs c x r d (if d < x.cps.size then [⟨x.cps.extract d x.cps.size⟩] else [])
  | hit {d b e : Nat} {ps : List Str} : Match c x.cps d b e → b < e → Subs c x r e ps → Subs c x r d ((if d < b then [⟨x.cps.extract d b⟩] else []) ++ r :: ps)
def IsPat (h : Heap) (p : Addr) (c : Array Nat) : Prop := ∃ o vs q o2 xs n, h.get? p = some o ∧ o.data = .fields vs ∧ o.cls = .type "re.Pattern" ∧ o.dict = none ∧ vs.getD 5 .none = .ref q ∧ vs.getD 6 .none = .int 0 0 ∧ vs.getD 2 .none = .int 0 0 ∧ h.get? q = some o2 ∧ o2.data = .seq xs n ∧ (xs.map reRawOf).map (·.toNat) = c
theorem IsPat.keeps {h h' : Heap} {p : Addr} {c : Array Nat} (P : IsPat h p c) (e : ∀ b o, h.get? b = some o → h'.get? b = some o) : IsPat h' p c := by
  obtain ⟨o, vs, q, o2, xs, n, h1, h2, h3, h4, h5, h6, h7, h8, h9, h10⟩ := P
  exact ⟨o, vs, q, o2, xs, n, e _ _ h1, h2, h3, h4, h5, h6, h7, e _ _ h8, h9, h10⟩
section
variable {M : Model} {A : Around} {E : Value → Shared → Prop} {s : Shared}
theorem wp_target {p : Addr} {c : Array Nat} {x : Str} {tx : Tok} {Q : ReTarget → Shared → Prop} (P : IsPat s.heap p c)
    (h : Q { pattern := .ref p, string := .str x tx, code := c, text := x.cps, kind := 0, groups := 0, pos := 0, lim := x.cps.size } s) : wpAny M A (reWholeTarget (.ref p) (.str x tx)) Q E s := by
  obtain ⟨o, vs, q, o2, xs, n, h1, h2, h3, h4, h5, h6, h7, h8, h9, h10⟩ := P
  unfold reWholeTarget
  refine wpAny_bind (wpAny_fieldsOf h1 h2 ?_)
  refine wpAny_bind (m := reTextOf (.str x tx)) (wpAny_pure ?_)
  rw [h6]
  refine wpAny_bind (m := reNoCollectionInside (.str x tx) 0) (wpAny_pure ?_)
  rw [h5, h7]
  unfold reRawItems
  refine wpAny_bind (wpAny_bind (wpAny_seqItems h8 h9 ?_))
  refine wpAny_pure (wpAny_pure ?_)
  rw [Option.getD_some, h10]
  exact h
theorem wp_hit {p v : Value} {c t : Array Nat} {d b e : Nat} {Q : Option Sre.M → Shared → Prop} (H : Match c t d b e) (h : ∀ m' : Sre.M, m'.start = b → m'.handed = e → Q (some m') s) :
    wpAny M A (reNextFound { pattern := p, string := v, code := c, text := t, kind := 0, groups := 0, pos := 0, lim := t.size } d false) Q E s := by
  obtain ⟨n, m', hn, e1, e2, e3, e4⟩ := H
  exact wp_toEnd (yes := true) e1 e2 hn (h m' e3 e4)
theorem wp_nohit {p v : Value} {c t : Array Nat} {d : Nat} {Q : Option Sre.M → Shared → Prop} (H : NoMatch c t d) (h : Q none s) :
    wpAny M A (reNextFound { pattern := p, string := v, code := c, text := t, kind := 0, groups := 0, pos := 0, lim := t.size } d false) Q E s := by
  obtain ⟨n, m', hn, e1, e2⟩ := H
  exact wp_toEnd (yes := false) e1 e2 hn h
end
theorem entry_reloop : entryFor table "re.Pattern.sub.loop" = some «re.Pattern.sub.loop» := entryFor_of_fast (by kernel_rfl)
theorem reloop_plain : plainId "re.Pattern.sub.loop" = true := by decide +kernel
def total (ps : List Str) : Nat := (ps.map (·.length)).sum
theorem total_app (a b : List Str) : total (a ++ b) = total a + total b := by unfold total; rw [List.map_append, List.sum_append]
theorem strs_snoc {r : Str} {t : Tok} : ∀ {vs : List Value} {ys : List Str}, StrsAre vs ys → StrsAre (vs ++ [.str r t]) (ys ++ [r])
  | _, _, .nil => .cons _ _ .nil
  | _, _, .cons _ _ h => .cons _ _ (strs_snoc h)
theorem push_seq {h : Heap} {D : Addr} {xs : Array Value} {k : Nat} {v : Value} (ho : h.get? D = some (seqObj "list" xs k)) :
    ∃ k', (h.update D (Obj.mapSeq (·.push v))).get? D = some (seqObj "list" (xs.push v) k') := ⟨_, get?_update_seq ho fun a => a.push v⟩
section
variable {w : World} {A : Around} {E : Value → Shared → Prop} {s : Shared}
theorem wp_push {D : Addr} {xs : Array Value} {k : Nat} {v : Value} {Q : Unit → Shared → Prop} (ho : s.heap.get? D = some (seqObj "list" xs k)) (hz : xs.size ≤ 1000000)
    (h : ∀ h' k', h'.get? D = some (seqObj "list" (xs.push v) k') → ExtBut [D] s.heap h' → Q () { s with heap := h' }) : wpAny (model pw w) A (updateSeq D (·.push v)) Q E s := by
  obtain ⟨k', hk⟩ := push_seq (v := v) ho
  have u := Heap.SameBut.update s.heap D (Obj.mapSeq (·.push v))
  refine wpAny_updateSeq ho rfl (h _ k' hk fun b o hb e => ?_) (by rw [sizeLine_eq]; omega) (by rw [sizeLine_eq, Array.size_push]; omega)
  rw [u.2 b (by simpa using hb)]
  exact e
theorem wp_slice {t : Array Nat} {b e : Nat} {Q : Value → Shared → Prop} (ht : t.size ≤ 100000) (h : Q (.str ⟨t.extract b e⟩ s.toks) { s with toks := s.toks + 1 }) : wpAny (model pw w) A (reSlice t 0 b e) Q E s := by
  show wpAny (model pw w) A (mkStr ⟨t.extract b e⟩) Q E s
  refine wpAny_mkStr h ?_
  rw [sizeLine_eq]
  show (t.extract b e).size ≤ _
  rw [Array.size_extract]
  omega
def piece (t : Array Nat) (d b : Nat) : List Str := if d < b then [⟨t.extract d b⟩] else []
theorem wp_piece {D : Addr} {t : Array Nat} {d b : Nat} {k : Sem PySem.Fin} {ys : Array Value} {acc : List Str} {n : Nat} {base : Heap} {Q : PySem.Fin → Shared → Prop} (ht : t.size ≤ 100000) (hD : base.get? D = none) (hE : Ext base s.heap)
    (ho : s.heap.get? D = some (seqObj "list" ys n)) (hS : StrsAre ys.toList acc) (hl : acc.length ≤ 500000)
    (h : ∀ h' tk ys' n', Ext base h' → h'.get? D = some (seqObj "list" ys' n') → StrsAre ys'.toList (acc ++ piece t d b) → wpAny (model pw w) A k Q E { s with heap := h', toks := tk }) :
    wpAny (model pw w) A (if d < b then (reSlice t 0 d b >>= fun v => updateSeq D (fun a => a.push v) >>= fun _ => k) else k) Q E s := by
  have hsz : ys.size = acc.length := by have := hS.length; simpa using this
  unfold piece at h
  by_cases hdb : d < b
  · rw [if_pos hdb]
    rw [if_pos hdb] at h
    refine wpAny_bind (wp_slice ht (wpAny_bind (wp_push (s := { s with toks := s.toks + 1 }) ho (by omega) fun h' k' e1 e2 => ?_)))
    refine h h' (s.toks + 1) _ k' (fun a o ea => e2 a o ?_ (hE a o ea)) e1 (by rw [Array.toList_push]; exact strs_snoc hS)
    intro hm
    rw [List.mem_singleton.mp hm, hD] at ea
    cases ea
  · rw [if_neg hdb]
    rw [if_neg hdb, List.append_nil] at h
    exact h s.heap s.toks ys n hE ho hS
theorem reloop_spec {p D : Addr} {c : Array Nat} {x r : Str} {tx tr : Tok} {base : Heap} {R : Result → Shared → Prop} (hr : r.length ≤ 100) (hx : x.cps.size ≤ 100000) (P : IsPat base p c) (hD : base.get? D = none) :
    ∀ {d : Nat} {ps : List Str}, Subs c x r d ps → ∀ (s : Shared) (acc : List Str) (ys : Array Value) (k : Nat) (n : Int), Ext base s.heap →
    s.heap.get? D = some (seqObj "list" ys k) → StrsAre ys.toList acc → (acc ++ ps).length ≤ 500000 → total (acc ++ ps) ≤ 10000000 →
    (∀ h' tk t', Ext base h' → R (.ok (.ret (.str (Txt.join (Str.ofString "") (acc ++ ps)) t'))) { s with heap := h', toks := tk }) →
    codeAny (model pw w) A (.builtin "re.Pattern.sub.loop" ⟨[.ref p, .str x tx, .str r tr, rawInt 0, rawInt 0, rawInt n, rawInt (d : Int), rawInt (d : Int), .bool false, .ref D, .bool false], []⟩) R s := by
  intro d ps H
  induction H with
  | @last d hN =>
    intro s acc ys k n hE ho hS hlen htot h
    refine codeAny_builtin entry_reloop ?_
    unfold «re.Pattern.sub.loop»
    refine wpAny_bind (wp_target (P.keeps hE) ?_)
    dsimp only [rawInt]
    refine wpAny_bind (m := reLiteralCannotBeTurned (.str r tr)) (wpAny_pure ?_)
    refine wpAny_bind ?_
    rw [if_neg (by simp)]
    refine wp_nohit hN ?_
    refine wp_piece (d := d) (b := x.cps.size) hx hD hE ho hS (by rw [List.length_append] at hlen; omega) fun h' tk ys' n' e1 e2 e3 => ?_
    refine wpAny_bind (wp_slice hx (wpAny_bind (wpAny_seqItems e2 rfl ?_)))
    dsimp only
    have hj : (⟨x.cps.extract 0 0⟩ : Str) = Str.ofString "" := by
      show (⟨_⟩ : Str) = ⟨_⟩
      simp
      rfl
    have hsz : ys'.size = (acc ++ piece x.cps d x.cps.size).length := by have := e3.length; simpa using this
    rw [hj]
    by_cases hem : ((some ys').getD #[]).isEmpty = true
    · rw [if_pos hem]
      refine wpAny_bind (wpAny_pure ?_)
      have hz : acc ++ piece x.cps d x.cps.size = [] := by
        apply List.eq_nil_of_length_eq_zero
        rw [← hsz]
        simpa using hem
      have := h h' (tk + 1) tk e1
      unfold piece at hz
      rw [hz] at this
      exact wpAny_pure this
    · rw [if_neg hem]
      refine wpAny_bind (join_list ⟨_, e2, rfl, n', rfl⟩ e3 ?_ fun t' tk' => ?_)
      · show ((acc ++ piece x.cps d x.cps.size).map (·.length)).sum + _ * 0 ≤ _
        have : total (acc ++ piece x.cps d x.cps.size) ≤ 10000000 := htot
        unfold total at this
        omega
      · exact wpAny_pure (h h' tk' t' e1)
  | @hit d b e ps hM hbe hS' ih =>
    intro s acc ys k n hE ho hS hlen htot h
    refine codeAny_builtin entry_reloop ?_
    unfold «re.Pattern.sub.loop»
    refine wpAny_bind (wp_target (P.keeps hE) ?_)
    dsimp only [rawInt]
    refine wpAny_bind (m := reLiteralCannotBeTurned (.str r tr)) (wpAny_pure ?_)
    refine wpAny_bind ?_
    rw [if_neg (by simp)]
    refine wp_hit hM fun m' hm1 hm2 => ?_
    dsimp only
    rw [hm1, hm2]
    have heb : (e == b) = false := by simp; omega
    rw [heb]
    have hl1 : acc.length ≤ 500000 := by rw [List.length_append] at hlen; omega
    refine wp_piece (d := d) (b := b) hx hD hE ho hS hl1 fun h' tk ys' n' e1 e2 e3 => ?_
    have hsz : ys'.size = (acc ++ piece x.cps d b).length := by have := e3.length; simpa using this
    have hle : (acc ++ piece x.cps d b).length ≤ 500001 := by
      have : (piece x.cps d b).length ≤ 1 := by unfold piece; split <;> simp
      rw [List.length_append]; omega
    rw [if_pos (show ((0 : Int) == 0) = true from rfl)]
    refine wpAny_bind (wpAny_pure ?_)
    rw [if_pos (show (Value.str r tr != Value.none) = true from rfl)]
    refine wpAny_bind (wp_push (s := { s with heap := h', toks := tk }) e2 (by omega) fun h2 k2 f1 f2 => ?_)
    have hE2 : Ext base h2 := fun a o ea => f2 a o (by
      intro hm
      rw [List.mem_singleton.mp hm, hD] at ea
      cases ea) (e1 a o ea)
    have hl : acc ++ piece x.cps d b ++ [r] ++ ps = acc ++ ((if d < b then [⟨x.cps.extract d b⟩] else []) ++ r :: ps) := by
      unfold piece; simp
    refine wpAny_pure ⟨plainId_quiet reloop_plain _, ih _ (acc ++ piece x.cps d b ++ [r]) _ k2 (n + 1) hE2 f1 (by rw [Array.toList_push]; exact strs_snoc e3) (by rw [hl]; exact hlen) (by rw [hl]; exact htot) fun h3 tk3 t3 e4 => ?_⟩
    rw [hl]
    exact h h3 tk3 t3 e4
theorem re_getattribute : typeLookup (.type "re.Pattern") "__getattribute__" = pure (some (.builtin "object.__getattribute__")) := by rw [typeLookup_type, builtinLookup_eq_fast]; kernel_rfl
theorem re_getattr_none : typeLookup (.type "re.Pattern") "__getattr__" = pure none := by rw [typeLookup_type, builtinLookup_eq_fast]; kernel_rfl
theorem type_re_sub : typeOf (.builtin "re.Pattern.sub") = pure (.type "method_descriptor") := by show builtinType _ = _; rw [builtinType_eq_fast]; kernel_rfl
theorem slot_re_sub : Slot "re.Pattern" "sub" "re.Pattern.sub" :=
  .of (owner := "re.Pattern") (n := "sub") (by rw [typeLookup_type, builtinLookup_eq_fast]; kernel_rfl) (by decide +kernel) (by decide +kernel) (by decide +kernel)
    (by first | exact .inl (by decide +kernel) | exact .inr (by decide +kernel)) (by rw [isSubtype_type]; kernel_rfl)
theorem entry_re_sub : entryFor table "re.Pattern.sub" = some «re.Pattern.sub» := entryFor_of_fast (by kernel_rfl)
theorem args_re_sub (a b c : Value) : argsOk "re.Pattern.sub" ⟨[a, b, c], []⟩ := by unfold argsOk; kernel_rfl
theorem str_call_none : typeLookup (.type "str") "__call__" = pure none := by rw [typeLookup_type, builtinLookup_eq_fast]; kernel_rfl
theorem getMethod_re_sub {p : Addr} {c : Array Nat} {pl : Sem Bool} {Q : Value × List Value → Shared → Prop} (P : IsPat s.heap p c)
    (h : Q (.builtin "re.Pattern.sub", [.ref p]) s) : wpAny (model pw w) A (getMethod (.ref p) "sub" pl) Q E s := by
  obtain ⟨o, vs, q, o2, xs, n, h1, h2, h3, h4, _⟩ := P
  have hT : s.TypeIs (.ref p) "re.Pattern" := ⟨o, h1, h3⟩
  unfold getMethod
  refine wpAny_bind (wpAny_specialOf hT re_getattribute ?_)
  show wpAny _ A (if (Manifest.canonical "object.__getattribute__" != "object.__getattribute__") = true then _ else _) Q E s
  rw [if_neg (by decide +kernel)]
  refine wpAny_bind (wpAny_specialOf hT re_getattr_none ?_)
  refine wpAny_bind (wpAny_specialOf hT slot_re_sub.lookup ?_)
  refine wpAny_bind (wpAny_of_eq type_re_sub ?_)
  refine wpAny_bind (wpAny_load h1 ?_)
  rw [h4]
  exact wpAny_bind (wpAny_rule (wpAny_pure h))
theorem reNamed_eq (a b : Value) : reNamed "re.Pattern.sub" "sub" ["repl", "string", "count"] 2 [a, b] [] = pure [some a, some b, none] := by
  first | rfl | kernel_rfl
theorem re_sub_spec {p : Addr} {c : Array Nat} {x r : Str} {tx tr : Tok} {ps : List Str} {Q : Value → Shared → Prop} (P : IsPat s.heap p c) (hr : r.length ≤ 100) (hr92 : r.cps.contains 92 = false) (hx : x.cps.size ≤ 100000)
    (H : Subs c x r 0 ps) (hlen : ps.length ≤ 500000) (htot : total ps ≤ 10000000)
    (h : ∀ h' tk t', Ext s.heap h' → Q (.str (Txt.join (Str.ofString "") ps) t') { s with heap := h', toks := tk }) :
    wpAny (model pw w) A (call (.builtin "re.Pattern.sub") [.ref p, .str r tr, .str x tx]) Q E s := by
  obtain ⟨o, vs, q, o2, xs, n, h1, h2, h3, h4, _⟩ := id P
  have hT : s.TypeIs (.ref p) "re.Pattern" := ⟨o, h1, h3⟩
  refine wpAny_call (codeAny_call_builtin slot_re_sub.plain entry_re_sub (slot_re_sub.check _ _ _ _ _ _ _ _ hT (args_re_sub _ _ _) ?_))
  unfold «re.Pattern.sub» reSubstitute
  dsimp only
  rw [reNamed_eq]
  refine wpAny_bind (wpAny_pure ?_)
  dsimp only
  refine wpAny_bind (wpAny_pure ?_)
  refine wpAny_bind (wpAny_specialOf (T := "str") rfl str_call_none ?_)
  rw [if_neg (by simp)]
  refine wpAny_bind (m := asStr? (.str r tr)) (wpAny_pure ?_)
  dsimp only
  refine wpAny_bind (wpAny_pure ?_)
  rw [if_neg (by simp), hr92, if_pos (by rfl)]
  refine wpAny_bind (wpAny_pure ?_)
  dsimp only
  refine wpAny_bind (wpAny_holding (wp_target P ?_))
  rw [if_neg (by decide)]
  refine wpAny_bind (wpAny_newList ?_)
  refine wpAny_pure ⟨plainId_quiet reloop_plain _, ?_⟩
  refine reloop_spec (base := s.heap) (D := s.heap.objs.size) (d := 0) hr hx P (Heap.get?_none_of_le (Nat.le_refl _)) H _ [] #[] 0 0 (fun b o e => Heap.get?_push_of_some _ e) (Heap.get?_push_size _ rfl) .nil hlen htot fun h' tk t' e => ?_
  exact h h' tk t' e
end
end eng2
end D32
end
section
open PySem PySem.W PyProof.Rows PySem.Calls
set_option maxRecDepth 100000
set_option maxHeartbeats 4000000
set_option linter.unusedVariables false
namespace D32
def txt (e ks : List Nat) : List Nat := ks.flatMap fun k => List.replicate k 46 ++ e
def sT (l : List Nat) : Str := ⟨l.toArray⟩
def crlf : List Nat := [13, 10]
def flat (ps : List Str) : List Nat := ps.flatMap fun p => p.cps.toList
theorem join_flat : ∀ ps : List Str, Txt.join (Str.ofString "") ps = sT (flat ps) := by
  intro ps
  show PySem.Builtin.Str.glued (Str.ofString "") ps = _
  rw [StrLaws.glued_eq_join]
  induction ps with
  | nil => rfl
  | cons p rest ih =>
    cases rest with
    | nil =>
      show p = _
      unfold flat sT
      simp
    | cons q rest =>
      show p ++ Str.ofString "" ++ Str.join (Str.ofString "") (q :: rest) = _
      rw [ih]
      unfold flat sT
      show (⟨_⟩ : Str) = ⟨_⟩
      congr 1
      apply Array.ext'
      show ((p.cps ++ (Str.ofString "").cps) ++ _).toList = _
      simp [show (Str.ofString "").cps = #[] from rfl]
theorem total_flat : ∀ ps : List Str, total ps = (flat ps).length := by
  intro ps
  induction ps with
  | nil => rfl
  | cons p rest ih =>
    show p.length + total rest = _
    rw [ih]
    show _ = (p.cps.toList ++ flat rest).length
    rw [List.length_append, Array.length_toList]
    rfl
theorem getD_list (l : List Nat) (i : Nat) : (l.toArray).getD i 0 = l.getD i 0 := by simp [Array.getD_eq_getD_getElem?, List.getD_eq_getElem?_getD]
theorem getD_left {a b : List Nat} {i : Nat} (h : i < a.length) : (a ++ b).getD i 0 = a.getD i 0 := by
  simp [List.getD_eq_getElem?_getD, List.getElem?_append_left h]
theorem getD_right {a b : List Nat} {i : Nat} : (a ++ b).getD (a.length + i) 0 = b.getD i 0 := by
  simp [List.getD_eq_getElem?_getD, List.getElem?_append_right]
theorem getD_rep {k i : Nat} {b : List Nat} (h : i < k) : (List.replicate k 46 ++ b).getD i 0 = 46 := by
  rw [getD_left (by simpa using h)]
  simp [List.getD_eq_getElem?_getD, List.getElem?_replicate, h]
theorem getD_rep2 {k i : Nat} {b : List Nat} : (List.replicate k 46 ++ b).getD (k + i) 0 = b.getD i 0 := by
  have := @getD_right (List.replicate k 46) b i
  rwa [List.length_replicate] at this
theorem extract_mid (a b c : List Nat) : (a ++ b ++ c).toArray.extract a.length (a.length + b.length) = b.toArray := by
  apply Array.ext'
  simp [List.extract_eq_take_drop, List.take_append, List.drop_append]
theorem match_of {c t : Array Nat} {d b e k : Nat} {m m' : Sre.Seen → Sre.M} {sn : Sre.Seen} (h : Sre.forSearch c t 0 d t.size false = m sn) (r : Reach k m m') (hk : k ≤ 2 ^ 60) (ho : ∀ s, (m' s).outcome = some .matched) (hs : ∀ s, (m' s).start = b) (he : ∀ s, (m' s).handed = e) :
    Match c t d b e := by
  obtain ⟨n, s', hn, e'⟩ := r sn
  exact ⟨n, _, Nat.le_trans hn hk, by rw [h]; exact e', ho _, hs _, he _⟩
theorem match1 {t : Array Nat} {d b : Nat} (hd : d ≤ b) (hb : b < t.size) (ht : t.size ≤ 100000) (hB : bol t b = true) (h : ∀ x, d ≤ x → x < b → bol t x = false) : Match c1 t d b (b + 1) := by
  obtain ⟨sn, e⟩ := search1 (t := t) (s := d) (by omega)
  obtain ⟨om, r⟩ := p1_find hb hB (b - d) d true (by omega) h
  exact match_of e r (by omega) (fun _ => rfl) (fun _ => rfl) (fun _ => rfl)
theorem nomatch_end {c t : Array Nat} (hc : (Sre.header c).1 = 1) : NoMatch c t t.size := by
  obtain ⟨m, e, h1, h2⟩ := search_none (t := t) hc
  refine ⟨1, (Sre.M.say m false).step, by decide, by rw [e]; rfl, ?_⟩
  unfold Sre.M.step Sre.M.say
  simp [h1, h2]
theorem nomatch1 {t : Array Nat} {d : Nat} (hd : d ≤ t.size) (ht : t.size ≤ 100000) (h : ∀ x, d ≤ x → x < t.size → bol t x = false) : NoMatch c1 t d := by
  rcases Nat.lt_or_eq_of_le hd with hlt | rfl
  · obtain ⟨sn, e⟩ := search1 (t := t) (s := d) hlt
    obtain ⟨pc, pos, hdd, om, r⟩ := p1_none (t.size - d) d true (by omega) h
    obtain ⟨n, s', hn, e'⟩ := r sn
    exact ⟨n, _, by omega, (congrArg (it n) e).trans e', rfl⟩
  · exact nomatch_end rfl
theorem match2 {t : Array Nat} {d b : Nat} (hd : d ≤ b) (hb : b < t.size) (hB : eol (t.getD b 0) = true) (h : ∀ x, d ≤ x → x < b → eol (t.getD x 0) = false) : Match c2 t d b (b + wid t b) := by
  obtain ⟨sn, e⟩ := search2 hd hb hB h
  exact match_of e (p2_hit hb hB) (by decide) (fun _ => rfl) (fun _ => rfl) (fun _ => rfl)
def EolOk (e : List Nat) : Prop := e = [10] ∨ e = [13] ∨ e = [13, 10]
theorem txt_cons (e : List Nat) (k : Nat) (ks : List Nat) : txt e (k :: ks) = List.replicate k 46 ++ (e ++ txt e ks) := by
  show (List.replicate k 46 ++ e) ++ txt e ks = _
  rw [List.append_assoc]
theorem txt_head {e : List Nat} (he : EolOk e) (ks : List Nat) : (e = [13] ∨ e = [10]) → (e = [13]) → (txt e ks).getD 0 0 ≠ 10 := by
  intro _ h13
  subst h13
  cases ks with
  | nil => exact by decide
  | cons k ks =>
    rw [txt_cons]
    cases k with
    | zero => exact by simp
    | succ k => rw [getD_rep (Nat.succ_pos k)]; decide
theorem wid_of {e : List Nat} (he : EolOk e) (a : List Nat) (ks : List Nat) : wid (a ++ (e ++ txt e ks)).toArray a.length = e.length := by
  unfold wid
  rw [getD_list, getD_list, show a.length = a.length + 0 from rfl, getD_right, Nat.add_zero, getD_right]
  rcases he with rfl | rfl | rfl
  · rw [if_neg]; exact rfl; intro h; exact absurd h.1 (by simp)
  · rw [if_neg]; exact rfl; intro h
    exact txt_head (.inr (.inl rfl)) ks (.inl rfl) rfl h.2.2
  · rw [if_pos]; exact rfl
    refine ⟨rfl, ?_, rfl⟩
    simp
theorem eol_head {e : List Nat} (he : EolOk e) (l : List Nat) : eol ((e ++ l).getD 0 0) = true := by rcases he with rfl | rfl | rfl <;> rfl
theorem eol_pos {e : List Nat} (he : EolOk e) : 1 ≤ e.length := by rcases he with rfl | rfl | rfl <;> decide
theorem fix_subs {e : List Nat} (he : EolOk e) : ∀ (ks a : List Nat), ∃ ps, Subs c2 (sT (a ++ txt e ks)) (sT crlf) a.length ps ∧ flat ps = txt crlf ks ∧ ps.length ≤ 2 * ks.length
  | [], a => by
    refine ⟨_, .last ?_, ?_⟩
    · have : (sT (a ++ txt e [])).cps.size = a.length := by unfold sT txt; simp
      rw [← this]
      exact nomatch_end rfl
    · have : ¬ a.length < (sT (a ++ txt e [])).cps.size := by unfold sT txt; simp
      rw [if_neg this]
      exact ⟨rfl, by decide⟩
  | k :: ks, a => by
    obtain ⟨ps, h1, h2, h3⟩ := fix_subs he ks (a ++ List.replicate k 46 ++ e)
    have hx : a ++ txt e (k :: ks) = (a ++ List.replicate k 46) ++ (e ++ txt e ks) := by rw [txt_cons, List.append_assoc]
    have hx2 : a ++ List.replicate k 46 ++ e ++ txt e ks = a ++ txt e (k :: ks) := by rw [hx, List.append_assoc]
    have hl : (a ++ List.replicate k 46).length = a.length + k := by rw [List.length_append, List.length_replicate]
    have hl2 : (a ++ List.replicate k 46 ++ e).length = a.length + k + e.length := by rw [List.length_append, hl]
    rw [hx2, hl2] at h1
    have hsz : a.length + k < (sT (a ++ txt e (k :: ks))).cps.size := by
      show _ < (a ++ txt e (k :: ks)).toArray.size
      rw [hx, List.size_toArray, List.length_append, hl, List.length_append]
      have := eol_pos he
      omega
    have hm : Match c2 (sT (a ++ txt e (k :: ks))).cps a.length (a.length + k) (a.length + k + e.length) := by
      have hw := wid_of he (a ++ List.replicate k 46) ks
      rw [← hx, hl] at hw
      rw [← hw]
      refine match2 (by omega) hsz ?_ ?_
      · show eol (((a ++ txt e (k :: ks)).toArray).getD _ 0) = true
        have hg := @getD_right (a ++ List.replicate k 46) (e ++ txt e ks) 0
        rw [Nat.add_zero, hl] at hg
        rw [getD_list, hx, hg]
        exact eol_head he _
      · intro x hx1 hx2'
        show eol (((a ++ txt e (k :: ks)).toArray).getD _ 0) = false
        rw [getD_list, show x = a.length + (x - a.length) by omega, getD_right, txt_cons, getD_rep (by omega)]
        rfl
    refine ⟨_, .hit hm (by have := eol_pos he; omega) h1, ?_, ?_⟩
    · have hp : flat (if a.length < a.length + k then [(⟨(sT (a ++ txt e (k :: ks))).cps.extract a.length (a.length + k)⟩ : Str)] else []) = List.replicate k 46 := by
        cases k with
        | zero => rw [if_neg (by omega)]; rfl
        | succ k =>
          rw [if_pos (by omega)]
          have := extract_mid a (List.replicate (k + 1) 46) (e ++ txt e ks)
          rw [List.length_replicate, ← hx] at this
          show (((a ++ txt e ((k + 1) :: ks)).toArray).extract a.length (a.length + (k + 1))).toList ++ [] = _
          rw [this]
          simp
      show flat (_ ++ sT crlf :: ps) = _
      unfold flat at hp h2 ⊢
      rw [List.flatMap_append, hp, List.flatMap_cons, h2, txt_cons]
      rfl
    · rw [List.length_append, List.length_cons, List.length_cons]
      have : (if a.length < a.length + k then [(⟨(sT (a ++ txt e (k :: ks))).cps.extract a.length (a.length + k)⟩ : Str)] else []).length ≤ 1 := by split <;> simp
      omega
theorem bol_row {a : List Nat} (ha : a = [] ∨ ∃ q, a = q ++ [10]) {k : Nat} (hk : 1 ≤ k) (l : List Nat) : bol (a ++ (List.replicate k 46 ++ l)).toArray a.length = true := by
  unfold bol
  have h0 := @getD_right a (List.replicate k 46 ++ l) 0
  rw [Nat.add_zero] at h0
  rw [getD_list, getD_list, h0, getD_rep hk]
  rcases ha with rfl | ⟨q, rfl⟩
  · rfl
  · have e : (q ++ [10]).length - 1 = q.length + 0 := by rw [List.length_append]; rfl
    rw [e, List.append_assoc, getD_right]
    simp
theorem bol_in {a l : List Nat} {k i : Nat} (h1 : a.length + 1 ≤ i) (h2 : i < a.length + k + 2) : bol (a ++ (List.replicate k 46 ++ (crlf ++ l))).toArray i = false := by
  unfold bol
  rw [getD_list, getD_list]
  obtain ⟨j, rfl⟩ : ∃ j, i = a.length + (j + 1) := ⟨i - a.length - 1, by omega⟩
  rw [getD_right, show a.length + (j + 1) - 1 = a.length + j by omega, getD_right]
  have hne : (a.length + (j + 1) == 0) = false := by simp
  rw [hne]
  rcases Nat.lt_or_ge j k with hj | hj
  · rw [getD_rep hj]; rfl
  · obtain rfl : j = k := by omega
    rw [getD_rep2]
    show (_ && ((10 : Nat) == 46)) = false
    rw [Bool.and_eq_false_iff]; exact .inr rfl
theorem extract_drop (a b : List Nat) (d : Nat) (hd : d ≤ a.length) : ((a ++ b).toArray.extract d a.length).toList = a.drop d := by
  simp [List.extract_eq_take_drop, List.drop_append, List.take_append]
theorem quote_subs : ∀ (ks a : List Nat) (d : Nat), (∀ k ∈ ks, 1 ≤ k) → d ≤ a.length → (a = [] ∨ ∃ q, a = q ++ [10]) → (∀ i, d ≤ i → i < a.length → bol (a ++ txt crlf ks).toArray i = false) → (a ++ txt crlf ks).length ≤ 100000 →
    ∃ ps, Subs c1 (sT (a ++ txt crlf ks)) (sT [46, 46]) d ps ∧ flat ps = a.drop d ++ txt crlf (ks.map (· + 1)) ∧ ps.length ≤ 2 * ks.length + 1
  | [], a, d, hk, hd, ha, hb, hsz => by
    have e0 : a ++ txt crlf [] = a := List.append_nil a
    rw [e0] at hb hsz ⊢
    refine ⟨_, .last (nomatch1 (t := a.toArray) (by simpa using hd) (by simpa using hsz) fun x h1 h2 => hb x h1 (by simpa using h2)), ?_, ?_⟩
    · show flat (if d < a.toArray.size then [(⟨a.toArray.extract d a.toArray.size⟩ : Str)] else []) = a.drop d ++ []
      rw [List.append_nil, List.size_toArray]
      have h1 := extract_drop a [] d hd
      rw [List.append_nil] at h1
      by_cases h : d < a.length
      · rw [if_pos h]
        show (a.toArray.extract d a.length).toList ++ [] = _
        rw [h1, List.append_nil]
      · rw [if_neg h, List.drop_eq_nil_of_le (by omega)]
        rfl
    · split <;> simp
  | k :: ks, a, d, hk, hd, ha, hb, hsz => by
    have hk1 : 1 ≤ k := hk k (List.Mem.head _)
    have hx : a ++ txt crlf (k :: ks) = a ++ (List.replicate k 46 ++ (crlf ++ txt crlf ks)) := by rw [txt_cons]
    have hx2 : a ++ List.replicate k 46 ++ crlf ++ txt crlf ks = a ++ txt crlf (k :: ks) := by rw [hx]; simp only [List.append_assoc]
    have hl2 : (a ++ List.replicate k 46 ++ crlf).length = a.length + k + 2 := by rw [List.length_append, List.length_append, List.length_replicate]; rfl
    obtain ⟨ps, h1, h2, h3⟩ := quote_subs ks (a ++ List.replicate k 46 ++ crlf) (a.length + 1) (fun k' h => hk k' (List.mem_cons_of_mem _ h)) (by rw [hl2]; omega) (.inr ⟨a ++ List.replicate k 46 ++ [13], by simp [crlf]⟩)
      (fun i g1 g2 => by rw [hx2, hx]; exact bol_in g1 (by rw [hl2] at g2; exact g2)) (by rw [hx2]; exact hsz)
    rw [hx2] at h1
    have hlt : a.length < (a ++ txt crlf (k :: ks)).toArray.size := by
      rw [hx, List.size_toArray, List.length_append, List.length_append, List.length_replicate]; omega
    have hm : Match c1 (sT (a ++ txt crlf (k :: ks))).cps d a.length (a.length + 1) :=
      match1 (t := (a ++ txt crlf (k :: ks)).toArray) hd hlt (by simpa using hsz) (by rw [hx]; exact bol_row ha hk1 _) hb
    refine ⟨_, .hit hm (by omega) h1, ?_, ?_⟩
    · have hp : flat (if d < a.length then [(⟨(sT (a ++ txt crlf (k :: ks))).cps.extract d a.length⟩ : Str)] else []) = a.drop d := by
        by_cases h : d < a.length
        · rw [if_pos h]
          show ((a ++ txt crlf (k :: ks)).toArray.extract d a.length).toList ++ [] = _
          rw [extract_drop _ _ _ hd, List.append_nil]
        · rw [if_neg h, List.drop_eq_nil_of_le (by omega)]
          rfl
      have hq : (a ++ List.replicate k 46 ++ crlf).drop (a.length + 1) = List.replicate (k - 1) 46 ++ crlf := by
        rw [List.append_assoc, List.drop_append, List.drop_eq_nil_of_le (by omega), show a.length + 1 - a.length = 1 by omega]
        obtain ⟨k', rfl⟩ : ∃ k', k = k' + 1 := ⟨k - 1, by omega⟩
        rfl
      rw [hq] at h2
      show flat (_ ++ sT [46, 46] :: ps) = _
      unfold flat at hp h2 ⊢
      rw [List.flatMap_append, hp, List.flatMap_cons, h2, List.map_cons, txt_cons]
      obtain ⟨k', rfl⟩ : ∃ k', k = k' + 1 := ⟨k - 1, by omega⟩
      show _ ++ ([46, 46] ++ (List.replicate k' 46 ++ crlf ++ _)) = _ ++ (46 :: 46 :: List.replicate k' 46 ++ _)
      simp
    · rw [List.length_append, List.length_cons, List.length_cons]
      have : (if d < a.length then [(⟨(sT (a ++ txt crlf (k :: ks))).cps.extract d a.length⟩ : Str)] else []).length ≤ 1 := by split <;> simp
      omega
theorem fix_text {e : List Nat} (he : EolOk e) (ks : List Nat) : ∃ ps, Subs c2 (sT (txt e ks)) (sT crlf) 0 ps ∧ Txt.join (Str.ofString "") ps = sT (txt crlf ks) ∧ total ps = (txt crlf ks).length ∧ ps.length ≤ 2 * ks.length := by
  obtain ⟨ps, h1, h2, h3⟩ := fix_subs he ks []
  exact ⟨ps, h1, by rw [join_flat, h2], by rw [total_flat, h2], h3⟩
theorem quote_text (ks : List Nat) (hk : ∀ k ∈ ks, 1 ≤ k) (hsz : (txt crlf ks).length ≤ 100000) :
    ∃ ps, Subs c1 (sT (txt crlf ks)) (sT [46, 46]) 0 ps ∧ Txt.join (Str.ofString "") ps = sT (txt crlf (ks.map (· + 1))) ∧ total ps = (txt crlf (ks.map (· + 1))).length ∧ ps.length ≤ 2 * ks.length + 1 := by
  obtain ⟨ps, h1, h2, h3⟩ := quote_subs ks [] 0 hk (Nat.le_refl _) (.inl rfl) (fun i _ h => absurd h (Nat.not_lt_zero _)) hsz
  have h2' : flat ps = txt crlf (ks.map (· + 1)) := h2
  exact ⟨ps, h1, by rw [join_flat, h2'], by rw [total_flat, h2'], h3⟩
end D32
end
section
open PySem PySem.W PyProof.Rows PySem.Calls
set_option maxRecDepth 100000
set_option maxHeartbeats 4000000
set_option linter.unusedVariables false
namespace D32
local macro_rules | `(tactic| k_room) => `(tactic| ((try simp only [depth_under_make, depth_under_kw, depth_in1, depth_deeper, depth_caller]); omega))
local macro_rules | `(tactic| walk_at "eval Name") => `(tactic| k_dflt (refine' cName_L ?F ?a ?_ ?b ?c ?d; (case F => assumption); (case a => first | assumption | rfl); (case b => rfl); (case c => rfl); (case d => decide); k_whole))
local macro_rules | `(tactic| walk_at "eval Name") => `(tactic| k_dflt (refine' cName_K ?F ?X ?T ?e ?_ ?a ?b ?c ?d; (case F => assumption); (case X => assumption); (case T => assumption); (case e => k_is); (case a => rfl); (case b => rfl); (case c => rfl); (case d => decide); k_whole))
local macro_rules | `(tactic| walk_at "eval Name") => `(tactic| k_dflt (refine' cName_B ?F ?X ?T ?e ?v ?n ?_ ?a ?f ?b ?c ?d; (case F => assumption); (case X => assumption); (case T => assumption); (case e => k_is); (case v => boot_fast); (case n => decide); (case a => rfl); (case f => rfl); (case b => rfl); (case c => rfl); (case d => decide); k_whole))
local macro_rules | `(tactic| walk_at "exec For Name Subscript cons nil") => `(tactic| refine halt ?_)
local macro_rules | `(tactic| walk_at "exec For Name Name cons nil") => `(tactic| refine halt ?_)
local macro_rules | `(tactic| walk_at "exec While") => `(tactic| refine halt ?_)
local macro_rules | `(tactic| walk_at "exec While BoolOp") => `(tactic| refine halt ?_)
local macro_rules | `(tactic| walk_at "pyIter ref") => `(tactic| refine halt ?_)
local macro_rules | `(tactic| walk_at "pyIter str") => `(tactic| refine halt ?_)
local macro_rules | `(tactic| walk_at "eval ListComp") => `(tactic| refine halt ?_)
local macro_rules | `(tactic| walk_at "exec Assign cons ListComp") => `(tactic| refine halt ?_)
theorem gName_K {M : Model} {A : Around} {E : Value → Shared → Prop} {s : Shared} {h₀ : Heap} {L : Addr} {m mg mb : Str → Option Value} {mean : ExcName → Option Value} {env : Env} {x : Str} {pos : Pos} {v : Value} {Q : Value → Shared → Prop} {P : Params}
    (F : Fr h₀ L s.heap m) (X : (K P).In h₀) (T : TopH mean mg mb h₀) (e : nsIn (K P) mainGlobals x = some (some v)) (h : Q v s)
    (hg : env.globals = mainGlobals) (hk : env.scope.kind = .function) (hx : env.kindOf x = some .globalImplicit) (hd : (x == ("__debug__" : Str)) = false) :
    wpAny M A (eval (.Name x pos) env) Q E s :=
  Name_function_global hk hx (loadGlobal_global (env := env) (show s.heap.Ns env.globals mg from hg ▸ T.g.keeps F.keep) (mg_of X T.g e) h) hd
local macro_rules | `(tactic| walk_at "eval Name") => `(tactic| k_dflt (refine' gName_K ?F ?X ?T ?e ?_ ?a ?b ?c ?d; (case c => rfl); (case F => assumption); (case X => assumption); (case T => assumption); (case e => k_is); (case a => rfl); (case b => rfl); (case d => decide); k_whole))
local macro_rules | `(tactic| walk_at "getMethod ref") => `(tactic| refine halt ?_)

theorem pat2 {P : Params} {h : Heap} (X : (K P).In h) : IsPat h 41 c2 := ⟨top.o_44 P, _, 40, top.o_43 P, _, 0, X _ _ (by k_is), rfl, rfl, rfl, rfl, rfl, rfl, X _ _ (by k_is), rfl, by decide +kernel⟩
theorem pat1 {P : Params} {h : Heap} (X : (K P).In h) : IsPat h 36 c1 := ⟨top.o_39 P, _, 35, top.o_38 P, _, 0, X _ _ (by k_is), rfl, rfl, rfl, rfl, rfl, rfl, X _ _ (by k_is), rfl, by decide +kernel⟩
theorem fix_spec {w : World} {mean : ExcName → Option Value} {mg mb : Str → Option Value} {A : Around} {s : Shared} {Q E : Value → Shared → Prop} {e ks : List Nat} {ty : Tok} (he : EolOk e)
    (X : (K w.params).In s.heap) (T : TopH mean mg mb s.heap) (hd : A.depth + 3 < recursionLimit) (hn : ks.length ≤ 100) (hsz : (txt crlf ks).length ≤ 100000) (hsz2 : (txt e ks).length ≤ 100000)
    (h : ∀ (h' : Heap) (tk t' : Nat), Ext s.heap h' → Q (.str (sT (txt crlf ks)) t') { s with heap := h', toks := tk }) : wpAny (model pw w) A (call (.ref 55) [.str (sT (txt e ks)) ty]) Q E s := by
  refine wpAny_call ?_
  refine call_pos_ret (name := Str.ofString "_fix_eols") (params := fArgs (stm 6)) (body := fBody (stm 6)) (scope := fScope (stm 6)) (cd := .ref 54) (doc := .none) (pm := .str (Str.ofString "cpy313.smtplib") 282) (o := top.o_58 w.params) (by omega) (X _ _ (by k_is)) rfl T.nolimit (codeRec_of X (by k_is)) rfl (by intro y hy; rcases List.mem_singleton.mp hy with rfl; rfl) ?_
  intro h₁ F
  have N : News s.heap s.heap.objs.size h₁ [] := News.nil
  try dsimp only
  k_steps
  have X1 := X.keeps F.keep
  have T1 := T.keeps F.keep
  unfold Halt
  refine getMethod_re_sub (c := c2) (pat2 X1) ?_
  dsimp only
  k_steps
  obtain ⟨ps, H, hj, ht, hl⟩ := fix_text he ks
  refine re_sub_spec (c := c2) (r := sT crlf) (pat2 X1) (by decide) (by decide +kernel) (by simpa [sT] using hsz2) H (by omega) (by omega) fun h2 tk t' e2 => ?_
  rw [hj]
  exact h _ _ _ fun b o e => e2 b o (F.keep b o e)
theorem quote_spec {w : World} {mean : ExcName → Option Value} {mg mb : Str → Option Value} {A : Around} {s : Shared} {Q E : Value → Shared → Prop} {e ks : List Nat} {ty : Tok} (he : EolOk e)
    (X : (K w.params).In s.heap) (T : TopH mean mg mb s.heap) (hd : A.depth + 3 < recursionLimit) (hn : ks.length ≤ 100) (hk : ∀ k ∈ ks, 1 ≤ k) (hsz : (txt crlf ks).length ≤ 100000) (hsz2 : (txt e ks).length ≤ 100000) (hsz3 : (txt crlf (ks.map (· + 1))).length ≤ 100000)
    (h : ∀ (h' : Heap) (tk t' : Nat), Ext s.heap h' → Q (.str (sT (txt crlf (ks.map (· + 1)))) t') { s with heap := h', toks := tk }) : wpAny (model pw w) A (call (.ref 48) [.str (sT (txt e ks)) ty]) Q E s := by
  refine wpAny_call ?_
  refine call_pos_ret (name := Str.ofString "quotedata") (params := fArgs (stm 5)) (body := fBody (stm 5)) (scope := fScope (stm 5)) (cd := .ref 47) (doc := .none) (pm := .str (Str.ofString "cpy313.smtplib") 282) (o := top.o_51 w.params) (by omega) (X _ _ (by k_is)) rfl T.nolimit (codeRec_of X (by k_is)) rfl (by intro y hy; rcases List.mem_singleton.mp hy with rfl; rfl) ?_
  intro h₁ F
  have N : News s.heap s.heap.objs.size h₁ [] := News.nil
  try dsimp only
  k_steps
  have X1 := X.keeps F.keep
  have T1 := T.keeps F.keep
  unfold Halt
  refine getMethod_re_sub (c := c1) (pat1 X1) ?_
  dsimp only
  k_steps
  unfold Halt
  refine getMethod_re_sub (c := c2) (pat2 X1) ?_
  dsimp only
  k_steps
  obtain ⟨ps, H, hj, ht, hl⟩ := fix_text he ks
  refine re_sub_spec (c := c2) (r := sT crlf) (pat2 X1) (by decide) (by decide +kernel) (by simpa [sT] using hsz2) H (by omega) (by omega) fun h2 tk t' e2 => ?_
  rw [hj]
  dsimp only
  obtain ⟨F2, N2⟩ := use_ext F N e2
  have X2 := X.keeps F2.keep
  have T2 := T.keeps F2.keep
  k_steps
  obtain ⟨ps', H', hj', ht', hl'⟩ := quote_text ks hk hsz
  refine re_sub_spec (c := c1) (r := sT [46, 46]) (pat1 X2) (by decide) (by decide +kernel) (by simpa [sT] using hsz) H' (by omega) (by omega) fun h3 tk3 t3 e3 => ?_
  rw [hj']
  exact h _ _ _ fun b o e => e3 b o (F2.keep b o e)
end D32
end
section
open PySem PySem.W PyProof.Rows PySem.Calls
set_option maxRecDepth 100000
set_option maxHeartbeats 4000000
set_option linter.unusedVariables false
namespace D32
section
open PySem.Builtin PySem.Builtin.Str PySem.StrLaws
def cuts : Nat → List Nat → List Nat
  | _, [] => []
  | p, k :: ks => (p + k) :: cuts (p + k + 2) ks
theorem occ_skip {s sub : Str} {hi limit : Nat} : ∀ (j p n : Nat) (st : Array Nat × Nat), (∀ i, p ≤ i → i < p + j → subAt s sub i = false) →
    forIn (List.range' p (j + n)) st (occBody s sub hi limit) = forIn (List.range' (p + j) n) st (occBody s sub hi limit)
  | 0, p, n, st, h => by rw [Nat.zero_add, Nat.add_zero]
  | j + 1, p, n, st, h => by
    rw [show j + 1 + n = (j + n) + 1 by omega, List.range'_succ, List.forIn_cons]
    unfold occBody
    rw [if_neg (fun hc => by rw [h p (Nat.le_refl _) (by omega)] at hc; exact absurd hc.2 (by decide))]
    have := occ_skip (hi := hi) (limit := limit) j (p + 1) n st (fun i h1 h2 => h i (by omega) (by omega))
    rw [show p + 1 + j = p + (j + 1) by omega] at this
    exact this
theorem sub_no {l : List Nat} {i : Nat} (h : l.getD i 0 ≠ 13) : subAt (sT l) (sT crlf) i = false := by
  unfold subAt
  cases hq : ((sT l).cps.extract i (i + (sT crlf).length) == (sT crlf).cps) with
  | false => rfl
  | true =>
    have e := eq_of_beq hq
    have e2 : (l.toArray.extract i (i + 2)).toList = [13, 10] := by
      have := congrArg Array.toList e
      exact this
    rw [List.extract_toArray, List.extract_eq_take_drop] at e2
    have e3 : (List.take (i + 2 - i) (List.drop i l)).getD 0 0 = 13 := by
      have : List.take (i + 2 - i) (List.drop i l) = [13, 10] := e2
      rw [this]; rfl
    refine absurd ?_ h
    rw [← e3]
    simp [List.getD_eq_getElem?_getD]
theorem occ_rows {limit : Nat} : ∀ (ks a : List Nat) (found : Array Nat) (free : Nat), free ≤ a.length → found.size + ks.length ≤ limit →
    (forIn (List.range' a.length ((txt crlf ks).length + 1)) (found, free) (occBody (sT (a ++ txt crlf ks)) (sT crlf) (a ++ txt crlf ks).length limit)).run.fst.toList = found.toList ++ cuts a.length ks
  | [], a, found, free, h1, h2 => by
    have e : (txt crlf []).length + 1 = 0 + 1 := rfl
    rw [e, List.range'_succ, List.forIn_cons]
    unfold occBody
    have hl : (sT crlf).length = 2 := rfl
    rw [if_neg (fun hc => by
      have := hc.1.2
      rw [hl, List.length_append] at this
      have e0 : (txt crlf []).length = 0 := rfl
      omega)]
    show found.toList = found.toList ++ []
    rw [List.append_nil]
  | k :: ks, a, found, free, h1, h2 => by
    have hx : a ++ txt crlf (k :: ks) = a ++ (List.replicate k 46 ++ (crlf ++ txt crlf ks)) := by rw [txt_cons]
    have hx2 : a ++ List.replicate k 46 ++ crlf ++ txt crlf ks = a ++ txt crlf (k :: ks) := by rw [hx]; simp only [List.append_assoc]
    have hl2 : (a ++ List.replicate k 46 ++ crlf).length = a.length + k + 2 := by rw [List.length_append, List.length_append, List.length_replicate]; rfl
    have hlen : (txt crlf (k :: ks)).length = k + (2 + (txt crlf ks).length) := by
      rw [txt_cons, List.length_append, List.length_append, List.length_replicate]; rfl
    have hl : (sT crlf).length = 2 := rfl
    rw [hlen, show k + (2 + (txt crlf ks).length) + 1 = k + ((txt crlf ks).length + 1 + 1 + 1) by omega]
    rw [occ_skip k a.length _ _ (fun i g1 g2 => sub_no (by
      rw [hx, show i = a.length + (i - a.length) by omega, getD_right, getD_rep (by omega)]; decide))]
    rw [List.range'_succ, List.forIn_cons]
    have hsub : subAt (sT (a ++ txt crlf (k :: ks))) (sT crlf) (a.length + k) = true := by
      have := extract_mid (a ++ List.replicate k 46) crlf (txt crlf ks)
      rw [hx2, List.length_append, List.length_replicate] at this
      unfold subAt
      have e : (sT (a ++ txt crlf (k :: ks))).cps.extract (a.length + k) (a.length + k + (sT crlf).length) = (sT crlf).cps := this
      rw [e]
      exact beq_self_eq_true _
    have hhi : a.length + k + 2 ≤ (a ++ txt crlf (k :: ks)).length := by rw [List.length_append, hlen]; omega
    rw [List.length_cons] at h2
    have step1 : occBody (sT (a ++ txt crlf (k :: ks))) (sT crlf) (a ++ txt crlf (k :: ks)).length limit (a.length + k) (found, free) = pure (ForInStep.yield (found.push (a.length + k), a.length + k + 2)) := by
      unfold occBody
      rw [if_pos ⟨⟨⟨by show found.size < limit; omega, by show free ≤ _; omega⟩, by rw [hl]; exact hhi⟩, hsub⟩, hl]
    rw [step1, List.range'_succ, pure_bind]
    dsimp only
    rw [List.forIn_cons]
    have step2 : occBody (sT (a ++ txt crlf (k :: ks))) (sT crlf) (a ++ txt crlf (k :: ks)).length limit (a.length + k + 1) (found.push (a.length + k), a.length + k + 2) = pure (ForInStep.yield (found.push (a.length + k), a.length + k + 2)) := by
      unfold occBody
      rw [if_neg (fun hc => by have := hc.1.1.2; have : a.length + k + 2 ≤ a.length + k + 1 := this; omega)]
    rw [step2, pure_bind]
    dsimp only
    have ih := occ_rows (limit := limit) ks (a ++ List.replicate k 46 ++ crlf) (found.push (a.length + k)) (a.length + k + 2) (by rw [hl2]; omega) (by rw [Array.size_push]; omega)
    rw [hx2, hl2] at ih
    rw [show a.length + k + 1 + 1 = a.length + k + 2 by omega, ih, Array.toList_push, List.append_assoc]
    rfl
def dots (k : Nat) : Str := sT (List.replicate k 46)
theorem parts_rows : ∀ (ks a : List Nat), (((a.length :: (cuts a.length ks).map (· + 2)).zip (cuts a.length ks ++ [(a ++ txt crlf ks).length])).map fun (p : Nat × Nat) => strSub (sT (a ++ txt crlf ks)) p.1 p.2) = ks.map dots ++ [sT []]
  | [], a => by
    show [strSub (sT (a ++ [])) a.length (a ++ []).length] = [sT []]
    rw [List.append_nil]
    unfold strSub sT
    simp
  | k :: ks, a => by
    have hx : a ++ txt crlf (k :: ks) = a ++ (List.replicate k 46 ++ (crlf ++ txt crlf ks)) := by rw [txt_cons]
    have hx2 : a ++ List.replicate k 46 ++ crlf ++ txt crlf ks = a ++ txt crlf (k :: ks) := by rw [hx]; simp only [List.append_assoc]
    have hl2 : (a ++ List.replicate k 46 ++ crlf).length = a.length + k + 2 := by rw [List.length_append, List.length_append, List.length_replicate]; rfl
    have ih := parts_rows ks (a ++ List.replicate k 46 ++ crlf)
    rw [hx2, hl2] at ih
    show strSub (sT (a ++ txt crlf (k :: ks))) a.length (a.length + k) :: _ = dots k :: _
    congr 1
    have := extract_mid a (List.replicate k 46) (crlf ++ txt crlf ks)
    rw [List.length_replicate, List.append_assoc, ← hx] at this
    unfold strSub dots sT
    congr 1
theorem split_rows (ks : List Nat) : Txt.split (sT (txt crlf ks)) (sT crlf) = ks.map dots ++ [sT []] := by
  have hocc : occurrences (sT (txt crlf ks)) (sT crlf) 0 (sT (txt crlf ks)).length ((sT (txt crlf ks)).length + 1) = cuts 0 ks := by
    have hL : (sT (txt crlf ks)).length = (txt crlf ks).length := by show (txt crlf ks).toArray.size = _; rw [List.size_toArray]
    rw [occ_eq, hL]
    have hk : ks.length ≤ (txt crlf ks).length := by
      induction ks with
      | nil => exact Nat.le_refl _
      | cons k ks ih =>
        have ih := ih (by show (txt crlf ks).toArray.size = _; rw [List.size_toArray])
        rw [txt_cons, List.length_append, List.length_append, List.length_cons]
        have : crlf.length = 2 := rfl
        omega
    have := occ_rows (limit := (txt crlf ks).length + 1) ks [] #[] 0 (Nat.le_refl _) (by show 0 + ks.length ≤ _; omega)
    exact this
  unfold Txt.split
  rw [hocc]
  have hp := parts_rows ks []
  cases ks with
  | nil => rfl
  | cons k ks =>
    have hlen : (txt crlf (k :: ks)).length = k + (2 + (txt crlf ks).length) := by
      rw [txt_cons, List.length_append, List.length_append, List.length_replicate]; rfl
    rw [if_neg, if_neg]
    · have hL : (sT (txt crlf (k :: ks))).length = (txt crlf (k :: ks)).length := by show (txt crlf (k :: ks)).toArray.size = _; rw [List.size_toArray]
      unfold partsBetween
      rw [hL]
      exact hp
    · exact Bool.false_ne_true
    · rw [Bool.or_eq_true]
      rintro (h | h)
      · have h := of_decide_eq_true h
        have hL : (sT (txt crlf (k :: ks))).length = (txt crlf (k :: ks)).length := by show (txt crlf (k :: ks)).toArray.size = _; rw [List.size_toArray]
        have h2 : (sT crlf).length = 2 := rfl
        omega
      · have h := of_decide_eq_true h
        have h1 : PySem.Builtin.Str.strKind (sT crlf) = 1 := by decide +kernel
        have h2 : 1 ≤ PySem.Builtin.Str.strKind (sT (txt crlf (k :: ks))) := by
          unfold PySem.Builtin.Str.strKind
          split
          · exact Nat.le_refl _
          · split <;> decide
        omega
theorem fold_gen (x : Array Nat) : ∀ (n : Nat) (a : Array Nat), ((List.replicate n x).foldl (· ++ ·) a).toList = a.toList ++ (List.replicate n x.toList).flatten
  | 0, a => by simp
  | n + 1, a => by
    rw [List.replicate_succ, List.foldl_cons, fold_gen x n, List.replicate_succ]
    simp
theorem mul_gen (x : Str) (n : Nat) : Txt.mul x ((n : Nat) : Int) = sT (List.replicate n x.cps.toList).flatten := by
  unfold Txt.mul
  by_cases h : ((n : Nat) : Int) < 1
  · rw [if_pos h]
    have : n = 0 := by omega
    subst this; rfl
  · rw [if_neg h]
    split
    · rename_i h2
      rw [Bool.or_eq_true] at h2
      rcases h2 with h2 | h2
      · have : n = 1 := by have := eq_of_beq h2; omega
        subst this
        unfold sT; simp
      · have h0 : x.cps.toList = [] := by
          have := eq_of_beq h2
          exact List.eq_nil_of_length_eq_zero (by rw [Array.length_toList]; exact this)
        rw [h0]
        have hx : x = sT [] := by
          obtain ⟨⟨l⟩⟩ := x
          have : l = [] := h0
          subst this; rfl
        rw [hx]
        have : (List.replicate n ([] : List Nat)).flatten = [] := by simp
        rw [this]
    · rw [Int.toNat_natCast]
      have := fold_gen x.cps n #[]
      unfold sT
      show (⟨_⟩ : Str) = ⟨_⟩
      congr 1
      apply Array.ext'
      rw [this]
      simp
theorem dots_mul (k : Nat) : Txt.mul (Str.ofString ".") ((k : Nat) : Int) = dots k := by
  rw [mul_gen, show (Str.ofString ".").cps.toList = [46] from rfl]
  unfold dots
  congr 1
  induction k with
  | zero => rfl
  | succ k ih => rw [List.replicate_succ, List.flatten_cons, ih]; rfl
theorem ones_mul (k : Nat) : Txt.mul (Str.ofString ".\r\n") ((k : Nat) : Int) = sT (txt crlf (List.replicate k 1)) := by
  rw [mul_gen, show (Str.ofString ".\r\n").cps.toList = [46, 13, 10] from rfl]
  congr 1
  induction k with
  | zero => rfl
  | succ k ih => rw [List.replicate_succ, List.flatten_cons, ih, List.replicate_succ]; rfl
theorem sT_app (a b : List Nat) : sT a ++ sT b = sT (a ++ b) := by
  show (⟨a.toArray ++ b.toArray⟩ : Str) = ⟨_⟩
  rw [List.append_toArray]
theorem txt_app (e a b : List Nat) : txt e (a ++ b) = txt e a ++ txt e b := List.flatMap_append
theorem flat_rows (e : List Nat) : ∀ ks : List Nat, flat (ks.map fun k => sT (List.replicate k 46 ++ e)) = txt e ks
  | [] => rfl
  | k :: ks => by
    show (List.replicate k 46 ++ e) ++ flat _ = (List.replicate k 46 ++ e) ++ txt e ks
    rw [flat_rows e ks]
theorem join_rows (e ks : List Nat) : Txt.join (Str.ofString "") (ks.map fun k => sT (List.replicate k 46 ++ e)) = sT (txt e ks) := by rw [join_flat, flat_rows]
theorem dots_app (k : Nat) (e : List Nat) : dots k ++ sT e = sT (List.replicate k 46 ++ e) := sT_app _ _
theorem dots_len (k : Nat) : (dots k).length = k := by show (List.replicate k 46).toArray.size = k; simp
theorem txt_len (e : List Nat) : ∀ (ks : List Nat), (txt e ks).length = ks.sum + e.length * ks.length
  | [] => rfl
  | k :: ks => by
    rw [txt_cons, List.length_append, List.length_append, List.length_replicate, txt_len e ks, List.sum_cons, List.length_cons, Nat.mul_succ]
    omega
end
end D32
end
section
open PySem PySem.W PyProof.Rows PySem.Calls
set_option maxRecDepth 100000
set_option maxHeartbeats 4000000
set_option linter.unusedVariables false
namespace D32
def bitNext (a : Nat) : Nat := if a % 2 = 0 then a + 1 else a
def toldL : Nat → Nat → List Nat → Nat → Option (List Nat)
  | 0, _, _, _ => none
  | f + 1, S, ks, cnt =>
    if S < cnt then none else if !(ks.all (fun k => 1 ≤ k && k ≤ 40) && ks.length ≤ 40) then none else
    match ks with
    | [] => some []
    | k :: r => if k < r.length + 1 then none else if k + 1 < bitNext (k - (r.length + 1)) + (r.length + 1) then none else
      (toldL f S (r.map (· + 1) ++ List.replicate (k + 1 - bitNext (k - (r.length + 1)) - (r.length + 1)) 1) (cnt + 1)).map (bitNext (k - (r.length + 1)) :: ·)
def gen : Nat → Nat → List (List Nat)
  | 0, _ => [[]]
  | n + 1, m => (List.range (m + 1)).flatMap fun a => (gen n a).map (a :: ·)
theorem mem_gen : ∀ (ks : List Nat) (m : Nat), ks.Pairwise (· ≥ ·) → (∀ k ∈ ks, k ≤ m) → ks ∈ gen ks.length m
  | [], _, _, _ => List.Mem.head _
  | k :: ks, m, hp, hm => by
    have h2 := List.pairwise_cons.mp hp
    refine List.mem_flatMap.mpr ⟨k, List.mem_range.mpr (Nat.lt_succ_of_le (hm k (List.Mem.head _))), List.mem_map.mpr ⟨ks, mem_gen ks k h2.2 h2.1, rfl⟩⟩
def unlikeFrom : List Nat → List Nat → List Nat
  | _, [] => []
  | seen, k :: ks => if seen.contains k then unlikeFrom (seen ++ [k]) ks else (k + 1) :: unlikeFrom (seen ++ [k]) ks
def unlike (ks : List Nat) : List Nat := unlikeFrom [] ks
def oddsOf (ks : List Nat) : List Nat := ks.map (2 * · + 1)
def okA (ks : List Nat) : Bool :=
  fallsB (laid (oddsOf ks)) 1 && ((laid (oddsOf ks)).sum == (oddsOf ks).sum) && (toldL 30 (laid (oddsOf ks)).sum (laid (oddsOf ks)) 0 == some (oddsOf ks)) &&
  (match oddsOf ks, laid (oddsOf ks) with
   | o :: _, z :: zs => ((o : Int) - (z : Int) + ((z :: zs).length : Int) == 0) || ((o : Int) - (z : Int) + ((z :: zs).length : Int) == 1)
   | _, _ => false) &&
  ((laid (oddsOf ks)).length ≤ 20) && (laid (oddsOf ks)).all (· ≤ 40)
def okB (us : List Nat) : Bool :=
  match toldL 60 us.sum us 0 with
  | none => false
  | some t => fallsB t 0 && (t.sum == us.sum) && t.all (· % 2 == 1) && (laid t == us) && (t.length ≤ 24) && t.all (· ≤ 40) && us.all (· ≤ 40) && (us.length ≤ 20)
def forceN {β : Type} (n : Nat) (k : Nat → β) : β := Nat.rec (k 0) (fun m _ => k (m + 1)) n
theorem forceN_eq {β : Type} (n : Nat) (k : Nat → β) : forceN n k = k n := by cases n <;> rfl
noncomputable def forceL {β : Type} (l : List Nat) : (List Nat → β) → β := List.rec (motive := fun _ => (List Nat → β) → β) (fun k => k []) (fun a _ ih k => forceN a fun a => ih fun t => k (a :: t)) l
theorem forceL_eq {β : Type} (l : List Nat) : ∀ (k : List Nat → β), forceL l k = k l := by
  induction l with
  | nil => exact fun _ => rfl
  | cons a t ih =>
    intro k
    show forceN a (fun a => forceL t fun t => k (a :: t)) = _
    rw [forceN_eq, ih]
noncomputable def allF (l : List Nat) : Bool := List.rec (motive := fun _ => Bool) true (fun k _ ih => match Nat.ble 1 k with
    | false => false
    | true => match Nat.ble k 40 with
      | false => false
      | true => ih) l
noncomputable def lenF (l : List Nat) : Nat := List.rec (motive := fun _ => Nat) 0 (fun _ _ ih => Nat.succ ih) l
theorem lenF_eq (l : List Nat) : lenF l = l.length := by
  induction l with
  | nil => rfl
  | cons k ks ih => exact congrArg Nat.succ ih
noncomputable def replF (m : Nat) : List Nat := Nat.rec (motive := fun _ => List Nat) [] (fun _ ih => 1 :: ih) m
theorem replF_eq (m : Nat) : replF m = List.replicate m 1 := by
  induction m with
  | zero => rfl
  | succ m ih => exact congrArg (1 :: ·) ih
noncomputable def pushF (r : List Nat) (m : Nat) : List Nat := List.rec (motive := fun _ => List Nat) (replF m) (fun a _ ih => (a + 1) :: ih) r
theorem pushF_eq (r : List Nat) (m : Nat) : pushF r m = r.map (· + 1) ++ List.replicate m 1 := by
  induction r with
  | nil => exact replF_eq m
  | cons a r ih => exact congrArg ((a + 1) :: ·) ih
theorem bleD (a b : Nat) : Nat.ble a b = decide (a ≤ b) := by
  cases h : Nat.ble a b with
  | true => exact (decide_eq_true (Nat.le_of_ble_eq_true h)).symm
  | false => exact (decide_eq_false fun q => by rw [Nat.ble_eq_true_of_le q] at h; cases h).symm
theorem allF_eq (ks : List Nat) : allF ks = ks.all (fun k => 1 ≤ k && k ≤ 40) := by
  induction ks with
  | nil => rfl
  | cons k ks ih =>
    show (match Nat.ble 1 k with | false => false | true => match Nat.ble k 40 with | false => false | true => allF ks) = _
    rw [List.all_cons, bleD, bleD, ih]
    cases decide (1 ≤ k) <;> cases decide (k ≤ 40) <;> rfl
theorem iteB {α : Type} (c : Prop) [Decidable c] (x y : α) : (if c then x else y) = bif decide c then x else y := by
  by_cases h : c <;> simp [h]
noncomputable def toldF (f : Nat) : Nat → List Nat → Nat → Option (List Nat) := Nat.rec (motive := fun _ => Nat → List Nat → Nat → Option (List Nat)) (fun _ _ _ => none)
  (fun _ ih S ks cnt =>
    bif Nat.ble (S + 1) cnt then none else bif !(allF ks && Nat.ble (lenF ks) 40) then none else
    match ks with
    | [] => some []
    | k :: r => forceN (lenF r) fun n => forceN (bitNext (k - (n + 1))) fun b => bif Nat.ble (k + 1) (n + 1) then none else bif Nat.ble (k + 2) (b + (n + 1)) then none else
      (forceL (pushF r (k + 1 - b - (n + 1))) fun l => ih S l (cnt + 1)).map (b :: ·)) f
theorem toldF_eq (f : Nat) : ∀ (S : Nat) (ks : List Nat) (cnt : Nat), toldF f S ks cnt = toldL f S ks cnt := by
  induction f with
  | zero => exact fun _ _ _ => rfl
  | succ f ih =>
    intro S ks cnt
    cases ks with
    | nil =>
      show (bif Nat.ble (S + 1) cnt then none else bif !(allF [] && Nat.ble (lenF []) 40) then none else some []) = _
      unfold toldL
      simp only [allF_eq, iteB, bleD, lenF_eq]
      rfl
    | cons k r =>
      show (bif Nat.ble (S + 1) cnt then none else bif !(allF (k :: r) && Nat.ble (lenF (k :: r)) 40) then none else
        forceN (lenF r) fun n => forceN (bitNext (k - (n + 1))) fun b => bif Nat.ble (k + 1) (n + 1) then none else bif Nat.ble (k + 2) (b + (n + 1)) then none else
          (forceL (pushF r (k + 1 - b - (n + 1))) fun l => toldF f S l (cnt + 1)).map (b :: ·)) = _
      unfold toldL
      simp only [forceN_eq, forceL_eq, ih, allF_eq, iteB, bleD, lenF_eq, pushF_eq, Bool.decide_eq_true]
      rfl
def fallsF (st : Nat) : List Nat → Bool
  | [] => true
  | a :: r => match r with
    | [] => true
    | b :: _ => Nat.ble (b + st) a && fallsF st r
theorem fallsF_eq (st : Nat) (os : List Nat) : fallsF st os = fallsB os (st : Int) := by
  induction os with
  | nil => rfl
  | cons a r ih =>
    cases r with
    | nil => rfl
    | cons b r =>
      show (Nat.ble (b + st) a && fallsF st (b :: r)) = (decide ((st : Int) ≤ (a : Int) - (b : Int)) && fallsB (b :: r) (st : Int))
      rw [ih, bleD]
      congr 1
      rw [decide_eq_decide]
      omega
noncomputable def decF (l : List Nat) : List Nat := List.rec (motive := fun _ => List Nat) [] (fun r _ ih => match r with
    | 0 => ih
    | n + 1 => match n with
      | 0 => ih
      | m + 1 => (m + 1) :: ih) l
theorem decF_eq (rs : List Nat) : decF rs = (rs.map (· - 1)).filter (fun r => decide (0 < r)) := by
  induction rs with
  | nil => rfl
  | cons r rs ih =>
    rcases r with _ | _ | m
    · exact ih
    · exact ih
    · show (m + 1) :: decF rs = _
      rw [ih]
      simp
noncomputable def layF (os : List Nat) : List Nat := List.rec (motive := fun _ => List Nat) [] (fun o _ ih => forceL ih fun rs => (lenF rs + o) :: decF rs) os
theorem layF_eq (os : List Nat) : layF os = laid os := by
  unfold laid
  rw [List.foldl_reverse]
  induction os with
  | nil => rfl
  | cons o os ih =>
    show forceL (layF os) (fun rs => (lenF rs + o) :: decF rs) = layStep _ o
    rw [forceL_eq, ih, lenF_eq, decF_eq]
    rfl
noncomputable def okF2 (o z : List Nat) : Bool :=
  fallsF 1 z && (z.sum == o.sum) && (toldF 30 z.sum z 0 == some o) &&
  (match o, z with
   | o :: _, z :: zs => ((o : Int) - (z : Int) + ((z :: zs).length : Int) == 0) || ((o : Int) - (z : Int) + ((z :: zs).length : Int) == 1)
   | _, _ => false) &&
  (z.length ≤ 20) && z.all (· ≤ 40)
noncomputable def okF (ks : List Nat) : Bool := forceL (oddsOf ks) fun o => forceL (layF o) fun z => okF2 o z
theorem okF_eq (ks : List Nat) : okF ks = okA ks := by
  unfold okF okF2 okA
  simp only [forceL_eq, layF_eq, toldF_eq, fallsF_eq]
  rfl
theorem okF4 : (gen 4 5).all okF = true := by decide +kernel
theorem okF5 : (gen 5 5).all okF = true := by decide +kernel
theorem okF6 : (gen 6 5).all okF = true := by decide +kernel
theorem okF7 : (gen 7 5).all okF = true := by decide +kernel
theorem okA_all : (gen 4 5 ++ gen 5 5 ++ gen 6 5 ++ gen 7 5).all okA = true := by
  simp only [List.all_append, Bool.and_eq_true, ← show okF = okA from funext okF_eq]
  exact ⟨⟨⟨okF4, okF5⟩, okF6⟩, okF7⟩
def subs : List (List Nat) := (gen 1 5 ++ gen 2 5 ++ gen 3 5 ++ gen 4 5 ++ gen 5 5 ++ gen 6 5).filter fun l => (l.zip (l.drop 1)).all fun p => p.2 < p.1
theorem okB_all : subs.all (fun l => okB (l.map (· + 1))) = true := by decide +kernel
end D32
end
section
open PySem PySem.W PyProof.Rows PySem.Calls
set_option maxRecDepth 100000
set_option maxHeartbeats 4000000
set_option linter.unusedVariables false
namespace D32
theorem ldG {M : Model} {A : Around} {E : Value → Shared → Prop} {s : Shared} {h₀ : Heap} {m : Str → Option Value} {env : Env} {x : Str} {pos : Pos} {v : Value} {Q : Value → Shared → Prop} (F : Fr h₀ env.locals s.heap m) (hv : m x = some v) (h : Q v s)
    (hk : env.scope.kind = .function) (hl : env.kindOf x = some .local) (hd : (x == ("__debug__" : Str)) = false) : wpAny M A (eval (.Name x pos) env) Q E s := wpAny_Name (wpAny_loadName_local hk hl F.ns hv h) hd
theorem ldnG {M : Model} {A : Around} {E : Value → Shared → Prop} {s : Shared} {h₀ : Heap} {m : Str → Option Value} {env : Env} {x : Str} {v : Value} {Q : Value → Shared → Prop} (F : Fr h₀ env.locals s.heap m) (hv : m x = some v) (h : Q v s)
    (hk : env.scope.kind = .function) (hl : env.kindOf x = some .local) : wpAny M A (loadName env x) Q E s := wpAny_loadName_local hk hl F.ns hv h
local macro_rules | `(tactic| walk_at "eval Name") => `(tactic| ((with_reducible show wpAny _ _ (eval (Expr.Name _ _) (envOfC _ _ _ _ _)) _ _ _); k_dflt (refine' ldG ?k1 ?k2 ?_ ?a ?b ?c; (case b => rfl); (case k1 => k_asm); (case k2 => ((try dsimp only); (repeat (refine Eq.trans (if_neg ?hn) ?_; (case hn => decide))); assumption)); (case a => rfl); (case c => decide); k_whole)))
local macro_rules | `(tactic| k_room) => `(tactic| ((try simp only [depth_under_make, depth_under_kw, depth_in1, depth_deeper, depth_caller]); omega))
local macro_rules | `(tactic| walk_at "eval Name") => `(tactic| k_dflt (refine' cName_L ?F ?a ?_ ?b ?c ?d; (case F => assumption); (case a => first | assumption | rfl); (case b => rfl); (case c => rfl); (case d => decide); k_whole))
local macro_rules | `(tactic| walk_at "eval Name") => `(tactic| k_dflt (refine' cName_K ?F ?X ?T ?e ?_ ?a ?b ?c ?d; (case F => assumption); (case X => assumption); (case T => assumption); (case e => k_is); (case a => rfl); (case b => rfl); (case c => rfl); (case d => decide); k_whole))
local macro_rules | `(tactic| walk_at "eval Name") => `(tactic| k_dflt (refine' cName_B ?F ?X ?T ?e ?v ?n ?_ ?a ?f ?b ?c ?d; (case F => assumption); (case X => assumption); (case T => assumption); (case e => k_is); (case v => boot_fast); (case n => decide); (case a => rfl); (case f => rfl); (case b => rfl); (case c => rfl); (case d => decide); k_whole))
local macro_rules | `(tactic| walk_at "exec For Name Subscript cons nil") => `(tactic| refine halt ?_)
local macro_rules | `(tactic| walk_at "exec For Name Name cons nil") => `(tactic| refine halt ?_)
local macro_rules | `(tactic| walk_at "exec While") => `(tactic| refine halt ?_)
local macro_rules | `(tactic| walk_at "exec While BoolOp") => `(tactic| refine halt ?_)
local macro_rules | `(tactic| walk_at "pyIter ref") => `(tactic| refine halt ?_)
local macro_rules | `(tactic| walk_at "pyIter str") => `(tactic| refine halt ?_)
local macro_rules | `(tactic| walk_at "eval ListComp") => `(tactic| refine halt ?_)
local macro_rules | `(tactic| walk_at "exec Assign cons ListComp") => `(tactic| refine halt ?_)
local macro_rules | `(tactic| walk_at "eval Name") => `(tactic| k_dflt (refine' ldCellK ?k ?hc ?_ ?b ?c ?d; (case k => with_reducible assumption); (case hc => assumption); (case b => rfl); (case c => rfl); (case d => decide); k_whole))
local macro_rules | `(tactic| walk_at "call ref") => `(tactic| refine halt ?_)
local macro_rules | `(tactic| walk_at "call builtin:str.split") => `(tactic| refine halt ?_)
local macro_rules | `(tactic| walk_at "subscriptTail Name Slice ref ref") => `(tactic| refine halt ?_)

theorem eol_le {e : List Nat} (he : EolOk e) : e.length ≤ 2 := by rcases he with rfl | rfl | rfl <;> decide
theorem sum_le : ∀ {ks : List Nat}, (∀ k ∈ ks, k ≤ 40) → ks.sum ≤ 40 * ks.length
  | [], _ => Nat.le_refl _
  | k :: ks, h => by
    have h1 := h k (List.Mem.head _)
    have h2 := sum_le (ks := ks) fun k' hk => h k' (List.mem_cons_of_mem _ hk)
    rw [List.sum_cons, List.length_cons]
    omega
theorem strs_rows {e : List Nat} : ∀ {vs : List Value} {ks : List Nat} {ys : List Value}, IntsAre vs (ks.map fun (k : Nat) => (k : Int)) → Paired (fun v y => ∃ (k : Nat) (t t' : Tok), v = Value.int (k : Int) t ∧ y = Value.str (sT (List.replicate k 46 ++ e)) t') vs ys → StrsAre ys (ks.map fun k => sT (List.replicate k 46 ++ e))
  | [], [], _, .nil, .nil => .nil
  | _, k :: ks, _, .cons _ t hi, .cons hg hp => by
    obtain ⟨k', t1, t2, e1, rfl⟩ := hg
    injection e1 with e1 _
    have e1 : k = k' := Int.ofNat.inj e1
    subst e1
    exact .cons _ _ (strs_rows hi hp)
theorem toldL_nil {f S cnt : Nat} {rest : List Nat} (h : toldL (f + 1) S [] cnt = some rest) : rest = [] := by
  unfold toldL at h
  split at h
  · cases h
  · split at h
    · cases h
    · cases h; rfl
theorem toldL_cons {f S cnt k : Nat} {r rest : List Nat} (h : toldL (f + 1) S (k :: r) cnt = some rest) : cnt ≤ S ∧ (∀ x ∈ k :: r, 1 ≤ x ∧ x ≤ 40) ∧ (k :: r).length ≤ 40 ∧ r.length + 1 ≤ k ∧ bitNext (k - (r.length + 1)) + (r.length + 1) ≤ k + 1 ∧
    ∃ rest', rest = bitNext (k - (r.length + 1)) :: rest' ∧ toldL f S (r.map (· + 1) ++ List.replicate (k + 1 - bitNext (k - (r.length + 1)) - (r.length + 1)) 1) (cnt + 1) = some rest' := by
  unfold toldL at h
  split at h
  · cases h
  · rename_i h1
    split at h
    · cases h
    · rename_i h2
      have h2 : ((k :: r).all (fun k => decide (1 ≤ k) && decide (k ≤ 40)) && decide ((k :: r).length ≤ 40)) = true := (Bool.eq_false_or_eq_true _).elim id fun hf => absurd (by rw [hf]; rfl) h2
      rw [Bool.and_eq_true, List.all_eq_true] at h2
      dsimp only at h
      split at h
      · cases h
      · rename_i h3
        split at h
        · cases h
        · rename_i h4
          refine ⟨by omega, fun x hx => by simpa using h2.1 x hx, by simpa using h2.2, by omega, by omega, ?_⟩
          cases hq : toldL f S (r.map (· + 1) ++ List.replicate (k + 1 - bitNext (k - (r.length + 1)) - (r.length + 1)) 1) (cnt + 1) with
          | none => rw [hq] at h; cases h
          | some rest' =>
            rw [hq] at h
            cases h
            exact ⟨rest', rfl, rfl⟩
theorem strs_init : ∀ {as : List Str} {b : Str} {vs : List Value}, StrsAre vs (as ++ [b]) → ∃ us v, vs = us ++ [v] ∧ StrsAre us as
  | [], _, _, .cons _ t .nil => ⟨[], _, rfl, .nil⟩
  | a :: as, b, _, .cons _ t h => by
    obtain ⟨us, v, rfl, h2⟩ := strs_init h
    exact ⟨_ :: us, v, rfl, .cons _ t h2⟩
theorem pick_init (us : List Value) (v : Value) : kms_pick (us ++ [v]) none (some (-1)) = us := by
  unfold kms_pick kms_lo kms_hi
  simp
theorem pick_tail (us : List Value) (v : Value) : kms_pick (v :: us) (some 1) none = us := by
  unfold kms_pick kms_lo kms_hi
  simp
theorem bitOr_next {a : Nat} (ha : a < 64) : Builtin.bitOr (a : Int) 1 = ((bitNext a : Nat) : Int) := by
  have h : ∀ a : Nat, a < 64 → Builtin.bitOr (a : Int) 1 = ((bitNext a : Nat) : Int) := by decide +kernel
  exact h a ha
theorem len_rows {w : World} {A : Around} {E : Value → Shared → Prop} {s : Shared} {D : Addr} {items : Array Value} {n : Nat} {Q : Value → Shared → Prop} (hl : s.heap.IsList D items) (hn : items.size = n) (hb : n ≤ 1000)
    (h : Q (.int (n : Int) (s.toks + 1)) { s with toks := s.toks + 1 + 1 }) : wpAny (model pw w) A (call (.builtin "len") [.ref D]) Q E s := by
  subst hn
  exact Calls.call_len_list hl (by omega) h
theorem dots_mem : ∀ {vs : List Value} {r : List Nat}, StrsAre vs (r.map dots) → ∀ v ∈ vs, ∃ x ∈ r, ∃ t, v = .str (dots x) t
  | _, [], .nil, v, hv => nomatch hv
  | _, x :: r, .cons _ t h, v, hv => by
    rcases List.mem_cons.mp hv with rfl | hv
    · exact ⟨x, List.Mem.head _, t, rfl⟩
    · obtain ⟨y, hy, t', e⟩ := dots_mem h v hv
      exact ⟨y, List.mem_cons_of_mem _ hy, t', e⟩
theorem dots_inj {a b : Nat} (h : dots a = dots b) : a = b := by rw [← dots_len a, h, dots_len]
theorem strs_rows2 {e : List Nat} : ∀ {vs : List Value} {ks : List Nat} {ys : List Value}, StrsAre vs (ks.map dots) → Paired (fun v y => ∃ (k : Nat) (t t' : Tok), v = Value.str (dots k) t ∧ y = Value.str (sT (List.replicate k 46 ++ e)) t') vs ys → StrsAre ys (ks.map fun k => sT (List.replicate k 46 ++ e))
  | [], [], _, .nil, .nil => .nil
  | _, k :: ks, _, .cons _ t hi, .cons hg hp => by
    obtain ⟨k', t1, t2, e1, rfl⟩ := hg
    injection e1 with e1 _
    have e1 : k = k' := dots_inj e1
    subst e1
    exact .cons _ _ (strs_rows2 hi hp)
theorem ints_snoc {x : Int} {t : Tok} : ∀ {vs : List Value} {ns : List Int}, IntsAre vs ns → IntsAre (vs ++ [.int x t]) (ns ++ [x])
  | _, _, .nil => .cons _ _ .nil
  | _, _, .cons _ _ h => .cons _ _ (ints_snoc h)
theorem sum_succ : ∀ ks : List Nat, (ks.map (· + 1)).sum = ks.sum + ks.length
  | [] => rfl
  | k :: ks => by rw [List.map_cons, List.sum_cons, List.sum_cons, sum_succ ks, List.length_cons]; omega
theorem sum_cast : ∀ ks : List Nat, (ks.map fun (k : Nat) => (k : Int)).sum = (ks.sum : Int)
  | [] => rfl
  | k :: ks => by rw [List.map_cons, List.sum_cons, List.sum_cons, sum_cast ks]; omega
section
variable {w : World} {A : Around} {env : Env} {test : Expr} {body : List Stmt} {R : Result → Shared → Prop}
def WStep (s : Shared) (I : Nat → Heap → Prop) (n : Nat) (f : Flow) (s₃ : Shared) : Prop := f = .next ∧ ∃ m, m < n ∧ ∃ h' tk', s₃ = { s with heap := h', toks := tk' } ∧ I m h'
theorem WStep.intro {s : Shared} {I : Nat → Heap → Prop} {n m : Nat} {h' : Heap} {tk' : Nat} (hm : m < n) (h : I m h') : WStep s I n .next { s with heap := h', toks := tk' } := ⟨rfl, m, hm, h', tk', rfl, h⟩
theorem while_inv {s : Shared} (I : Nat → Heap → Prop) (n : Nat) (h0 : I n s.heap)
    (turn : ∀ n h tk, I n h → wpAny (model pw w) A (isTrue test env (eval test env)) (fun b s₂ => if b then wpAny (model pw w) A (execs body env) (WStep s I n) (fun _ _ => False) s₂ else R (.ok .next) s₂) (fun _ _ => False) { s with heap := h, toks := tk }) :
    codeAny (model pw w) A (.whileLoop test body [] env) R s := by
  refine codeAny_whileLoop (fun n s' => ∃ h' tk', s' = { s with heap := h', toks := tk' } ∧ I n h') (fun n s' h => ?_) n ⟨s.heap, s.toks, rfl, h0⟩
  obtain ⟨h', tk', rfl, hI⟩ := h
  refine wpAny_mono (turn n h' tk' hI) (fun b s₂ hb => ?_) fun _ _ e => e.elim
  cases b with
  | true =>
    refine wpAny_mono hb (fun f s₃ hf => ?_) fun _ _ e => e.elim
    obtain ⟨rfl, m, hm, h2, tk2, e, hI2⟩ := hf
    exact ⟨m, hm, h2, tk2, e, hI2⟩
  | false => exact wpAny_execs_nil hb
end
theorem told_spec {w : World} {mean : ExcName → Option Value} {mg mb : Str → Option Value} {A : Around} {s : Shared} {Q E : Value → Shared → Prop} {l : Addr} {items : Array Value} {ks os : List Nat} {e : List Nat} {te : Tok} {fuel : Nat} (hA : A.handled = none)
    (X : (K w.params).In s.heap) (T : TopH mean mg mb s.heap) (hd : A.depth + 5 < recursionLimit) (hl : s.heap.IsList l items) (hi : IntsAre items.toList (ks.map fun (k : Nat) => (k : Int))) (he : EolOk e) (ht : toldL fuel ks.sum ks 0 = some os) (hn : ks.length ≤ 40) (hk40 : ∀ k ∈ ks, k ≤ 40)
    (h : ∀ (h' : Heap) (tk : Nat) D ws, Ext s.heap h' → s.heap.get? D = none → h'.PlainList D ws → IntsAre ws.toList (os.map fun (k : Nat) => (k : Int)) → Q (.ref D) { s with heap := h', toks := tk }) : wpAny (model pw w) A (call (.ref 183) [.ref l, .str (sT e) te]) Q E s := by
  refine wpAny_call ?_
  refine call_cells_ret (name := Str.ofString "_law_told") (params := fArgs (stm 24)) (body := fBody (stm 24)) (scope := fScope (stm 24)) (cd := .ref 182) (doc := .none) (pm := .str (Str.ofString "law_to0032_01") 2438) (o := x183 w.params) (binds := [(Str.ofString "sizes", .ref l), (Str.ofString "end", .str (sT e) te)]) (by omega) (X _ _ (by k_is)) rfl T.nolimit (codeRec_of X (by k_is)) (BindsTo.of_eq rfl) ?_ ?_ ?_
  · intro n x hx
    rcases List.mem_cons.mp hx with rfl | hx
    · exact .inl rfl
    · rw [List.mem_singleton.mp hx]; exact .inr ⟨rfl, rfl⟩
  · decide
  intro h₁ tk cells F N Y
  k_cells Y
  rename_i o' d1'
  have hl1 : h₁.IsList l items := by
    obtain ⟨o, e, c⟩ := hl
    exact ⟨o, F.keep _ _ e, c⟩
  have hc1 : h₁.IsCell (s.heap.objs.size + 1) (some (.str (sT e) te)) := by
    obtain ⟨e1, e2, e3⟩ := N _ (List.Mem.head _)
    exact ⟨_, e1, by assumption⟩
  have hk1 : List.lookup (Str.ofString "end") [(Str.ofString "end", s.heap.objs.size + 1)] = some (s.heap.objs.size + 1) := rfl
  k_steps
  unfold Halt
  refine lcE (cl := [(Str.ofString "end", s.heap.objs.size + 1)]) (fun _ => true) (fun v y => ∃ (k : Nat) (t t' : Tok), v = Value.int (k : Int) t ∧ y = Value.str (sT (List.replicate k 46 ++ e)) t') ?_
  k_steps
  unfold Halt
  have hlen : items.size = ks.length := by have := ints_len hi; simpa using this
  refine src_list0 (items := items) (by exact hA) (by rw [sizeLine_eq]; omega) hl1 (fun _ _ => trivial) (fun _ hb => nomatch hb) ?_ ?_
  · intro C v s₃ m₃ E' hv F3 hm3
    obtain ⟨j, hj, hjv⟩ := List.getElem_of_mem hv
    obtain ⟨x1, t1, e1, rfl⟩ := ints_get hi j v (by rw [← hjv]; exact List.getElem?_eq_getElem hj)
    have N3 := nilOf F3
    have hx1 : x1 ≤ 40 := hk40 x1 (List.mem_of_getElem? e1)
    have hdl := dots_len x1
    have hel : (sT e).length ≤ 2 := by rcases he with rfl | rfl | rfl <;> decide
    have hc3 : s₃.heap.IsCell (s.heap.objs.size + 1) (some (.str (sT e) te)) := by
      obtain ⟨o, e', c⟩ := hc1
      exact ⟨o, F3.keep _ _ e', c⟩
    k_steps
    all_goals (try (with_reducible show Value.str _ _ = Value.str _ _; rw [dots_mul, dots_app]))
    all_goals (try (with_reducible show Keeps _ _; exact keeps_of fun _ _ e => e))
  · intro D2 h2 tk2 items2 e2 _ hD2 hpl2 hG2
    have e2' : Ext h₁ h2 := fun b o x => e2 b o (by simp) x
    obtain ⟨F2, N2⟩ := use_ext F N e2'
    have X2 := X.keeps F2.keep
    have T2 := T.keeps F2.keep
    dsimp only
    k_steps
    have hS2 := strs_rows (e := e) hi hG2
    have hsum := sum_le hk40
    have hjn : ((ks.map fun k => sT (List.replicate k 46 ++ e)).map (·.length)).sum ≤ 10000 := by
      have := total_flat (ks.map fun k => sT (List.replicate k 46 ++ e))
      unfold total at this
      rw [this, flat_rows, txt_len]
      have := Nat.mul_le_mul (eol_le he) hn
      omega
    refine join_list hpl2.isList hS2 (by show _ + _ * 0 ≤ _; omega) fun t' tk' => ?_
    rw [join_rows]
    k_steps
    unfold Halt
    refine fix_spec he X2 T2 (by k_room) (by omega) (by rw [txt_len]; show _ + 2 * _ ≤ _; omega) (by rw [txt_len]; have := eol_le he; have := Nat.mul_le_mul this hn; omega) fun h3 tk3 t3 e3 => ?_
    obtain ⟨F3, N3⟩ := use_ext F2 N2 e3
    have X3 := X.keeps F3.keep
    have T3 := T.keeps F3.keep
    dsimp only
    k_steps
    unfold Halt
    refine wpAny_While ?_
    rename_i lO h4 lt4 h5 F5 N5
    refine while_inv (fun n h => ∃ m D ys k ks' done rest t, Fr s.heap s.heap.objs.size h m ∧ News s.heap s.heap.objs.size h [(D, W.listOf ys k), (s.heap.objs.size + 1, o')] ∧ s.heap.objs.size + 1 < D ∧ m (Str.ofString "mail") = some (.str (sT (txt crlf ks')) t) ∧
      m (Str.ofString "odds") = some (.ref D) ∧ m (Str.ofString "sizes") = some (.ref l) ∧ IntsAre ys.toList (done.map fun (k : Nat) => (k : Int)) ∧ toldL n ks.sum ks' done.length = some rest ∧ os = done ++ rest) fuel ?_ ?_
    · exact ⟨_, lO, #[], 0, ks, [], os, t3, F5, N5, lt4, rfl, rfl, rfl, .nil, ht, rfl⟩
    · intro n h6 tk6 hI
      obtain ⟨m, D, ys, kk, ks', done, rest, t6, F6, N6, lt6, hmail, hodds, hsizes, hys, ht6, hos⟩ := hI
      have X6 := X.keeps F6.keep
      have T6 := T.keeps F6.keep
      have hl6 : h6.IsList l items.toList.toArray := by
        obtain ⟨o, e, c⟩ := hl
        exact ⟨o, F6.keep _ _ e, c⟩
      have hc6 : h6.IsCell (s.heap.objs.size + 1) (some (.str (sT e) te)) := ⟨_, (N6 _ (List.mem_cons_of_mem _ (List.Mem.head _))).1, by assumption⟩
      cases n with
      | zero => cases ht6
      | succ f =>
      cases ks' with
      | nil =>
        have hr := toldL_nil ht6
        k_steps
        subst hr
        rw [List.append_nil] at hos
        subst hos
        refine h h6 _ D ys F6.keep ?_ ⟨kk, (N6 _ (List.Mem.head _)).1⟩ hys
        exact Heap.get?_none_of_le (by omega)
      | cons k r =>
        obtain ⟨hc, hb, hlr, hkr, hmo, rest', hr, ht7⟩ := toldL_cons ht6
        k_steps
        have hmlen : (sT (txt crlf (k :: r))).length = (k :: r).sum + 2 * (k :: r).length := by
          have hq := txt_len crlf (k :: r)
          show (txt crlf (k :: r)).toArray.size = _
          rw [List.size_toArray, hq]
          rfl
        have hsr := sum_le (ks := k :: r) fun x hx => (hb x hx).2
        refine PySem.P.truthy_str (by rw [hmlen]; omega) ?_
        have hne : (((sT (txt crlf (k :: r))).length : Int) != 0) = true := by
          rw [hmlen, List.length_cons]
          simp; omega
        rw [hne]
        dsimp only [if_true]
        k_steps
        refine LSm.sum_ints F6 N6 (by exact hA) hl6 hi fun h7 tk7 t7 F7 N7 => ?_
        have X7 := X.keeps F7.keep
        have T7 := T.keeps F7.keep
        have hl7 : h7.IsList l items.toList.toArray := by
          obtain ⟨o, e, c⟩ := hl
          exact ⟨o, F7.keep _ _ e, c⟩
        have hc7 : h7.IsCell (s.heap.objs.size + 1) (some (.str (sT e) te)) := ⟨_, (N7 _ (List.mem_cons_of_mem _ (List.Mem.head _))).1, by assumption⟩
        have hle : (((done.map fun (k : Nat) => (k : Int)).length : Nat) : Int) ≤ (ks.map fun (k : Nat) => (k : Int)).sum := by
          rw [List.length_map, sum_cast]; omega
        dsimp only
        k_steps
        unfold Halt
        refine splitN1A F7 N7 (by decide) ?_ (by rw [hmlen, sizeLine_eq]; rw [List.length_cons] at *; omega)
        intro lv h8 tk8 e8 hS8 _ hL8 F8 N8
        have e8 := e8.trans (split_rows (k :: r))
        rw [e8] at hS8
        obtain ⟨us, ve, hus, hS8'⟩ := strs_init hS8
        have X8 := X.keeps F8.keep
        have T8 := T.keeps F8.keep
        dsimp only
        k_steps
        unfold Halt
        refine kms_slice_lit (its := (strValues lv).toArray) (zs := us) F8 N8 hL8 (by kmk_part) (by kmk_part) (by rw [hus]; exact pick_init us ve) ?_ (by with_unfolding_all rfl) (by kmk_pure) (by rw [hus, List.size_toArray, List.length_append]; have := hS8'.length; rw [List.length_map, List.length_cons] at this; rw [sizeLine_eq]; show us.length + 1 ≤ _; rw [List.length_cons] at hlr; omega)
        intro D9 h9 F9 N9 lt9
        cases hS8' with
        | cons _ t0 hvr =>
        rename_i vr
        have X9 := X.keeps F9.keep
        have T9 := T.keeps F9.keep
        have hd0 := dots_len k
        have hvl : vr.length = r.length := by have := hvr.length; simpa using this
        have hk40' := (hb k (List.Mem.head _)).2
        have hr40 : r.length ≤ 39 := by rw [List.length_cons] at hlr; omega
        dsimp only
        k_steps
        rename_i h9b F9b N9b
        have X9b := X.keeps F9b.keep
        have T9b := T.keeps F9b.keep
        refine len_rows (n := r.length + 1) ⟨_, N9b.get (List.Mem.head _), rfl, 0, rfl⟩ (by rw [List.size_toArray, List.length_cons, hvl]) (by omega) ?_
        dsimp only
        k_steps
        unfold Halt
        refine sub_spec X9b T9b (by k_room) fun h10 tk10 t10 e10 => ?_
        obtain ⟨F10, N10⟩ := use_ext F9b N9b e10
        have X10 := X.keeps F10.keep
        have T10 := T.keeps F10.keep
        have hsub : (((dots k).length : Nat) : Int) - ((r.length + 1 : Nat) : Int) = ((k - (r.length + 1) : Nat) : Int) := by rw [hd0]; omega
        rw [hsub]
        dsimp only
        k_steps
        unfold Halt
        refine or_spec X10 T10 (by k_room) fun h11 tk11 t11 e11 => ?_
        obtain ⟨F11, N11⟩ := use_ext F10 N10 e11
        have X11 := X.keeps F11.keep
        have T11 := T.keeps F11.keep
        rw [bitOr_next (by omega)]
        dsimp only
        k_steps
        rename_i h12 F12 N12
        have X12 := X.keeps F12.keep
        have T12 := T.keeps F12.keep
        refine len_rows (n := r.length + 1) ⟨_, N12.get (List.Mem.head _), rfl, 0, rfl⟩ (by rw [List.size_toArray, List.length_cons, hvl]) (by omega) ?_
        dsimp only
        k_steps
        unfold Halt
        rename_i h13 F13 N13
        have X13 := X.keeps F13.keep
        have T13 := T.keeps F13.keep
        refine lcE (cl := [(Str.ofString "end", s.heap.objs.size + 1)]) (fun _ => true) (fun v y => ∃ (k : Nat) (t t' : Tok), v = Value.str (dots k) t ∧ y = Value.str (sT (List.replicate k 46 ++ e)) t') ?_
        k_steps
        unfold Halt
        refine kms_slice_lit (its := (Value.str (dots k) t0 :: vr).toArray) (zs := vr) F13 N13 ⟨_, N13.get (List.Mem.head _), rfl, 0, rfl⟩ (by kmk_part) (by kmk_part) (pick_tail vr _) ?_ (by with_unfolding_all rfl) (by kmk_pure) (by rw [List.size_toArray, List.length_cons, hvl, sizeLine_eq]; omega)
        intro D14 h14 F14 N14 lt14
        have X14 := X.keeps F14.keep
        have T14 := T.keeps F14.keep
        have hc14 : h14.IsCell (s.heap.objs.size + 1) (some (.str (sT e) te)) := by
          obtain ⟨o, e', c⟩ := hc7
          refine ⟨o', ?_, by assumption⟩
          exact N14.get (a := s.heap.objs.size + 1) (o := o') (by simp)
        dsimp only
        k_steps
        unfold Halt
        refine src_list0 (items := vr.toArray) (by exact hA) (by rw [List.size_toArray, hvl, sizeLine_eq]; omega) (hl := ⟨_, N14.get (List.Mem.head _), rfl, 0, rfl⟩) (fun _ _ => trivial) (fun _ hb => nomatch hb) ?_ ?_
        · intro C v s₃ m₃ E' hv F15 hm15
          obtain ⟨x1, hx1, t1, rfl⟩ := dots_mem hvr v hv
          have N15 := nilOf F15
          have hx40 : x1 ≤ 40 := (hb x1 (List.mem_cons_of_mem _ hx1)).2
          have hdl := dots_len x1
          have hel : (sT e).length ≤ 2 := by rcases he with rfl | rfl | rfl <;> decide
          have hc15 : s₃.heap.IsCell (s.heap.objs.size + 1) (some (.str (sT e) te)) := by
            obtain ⟨o, e', c⟩ := hc14
            exact ⟨o, F15.keep _ _ e', c⟩
          k_steps
          all_goals (try (with_reducible show Value.str _ _ = Value.str _ _; rw [dots_app]))
          all_goals (try (with_reducible show Keeps _ _; exact keeps_of fun _ _ e => e))
        · intro D15 h15 tk15 items15 e15 _ hD15 hpl15 hG15
          have e15' : Ext h14 h15 := fun b o x => e15 b o (by simp) x
          obtain ⟨F15, N15⟩ := use_ext F14 N14 e15'
          have X15 := X.keeps F15.keep
          have T15 := T.keeps F15.keep
          have hS15 := strs_rows2 (e := e) hvr hG15
          have hsr2 := sum_le (ks := r) fun x hx => (hb x (List.mem_cons_of_mem _ hx)).2
          have hel2 := Nat.mul_le_mul (eol_le he) hr40
          have hjn2 : ((r.map fun k => sT (List.replicate k 46 ++ e)).map (·.length)).sum ≤ 10000 := by
            have := total_flat (r.map fun k => sT (List.replicate k 46 ++ e))
            unfold total at this
            rw [this, flat_rows, txt_len]
            omega
          dsimp only
          k_steps
          refine join_list hpl15.isList hS15 (by show _ + _ * 0 ≤ _; omega) fun t16 tk16 => ?_
          rw [join_rows]
          k_steps
          unfold Halt
          refine quote_spec he X15 T15 (by k_room) (by omega) (fun x hx => (hb x (List.mem_cons_of_mem _ hx)).1) (by rw [txt_len]; show _ + 2 * _ ≤ _; omega) (by rw [txt_len]; omega) (by rw [txt_len, sum_succ, List.length_map]; show _ + 2 * _ ≤ _; omega) fun h17 tk17 t17 e17 => ?_
          obtain ⟨F17, N17⟩ := use_ext F15 N15 e17
          have X17 := X.keeps F17.keep
          have T17 := T.keeps F17.keep
          have hmore : ((dots k).length : Int) - ((bitNext (k - (r.length + 1)) : Nat) : Int) - ((r.length + 1 : Nat) : Int) + 1 = ((k + 1 - bitNext (k - (r.length + 1)) - (r.length + 1) : Nat) : Int) := by rw [hd0]; omega
          have hsl : (sT (txt crlf (r.map (· + 1)))).length ≤ 5000 := by
            show (txt crlf (r.map (· + 1))).toArray.size ≤ _
            rw [List.size_toArray, txt_len, sum_succ, List.length_map]
            show _ + 2 * _ ≤ _
            omega
          dsimp only
          k_steps
          rename_i h18 F18 N18
          have N19 : News s.heap s.heap.objs.size h18 [(D, W.listOf ys kk), (s.heap.objs.size + 1, o')] := fun p hp => by
            rcases List.mem_cons.mp hp with rfl | hp
            · exact N18 _ (by simp)
            · rw [List.mem_singleton.mp hp]; exact N18 _ (by simp)
          have hysz : ys.size = done.length := by have := hys.length; simpa using this
          refine append_head F18 N19 (by intro p hp; rw [List.mem_singleton.mp hp]; exact Nat.ne_of_lt lt6) (fun h19 F19 N20 => ?_) (hsz := by rw [hysz, sizeLine_eq]; omega)
          refine wpAny_execs_nil ?_
          refine WStep.intro (m := f) (Nat.lt_succ_self f) ?_
          refine ⟨_, D, ys.push _, kk + 1, r.map (· + 1) ++ List.replicate (k + 1 - bitNext (k - (r.length + 1)) - (r.length + 1)) 1, done ++ [bitNext (k - (r.length + 1))], rest', ?tt, F19, N20, lt6, ?mail, ?c2, ?c3, ?c4, ?c5, ?c6⟩
          case mail =>
            refine (if_pos rfl).trans ?_
            rw [hmore, ones_mul, sT_app, ← txt_app]
          case c2 =>
            dsimp only
            repeat (refine Eq.trans (if_neg ?hn) ?_; (case hn => decide))
            assumption
          case c3 =>
            dsimp only
            repeat (refine Eq.trans (if_neg ?hn) ?_; (case hn => decide))
            assumption
          case c4 =>
            rw [Array.toList_push, List.map_append]
            exact ints_snoc hys
          case c5 =>
            rw [List.length_append]
            exact ht7
          case c6 =>
            rw [hos, hr, List.append_assoc]
            rfl
end D32
end
section
open PySem PySem.W PyProof.Rows PySem.Calls
set_option maxRecDepth 100000
set_option maxHeartbeats 4000000
set_option linter.unusedVariables false
namespace D32
local macro_rules | `(tactic| walk_at "eval Name") => `(tactic| ((with_reducible show wpAny _ _ (eval (Expr.Name _ _) (envOfC _ _ _ _ _)) _ _ _); k_dflt (refine' ldG ?k1 ?k2 ?_ ?a ?b ?c; (case b => rfl); (case k1 => k_asm); (case k2 => ((try dsimp only); (repeat (refine Eq.trans (if_neg ?hn) ?_; (case hn => decide))); assumption)); (case a => rfl); (case c => decide); k_whole)))
local macro_rules | `(tactic| k_room) => `(tactic| ((try simp only [depth_under_make, depth_under_kw, depth_in1, depth_deeper, depth_caller]); omega))
local macro_rules | `(tactic| walk_at "eval Name") => `(tactic| k_dflt (refine' cName_L ?F ?a ?_ ?b ?c ?d; (case F => assumption); (case a => first | assumption | rfl); (case b => rfl); (case c => rfl); (case d => decide); k_whole))
local macro_rules | `(tactic| walk_at "eval Name") => `(tactic| k_dflt (refine' cName_K ?F ?X ?T ?e ?_ ?a ?b ?c ?d; (case F => assumption); (case X => assumption); (case T => assumption); (case e => k_is); (case a => rfl); (case b => rfl); (case c => rfl); (case d => decide); k_whole))
local macro_rules | `(tactic| walk_at "eval Name") => `(tactic| k_dflt (refine' cName_B ?F ?X ?T ?e ?v ?n ?_ ?a ?f ?b ?c ?d; (case F => assumption); (case X => assumption); (case T => assumption); (case e => k_is); (case v => boot_fast); (case n => decide); (case a => rfl); (case f => rfl); (case b => rfl); (case c => rfl); (case d => decide); k_whole))
local macro_rules | `(tactic| walk_at "exec For Name Subscript cons nil") => `(tactic| refine halt ?_)
local macro_rules | `(tactic| walk_at "exec For Name Name cons nil") => `(tactic| refine halt ?_)
local macro_rules | `(tactic| walk_at "exec While") => `(tactic| refine halt ?_)
local macro_rules | `(tactic| walk_at "exec While BoolOp") => `(tactic| refine halt ?_)
local macro_rules | `(tactic| walk_at "pyIter ref") => `(tactic| refine halt ?_)
local macro_rules | `(tactic| walk_at "pyIter str") => `(tactic| refine halt ?_)
local macro_rules | `(tactic| walk_at "eval ListComp") => `(tactic| refine halt ?_)
local macro_rules | `(tactic| walk_at "exec Assign cons ListComp") => `(tactic| refine halt ?_)
local macro_rules | `(tactic| walk_at "eval Name") => `(tactic| k_dflt (refine' ldCellK ?k ?hc ?_ ?b ?c ?d; (case k => with_reducible assumption); (case hc => assumption); (case b => rfl); (case c => rfl); (case d => decide); k_whole))
local macro_rules | `(tactic| walk_at "call ref") => `(tactic| refine halt ?_)
local macro_rules | `(tactic| walk_at "call builtin:str.split") => `(tactic| refine halt ?_)
local macro_rules | `(tactic| walk_at "subscriptTail Name Slice ref ref") => `(tactic| refine halt ?_)
local macro_rules | `(tactic| walk_at "call type:zip") => `(tactic| refine halt ?_)
local macro_rules | `(tactic| walk_at "call type:enumerate") => `(tactic| refine halt ?_)
local macro_rules | `(tactic| walk_at "call builtin:all") => `(tactic| refine halt ?_)
local macro_rules | `(tactic| walk_at "subscriptTail tuple") => `(tactic| refine halt ?_)
local macro_rules | `(tactic| walk_at "call builtin:sum") => `(tactic| refine halt ?_)

theorem pick_7 (vs : List Value) : kms_pick vs none (some 7) = vs.take 7 := by
  show ((vs.drop 0).take (min 7 vs.length - 0)) = _
  rw [List.drop_zero, Nat.sub_zero, List.take_eq_take_iff]
  omega
theorem ints_mem : ∀ {vs : List Value} {ns : List Int}, IntsAre vs ns → ∀ v ∈ vs, ∃ x t, v = .int x t
  | _, _, .nil, v, hv => nomatch hv
  | _, _, .cons x t h, v, hv => by
    rcases List.mem_cons.mp hv with rfl | hv
    · exact ⟨x, t, rfl⟩
    · exact ints_mem h v hv
theorem ints_take : ∀ (n : Nat) {vs : List Value} {ns : List Int}, IntsAre vs ns → IntsAre (vs.take n) (ns.take n)
  | 0, _, _, _ => .nil
  | n + 1, _, _, .nil => .nil
  | n + 1, _, _, .cons x t h => .cons x t (ints_take n h)
theorem ints_mod : ∀ {vs : List Value} {ns : List Int} {ys : List Value}, IntsAre vs ns → Paired (fun v y => ∃ (x : Int) (t t' : Tok), v = Value.int x t ∧ y = Value.int (x % 1000000) t') vs ys → IntsAre ys (ns.map (· % 1000000))
  | [], [], _, .nil, .nil => .nil
  | _, x :: ns, _, .cons _ t hi, .cons hg hp => by
    obtain ⟨k', t1, t2, e1, rfl⟩ := hg
    injection e1 with e1 _
    subst e1
    exact .cons _ _ (ints_mod hi hp)
theorem mod_pow (x : Int) : x.fmod (10 ^ Int.toNat 6) = x % 1000000 := by
  rw [show ((10 : Int) ^ Int.toNat 6) = 1000000 by decide, Int.fmod_eq_emod_of_nonneg _ (by decide)]
def drawnN (ns : List Int) : List Nat := (ns.take 7).map fun x => (x % 1000000).toNat
def cellsN (ns : List Int) : List Nat := drawnN ns ++ [2, 30, 62, 91].drop (drawnN ns).length
theorem pick_from (l : List Value) (n : Nat) : kms_pick l (some (n : Int)) none = l.drop n := by
  have h1 : kms_lo (some (n : Int)) l.length = min n l.length := by
    show (if (n : Int) < 0 then l.length - (-(n : Int)).toNat else min (n : Int).toNat l.length) = _
    rw [if_neg (by omega), Int.toNat_natCast]
  unfold kms_pick
  rw [h1]
  show ((l.drop (min n l.length)).take (l.length - min n l.length)) = _
  rw [List.take_of_length_le (by rw [List.length_drop]; exact Nat.le_refl _)]
  rcases Nat.le_total n l.length with h | h
  · rw [Nat.min_eq_left h]
  · rw [Nat.min_eq_right h, List.drop_length, List.drop_eq_nil_of_le h]
theorem ints_app : ∀ {vs ws : List Value} {ns ms : List Int}, IntsAre vs ns → IntsAre ws ms → IntsAre (vs ++ ws) (ns ++ ms)
  | _, _, _, _, .nil, h => h
  | _, _, _, _, .cons x t h, h' => .cons x t (ints_app h h')
theorem ints_dropn : ∀ (n : Nat) {vs : List Value} {ns : List Int}, IntsAre vs ns → IntsAre (vs.drop n) (ns.drop n)
  | 0, _, _, h => h
  | n + 1, _, _, .nil => .nil
  | n + 1, _, _, .cons x t h => ints_dropn n h
theorem execs_app (env : Env) : ∀ b1 b2 : List Stmt, execs (b1 ++ b2) env = execs b1 env >>= fun f => match f with | .next => execs b2 env | f => pure f
  | [], b2 => (pure_bind _ _).symm
  | a :: r, b2 => by
    rw [List.cons_append, execs_cons, execs_cons, bind_assoc]
    congr
    funext f
    cases f with
    | next => exact execs_app env r b2
    | _ => exact (pure_bind _ _).symm
def Post (s : Shared) (P : Heap → (Str → Option Value) → Prop) (f : Flow) (s' : Shared) : Prop := f = .next ∧ ∃ h' tk' m, s' = { s with heap := h', toks := tk' } ∧ Fr s.heap s.heap.objs.size h' m ∧ P h' m
theorem Post.intro {s : Shared} {P : Heap → (Str → Option Value) → Prop} {h' : Heap} {tk' : Nat} {m : Str → Option Value} (F : Fr s.heap s.heap.objs.size h' m) (hp : P h' m) : Post s P .next { s with heap := h', toks := tk' } := ⟨rfl, h', tk', m, rfl, F, hp⟩
theorem seg {w : World} {A : Around} {E : Value → Shared → Prop} {env : Env} {b1 b2 : List Stmt} {s s₁ : Shared} {P : Heap → (Str → Option Value) → Prop} {Q : Flow → Shared → Prop}
    (h1 : wpAny (model pw w) A (execs b1 env) (Post s P) (fun _ _ => False) s₁) (h2 : ∀ h tk m, Fr s.heap s.heap.objs.size h m → P h m → wpAny (model pw w) A (execs b2 env) Q E { s with heap := h, toks := tk }) :
    wpAny (model pw w) A (execs (b1 ++ b2) env) Q E s₁ := by
  rw [execs_app]
  refine wpAny_bind (wpAny_mono h1 (fun f s' hp => ?_) fun _ _ e => e.elim)
  obtain ⟨rfl, h', tk', m, rfl, F, hp⟩ := hp
  exact h2 h' tk' m F hp
def PA (s : Shared) (ns : List Int) (h : Heap) (m : Str → Option Value) : Prop := ∃ e te Dc cs c o1, EolOk e ∧ m (Str.ofString "end") = some (.str (sT e) te) ∧ m (Str.ofString "cells") = some (.ref Dc) ∧ IntsAre cs.toList ((cellsN ns).map fun (k : Nat) => (k : Int)) ∧
  News s.heap s.heap.objs.size h [(Dc, W.listOf cs c), (s.heap.objs.size + 1, o1)] ∧ o1.data = .cell none
theorem lawA {w : World} {mean : ExcName → Option Value} {mg mb : Str → Option Value} {A : Around} {s : Shared} {fa l : Addr} {cd : Value} {vs : List Value} {ns : List Int} {h₁ : Heap} {tk : Nat} {o1 : Obj}
    (hA : A.handled = none) (X : (K w.params).In s.heap) (T : TopH mean mg mb s.heap) (hd : A.depth + 8 < recursionLimit) (hl : s.heap.IsList l vs.toArray) (hi : IntsAre vs ns) (hn : ns.length ≤ 63)
    (F : Fr s.heap s.heap.objs.size h₁ (bindL (envOfC (Str.ofString "law") (fScope (stm 26)) s.heap.objs.size fa cd).kindOf [(Str.ofString "script", .ref l)] fun _ => none)) (N : News s.heap s.heap.objs.size h₁ [(s.heap.objs.size + 1, o1)]) (ho1 : o1.data = .cell none) :
    wpAny (model pw w) A (execs ((fBody (stm 26)).take 3) (envOfC (Str.ofString "law") (fScope (stm 26)) s.heap.objs.size fa cd)) (Post s (PA s ns)) (fun _ _ => False) { s with heap := h₁, toks := tk } := by
  show wpAny _ _ (execs [_, _, _] _) _ _ _
  have hl1 : h₁.IsList l vs.toArray := by
    obtain ⟨o, e, c⟩ := hl
    exact ⟨o, F.keep _ _ e, c⟩
  have X1 := X.keeps F.keep
  have T1 := T.keeps F.keep
  k_steps
  unfold Halt
  refine lcA F (fun _ => true) (fun v y => ∃ (x : Int) (t t' : Tok), v = Value.int x t ∧ y = Value.int (x % 1000000) t') ?_
  k_steps
  unfold Halt
  have hvl : vs.length = ns.length := hi.length
  refine kms_slice_lit (its := vs.toArray) (zs := vs.take 7) F N hl1 (by kmk_part) (by kmk_part) (pick_7 vs) ?_ (by with_unfolding_all rfl) (by kmk_pure) (by rw [List.size_toArray, hvl, sizeLine_eq]; omega)
  intro D2 h2 F2 N2 lt2
  dsimp only
  k_steps
  unfold Halt
  refine src_list0 (items := (vs.take 7).toArray) (by exact hA) (by rw [List.size_toArray, List.length_take, sizeLine_eq]; omega) (hl := ⟨_, N2.get (List.Mem.head _), rfl, 0, rfl⟩) (fun h e => F2.ns.keeps e) (frLive F2) ?_ ?_
  · intro C v s₃ m₃ E' hv F4 hm4
    obtain ⟨x, t, rfl⟩ := ints_mem (ints_take 7 hi) v hv
    have N4 := nilOf F4
    have X4 := X.keeps F2.keep
    have T4 := T.keeps F2.keep
    k_steps
    all_goals (try (with_reducible show Value.int _ _ = Value.int _ _; rw [mod_pow]))
    all_goals (try (with_reducible show Keeps _ _; exact keeps_of fun _ _ e => e))
  · intro D3 h3 tk3 items3 e3 hX3 hD3 hpl3 hG3
    obtain ⟨F3, N3⟩ := use_extL F2 N2 hX3 e3
    obtain ⟨c3, hpl3⟩ := hpl3
    have N4 := news_cons F2 N3 hD3 hpl3
    have hI3 := ints_mod (ints_take 7 hi) hG3
    have hI3l : items3.size ≤ 7 := by
      have := hI3.length
      rw [List.length_map, List.length_take, Array.length_toList] at this
      omega
    have X3 := X.keeps F3.keep
    have T3 := T.keeps F3.keep
    dsimp only
    k_steps
    unfold Halt
    rename_i l5 h5 F5 N5 lt5
    have hcs : (ns.take 7).map (· % 1000000) = (drawnN ns).map fun (k : Nat) => (k : Int) := by
      unfold drawnN
      rw [List.map_map]
      refine List.map_congr_left fun x _ => ?_
      show x % 1000000 = (((x % 1000000).toNat : Nat) : Int)
      omega
    rw [hcs] at hI3
    have hl3 : items3.size = (drawnN ns).length := by have := hI3.length; simpa using this
    have hdl : (drawnN ns).length ≤ 7 := by rw [← hl3]; exact hI3l
    refine kms_slice_lit (zs := [Value.int 2 tk3, Value.int 30 (tk3 + 1), Value.int 62 (tk3 + 1 + 1), Value.int 91 (tk3 + 1 + 1 + 1)].drop items3.size) F5 N5 ⟨_, N5.get (List.Mem.head _), rfl, 0, rfl⟩ (by kmk_part) (by kmk_part) (pick_from _ _) ?_ (by with_unfolding_all rfl) (by kmk_pure) (by rw [sizeLine_eq]; show 4 ≤ _; decide)
    intro D6 h6 F6 N6 lt6
    have X6 := X.keeps F6.keep
    have T6 := T.keeps F6.keep
    dsimp only
    k_steps
    refine add_lists (vs := items3.toList) (ws := [Value.int 2 tk3, Value.int 30 (tk3 + 1), Value.int 62 (tk3 + 1 + 1), Value.int 91 (tk3 + 1 + 1 + 1)].drop items3.size) F6 N6 ⟨_, N6.get (a := D3) (o := { cls := .type "list", data := .seq items3 c3 }) (by simp), rfl, c3, by rw [Array.toArray_toList]⟩ ⟨_, N6.get (List.Mem.head _), rfl, 0, rfl⟩ ?_ (by rw [Array.length_toList, List.length_drop, sizeLine_eq]; show _ + (4 - _) ≤ _; omega)
    intro h7 F7 N7
    have X7 := X.keeps F7.keep
    have T7 := T.keeps F7.keep
    have hI7 : IntsAre (items3.toList ++ [Value.int 2 tk3, Value.int 30 (tk3 + 1), Value.int 62 (tk3 + 1 + 1), Value.int 91 (tk3 + 1 + 1 + 1)].drop items3.size) ((cellsN ns).map fun (k : Nat) => (k : Int)) := by
      unfold cellsN
      rw [List.map_append, List.map_drop, ← hl3]
      exact ints_app hI3 (ints_dropn _ (.cons _ _ (.cons _ _ (.cons _ _ (.cons _ _ .nil)))))
    dsimp only
    k_steps
    unfold Halt
    rename_i Dt h7b F7b N7b lt7b
    have hcl : (cellsN ns).length ≤ 7 := by
      unfold cellsN
      rw [List.length_append, List.length_drop]
      show _ + (4 - _) ≤ 7
      omega
    refine LSm.sum_ints F7b N7b (by exact hA) ⟨_, N7b.get (List.mem_cons_of_mem _ (List.Mem.head _)), rfl, 0, rfl⟩ hI7 fun h8 tk8 t8 F8 N8 => ?_
    have X8 := X.keeps F8.keep
    have T8 := T.keeps F8.keep
    rw [sum_cast]
    have hm3 : (((cellsN ns).sum : Nat) : Int) % 3 = 0 ∨ (((cellsN ns).sum : Nat) : Int) % 3 = 1 ∨ (((cellsN ns).sum : Nat) : Int) % 3 = 2 := by omega
    dsimp only
    k_steps
    · rename_i h9 F9 N9
      refine Post.intro F9 ⟨[10], _, _, _, 0, o1, .inl rfl, if_pos rfl, rfl, hI7, fun p hp => ?_, ho1⟩
      rcases List.mem_cons.mp hp with rfl | hp
      · exact N9 _ (List.mem_cons_of_mem _ (List.Mem.head _))
      · rw [List.mem_singleton.mp hp]; exact N9 _ (by simp)
    · rename_i h9 F9 N9
      refine Post.intro F9 ⟨[13], _, _, _, 0, o1, .inr (.inl rfl), if_pos rfl, rfl, hI7, fun p hp => ?_, ho1⟩
      rcases List.mem_cons.mp hp with rfl | hp
      · exact N9 _ (List.mem_cons_of_mem _ (List.Mem.head _))
      · rw [List.mem_singleton.mp hp]; exact N9 _ (by simp)
    · rename_i h9 F9 N9
      refine Post.intro F9 ⟨[13, 10], _, _, _, 0, o1, .inr (.inr rfl), if_pos rfl, rfl, hI7, fun p hp => ?_, ho1⟩
      rcases List.mem_cons.mp hp with rfl | hp
      · exact N9 _ (List.mem_cons_of_mem _ (List.Mem.head _))
      · rw [List.mem_singleton.mp hp]; exact N9 _ (by simp)
end D32
end
section
open PySem PySem.W PyProof.Rows PySem.Calls
set_option maxRecDepth 100000
set_option maxHeartbeats 4000000
set_option linter.unusedVariables false
namespace D32
local macro_rules | `(tactic| walk_at "eval Name") => `(tactic| ((with_reducible show wpAny _ _ (eval (Expr.Name _ _) (envOfC _ _ _ _ _)) _ _ _); k_dflt (refine' ldG ?k1 ?k2 ?_ ?a ?b ?c; (case b => rfl); (case k1 => k_asm); (case k2 => ((try dsimp only); (repeat (refine Eq.trans (if_neg ?hn) ?_; (case hn => decide))); assumption)); (case a => rfl); (case c => decide); k_whole)))
local macro_rules | `(tactic| k_room) => `(tactic| ((try simp only [depth_under_make, depth_under_kw, depth_in1, depth_deeper, depth_caller]); omega))
local macro_rules | `(tactic| walk_at "eval Name") => `(tactic| k_dflt (refine' cName_L ?F ?a ?_ ?b ?c ?d; (case F => assumption); (case a => first | assumption | rfl); (case b => rfl); (case c => rfl); (case d => decide); k_whole))
local macro_rules | `(tactic| walk_at "eval Name") => `(tactic| k_dflt (refine' cName_K ?F ?X ?T ?e ?_ ?a ?b ?c ?d; (case F => assumption); (case X => assumption); (case T => assumption); (case e => k_is); (case a => rfl); (case b => rfl); (case c => rfl); (case d => decide); k_whole))
local macro_rules | `(tactic| walk_at "eval Name") => `(tactic| k_dflt (refine' cName_B ?F ?X ?T ?e ?v ?n ?_ ?a ?f ?b ?c ?d; (case F => assumption); (case X => assumption); (case T => assumption); (case e => k_is); (case v => boot_fast); (case n => decide); (case a => rfl); (case f => rfl); (case b => rfl); (case c => rfl); (case d => decide); k_whole))
local macro_rules | `(tactic| walk_at "exec For Name Subscript cons nil") => `(tactic| refine halt ?_)
local macro_rules | `(tactic| walk_at "exec For Name Name cons nil") => `(tactic| refine halt ?_)
local macro_rules | `(tactic| walk_at "exec While") => `(tactic| refine halt ?_)
local macro_rules | `(tactic| walk_at "exec While BoolOp") => `(tactic| refine halt ?_)
local macro_rules | `(tactic| walk_at "pyIter ref") => `(tactic| refine halt ?_)
local macro_rules | `(tactic| walk_at "pyIter str") => `(tactic| refine halt ?_)
local macro_rules | `(tactic| walk_at "eval ListComp") => `(tactic| refine halt ?_)
local macro_rules | `(tactic| walk_at "exec Assign cons ListComp") => `(tactic| refine halt ?_)
local macro_rules | `(tactic| walk_at "eval Name") => `(tactic| k_dflt (refine' ldCellK ?k ?hc ?_ ?b ?c ?d; (case k => with_reducible assumption); (case hc => assumption); (case b => rfl); (case c => rfl); (case d => decide); k_whole))
local macro_rules | `(tactic| walk_at "call ref") => `(tactic| refine halt ?_)
local macro_rules | `(tactic| walk_at "call builtin:str.split") => `(tactic| refine halt ?_)
local macro_rules | `(tactic| walk_at "subscriptTail Name Slice ref ref") => `(tactic| refine halt ?_)
local macro_rules | `(tactic| walk_at "call type:zip") => `(tactic| refine halt ?_)
local macro_rules | `(tactic| walk_at "call type:enumerate") => `(tactic| refine halt ?_)
local macro_rules | `(tactic| walk_at "call builtin:all") => `(tactic| refine halt ?_)
local macro_rules | `(tactic| walk_at "subscriptTail tuple") => `(tactic| refine halt ?_)
local macro_rules | `(tactic| walk_at "call builtin:sum") => `(tactic| refine halt ?_)

def LowP (ks : List Nat) : Prop := ks.Pairwise (· ≥ ·) ∧ (∀ k ∈ ks, k ≤ 5) ∧ 4 ≤ ks.length ∧ ks.length ≤ 7
def PB (s : Shared) (ks : List Nat) (h : Heap) (m : Str → Option Value) : Prop := ∃ e te Dp Do Ds ps od sz cp co cs o1, EolOk e ∧ m (Str.ofString "end") = some (.str (sT e) te) ∧ m (Str.ofString "odds") = some (.ref Do) ∧ m (Str.ofString "sizes") = some (.ref Ds) ∧
  IntsAre ps.toList (ks.map fun (k : Nat) => (k : Int)) ∧ IntsAre od.toList ((oddsOf ks).map fun (k : Nat) => (k : Int)) ∧ IntsAre sz.toList ((laid (oddsOf ks)).map fun (k : Nat) => (k : Int)) ∧
  News s.heap s.heap.objs.size h [(Ds, W.listOf sz cs), (Do, W.listOf od co), (Dp, W.listOf ps cp), (s.heap.objs.size + 1, o1)] ∧ o1.data = .cell (some (.ref Dp))
theorem signs_len (c : Nat) : (signsOf c).length ≤ 2 := by
  unfold signsOf
  have h : ∀ j < 4, (preL j).length ≤ 1 := by decide
  have := h (c / 24 % 4) (Nat.mod_lt _ (by decide))
  rw [List.length_append]
  show _ + 1 ≤ 2
  omega
theorem typed_len : ∀ cells : List Nat, (typedL cells).length ≤ 2 * cells.length
  | [] => Nat.le_refl _
  | c :: cells => by
    have h1 := signs_len c
    have h2 := typed_len cells
    show (signsOf c ++ typedL cells).length ≤ _
    rw [List.length_append, List.length_cons]
    omega
theorem cells_lt (ns : List Int) : ∀ k ∈ cellsN ns, k < 1000000 := by
  intro k hk
  rcases List.mem_append.mp hk with h | h
  · obtain ⟨x, _, rfl⟩ := List.mem_map.mp h
    omega
  · have := List.mem_of_mem_drop h
    simp only [List.mem_cons, List.not_mem_nil, or_false] at this
    omega
theorem cells_len (ns : List Int) : 4 ≤ (cellsN ns).length ∧ (cellsN ns).length ≤ 7 := by
  have h : (drawnN ns).length ≤ 7 := by unfold drawnN; rw [List.length_map, List.length_take]; omega
  unfold cellsN
  rw [List.length_append, List.length_drop]
  show 4 ≤ _ + (4 - _) ∧ _ + (4 - _) ≤ 7
  omega
theorem low_of {ks cells : List Nat} (h : ks.Perm (cells.map (· % 6))) (hp : ks.Pairwise (· ≥ ·)) (hl : 4 ≤ cells.length ∧ cells.length ≤ 7) : LowP ks := by
  have e := h.length_eq
  rw [List.length_map] at e
  refine ⟨hp, fun k hk => ?_, by omega, by omega⟩
  obtain ⟨x, _, rfl⟩ := List.mem_map.mp (h.mem_iff.mp hk)
  omega
theorem store_cell {M : Model} {A : Around} {E : Value → Shared → Prop} {s : Shared} {h₀ : Heap} {L D c : Addr} {oD o : Obj} {m : Str → Option Value} {env : Env} {x : Str} {v : Value} {v₀ : Option Value} {Q : Unit → Shared → Prop} (F : Fr h₀ L s.heap m) (N : News h₀ L s.heap [(D, oD), (c, o)]) (hne : D ≠ c)
    (hc : env.cells.lookup x = some c) (hd : o.data = .cell v₀) (hk : env.scope.kind = .function) (hl : env.kindOf x = some .cell)
    (h : ∀ h' o', Fr h₀ L h' m → News h₀ L h' [(D, oD), (c, o')] → o'.data = .cell (some v) → Q () { s with heap := h' }) : wpAny M A (storeName env x v) Q E s := by
  have hmem := N (c, o) (List.mem_cons_of_mem _ (List.Mem.head _))
  have hD := N (D, oD) (List.Mem.head _)
  refine wpAny_storeName_cell hk hl hc ⟨o, hmem.1, hd⟩ fun h' hv hs => ?_
  obtain ⟨o', ho', hd'⟩ := hv
  refine h h' o' ⟨F.ns.sameBut hs (Ne.symm hmem.2.1), fun b ob e => (hs.2 b (fun q => ?_)).trans (F.keep b ob e), F.above⟩ (fun p hp => ?_) hd'
  · rw [q, hmem.2.2] at e; cases e
  · rcases List.mem_cons.mp hp with rfl | hp
    · exact ⟨(hs.2 D hne).trans hD.1, hD.2⟩
    · rw [List.mem_singleton.mp hp]
      exact ⟨ho', hmem.2⟩
theorem ints_odd : ∀ {vs : List Value} {ks : List Nat} {ys : List Value}, IntsAre vs (ks.map fun (k : Nat) => (k : Int)) → Paired (fun v y => ∃ (x : Nat) (t t' : Tok), v = Value.int (x : Int) t ∧ y = Value.int ((2 * x + 1 : Nat) : Int) t') vs ys → IntsAre ys ((oddsOf ks).map fun (k : Nat) => (k : Int))
  | [], [], _, .nil, .nil => .nil
  | _, x :: ks, _, .cons _ t hi, .cons hg hp => by
    obtain ⟨k', t1, t2, e1, rfl⟩ := hg
    injection e1 with e1 _
    have e1 : x = k' := Int.ofNat.inj e1
    subst e1
    exact .cons _ _ (ints_odd hi hp)
theorem lawB {w : World} {mean : ExcName → Option Value} {mg mb : Str → Option Value} {A : Around} {s : Shared} {fa : Addr} {cd : Value} {ns : List Int} {h : Heap} {tk : Nat} {m : Str → Option Value}
    (hA : A.handled = none) (X : (K w.params).In s.heap) (T : TopH mean mg mb s.heap) (hd : A.depth + 8 < recursionLimit) (F : Fr s.heap s.heap.objs.size h m) (hP : PA s ns h m) :
    wpAny (model pw w) A (execs (((fBody (stm 26)).drop 3).take 3) (envOfC (Str.ofString "law") (fScope (stm 26)) s.heap.objs.size fa cd)) (Post s (fun h m => ∃ ks, LowP ks ∧ PB s ks h m)) (fun _ _ => False) { s with heap := h, toks := tk } := by
  show wpAny _ _ (execs [_, _, _] _) _ _ _
  obtain ⟨e, te, Dc, cs, cc, o1, he, hend, hcells, hIc, N, ho1⟩ := hP
  have X1 := X.keeps F.keep
  have T1 := T.keeps F.keep
  have hcl := cells_len ns
  k_steps
  unfold Halt
  refine typed_spec (by exact hA) X1 T1 (by k_room) ⟨_, N.get (List.Mem.head _), rfl, cc, rfl⟩ hIc hcl.2 (cells_lt ns) fun h2 tk2 y t2 e2 hy => ?_
  obtain ⟨F2, N2⟩ := use_ext F N e2
  have X2 := X.keeps F2.keep
  have T2 := T.keeps F2.keep
  dsimp only
  k_steps
  unfold Halt
  refine places_spec (by exact hA) X2 T2 (by k_room) (by rw [hy]; exact typed_S27 _) (by
    have := typed_len (cellsN ns)
    rw [← hy, Array.length_toList] at this
    omega) fun h3 tk3 D3 it3 ks e3 hD3 hpl3 hI3 hperm hpw => ?_
  rw [hy, lets_typed] at hperm
  have hlow := low_of hperm hpw hcl
  obtain ⟨F3, N3⟩ := use_ext F2 N2 e3
  obtain ⟨c3, hpl3⟩ := hpl3
  have N4 := news_cons F2 N3 hD3 hpl3
  have X3 := X.keeps F3.keep
  have T3 := T.keeps F3.keep
  have hl3 : it3.size = ks.length := by have := hI3.length; simpa using this
  have hl7 := hlow.2.2.2
  dsimp only
  k_steps
  unfold Halt
  rename_i h5 o5 F5 N5' ho5
  have N5 : News s.heap s.heap.objs.size h5 [(D3, W.listOf it3 c3), (Dc, W.listOf cs cc), (s.heap.objs.size + 1, o5)] := N5'
  clear N5'
  have X5 := X.keeps F5.keep
  have T5 := T.keeps F5.keep
  refine lcA F5 (fun _ => true) (fun v y => ∃ (x : Nat) (t t' : Tok), v = Value.int (x : Int) t ∧ y = Value.int ((2 * x + 1 : Nat) : Int) t') ?_
  have hc5 : h5.IsCell (s.heap.objs.size + 1) (some (.ref D3)) := ⟨_, N5.get (a := s.heap.objs.size + 1) (o := o5) (by simp), ho5⟩
  k_steps
  unfold Halt
  refine src_list0 (items := it3) (by exact hA) (by rw [hl3, sizeLine_eq]; omega) (hl := ⟨_, N5.get (List.Mem.head _), rfl, c3, rfl⟩) (fun h e => F5.ns.keeps e) (frLive F5) ?_ ?_
  · intro C v s₃ m₃ E' hv F6 hm6
    obtain ⟨j, hj, hjv⟩ := List.getElem_of_mem hv
    obtain ⟨x, t, hxk, rfl⟩ := ints_get hI3 j v (by rw [← hjv]; exact List.getElem?_eq_getElem hj)
    have N6 := nilOf F6
    k_steps
    all_goals (try (with_reducible show Keeps _ _; exact keeps_of fun _ _ e => e))
  · intro D7 h7 tk7 it7 e7 hX7 hD7 hpl7 hG7
    obtain ⟨F7, N7⟩ := use_extL F5 N5 hX7 e7
    obtain ⟨c7, hpl7⟩ := hpl7
    have N8 := news_cons F5 N7 hD7 hpl7
    have hI7 := ints_odd hI3 hG7
    have X7 := X.keeps F7.keep
    have T7 := T.keeps F7.keep
    dsimp only
    k_steps
    unfold Halt
    refine laid_spec (by exact hA) X7 T7 (by k_room) ⟨_, N8.get (List.Mem.head _), rfl, c7, rfl⟩ hI7 (by unfold oddsOf; rw [List.length_map]; omega) (fun o ho => by
      obtain ⟨x, hx, rfl⟩ := List.mem_map.mp ho
      have := hlow.2.1 x hx
      omega) fun h9 tk9 D9 it9 e9 hD9 hpl9 hI9 => ?_
    obtain ⟨F9, N9⟩ := use_ext F7 N8 e9
    obtain ⟨c9, hpl9⟩ := hpl9
    have N10 := news_cons F7 N9 hD9 hpl9
    dsimp only
    k_steps
    rename_i h11 F11 N11
    refine Post.intro F11 ⟨ks, hlow, e, te, D3, D7, D9, it3, it7, it9, c3, c7, c9, o5, he, ?c1, ?c2, ?c3, hI3, hI7, hI9, fun p hp => ?c4, ho5⟩
    case c1 =>
      dsimp only
      repeat (refine Eq.trans (if_neg ?hn) ?_; (case hn => decide))
      assumption
    case c2 =>
      dsimp only
      repeat (refine Eq.trans (if_neg ?hn) ?_; (case hn => decide))
      exact if_pos rfl
    case c3 => exact if_pos rfl
    case c4 =>
      rcases List.mem_cons.mp hp with rfl | hp
      · exact N11 _ (by simp)
      rcases List.mem_cons.mp hp with rfl | hp
      · exact N11 _ (by simp)
      rcases List.mem_cons.mp hp with rfl | hp
      · exact N11 _ (by simp)
      · rw [List.mem_singleton.mp hp]; exact N11 _ (by simp)
end D32
end
section
open PySem PySem.W PyProof.Rows PySem.Calls
set_option maxRecDepth 100000
set_option maxHeartbeats 4000000
set_option linter.unusedVariables false
namespace D32
local macro_rules | `(tactic| walk_at "eval Name") => `(tactic| ((with_reducible show wpAny _ _ (eval (Expr.Name _ _) (envOfC _ _ _ _ _)) _ _ _); k_dflt (refine' ldG ?k1 ?k2 ?_ ?a ?b ?c; (case b => rfl); (case k1 => k_asm); (case k2 => ((try dsimp only); (repeat (refine Eq.trans (if_neg ?hn) ?_; (case hn => decide))); assumption)); (case a => rfl); (case c => decide); k_whole)))
local macro_rules | `(tactic| k_room) => `(tactic| ((try simp only [depth_under_make, depth_under_kw, depth_in1, depth_deeper, depth_caller]); omega))
local macro_rules | `(tactic| walk_at "eval Name") => `(tactic| k_dflt (refine' cName_L ?F ?a ?_ ?b ?c ?d; (case F => assumption); (case a => first | assumption | rfl); (case b => rfl); (case c => rfl); (case d => decide); k_whole))
local macro_rules | `(tactic| walk_at "eval Name") => `(tactic| k_dflt (refine' cName_K ?F ?X ?T ?e ?_ ?a ?b ?c ?d; (case F => assumption); (case X => assumption); (case T => assumption); (case e => k_is); (case a => rfl); (case b => rfl); (case c => rfl); (case d => decide); k_whole))
local macro_rules | `(tactic| walk_at "eval Name") => `(tactic| k_dflt (refine' cName_B ?F ?X ?T ?e ?v ?n ?_ ?a ?f ?b ?c ?d; (case F => assumption); (case X => assumption); (case T => assumption); (case e => k_is); (case v => boot_fast); (case n => decide); (case a => rfl); (case f => rfl); (case b => rfl); (case c => rfl); (case d => decide); k_whole))
local macro_rules | `(tactic| walk_at "exec For Name Subscript cons nil") => `(tactic| refine halt ?_)
local macro_rules | `(tactic| walk_at "exec For Name Name cons nil") => `(tactic| refine halt ?_)
local macro_rules | `(tactic| walk_at "exec While") => `(tactic| refine halt ?_)
local macro_rules | `(tactic| walk_at "exec While BoolOp") => `(tactic| refine halt ?_)
local macro_rules | `(tactic| walk_at "pyIter ref") => `(tactic| refine halt ?_)
local macro_rules | `(tactic| walk_at "pyIter str") => `(tactic| refine halt ?_)
local macro_rules | `(tactic| walk_at "eval ListComp") => `(tactic| refine halt ?_)
local macro_rules | `(tactic| walk_at "exec Assign cons ListComp") => `(tactic| refine halt ?_)
local macro_rules | `(tactic| walk_at "eval Name") => `(tactic| k_dflt (refine' ldCellK ?k ?hc ?_ ?b ?c ?d; (case k => with_reducible assumption); (case hc => assumption); (case b => rfl); (case c => rfl); (case d => decide); k_whole))
local macro_rules | `(tactic| walk_at "call ref") => `(tactic| refine halt ?_)
local macro_rules | `(tactic| walk_at "call builtin:str.split") => `(tactic| refine halt ?_)
local macro_rules | `(tactic| walk_at "subscriptTail Name Slice ref ref") => `(tactic| refine halt ?_)
local macro_rules | `(tactic| walk_at "call type:zip") => `(tactic| refine halt ?_)
local macro_rules | `(tactic| walk_at "call type:enumerate") => `(tactic| refine halt ?_)
local macro_rules | `(tactic| walk_at "call builtin:all") => `(tactic| refine halt ?_)
local macro_rules | `(tactic| walk_at "subscriptTail tuple") => `(tactic| refine halt ?_)
local macro_rules | `(tactic| walk_at "call builtin:sum") => `(tactic| refine halt ?_)

theorem okA_of {ks : List Nat} (h : LowP ks) : okA ks = true := by
  obtain ⟨h1, h2, h3, h4⟩ := h
  have hm := mem_gen ks 5 h1 h2
  have hall := List.all_eq_true.mp okA_all
  refine hall ks ?_
  have : ks.length = 4 ∨ ks.length = 5 ∨ ks.length = 6 ∨ ks.length = 7 := by omega
  rcases this with e | e | e | e <;> rw [e] at hm <;> simp only [List.mem_append]
  · exact .inl (.inl (.inl hm))
  · exact .inl (.inl (.inr hm))
  · exact .inl (.inr hm)
  · exact .inr hm
structure FactsA (ks : List Nat) : Prop where
  falls : fallsB (laid (oddsOf ks)) 1 = true
  sums : (laid (oddsOf ks)).sum = (oddsOf ks).sum
  told : toldL 30 (laid (oddsOf ks)).sum (laid (oddsOf ks)) 0 = some (oddsOf ks)
  rank : ∃ o os z zs, oddsOf ks = o :: os ∧ laid (oddsOf ks) = z :: zs ∧ ((o : Int) - (z : Int) + ((z :: zs).length : Int) = 0 ∨ (o : Int) - (z : Int) + ((z :: zs).length : Int) = 1)
  len : (laid (oddsOf ks)).length ≤ 20
  big : ∀ k ∈ laid (oddsOf ks), k ≤ 40
theorem factsA {ks : List Nat} (h : LowP ks) : FactsA ks := by
  have ok := okA_of h
  unfold okA at ok
  simp only [Bool.and_eq_true] at ok
  obtain ⟨⟨⟨⟨⟨h1, h2⟩, h3⟩, h4⟩, h5⟩, h6⟩ := ok
  refine ⟨h1, eq_of_beq h2, eq_of_beq h3, ?_, of_decide_eq_true h5, fun k hk => of_decide_eq_true (List.all_eq_true.mp h6 k hk)⟩
  split at h4
  · rename_i o os z zs e1 e2
    refine ⟨o, os, z, zs, e1, e2, ?_⟩
    rcases Bool.or_eq_true_iff.mp h4 with h | h
    · exact .inl (eq_of_beq h)
    · exact .inr (eq_of_beq h)
  · cases h4
theorem lawC {w : World} {mean : ExcName → Option Value} {mg mb : Str → Option Value} {A : Around} {s : Shared} {fa : Addr} {cd : Value} {ks : List Nat} {h : Heap} {tk : Nat} {m : Str → Option Value}
    (hA : A.handled = none) (X : (K w.params).In s.heap) (T : TopH mean mg mb s.heap) (hd : A.depth + 8 < recursionLimit) (F : Fr s.heap s.heap.objs.size h m) (hlow : LowP ks) (hP : PB s ks h m) :
    wpAny (model pw w) A (execs (((fBody (stm 26)).drop 6).take 1) (envOfC (Str.ofString "law") (fScope (stm 26)) s.heap.objs.size fa cd)) (Post s (PB s ks)) (fun _ _ => False) { s with heap := h, toks := tk } := by
  show wpAny _ _ (execs [_] _) _ _ _
  obtain ⟨e, te, Dp, Do, Ds, ps, od, sz, cp, co, cs, o1, he, hend, hodds, hsizes, hIp, hIo, hIs, N, ho1⟩ := hP
  have X1 := X.keeps F.keep
  have T1 := T.keeps F.keep
  have fa := factsA hlow
  have hl7 := hlow.2.2.2
  k_steps
  unfold Halt
  refine falls_spec (by exact hA) X1 T1 (by k_room) ⟨_, N.get (List.Mem.head _), rfl, cs, rfl⟩ hIs (by have := fa.len; omega) fun h2 tk2 e2 => ?_
  obtain ⟨F2, N2⟩ := use_ext F N e2
  have X2 := X.keeps F2.keep
  have T2 := T.keeps F2.keep
  rw [fa.falls]
  dsimp only
  k_steps
  unfold Halt
  refine LSm.sum_ints (vs := sz.toList) F2 N2 (by exact hA) ⟨_, N2.get (List.Mem.head _), rfl, cs, by rw [Array.toArray_toList]⟩ hIs fun h3 tk3 t3 F3 N3 => ?_
  have X3 := X.keeps F3.keep
  have T3 := T.keeps F3.keep
  rw [sum_cast, fa.sums]
  dsimp only
  k_steps
  unfold Halt
  refine LSm.sum_ints (vs := od.toList) F3 N3 (by exact hA) ⟨_, N3.get (List.mem_cons_of_mem _ (List.Mem.head _)), rfl, co, by rw [Array.toArray_toList]⟩ hIo fun h4 tk4 t4 F4 N4 => ?_
  have X4 := X.keeps F4.keep
  have T4 := T.keeps F4.keep
  rw [sum_cast]
  dsimp only
  k_steps
  · rename_i hq
    exact absurd rfl hq
  · exact Post.intro F4 ⟨e, te, Dp, Do, Ds, ps, od, sz, cp, co, cs, o1, he, hend, hodds, hsizes, hIp, hIo, hIs, N4, ho1⟩
end D32
end
section
open PySem PySem.W PyProof.Rows PySem.Calls
set_option maxRecDepth 100000
set_option maxHeartbeats 4000000
set_option linter.unusedVariables false
namespace D32
local macro_rules | `(tactic| walk_at "eval Name") => `(tactic| ((with_reducible show wpAny _ _ (eval (Expr.Name _ _) (envOfC _ _ _ _ _)) _ _ _); k_dflt (refine' ldG ?k1 ?k2 ?_ ?a ?b ?c; (case b => rfl); (case k1 => k_asm); (case k2 => ((try dsimp only); (repeat (refine Eq.trans (if_neg ?hn) ?_; (case hn => decide))); assumption)); (case a => rfl); (case c => decide); k_whole)))
local macro_rules | `(tactic| k_room) => `(tactic| ((try simp only [depth_under_make, depth_under_kw, depth_in1, depth_deeper, depth_caller]); omega))
local macro_rules | `(tactic| walk_at "eval Name") => `(tactic| k_dflt (refine' cName_L ?F ?a ?_ ?b ?c ?d; (case F => assumption); (case a => first | assumption | rfl); (case b => rfl); (case c => rfl); (case d => decide); k_whole))
local macro_rules | `(tactic| walk_at "eval Name") => `(tactic| k_dflt (refine' cName_K ?F ?X ?T ?e ?_ ?a ?b ?c ?d; (case F => assumption); (case X => assumption); (case T => assumption); (case e => k_is); (case a => rfl); (case b => rfl); (case c => rfl); (case d => decide); k_whole))
local macro_rules | `(tactic| walk_at "eval Name") => `(tactic| k_dflt (refine' cName_B ?F ?X ?T ?e ?v ?n ?_ ?a ?f ?b ?c ?d; (case F => assumption); (case X => assumption); (case T => assumption); (case e => k_is); (case v => boot_fast); (case n => decide); (case a => rfl); (case f => rfl); (case b => rfl); (case c => rfl); (case d => decide); k_whole))
local macro_rules | `(tactic| walk_at "exec For Name Subscript cons nil") => `(tactic| refine halt ?_)
local macro_rules | `(tactic| walk_at "exec For Name Name cons nil") => `(tactic| refine halt ?_)
local macro_rules | `(tactic| walk_at "exec While") => `(tactic| refine halt ?_)
local macro_rules | `(tactic| walk_at "exec While BoolOp") => `(tactic| refine halt ?_)
local macro_rules | `(tactic| walk_at "pyIter ref") => `(tactic| refine halt ?_)
local macro_rules | `(tactic| walk_at "pyIter str") => `(tactic| refine halt ?_)
local macro_rules | `(tactic| walk_at "eval ListComp") => `(tactic| refine halt ?_)
local macro_rules | `(tactic| walk_at "exec Assign cons ListComp") => `(tactic| refine halt ?_)
local macro_rules | `(tactic| walk_at "eval Name") => `(tactic| k_dflt (refine' ldCellK ?k ?hc ?_ ?b ?c ?d; (case k => with_reducible assumption); (case hc => assumption); (case b => rfl); (case c => rfl); (case d => decide); k_whole))
local macro_rules | `(tactic| walk_at "call ref") => `(tactic| refine halt ?_)
local macro_rules | `(tactic| walk_at "call builtin:str.split") => `(tactic| refine halt ?_)
local macro_rules | `(tactic| walk_at "subscriptTail Name Slice ref ref") => `(tactic| refine halt ?_)
local macro_rules | `(tactic| walk_at "call type:zip") => `(tactic| refine halt ?_)
local macro_rules | `(tactic| walk_at "call type:enumerate") => `(tactic| refine halt ?_)
local macro_rules | `(tactic| walk_at "call builtin:all") => `(tactic| refine halt ?_)
local macro_rules | `(tactic| walk_at "subscriptTail tuple") => `(tactic| refine halt ?_)
local macro_rules | `(tactic| walk_at "call builtin:sum") => `(tactic| refine halt ?_)
local macro_rules | `(tactic| walk_at "compareOp NotEq ref ref") => `(tactic| refine halt ?_)
local macro_rules | `(tactic| walk_at "compareOp Eq ref ref") => `(tactic| refine halt ?_)

theorem ints_head {o : Nat} {os : List Nat} {a : Array Value} (h : IntsAre a.toList ((o :: os).map fun (k : Nat) => (k : Int))) : ∃ t r, a = (Value.int (o : Int) t :: r).toArray ∧ IntsAre r (os.map fun (k : Nat) => (k : Int)) := by
  obtain ⟨l⟩ := a
  cases h with
  | cons _ t h => exact ⟨t, _, rfl, h⟩
theorem lawD {w : World} {mean : ExcName → Option Value} {mg mb : Str → Option Value} {A : Around} {s : Shared} {fa : Addr} {cd : Value} {ks : List Nat} {h : Heap} {tk : Nat} {m : Str → Option Value}
    (hA : A.handled = none) (X : (K w.params).In s.heap) (T : TopH mean mg mb s.heap) (hd : A.depth + 8 < recursionLimit) (hu : A.units + 64 < cLine) (F : Fr s.heap s.heap.objs.size h m) (hlow : LowP ks) (hP : PB s ks h m) :
    wpAny (model pw w) A (execs (((fBody (stm 26)).drop 7).take 1) (envOfC (Str.ofString "law") (fScope (stm 26)) s.heap.objs.size fa cd)) (Post s (PB s ks)) (fun _ _ => False) { s with heap := h, toks := tk } := by
  show wpAny _ _ (execs [_] _) _ _ _
  obtain ⟨e, te, Dp, Do, Ds, ps, od, sz, cp, co, cs, o1, he, hend, hodds, hsizes, hIp, hIo, hIs, N, ho1⟩ := hP
  have X1 := X.keeps F.keep
  have T1 := T.keeps F.keep
  have fa := factsA hlow
  have hl7 := hlow.2.2.2
  obtain ⟨ov, os, zv, zs, eo, ez, hr⟩ := fa.rank
  have hIo' := hIo
  have hIs' := hIs
  rw [eo] at hIo'
  rw [ez] at hIs'
  obtain ⟨to, orr, hod, hor⟩ := ints_head hIo'
  obtain ⟨tz, zr, hsz, hzr⟩ := ints_head hIs'
  have hzl : sz.size = (zv :: zs).length := by have := hIs'.length; simpa using this
  have hz20 : (zv :: zs).length ≤ 20 := by rw [← ez]; exact fa.len
  have hany : ([(0 : Int), 1].any fun x => x == (ov : Int) - (zv : Int) + ((zv :: zs).length : Int)) = true := by rcases hr with hr | hr <;> rw [hr] <;> rfl
  rw [hod, hsz] at N
  k_steps
  have hv : ((ov : Int) :: List.map (fun (k : Nat) => (k : Int)) os).getD (Int.toNat 0) 0 - ((zv : Int) :: List.map (fun (k : Nat) => (k : Int)) zs).getD (Int.toNat 0) 0 = (ov : Int) - (zv : Int) := rfl
  rw [hv]
  refine len_rows (n := (zv :: zs).length) ⟨_, N.get (List.Mem.head _), rfl, cs, rfl⟩ (by rw [← hsz]; exact hzl) (by omega) ?_
  dsimp only
  k_steps
  · unfold Halt
    rename_i D2 h2 F2 N2 lt2
    have X2 := X.keeps F2.keep
    have T2 := T.keeps F2.keep
    refine told_spec (fuel := 30) (ks := laid (oddsOf ks)) (os := oddsOf ks) (by exact hA) X2 T2 (by k_room) (items := (Value.int (zv : Int) tz :: zr).toArray) ⟨_, N2.get (List.mem_cons_of_mem _ (List.Mem.head _)), rfl, cs, rfl⟩ (by rw [← hsz]; exact hIs) he fa.told (by have := fa.len; omega) fa.big fun h3 tk3 D3 w3 e3 hD3 hpl3 hI3 => ?_
    obtain ⟨F3, N3⟩ := use_ext F2 N2 e3
    obtain ⟨c3, hpl3⟩ := hpl3
    have N4 := news_cons F2 N3 hD3 hpl3
    have X3 := X.keeps F3.keep
    have T3 := T.keeps F3.keep
    dsimp only
    k_steps
    unfold Halt
    refine ke_ne_ints (xs := w3.toList) (ys := Value.int (ov : Int) to :: orr) ⟨_, N4.get (List.Mem.head _), rfl, c3, by rw [Array.toArray_toList]⟩ ⟨_, N4.get (a := Do) (o := W.listOf (Value.int (ov : Int) to :: orr).toArray co) (by simp), rfl, co, rfl⟩ hI3 (by have hq := hIo; rw [hod] at hq; exact hq) (by exact hu) ?_
    rw [decide_eq_true rfl]
    k_steps
    exact Post.intro F3 ⟨e, te, Dp, Do, Ds, ps, od, sz, cp, co, cs, o1, he, hend, hodds, hsizes, hIp, hIo, hIs, by rw [hod, hsz]; exact fun p hp => N4 p (List.mem_cons_of_mem _ (List.mem_cons_of_mem _ hp)), ho1⟩
end D32
end
section
open PySem PySem.W PyProof.Rows PySem.Calls
set_option maxRecDepth 100000
set_option maxHeartbeats 4000000
set_option linter.unusedVariables false
namespace D32
local macro_rules | `(tactic| walk_at "eval Name") => `(tactic| ((with_reducible show wpAny _ _ (eval (Expr.Name _ _) (envOfC _ _ _ _ _)) _ _ _); k_dflt (refine' ldG ?k1 ?k2 ?_ ?a ?b ?c; (case b => rfl); (case k1 => k_asm); (case k2 => ((try dsimp only); (repeat (refine Eq.trans (if_neg ?hn) ?_; (case hn => decide))); assumption)); (case a => rfl); (case c => decide); k_whole)))
local macro_rules | `(tactic| k_room) => `(tactic| ((try simp only [depth_under_make, depth_under_kw, depth_in1, depth_deeper, depth_caller]); omega))
local macro_rules | `(tactic| walk_at "eval Name") => `(tactic| k_dflt (refine' cName_L ?F ?a ?_ ?b ?c ?d; (case F => assumption); (case a => first | assumption | rfl); (case b => rfl); (case c => rfl); (case d => decide); k_whole))
local macro_rules | `(tactic| walk_at "eval Name") => `(tactic| k_dflt (refine' cName_K ?F ?X ?T ?e ?_ ?a ?b ?c ?d; (case F => assumption); (case X => assumption); (case T => assumption); (case e => k_is); (case a => rfl); (case b => rfl); (case c => rfl); (case d => decide); k_whole))
local macro_rules | `(tactic| walk_at "eval Name") => `(tactic| k_dflt (refine' cName_B ?F ?X ?T ?e ?v ?n ?_ ?a ?f ?b ?c ?d; (case F => assumption); (case X => assumption); (case T => assumption); (case e => k_is); (case v => boot_fast); (case n => decide); (case a => rfl); (case f => rfl); (case b => rfl); (case c => rfl); (case d => decide); k_whole))
local macro_rules | `(tactic| walk_at "exec For Name Subscript cons nil") => `(tactic| refine halt ?_)
local macro_rules | `(tactic| walk_at "exec For Name Name cons nil") => `(tactic| refine halt ?_)
local macro_rules | `(tactic| walk_at "exec While") => `(tactic| refine halt ?_)
local macro_rules | `(tactic| walk_at "exec While BoolOp") => `(tactic| refine halt ?_)
local macro_rules | `(tactic| walk_at "pyIter ref") => `(tactic| refine halt ?_)
local macro_rules | `(tactic| walk_at "pyIter str") => `(tactic| refine halt ?_)
local macro_rules | `(tactic| walk_at "eval ListComp") => `(tactic| refine halt ?_)
local macro_rules | `(tactic| walk_at "exec Assign cons ListComp") => `(tactic| refine halt ?_)
local macro_rules | `(tactic| walk_at "eval Name") => `(tactic| k_dflt (refine' ldCellK ?k ?hc ?_ ?b ?c ?d; (case k => with_reducible assumption); (case hc => assumption); (case b => rfl); (case c => rfl); (case d => decide); k_whole))
local macro_rules | `(tactic| walk_at "call ref") => `(tactic| refine halt ?_)
local macro_rules | `(tactic| walk_at "call builtin:str.split") => `(tactic| refine halt ?_)
local macro_rules | `(tactic| walk_at "subscriptTail Name Slice ref ref") => `(tactic| refine halt ?_)
local macro_rules | `(tactic| walk_at "call type:zip") => `(tactic| refine halt ?_)
local macro_rules | `(tactic| walk_at "call type:enumerate") => `(tactic| refine halt ?_)
local macro_rules | `(tactic| walk_at "call builtin:all") => `(tactic| refine halt ?_)
local macro_rules | `(tactic| walk_at "subscriptTail tuple") => `(tactic| refine halt ?_)
local macro_rules | `(tactic| walk_at "call builtin:sum") => `(tactic| refine halt ?_)
local macro_rules | `(tactic| walk_at "compareOp NotEq ref ref") => `(tactic| refine halt ?_)
local macro_rules | `(tactic| walk_at "compareOp Eq ref ref") => `(tactic| refine halt ?_)
local macro_rules | `(tactic| walk_at "compareOp NotIn int ref") => `(tactic| refine halt ?_)
local macro_rules | `(tactic| walk_at "compareOp In int ref") => `(tactic| refine halt ?_)

def PE (s : Shared) (us : List Nat) (h : Heap) (m : Str → Option Value) : Prop := ∃ e te Du un cu, EolOk e ∧ m (Str.ofString "end") = some (.str (sT e) te) ∧ m (Str.ofString "unlike") = some (.ref Du) ∧ IntsAre un.toList (us.map fun (k : Nat) => (k : Int)) ∧
  News s.heap s.heap.objs.size h [(Du, W.listOf un cu)]
def natOf : Value → Nat
  | .int i _ => i.toNat
  | _ => 0
def pU (ks : List Nat) (v1 v2 : Value) : Bool := !((ks.take (natOf v1)).contains (natOf v2))
theorem unlike_ints : ∀ (rest seen : List Nat) (ps : List (Value × Value)) (ys : List Value), ps.length = rest.length →
    (∀ (j : Nat) (q : Value × Value), ps[j]? = some q → (∃ t, q.1 = .int ((seen.length + j : Nat) : Int) t) ∧ ∃ (x : Nat) (t : Tok), rest[j]? = some x ∧ q.2 = .int (x : Int) t) →
    Paired (fun (q : Value × Value) y => ∃ (x : Nat) (t t' : Tok), q.2 = .int (x : Int) t ∧ y = .int ((x + 1 : Nat) : Int) t') (ps.filter fun q => pU (seen ++ rest) q.1 q.2) ys → IntsAre ys ((unlikeFrom seen rest).map fun (k : Nat) => (k : Int)) := by
  intro rest
  induction rest with
  | nil =>
    intro seen ps ys hl hq hp
    have hps : ps = [] := List.eq_nil_of_length_eq_zero (by simpa using hl)
    subst hps
    cases hp
    exact .nil
  | cons x rest ih =>
    intro seen ps ys hl hq hp
    cases ps with
    | nil => simp at hl
    | cons q ps =>
      obtain ⟨⟨t, e1⟩, x', t', hx, e2⟩ := hq 0 q rfl
      have hx : x = x' := by simpa using hx
      subst hx
      have hpu : pU (seen ++ x :: rest) q.1 q.2 = !(seen.contains x) := by
        unfold pU
        rw [e1, e2]
        show (!(((seen ++ x :: rest).take ((((seen.length + 0 : Nat) : Int)).toNat)).contains ((x : Int).toNat))) = _
        rw [Int.toNat_natCast, Int.toNat_natCast, Nat.add_zero, List.take_left]
      have hrec : ∀ (j : Nat) (q' : Value × Value), ps[j]? = some q' → (∃ t, q'.1 = .int (((seen ++ [x]).length + j : Nat) : Int) t) ∧ ∃ (y : Nat) (t : Tok), rest[j]? = some y ∧ q'.2 = .int (y : Int) t := by
        intro j q' hj
        obtain ⟨⟨t, e⟩, h2⟩ := hq (j + 1) q' (by simpa using hj)
        refine ⟨⟨t, ?_⟩, by simpa using h2⟩
        rw [e, List.length_append]
        congr 2
        show seen.length + (j + 1) = seen.length + 1 + j
        omega
      have hss : seen ++ x :: rest = (seen ++ [x]) ++ rest := by simp
      rw [List.filter_cons, hpu] at hp
      unfold unlikeFrom
      cases hc : seen.contains x with
      | true =>
        rw [hc] at hp
        rw [hss] at hp
        exact ih (seen ++ [x]) ps ys (by simpa using hl) hrec hp
      | false =>
        rw [hc] at hp
        rw [hss] at hp
        obtain _ | ⟨hg, hp⟩ := hp
        obtain ⟨x2, t1, t2, e3, rfl⟩ := hg
        rw [e2] at e3
        injection e3 with e3 _
        have e3 : x = x2 := Int.ofNat.inj e3
        subst e3
        exact .cons _ _ (ih (seen ++ [x]) ps _ (by simpa using hl) hrec hp)
theorem pick_take (l : List Value) (n : Nat) : kms_pick l none (some (n : Int)) = l.take n := by
  have h1 : kms_hi (some (n : Int)) l.length = min n l.length := by
    show (if (n : Int) < 0 then l.length - (-(n : Int)).toNat else min (n : Int).toNat l.length) = _
    rw [if_neg (by omega), Int.toNat_natCast]
  unfold kms_pick
  rw [h1]
  show ((l.drop 0).take (min n l.length - 0)) = _
  rw [List.drop_zero, Nat.sub_zero, List.take_eq_take_iff]
  omega
theorem any_cast (l : List Nat) (x : Nat) : ((l.map fun (k : Nat) => (k : Int)).any (· == (x : Int))) = l.contains x := by
  induction l with
  | nil => rfl
  | cons a l ih =>
    rw [List.map_cons, List.any_cons, ih, List.contains_cons]
    congr 1
    rw [Bool.eq_iff_iff, beq_iff_eq, beq_iff_eq]
    omega
theorem slice_ext {w : World} {A : Around} {E : Value → Shared → Prop} {s : Shared} {value slice : Expr} {l : Addr} {its : Array Value} {zs : List Value} {vl vu : Value} {lo hi : Option Int} {Q : Value → Shared → Prop}
    (hl : s.heap.IsList l its) (pl : IsPart vl lo) (pu : IsPart vu hi) (e : kms_pick its.toList lo hi = zs)
    (h : ∀ D h', Ext s.heap h' → h'.get? D = some (W.listOf zs.toArray 0) → Q (.ref D) { s with heap := h' })
    (hs : subscripted slice false (.ref l) (.ref s.heap.objs.size) = operate [.ref s.heap.objs.size, .ref l] (getItem (.ref l) (.ref s.heap.objs.size)))
    (ht : ∀ r, letTemporaryGo value (.ref l) r = pure ()) (hsz : its.size ≤ sizeLine) :
    wpAny (model pw w) A (subscriptTail value slice (.ref l) (.ref s.heap.objs.size)) Q E { s with heap := s.heap.push { cls := .type "slice", data := .fields #[vl, vu, .none] } } := by
  refine subscriptTail_ops (Heap.IsList.typeIs (s := { s with heap := s.heap.push { cls := .type "slice", data := .fields #[vl, vu, .none] } }) (hl.push _)) list_getitem_lookup
    (wpAny_getItem_list_slice (hl.push _) (Heap.IsSliceOf.new ..) pl pu .none (by simp) ?_ hsz) hs ht
  show Q (.ref (s.heap.push _).objs.size) _
  refine h _ _ (fun b o eb => Heap.get?_push_of_some _ (Heap.get?_push_of_some _ eb)) ?_
  rw [kms_pick_eq, e]
  exact Heap.get?_push_size _ rfl
theorem lawE {w : World} {mean : ExcName → Option Value} {mg mb : Str → Option Value} {A : Around} {s : Shared} {fa : Addr} {cd : Value} {ks : List Nat} {h : Heap} {tk : Nat} {m : Str → Option Value}
    (hA : A.handled = none) (X : (K w.params).In s.heap) (T : TopH mean mg mb s.heap) (hd : A.depth + 8 < recursionLimit) (F : Fr s.heap s.heap.objs.size h m) (hlow : LowP ks) (hP : PB s ks h m) :
    wpAny (model pw w) A (execs (((fBody (stm 26)).drop 8).take 1) (envOfC (Str.ofString "law") (fScope (stm 26)) s.heap.objs.size fa cd)) (Post s (PE s (unlike ks))) (fun _ _ => False) { s with heap := h, toks := tk } := by
  show wpAny _ _ (execs [_] _) _ _ _
  obtain ⟨e, te, Dp, Do, Ds, ps, od, sz, cp, co, cs, o1, he, hend, hodds, hsizes, hIp, hIo, hIs, N, ho1⟩ := hP
  have X1 := X.keeps F.keep
  have T1 := T.keeps F.keep
  have hl7 := hlow.2.2.2
  have hpl : ps.size = ks.length := by have := hIp.length; simpa using this
  have hc1 : h.IsCell (s.heap.objs.size + 1) (some (.ref Dp)) := ⟨_, N.get (a := s.heap.objs.size + 1) (o := o1) (by simp), ho1⟩
  have hk1 : List.lookup (Str.ofString "places") [(Str.ofString "places", s.heap.objs.size + 1)] = some (s.heap.objs.size + 1) := rfl
  k_steps
  unfold Halt
  refine lcPT_A (cl := [(Str.ofString "places", s.heap.objs.size + 1)]) F (pU ks) (fun v1 v2 y => ∃ (x : Nat) (t t' : Tok), v2 = .int (x : Int) t ∧ y = .int ((x + 1 : Nat) : Int) t') ?_
  k_steps
  unfold Halt
  refine src_enum (xs := ps) (by exact hA) ⟨_, N.get (a := Dp) (o := W.listOf ps cp) (by simp), rfl, cp, rfl⟩ (by rw [hpl, sizeLine_eq]; omega) (fun h e => F.ns.keeps e) (frLive F) ?_ ?_ ?_
  · intro C v2 j t s₃ m₃ E' hj F3 hma hmb
    obtain ⟨x, tx, hx, rfl⟩ := ints_get hIp j v2 (by simpa using hj)
    have N3 := nilOf F3
    have hj7 : j < ks.length := (List.getElem?_eq_some_iff.mp hx).1
    have hc3 : s₃.heap.IsCell (s.heap.objs.size + 1) (some (.ref Dp)) := by
      obtain ⟨o, e', c⟩ := hc1
      exact ⟨o, F3.keep _ _ e', c⟩
    have hlp : s₃.heap.IsList Dp ps := ⟨_, F3.keep _ _ (N.get (a := Dp) (o := W.listOf ps cp) (by simp)), rfl, cp, rfl⟩
    k_steps
    unfold Halt
    refine slice_ext (its := ps) (zs := ps.toList.take j) hlp (by kmk_part) (by kmk_part) (pick_take _ _) (fun D4 h4 e4 hD4 => ?_) (by with_unfolding_all rfl) (by kmk_pure) (by rw [hpl, sizeLine_eq]; omega)
    obtain ⟨F4, N4⟩ := use_ext F3 N3 e4
    k_steps
    unfold Halt
    refine notin_list_ints ⟨_, hD4, rfl, 0, rfl⟩ (ints_take j hIp) ?_
    rw [← List.map_take, any_cast]
    k_steps
    exact keeps_of e4
  · intro C v2 j t s₃ m₃ E' hj hp F3 hma hmb
    obtain ⟨x, tx, hx, rfl⟩ := ints_get hIp j v2 (by simpa using hj)
    have N3 := nilOf F3
    k_steps
    all_goals (try (with_reducible show Keeps _ _; exact keeps_of fun _ _ e => e))
  · intro D5 h5 tk5 it5 ps5 e5 hX5 hD5 hpl5 hlen5 hps5 hG5
    obtain ⟨F5, N5⟩ := use_extL F N hX5 e5
    obtain ⟨c5, hpl5⟩ := hpl5
    have N6 := news_cons F N5 hD5 hpl5
    have hI5 : IntsAre it5.toList ((unlike ks).map fun (k : Nat) => (k : Int)) := by
      refine unlike_ints ks [] ps5 it5.toList (by rw [hlen5, hpl]) (fun j q hj => ?_) hG5
      obtain ⟨⟨t, e1⟩, hq⟩ := hps5 j q hj
      obtain ⟨x, tx, hx, e2⟩ := ints_get hIp j q.2 (by simpa using hq)
      refine ⟨⟨t, ?_⟩, x, tx, hx, e2⟩
      rw [e1]
      show Value.int ((j : Nat) : Int) t = Value.int (((0 + j : Nat)) : Int) t
      rw [Nat.zero_add]
    k_steps
    refine Post.intro F5 ⟨e, te, D5, it5, c5, he, (if_neg (by decide)).trans hend, if_pos rfl, hI5, fun p hp => ?_⟩
    rw [List.mem_singleton.mp hp]
    exact N6 _ (List.Mem.head _)
end D32
end
section
open PySem PySem.W PyProof.Rows PySem.Calls
set_option maxRecDepth 100000
set_option maxHeartbeats 4000000
set_option linter.unusedVariables false
namespace D32
local macro_rules | `(tactic| walk_at "eval Name") => `(tactic| ((with_reducible show wpAny _ _ (eval (Expr.Name _ _) (envOfC _ _ _ _ _)) _ _ _); k_dflt (refine' ldG ?k1 ?k2 ?_ ?a ?b ?c; (case b => rfl); (case k1 => k_asm); (case k2 => ((try dsimp only); (repeat (refine Eq.trans (if_neg ?hn) ?_; (case hn => decide))); assumption)); (case a => rfl); (case c => decide); k_whole)))
local macro_rules | `(tactic| k_room) => `(tactic| ((try simp only [depth_under_make, depth_under_kw, depth_in1, depth_deeper, depth_caller]); omega))
local macro_rules | `(tactic| walk_at "eval Name") => `(tactic| k_dflt (refine' cName_L ?F ?a ?_ ?b ?c ?d; (case F => assumption); (case a => first | assumption | rfl); (case b => rfl); (case c => rfl); (case d => decide); k_whole))
local macro_rules | `(tactic| walk_at "eval Name") => `(tactic| k_dflt (refine' cName_K ?F ?X ?T ?e ?_ ?a ?b ?c ?d; (case F => assumption); (case X => assumption); (case T => assumption); (case e => k_is); (case a => rfl); (case b => rfl); (case c => rfl); (case d => decide); k_whole))
local macro_rules | `(tactic| walk_at "eval Name") => `(tactic| k_dflt (refine' cName_B ?F ?X ?T ?e ?v ?n ?_ ?a ?f ?b ?c ?d; (case F => assumption); (case X => assumption); (case T => assumption); (case e => k_is); (case v => boot_fast); (case n => decide); (case a => rfl); (case f => rfl); (case b => rfl); (case c => rfl); (case d => decide); k_whole))
local macro_rules | `(tactic| walk_at "exec For Name Subscript cons nil") => `(tactic| refine halt ?_)
local macro_rules | `(tactic| walk_at "exec For Name Name cons nil") => `(tactic| refine halt ?_)
local macro_rules | `(tactic| walk_at "exec While") => `(tactic| refine halt ?_)
local macro_rules | `(tactic| walk_at "exec While BoolOp") => `(tactic| refine halt ?_)
local macro_rules | `(tactic| walk_at "pyIter ref") => `(tactic| refine halt ?_)
local macro_rules | `(tactic| walk_at "pyIter str") => `(tactic| refine halt ?_)
local macro_rules | `(tactic| walk_at "eval ListComp") => `(tactic| refine halt ?_)
local macro_rules | `(tactic| walk_at "exec Assign cons ListComp") => `(tactic| refine halt ?_)
local macro_rules | `(tactic| walk_at "eval Name") => `(tactic| k_dflt (refine' ldCellK ?k ?hc ?_ ?b ?c ?d; (case k => with_reducible assumption); (case hc => assumption); (case b => rfl); (case c => rfl); (case d => decide); k_whole))
local macro_rules | `(tactic| walk_at "call ref") => `(tactic| refine halt ?_)
local macro_rules | `(tactic| walk_at "call builtin:str.split") => `(tactic| refine halt ?_)
local macro_rules | `(tactic| walk_at "subscriptTail Name Slice ref ref") => `(tactic| refine halt ?_)
local macro_rules | `(tactic| walk_at "call type:zip") => `(tactic| refine halt ?_)
local macro_rules | `(tactic| walk_at "call type:enumerate") => `(tactic| refine halt ?_)
local macro_rules | `(tactic| walk_at "call builtin:all") => `(tactic| refine halt ?_)
local macro_rules | `(tactic| walk_at "subscriptTail tuple") => `(tactic| refine halt ?_)
local macro_rules | `(tactic| walk_at "call builtin:sum") => `(tactic| refine halt ?_)
local macro_rules | `(tactic| walk_at "compareOp NotEq ref ref") => `(tactic| refine halt ?_)
local macro_rules | `(tactic| walk_at "compareOp Eq ref ref") => `(tactic| refine halt ?_)
local macro_rules | `(tactic| walk_at "compareOp NotIn int ref") => `(tactic| refine halt ?_)
local macro_rules | `(tactic| walk_at "compareOp In int ref") => `(tactic| refine halt ?_)

structure FactsB (us ts : List Nat) : Prop where
  told : toldL 60 us.sum us 0 = some ts
  falls : fallsB ts 0 = true
  sums : ts.sum = us.sum
  odd : ∀ t ∈ ts, t % 2 = 1
  laid : laid ts = us
  len : ts.length ≤ 24
  big : ∀ t ∈ ts, t ≤ 40
  ubig : ∀ u ∈ us, u ≤ 40
  ulen : us.length ≤ 20
theorem ints_par : ∀ {vs : List Value} {ks : List Nat} {ys : List Value}, IntsAre vs (ks.map fun (k : Nat) => (k : Int)) → Paired (fun v y => ∃ (x : Nat) (t t' : Tok), v = Value.int (x : Int) t ∧ y = Value.int ((x % 2 : Nat) : Int) t') vs ys → IntsAre ys ((ks.map (· % 2)).map fun (k : Nat) => (k : Int))
  | [], [], _, .nil, .nil => .nil
  | _, x :: ks, _, .cons _ t hi, .cons hg hp => by
    obtain ⟨k', t1, t2, e1, rfl⟩ := hg
    injection e1 with e1 _
    have e1 : x = k' := Int.ofNat.inj e1
    subst e1
    exact .cons _ _ (ints_par hi hp)
theorem mod2 (x : Nat) : ((x : Int)).fmod 2 = ((x % 2 : Nat) : Int) := by
  rw [Int.fmod_eq_emod_of_nonneg _ (by decide)]
  omega
theorem no_zero (ts : List Nat) (h : ∀ t ∈ ts, t % 2 = 1) : (((ts.map (· % 2)).map fun (k : Nat) => (k : Int)).any (· == (0 : Int))) = false := by
  rw [List.any_eq_false]
  intro x hx
  obtain ⟨y, hy, rfl⟩ := List.mem_map.mp hx
  obtain ⟨z, hz, rfl⟩ := List.mem_map.mp hy
  rw [h z hz]
  decide
theorem lawF {w : World} {mean : ExcName → Option Value} {mg mb : Str → Option Value} {A : Around} {s : Shared} {fa : Addr} {cd : Value} {us ts : List Nat} {h : Heap} {tk : Nat} {m : Str → Option Value} {Q : Flow → Shared → Prop} {E : Value → Shared → Prop}
    (hA : A.handled = none) (X : (K w.params).In s.heap) (T : TopH mean mg mb s.heap) (hd : A.depth + 8 < recursionLimit) (hu : A.units + 64 < cLine) (F : Fr s.heap s.heap.objs.size h m) (fb : FactsB us ts) (hP : PE s us h m)
    (hQ : ∀ h' tk' m', Fr s.heap s.heap.objs.size h' m' → Q (.ret (.bool true)) { s with heap := h', toks := tk' }) :
    wpAny (model pw w) A (execs ((fBody (stm 26)).drop 9) (envOfC (Str.ofString "law") (fScope (stm 26)) s.heap.objs.size fa cd)) Q E { s with heap := h, toks := tk } := by
  show wpAny _ _ (execs [_, _, _] _) _ _ _
  obtain ⟨e, te, Du, un, cu, he, hend, hunl, hIu, N⟩ := hP
  have X1 := X.keeps F.keep
  have T1 := T.keeps F.keep
  k_steps
  unfold Halt
  refine told_spec (fuel := 60) (ks := us) (os := ts) (by exact hA) X1 T1 (by k_room) ⟨_, N.get (List.Mem.head _), rfl, cu, rfl⟩ hIu he fb.told (by have := fb.ulen; omega) fb.ubig fun h2 tk2 D2 w2 e2 hD2 hpl2 hI2 => ?_
  obtain ⟨F2, N2⟩ := use_ext F N e2
  obtain ⟨c2', hpl2⟩ := hpl2
  have N3 := news_cons F N2 hD2 hpl2
  have X2 := X.keeps F2.keep
  have T2 := T.keeps F2.keep
  dsimp only
  k_steps
  unfold Halt
  rename_i h3 F3 N4
  have X3 := X.keeps F3.keep
  have T3 := T.keeps F3.keep
  refine falls_spec (by exact hA) X3 T3 (by k_room) ⟨_, N4.get (List.Mem.head _), rfl, c2', rfl⟩ hI2 (by have := fb.len; omega) fun h4 tk4 e4 => ?_
  obtain ⟨F4, N5⟩ := use_ext F3 N4 e4
  have X4 := X.keeps F4.keep
  have T4 := T.keeps F4.keep
  rw [fb.falls]
  dsimp only
  k_steps
  unfold Halt
  refine LSm.sum_ints (vs := w2.toList) F4 N5 (by exact hA) ⟨_, N5.get (List.Mem.head _), rfl, c2', by rw [Array.toArray_toList]⟩ hI2 fun h5 tk5 t5 F5 N6 => ?_
  have X5 := X.keeps F5.keep
  have T5 := T.keeps F5.keep
  rw [sum_cast, fb.sums]
  dsimp only
  k_steps
  unfold Halt
  refine LSm.sum_ints (vs := un.toList) F5 N6 (by exact hA) ⟨_, N6.get (List.mem_cons_of_mem _ (List.Mem.head _)), rfl, cu, by rw [Array.toArray_toList]⟩ hIu fun h6 tk6 t6 F6 N7 => ?_
  have X6 := X.keeps F6.keep
  have T6 := T.keeps F6.keep
  rw [sum_cast]
  dsimp only
  k_steps
  · rename_i hq
    exact absurd rfl hq
  · unfold Halt
    have hwl : w2.size = ts.length := by have := hI2.length; simpa using this
    have hl24 := fb.len
    refine lcE (fun _ => true) (fun v y => ∃ (x : Nat) (t t' : Tok), v = Value.int (x : Int) t ∧ y = Value.int ((x % 2 : Nat) : Int) t') ?_
    k_steps
    unfold Halt
    refine src_list0 (items := w2) (by exact hA) (by rw [hwl, sizeLine_eq]; omega) (hl := ⟨_, N7.get (List.Mem.head _), rfl, c2', rfl⟩) (fun _ _ => trivial) (fun _ hb => nomatch hb) ?_ ?_
    · intro C v s₃ m₃ E' hv F8 hm8
      obtain ⟨j, hj, hjv⟩ := List.getElem_of_mem hv
      obtain ⟨x, t, hxk, rfl⟩ := ints_get hI2 j v (by rw [← hjv]; exact List.getElem?_eq_getElem hj)
      have N8 := nilOf F8
      k_steps
      all_goals (try (with_reducible show Value.int _ _ = Value.int _ _; rw [mod2]))
      all_goals (try (with_reducible show Keeps _ _; exact keeps_of fun _ _ e => e))
    · intro D8 h8 tk8 it8 e8 _ hD8 hpl8 hG8
      have e8' : Ext h6 h8 := fun b o x => e8 b o (by simp) x
      obtain ⟨F8, N8⟩ := use_ext F6 N7 e8'
      obtain ⟨c8, hpl8⟩ := hpl8
      have hI8 := ints_par hI2 hG8
      have X8 := X.keeps F8.keep
      have T8 := T.keeps F8.keep
      dsimp only
      k_steps
      unfold Halt
      refine in_list_ints (vs := it8.toList) ⟨_, hpl8, rfl, c8, by rw [Array.toArray_toList]⟩ hI8 ?_
      rw [no_zero ts fb.odd]
      k_steps
      unfold Halt
      refine laid_spec (by exact hA) X8 T8 (by k_room) ⟨_, N8.get (List.Mem.head _), rfl, c2', rfl⟩ hI2 hl24 fb.big fun h9 tk9 D9 it9 e9 hD9 hpl9 hI9 => ?_
      obtain ⟨F9, N9⟩ := use_ext F8 N8 e9
      obtain ⟨c9, hpl9⟩ := hpl9
      have X9 := X.keeps F9.keep
      have T9 := T.keeps F9.keep
      rw [fb.laid] at hI9
      dsimp only
      k_steps
      unfold Halt
      refine ke_eq_ints (xs := it9.toList) (ys := un.toList) ⟨_, hpl9, rfl, c9, by rw [Array.toArray_toList]⟩ ⟨_, N9.get (List.mem_cons_of_mem _ (List.Mem.head _)), rfl, cu, by rw [Array.toArray_toList]⟩ hI9 hIu (by exact hu) ?_
      rw [decide_eq_true rfl]
      k_steps
      all_goals exact hQ _ _ _ F9
end D32
end
section
open PySem PySem.W PyProof.Rows PySem.Calls
set_option maxRecDepth 100000
set_option maxHeartbeats 4000000
set_option linter.unusedVariables false
namespace D32
def subL : List (List Nat) := subs.map fun l => l.map (· + 1)
theorem okB_sub : subL.all okB = true := by decide +kernel
theorem unF4 : (gen 4 5).all (fun ks => forceL (unlike ks) subL.contains) = true := by decide +kernel
theorem unF5 : (gen 5 5).all (fun ks => forceL (unlike ks) subL.contains) = true := by decide +kernel
theorem unF6 : (gen 6 5).all (fun ks => forceL (unlike ks) subL.contains) = true := by decide +kernel
theorem unF7 : (gen 7 5).all (fun ks => forceL (unlike ks) subL.contains) = true := by decide +kernel
theorem unlike_all : (gen 4 5 ++ gen 5 5 ++ gen 6 5 ++ gen 7 5).all (fun ks => subL.contains (unlike ks)) = true := by
  simp only [List.all_append, Bool.and_eq_true]
  have h := (show (fun ks => forceL (unlike ks) subL.contains) = (fun ks => subL.contains (unlike ks)) from funext fun ks => forceL_eq _ _)
  rw [← h]
  exact ⟨⟨⟨unF4, unF5⟩, unF6⟩, unF7⟩
end D32
end
section
open PySem PySem.W PyProof.Rows PySem.Calls
set_option maxRecDepth 100000
set_option maxHeartbeats 4000000
set_option linter.unusedVariables false
namespace D32

theorem factsB {ks : List Nat} (h : LowP ks) : ∃ ts, FactsB (unlike ks) ts := by
  obtain ⟨h1, h2, h3, h4⟩ := h
  have hm := mem_gen ks 5 h1 h2
  have hall := List.all_eq_true.mp unlike_all
  have hin : subL.contains (unlike ks) = true := by
    refine hall ks ?_
    have : ks.length = 4 ∨ ks.length = 5 ∨ ks.length = 6 ∨ ks.length = 7 := by omega
    rcases this with e | e | e | e <;> rw [e] at hm <;> simp only [List.mem_append]
    · exact .inl (.inl (.inl hm))
    · exact .inl (.inl (.inr hm))
    · exact .inl (.inr hm)
    · exact .inr hm
  have hb := List.all_eq_true.mp okB_sub (unlike ks) (List.contains_iff_mem.mp hin)
  unfold okB at hb
  split at hb
  · cases hb
  · rename_i ts ht
    simp only [Bool.and_eq_true] at hb
    obtain ⟨⟨⟨⟨⟨⟨⟨g1, g2⟩, g3⟩, g4⟩, g5⟩, g6⟩, g7⟩, g8⟩ := hb
    exact ⟨ts, ht, g1, eq_of_beq g2, fun t h => eq_of_beq (List.all_eq_true.mp g3 t h), eq_of_beq g4, of_decide_eq_true g5, fun t h => of_decide_eq_true (List.all_eq_true.mp g6 t h), fun t h => of_decide_eq_true (List.all_eq_true.mp g7 t h), of_decide_eq_true g8⟩
theorem law_walk {w : World} {mean : ExcName → Option Value} {mg mb : Str → Option Value} {A : Around} {s : Shared} {fa : Addr} {cd : Value} {l : Addr} {vs : List Value} {ns : List Int} {h₁ : Heap} {tk : Nat} {o1 : Obj} {Q : Flow → Shared → Prop} {E : Value → Shared → Prop}
    (hA : A.handled = none) (X : (K w.params).In s.heap) (T : TopH mean mg mb s.heap) (hd : A.depth + 8 < recursionLimit) (hu : A.units + 64 < cLine) (hl : s.heap.IsList l vs.toArray) (hi : IntsAre vs ns) (hn : ns.length ≤ 63)
    (F : Fr s.heap s.heap.objs.size h₁ (bindL (envOfC (Str.ofString "law") (fScope (stm 26)) s.heap.objs.size fa cd).kindOf [(Str.ofString "script", .ref l)] fun _ => none)) (N : News s.heap s.heap.objs.size h₁ [(s.heap.objs.size + 1, o1)]) (ho1 : o1.data = .cell none)
    (hQ : ∀ h' tk' m', Fr s.heap s.heap.objs.size h' m' → Q (.ret (.bool true)) { s with heap := h', toks := tk' }) :
    wpAny (model pw w) A (execs (fBody (stm 26)) (envOfC (Str.ofString "law") (fScope (stm 26)) s.heap.objs.size fa cd)) Q E { s with heap := h₁, toks := tk } := by
  show wpAny _ _ (execs ((fBody (stm 26)).take 3 ++ (((fBody (stm 26)).drop 3).take 3 ++ (((fBody (stm 26)).drop 6).take 1 ++ (((fBody (stm 26)).drop 7).take 1 ++ (((fBody (stm 26)).drop 8).take 1 ++ (fBody (stm 26)).drop 9))))) _) _ _ _
  refine seg (lawA hA X T hd hl hi hn F N ho1) fun h tk m F hP => ?_
  refine seg (lawB hA X T hd F hP) fun h tk m F hP => ?_
  obtain ⟨ks, hlow, hP⟩ := hP
  refine seg (lawC hA X T hd F hlow hP) fun h tk m F hP => ?_
  refine seg (lawD hA X T hd hu F hlow hP) fun h tk m F hP => ?_
  refine seg (lawE hA X T hd F hlow hP) fun h tk m F hP => ?_
  obtain ⟨ts, fb⟩ := factsB hlow
  exact lawF hA X T hd hu F fb hP hQ
end D32
end
open PySem PySem.W PyProof.Rows
set_option maxRecDepth 100000
set_option maxHeartbeats 4000000
set_option linter.unusedVariables false
theorem PySem.Challenge.cw_to0032_01_holds : PySem.Challenge.rw_to0032_01.Holds := by
  w_on; o_law
  refine holds_open (q := D32.q) (loose := D32.loose) (Xt := D32.Xt) (XP := XL D32.q []) (Yf := Hook.obs D32.Hk) (Ya := Hook.val D32.Hk) (YP := Hook.says D32.Hk) (N := 100000) D32.left0 (Hook.of D32.Hk) (Hook.keeps D32.Hk) (fun s e => xl_of s (Bool.and_eq_true_iff.mp e).1) XL.keeps (by rfl) (by rfl) (by rfl) (fun s e => recFacts_of (Bool.and_eq_true_iff.mp e).2) (by rfl) (by assumption) (by decide +kernel) ⟨rfl, rfl, rfl, rfl, rfl, by decide +kernel⟩ ?hw ?hc
  (case hw => w_witness2)
  w_strict k_go0
  rename_i hcond _ K0 hD h₁ tk₁ F o1 ho1 N0 X0
  refine D32.law_walk rfl (by assumption) (by assumption) (by show 302 + 8 < recursionLimit; decide +kernel) (by first | (show 4 + 64 < cLine; decide +kernel) | k_units) (by assumption) (by assumption) (by omega) F N0 ho1 fun h' tk' m' F' => ?_
  dsimp only
  first | (k_end; wrow_close) | (refine' goodW_reads ?F ?g (raisesW_false ?hn) ?hr ?hu ?hp; (case F => with_reducible assumption); (case g => assumption); (case hr => o_reads); (case hu => o_new); (case hn => wrow_none_raised); (case hp => refine' postW_of ?s ?v ?e; (case s => o_shape); (case v => wtm_val); (case e => w_fin)))
