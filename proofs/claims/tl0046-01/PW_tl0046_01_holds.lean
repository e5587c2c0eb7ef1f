import PyProof.Rows.All
import Wide.All
import OpenK.AllK
import Wide.FinOn
import Lean
import PySem.Challenge.RW_tl0046_01
set_option maxRecDepth 100000
set_option Elab.async false
set_option linter.unusedVariables false
section PartD1
namespace Mine
open PySem PySem.W PySem.Calls PyProof.Rows

section
variable {p : Program} {w : World} {n₀ : Nat} {ann : Option Value}

noncomputable def Goes (p : Program) (w : World) (n₀ : Nat) (ann : Option Value) (n : Nat) (s : Shared) (t : Thread) (s' : Shared) (t' : Thread) : Prop :=
  ∀ N r, topRun treeTable p w n₀ ann N s' t' = some r → topRun treeTable p w n₀ ann (n + N) s t = some r

theorem Goes.refl {s : Shared} {t : Thread} : Goes p w n₀ ann 0 s t s t := fun N r h => by rw [Nat.zero_add]; exact h
theorem Goes.trans {s s₁ s₂ : Shared} {t t₁ t₂ : Thread} {n m : Nat} (a : Goes p w n₀ ann n s t s₁ t₁) (b : Goes p w n₀ ann m s₁ t₁ s₂ t₂) : Goes p w n₀ ann (n + m) s t s₂ t₂ :=
  fun N r e => by rw [Nat.add_assoc]; exact a _ r (b N r e)
theorem Goes.one {s s' : Shared} {t t' : Thread} (h1 : through t = false) (h2 : stepOk n₀ ann t = true) (h3 : step (denote treeTable) p w s t = .go s' t') : Goes p w n₀ ann 1 s t s' t' :=
  fun N r e => by
    rw [Nat.add_comm]
    show topRun treeTable p w n₀ ann (N + 1) s t = some r
    unfold topRun
    rw [h1, h2, h3]
    exact e

/-- the tree runs from s to a value and a state of Q, in whatever it is wrapped, over at least one frame -/
noncomputable def Wt (p : Program) (w : World) (n₀ : Nat) (ann : Option Value) {α : Type} (m : Sem α) (Q : α → Shared → Nat → Prop) (s : Shared) : Prop :=
  ∃ a s' n, Q a s' n ∧ ∀ (K : α → Sem Fin) (H : Value → Sem Fin) (gd : Bool → Bool) (lv : List Value → List Value) (code : Code) (pos : Pos) (fr : Frame) (st : List Frame),
    ∃ pos', Goes p w n₀ ann n s ⟨m.wrap K H gd lv, code, pos, fr :: st⟩ s' ⟨K a, code, pos', fr :: st⟩

/-- a code called from a frame hands its flow back to it -/
noncomputable def Wc (p : Program) (w : World) (n₀ : Nat) (ann : Option Value) (c : Code) (R : Flow → Shared → Nat → Prop) (s : Shared) : Prop :=
  ∃ f s' n, R f s' n ∧ ∀ (pos : Pos) (k : Result → Sem Fin) (h : Option Value) (g : Bool) (l : List Value) (cd : Code) (q : Pos) (kept : List Value) (st : List Frame),
    Goes p w n₀ ann n s ⟨denote treeTable c, c, pos, .ret k h g l cd q kept :: st⟩ s' ⟨k (.ok f), cd, q, st⟩

variable {α β : Type} {s : Shared}

theorem wrap_self : ∀ m : Sem α, m.wrap .pure .raise id id = m := by
  intro m
  induction m <;> simp only [Sem.wrap, id, *]

theorem Wt.mono {m : Sem α} {Q Q' : α → Shared → Nat → Prop} (h : Wt p w n₀ ann m Q s) (hq : ∀ a s' n, Q a s' n → Q' a s' n) : Wt p w n₀ ann m Q' s := by
  obtain ⟨a, s', n, q, g⟩ := h
  exact ⟨a, s', n, hq _ _ _ q, g⟩
theorem Wt_pure {a : α} {Q : α → Shared → Nat → Prop} (h : Q a s 0) : Wt p w n₀ ann (pure a) Q s := ⟨a, s, 0, h, fun _ _ _ _ _ pos _ _ => ⟨pos, Goes.refl⟩⟩
theorem Wt_bind {m : Sem α} {f : α → Sem β} {Q : β → Shared → Nat → Prop} (h : Wt p w n₀ ann m (fun a s' n => Wt p w n₀ ann (f a) (fun b s'' k => Q b s'' (n + k)) s') s) : Wt p w n₀ ann (m >>= f) Q s := by
  obtain ⟨a, s₁, n, ⟨b, s₂, k, q, g₂⟩, g₁⟩ := h
  refine ⟨b, s₂, n + k, q, fun K H gd lv code pos fr st => ?_⟩
  rw [Sem.bind_eq_wrap', Sem.wrap_wrap]
  obtain ⟨p₁, e₁⟩ := g₁ (fun a => (f a).wrap K H gd lv) (fun e => (Sem.raise e).wrap K H gd lv) (fun g => gd (id g)) (fun l => lv (id l)) code pos fr st
  obtain ⟨p₂, e₂⟩ := g₂ K H gd lv code p₁ fr st
  exact ⟨p₂, e₁.trans e₂⟩
theorem Wt_wrapped {m : Sem α} {Q : α → Shared → Nat → Prop} {H' : Value → Sem α} {gd' : Bool → Bool} {lv' : List Value → List Value} (h : Wt p w n₀ ann m Q s) : Wt p w n₀ ann (m.wrap .pure H' gd' lv') Q s := by
  obtain ⟨a, s₁, n, q, g₁⟩ := h
  refine ⟨a, s₁, n, q, fun K H gd lv code pos fr st => ?_⟩
  rw [Sem.wrap_wrap]
  exact g₁ (fun a => (Sem.pure a).wrap K H gd lv) _ _ _ code pos fr st
theorem Wt_holding {vs : List Value} {m : Sem α} {Q : α → Shared → Nat → Prop} (h : Wt p w n₀ ann m Q s) : Wt p w n₀ ann (holding vs m) Q s := by
  rw [holding_eq_keep, Sem.keep_eq_wrap]; exact Wt_wrapped h
theorem Wt_tryCatch {m : Sem α} {k : Value → Sem α} {Q : α → Shared → Nat → Prop} (h : Wt p w n₀ ann m Q s) : Wt p w n₀ ann (m.tryCatch k) Q s := by
  rw [Sem.tryCatch_eq_wrap]; exact Wt_wrapped h
theorem Wt_onRaise {m : Sem α} {k : Value → Sem Unit} {Q : α → Shared → Nat → Prop} (h : Wt p w n₀ ann m Q s) : Wt p w n₀ ann (m.onRaise k) Q s := by
  rw [Sem.onRaise_eq_wrap]; exact Wt_wrapped h

/-- one node whose step goes on -/
theorem Wt_node {m m' : Sem α} {s' : Shared} {Q : α → Shared → Nat → Prop} (h : Wt p w n₀ ann m' (fun a s n => Q a s (1 + n)) s')
    (go : ∀ (K : α → Sem Fin) (H : Value → Sem Fin) (gd : Bool → Bool) (lv : List Value → List Value) (code : Code) (pos : Pos) (fr : Frame) (st : List Frame),
      through ⟨m.wrap K H gd lv, code, pos, fr :: st⟩ = false ∧ stepOk n₀ ann ⟨m.wrap K H gd lv, code, pos, fr :: st⟩ = true ∧
      ∃ pos', step (denote treeTable) p w s ⟨m.wrap K H gd lv, code, pos, fr :: st⟩ = .go s' ⟨m'.wrap K H gd lv, code, pos', fr :: st⟩) : Wt p w n₀ ann m Q s := by
  obtain ⟨a, s₁, n, q, g⟩ := h
  refine ⟨a, s₁, 1 + n, q, fun K H gd lv code pos fr st => ?_⟩
  obtain ⟨h1, h2, p₁, h3⟩ := go K H gd lv code pos fr st
  obtain ⟨p₂, e⟩ := g K H gd lv code p₁ fr st
  exact ⟨p₂, (Goes.one h1 h2 h3).trans e⟩
theorem Wt_rule {tag : String} {k : Unit → Sem α} {Q : α → Shared → Nat → Prop} (h : Wt p w n₀ ann (k ()) (fun a s n => Q a s (1 + n)) s) : Wt p w n₀ ann (.rule tag k) Q s :=
  Wt_node h fun K H gd lv code pos fr st => ⟨rfl, rfl, pos, rfl⟩
theorem Wt_at {q : Pos} {k : Unit → Sem α} {Q : α → Shared → Nat → Prop} (h : Wt p w n₀ ann (k ()) (fun a s n => Q a s (1 + n)) s) : Wt p w n₀ ann (.at q k) Q s :=
  Wt_node h fun K H gd lv code pos fr st => ⟨rfl, rfl, q, rfl⟩
theorem Wt_ask {k : Setting → Sem α} {Q : α → Shared → Nat → Prop} (h : Wt p w n₀ ann (k ⟨p, w.params⟩) (fun a s n => Q a s (1 + n)) s) : Wt p w n₀ ann (.ask k) Q s :=
  Wt_node h fun K H gd lv code pos fr st => ⟨rfl, rfl, pos, rfl⟩
theorem Wt_fresh {k : Tok → Sem α} {Q : α → Shared → Nat → Prop} (h : Wt p w n₀ ann (k s.toks) (fun a s n => Q a s (1 + n)) { s with toks := s.toks + 1 }) : Wt p w n₀ ann (.fresh k) Q s :=
  Wt_node h fun K H gd lv code pos fr st => ⟨rfl, rfl, pos, rfl⟩
theorem Wt_alloc {o : Obj} {k : Addr → Sem α} {Q : α → Shared → Nat → Prop} (h : Wt p w n₀ ann (k s.heap.objs.size) (fun a s n => Q a s (1 + n)) { s with heap := s.heap.push o }) : Wt p w n₀ ann (.alloc o k) Q s :=
  Wt_node h fun K H gd lv code pos fr st => ⟨rfl, rfl, pos, rfl⟩
theorem Wt_load {a : Addr} {q : Option Value} {k : Obj → Sem α} {o : Obj} {Q : α → Shared → Nat → Prop} (ho : s.heap.get? a = some o) (h : Wt p w n₀ ann (k o) (fun a s n => Q a s (1 + n)) s) : Wt p w n₀ ann (.load a q k) Q s :=
  Wt_node h fun K H gd lv code pos fr st => ⟨rfl, rfl, pos, by
    obtain ⟨heap, gens, drawn, toks, os⟩ := s
    show step _ _ _ ⟨heap, gens, drawn, toks, os⟩ ⟨.load a q fun x => (k x).wrap K H gd lv, code, pos, fr :: st⟩ = _
    simp only [step, show heap.get? a = some o from ho]⟩
theorem Wt_update {a : Addr} {q : Option Value} {f : Obj → Obj} {k : Unit → Sem α} {o : Obj} {Q : α → Shared → Nat → Prop} (hn : n₀ ≤ a) (ho : s.heap.get? a = some o)
    (h : Wt p w n₀ ann (k ()) (fun a s n => Q a s (1 + n)) { s with heap := s.heap.update a f }) : Wt p w n₀ ann (.update a q f k) Q s :=
  Wt_node h fun K H gd lv code pos fr st => ⟨rfl, by
    show (true && (Nat.ble n₀ a || a == mainNs || a == cStatics || ann == some (.ref a))) = true
    rw [Nat.ble_eq_true_of_le hn]; rfl, pos, by
    obtain ⟨heap, gens, drawn, toks, os⟩ := s
    show step _ _ _ ⟨heap, gens, drawn, toks, os⟩ ⟨.update a q f fun x => (k x).wrap K H gd lv, code, pos, fr :: st⟩ = _
    simp only [step, show heap.get? a = some o from ho, Option.isSome_some, if_true]⟩
theorem Wt_call {c : Code} {h : Option Value} {g : Bool} {l : List Value} {k : Result → Sem α} {Q : α → Shared → Nat → Prop} (hc : Wc p w n₀ ann c (fun f s₁ n => Wt p w n₀ ann (k (.ok f)) (fun a s' m => Q a s' (1 + (n + m))) s₁) s) : Wt p w n₀ ann (.call c h g l k) Q s := by
  obtain ⟨f, s₁, n, ⟨a, s₂, m, q, g₂⟩, g₁⟩ := hc
  refine ⟨a, s₂, 1 + (n + m), q, fun K H gd lv code pos fr st => ?_⟩
  obtain ⟨p₂, e₂⟩ := g₂ K H gd lv code pos fr st
  refine ⟨p₂, ?_⟩
  obtain ⟨heap, gens, drawn, toks, os⟩ := s
  obtain ⟨kept, hk⟩ : ∃ kept, step (denote treeTable) p w ⟨heap, gens, drawn, toks, os⟩ ⟨(Sem.call c h g l k).wrap K H gd lv, code, pos, fr :: st⟩ =
      .go ⟨heap, gens, drawn, toks, os⟩ ⟨denote treeTable c, c, pos, .ret (fun r => (k r).wrap K H gd lv) h (gd g) (lv l) code pos kept :: fr :: st⟩ := ⟨_, rfl⟩
  exact Goes.trans (Goes.one rfl rfl hk) ((g₁ pos (fun r => (k r).wrap K H gd lv) h (gd g) (lv l) code pos kept (fr :: st)).trans e₂)

theorem calm_again {c' c : Code} {q : Pos} {st : List Frame} (h : c'.quiet = true) : stepOk n₀ ann ⟨.pure (.again c'), c, q, st⟩ = true := by
  show (Thread.calm ⟨.pure (.again c'), c, q, st⟩ && true) = true
  rw [Bool.and_true, Thread.calm_eq, Thread.loud_again, h]
  rfl
theorem Wc_of {c : Code} {R : Flow → Shared → Nat → Prop} (h : Wt p w n₀ ann (denote treeTable c) (fun fin s' n => match fin with | .done f => R f s' (n + 1) | .again c' => c'.quiet = true ∧ Wc p w n₀ ann c' (fun f s'' m => R f s'' (n + (1 + m))) s') s) : Wc p w n₀ ann c R s := by
  obtain ⟨fin, s₁, n, q, g⟩ := h
  cases fin with
  | done f =>
    refine ⟨f, s₁, n + 1, q, fun pos k hd gg l cd qq kept st => ?_⟩
    obtain ⟨p₁, e₁⟩ := g .pure .raise id id c pos (.ret k hd gg l cd qq kept) st
    rw [wrap_self] at e₁
    refine e₁.trans (Goes.one rfl rfl ?_)
    obtain ⟨heap, gens, drawn, toks, os⟩ := s₁
    rfl
  | again c' =>
    obtain ⟨hq, f, s₂, m, hR, g₂⟩ := q
    refine ⟨f, s₂, n + (1 + m), hR, fun pos k hd gg l cd qq kept st => ?_⟩
    obtain ⟨p₁, e₁⟩ := g .pure .raise id id c pos (.ret k hd gg l cd qq kept) st
    rw [wrap_self] at e₁
    refine e₁.trans (Goes.trans (Goes.one rfl (calm_again hq) ?_) (g₂ p₁ k hd gg l cd qq (keptBy c c' l kept) st))
    obtain ⟨heap, gens, drawn, toks, os⟩ := s₁
    exact step_again
end
end Mine
end PartD1
section PartD2
namespace Mine
open PySem PySem.W PySem.Calls PyProof.Rows

theorem check_int_hash (k : Int) (t : Tok) : checkBuiltinCall "int.__hash__" ⟨[.int k t], []⟩ = pure () := by kernel_rfl
theorem body_int_hash (k : Int) (t : Tok) : Builtin.«int.__hash__» ⟨[.int k t], []⟩ = (do ret (← mkInt (rawHash k))) := rfl
theorem tree_entry {id : String} {b : Builtin} (h : entryFor table id = some b) : entryFor treeTable id = some b := by rw [← table_eq_tree]; exact h

section
variable {p : Program} {w : World} {n₀ : Nat} {ann : Option Value} {s : Shared}

theorem Wt_call_builtin {id : String} {b : Builtin} {args : List Value} {Q : Value → Shared → Nat → Prop} (hq : plainId id = true) (hb : entryFor table id = some b) (hc : checkBuiltinCall id ⟨args, []⟩ = pure ())
    (h : Wt p w n₀ ann (b ⟨args, []⟩) (fun fin s' n => ∃ v, fin = .done (.ret v) ∧ ∀ m, m ≤ n + 10 → Q v s' m) s) : Wt p w n₀ ann (call (.builtin id) args) Q s := by
  show Wt p w n₀ ann (runValue _) Q s
  unfold runValue
  refine Wt_bind ?_
  unfold run
  refine Wt_call (Wc_of ?_)
  show Wt p w n₀ ann (do checkBuiltinCall id ⟨args, []⟩; again (.builtin id ⟨args, []⟩)) _ s
  rw [hc]
  refine Wt_bind (Wt_pure (Wt_pure ⟨plainId_quiet hq _, Wc_of ?_⟩))
  show Wt p w n₀ ann (match entryFor treeTable id with | some b => b ⟨args, []⟩ | none => unsupported ((withoutEnding? id "#data").getD id)) _ s
  rw [tree_entry hb]
  refine h.mono ?_
  rintro fin s' n ⟨v, rfl, hv⟩
  exact Wt_pure (Wt_pure (hv _ (by omega)))

theorem Wt_pyHash_int {k : Int} {t : Tok} {Q : Int → Shared → Nat → Prop} (h : ∀ n, n ≤ 50 → Q (hashInt k) { s with toks := s.toks + 1 } n) : Wt p w n₀ ann (pyHash (.int k t)) Q s := by
  have hr := rawHash_range k
  have hs : specialOf (.int k t) "__hash__" = pure (some (.builtin "int.__hash__")) := slot_int_hash.lookup
  unfold pyHash
  show Wt p w n₀ ann (pyHashByItsType (.int k t)) Q s
  unfold pyHashByItsType
  refine Wt_bind ?_
  rw [cRoomFor, if_neg (by exact Bool.false_ne_true)]
  refine Wt_pure ?_
  rw [hs]
  refine Wt_bind (Wt_pure ?_)
  rw [if_neg (by rw [beq_builtin_none]; exact Bool.false_ne_true)]
  refine Wt_bind (Wt_pure ?_)
  show Wt p w n₀ ann (callSpecialIfBoundUnlessNone? (.int k t) "__hash__" _ >>= _) _ s
  refine Wt_bind ?_
  unfold callSpecialIfBoundUnlessNone?
  refine Wt_holding (Wt_bind ?_)
  unfold bindSpecialIfBound?
  rw [hs]
  refine Wt_bind (Wt_pure ?_)
  refine Wt_bind (Wt_ask (Wt_pure ?_))
  have hb : bindSpecial (.builtin "int.__hash__") (.int k t) = pure (.builtin "int.__hash__", [.int k t]) := slot_int_hash.bind _
  have body : Wt p w n₀ ann (call (.builtin "int.__hash__") [.int k t] >>= fun x => pure (some x)) (fun a s' n => a = some (.int (rawHash k) s.toks) ∧ s' = { s with toks := s.toks + 1 } ∧ n ≤ 20) s := by
    refine Wt_bind (Wt_call_builtin slot_int_hash.plain entry_int_hash (check_int_hash k t) ?_)
    rw [body_int_hash]
    exact Wt_bind (Wt_bind (Wt_fresh (Wt_pure (Wt_pure (Wt_pure ⟨_, rfl, fun m hm => Wt_pure ⟨rfl, rfl, by omega⟩⟩)))))
  dsimp only
  rw [hb]
  split
  all_goals (
    first | refine Wt_tryCatch ?_ | skip
    refine Wt_bind (Wt_pure (Wt_pure ?_))
    dsimp only
    rw [if_neg (by intro e; exact absurd e (by decide))]
    refine body.mono ?_
    rintro r s' n ⟨rfl, rfl, hn⟩
    show Wt p w n₀ ann (if (decide (-(2 : Int) ^ 63 ≤ rawHash k) && decide (rawHash k < 2 ^ 63)) = true then _ else _) _ _
    rw [if_pos (by rw [decide_eq_true hr.1, decide_eq_true hr.2]; rfl)]
    exact Wt_pure (h _ (by omega)))

/-- entries with int keys -/
noncomputable def Keyed (l : List DictEntry) : Prop := ∀ e ∈ l, ∃ k t, e.key = .int k t
noncomputable def fresh4 (k : Int) (l : List DictEntry) : Prop := ∀ e ∈ l, e.hash ≠ hashInt k

theorem places_nil {l : List DictEntry} {h : Int} (hf : ∀ e ∈ l, e.hash ≠ h) : placesWithHash l.toArray.size (fun i => l.toArray[i]?.map (·.hash)) h = [] := by
  unfold placesWithHash
  rw [List.filter_eq_nil_iff]
  intro i _ hi
  dsimp only at hi
  cases e : l.toArray[i]? with
  | none => rw [e] at hi; simp at hi
  | some x =>
    rw [e] at hi
    have : x ∈ l := by simpa using Array.mem_of_getElem? e
    exact hf x this (by simpa using hi)

noncomputable abbrev dictO (l : List DictEntry) (n : Nat) : Obj := { cls := .type "dict", data := .dict l.toArray n }

theorem Wt_loadPart {a : Addr} {q : Option Value} {o : Obj} {Q : Obj → Shared → Nat → Prop} (ho : s.heap.get? a = some o) (h : Q o s 1) : Wt p w n₀ ann (loadPart a q) Q s := Wt_load ho (Wt_pure h)
theorem Wt_dictEntries {a : Addr} {q : Option Value} {l : List DictEntry} {n : Nat} {Q : Array DictEntry → Shared → Nat → Prop} (ho : s.heap.get? a = some (dictO l n)) (h : Q l.toArray s 1) : Wt p w n₀ ann (dictEntries a q) Q s := by
  unfold dictEntries
  exact Wt_bind (Wt_loadPart ho (Wt_pure h))
theorem Wt_dictEpoch {a : Addr} {q : Option Value} {l : List DictEntry} {n : Nat} {Q : Nat → Shared → Nat → Prop} (ho : s.heap.get? a = some (dictO l n)) (h : Q n s 1) : Wt p w n₀ ann (dictEpoch a q) Q s := by
  unfold dictEpoch
  exact Wt_bind (Wt_loadPart ho (Wt_pure h))

theorem Wt_dictFind {d : Addr} {l : List DictEntry} {n : Nat} {k : Int} {t : Tok} {h : Int} {Q : Option Nat → Shared → Nat → Prop} (ho : s.heap.get? d = some (dictO l n)) (hf : ∀ e ∈ l, e.hash ≠ h) (hQ : ∀ n, n ≤ 10 → Q none s n) :
    Wt p w n₀ ann (dictFind d (.int k t) h) Q s := by
  unfold dictFind
  refine Wt_holding (Wt_bind (Wt_dictEntries ho ?_))
  dsimp only
  rw [places_nil hf]
  rw [if_pos (by rfl)]
  unfold dictWalkPlain
  exact Wt_bind (Wt_pure (Wt_pure (hQ _ (by omega))))

theorem Wt_updateDictKeys {d : Addr} {q : Option Value} {l : List DictEntry} {n : Nat} {e : DictEntry} {Q : Unit → Shared → Nat → Prop} (hn : n₀ ≤ d) (ho : s.heap.get? d = some (dictO l n)) (hz : l.length ≤ sizeLine)
    (hh : (s.heap.update d (Obj.mapDictKeys (·.push e))).get? d = some (dictO (l ++ [e]) (n + 1)))
    (h : ∀ n, n ≤ 10 → Q () { s with heap := s.heap.update d (Obj.mapDictKeys (·.push e)) } n) : Wt p w n₀ ann (updateDictKeys d (·.push e) q) Q s := by
  unfold updateDictKeys
  refine Wt_bind (Wt_loadPart ho ?_)
  dsimp only
  refine Wt_bind (Wt_update hn ho (Wt_pure ?_))
  unfold lookBehind
  refine Wt_bind (Wt_loadPart hh ?_)
  have : Data.pastItsLine (dictO (l ++ [e]) (n + 1)).data = none := by
    show (if (l ++ [e]).toArray.size > sizeLine + 1 then some "dict:memory" else none) = none
    rw [if_neg (by simp only [List.size_toArray, List.length_append, List.length_singleton]; omega)]
  rw [this]
  exact Wt_pure (h _ (by omega))

/-- a heap and more objects behind it -/
noncomputable def app (h0 : Heap) (l : List Obj) : Heap := ⟨h0.objs ++ l.toArray, h0.life⟩
theorem app_size (h0 : Heap) (l : List Obj) : (app h0 l).objs.size = h0.objs.size + l.length := by simp [app]
theorem app_push (h0 : Heap) (l : List Obj) (o : Obj) : (app h0 l).push o = app h0 (l ++ [o]) := by
  show Heap.mk _ _ = Heap.mk _ _
  rw [show (h0.objs ++ l.toArray).push o = h0.objs ++ (l ++ [o]).toArray from by simp]
theorem app_at (h0 : Heap) (l : List Obj) (i : Nat) : (app h0 l).objs[h0.objs.size + i]? = l[i]? := by
  show (h0.objs ++ l.toArray)[h0.objs.size + i]? = _
  rw [Array.getElem?_append_right (Nat.le_add_right ..)]
  simp
theorem app_get {h0 : Heap} {l : List Obj} {i : Nat} {es : List DictEntry} {n : Nat} (e : l[i]? = some (dictO es n)) : (app h0 l).get? (h0.objs.size + i) = some (dictO es n) := by
  unfold Heap.get?
  rw [app_at, e]
theorem app_update {h0 : Heap} {l : List Obj} {i : Nat} {f : Obj → Obj} : (app h0 l).update (h0.objs.size + i) f = app h0 (l.modify i f) := by
  show Heap.mk _ _ = Heap.mk _ _
  congr 1
  show (h0.objs ++ l.toArray).modify _ _ = h0.objs ++ (l.modify i f).toArray
  apply Array.ext_getElem?
  intro j
  rw [Array.getElem?_modify]
  by_cases hj : j < h0.objs.size
  · rw [Array.getElem?_append_left hj, Array.getElem?_append_left hj, if_neg (by omega)]
  · have hj' : h0.objs.size ≤ j := Nat.le_of_not_lt hj
    rw [Array.getElem?_append_right hj', Array.getElem?_append_right hj']
    simp only [List.getElem?_toArray, List.getElem?_modify]
    by_cases hi : h0.objs.size + i = j
    · rw [if_pos hi]; have : i = j - h0.objs.size := by omega
      simp [this]
    · rw [if_neg hi]; have : ¬ i = j - h0.objs.size := by omega
      simp [this]

theorem Wt_push {h0 : Heap} {l : List Obj} {i : Nat} {es : List DictEntry} {n : Nat} {e : DictEntry} {q : Option Value} {Q : Unit → Shared → Nat → Prop} {gens : Array GenState} {dr : Drawn} {tk : Nat} {os : OsState}
    (hn : n₀ ≤ h0.objs.size) (hi : l[i]? = some (dictO es n)) (hz : es.length ≤ sizeLine) (h : ∀ m, m ≤ 10 → Q () ⟨app h0 (l.set i (dictO (es ++ [e]) (n + 1))), gens, dr, tk, os⟩ m) :
    Wt p w n₀ ann (updateDictKeys (h0.objs.size + i) (·.push e) q) Q ⟨app h0 l, gens, dr, tk, os⟩ := by
  have hm : l.modify i (Obj.mapDictKeys (·.push e)) = l.set i (dictO (es ++ [e]) (n + 1)) := by
    apply List.ext_getElem?
    intro j
    rw [List.getElem?_modify, List.getElem?_set]
    by_cases hj : i = j
    · subst hj
      have hlt : i < l.length := by
        rcases Nat.lt_or_ge i l.length with q | q
        · exact q
        · rw [List.getElem?_eq_none q] at hi; cases hi
      rw [hi, if_pos rfl, if_pos hlt]
      show some _ = some _
      simp [Obj.mapDictKeys]
    · rw [if_neg hj]; simp [hj]
  have hu : (app h0 l).update (h0.objs.size + i) (Obj.mapDictKeys (·.push e)) = app h0 (l.set i (dictO (es ++ [e]) (n + 1))) := by rw [app_update, hm]
  have hlt : i < l.length := by
    rcases Nat.lt_or_ge i l.length with q | q
    · exact q
    · rw [List.getElem?_eq_none q] at hi; cases hi
  refine Wt_updateDictKeys (Nat.le_trans hn (Nat.le_add_right ..)) (app_get hi) hz ?_ ?_
  · show ((app h0 l).update (h0.objs.size + i) _).get? _ = _
    rw [hu]
    exact app_get (by rw [List.getElem?_set_self hlt])
  · intro m hm
    show Q () ⟨(app h0 l).update (h0.objs.size + i) _, gens, dr, tk, os⟩ m
    rw [hu]; exact h m hm

theorem Wt_dictSet {h0 : Heap} {l : List Obj} {i : Nat} {es : List DictEntry} {n : Nat} {k : Int} {t : Tok} {v : Value} {Q : Unit → Shared → Nat → Prop} {gens : Array GenState} {dr : Drawn} {tk : Nat} {os : OsState}
    (hn : n₀ ≤ h0.objs.size) (hi : l[i]? = some (dictO es n)) (hz : es.length ≤ sizeLine) (hf : fresh4 k es)
    (h : ∀ m, m ≤ 100 → Q () ⟨app h0 (l.set i (dictO (es ++ [⟨hashInt k, .int k t, v⟩]) (n + 1))), gens, dr, tk + 1, os⟩ m) :
    Wt p w n₀ ann (dictSet (h0.objs.size + i) (.int k t) v) Q ⟨app h0 l, gens, dr, tk, os⟩ := by
  unfold dictSet
  refine Wt_holding (Wt_bind (Wt_pyHash_int fun n1 hn1 => ?_))
  unfold dictSetHashed
  refine Wt_holding (Wt_bind (Wt_dictFind (app_get hi) hf fun n2 hn2 => ?_))
  exact Wt_bind (Wt_rule (Wt_pure (Wt_push hn hi hz fun m hm => h _ (by omega))))

theorem Wt_dictPut {h0 : Heap} {l : List Obj} {i : Nat} {es : List DictEntry} {n : Nat} {k : Int} {t : Tok} {v : Value} {hh : Int} {Q : Unit → Shared → Nat → Prop} {gens : Array GenState} {dr : Drawn} {tk : Nat} {os : OsState}
    (hn : n₀ ≤ h0.objs.size) (hi : l[i]? = some (dictO es n)) (hz : es.length ≤ sizeLine) (hf : ∀ e ∈ es, e.hash ≠ hh)
    (h : ∀ m, m ≤ 50 → Q () ⟨app h0 (l.set i (dictO (es ++ [⟨hh, .int k t, v⟩]) (n + 1))), gens, dr, tk, os⟩ m) :
    Wt p w n₀ ann (dictPut (h0.objs.size + i) hh (.int k t) v) Q ⟨app h0 l, gens, dr, tk, os⟩ := by
  unfold dictPut
  exact Wt_bind (Wt_dictFind (app_get hi) hf fun n2 hn2 => Wt_push hn hi hz fun m hm => h _ (by omega))

theorem Wt_forIn {γ β : Type} {f : γ → β → Sem (ForInStep β)} {Q : β → Shared → Nat → Prop} (bd : Nat) (I : List γ → β → Shared → Prop)
    (step : ∀ x rest b s, I (x :: rest) b s → Wt p w n₀ ann (f x b) (fun r s' n => n ≤ bd ∧ ∃ b', r = .yield b' ∧ I rest b' s') s) :
    ∀ xs b s, I xs b s → (∀ b s n, n ≤ bd * xs.length → I [] b s → Q b s n) → Wt p w n₀ ann (forIn xs b f) Q s
  | [], b, s, h, done => by rw [List.forIn_nil]; exact Wt_pure (done b s 0 (Nat.zero_le _) h)
  | x :: rest, b, s, h, done => by
    rw [List.forIn_cons]
    refine Wt_bind ((step x rest b s h).mono ?_)
    rintro r s' n ⟨hn, b', rfl, h'⟩
    exact Wt_forIn bd I step rest b' s' h' fun b s m hm hi => done b s _ (by rw [List.length_cons, Nat.mul_succ]; omega) hi

/-- a key's and a value's tree, the two constants -/
noncomputable abbrev kT (k : Int) : Sem Value := mkInt k
noncomputable abbrev vT (pos : Pos) (v : Str) : Sem Value := do let x ← mkText v; standAt pos; pure x
noncomputable abbrev pairsOf (pos : Pos) (L : List (Int × Str)) : List (Sem Value × Sem Value) := L.map fun x => (kT x.1, vT pos x.2)
noncomputable abbrev itemsOf (pos : Pos) (L : List (Int × Str)) : List (Option (Sem Value) × Sem Value) := L.map fun x => (some (kT x.1), vT pos x.2)

noncomputable def ent (t : Nat) (x : Int × Str) : DictEntry := ⟨hashInt x.1, .int x.1 t, .str x.2 (t + 1)⟩
noncomputable def ents3 : Nat → List (Int × Str) → List DictEntry
  | _, [] => []
  | t, x :: r => ent t x :: ents3 (t + 3) r
noncomputable def ents2 : Nat → List (Int × Str) → List DictEntry
  | _, [] => []
  | t, x :: r => ent t x :: ents2 (t + 2) r
noncomputable def hashes (L : List (Int × Str)) : List Int := L.map fun x => hashInt x.1
theorem ents3_hash : ∀ (t : Nat) (L : List (Int × Str)), (ents3 t L).map (·.hash) = hashes L
  | _, [] => rfl
  | t, x :: r => by show _ :: _ = _ :: _; rw [ents3_hash (t + 3) r]; rfl
theorem ents2_hash : ∀ (t : Nat) (L : List (Int × Str)), (ents2 t L).map (·.hash) = hashes L
  | _, [] => rfl
  | t, x :: r => by show _ :: _ = _ :: _; rw [ents2_hash (t + 2) r]; rfl
theorem ents3_len (t : Nat) (L : List (Int × Str)) : (ents3 t L).length = L.length := by
  have := congrArg List.length (ents3_hash t L); simpa [hashes] using this
theorem ents2_len (t : Nat) (L : List (Int × Str)) : (ents2 t L).length = L.length := by
  have := congrArg List.length (ents2_hash t L); simpa [hashes] using this

theorem fresh_of {k : Int} {es : List DictEntry} (h : hashInt k ∉ es.map (·.hash)) : fresh4 k es := fun e he q => h (q ▸ List.mem_map_of_mem he)

/-- the long sub-dict: key, value, store, one after the other -/
theorem Wt_subLong {h0 : Heap} {pos : Pos} {l : List Obj} {L : List (Int × Str)} {Q : Addr → Shared → Nat → Prop} {gens : Array GenState} {dr : Drawn} {tk : Nat} {os : OsState}
    (hn : n₀ ≤ h0.objs.size) (h15 : ¬ L.length ≤ 15) (hL : L.length ≤ 100) (nd : (hashes L).Nodup)
    (h : ∀ m, m ≤ 30000 → Q (h0.objs.size + l.length) ⟨app h0 (l ++ [dictO (ents3 tk L) L.length]), gens, dr, tk + 3 * L.length, os⟩ m) :
    Wt p w n₀ ann (subDict (pairsOf pos L)) Q ⟨app h0 l, gens, dr, tk, os⟩ := by
  unfold subDict
  refine Wt_bind (Wt_alloc (Wt_pure ?_))
  have e : (app h0 l).objs.size = h0.objs.size + l.length := app_size h0 l
  dsimp only
  rw [e, app_push]
  refine Wt_bind (Wt_holding ?_)
  rw [if_neg (by simpa using h15)]
  refine Wt_bind (Wt_rule (Wt_pure (Wt_bind ?_)))
  refine Wt_forIn 200 (fun rest _ s => ∃ L', rest = pairsOf pos L' ∧ ∃ es t, es.map (·.hash) ++ hashes L' = hashes L ∧ es ++ ents3 t L' = ents3 tk L ∧ t + 3 * L'.length = tk + 3 * L.length ∧
    s = ⟨app h0 (l ++ [dictO es es.length]), gens, dr, t, os⟩) ?_ _ _ _ ⟨L, rfl, [], tk, rfl, rfl, rfl, rfl⟩ ?_
  · rintro x rest b s ⟨L', hr, es, t, h1, h2, h3, rfl⟩
    cases L' with
    | nil => cases hr
    | cons y L' =>
      simp only [pairsOf, List.map_cons, List.cons.injEq] at hr
      obtain ⟨rfl, rfl⟩ := hr
      have hlen : es.length + (L'.length + 1) = L.length := by
        have := congrArg List.length h1
        simpa [hashes] using this
      have hnd : hashInt y.1 ∉ es.map (·.hash) := by
        intro q
        rw [← h1] at nd
        have := (List.nodup_append.mp nd).2.2 _ q (hashInt y.1) (by simp [hashes])
        exact this rfl
      refine Wt_bind (Wt_fresh (Wt_pure (Wt_bind (Wt_holding (Wt_bind (Wt_fresh (Wt_pure (Wt_bind (Wt_at (Wt_pure (Wt_pure ?_)))))))))))
      refine Wt_bind (Wt_holding ?_)
      refine Wt_dictSet hn (es := es) (n := es.length) (by simp) (by rw [sizeLine_eq]; omega) (fresh_of hnd) (fun m hm => Wt_pure ⟨by omega, _, rfl, L', rfl, es ++ [ent t y], t + 3, ?_, ?_, ?_, ?_⟩)
      · rw [← h1]; simp [hashes, ent]
      · rw [← h2]; simp [ents3]
      · simp only [List.length_cons] at h3; omega
      · show Shared.mk _ _ _ _ _ = Shared.mk _ _ _ _ _
        congr 2
        rw [List.set_append_right _ _ (Nat.le_refl _)]
        simp [ent]
  · rintro b s m hm ⟨L', hr, es, t, h1, h2, h3, rfl⟩
    cases L' with
    | cons y L' => cases hr
    | nil =>
      simp only [ents3, List.append_nil] at h2
      have hl : es.length = L.length := by rw [h2, ents3_len]
      simp only [List.length_nil, Nat.mul_zero, Nat.add_zero] at h3
      refine Wt_pure (Wt_pure ?_)
      rw [h2, ents3_len, h3]
      simp only [List.length_map] at hm
      exact h _ (by omega)

theorem sub_dict_dict : isSubtype (.type "dict") (.type "dict") = pure true := by rw [isSubtype_type]; kernel_rfl
theorem look_dict_iter : typeLookup (.type "dict") "__iter__" = pure (some (.builtin "dict.__iter__")) := by rw [typeLookup_type, builtinLookup_eq_fast]; kernel_rfl
theorem Wt_typeOf_dict {a : Addr} {es : List DictEntry} {n : Nat} {Q : Value → Shared → Nat → Prop} (ho : s.heap.get? a = some (dictO es n)) (h : ∀ m, m ≤ 2 → Q (.type "dict") s m) : Wt p w n₀ ann (typeOf (.ref a)) Q s :=
  Wt_bind (Wt_load ho (Wt_pure (Wt_pure (h _ (by omega)))))

theorem Wt_merge {h0 : Heap} {l : List Obj} {j : Nat} {es ds : List DictEntry} {n m : Nat} {Q : Unit → Shared → Nat → Prop} {gens : Array GenState} {dr : Drawn} {tk : Nat} {os : OsState}
    (hn : n₀ ≤ h0.objs.size) (hs : 1 < n₀) (hi : l[0]? = some (dictO es n)) (hj : l[j]? = some (dictO ds m)) (hj0 : j ≠ 0) (hne : es ≠ []) (hz : es.length + ds.length ≤ 2000) (hk : Keyed ds)
    (nd : (es.map (·.hash) ++ ds.map (·.hash)).Nodup) (hq : ∀ e ∈ ds, ∃ k t, e.key = .int k t ∧ e.hash = hashInt k)
    (h : ∀ m, m ≤ 300000 → Q () ⟨app h0 (l.set 0 (dictO (es ++ ds) (n + ds.length))), gens, dr, tk, os⟩ m) :
    Wt p w n₀ ann (mergeMapping h0.objs.size (.ref (h0.objs.size + j)) false) Q ⟨app h0 l, gens, dr, tk, os⟩ := by
  have ga : (app h0 l).get? (h0.objs.size + j) = some (dictO ds m) := app_get hj
  have gd : (app h0 l).get? h0.objs.size = some (dictO es n) := app_get (i := 0) hi
  unfold mergeMapping
  refine Wt_bind (Wt_bind (Wt_typeOf_dict ga fun n1 hn1 => ?_))
  rw [sub_dict_dict]
  refine Wt_pure ?_
  dsimp only
  rw [if_pos rfl]
  refine Wt_bind (Wt_bind (Wt_typeOf_dict ga fun n2 hn2 => ?_))
  rw [look_dict_iter]
  refine Wt_pure (Wt_bind (Wt_pure ?_))
  rw [show (some (Value.builtin "dict.__iter__") == some (Value.builtin "dict.__iter__")) = true from by simp]
  dsimp only
  have hsys : (h0.objs.size + j == sysModules) = false := by
    rw [beq_eq_false_iff_ne]
    show h0.objs.size + j ≠ 1
    omega
  rw [if_neg (by rw [hsys]; exact Bool.false_ne_true)]
  refine Wt_bind (Wt_dictEntries gd ?_)
  rw [if_neg (by simpa using hne)]
  refine Wt_bind (Wt_dictEntries ga ?_)
  refine Wt_bind (Wt_dictEpoch ga ?_)
  refine Wt_bind ?_
  refine Wt_forIn 100 (fun rest _ s => ∃ i, rest = List.range' i (ds.length - i) ∧ i ≤ ds.length ∧ s = ⟨app h0 (l.set 0 (dictO (es ++ ds.take i) (n + i))), gens, dr, tk, os⟩) ?_ _ _ _
    ⟨0, by simp [List.range_eq_range'], Nat.zero_le _, by
      rw [List.take_zero, List.append_nil, Nat.add_zero]
      congr 2
      apply List.ext_getElem?
      intro q
      rw [List.getElem?_set]
      by_cases hq0 : 0 = q
      · subst hq0
        rw [if_pos rfl, hi, if_pos]
        rcases Nat.lt_or_ge 0 l.length with z | z
        · exact z
        · rw [List.getElem?_eq_none z] at hi; cases hi
      · rw [if_neg hq0]⟩ ?_
  · rintro x rest b s ⟨i, hr, hle, rfl⟩
    have hlt : i < ds.length := by
      rcases Nat.lt_or_ge i ds.length with z | z
      · exact z
      · rw [show ds.length - i = 0 by omega] at hr; simp at hr
    have hr' : x = i ∧ rest = List.range' (i + 1) (ds.length - (i + 1)) := by
      rw [show ds.length - i = (ds.length - (i + 1)) + 1 by omega, List.range'_succ] at hr
      simpa using hr
    obtain ⟨rfl, rfl⟩ := hr'
    have l0 : 0 < l.length := by
      rcases Nat.lt_or_ge 0 l.length with z | z
      · exact z
      · rw [List.getElem?_eq_none z] at hi; cases hi
    have gj : (l.set 0 (dictO (es ++ ds.take x) (n + x)))[j]? = some (dictO ds m) := by
      rw [List.getElem?_set, if_neg (Ne.symm hj0)]; exact hj
    have g0 : (l.set 0 (dictO (es ++ ds.take x) (n + x)))[0]? = some (dictO (es ++ ds.take x) (n + x)) := by
      rw [List.getElem?_set, if_pos rfl, if_pos l0]
    refine Wt_bind (Wt_dictEntries (app_get gj) ?_)
    have hx : ds.toArray[x]? = some ds[x] := by simp [hlt]
    rw [hx]
    dsimp only
    obtain ⟨k, t, hk1, hk2⟩ := hq ds[x] (List.getElem_mem hlt)
    refine Wt_bind (Wt_holding ?_)
    rw [if_neg (by exact Bool.false_ne_true), hk1]
    have hnew : ∀ e ∈ es ++ ds.take x, e.hash ≠ ds[x].hash := by
      intro e he q
      rcases List.mem_append.mp he with z | z
      · exact (List.nodup_append.mp nd).2.2 _ (List.mem_map_of_mem z) _ (List.mem_map_of_mem (List.getElem_mem hlt)) q
      · have n2 := (List.nodup_append.mp nd).2.1
        obtain ⟨i', hi', e'⟩ := List.mem_iff_getElem.mp z
        rw [List.length_take] at hi'
        rw [List.getElem_take] at e'
        have := List.pairwise_iff_getElem.mp n2 i' x (by simp; omega) (by simp [hlt]) (by omega)
        simp only [List.getElem_map] at this
        exact this (by rw [e', q])
    refine Wt_dictPut (i := 0) hn g0 (by rw [sizeLine_eq, List.length_append, List.length_take]; omega) hnew fun m hm => ?_
    refine Wt_bind (Wt_dictEpoch (app_get (i := j) (by rw [List.getElem?_set, if_neg (Ne.symm hj0)]; exact gj)) ?_)
    rw [if_neg (by simp)]
    refine Wt_pure ⟨by omega, _, rfl, x + 1, rfl, hlt, ?_⟩
    congr 2
    rw [List.set_set, List.append_assoc, ← List.take_append_getElem hlt, ← hk1]
    rfl
  · rintro b s m hm ⟨i, hr, hle, rfl⟩
    have : i = ds.length := by
      have := congrArg List.length hr
      simp at this
      omega
    subst this
    rw [List.take_length]
    simp only [List.length_range, List.size_toArray] at hm
    exact Wt_pure (h _ (by omega))

noncomputable def vals2 : Nat → List (Int × Str) → List (Value × Value)
  | _, [] => []
  | t, x :: r => (.int x.1 t, .str x.2 (t + 1)) :: vals2 (t + 2) r
theorem vals2_len : ∀ (t : Nat) (L : List (Int × Str)), (vals2 t L).length = L.length
  | _, [] => rfl
  | t, x :: r => by show _ + 1 = _ + 1; rw [vals2_len]
theorem Wt_evalPairs {pos : Pos} : ∀ (L : List (Int × Str)) {Q : List (Value × Value) → Shared → Nat → Prop} (s : Shared), (∀ m, m ≤ 20 * L.length → Q (vals2 s.toks L) { s with toks := s.toks + 2 * L.length } m) → Wt p w n₀ ann (evalPairs (pairsOf pos L)) Q s
  | [], Q, s, h => by exact Wt_pure (h 0 (Nat.le_refl _))
  | y :: L, Q, s, h => by
    show Wt p w n₀ ann (evalPairs ((kT y.1, vT pos y.2) :: pairsOf pos L)) Q s
    rw [evalPairs]
    refine Wt_bind (Wt_fresh (Wt_pure (Wt_bind (Wt_holding (Wt_bind (Wt_fresh (Wt_pure (Wt_bind (Wt_at (Wt_pure (Wt_pure ?_)))))))))))
    refine Wt_bind (Wt_holding (Wt_evalPairs L _ fun m hm => Wt_pure ?_))
    simp only [List.length_cons] at h
    rw [show s.toks + 2 * (L.length + 1) = s.toks + 1 + 1 + 2 * L.length by omega] at h
    exact h _ (by omega)

theorem Wt_subShort {h0 : Heap} {pos : Pos} {l : List Obj} {L : List (Int × Str)} {Q : Addr → Shared → Nat → Prop} {gens : Array GenState} {dr : Drawn} {tk : Nat} {os : OsState}
    (hn : n₀ ≤ h0.objs.size) (h15 : L.length ≤ 15) (nd : (hashes L).Nodup)
    (h : ∀ m, m ≤ 30000 → Q (h0.objs.size + l.length) ⟨app h0 (l ++ [dictO (ents2 tk L) L.length]), gens, dr, tk + 3 * L.length, os⟩ m) :
    Wt p w n₀ ann (subDict (pairsOf pos L)) Q ⟨app h0 l, gens, dr, tk, os⟩ := by
  unfold subDict
  refine Wt_bind (Wt_alloc (Wt_pure ?_))
  have e : (app h0 l).objs.size = h0.objs.size + l.length := app_size h0 l
  dsimp only
  rw [e, app_push]
  refine Wt_bind (Wt_holding ?_)
  rw [if_pos (by simpa using h15)]
  refine Wt_bind (Wt_evalPairs L _ fun n1 hn1 => Wt_holding (Wt_bind ?_))
  refine Wt_forIn 200 (fun rest _ s => ∃ L' t, rest = vals2 t L' ∧ ∃ es, es.map (·.hash) ++ hashes L' = hashes L ∧ es ++ ents2 t L' = ents2 tk L ∧
    s = ⟨app h0 (l ++ [dictO es es.length]), gens, dr, tk + 2 * L.length + es.length, os⟩) ?_ _ _ _ ⟨L, tk, rfl, [], rfl, rfl, rfl⟩ ?_
  · rintro x rest b s ⟨L', t, hr, es, h1, h2, rfl⟩
    cases L' with
    | nil => cases hr
    | cons y L' =>
      simp only [vals2, List.cons.injEq] at hr
      obtain ⟨rfl, rfl⟩ := hr
      have hlen : es.length + (L'.length + 1) = L.length := by
        have := congrArg List.length h1
        simpa [hashes] using this
      have hnd : hashInt y.1 ∉ es.map (·.hash) := by
        intro q
        rw [← h1] at nd
        exact (List.nodup_append.mp nd).2.2 _ q (hashInt y.1) (by simp [hashes]) rfl
      refine Wt_bind (Wt_dictSet hn (es := es) (n := es.length) (by simp) (by rw [sizeLine_eq]; omega) (fresh_of hnd) (fun m hm => Wt_pure ⟨by omega, _, rfl, L', t + 2, rfl, es ++ [ent t y], ?_, ?_, ?_⟩))
      · rw [← h1]; simp [hashes, ent]
      · rw [← h2]; simp [ents2]
      · rw [show tk + 2 * L.length + (es ++ [ent t y]).length = tk + 2 * L.length + es.length + 1 by simp only [List.length_append, List.length_singleton]; omega]
        congr 2
        rw [List.set_append_right _ _ (Nat.le_refl _)]
        simp [ent]
  · rintro b s m hm ⟨L', t, hr, es, h1, h2, rfl⟩
    cases L' with
    | cons y L' => cases hr
    | nil =>
      simp only [ents2, List.append_nil] at h2
      have hl : es.length = L.length := by rw [h2, ents2_len]
      have hv : (vals2 tk L).length = L.length := vals2_len tk L
      rw [show (vals2 (Shared.toks ⟨app h0 (l ++ [dictO [] 0]), gens, dr, tk, os⟩) L).length = L.length from hv] at hm
      refine Wt_pure (Wt_pure ?_)
      rw [h2, ents2_len, show tk + 2 * L.length + L.length = tk + 3 * L.length by omega]
      exact h _ (by omega)

theorem ents3_append : ∀ (t : Nat) (a b : List (Int × Str)), ents3 t (a ++ b) = ents3 t a ++ ents3 (t + 3 * a.length) b
  | t, [], b => rfl
  | t, x :: a, b => by
    show _ :: ents3 (t + 3) (a ++ b) = _ :: _
    rw [ents3_append (t + 3) a b, List.length_cons, show t + 3 * (a.length + 1) = t + 3 + 3 * a.length by omega]
    rfl
theorem ents3_keys : ∀ (t : Nat) (L : List (Int × Str)), ∀ e ∈ ents3 t L, ∃ k u, e.key = .int k u ∧ e.hash = hashInt k
  | t, [], e, h => nomatch h
  | t, x :: r, e, h => by
    rcases List.mem_cons.mp h with rfl | h
    · exact ⟨_, _, rfl, rfl⟩
    · exact ents3_keys _ r e h
theorem ents2_keys : ∀ (t : Nat) (L : List (Int × Str)), ∀ e ∈ ents2 t L, ∃ k u, e.key = .int k u ∧ e.hash = hashInt k
  | t, [], e, h => nomatch h
  | t, x :: r, e, h => by
    rcases List.mem_cons.mp h with rfl | h
    · exact ⟨_, _, rfl, rfl⟩
    · exact ents2_keys _ r e h

noncomputable def subsOf : Nat → List (List (Int × Str)) → List Obj
  | _, [] => []
  | t, c :: r => dictO (ents3 t c) c.length :: subsOf (t + 3 * c.length) r
noncomputable def objsOf (t : Nat) (c : List (Int × Str)) (r : List (List (Int × Str))) : List Obj := dictO (ents3 t (c ++ r.flatten)) (c ++ r.flatten).length :: subsOf (t + 3 * c.length) r
theorem subsOf_len : ∀ (t : Nat) (r : List (List (Int × Str))), (subsOf t r).length = r.length
  | _, [] => rfl
  | t, c :: r => by show _ + 1 = _ + 1; rw [subsOf_len]
theorem subsOf_snoc : ∀ (t : Nat) (r : List (List (Int × Str))) (c : List (Int × Str)), subsOf t (r ++ [c]) = subsOf t r ++ [dictO (ents3 (t + 3 * r.flatten.length) c) c.length]
  | t, [], c => rfl
  | t, d :: r, c => by
    show _ :: subsOf _ (r ++ [c]) = _ :: (_ ++ _)
    rw [subsOf_snoc, List.flatten_cons, List.length_append, show t + 3 * d.length + 3 * r.flatten.length = t + 3 * (d.length + r.flatten.length) by omega]
theorem objsOf_snoc (t : Nat) (c d : List (Int × Str)) (r : List (List (Int × Str))) :
    ((objsOf t c r) ++ [dictO (ents3 (t + 3 * (c ++ r.flatten).length) d) d.length]).set 0 (dictO (ents3 t (c ++ r.flatten) ++ ents3 (t + 3 * (c ++ r.flatten).length) d) ((c ++ r.flatten).length + d.length)) = objsOf t c (r ++ [d]) := by
  unfold objsOf
  rw [← ents3_append, subsOf_snoc]
  have e1 : c ++ r.flatten ++ d = c ++ (r ++ [d]).flatten := by simp
  have e2 : (c ++ r.flatten).length + d.length = (c ++ (r ++ [d]).flatten).length := by rw [← e1, List.length_append (as := c ++ r.flatten)]
  have e3 : t + 3 * (c ++ r.flatten).length = t + 3 * c.length + 3 * r.flatten.length := by rw [List.length_append]; omega
  rw [e1, e2, e3]
  rfl
end
end Mine
end PartD2
section PartD3
namespace Mine
open PySem PySem.W PySem.Calls PyProof.Rows
section
variable {p : Program} {w : World} {n₀ : Nat} {ann : Option Value} {s : Shared}

noncomputable def stateOf (h0 : Heap) (gens : Array GenState) (dr : Drawn) (tk : Nat) (os : OsState) : List (List (Int × Str)) → Option Addr × Shared
  | [] => (none, ⟨app h0 [], gens, dr, tk, os⟩)
  | c :: r => (some h0.objs.size, ⟨app h0 (objsOf tk c r), gens, dr, tk + 3 * (c ++ r.flatten).length, os⟩)

noncomputable def finalObjs (t : Nat) (c : List (Int × Str)) (r : List (List (Int × Str))) (last : List (Int × Str)) : List Obj :=
  dictO (ents3 t (c ++ r.flatten) ++ ents2 (t + 3 * (c ++ r.flatten).length) last) ((c ++ r.flatten).length + last.length) :: (subsOf (t + 3 * c.length) r ++ [dictO (ents2 (t + 3 * (c ++ r.flatten).length) last) last.length])

theorem hashes_append (a b : List (Int × Str)) : hashes (a ++ b) = hashes a ++ hashes b := by simp [hashes]

theorem chunks_same {α : Type} : ∀ (cs ds : List (List α)) (d e : List α), (∀ x ∈ cs, x.length = 17) → (∀ x ∈ ds, x.length = 17) → d.length < 17 → e.length < 17 → cs.flatten ++ d = ds.flatten ++ e → cs = ds ∧ d = e
  | [], [], d, e, _, _, _, _, h => ⟨rfl, by simpa using h⟩
  | [], x :: ds, d, e, _, h2, h3, _, h => by
    have := congrArg List.length h
    have hx := h2 x (.head _)
    simp at this
    omega
  | x :: cs, [], d, e, h1, _, _, h4, h => by
    have := congrArg List.length h
    have hx := h1 x (.head _)
    simp at this
    omega
  | x :: cs, y :: ds, d, e, h1, h2, h3, h4, h => by
    have hx := h1 x (.head _)
    have hy := h2 y (.head _)
    simp only [List.flatten_cons, List.append_assoc] at h
    obtain ⟨e1, e2⟩ := List.append_inj h (hx.trans hy.symm)
    obtain ⟨e3, e4⟩ := chunks_same cs ds d e (fun z hz => h1 z (.tail _ hz)) (fun z hz => h2 z (.tail _ hz)) h3 h4 e2
    exact ⟨by rw [e1, e3], e4⟩

theorem ents3_ne {t : Nat} {L : List (Int × Str)} (h : L ≠ []) : ents3 t L ≠ [] := by
  cases L with
  | nil => exact absurd rfl h
  | cons x r => intro e; cases e

theorem Wt_display {h0 : Heap} {pos : Pos} {gens : Array GenState} {dr : Drawn} {tk : Nat} {os : OsState} {Q : Value → Shared → Nat → Prop} (hn : n₀ ≤ h0.objs.size) (hs : 1 < n₀)
    (c : List (Int × Str)) (r : List (List (Int × Str))) (last : List (Int × Str)) (hc : ∀ x ∈ c :: r, x.length = 17) (hl0 : last ≠ []) (hl : last.length ≤ 15) (hz : ((c :: r).flatten ++ last).length ≤ 1000)
    (nd : (hashes ((c :: r).flatten ++ last)).Nodup)
    (h : ∀ m, m ≤ 400000000 → Q (.ref h0.objs.size) ⟨app h0 (finalObjs tk c r last), gens, dr, tk + 3 * ((c :: r).flatten ++ last).length, os⟩ m) :
    Wt p w n₀ ann (dictDisplay (itemsOf pos ((c :: r).flatten ++ last))) Q ⟨app h0 [], gens, dr, tk, os⟩ := by
  unfold dictDisplay
  refine Wt_bind ?_
  refine Wt_forIn 340000 (fun rest b s => ∃ cs d rem, rest = itemsOf pos rem ∧ b.2 = pairsOf pos d ∧ (b.1, s) = stateOf h0 gens dr tk os cs ∧ (∀ x ∈ cs, x.length = 17) ∧ d.length < 17 ∧ cs.flatten ++ (d ++ rem) = (c :: r).flatten ++ last)
    ?_ _ _ _ ⟨[], [], (c :: r).flatten ++ last, rfl, rfl, rfl, (fun _ x => nomatch x), by decide, rfl⟩ ?_
  · rintro x rest ⟨main, run⟩ s ⟨cs, d, rem, hr, hrun, hst, hcs, hd, hL⟩
    cases rem with
    | nil => cases hr
    | cons y rem =>
      simp only [itemsOf, List.map_cons, List.cons.injEq] at hr
      obtain ⟨rfl, rfl⟩ := hr
      dsimp only at hrun
      subst hrun
      dsimp only
      have hrun : pairsOf pos d ++ [(kT y.1, vT pos y.2)] = pairsOf pos (d ++ [y]) := by simp [pairsOf]
      rw [hrun]
      by_cases h17 : d.length = 16
      · rw [if_pos (by simp [h17])]
        have nd' := nd
        rw [← hL] at nd'
        have e1 : cs.flatten ++ (d ++ y :: rem) = (cs.flatten ++ (d ++ [y])) ++ rem := by simp
        rw [e1, hashes_append, hashes_append] at nd'
        have nd1 := (List.nodup_append.mp nd').1
        have ndr := (List.nodup_append.mp nd1).2.1
        have hlen : (d ++ [y]).length = 17 := by simp [h17]
        have hzz : (cs.flatten ++ (d ++ [y])).length ≤ 1000 := by
          have := congrArg List.length hL
          simp only [List.length_append, List.length_cons, List.length_nil] at this hz ⊢
          omega
        have fin : (cs ++ [d ++ [y]]).flatten ++ ([] ++ rem) = (c :: r).flatten ++ last := by rw [← hL]; simp
        have hcs' : ∀ x ∈ cs ++ [d ++ [y]], x.length = 17 := by
          intro x hx
          rcases List.mem_append.mp hx with z | z
          · exact hcs x z
          · rw [List.mem_singleton.mp z]; exact hlen
        refine Wt_bind ?_
        rw [if_neg (by simp)]
        cases cs with
        | nil =>
          cases hst
          dsimp only
          refine Wt_bind (Wt_subLong (l := []) hn (by omega) (by omega) ndr (fun m hm => Wt_pure (Wt_pure ⟨by omega, _, rfl, [d ++ [y]], [], rem, rfl, rfl, ?_, hcs', by decide, fin⟩)))
          simp [stateOf, objsOf, subsOf]
        | cons c0 cr =>
          cases hst
          dsimp only
          refine Wt_bind (Wt_holding (Wt_subLong (L := d ++ [y]) hn (by omega) (by omega) ndr fun m1 hm1 => ?_))
          have el : (objsOf tk c0 cr).length = cr.length + 1 := by show _ + 1 = _; rw [subsOf_len]
          refine Wt_bind (Wt_onRaise (Wt_holding (Wt_merge (j := (objsOf tk c0 cr).length) (es := ents3 tk (c0 ++ cr.flatten)) (n := (c0 ++ cr.flatten).length) (ds := ents3 (tk + 3 * (c0 ++ cr.flatten).length) (d ++ [y])) (m := (d ++ [y]).length) hn hs ?_ ?_ ?_ ?_ ?_ ?_ ?_ ?_ ?_)))
          · rfl
          · rw [List.getElem?_append_right (Nat.le_refl _), Nat.sub_self]; rfl
          · rw [el]; exact Nat.succ_ne_zero _
          · refine ents3_ne ?_
            have := hcs c0 (.head _)
            intro e
            have := congrArg List.length e
            rw [List.length_append, List.length_nil] at this
            omega
          · rw [ents3_len, ents3_len]
            simp only [List.flatten_cons, List.length_append] at hzz ⊢
            omega
          · exact fun e he => let ⟨k, u, a, _⟩ := ents3_keys _ _ e he; ⟨k, u, a⟩
          · rw [ents3_hash, ents3_hash]
            simpa using nd1
          · exact ents3_keys _ _
          · intro m2 hm2
            rw [ents3_len, objsOf_snoc]
            refine Wt_pure (Wt_pure ⟨by omega, _, rfl, (c0 :: cr) ++ [d ++ [y]], [], rem, rfl, rfl, ?_, hcs', by decide, fin⟩)
            show _ = (some h0.objs.size, (⟨app h0 (objsOf tk c0 (cr ++ [d ++ [y]])), gens, dr, tk + 3 * (c0 ++ (cr ++ [d ++ [y]]).flatten).length, os⟩ : Shared))
            congr 2
            simp only [List.length_append, List.flatten_append, List.flatten_cons, List.flatten_nil]
            simp
            omega
      · rw [if_neg (by simp; omega)]
        refine Wt_pure ⟨by omega, _, rfl, cs, d ++ [y], rem, rfl, rfl, hst, hcs, by simp; omega, ?_⟩
        rw [← hL]; simp
  · rintro ⟨main, run⟩ s m0 hm0 ⟨cs, d, rem, hr, hrun, hst, hcs, hd, hL⟩
    cases rem with
    | cons y rem => cases hr
    | nil =>
      rw [List.append_nil] at hL
      obtain ⟨rfl, rfl⟩ := chunks_same cs (c :: r) d last hcs hc hd (by omega) hL
      dsimp only at hrun
      subst hrun
      cases hst
      dsimp only
      have nd' := nd
      rw [hashes_append] at nd'
      refine Wt_bind ?_
      rw [if_neg (by simpa using hl0)]
      refine Wt_bind (Wt_holding (Wt_subShort (L := d) hn hl (List.nodup_append.mp nd').2.1 fun m1 hm1 => ?_))
      have el : (objsOf tk c r).length = r.length + 1 := by show _ + 1 = _; rw [subsOf_len]
      refine Wt_bind (Wt_onRaise (Wt_holding (Wt_merge (j := (objsOf tk c r).length) (es := ents3 tk (c ++ r.flatten)) (n := (c ++ r.flatten).length) (ds := ents2 (tk + 3 * (c ++ r.flatten).length) d) (m := d.length) hn hs ?_ ?_ ?_ ?_ ?_ ?_ ?_ ?_ ?_)))
      · rfl
      · rw [List.getElem?_append_right (Nat.le_refl _), Nat.sub_self]; rfl
      · rw [el]; exact Nat.succ_ne_zero _
      · refine ents3_ne ?_
        have := hc c (.head _)
        intro e
        have := congrArg List.length e
        rw [List.length_append, List.length_nil] at this
        omega
      · rw [ents3_len, ents2_len]
        simp only [List.flatten_cons, List.length_append] at hz ⊢
        omega
      · exact fun e he => let ⟨k, u, a, _⟩ := ents2_keys _ _ e he; ⟨k, u, a⟩
      · rw [ents3_hash, ents2_hash]
        simpa using nd'
      · exact ents2_keys _ _
      · intro m2 hm2
        refine Wt_pure (Wt_pure ?_)
        rw [ents2_len]
        have e3 : tk + 3 * (c ++ r.flatten).length + 3 * d.length = tk + 3 * ((c :: r).flatten ++ d).length := by
          simp only [List.length_append, List.flatten_cons]; omega
        rw [e3]
        simp only [itemsOf, List.length_map] at hm0
        exact h _ (by omega)
end
end Mine
end PartD3
section PartD4
namespace Mine
noncomputable section
open PySem PySem.W PySem.Calls PyProof.Rows
noncomputable abbrev pw : Program := PySem.Challenge.pw_tl0046_01
noncomputable def stm (i : Nat) : Stmt := (pw.main.body[i]?).getD (.Pass ⟨0, 0, 0, 0⟩)
noncomputable def fdA : Stmt → Arguments
  | .FunctionDef _ a _ _ _ _ _ _ _ _ => a
  | _ => ⟨[], [], none, [], [], none, []⟩
noncomputable def fdB : Stmt → List Stmt
  | .FunctionDef _ _ b _ _ _ _ _ _ _ => b
  | _ => []
noncomputable def fdS : Stmt → Scope
  | .FunctionDef _ _ _ _ _ _ s _ _ _ => s
  | _ => default
noncomputable def clB : Stmt → List Stmt
  | .ClassDef _ _ _ b _ _ _ _ _ _ _ => b
  | _ => []
noncomputable def mth (j : Nat) : Stmt := ((clB (stm 15))[j]?).getD (.Pass ⟨0, 0, 0, 0⟩)
noncomputable def constK : Option PySem.Expr → Int
  | some (.Constant (.int i) _ _) => i
  | _ => 0
noncomputable def constV : PySem.Expr → Str
  | .Constant (.str s) _ _ => s
  | _ => Str.empty
noncomputable def dictOf12 : Stmt → List (Int × Str)
  | .Assign _ (.Dict ks vs _) _ => (ks.map constK).zip (vs.map constV)
  | _ => []
noncomputable def b3L : List (Int × Str) := dictOf12 (stm 12)
noncomputable def chunk (i : Nat) : List (Int × Str) := (b3L.drop (17 * i)).take 17
noncomputable def b3Objs : List Obj := finalObjs 309 (chunk 0) ((List.range 37).map fun i => chunk (i + 1)) (b3L.drop 646)
noncomputable def b3 (j : Nat) : Obj := (b3Objs[j]?).getD default
noncomputable def o11_0 (P : Params) : Obj := ⟨(.type "tuple"), none, (.seq #[] 0), #[]⟩
noncomputable def o12_0 (P : Params) : Obj := ⟨.none, none, (.fields #[]), #[]⟩
noncomputable def o13_0 (P : Params) : Obj := ⟨(.type "code"), none, (.fields #[(.str (Str.ofString "<module>") 182), (.str (Str.ofString "<module>") 183), (.str (Str.ofString "/claim/cut.py") 184), (.int 1 0), (.int 0 0), (.int 0 0), (.int 0 0), (.int 0 0), (.ref 11), (.bool false), (.int 181 0), (.ref 12), .none, .none, .none, .none, (.int 185 0), (.int 1 0), (.str (Str.ofString "/claim/cut.py") 186)]), #[]⟩
noncomputable def o14_0 (P : Params) : Obj := ⟨(.type "frame"), none, .plain, #[(some (.ref 13)), (some (.ref 3)), (some (.ref 3)), none, (some (.str (Str.ofString "__main__") 164)), none, (some (.ref 0))]⟩
noncomputable def TB0 (P : Params) : BT := (.node (boot_o_0 P) (.node (boot_o_1 P) (.node (boot_o_3 P) (.node (boot_o_7 P) .nil .nil) (.node (o11_0 P) .nil .nil)) (.node (boot_o_5 P) (.node (boot_o_9 P) .nil .nil) (.node (o13_0 P) .nil .nil))) (.node (boot_o_2 P) (.node (boot_o_4 P) (.node (boot_o_8 P) .nil .nil) (.node (o12_0 P) .nil .nil)) (.node (boot_o_6 P) (.node (boot_o_10 P) .nil .nil) (.node (o14_0 P) .nil .nil))))
noncomputable def o3_1 (P : Params) : Obj := ⟨(.type "dict"), none, (.dict #[⟨PyData.keyHash P (Str.ofString "__name__"), (.str (Str.ofString "__name__") 165), (.str (Str.ofString "cpy313.stringprep") 240)⟩, ⟨PyData.keyHash P (Str.ofString "__doc__"), (.str (Str.ofString "__doc__") 166), .none⟩, ⟨PyData.keyHash P (Str.ofString "__package__"), (.str (Str.ofString "__package__") 167), .none⟩, ⟨PyData.keyHash P (Str.ofString "__loader__"), (.str (Str.ofString "__loader__") 168), (.builtin "__main__.__loader__#opaque")⟩, ⟨PyData.keyHash P (Str.ofString "__spec__"), (.str (Str.ofString "__spec__") 169), .none⟩, ⟨PyData.keyHash P (Str.ofString "__annotations__"), (.str (Str.ofString "__annotations__") 170), (.ref 6)⟩, ⟨PyData.keyHash P (Str.ofString "__builtins__"), (.str (Str.ofString "__builtins__") 171), (.ref 4)⟩, ⟨PyData.keyHash P (Str.ofString "__file__"), (.str (Str.ofString "__file__") 173), (.str (Str.ofString "/claim/cut.py") 172)⟩, ⟨PyData.keyHash P (Str.ofString "__cached__"), (.str (Str.ofString "__cached__") 174), .none⟩, ⟨PyData.keyHash P (Str.ofString "_wall"), (.str (Str.ofString "_wall") 193), (.ref 21)⟩, ⟨PyData.keyHash P (Str.ofString "CHAR_MAX"), (.str (Str.ofString "CHAR_MAX") 197), (.int 127 196)⟩, ⟨PyData.keyHash P (Str.ofString "_grouping_intervals"), (.str (Str.ofString "_grouping_intervals") 206), (.ref 28)⟩, ⟨PyData.keyHash P (Str.ofString "add"), (.str (Str.ofString "add") 216), (.ref 35)⟩, ⟨PyData.keyHash P (Str.ofString "mul"), (.str (Str.ofString "mul") 224), (.ref 42)⟩, ⟨PyData.keyHash P (Str.ofString "neg"), (.str (Str.ofString "neg") 231), (.ref 49)⟩, ⟨PyData.keyHash P (Str.ofString "contains"), (.str (Str.ofString "contains") 239), (.ref 56)⟩] 16), #[]⟩
noncomputable def o12_1 (P : Params) : Obj := ⟨.none, none, (.fields #[(.int 1 0), (.int 0 0), (.ref 20), (.int 6 0), (.int 0 0), (.ref 27), (.int 19 0), (.int 0 0), (.ref 34), (.int 21 0), (.int 0 0), (.ref 41), (.int 23 0), (.int 0 0), (.ref 48), (.int 25 0), (.int 0 0), (.ref 55)]), #[]⟩
noncomputable def o15_0 (P : Params) : Obj := ⟨(.type "tuple"), none, (.seq #[] 0), #[]⟩
noncomputable def o16_0 (P : Params) : Obj := ⟨.none, none, (.fields #[]), #[]⟩
noncomputable def o17_0 (P : Params) : Obj := ⟨(.type "tuple"), none, (.seq #[(.str (Str.ofString "k") 190)] 0), #[]⟩
noncomputable def o18_0 (P : Params) : Obj := ⟨(.type "tuple"), none, (.seq #[] 0), #[]⟩
noncomputable def o19_0 (P : Params) : Obj := ⟨.none, none, (.func ⟨(Str.ofString "_wall"), (Str.ofString "_wall"), fdA (stm 0), .stmts (fdB (stm 0)), fdS (stm 0), 0, [], .none, .none, .none, .none, none, .none, .none, 0⟩), #[]⟩
noncomputable def o20_0 (P : Params) : Obj := ⟨(.type "code"), none, (.fields #[(.str (Str.ofString "_wall") 187), (.str (Str.ofString "_wall") 188), (.str (Str.ofString "/claim/cut.py") 189), (.int 1 0), (.int 1 0), (.int 0 0), (.int 0 0), (.int 3 0), (.ref 15), (.bool true), (.int 181 0), (.ref 16), .none, (.ref 17), (.ref 18), (.ref 19), (.int 191 0), (.int 1 0), (.str (Str.ofString "/claim/cut.py") 192)]), #[]⟩
noncomputable def o21_0 (P : Params) : Obj := ⟨(.type "function"), none, (.func ⟨(Str.ofString "_wall"), (Str.ofString "_wall"), fdA (stm 0), .stmts (fdB (stm 0)), fdS (stm 0), 3, [], .none, .none, .none, (.str (Str.ofString "__main__") 164), none, (.ref 20), .none, 0⟩), #[]⟩
noncomputable def o22_0 (P : Params) : Obj := ⟨(.type "tuple"), none, (.seq #[] 0), #[]⟩
noncomputable def o23_0 (P : Params) : Obj := ⟨.none, none, (.fields #[]), #[]⟩
noncomputable def o24_0 (P : Params) : Obj := ⟨(.type "tuple"), none, (.seq #[(.str (Str.ofString "grouping") 201), (.str (Str.ofString "last_interval") 202), (.str (Str.ofString "interval") 203)] 0), #[]⟩
noncomputable def o25_0 (P : Params) : Obj := ⟨(.type "tuple"), none, (.seq #[] 0), #[]⟩
noncomputable def o26_0 (P : Params) : Obj := ⟨.none, none, (.func ⟨(Str.ofString "_grouping_intervals"), (Str.ofString "_grouping_intervals"), fdA (stm 3), .stmts (fdB (stm 3)), fdS (stm 3), 0, [], .none, .none, .none, .none, none, .none, .none, 0⟩), #[]⟩
noncomputable def o27_0 (P : Params) : Obj := ⟨(.type "code"), none, (.fields #[(.str (Str.ofString "_grouping_intervals") 198), (.str (Str.ofString "_grouping_intervals") 199), (.str (Str.ofString "/claim/cut.py") 200), (.int 6 0), (.int 1 0), (.int 0 0), (.int 0 0), (.int 35 0), (.ref 22), (.bool true), (.int 181 0), (.ref 23), .none, (.ref 24), (.ref 25), (.ref 26), (.int 204 0), (.int 6 0), (.str (Str.ofString "/claim/cut.py") 205)]), #[]⟩
noncomputable def o28_0 (P : Params) : Obj := ⟨(.type "function"), none, (.func ⟨(Str.ofString "_grouping_intervals"), (Str.ofString "_grouping_intervals"), fdA (stm 3), .stmts (fdB (stm 3)), fdS (stm 3), 3, [], .none, .none, .none, (.str (Str.ofString "cpy313.locale") 194), none, (.ref 27), .none, 0⟩), #[]⟩
noncomputable def o29_0 (P : Params) : Obj := ⟨(.type "tuple"), none, (.seq #[] 0), #[]⟩
noncomputable def o30_0 (P : Params) : Obj := ⟨.none, none, (.fields #[]), #[]⟩
noncomputable def o31_0 (P : Params) : Obj := ⟨(.type "tuple"), none, (.seq #[(.str (Str.ofString "a") 212), (.str (Str.ofString "b") 213)] 0), #[]⟩
noncomputable def o32_0 (P : Params) : Obj := ⟨(.type "tuple"), none, (.seq #[] 0), #[]⟩
noncomputable def o33_0 (P : Params) : Obj := ⟨.none, none, (.func ⟨(Str.ofString "add"), (Str.ofString "add"), fdA (stm 5), .stmts (fdB (stm 5)), fdS (stm 5), 0, [], .none, .none, .none, .none, none, .none, .none, 0⟩), #[]⟩
noncomputable def o34_0 (P : Params) : Obj := ⟨(.type "code"), none, (.fields #[(.str (Str.ofString "add") 209), (.str (Str.ofString "add") 210), (.str (Str.ofString "/claim/cut.py") 211), (.int 19 0), (.int 2 0), (.int 0 0), (.int 0 0), (.int 3 0), (.ref 29), (.bool true), (.int 181 0), (.ref 30), .none, (.ref 31), (.ref 32), (.ref 33), (.int 214 0), (.int 19 0), (.str (Str.ofString "/claim/cut.py") 215)]), #[]⟩
noncomputable def o35_0 (P : Params) : Obj := ⟨(.type "function"), none, (.func ⟨(Str.ofString "add"), (Str.ofString "add"), fdA (stm 5), .stmts (fdB (stm 5)), fdS (stm 5), 3, [], .none, .none, .none, (.str (Str.ofString "cpy313.operator") 207), none, (.ref 34), .none, 0⟩), #[]⟩
noncomputable def o36_0 (P : Params) : Obj := ⟨(.type "tuple"), none, (.seq #[] 0), #[]⟩
noncomputable def o37_0 (P : Params) : Obj := ⟨.none, none, (.fields #[]), #[]⟩
noncomputable def o38_0 (P : Params) : Obj := ⟨(.type "tuple"), none, (.seq #[(.str (Str.ofString "a") 220), (.str (Str.ofString "b") 221)] 0), #[]⟩
noncomputable def o39_0 (P : Params) : Obj := ⟨(.type "tuple"), none, (.seq #[] 0), #[]⟩
noncomputable def o40_0 (P : Params) : Obj := ⟨.none, none, (.func ⟨(Str.ofString "mul"), (Str.ofString "mul"), fdA (stm 6), .stmts (fdB (stm 6)), fdS (stm 6), 0, [], .none, .none, .none, .none, none, .none, .none, 0⟩), #[]⟩
noncomputable def o41_0 (P : Params) : Obj := ⟨(.type "code"), none, (.fields #[(.str (Str.ofString "mul") 217), (.str (Str.ofString "mul") 218), (.str (Str.ofString "/claim/cut.py") 219), (.int 21 0), (.int 2 0), (.int 0 0), (.int 0 0), (.int 3 0), (.ref 36), (.bool true), (.int 181 0), (.ref 37), .none, (.ref 38), (.ref 39), (.ref 40), (.int 222 0), (.int 21 0), (.str (Str.ofString "/claim/cut.py") 223)]), #[]⟩
noncomputable def o42_0 (P : Params) : Obj := ⟨(.type "function"), none, (.func ⟨(Str.ofString "mul"), (Str.ofString "mul"), fdA (stm 6), .stmts (fdB (stm 6)), fdS (stm 6), 3, [], .none, .none, .none, (.str (Str.ofString "cpy313.operator") 207), none, (.ref 41), .none, 0⟩), #[]⟩
noncomputable def o43_0 (P : Params) : Obj := ⟨(.type "tuple"), none, (.seq #[] 0), #[]⟩
noncomputable def o44_0 (P : Params) : Obj := ⟨.none, none, (.fields #[]), #[]⟩
noncomputable def o45_0 (P : Params) : Obj := ⟨(.type "tuple"), none, (.seq #[(.str (Str.ofString "a") 228)] 0), #[]⟩
noncomputable def o46_0 (P : Params) : Obj := ⟨(.type "tuple"), none, (.seq #[] 0), #[]⟩
noncomputable def o47_0 (P : Params) : Obj := ⟨.none, none, (.func ⟨(Str.ofString "neg"), (Str.ofString "neg"), fdA (stm 7), .stmts (fdB (stm 7)), fdS (stm 7), 0, [], .none, .none, .none, .none, none, .none, .none, 0⟩), #[]⟩
noncomputable def o48_0 (P : Params) : Obj := ⟨(.type "code"), none, (.fields #[(.str (Str.ofString "neg") 225), (.str (Str.ofString "neg") 226), (.str (Str.ofString "/claim/cut.py") 227), (.int 23 0), (.int 1 0), (.int 0 0), (.int 0 0), (.int 3 0), (.ref 43), (.bool true), (.int 181 0), (.ref 44), .none, (.ref 45), (.ref 46), (.ref 47), (.int 229 0), (.int 23 0), (.str (Str.ofString "/claim/cut.py") 230)]), #[]⟩
noncomputable def o49_0 (P : Params) : Obj := ⟨(.type "function"), none, (.func ⟨(Str.ofString "neg"), (Str.ofString "neg"), fdA (stm 7), .stmts (fdB (stm 7)), fdS (stm 7), 3, [], .none, .none, .none, (.str (Str.ofString "cpy313.operator") 207), none, (.ref 48), .none, 0⟩), #[]⟩
noncomputable def o50_0 (P : Params) : Obj := ⟨(.type "tuple"), none, (.seq #[] 0), #[]⟩
noncomputable def o51_0 (P : Params) : Obj := ⟨.none, none, (.fields #[]), #[]⟩
noncomputable def o52_0 (P : Params) : Obj := ⟨(.type "tuple"), none, (.seq #[(.str (Str.ofString "a") 235), (.str (Str.ofString "b") 236)] 0), #[]⟩
noncomputable def o53_0 (P : Params) : Obj := ⟨(.type "tuple"), none, (.seq #[] 0), #[]⟩
noncomputable def o54_0 (P : Params) : Obj := ⟨.none, none, (.func ⟨(Str.ofString "contains"), (Str.ofString "contains"), fdA (stm 8), .stmts (fdB (stm 8)), fdS (stm 8), 0, [], .none, .none, .none, .none, none, .none, .none, 0⟩), #[]⟩
noncomputable def o55_0 (P : Params) : Obj := ⟨(.type "code"), none, (.fields #[(.str (Str.ofString "contains") 232), (.str (Str.ofString "contains") 233), (.str (Str.ofString "/claim/cut.py") 234), (.int 25 0), (.int 2 0), (.int 0 0), (.int 0 0), (.int 3 0), (.ref 50), (.bool true), (.int 181 0), (.ref 51), .none, (.ref 52), (.ref 53), (.ref 54), (.int 237 0), (.int 25 0), (.str (Str.ofString "/claim/cut.py") 238)]), #[]⟩
noncomputable def o56_0 (P : Params) : Obj := ⟨(.type "function"), none, (.func ⟨(Str.ofString "contains"), (Str.ofString "contains"), fdA (stm 8), .stmts (fdB (stm 8)), fdS (stm 8), 3, [], .none, .none, .none, (.str (Str.ofString "cpy313.operator") 207), none, (.ref 55), .none, 0⟩), #[]⟩
noncomputable def TB1 (P : Params) : BT := (.node (boot_o_0 P) (.node (boot_o_1 P) (.node (o3_1 P) (.node (boot_o_7 P) (.node (o15_0 P) (.node (o31_0 P) .nil .nil) (.node (o47_0 P) .nil .nil)) (.node (o23_0 P) (.node (o39_0 P) .nil .nil) (.node (o55_0 P) .nil .nil))) (.node (o11_0 P) (.node (o19_0 P) (.node (o35_0 P) .nil .nil) (.node (o51_0 P) .nil .nil)) (.node (o27_0 P) (.node (o43_0 P) .nil .nil) .nil))) (.node (boot_o_5 P) (.node (boot_o_9 P) (.node (o17_0 P) (.node (o33_0 P) .nil .nil) (.node (o49_0 P) .nil .nil)) (.node (o25_0 P) (.node (o41_0 P) .nil .nil) .nil)) (.node (o13_0 P) (.node (o21_0 P) (.node (o37_0 P) .nil .nil) (.node (o53_0 P) .nil .nil)) (.node (o29_0 P) (.node (o45_0 P) .nil .nil) .nil)))) (.node (boot_o_2 P) (.node (boot_o_4 P) (.node (boot_o_8 P) (.node (o16_0 P) (.node (o32_0 P) .nil .nil) (.node (o48_0 P) .nil .nil)) (.node (o24_0 P) (.node (o40_0 P) .nil .nil) (.node (o56_0 P) .nil .nil))) (.node (o12_1 P) (.node (o20_0 P) (.node (o36_0 P) .nil .nil) (.node (o52_0 P) .nil .nil)) (.node (o28_0 P) (.node (o44_0 P) .nil .nil) .nil))) (.node (boot_o_6 P) (.node (boot_o_10 P) (.node (o18_0 P) (.node (o34_0 P) .nil .nil) (.node (o50_0 P) .nil .nil)) (.node (o26_0 P) (.node (o42_0 P) .nil .nil) .nil)) (.node (o14_0 P) (.node (o22_0 P) (.node (o38_0 P) .nil .nil) (.node (o54_0 P) .nil .nil)) (.node (o30_0 P) (.node (o46_0 P) .nil .nil) .nil)))))
noncomputable def o3_2 (P : Params) : Obj := ⟨(.type "dict"), none, (.dict #[⟨PyData.keyHash P (Str.ofString "__name__"), (.str (Str.ofString "__name__") 165), (.str (Str.ofString "cpy313.stringprep") 240)⟩, ⟨PyData.keyHash P (Str.ofString "__doc__"), (.str (Str.ofString "__doc__") 166), .none⟩, ⟨PyData.keyHash P (Str.ofString "__package__"), (.str (Str.ofString "__package__") 167), .none⟩, ⟨PyData.keyHash P (Str.ofString "__loader__"), (.str (Str.ofString "__loader__") 168), (.builtin "__main__.__loader__#opaque")⟩, ⟨PyData.keyHash P (Str.ofString "__spec__"), (.str (Str.ofString "__spec__") 169), .none⟩, ⟨PyData.keyHash P (Str.ofString "__annotations__"), (.str (Str.ofString "__annotations__") 170), (.ref 6)⟩, ⟨PyData.keyHash P (Str.ofString "__builtins__"), (.str (Str.ofString "__builtins__") 171), (.ref 4)⟩, ⟨PyData.keyHash P (Str.ofString "__file__"), (.str (Str.ofString "__file__") 173), (.str (Str.ofString "/claim/cut.py") 172)⟩, ⟨PyData.keyHash P (Str.ofString "__cached__"), (.str (Str.ofString "__cached__") 174), .none⟩, ⟨PyData.keyHash P (Str.ofString "_wall"), (.str (Str.ofString "_wall") 193), (.ref 21)⟩, ⟨PyData.keyHash P (Str.ofString "CHAR_MAX"), (.str (Str.ofString "CHAR_MAX") 197), (.int 127 196)⟩, ⟨PyData.keyHash P (Str.ofString "_grouping_intervals"), (.str (Str.ofString "_grouping_intervals") 206), (.ref 28)⟩, ⟨PyData.keyHash P (Str.ofString "add"), (.str (Str.ofString "add") 216), (.ref 35)⟩, ⟨PyData.keyHash P (Str.ofString "mul"), (.str (Str.ofString "mul") 224), (.ref 42)⟩, ⟨PyData.keyHash P (Str.ofString "neg"), (.str (Str.ofString "neg") 231), (.ref 49)⟩, ⟨PyData.keyHash P (Str.ofString "contains"), (.str (Str.ofString "contains") 239), (.ref 56)⟩, ⟨PyData.keyHash P (Str.ofString "b1_set"), (.str (Str.ofString "b1_set") 301), (.ref 64)⟩] 17), #[]⟩
noncomputable def o57_0 (P : Params) : Obj := ⟨(.type "list"), none, (.seq #[(.int 173 242), (.int 847 243), (.int 6150 244), (.int 6155 245), (.int 6156 246), (.int 6157 247), (.int 8203 248), (.int 8204 249), (.int 8205 250), (.int 8288 251), (.int 65279 252)] 0), #[]⟩
noncomputable def o58_0 (P : Params) : Obj := ⟨(.type "range"), none, (.fields #[(.int 65024 253), (.int 65040 254), (.int 1 255)]), #[]⟩
noncomputable def o59_0 (P : Params) : Obj := ⟨(.type "list"), none, (.seq #[(.int 65024 258), (.int 65025 259), (.int 65026 260), (.int 65027 261), (.int 65028 262), (.int 65029 263), (.int 65030 264), (.int 65031 265), (.int 65032 266), (.int 65033 267), (.int 65034 268), (.int 65035 269), (.int 65036 270), (.int 65037 271), (.int 65038 272), (.int 65039 273)] 18), #[]⟩
noncomputable def o60_0 (P : Params) : Obj := ⟨(.type "range_iterator"), none, (.fields #[(.int 65040 0), (.int 0 0), (.int 1 0)]), #[]⟩
noncomputable def o61_0 (P : Params) : Obj := ⟨(.type "tuple"), none, (.seq #[] 0), #[]⟩
noncomputable def o62_0 (P : Params) : Obj := ⟨(.type "StopIteration"), none, (.fields #[(.ref 61), .none, .none, .none, (.bool false), .none]), #[]⟩
noncomputable def o63_0 (P : Params) : Obj := ⟨(.type "list"), none, (.seq #[(.int 173 242), (.int 847 243), (.int 6150 244), (.int 6155 245), (.int 6156 246), (.int 6157 247), (.int 8203 248), (.int 8204 249), (.int 8205 250), (.int 8288 251), (.int 65279 252), (.int 65024 258), (.int 65025 259), (.int 65026 260), (.int 65027 261), (.int 65028 262), (.int 65029 263), (.int 65030 264), (.int 65031 265), (.int 65032 266), (.int 65033 267), (.int 65034 268), (.int 65035 269), (.int 65036 270), (.int 65037 271), (.int 65038 272), (.int 65039 273)] 0), #[]⟩
noncomputable def o64_0 (P : Params) : Obj := ⟨(.type "set"), none, (.set #[(65024, (.int 65024 258)), (65025, (.int 65025 259)), (65026, (.int 65026 260)), (65027, (.int 65027 261)), (65028, (.int 65028 262)), (65029, (.int 65029 263)), (6150, (.int 6150 244)), (65030, (.int 65030 264)), (65031, (.int 65031 265)), (65032, (.int 65032 266)), (65033, (.int 65033 267)), (6155, (.int 6155 245)), (6156, (.int 6156 246)), (6157, (.int 6157 247)), (8203, (.int 8203 248)), (8204, (.int 8204 249)), (8205, (.int 8205 250)), (65034, (.int 65034 268)), (65035, (.int 65035 269)), (65036, (.int 65036 270)), (65037, (.int 65037 271)), (65038, (.int 65038 272)), (65039, (.int 65039 273)), (173, (.int 173 242)), (847, (.int 847 243)), (8288, (.int 8288 251)), (65279, (.int 65279 252))] 29 ⟨127, #[0, 1, 2, 3, 4, 5, 6, 7, 8, 9, 10, 11, 12, 13, 14, 15, 16, 17, 18, 19, 20, 21, 22, 45, 79, 96, 127], #[], 0, !P.followText "set-order", 2, true⟩), #[]⟩
noncomputable def o65_0 (P : Params) : Obj := ⟨(.type "list_iterator"), none, (.fields #[.none, (.int 27 0)]), #[]⟩
noncomputable def o66_0 (P : Params) : Obj := ⟨(.type "tuple"), none, (.seq #[] 0), #[]⟩
noncomputable def o67_0 (P : Params) : Obj := ⟨(.type "StopIteration"), none, (.fields #[(.ref 66), .none, .none, .none, (.bool false), .none]), #[]⟩
noncomputable def TB2 (P : Params) : BT := (.node (boot_o_0 P) (.node (boot_o_1 P) (.node (o3_2 P) (.node (boot_o_7 P) (.node (o15_0 P) (.node (o31_0 P) (.node (o63_0 P) .nil .nil) .nil) (.node (o47_0 P) .nil .nil)) (.node (o23_0 P) (.node (o39_0 P) .nil .nil) (.node (o55_0 P) .nil .nil))) (.node (o11_0 P) (.node (o19_0 P) (.node (o35_0 P) (.node (o67_0 P) .nil .nil) .nil) (.node (o51_0 P) .nil .nil)) (.node (o27_0 P) (.node (o43_0 P) .nil .nil) (.node (o59_0 P) .nil .nil)))) (.node (boot_o_5 P) (.node (boot_o_9 P) (.node (o17_0 P) (.node (o33_0 P) (.node (o65_0 P) .nil .nil) .nil) (.node (o49_0 P) .nil .nil)) (.node (o25_0 P) (.node (o41_0 P) .nil .nil) (.node (o57_0 P) .nil .nil))) (.node (o13_0 P) (.node (o21_0 P) (.node (o37_0 P) .nil .nil) (.node (o53_0 P) .nil .nil)) (.node (o29_0 P) (.node (o45_0 P) .nil .nil) (.node (o61_0 P) .nil .nil))))) (.node (boot_o_2 P) (.node (boot_o_4 P) (.node (boot_o_8 P) (.node (o16_0 P) (.node (o32_0 P) (.node (o64_0 P) .nil .nil) .nil) (.node (o48_0 P) .nil .nil)) (.node (o24_0 P) (.node (o40_0 P) .nil .nil) (.node (o56_0 P) .nil .nil))) (.node (o12_1 P) (.node (o20_0 P) (.node (o36_0 P) .nil .nil) (.node (o52_0 P) .nil .nil)) (.node (o28_0 P) (.node (o44_0 P) .nil .nil) (.node (o60_0 P) .nil .nil)))) (.node (boot_o_6 P) (.node (boot_o_10 P) (.node (o18_0 P) (.node (o34_0 P) (.node (o66_0 P) .nil .nil) .nil) (.node (o50_0 P) .nil .nil)) (.node (o26_0 P) (.node (o42_0 P) .nil .nil) (.node (o58_0 P) .nil .nil))) (.node (o14_0 P) (.node (o22_0 P) (.node (o38_0 P) .nil .nil) (.node (o54_0 P) .nil .nil)) (.node (o30_0 P) (.node (o46_0 P) .nil .nil) (.node (o62_0 P) .nil .nil))))))
noncomputable def o3_3 (P : Params) : Obj := ⟨(.type "dict"), none, (.dict #[⟨PyData.keyHash P (Str.ofString "__name__"), (.str (Str.ofString "__name__") 165), (.str (Str.ofString "cpy313.stringprep") 240)⟩, ⟨PyData.keyHash P (Str.ofString "__doc__"), (.str (Str.ofString "__doc__") 166), .none⟩, ⟨PyData.keyHash P (Str.ofString "__package__"), (.str (Str.ofString "__package__") 167), .none⟩, ⟨PyData.keyHash P (Str.ofString "__loader__"), (.str (Str.ofString "__loader__") 168), (.builtin "__main__.__loader__#opaque")⟩, ⟨PyData.keyHash P (Str.ofString "__spec__"), (.str (Str.ofString "__spec__") 169), .none⟩, ⟨PyData.keyHash P (Str.ofString "__annotations__"), (.str (Str.ofString "__annotations__") 170), (.ref 6)⟩, ⟨PyData.keyHash P (Str.ofString "__builtins__"), (.str (Str.ofString "__builtins__") 171), (.ref 4)⟩, ⟨PyData.keyHash P (Str.ofString "__file__"), (.str (Str.ofString "__file__") 173), (.str (Str.ofString "/claim/cut.py") 172)⟩, ⟨PyData.keyHash P (Str.ofString "__cached__"), (.str (Str.ofString "__cached__") 174), .none⟩, ⟨PyData.keyHash P (Str.ofString "_wall"), (.str (Str.ofString "_wall") 193), (.ref 21)⟩, ⟨PyData.keyHash P (Str.ofString "CHAR_MAX"), (.str (Str.ofString "CHAR_MAX") 197), (.int 127 196)⟩, ⟨PyData.keyHash P (Str.ofString "_grouping_intervals"), (.str (Str.ofString "_grouping_intervals") 206), (.ref 28)⟩, ⟨PyData.keyHash P (Str.ofString "add"), (.str (Str.ofString "add") 216), (.ref 35)⟩, ⟨PyData.keyHash P (Str.ofString "mul"), (.str (Str.ofString "mul") 224), (.ref 42)⟩, ⟨PyData.keyHash P (Str.ofString "neg"), (.str (Str.ofString "neg") 231), (.ref 49)⟩, ⟨PyData.keyHash P (Str.ofString "contains"), (.str (Str.ofString "contains") 239), (.ref 56)⟩, ⟨PyData.keyHash P (Str.ofString "b1_set"), (.str (Str.ofString "b1_set") 301), (.ref 64)⟩, ⟨PyData.keyHash P (Str.ofString "in_table_b1"), (.str (Str.ofString "in_table_b1") 308), (.ref 74)⟩] 18), #[]⟩
noncomputable def o12_2 (P : Params) : Obj := ⟨.none, none, (.fields #[(.int 1 0), (.int 0 0), (.ref 20), (.int 6 0), (.int 0 0), (.ref 27), (.int 19 0), (.int 0 0), (.ref 34), (.int 21 0), (.int 0 0), (.ref 41), (.int 23 0), (.int 0 0), (.ref 48), (.int 25 0), (.int 0 0), (.ref 55), (.int 29 0), (.int 0 0), (.ref 73)]), #[]⟩
noncomputable def o68_0 (P : Params) : Obj := ⟨(.type "tuple"), none, (.seq #[] 0), #[]⟩
noncomputable def o69_0 (P : Params) : Obj := ⟨.none, none, (.fields #[]), #[]⟩
noncomputable def o70_0 (P : Params) : Obj := ⟨(.type "tuple"), none, (.seq #[(.str (Str.ofString "code") 305)] 0), #[]⟩
noncomputable def o71_0 (P : Params) : Obj := ⟨(.type "tuple"), none, (.seq #[] 0), #[]⟩
noncomputable def o72_0 (P : Params) : Obj := ⟨.none, none, (.func ⟨(Str.ofString "in_table_b1"), (Str.ofString "in_table_b1"), fdA (stm 11), .stmts (fdB (stm 11)), fdS (stm 11), 0, [], .none, .none, .none, .none, none, .none, .none, 0⟩), #[]⟩
noncomputable def o73_0 (P : Params) : Obj := ⟨(.type "code"), none, (.fields #[(.str (Str.ofString "in_table_b1") 302), (.str (Str.ofString "in_table_b1") 303), (.str (Str.ofString "/claim/cut.py") 304), (.int 29 0), (.int 1 0), (.int 0 0), (.int 0 0), (.int 3 0), (.ref 68), (.bool true), (.int 181 0), (.ref 69), .none, (.ref 70), (.ref 71), (.ref 72), (.int 306 0), (.int 29 0), (.str (Str.ofString "/claim/cut.py") 307)]), #[]⟩
noncomputable def o74_0 (P : Params) : Obj := ⟨(.type "function"), none, (.func ⟨(Str.ofString "in_table_b1"), (Str.ofString "in_table_b1"), fdA (stm 11), .stmts (fdB (stm 11)), fdS (stm 11), 3, [], .none, .none, .none, (.str (Str.ofString "cpy313.stringprep") 240), none, (.ref 73), .none, 0⟩), #[]⟩
noncomputable def TB3 (P : Params) : BT := (.node (boot_o_0 P) (.node (boot_o_1 P) (.node (o3_3 P) (.node (boot_o_7 P) (.node (o15_0 P) (.node (o31_0 P) (.node (o63_0 P) .nil .nil) .nil) (.node (o47_0 P) .nil .nil)) (.node (o23_0 P) (.node (o39_0 P) (.node (o71_0 P) .nil .nil) .nil) (.node (o55_0 P) .nil .nil))) (.node (o11_0 P) (.node (o19_0 P) (.node (o35_0 P) (.node (o67_0 P) .nil .nil) .nil) (.node (o51_0 P) .nil .nil)) (.node (o27_0 P) (.node (o43_0 P) .nil .nil) (.node (o59_0 P) .nil .nil)))) (.node (boot_o_5 P) (.node (boot_o_9 P) (.node (o17_0 P) (.node (o33_0 P) (.node (o65_0 P) .nil .nil) .nil) (.node (o49_0 P) .nil .nil)) (.node (o25_0 P) (.node (o41_0 P) (.node (o73_0 P) .nil .nil) .nil) (.node (o57_0 P) .nil .nil))) (.node (o13_0 P) (.node (o21_0 P) (.node (o37_0 P) (.node (o69_0 P) .nil .nil) .nil) (.node (o53_0 P) .nil .nil)) (.node (o29_0 P) (.node (o45_0 P) .nil .nil) (.node (o61_0 P) .nil .nil))))) (.node (boot_o_2 P) (.node (boot_o_4 P) (.node (boot_o_8 P) (.node (o16_0 P) (.node (o32_0 P) (.node (o64_0 P) .nil .nil) .nil) (.node (o48_0 P) .nil .nil)) (.node (o24_0 P) (.node (o40_0 P) (.node (o72_0 P) .nil .nil) .nil) (.node (o56_0 P) .nil .nil))) (.node (o12_2 P) (.node (o20_0 P) (.node (o36_0 P) (.node (o68_0 P) .nil .nil) .nil) (.node (o52_0 P) .nil .nil)) (.node (o28_0 P) (.node (o44_0 P) .nil .nil) (.node (o60_0 P) .nil .nil)))) (.node (boot_o_6 P) (.node (boot_o_10 P) (.node (o18_0 P) (.node (o34_0 P) (.node (o66_0 P) .nil .nil) .nil) (.node (o50_0 P) .nil .nil)) (.node (o26_0 P) (.node (o42_0 P) (.node (o74_0 P) .nil .nil) .nil) (.node (o58_0 P) .nil .nil))) (.node (o14_0 P) (.node (o22_0 P) (.node (o38_0 P) (.node (o70_0 P) .nil .nil) .nil) (.node (o54_0 P) .nil .nil)) (.node (o30_0 P) (.node (o46_0 P) .nil .nil) (.node (o62_0 P) .nil .nil))))))
noncomputable def o3_4 (P : Params) : Obj := ⟨(.type "dict"), none, (.dict #[⟨PyData.keyHash P (Str.ofString "__name__"), (.str (Str.ofString "__name__") 165), (.str (Str.ofString "cpy313.stringprep") 240)⟩, ⟨PyData.keyHash P (Str.ofString "__doc__"), (.str (Str.ofString "__doc__") 166), .none⟩, ⟨PyData.keyHash P (Str.ofString "__package__"), (.str (Str.ofString "__package__") 167), .none⟩, ⟨PyData.keyHash P (Str.ofString "__loader__"), (.str (Str.ofString "__loader__") 168), (.builtin "__main__.__loader__#opaque")⟩, ⟨PyData.keyHash P (Str.ofString "__spec__"), (.str (Str.ofString "__spec__") 169), .none⟩, ⟨PyData.keyHash P (Str.ofString "__annotations__"), (.str (Str.ofString "__annotations__") 170), (.ref 6)⟩, ⟨PyData.keyHash P (Str.ofString "__builtins__"), (.str (Str.ofString "__builtins__") 171), (.ref 4)⟩, ⟨PyData.keyHash P (Str.ofString "__file__"), (.str (Str.ofString "__file__") 173), (.str (Str.ofString "/claim/cut.py") 172)⟩, ⟨PyData.keyHash P (Str.ofString "__cached__"), (.str (Str.ofString "__cached__") 174), .none⟩, ⟨PyData.keyHash P (Str.ofString "_wall"), (.str (Str.ofString "_wall") 193), (.ref 21)⟩, ⟨PyData.keyHash P (Str.ofString "CHAR_MAX"), (.str (Str.ofString "CHAR_MAX") 197), (.int 127 196)⟩, ⟨PyData.keyHash P (Str.ofString "_grouping_intervals"), (.str (Str.ofString "_grouping_intervals") 206), (.ref 28)⟩, ⟨PyData.keyHash P (Str.ofString "add"), (.str (Str.ofString "add") 216), (.ref 35)⟩, ⟨PyData.keyHash P (Str.ofString "mul"), (.str (Str.ofString "mul") 224), (.ref 42)⟩, ⟨PyData.keyHash P (Str.ofString "neg"), (.str (Str.ofString "neg") 231), (.ref 49)⟩, ⟨PyData.keyHash P (Str.ofString "contains"), (.str (Str.ofString "contains") 239), (.ref 56)⟩, ⟨PyData.keyHash P (Str.ofString "b1_set"), (.str (Str.ofString "b1_set") 301), (.ref 64)⟩, ⟨PyData.keyHash P (Str.ofString "in_table_b1"), (.str (Str.ofString "in_table_b1") 308), (.ref 74)⟩, ⟨PyData.keyHash P (Str.ofString "b3_exceptions"), (.str (Str.ofString "b3_exceptions") 2259), (.ref 75)⟩] 19), #[]⟩
noncomputable def TB4 (P : Params) : BT := (.node (boot_o_0 P) (.node (boot_o_1 P) (.node (o3_4 P) (.node (boot_o_7 P) (.node (o15_0 P) (.node (o31_0 P) (.node (o63_0 P) .nil .nil) (.node (b3 20) .nil .nil)) (.node (o47_0 P) (.node (b3 4) .nil .nil) (.node (b3 36) .nil .nil))) (.node (o23_0 P) (.node (o39_0 P) (.node (o71_0 P) .nil .nil) (.node (b3 28) .nil .nil)) (.node (o55_0 P) (.node (b3 12) .nil .nil) .nil))) (.node (o11_0 P) (.node (o19_0 P) (.node (o35_0 P) (.node (o67_0 P) .nil .nil) (.node (b3 24) .nil .nil)) (.node (o51_0 P) (.node (b3 8) .nil .nil) .nil)) (.node (o27_0 P) (.node (o43_0 P) (.node (b3 0) .nil .nil) (.node (b3 32) .nil .nil)) (.node (o59_0 P) (.node (b3 16) .nil .nil) .nil)))) (.node (boot_o_5 P) (.node (boot_o_9 P) (.node (o17_0 P) (.node (o33_0 P) (.node (o65_0 P) .nil .nil) (.node (b3 22) .nil .nil)) (.node (o49_0 P) (.node (b3 6) .nil .nil) (.node (b3 38) .nil .nil))) (.node (o25_0 P) (.node (o41_0 P) (.node (o73_0 P) .nil .nil) (.node (b3 30) .nil .nil)) (.node (o57_0 P) (.node (b3 14) .nil .nil) .nil))) (.node (o13_0 P) (.node (o21_0 P) (.node (o37_0 P) (.node (o69_0 P) .nil .nil) (.node (b3 26) .nil .nil)) (.node (o53_0 P) (.node (b3 10) .nil .nil) .nil)) (.node (o29_0 P) (.node (o45_0 P) (.node (b3 2) .nil .nil) (.node (b3 34) .nil .nil)) (.node (o61_0 P) (.node (b3 18) .nil .nil) .nil))))) (.node (boot_o_2 P) (.node (boot_o_4 P) (.node (boot_o_8 P) (.node (o16_0 P) (.node (o32_0 P) (.node (o64_0 P) .nil .nil) (.node (b3 21) .nil .nil)) (.node (o48_0 P) (.node (b3 5) .nil .nil) (.node (b3 37) .nil .nil))) (.node (o24_0 P) (.node (o40_0 P) (.node (o72_0 P) .nil .nil) (.node (b3 29) .nil .nil)) (.node (o56_0 P) (.node (b3 13) .nil .nil) .nil))) (.node (o12_2 P) (.node (o20_0 P) (.node (o36_0 P) (.node (o68_0 P) .nil .nil) (.node (b3 25) .nil .nil)) (.node (o52_0 P) (.node (b3 9) .nil .nil) .nil)) (.node (o28_0 P) (.node (o44_0 P) (.node (b3 1) .nil .nil) (.node (b3 33) .nil .nil)) (.node (o60_0 P) (.node (b3 17) .nil .nil) .nil)))) (.node (boot_o_6 P) (.node (boot_o_10 P) (.node (o18_0 P) (.node (o34_0 P) (.node (o66_0 P) .nil .nil) (.node (b3 23) .nil .nil)) (.node (o50_0 P) (.node (b3 7) .nil .nil) .nil)) (.node (o26_0 P) (.node (o42_0 P) (.node (o74_0 P) .nil .nil) (.node (b3 31) .nil .nil)) (.node (o58_0 P) (.node (b3 15) .nil .nil) .nil))) (.node (o14_0 P) (.node (o22_0 P) (.node (o38_0 P) (.node (o70_0 P) .nil .nil) (.node (b3 27) .nil .nil)) (.node (o54_0 P) (.node (b3 11) .nil .nil) .nil)) (.node (o30_0 P) (.node (o46_0 P) (.node (b3 3) .nil .nil) (.node (b3 35) .nil .nil)) (.node (o62_0 P) (.node (b3 19) .nil .nil) .nil))))))
noncomputable def o3_5 (P : Params) : Obj := ⟨(.type "dict"), none, (.dict #[⟨PyData.keyHash P (Str.ofString "__name__"), (.str (Str.ofString "__name__") 165), (.str (Str.ofString "cpy313.tabnanny") 2268)⟩, ⟨PyData.keyHash P (Str.ofString "__doc__"), (.str (Str.ofString "__doc__") 166), .none⟩, ⟨PyData.keyHash P (Str.ofString "__package__"), (.str (Str.ofString "__package__") 167), .none⟩, ⟨PyData.keyHash P (Str.ofString "__loader__"), (.str (Str.ofString "__loader__") 168), (.builtin "__main__.__loader__#opaque")⟩, ⟨PyData.keyHash P (Str.ofString "__spec__"), (.str (Str.ofString "__spec__") 169), .none⟩, ⟨PyData.keyHash P (Str.ofString "__annotations__"), (.str (Str.ofString "__annotations__") 170), (.ref 6)⟩, ⟨PyData.keyHash P (Str.ofString "__builtins__"), (.str (Str.ofString "__builtins__") 171), (.ref 4)⟩, ⟨PyData.keyHash P (Str.ofString "__file__"), (.str (Str.ofString "__file__") 173), (.str (Str.ofString "/claim/cut.py") 172)⟩, ⟨PyData.keyHash P (Str.ofString "__cached__"), (.str (Str.ofString "__cached__") 174), .none⟩, ⟨PyData.keyHash P (Str.ofString "_wall"), (.str (Str.ofString "_wall") 193), (.ref 21)⟩, ⟨PyData.keyHash P (Str.ofString "CHAR_MAX"), (.str (Str.ofString "CHAR_MAX") 197), (.int 127 196)⟩, ⟨PyData.keyHash P (Str.ofString "_grouping_intervals"), (.str (Str.ofString "_grouping_intervals") 206), (.ref 28)⟩, ⟨PyData.keyHash P (Str.ofString "add"), (.str (Str.ofString "add") 216), (.ref 35)⟩, ⟨PyData.keyHash P (Str.ofString "mul"), (.str (Str.ofString "mul") 224), (.ref 42)⟩, ⟨PyData.keyHash P (Str.ofString "neg"), (.str (Str.ofString "neg") 231), (.ref 49)⟩, ⟨PyData.keyHash P (Str.ofString "contains"), (.str (Str.ofString "contains") 239), (.ref 56)⟩, ⟨PyData.keyHash P (Str.ofString "b1_set"), (.str (Str.ofString "b1_set") 301), (.ref 64)⟩, ⟨PyData.keyHash P (Str.ofString "in_table_b1"), (.str (Str.ofString "in_table_b1") 308), (.ref 74)⟩, ⟨PyData.keyHash P (Str.ofString "b3_exceptions"), (.str (Str.ofString "b3_exceptions") 2259), (.ref 75)⟩, ⟨PyData.keyHash P (Str.ofString "map_table_b3"), (.str (Str.ofString "map_table_b3") 2267), (.ref 120)⟩, ⟨PyData.keyHash P (Str.ofString "Whitespace"), (.str (Str.ofString "Whitespace") 2370), (.ref 182)⟩] 21), #[]⟩
noncomputable def o12_3 (P : Params) : Obj := ⟨.none, none, (.fields #[(.int 1 0), (.int 0 0), (.ref 20), (.int 6 0), (.int 0 0), (.ref 27), (.int 19 0), (.int 0 0), (.ref 34), (.int 21 0), (.int 0 0), (.ref 41), (.int 23 0), (.int 0 0), (.ref 48), (.int 25 0), (.int 0 0), (.ref 55), (.int 29 0), (.int 0 0), (.ref 73), (.int 32 0), (.int 0 0), (.ref 119), (.int 38 0), (.int 0 0), (.ref 126)]), #[]⟩
noncomputable def o114_0 (P : Params) : Obj := ⟨(.type "tuple"), none, (.seq #[] 0), #[]⟩
noncomputable def o115_0 (P : Params) : Obj := ⟨.none, none, (.fields #[]), #[]⟩
noncomputable def o116_0 (P : Params) : Obj := ⟨(.type "tuple"), none, (.seq #[(.str (Str.ofString "code") 2263), (.str (Str.ofString "r") 2264)] 0), #[]⟩
noncomputable def o117_0 (P : Params) : Obj := ⟨(.type "tuple"), none, (.seq #[] 0), #[]⟩
noncomputable def o118_0 (P : Params) : Obj := ⟨.none, none, (.func ⟨(Str.ofString "map_table_b3"), (Str.ofString "map_table_b3"), fdA (stm 13), .stmts (fdB (stm 13)), fdS (stm 13), 0, [], .none, .none, .none, .none, none, .none, .none, 0⟩), #[]⟩
noncomputable def o119_0 (P : Params) : Obj := ⟨(.type "code"), none, (.fields #[(.str (Str.ofString "map_table_b3") 2260), (.str (Str.ofString "map_table_b3") 2261), (.str (Str.ofString "/claim/cut.py") 2262), (.int 32 0), (.int 1 0), (.int 0 0), (.int 0 0), (.int 3 0), (.ref 114), (.bool true), (.int 181 0), (.ref 115), .none, (.ref 116), (.ref 117), (.ref 118), (.int 2265 0), (.int 32 0), (.str (Str.ofString "/claim/cut.py") 2266)]), #[]⟩
noncomputable def o120_0 (P : Params) : Obj := ⟨(.type "function"), none, (.func ⟨(Str.ofString "map_table_b3"), (Str.ofString "map_table_b3"), fdA (stm 13), .stmts (fdB (stm 13)), fdS (stm 13), 3, [], .none, .none, .none, (.str (Str.ofString "cpy313.stringprep") 240), none, (.ref 119), .none, 0⟩), #[]⟩
noncomputable def o121_0 (P : Params) : Obj := ⟨(.type "tuple"), none, (.seq #[] 0), #[]⟩
noncomputable def o122_0 (P : Params) : Obj := ⟨(.type "builtin_function_or_method"), none, (.fields #[(.builtin "type.__prepare__"), (.type "type")]), #[]⟩
noncomputable def o123_0 (P : Params) : Obj := ⟨(.type "dict"), none, (.dict #[⟨PyData.keyHash P (Str.ofString "__module__"), (.str (Str.ofString "__module__") 2277), (.str (Str.ofString "cpy313.tabnanny") 2268)⟩, ⟨PyData.keyHash P (Str.ofString "__qualname__"), (.str (Str.ofString "__qualname__") 2279), (.str (Str.ofString "Whitespace") 2278)⟩, ⟨PyData.keyHash P (Str.ofString "__firstlineno__"), (.str (Str.ofString "__firstlineno__") 2281), (.int 38 2280)⟩, ⟨PyData.keyHash P (Str.ofString "S"), (.str (Str.ofString "S") 2285), (.str (Str.ofString " ") 2283)⟩, ⟨PyData.keyHash P (Str.ofString "T"), (.str (Str.ofString "T") 2286), (.str (Str.ofString "\t") 2284)⟩, ⟨PyData.keyHash P (Str.ofString "__init__"), (.str (Str.ofString "__init__") 2301), (.ref 137)⟩, ⟨PyData.keyHash P (Str.ofString "longest_run_of_spaces"), (.str (Str.ofString "longest_run_of_spaces") 2310), (.ref 144)⟩, ⟨PyData.keyHash P (Str.ofString "indent_level"), (.str (Str.ofString "indent_level") 2322), (.ref 151)⟩, ⟨PyData.keyHash P (Str.ofString "equal"), (.str (Str.ofString "equal") 2330), (.ref 158)⟩, ⟨PyData.keyHash P (Str.ofString "not_equal_witness"), (.str (Str.ofString "not_equal_witness") 2341), (.ref 165)⟩, ⟨PyData.keyHash P (Str.ofString "less"), (.str (Str.ofString "less") 2349), (.ref 172)⟩, ⟨PyData.keyHash P (Str.ofString "not_less_witness"), (.str (Str.ofString "not_less_witness") 2357), (.ref 179)⟩, ⟨PyData.keyHash P (Str.ofString "__static_attributes__"), (.str (Str.ofString "__static_attributes__") 2363), (.ref 180)⟩] 13), #[]⟩
noncomputable def o124_0 (P : Params) : Obj := ⟨(.type "tuple"), none, (.seq #[] 0), #[]⟩
noncomputable def o125_0 (P : Params) : Obj := ⟨.none, none, (.fields #[(.int 41 0), (.int 4 0), (.ref 136), (.int 64 0), (.int 4 0), (.ref 143), (.int 68 0), (.int 4 0), (.ref 150), (.int 75 0), (.int 4 0), (.ref 157), (.int 78 0), (.int 4 0), (.ref 164), (.int 86 0), (.int 4 0), (.ref 171), (.int 89 0), (.int 4 0), (.ref 178)]), #[]⟩
noncomputable def o126_0 (P : Params) : Obj := ⟨(.type "code"), none, (.fields #[(.str (Str.ofString "Whitespace") 2272), (.str (Str.ofString "Whitespace") 2273), (.str (Str.ofString "/claim/cut.py") 2274), (.int 38 0), (.int 0 0), (.int 0 0), (.int 0 0), (.int 0 0), (.ref 124), (.bool false), (.int 181 0), (.ref 125), .none, .none, .none, .none, (.int 2275 0), (.int 38 0), (.str (Str.ofString "/claim/cut.py") 2276)]), #[]⟩
noncomputable def o127_0 (P : Params) : Obj := ⟨(.type "frame"), none, .plain, #[(some (.ref 126)), (some (.ref 3)), (some (.ref 123)), none, (some (.str (Str.ofString "cpy313.tabnanny") 2268)), none, (some (.ref 0))]⟩
noncomputable def o128_0 (P : Params) : Obj := ⟨(.type "str_ascii_iterator"), none, (.fields #[.none, (.int 2 0)]), #[]⟩
noncomputable def o129_0 (P : Params) : Obj := ⟨(.type "tuple"), none, (.seq #[] 0), #[]⟩
noncomputable def o130_0 (P : Params) : Obj := ⟨(.type "StopIteration"), none, (.fields #[(.ref 129), .none, .none, .none, (.bool false), .none]), #[]⟩
noncomputable def o131_0 (P : Params) : Obj := ⟨(.type "tuple"), none, (.seq #[] 0), #[]⟩
noncomputable def o132_0 (P : Params) : Obj := ⟨.none, none, (.fields #[]), #[]⟩
noncomputable def o133_0 (P : Params) : Obj := ⟨(.type "tuple"), none, (.seq #[(.str (Str.ofString "self") 2290), (.str (Str.ofString "ws") 2291), (.str (Str.ofString "S") 2292), (.str (Str.ofString "T") 2293), (.str (Str.ofString "count") 2294), (.str (Str.ofString "b") 2295), (.str (Str.ofString "n") 2296), (.str (Str.ofString "nt") 2297), (.str (Str.ofString "ch") 2298)] 0), #[]⟩
noncomputable def o134_0 (P : Params) : Obj := ⟨(.type "tuple"), none, (.seq #[] 0), #[]⟩
noncomputable def o135_0 (P : Params) : Obj := ⟨.none, none, (.func ⟨(Str.ofString "__init__"), (Str.ofString "Whitespace.__init__"), fdA (mth 1), .stmts (fdB (mth 1)), fdS (mth 1), 0, [], .none, .none, .none, .none, none, .none, .none, 0⟩), #[]⟩
noncomputable def o136_0 (P : Params) : Obj := ⟨(.type "code"), none, (.fields #[(.str (Str.ofString "__init__") 2287), (.str (Str.ofString "Whitespace.__init__") 2288), (.str (Str.ofString "/claim/cut.py") 2289), (.int 41 0), (.int 2 0), (.int 0 0), (.int 0 0), (.int 3 0), (.ref 131), (.bool true), (.int 181 0), (.ref 132), .none, (.ref 133), (.ref 134), (.ref 135), (.int 2299 0), (.int 41 0), (.str (Str.ofString "/claim/cut.py") 2300)]), #[]⟩
noncomputable def o137_0 (P : Params) : Obj := ⟨(.type "function"), none, (.func ⟨(Str.ofString "__init__"), (Str.ofString "Whitespace.__init__"), fdA (mth 1), .stmts (fdB (mth 1)), fdS (mth 1), 3, [], .none, .none, .none, (.str (Str.ofString "cpy313.tabnanny") 2268), none, (.ref 136), .none, 0⟩), #[]⟩
noncomputable def o138_0 (P : Params) : Obj := ⟨(.type "tuple"), none, (.seq #[] 0), #[]⟩
noncomputable def o139_0 (P : Params) : Obj := ⟨.none, none, (.fields #[]), #[]⟩
noncomputable def o140_0 (P : Params) : Obj := ⟨(.type "tuple"), none, (.seq #[(.str (Str.ofString "self") 2305), (.str (Str.ofString "count") 2306), (.str (Str.ofString "trailing") 2307)] 0), #[]⟩
noncomputable def o141_0 (P : Params) : Obj := ⟨(.type "tuple"), none, (.seq #[] 0), #[]⟩
noncomputable def o142_0 (P : Params) : Obj := ⟨.none, none, (.func ⟨(Str.ofString "longest_run_of_spaces"), (Str.ofString "Whitespace.longest_run_of_spaces"), fdA (mth 2), .stmts (fdB (mth 2)), fdS (mth 2), 0, [], .none, .none, .none, .none, none, .none, .none, 0⟩), #[]⟩
noncomputable def o143_0 (P : Params) : Obj := ⟨(.type "code"), none, (.fields #[(.str (Str.ofString "longest_run_of_spaces") 2302), (.str (Str.ofString "Whitespace.longest_run_of_spaces") 2303), (.str (Str.ofString "/claim/cut.py") 2304), (.int 64 0), (.int 1 0), (.int 0 0), (.int 0 0), (.int 3 0), (.ref 138), (.bool true), (.int 181 0), (.ref 139), .none, (.ref 140), (.ref 141), (.ref 142), (.int 2308 0), (.int 64 0), (.str (Str.ofString "/claim/cut.py") 2309)]), #[]⟩
noncomputable def o144_0 (P : Params) : Obj := ⟨(.type "function"), none, (.func ⟨(Str.ofString "longest_run_of_spaces"), (Str.ofString "Whitespace.longest_run_of_spaces"), fdA (mth 2), .stmts (fdB (mth 2)), fdS (mth 2), 3, [], .none, .none, .none, (.str (Str.ofString "cpy313.tabnanny") 2268), none, (.ref 143), .none, 0⟩), #[]⟩
noncomputable def o145_0 (P : Params) : Obj := ⟨(.type "tuple"), none, (.seq #[] 0), #[]⟩
noncomputable def o146_0 (P : Params) : Obj := ⟨.none, none, (.fields #[]), #[]⟩
noncomputable def o147_0 (P : Params) : Obj := ⟨(.type "tuple"), none, (.seq #[(.str (Str.ofString "self") 2314), (.str (Str.ofString "tabsize") 2315), (.str (Str.ofString "count") 2316), (.str (Str.ofString "trailing") 2317), (.str (Str.ofString "il") 2318), (.str (Str.ofString "i") 2319)] 0), #[]⟩
noncomputable def o148_0 (P : Params) : Obj := ⟨(.type "tuple"), none, (.seq #[] 0), #[]⟩
noncomputable def o149_0 (P : Params) : Obj := ⟨.none, none, (.func ⟨(Str.ofString "indent_level"), (Str.ofString "Whitespace.indent_level"), fdA (mth 3), .stmts (fdB (mth 3)), fdS (mth 3), 0, [], .none, .none, .none, .none, none, .none, .none, 0⟩), #[]⟩
noncomputable def o150_0 (P : Params) : Obj := ⟨(.type "code"), none, (.fields #[(.str (Str.ofString "indent_level") 2311), (.str (Str.ofString "Whitespace.indent_level") 2312), (.str (Str.ofString "/claim/cut.py") 2313), (.int 68 0), (.int 2 0), (.int 0 0), (.int 0 0), (.int 3 0), (.ref 145), (.bool true), (.int 181 0), (.ref 146), .none, (.ref 147), (.ref 148), (.ref 149), (.int 2320 0), (.int 68 0), (.str (Str.ofString "/claim/cut.py") 2321)]), #[]⟩
noncomputable def o151_0 (P : Params) : Obj := ⟨(.type "function"), none, (.func ⟨(Str.ofString "indent_level"), (Str.ofString "Whitespace.indent_level"), fdA (mth 3), .stmts (fdB (mth 3)), fdS (mth 3), 3, [], .none, .none, .none, (.str (Str.ofString "cpy313.tabnanny") 2268), none, (.ref 150), .none, 0⟩), #[]⟩
noncomputable def o152_0 (P : Params) : Obj := ⟨(.type "tuple"), none, (.seq #[] 0), #[]⟩
noncomputable def o153_0 (P : Params) : Obj := ⟨.none, none, (.fields #[]), #[]⟩
noncomputable def o154_0 (P : Params) : Obj := ⟨(.type "tuple"), none, (.seq #[(.str (Str.ofString "self") 2326), (.str (Str.ofString "other") 2327)] 0), #[]⟩
noncomputable def o155_0 (P : Params) : Obj := ⟨(.type "tuple"), none, (.seq #[] 0), #[]⟩
noncomputable def o156_0 (P : Params) : Obj := ⟨.none, none, (.func ⟨(Str.ofString "equal"), (Str.ofString "Whitespace.equal"), fdA (mth 4), .stmts (fdB (mth 4)), fdS (mth 4), 0, [], .none, .none, .none, .none, none, .none, .none, 0⟩), #[]⟩
noncomputable def o157_0 (P : Params) : Obj := ⟨(.type "code"), none, (.fields #[(.str (Str.ofString "equal") 2323), (.str (Str.ofString "Whitespace.equal") 2324), (.str (Str.ofString "/claim/cut.py") 2325), (.int 75 0), (.int 2 0), (.int 0 0), (.int 0 0), (.int 3 0), (.ref 152), (.bool true), (.int 181 0), (.ref 153), .none, (.ref 154), (.ref 155), (.ref 156), (.int 2328 0), (.int 75 0), (.str (Str.ofString "/claim/cut.py") 2329)]), #[]⟩
noncomputable def o158_0 (P : Params) : Obj := ⟨(.type "function"), none, (.func ⟨(Str.ofString "equal"), (Str.ofString "Whitespace.equal"), fdA (mth 4), .stmts (fdB (mth 4)), fdS (mth 4), 3, [], .none, .none, .none, (.str (Str.ofString "cpy313.tabnanny") 2268), none, (.ref 157), .none, 0⟩), #[]⟩
noncomputable def o159_0 (P : Params) : Obj := ⟨(.type "tuple"), none, (.seq #[] 0), #[]⟩
noncomputable def o160_0 (P : Params) : Obj := ⟨.none, none, (.fields #[]), #[]⟩
noncomputable def o161_0 (P : Params) : Obj := ⟨(.type "tuple"), none, (.seq #[(.str (Str.ofString "self") 2334), (.str (Str.ofString "other") 2335), (.str (Str.ofString "n") 2336), (.str (Str.ofString "a") 2337), (.str (Str.ofString "ts") 2338)] 0), #[]⟩
noncomputable def o162_0 (P : Params) : Obj := ⟨(.type "tuple"), none, (.seq #[] 0), #[]⟩
noncomputable def o163_0 (P : Params) : Obj := ⟨.none, none, (.func ⟨(Str.ofString "not_equal_witness"), (Str.ofString "Whitespace.not_equal_witness"), fdA (mth 5), .stmts (fdB (mth 5)), fdS (mth 5), 0, [], .none, .none, .none, .none, none, .none, .none, 0⟩), #[]⟩
noncomputable def o164_0 (P : Params) : Obj := ⟨(.type "code"), none, (.fields #[(.str (Str.ofString "not_equal_witness") 2331), (.str (Str.ofString "Whitespace.not_equal_witness") 2332), (.str (Str.ofString "/claim/cut.py") 2333), (.int 78 0), (.int 2 0), (.int 0 0), (.int 0 0), (.int 3 0), (.ref 159), (.bool true), (.int 181 0), (.ref 160), .none, (.ref 161), (.ref 162), (.ref 163), (.int 2339 0), (.int 78 0), (.str (Str.ofString "/claim/cut.py") 2340)]), #[]⟩
noncomputable def o165_0 (P : Params) : Obj := ⟨(.type "function"), none, (.func ⟨(Str.ofString "not_equal_witness"), (Str.ofString "Whitespace.not_equal_witness"), fdA (mth 5), .stmts (fdB (mth 5)), fdS (mth 5), 3, [], .none, .none, .none, (.str (Str.ofString "cpy313.tabnanny") 2268), none, (.ref 164), .none, 0⟩), #[]⟩
noncomputable def o166_0 (P : Params) : Obj := ⟨(.type "tuple"), none, (.seq #[] 0), #[]⟩
noncomputable def o167_0 (P : Params) : Obj := ⟨.none, none, (.fields #[]), #[]⟩
noncomputable def o168_0 (P : Params) : Obj := ⟨(.type "tuple"), none, (.seq #[(.str (Str.ofString "self") 2345), (.str (Str.ofString "other") 2346)] 0), #[]⟩
noncomputable def o169_0 (P : Params) : Obj := ⟨(.type "tuple"), none, (.seq #[] 0), #[]⟩
noncomputable def o170_0 (P : Params) : Obj := ⟨.none, none, (.func ⟨(Str.ofString "less"), (Str.ofString "Whitespace.less"), fdA (mth 6), .stmts (fdB (mth 6)), fdS (mth 6), 0, [], .none, .none, .none, .none, none, .none, .none, 0⟩), #[]⟩
noncomputable def o171_0 (P : Params) : Obj := ⟨(.type "code"), none, (.fields #[(.str (Str.ofString "less") 2342), (.str (Str.ofString "Whitespace.less") 2343), (.str (Str.ofString "/claim/cut.py") 2344), (.int 86 0), (.int 2 0), (.int 0 0), (.int 0 0), (.int 3 0), (.ref 166), (.bool true), (.int 181 0), (.ref 167), .none, (.ref 168), (.ref 169), (.ref 170), (.int 2347 0), (.int 86 0), (.str (Str.ofString "/claim/cut.py") 2348)]), #[]⟩
noncomputable def o172_0 (P : Params) : Obj := ⟨(.type "function"), none, (.func ⟨(Str.ofString "less"), (Str.ofString "Whitespace.less"), fdA (mth 6), .stmts (fdB (mth 6)), fdS (mth 6), 3, [], .none, .none, .none, (.str (Str.ofString "cpy313.tabnanny") 2268), none, (.ref 171), .none, 0⟩), #[]⟩
noncomputable def o173_0 (P : Params) : Obj := ⟨(.type "tuple"), none, (.seq #[] 0), #[]⟩
noncomputable def o174_0 (P : Params) : Obj := ⟨.none, none, (.fields #[]), #[]⟩
noncomputable def o175_0 (P : Params) : Obj := ⟨(.type "tuple"), none, (.seq #[(.str (Str.ofString "self") 2353), (.str (Str.ofString "other") 2354)] 0), #[]⟩
noncomputable def o176_0 (P : Params) : Obj := ⟨(.type "tuple"), none, (.seq #[] 0), #[]⟩
noncomputable def o177_0 (P : Params) : Obj := ⟨.none, none, (.func ⟨(Str.ofString "not_less_witness"), (Str.ofString "Whitespace.not_less_witness"), fdA (mth 7), .stmts (fdB (mth 7)), fdS (mth 7), 0, [], .none, .none, .none, .none, none, .none, .none, 0⟩), #[]⟩
noncomputable def o178_0 (P : Params) : Obj := ⟨(.type "code"), none, (.fields #[(.str (Str.ofString "not_less_witness") 2350), (.str (Str.ofString "Whitespace.not_less_witness") 2351), (.str (Str.ofString "/claim/cut.py") 2352), (.int 89 0), (.int 2 0), (.int 0 0), (.int 0 0), (.int 3 0), (.ref 173), (.bool true), (.int 181 0), (.ref 174), .none, (.ref 175), (.ref 176), (.ref 177), (.int 2355 0), (.int 89 0), (.str (Str.ofString "/claim/cut.py") 2356)]), #[]⟩
noncomputable def o179_0 (P : Params) : Obj := ⟨(.type "function"), none, (.func ⟨(Str.ofString "not_less_witness"), (Str.ofString "Whitespace.not_less_witness"), fdA (mth 7), .stmts (fdB (mth 7)), fdS (mth 7), 3, [], .none, .none, .none, (.str (Str.ofString "cpy313.tabnanny") 2268), none, (.ref 178), .none, 0⟩), #[]⟩
noncomputable def o180_0 (P : Params) : Obj := ⟨(.type "tuple"), none, (.seq #[(.str (Str.ofString "is_simple") 2358), (.str (Str.ofString "n") 2359), (.str (Str.ofString "norm") 2360), (.str (Str.ofString "nt") 2361), (.str (Str.ofString "raw") 2362)] 0), #[]⟩
noncomputable def o181_0 (P : Params) : Obj := ⟨(.type "dict"), none, (.dict #[⟨PyData.keyHash P (Str.ofString "__module__"), (.str (Str.ofString "__module__") 2277), (.str (Str.ofString "cpy313.tabnanny") 2268)⟩, ⟨PyData.keyHash P (Str.ofString "__firstlineno__"), (.str (Str.ofString "__firstlineno__") 2281), (.int 38 2280)⟩, ⟨PyData.keyHash P (Str.ofString "S"), (.str (Str.ofString "S") 2285), (.str (Str.ofString " ") 2283)⟩, ⟨PyData.keyHash P (Str.ofString "T"), (.str (Str.ofString "T") 2286), (.str (Str.ofString "\t") 2284)⟩, ⟨PyData.keyHash P (Str.ofString "__init__"), (.str (Str.ofString "__init__") 2301), (.ref 137)⟩, ⟨PyData.keyHash P (Str.ofString "longest_run_of_spaces"), (.str (Str.ofString "longest_run_of_spaces") 2310), (.ref 144)⟩, ⟨PyData.keyHash P (Str.ofString "indent_level"), (.str (Str.ofString "indent_level") 2322), (.ref 151)⟩, ⟨PyData.keyHash P (Str.ofString "equal"), (.str (Str.ofString "equal") 2330), (.ref 158)⟩, ⟨PyData.keyHash P (Str.ofString "not_equal_witness"), (.str (Str.ofString "not_equal_witness") 2341), (.ref 165)⟩, ⟨PyData.keyHash P (Str.ofString "less"), (.str (Str.ofString "less") 2349), (.ref 172)⟩, ⟨PyData.keyHash P (Str.ofString "not_less_witness"), (.str (Str.ofString "not_less_witness") 2357), (.ref 179)⟩, ⟨PyData.keyHash P (Str.ofString "__static_attributes__"), (.str (Str.ofString "__static_attributes__") 2363), (.ref 180)⟩, ⟨PyData.keyHash P (Str.ofString "__dict__"), (.str (Str.ofString "__dict__") 2365), (.ref 183)⟩, ⟨PyData.keyHash P (Str.ofString "__weakref__"), (.str (Str.ofString "__weakref__") 2367), (.ref 184)⟩, ⟨PyData.keyHash P (Str.ofString "__doc__"), (.str (Str.ofString "__doc__") 2368), .none⟩] 4), #[]⟩
noncomputable def o182_0 (P : Params) : Obj := ⟨(.type "type"), none, (.cls ⟨(Str.ofString "Whitespace"), [(.type "object")], [(.ref 182), (.type "object")], 181, (Str.ofString "Whitespace"), true, [], [], false, none, false⟩), #[none, none, (some (.str (Str.ofString "Whitespace") 2270)), (some (.str (Str.ofString "Whitespace") 2278)), (some (.builtin "object.__new__")), (some (.bool true))]⟩
noncomputable def o183_0 (P : Params) : Obj := ⟨(.type "getset_descriptor"), none, (.fields #[(.str (Str.ofString "__dict__") 2364), (.ref 182), (.builtin "function.__dict__"), (.builtin "function.__dict__#set")]), #[]⟩
noncomputable def o184_0 (P : Params) : Obj := ⟨(.type "getset_descriptor"), none, (.fields #[(.str (Str.ofString "__weakref__") 2366), (.ref 182), (.builtin "ExceptionGroup.__weakref__"), .none]), #[]⟩
noncomputable def o185_0 (P : Params) : Obj := ⟨(.type "super"), none, (.fields #[(.ref 182), (.ref 182), (.ref 182)]), #[]⟩
noncomputable def o186_0 (P : Params) : Obj := ⟨(.type "builtin_function_or_method"), none, (.fields #[(.builtin "object.__init_subclass__"), (.ref 182)]), #[]⟩
noncomputable def TB5 (P : Params) : BT := (.node (boot_o_0 P) (.node (boot_o_1 P) (.node (o3_5 P) (.node (boot_o_7 P) (.node (o15_0 P) (.node (o31_0 P) (.node (o63_0 P) (.node (o127_0 P) .nil .nil) .nil) (.node (b3 20) (.node (o159_0 P) .nil .nil) .nil)) (.node (o47_0 P) (.node (b3 4) (.node (o143_0 P) .nil .nil) .nil) (.node (b3 36) (.node (o175_0 P) .nil .nil) .nil))) (.node (o23_0 P) (.node (o39_0 P) (.node (o71_0 P) (.node (o135_0 P) .nil .nil) .nil) (.node (b3 28) (.node (o167_0 P) .nil .nil) .nil)) (.node (o55_0 P) (.node (b3 12) (.node (o151_0 P) .nil .nil) .nil) (.node (o119_0 P) (.node (o183_0 P) .nil .nil) .nil)))) (.node (o11_0 P) (.node (o19_0 P) (.node (o35_0 P) (.node (o67_0 P) (.node (o131_0 P) .nil .nil) .nil) (.node (b3 24) (.node (o163_0 P) .nil .nil) .nil)) (.node (o51_0 P) (.node (b3 8) (.node (o147_0 P) .nil .nil) .nil) (.node (o115_0 P) (.node (o179_0 P) .nil .nil) .nil))) (.node (o27_0 P) (.node (o43_0 P) (.node (b3 0) (.node (o139_0 P) .nil .nil) .nil) (.node (b3 32) (.node (o171_0 P) .nil .nil) .nil)) (.node (o59_0 P) (.node (b3 16) (.node (o155_0 P) .nil .nil) .nil) (.node (o123_0 P) .nil .nil))))) (.node (boot_o_5 P) (.node (boot_o_9 P) (.node (o17_0 P) (.node (o33_0 P) (.node (o65_0 P) (.node (o129_0 P) .nil .nil) .nil) (.node (b3 22) (.node (o161_0 P) .nil .nil) .nil)) (.node (o49_0 P) (.node (b3 6) (.node (o145_0 P) .nil .nil) .nil) (.node (b3 38) (.node (o177_0 P) .nil .nil) .nil))) (.node (o25_0 P) (.node (o41_0 P) (.node (o73_0 P) (.node (o137_0 P) .nil .nil) .nil) (.node (b3 30) (.node (o169_0 P) .nil .nil) .nil)) (.node (o57_0 P) (.node (b3 14) (.node (o153_0 P) .nil .nil) .nil) (.node (o121_0 P) (.node (o185_0 P) .nil .nil) .nil)))) (.node (o13_0 P) (.node (o21_0 P) (.node (o37_0 P) (.node (o69_0 P) (.node (o133_0 P) .nil .nil) .nil) (.node (b3 26) (.node (o165_0 P) .nil .nil) .nil)) (.node (o53_0 P) (.node (b3 10) (.node (o149_0 P) .nil .nil) .nil) (.node (o117_0 P) (.node (o181_0 P) .nil .nil) .nil))) (.node (o29_0 P) (.node (o45_0 P) (.node (b3 2) (.node (o141_0 P) .nil .nil) .nil) (.node (b3 34) (.node (o173_0 P) .nil .nil) .nil)) (.node (o61_0 P) (.node (b3 18) (.node (o157_0 P) .nil .nil) .nil) (.node (o125_0 P) .nil .nil)))))) (.node (boot_o_2 P) (.node (boot_o_4 P) (.node (boot_o_8 P) (.node (o16_0 P) (.node (o32_0 P) (.node (o64_0 P) (.node (o128_0 P) .nil .nil) .nil) (.node (b3 21) (.node (o160_0 P) .nil .nil) .nil)) (.node (o48_0 P) (.node (b3 5) (.node (o144_0 P) .nil .nil) .nil) (.node (b3 37) (.node (o176_0 P) .nil .nil) .nil))) (.node (o24_0 P) (.node (o40_0 P) (.node (o72_0 P) (.node (o136_0 P) .nil .nil) .nil) (.node (b3 29) (.node (o168_0 P) .nil .nil) .nil)) (.node (o56_0 P) (.node (b3 13) (.node (o152_0 P) .nil .nil) .nil) (.node (o120_0 P) (.node (o184_0 P) .nil .nil) .nil)))) (.node (o12_3 P) (.node (o20_0 P) (.node (o36_0 P) (.node (o68_0 P) (.node (o132_0 P) .nil .nil) .nil) (.node (b3 25) (.node (o164_0 P) .nil .nil) .nil)) (.node (o52_0 P) (.node (b3 9) (.node (o148_0 P) .nil .nil) .nil) (.node (o116_0 P) (.node (o180_0 P) .nil .nil) .nil))) (.node (o28_0 P) (.node (o44_0 P) (.node (b3 1) (.node (o140_0 P) .nil .nil) .nil) (.node (b3 33) (.node (o172_0 P) .nil .nil) .nil)) (.node (o60_0 P) (.node (b3 17) (.node (o156_0 P) .nil .nil) .nil) (.node (o124_0 P) .nil .nil))))) (.node (boot_o_6 P) (.node (boot_o_10 P) (.node (o18_0 P) (.node (o34_0 P) (.node (o66_0 P) (.node (o130_0 P) .nil .nil) .nil) (.node (b3 23) (.node (o162_0 P) .nil .nil) .nil)) (.node (o50_0 P) (.node (b3 7) (.node (o146_0 P) .nil .nil) .nil) (.node (o114_0 P) (.node (o178_0 P) .nil .nil) .nil))) (.node (o26_0 P) (.node (o42_0 P) (.node (o74_0 P) (.node (o138_0 P) .nil .nil) .nil) (.node (b3 31) (.node (o170_0 P) .nil .nil) .nil)) (.node (o58_0 P) (.node (b3 15) (.node (o154_0 P) .nil .nil) .nil) (.node (o122_0 P) (.node (o186_0 P) .nil .nil) .nil)))) (.node (o14_0 P) (.node (o22_0 P) (.node (o38_0 P) (.node (o70_0 P) (.node (o134_0 P) .nil .nil) .nil) (.node (b3 27) (.node (o166_0 P) .nil .nil) .nil)) (.node (o54_0 P) (.node (b3 11) (.node (o150_0 P) .nil .nil) .nil) (.node (o118_0 P) (.node (o182_0 P) .nil .nil) .nil))) (.node (o30_0 P) (.node (o46_0 P) (.node (b3 3) (.node (o142_0 P) .nil .nil) .nil) (.node (b3 35) (.node (o174_0 P) .nil .nil) .nil)) (.node (o62_0 P) (.node (b3 19) (.node (o158_0 P) .nil .nil) .nil) (.node (o126_0 P) .nil .nil)))))))
noncomputable def o3_6 (P : Params) : Obj := ⟨(.type "dict"), none, (.dict #[⟨PyData.keyHash P (Str.ofString "__name__"), (.str (Str.ofString "__name__") 165), (.str (Str.ofString "law_tl0046_01") 2371)⟩, ⟨PyData.keyHash P (Str.ofString "__doc__"), (.str (Str.ofString "__doc__") 166), .none⟩, ⟨PyData.keyHash P (Str.ofString "__package__"), (.str (Str.ofString "__package__") 167), .none⟩, ⟨PyData.keyHash P (Str.ofString "__loader__"), (.str (Str.ofString "__loader__") 168), (.builtin "__main__.__loader__#opaque")⟩, ⟨PyData.keyHash P (Str.ofString "__spec__"), (.str (Str.ofString "__spec__") 169), .none⟩, ⟨PyData.keyHash P (Str.ofString "__annotations__"), (.str (Str.ofString "__annotations__") 170), (.ref 6)⟩, ⟨PyData.keyHash P (Str.ofString "__builtins__"), (.str (Str.ofString "__builtins__") 171), (.ref 4)⟩, ⟨PyData.keyHash P (Str.ofString "__file__"), (.str (Str.ofString "__file__") 173), (.str (Str.ofString "/claim/cut.py") 172)⟩, ⟨PyData.keyHash P (Str.ofString "__cached__"), (.str (Str.ofString "__cached__") 174), .none⟩, ⟨PyData.keyHash P (Str.ofString "_wall"), (.str (Str.ofString "_wall") 193), (.ref 21)⟩, ⟨PyData.keyHash P (Str.ofString "CHAR_MAX"), (.str (Str.ofString "CHAR_MAX") 197), (.int 127 196)⟩, ⟨PyData.keyHash P (Str.ofString "_grouping_intervals"), (.str (Str.ofString "_grouping_intervals") 206), (.ref 28)⟩, ⟨PyData.keyHash P (Str.ofString "add"), (.str (Str.ofString "add") 216), (.ref 35)⟩, ⟨PyData.keyHash P (Str.ofString "mul"), (.str (Str.ofString "mul") 224), (.ref 42)⟩, ⟨PyData.keyHash P (Str.ofString "neg"), (.str (Str.ofString "neg") 231), (.ref 49)⟩, ⟨PyData.keyHash P (Str.ofString "contains"), (.str (Str.ofString "contains") 239), (.ref 56)⟩, ⟨PyData.keyHash P (Str.ofString "b1_set"), (.str (Str.ofString "b1_set") 301), (.ref 64)⟩, ⟨PyData.keyHash P (Str.ofString "in_table_b1"), (.str (Str.ofString "in_table_b1") 308), (.ref 74)⟩, ⟨PyData.keyHash P (Str.ofString "b3_exceptions"), (.str (Str.ofString "b3_exceptions") 2259), (.ref 75)⟩, ⟨PyData.keyHash P (Str.ofString "map_table_b3"), (.str (Str.ofString "map_table_b3") 2267), (.ref 120)⟩, ⟨PyData.keyHash P (Str.ofString "Whitespace"), (.str (Str.ofString "Whitespace") 2370), (.ref 182)⟩, ⟨PyData.keyHash P (Str.ofString "_law_typed"), (.str (Str.ofString "_law_typed") 2380), (.ref 193)⟩, ⟨PyData.keyHash P (Str.ofString "_law_meant"), (.str (Str.ofString "_law_meant") 2387), (.ref 200)⟩, ⟨PyData.keyHash P (Str.ofString "_law_prepared"), (.str (Str.ofString "_law_prepared") 2393), (.ref 205)⟩, ⟨PyData.keyHash P (Str.ofString "_law_walk"), (.str (Str.ofString "_law_walk") 2407), (.ref 212)⟩, ⟨PyData.keyHash P (Str.ofString "_law_lead"), (.str (Str.ofString "_law_lead") 2417), (.ref 219)⟩, ⟨PyData.keyHash P (Str.ofString "_law_due"), (.str (Str.ofString "_law_due") 2423), (.ref 224)⟩, ⟨PyData.keyHash P (Str.ofString "law"), (.str (Str.ofString "law") 2429), (.ref 229)⟩] 28), #[]⟩
noncomputable def o12_4 (P : Params) : Obj := ⟨.none, none, (.fields #[(.int 1 0), (.int 0 0), (.ref 20), (.int 6 0), (.int 0 0), (.ref 27), (.int 19 0), (.int 0 0), (.ref 34), (.int 21 0), (.int 0 0), (.ref 41), (.int 23 0), (.int 0 0), (.ref 48), (.int 25 0), (.int 0 0), (.ref 55), (.int 29 0), (.int 0 0), (.ref 73), (.int 32 0), (.int 0 0), (.ref 119), (.int 38 0), (.int 0 0), (.ref 126), (.int 92 0), (.int 0 0), (.ref 192), (.int 95 0), (.int 0 0), (.ref 199), (.int 97 0), (.int 0 0), (.ref 204), (.int 99 0), (.int 0 0), (.ref 211), (.int 108 0), (.int 0 0), (.ref 218), (.int 113 0), (.int 0 0), (.ref 223), (.int 121 0), (.int 0 0), (.ref 228)]), #[]⟩
noncomputable def o187_0 (P : Params) : Obj := ⟨(.type "tuple"), none, (.seq #[] 0), #[]⟩
noncomputable def o188_0 (P : Params) : Obj := ⟨.none, none, (.fields #[]), #[]⟩
noncomputable def o189_0 (P : Params) : Obj := ⟨(.type "tuple"), none, (.seq #[(.str (Str.ofString "number") 2376), (.str (Str.ofString "ahead") 2377)] 0), #[]⟩
noncomputable def o190_0 (P : Params) : Obj := ⟨(.type "tuple"), none, (.seq #[] 0), #[]⟩
noncomputable def o191_0 (P : Params) : Obj := ⟨.none, none, (.func ⟨(Str.ofString "_law_typed"), (Str.ofString "_law_typed"), fdA (stm 17), .stmts (fdB (stm 17)), fdS (stm 17), 0, [], .none, .none, .none, .none, none, .none, .none, 0⟩), #[]⟩
noncomputable def o192_0 (P : Params) : Obj := ⟨(.type "code"), none, (.fields #[(.str (Str.ofString "_law_typed") 2373), (.str (Str.ofString "_law_typed") 2374), (.str (Str.ofString "/claim/cut.py") 2375), (.int 92 0), (.int 1 0), (.int 0 0), (.int 0 0), (.int 3 0), (.ref 187), (.bool true), (.int 181 0), (.ref 188), .none, (.ref 189), (.ref 190), (.ref 191), (.int 2378 0), (.int 92 0), (.str (Str.ofString "/claim/cut.py") 2379)]), #[]⟩
noncomputable def o193_0 (P : Params) : Obj := ⟨(.type "function"), none, (.func ⟨(Str.ofString "_law_typed"), (Str.ofString "_law_typed"), fdA (stm 17), .stmts (fdB (stm 17)), fdS (stm 17), 3, [], .none, .none, .none, (.str (Str.ofString "law_tl0046_01") 2371), none, (.ref 192), .none, 0⟩), #[]⟩
noncomputable def o194_0 (P : Params) : Obj := ⟨(.type "tuple"), none, (.seq #[] 0), #[]⟩
noncomputable def o195_0 (P : Params) : Obj := ⟨.none, none, (.fields #[]), #[]⟩
noncomputable def o196_0 (P : Params) : Obj := ⟨(.type "tuple"), none, (.seq #[(.str (Str.ofString "number") 2384)] 0), #[]⟩
noncomputable def o197_0 (P : Params) : Obj := ⟨(.type "tuple"), none, (.seq #[] 0), #[]⟩
noncomputable def o198_0 (P : Params) : Obj := ⟨.none, none, (.func ⟨(Str.ofString "_law_meant"), (Str.ofString "_law_meant"), fdA (stm 18), .stmts (fdB (stm 18)), fdS (stm 18), 0, [], .none, .none, .none, .none, none, .none, .none, 0⟩), #[]⟩
noncomputable def o199_0 (P : Params) : Obj := ⟨(.type "code"), none, (.fields #[(.str (Str.ofString "_law_meant") 2381), (.str (Str.ofString "_law_meant") 2382), (.str (Str.ofString "/claim/cut.py") 2383), (.int 95 0), (.int 1 0), (.int 0 0), (.int 0 0), (.int 3 0), (.ref 194), (.bool true), (.int 181 0), (.ref 195), .none, (.ref 196), (.ref 197), (.ref 198), (.int 2385 0), (.int 95 0), (.str (Str.ofString "/claim/cut.py") 2386)]), #[]⟩
noncomputable def o200_0 (P : Params) : Obj := ⟨(.type "function"), none, (.func ⟨(Str.ofString "_law_meant"), (Str.ofString "_law_meant"), fdA (stm 18), .stmts (fdB (stm 18)), fdS (stm 18), 3, [], .none, .none, .none, (.str (Str.ofString "law_tl0046_01") 2371), none, (.ref 199), .none, 0⟩), #[]⟩
noncomputable def o201_0 (P : Params) : Obj := ⟨(.type "tuple"), none, (.seq #[] 0), #[]⟩
noncomputable def o202_0 (P : Params) : Obj := ⟨.none, none, (.fields #[]), #[]⟩
noncomputable def o203_0 (P : Params) : Obj := ⟨.none, none, (.func ⟨(Str.ofString "_law_prepared"), (Str.ofString "_law_prepared"), fdA (stm 19), .stmts (fdB (stm 19)), fdS (stm 19), 0, [], .none, .none, .none, .none, none, .none, .none, 0⟩), #[]⟩
noncomputable def o204_0 (P : Params) : Obj := ⟨(.type "code"), none, (.fields #[(.str (Str.ofString "_law_prepared") 2388), (.str (Str.ofString "_law_prepared") 2389), (.str (Str.ofString "/claim/cut.py") 2390), (.int 97 0), (.int 1 0), (.int 0 0), (.int 0 0), (.int 3 0), (.ref 201), (.bool true), (.int 181 0), (.ref 202), .none, .none, .none, (.ref 203), (.int 2391 0), (.int 97 0), (.str (Str.ofString "/claim/cut.py") 2392)]), #[]⟩
noncomputable def o205_0 (P : Params) : Obj := ⟨(.type "function"), none, (.func ⟨(Str.ofString "_law_prepared"), (Str.ofString "_law_prepared"), fdA (stm 19), .stmts (fdB (stm 19)), fdS (stm 19), 3, [], .none, .none, .none, (.str (Str.ofString "law_tl0046_01") 2371), none, (.ref 204), .none, 0⟩), #[]⟩
noncomputable def o206_0 (P : Params) : Obj := ⟨(.type "tuple"), none, (.seq #[] 0), #[]⟩
noncomputable def o207_0 (P : Params) : Obj := ⟨.none, none, (.fields #[]), #[]⟩
noncomputable def o208_0 (P : Params) : Obj := ⟨(.type "tuple"), none, (.seq #[(.str (Str.ofString "step") 2397), (.str (Str.ofString "worths") 2398), (.str (Str.ofString "row") 2399), (.str (Str.ofString "found") 2400), (.str (Str.ofString "mark") 2401), (.str (Str.ofString "total") 2402), (.str (Str.ofString "turn") 2403), (.str (Str.ofString "size") 2404)] 0), #[]⟩
noncomputable def o209_0 (P : Params) : Obj := ⟨(.type "tuple"), none, (.seq #[] 0), #[]⟩
noncomputable def o210_0 (P : Params) : Obj := ⟨.none, none, (.func ⟨(Str.ofString "_law_walk"), (Str.ofString "_law_walk"), fdA (stm 20), .stmts (fdB (stm 20)), fdS (stm 20), 0, [], .none, .none, .none, .none, none, .none, .none, 0⟩), #[]⟩
noncomputable def o211_0 (P : Params) : Obj := ⟨(.type "code"), none, (.fields #[(.str (Str.ofString "_law_walk") 2394), (.str (Str.ofString "_law_walk") 2395), (.str (Str.ofString "/claim/cut.py") 2396), (.int 99 0), (.int 2 0), (.int 0 0), (.int 0 0), (.int 3 0), (.ref 206), (.bool true), (.int 181 0), (.ref 207), .none, (.ref 208), (.ref 209), (.ref 210), (.int 2405 0), (.int 99 0), (.str (Str.ofString "/claim/cut.py") 2406)]), #[]⟩
noncomputable def o212_0 (P : Params) : Obj := ⟨(.type "function"), none, (.func ⟨(Str.ofString "_law_walk"), (Str.ofString "_law_walk"), fdA (stm 20), .stmts (fdB (stm 20)), fdS (stm 20), 3, [], .none, .none, .none, (.str (Str.ofString "law_tl0046_01") 2371), none, (.ref 211), .none, 0⟩), #[]⟩
noncomputable def o213_0 (P : Params) : Obj := ⟨(.type "tuple"), none, (.seq #[] 0), #[]⟩
noncomputable def o214_0 (P : Params) : Obj := ⟨.none, none, (.fields #[]), #[]⟩
noncomputable def o215_0 (P : Params) : Obj := ⟨(.type "tuple"), none, (.seq #[(.str (Str.ofString "worths") 2411), (.str (Str.ofString "lead") 2412), (.str (Str.ofString "place") 2413), (.str (Str.ofString "worth") 2414)] 0), #[]⟩
noncomputable def o216_0 (P : Params) : Obj := ⟨(.type "tuple"), none, (.seq #[] 0), #[]⟩
noncomputable def o217_0 (P : Params) : Obj := ⟨.none, none, (.func ⟨(Str.ofString "_law_lead"), (Str.ofString "_law_lead"), fdA (stm 21), .stmts (fdB (stm 21)), fdS (stm 21), 0, [], .none, .none, .none, .none, none, .none, .none, 0⟩), #[]⟩
noncomputable def o218_0 (P : Params) : Obj := ⟨(.type "code"), none, (.fields #[(.str (Str.ofString "_law_lead") 2408), (.str (Str.ofString "_law_lead") 2409), (.str (Str.ofString "/claim/cut.py") 2410), (.int 108 0), (.int 1 0), (.int 0 0), (.int 0 0), (.int 3 0), (.ref 213), (.bool true), (.int 181 0), (.ref 214), .none, (.ref 215), (.ref 216), (.ref 217), (.int 2415 0), (.int 108 0), (.str (Str.ofString "/claim/cut.py") 2416)]), #[]⟩
noncomputable def o219_0 (P : Params) : Obj := ⟨(.type "function"), none, (.func ⟨(Str.ofString "_law_lead"), (Str.ofString "_law_lead"), fdA (stm 21), .stmts (fdB (stm 21)), fdS (stm 21), 3, [], .none, .none, .none, (.str (Str.ofString "law_tl0046_01") 2371), none, (.ref 218), .none, 0⟩), #[]⟩
noncomputable def o220_0 (P : Params) : Obj := ⟨(.type "tuple"), none, (.seq #[] 0), #[]⟩
noncomputable def o221_0 (P : Params) : Obj := ⟨.none, none, (.fields #[]), #[]⟩
noncomputable def o222_0 (P : Params) : Obj := ⟨.none, none, (.func ⟨(Str.ofString "_law_due"), (Str.ofString "_law_due"), fdA (stm 22), .stmts (fdB (stm 22)), fdS (stm 22), 0, [], .none, .none, .none, .none, none, .none, .none, 0⟩), #[]⟩
noncomputable def o223_0 (P : Params) : Obj := ⟨(.type "code"), none, (.fields #[(.str (Str.ofString "_law_due") 2418), (.str (Str.ofString "_law_due") 2419), (.str (Str.ofString "/claim/cut.py") 2420), (.int 113 0), (.int 1 0), (.int 0 0), (.int 0 0), (.int 3 0), (.ref 220), (.bool true), (.int 181 0), (.ref 221), .none, .none, .none, (.ref 222), (.int 2421 0), (.int 113 0), (.str (Str.ofString "/claim/cut.py") 2422)]), #[]⟩
noncomputable def o224_0 (P : Params) : Obj := ⟨(.type "function"), none, (.func ⟨(Str.ofString "_law_due"), (Str.ofString "_law_due"), fdA (stm 22), .stmts (fdB (stm 22)), fdS (stm 22), 3, [], .none, .none, .none, (.str (Str.ofString "law_tl0046_01") 2371), none, (.ref 223), .none, 0⟩), #[]⟩
noncomputable def o225_0 (P : Params) : Obj := ⟨(.type "tuple"), none, (.seq #[] 0), #[]⟩
noncomputable def o226_0 (P : Params) : Obj := ⟨.none, none, (.fields #[]), #[]⟩
noncomputable def o227_0 (P : Params) : Obj := ⟨.none, none, (.func ⟨(Str.ofString "law"), (Str.ofString "law"), fdA (stm 23), .stmts (fdB (stm 23)), fdS (stm 23), 0, [], .none, .none, .none, .none, none, .none, .none, 0⟩), #[]⟩
noncomputable def o228_0 (P : Params) : Obj := ⟨(.type "code"), none, (.fields #[(.str (Str.ofString "law") 2424), (.str (Str.ofString "law") 2425), (.str (Str.ofString "/claim/cut.py") 2426), (.int 121 0), (.int 1 0), (.int 0 0), (.int 0 0), (.int 3 0), (.ref 225), (.bool true), (.int 181 0), (.ref 226), .none, .none, .none, (.ref 227), (.int 2427 0), (.int 121 0), (.str (Str.ofString "/claim/cut.py") 2428)]), #[]⟩
noncomputable def o229_0 (P : Params) : Obj := ⟨(.type "function"), none, (.func ⟨(Str.ofString "law"), (Str.ofString "law"), fdA (stm 23), .stmts (fdB (stm 23)), fdS (stm 23), 3, [], .none, .none, .none, (.str (Str.ofString "law_tl0046_01") 2371), none, (.ref 228), .none, 0⟩), #[]⟩
noncomputable def TB6 (P : Params) : BT := (.node (boot_o_0 P) (.node (boot_o_1 P) (.node (o3_6 P) (.node (boot_o_7 P) (.node (o15_0 P) (.node (o31_0 P) (.node (o63_0 P) (.node (o127_0 P) .nil .nil) (.node (o191_0 P) .nil .nil)) (.node (b3 20) (.node (o159_0 P) .nil .nil) (.node (o223_0 P) .nil .nil))) (.node (o47_0 P) (.node (b3 4) (.node (o143_0 P) .nil .nil) (.node (o207_0 P) .nil .nil)) (.node (b3 36) (.node (o175_0 P) .nil .nil) .nil))) (.node (o23_0 P) (.node (o39_0 P) (.node (o71_0 P) (.node (o135_0 P) .nil .nil) (.node (o199_0 P) .nil .nil)) (.node (b3 28) (.node (o167_0 P) .nil .nil) .nil)) (.node (o55_0 P) (.node (b3 12) (.node (o151_0 P) .nil .nil) (.node (o215_0 P) .nil .nil)) (.node (o119_0 P) (.node (o183_0 P) .nil .nil) .nil)))) (.node (o11_0 P) (.node (o19_0 P) (.node (o35_0 P) (.node (o67_0 P) (.node (o131_0 P) .nil .nil) (.node (o195_0 P) .nil .nil)) (.node (b3 24) (.node (o163_0 P) .nil .nil) (.node (o227_0 P) .nil .nil))) (.node (o51_0 P) (.node (b3 8) (.node (o147_0 P) .nil .nil) (.node (o211_0 P) .nil .nil)) (.node (o115_0 P) (.node (o179_0 P) .nil .nil) .nil))) (.node (o27_0 P) (.node (o43_0 P) (.node (b3 0) (.node (o139_0 P) .nil .nil) (.node (o203_0 P) .nil .nil)) (.node (b3 32) (.node (o171_0 P) .nil .nil) .nil)) (.node (o59_0 P) (.node (b3 16) (.node (o155_0 P) .nil .nil) (.node (o219_0 P) .nil .nil)) (.node (o123_0 P) (.node (o187_0 P) .nil .nil) .nil))))) (.node (boot_o_5 P) (.node (boot_o_9 P) (.node (o17_0 P) (.node (o33_0 P) (.node (o65_0 P) (.node (o129_0 P) .nil .nil) (.node (o193_0 P) .nil .nil)) (.node (b3 22) (.node (o161_0 P) .nil .nil) (.node (o225_0 P) .nil .nil))) (.node (o49_0 P) (.node (b3 6) (.node (o145_0 P) .nil .nil) (.node (o209_0 P) .nil .nil)) (.node (b3 38) (.node (o177_0 P) .nil .nil) .nil))) (.node (o25_0 P) (.node (o41_0 P) (.node (o73_0 P) (.node (o137_0 P) .nil .nil) (.node (o201_0 P) .nil .nil)) (.node (b3 30) (.node (o169_0 P) .nil .nil) .nil)) (.node (o57_0 P) (.node (b3 14) (.node (o153_0 P) .nil .nil) (.node (o217_0 P) .nil .nil)) (.node (o121_0 P) (.node (o185_0 P) .nil .nil) .nil)))) (.node (o13_0 P) (.node (o21_0 P) (.node (o37_0 P) (.node (o69_0 P) (.node (o133_0 P) .nil .nil) (.node (o197_0 P) .nil .nil)) (.node (b3 26) (.node (o165_0 P) .nil .nil) (.node (o229_0 P) .nil .nil))) (.node (o53_0 P) (.node (b3 10) (.node (o149_0 P) .nil .nil) (.node (o213_0 P) .nil .nil)) (.node (o117_0 P) (.node (o181_0 P) .nil .nil) .nil))) (.node (o29_0 P) (.node (o45_0 P) (.node (b3 2) (.node (o141_0 P) .nil .nil) (.node (o205_0 P) .nil .nil)) (.node (b3 34) (.node (o173_0 P) .nil .nil) .nil)) (.node (o61_0 P) (.node (b3 18) (.node (o157_0 P) .nil .nil) (.node (o221_0 P) .nil .nil)) (.node (o125_0 P) (.node (o189_0 P) .nil .nil) .nil)))))) (.node (boot_o_2 P) (.node (boot_o_4 P) (.node (boot_o_8 P) (.node (o16_0 P) (.node (o32_0 P) (.node (o64_0 P) (.node (o128_0 P) .nil .nil) (.node (o192_0 P) .nil .nil)) (.node (b3 21) (.node (o160_0 P) .nil .nil) (.node (o224_0 P) .nil .nil))) (.node (o48_0 P) (.node (b3 5) (.node (o144_0 P) .nil .nil) (.node (o208_0 P) .nil .nil)) (.node (b3 37) (.node (o176_0 P) .nil .nil) .nil))) (.node (o24_0 P) (.node (o40_0 P) (.node (o72_0 P) (.node (o136_0 P) .nil .nil) (.node (o200_0 P) .nil .nil)) (.node (b3 29) (.node (o168_0 P) .nil .nil) .nil)) (.node (o56_0 P) (.node (b3 13) (.node (o152_0 P) .nil .nil) (.node (o216_0 P) .nil .nil)) (.node (o120_0 P) (.node (o184_0 P) .nil .nil) .nil)))) (.node (o12_4 P) (.node (o20_0 P) (.node (o36_0 P) (.node (o68_0 P) (.node (o132_0 P) .nil .nil) (.node (o196_0 P) .nil .nil)) (.node (b3 25) (.node (o164_0 P) .nil .nil) (.node (o228_0 P) .nil .nil))) (.node (o52_0 P) (.node (b3 9) (.node (o148_0 P) .nil .nil) (.node (o212_0 P) .nil .nil)) (.node (o116_0 P) (.node (o180_0 P) .nil .nil) .nil))) (.node (o28_0 P) (.node (o44_0 P) (.node (b3 1) (.node (o140_0 P) .nil .nil) (.node (o204_0 P) .nil .nil)) (.node (b3 33) (.node (o172_0 P) .nil .nil) .nil)) (.node (o60_0 P) (.node (b3 17) (.node (o156_0 P) .nil .nil) (.node (o220_0 P) .nil .nil)) (.node (o124_0 P) (.node (o188_0 P) .nil .nil) .nil))))) (.node (boot_o_6 P) (.node (boot_o_10 P) (.node (o18_0 P) (.node (o34_0 P) (.node (o66_0 P) (.node (o130_0 P) .nil .nil) (.node (o194_0 P) .nil .nil)) (.node (b3 23) (.node (o162_0 P) .nil .nil) (.node (o226_0 P) .nil .nil))) (.node (o50_0 P) (.node (b3 7) (.node (o146_0 P) .nil .nil) (.node (o210_0 P) .nil .nil)) (.node (o114_0 P) (.node (o178_0 P) .nil .nil) .nil))) (.node (o26_0 P) (.node (o42_0 P) (.node (o74_0 P) (.node (o138_0 P) .nil .nil) (.node (o202_0 P) .nil .nil)) (.node (b3 31) (.node (o170_0 P) .nil .nil) .nil)) (.node (o58_0 P) (.node (b3 15) (.node (o154_0 P) .nil .nil) (.node (o218_0 P) .nil .nil)) (.node (o122_0 P) (.node (o186_0 P) .nil .nil) .nil)))) (.node (o14_0 P) (.node (o22_0 P) (.node (o38_0 P) (.node (o70_0 P) (.node (o134_0 P) .nil .nil) (.node (o198_0 P) .nil .nil)) (.node (b3 27) (.node (o166_0 P) .nil .nil) .nil)) (.node (o54_0 P) (.node (b3 11) (.node (o150_0 P) .nil .nil) (.node (o214_0 P) .nil .nil)) (.node (o118_0 P) (.node (o182_0 P) .nil .nil) .nil))) (.node (o30_0 P) (.node (o46_0 P) (.node (b3 3) (.node (o142_0 P) .nil .nil) (.node (o206_0 P) .nil .nil)) (.node (b3 35) (.node (o174_0 P) .nil .nil) .nil)) (.node (o62_0 P) (.node (b3 19) (.node (o158_0 P) .nil .nil) (.node (o222_0 P) .nil .nil)) (.node (o126_0 P) (.node (o190_0 P) .nil .nil) .nil)))))))
noncomputable abbrev q0 : Pos := ⟨0, 0, 0, 0⟩
noncomputable def env0 : Env := { scope := pw.main.scope, locals := mainNs, globals := mainNs, cells := [], code := .ref 13, frame := some 14 }
noncomputable abbrev bodyE : List Stmt := behindTheImports pw
noncomputable abbrev cE : Code := .body bodyE env0
noncomputable abbrev ann0 : Option Value := some (.ref 6)
noncomputable abbrev SB (T : Params → BT) (n tk : Nat) (w : World) (os : OsState) : SharedT := ⟨T w.params, n, {}, #[], {}, tk, os⟩
end
end Mine
end PartD4
section PartD6
namespace Mine
open PySem PySem.W PySem.Calls PyProof.Rows

noncomputable def keys12 : Stmt → List (Option PySem.Expr)
  | .Assign _ (.Dict ks _ _) _ => ks
  | _ => []
noncomputable def vals12 : Stmt → List PySem.Expr
  | .Assign _ (.Dict _ vs _) _ => vs
  | _ => []
noncomputable abbrev tg12 : PySem.Expr := .Name (Str.ofString "b3_exceptions") ⟨31, 0, 31, 13⟩
noncomputable abbrev pd12 : Pos := ⟨31, 16, 31, 8704⟩
noncomputable abbrev D12 : PySem.Expr := .Dict (keys12 (stm 12)) (vals12 (stm 12)) pd12
noncomputable def tail12 (v : Value) : Sem Flow := do assignStores env0 v (← swappedStores [tg12] D12 env0) ((assignEach [tg12] env0).map (·.2))
theorem exec12 : exec (stm 12) env0 = (do standAt ⟨31, 0, 31, 8704⟩; let v ← eval D12 env0; tail12 v) := by kernel_rfl
theorem items12 : (evalEachOpt (keys12 (stm 12)) env0).zip ((evalEach (vals12 (stm 12)) env0).map fun v => do let x ← v; standAt pd12; pure x) = itemsOf pd12 b3L := by kernel_rfl
noncomputable abbrev cs12 : List (List (Int × Str)) := (List.range 37).map fun i => chunk (i + 1)
theorem whole12 : b3L = (chunk 0 :: cs12).flatten ++ b3L.drop 646 := by kernel_rfl
theorem len12 : ((chunk 0 :: cs12).all fun x => x.length == 17) = true := by kernel_rfl
theorem lens12 : ((b3L.drop 646).length, b3L.length) = (4, 650) := by kernel_rfl
noncomputable def ascB : List Int → Bool
  | a :: b :: r => Int.blt' a b && ascB (b :: r)
  | _ => true
where Int.blt' (a b : Int) : Bool := decide (a < b)
theorem asc_lt : ∀ (l : List Int) (a : Int), ascB (a :: l) = true → ∀ x ∈ l, a < x
  | [], _, _, _, h => nomatch h
  | b :: r, a, h, x, hx => by
    simp only [ascB, ascB.Int.blt', Bool.and_eq_true, decide_eq_true_eq] at h
    rcases List.mem_cons.mp hx with rfl | hx
    · exact h.1
    · exact Int.lt_trans h.1 (asc_lt r b h.2 x hx)
theorem asc_nodup : ∀ l : List Int, ascB l = true → l.Nodup
  | [], _ => .nil
  | a :: r, h => by
    refine List.nodup_cons.mpr ⟨fun q => Int.lt_irrefl _ (asc_lt r a h a q), asc_nodup r ?_⟩
    cases r with
    | nil => rfl
    | cons b r => simp only [ascB, Bool.and_eq_true] at h; exact h.2
theorem asc12 : ascB (hashes b3L) = true := by kernel_rfl
end Mine
end PartD6
section PartD7
namespace Mine
open PySem PySem.W PySem.Calls PyProof.Rows

noncomputable def insAll : BT → Nat → List Obj → BT
  | t, _, [] => t
  | t, n, o :: r => insAll (t.ins n o) (n + 1) r
noncomputable def insOk : BT → Nat → List Obj → Bool
  | _, _, [] => true
  | t, n, o :: r => ((t.ins n o).get n).isSome && insOk (t.ins n o) (n + 1) r
theorem app_cons (h : Heap) (o : Obj) (r : List Obj) : app h (o :: r) = app (h.push o) r := by
  show Heap.mk _ _ = Heap.mk _ _
  rw [show h.objs ++ (o :: r).toArray = (h.push o).objs ++ r.toArray from by show _ = h.objs.push o ++ r.toArray; apply Array.ext'; simp]
  rfl
theorem app_nil (h : Heap) : app h [] = h := by
  show Heap.mk _ _ = h
  rw [show h.objs ++ [].toArray = h.objs from by simp]
theorem app_ins : ∀ (l : List Obj) (t : BT) (n : Nat) (life : Life), insOk t n l = true → app (absHeap t n life) l = absHeap (insAll t n l) (n + l.length) life
  | [], t, n, life, _ => by rw [app_nil]; rfl
  | o :: r, t, n, life, h => by
    simp only [insOk, Bool.and_eq_true] at h
    rw [app_cons, ← absHeap_ins h.1, app_ins r _ _ life h.2, List.length_cons, show n + 1 + r.length = n + (r.length + 1) by omega]
    rfl
theorem insOk12 (P : Params) : insOk (TB3 P) 75 b3Objs = true := by kernel_rfl
theorem len_b3Objs : b3Objs.length = 39 := by kernel_rfl

theorem pieceTail (w : World) (os : OsState) (q : Pos) : segRunT treeTable pw w 11 ann0 1 40 (SB (fun P => insAll (TB3 P) 75 b3Objs) 114 2259 w os) ⟨(tail12 (.ref 75)).wrap doneF deadEnd id id, cE, q, [topFrame q0]⟩ =
    some (.next, SB TB4 114 2260 w os, cE, ⟨31, 0, 31, 13⟩) := by
  rw [Fast.te10110043849684766642, Fast.te14364793385576792824]
  kernel_rfl
end Mine
end PartD7
section PartD5a
namespace Mine
open PySem PySem.W PySem.Calls PyProof.Rows
theorem pieceA (w : World) (os : OsState) : segRunT treeTable pw w 11 ann0 1 216 (SB TB0 15 187 w os) (piecesOf [stm 0, stm 1, stm 2, stm 3, stm 4, stm 5, stm 6, stm 7, stm 8, stm 9] env0 cE q0 [topFrame q0]) =
    some (.next, SB TB1 57 242 w os, cE, ⟨27, 0, 27, 8⟩) := by
  rw [Fast.te10110043849684766642, Fast.te14364793385576792824]
  kernel_rfl
theorem pieceC (w : World) (os : OsState) : segRunT treeTable pw w 11 ann0 1 30 (SB TB2 68 302 w os) (piecesOf [stm 11] env0 cE ⟨28, 0, 28, 6⟩ [topFrame q0]) =
    some (.next, SB TB3 75 309 w os, cE, ⟨29, 0, 30, 30⟩) := by
  rw [Fast.te10110043849684766642, Fast.te14364793385576792824]
  kernel_rfl
end Mine
end PartD5a
section PartD5b
namespace Mine
open PySem PySem.W PySem.Calls PyProof.Rows
theorem pieceB (w : World) : ∀ (os : OsState), segRunT treeTable pw w 11 ann0 1 999 (SB TB1 57 242 w os) (piecesOf [stm 10] env0 cE ⟨27, 0, 27, 8⟩ [topFrame q0]) =
    some (.next, SB TB2 68 302 w os, cE, ⟨28, 0, 28, 6⟩) := by
  rw [Fast.te10110043849684766642, Fast.te14364793385576792824]
  revert w
  intro w
  refine byRow2 "special-get-raises" (P := fun w => ∀ os : OsState, Fast.tw10110043849684766642 Fast.tw14364793385576792824 pw w 11 ann0 1 999 (SB TB1 57 242 w os) (piecesOf [stm 10] env0 cE ⟨27, 0, 27, 8⟩ [topFrame q0]) =
    some (.next, SB TB2 68 302 w os, cE, ⟨28, 0, 28, 6⟩)) (fun w os => ?_) (fun w os => ?_) w
  · kernel_rfl
  · kernel_rfl
end Mine
end PartD5b
section PartD5c
namespace Mine
open PySem PySem.W PySem.Calls PyProof.Rows
theorem pieceE (w : World) : ∀ (os : OsState), segRunT treeTable pw w 11 ann0 1 533 (SB TB4 114 2260 w os) (piecesOf [stm 13, stm 14, stm 15] env0 cE ⟨31, 0, 31, 13⟩ [topFrame q0]) =
    some (.next, SB TB5 187 2371 w os, cE, ⟨38, 0, 90, 16⟩) := by
  rw [Fast.te10110043849684766642, Fast.te14364793385576792824]
  revert w
  intro w
  refine byRow2 "special-get-raises" (P := fun w => ∀ os : OsState, Fast.tw10110043849684766642 Fast.tw14364793385576792824 pw w 11 ann0 1 533 (SB TB4 114 2260 w os) (piecesOf [stm 13, stm 14, stm 15] env0 cE ⟨31, 0, 31, 13⟩ [topFrame q0]) =
    some (.next, SB TB5 187 2371 w os, cE, ⟨38, 0, 90, 16⟩)) (fun w os => ?_) (fun w os => ?_) w
  · kernel_rfl
  · kernel_rfl
theorem pieceF (w : World) (os : OsState) : segRunT treeTable pw w 11 ann0 1 215 (SB TB5 187 2371 w os) (piecesOf [stm 16, stm 17, stm 18, stm 19, stm 20, stm 21, stm 22, stm 23] env0 cE ⟨38, 0, 90, 16⟩ [topFrame q0]) =
    some (.next, SB TB6 230 2430 w os, cE, ⟨121, 0, 138, 58⟩) := by
  rw [Fast.te10110043849684766642, Fast.te14364793385576792824]
  kernel_rfl
theorem pieceFin (w : World) (os : OsState) : topRun treeTable pw w 11 ann0 2 (SB TB6 230 2430 w os).abs ⟨doneF .next, cE, ⟨121, 0, 138, 58⟩, [topFrame q0]⟩ = some (SB TB6 230 2430 w os).abs := by
  rw [Fast.te14082659384304107361, Fast.te14364793385576792824]
  kernel_rfl
theorem piecePre (w : World) (os : OsState) : topGo treeTable pw w 11 ann0 12 ⟨boot_heap w.params, #[], boot_drawn, boot_toks, os⟩ (topStub pw) = some ((SB TB0 15 187 w os).abs, ⟨denote treeTable cE, cE, q0, [topFrame q0]⟩) := by
  rw [Fast.te15667345088766844465, Fast.te14364793385576792824, Fast.te11892475500146522536]
  kernel_rfl
theorem pieceBlock (w : World) (os : OsState) : segRun treeTable pw w 11 ann0 1 1 (SB TB0 15 187 w os).abs (blockOf bodyE env0 cE q0 [topFrame q0]) = some (.next, (SB TB0 15 187 w os).abs, cE, q0) := by
  rw [Fast.te14374325043358763698, Fast.te14364793385576792824]
  kernel_rfl
end Mine
end PartD5c
section PartD8
namespace Mine
open PySem PySem.W PySem.Calls PyProof.Rows

theorem nodup12 : (hashes ((chunk 0 :: cs12).flatten ++ b3L.drop 646)).Nodup := by rw [← whole12]; exact asc_nodup _ asc12

theorem display12 (w : World) (os : OsState) : Wt pw w 11 ann0 (eval D12 env0) (fun v s n => v = .ref 75 ∧ s = (SB (fun P => insAll (TB3 P) 75 b3Objs) 114 2259 w os).abs ∧ n ≤ 400000001) (SB TB3 75 309 w os).abs := by
  rw [arm_eval_Dict, items12]
  refine Wt_bind (Wt_at (Wt_pure ?_))
  have hs : (SB TB3 75 309 w os).abs = ⟨app (absHeap (TB3 w.params) 75 {}) [], #[], {}, 309, os⟩ := by rw [app_nil]; rfl
  rw [hs, whole12]
  have hz : (absHeap (TB3 w.params) 75 {}).objs.size = 75 := absHeap_size ..
  have l1 : (b3L.drop 646).length = 4 := congrArg Prod.fst lens12
  have l2 : b3L.length = 650 := congrArg Prod.snd lens12
  refine Wt_display (h0 := absHeap (TB3 w.params) 75 {}) (by rw [hz]; decide) (by decide) (chunk 0) cs12 (b3L.drop 646) (fun x hx => ?_) (by intro e; rw [e] at l1; cases l1) (by rw [l1]; decide) (by rw [← whole12, l2]; decide) nodup12 ?_
  · have := List.all_eq_true.mp len12 x hx
    exact beq_iff_eq.mp this
  · intro m hm
    rw [hz, ← whole12, l2]
    refine ⟨rfl, ?_, by omega⟩
    show (⟨app (absHeap (TB3 w.params) 75 {}) b3Objs, #[], {}, 309 + 3 * 650, os⟩ : Shared) = _
    rw [app_ins _ _ _ _ (insOk12 w.params), len_b3Objs]
    kernel_rfl

noncomputable def kTail (rest : List Stmt) : Flow → Sem Fin := fun f => match f with
  | Flow.next => (execs rest env0).wrap doneF (leaveH env0) id id
  | f => doneF f
theorem restOf_cons (st : Stmt) (rest : List Stmt) (c : Code) (q : Pos) (B : List Frame) : restOf (st :: rest) env0 c q B = ⟨(exec st env0).wrap (kTail rest) (leaveH env0) id id, c, q, B⟩ := by
  unfold restOf
  rw [execs_cons_wrap]
  rfl
theorem kTail_next (rest : List Stmt) (c : Code) (q : Pos) (B : List Frame) : (⟨kTail rest .next, c, q, B⟩ : Thread) = restOf rest env0 c q B := rfl
theorem Goes_at {α β : Type} {p : Program} {w : World} {n₀ : Nat} {ann : Option Value} {s : Shared} {f : Unit → Sem β} {q : Pos} {K : β → Sem Fin} {H : Value → Sem Fin} {code : Code} {pos : Pos} {fr : Frame} {st : List Frame} :
    Goes p w n₀ ann 1 s ⟨(standAt q >>= f).wrap K H id id, code, pos, fr :: st⟩ s ⟨(f ()).wrap K H id id, code, q, fr :: st⟩ := by
  obtain ⟨heap, gens, drawn, toks, os⟩ := s
  exact Goes.one rfl rfl rfl

theorem gEnd (w : World) (os : OsState) (rest : List Stmt) (q : Pos) : Goes pw w 11 ann0 40 (SB (fun P => insAll (TB3 P) 75 b3Objs) 114 2259 w os).abs ⟨(tail12 (.ref 75)).wrap (kTail rest) (leaveH env0) id id, cE, q, [topFrame q0]⟩
    (SB TB4 114 2260 w os).abs (restOf rest env0 cE ⟨31, 0, 31, 13⟩ [topFrame q0]) := by
  have h := segRun_of (pieceTail w os q)
  generalize (SB (fun P => insAll (TB3 P) 75 b3Objs) 114 2259 w os).abs = s₁ at h ⊢
  generalize (SB TB4 114 2260 w os).abs = s₂ at h ⊢
  generalize tail12 (.ref 75) = m at h ⊢
  obtain ⟨a, ha, hN⟩ := seg_top (res := id) (K' := kTail rest) (H' := leaveH env0) (B := [topFrame q0]) rfl 40 s₁ ⟨m.wrap doneF deadEnd id id, cE, q, [topFrame q0]⟩
    ⟨m.wrap (kTail rest) (leaveH env0) id id, cE, q, [topFrame q0]⟩ _ _ _ _ ⟨rfl, rfl, .inl ⟨rfl, rfl, m, rfl, rfl⟩⟩ h
  obtain rfl : a = .next := ha
  exact fun N r h => hN N r h

theorem Wt_use {α : Type} {p : Program} {w : World} {n₀ : Nat} {ann : Option Value} {s : Shared} {m : Sem α} {Q : α → Shared → Nat → Prop} {f : α → Sem Flow} (h : Wt p w n₀ ann m Q s) : ∃ a s' n, Q a s' n ∧ ∀ (K : Flow → Sem Fin) (H : Value → Sem Fin) (code : Code) (pos : Pos) (fr : Frame) (st : List Frame),
    ∃ pos', Goes p w n₀ ann n s ⟨(m >>= f).wrap K H id id, code, pos, fr :: st⟩ s' ⟨(f a).wrap K H id id, code, pos', fr :: st⟩ := by
  obtain ⟨a, s', n, q, g⟩ := h
  refine ⟨a, s', n, q, fun K H code pos fr st => ?_⟩
  rw [Sem.bind_eq_wrap', Sem.wrap_wrap]
  exact g (fun a => (f a).wrap K H id id) _ _ _ code pos fr st

theorem stepD (w : World) (os : OsState) (rest : List Stmt) : ∃ n, n ≤ 500000000 ∧ Goes pw w 11 ann0 n (SB TB3 75 309 w os).abs (restOf (stm 12 :: rest) env0 cE ⟨29, 0, 30, 30⟩ [topFrame q0])
    (SB TB4 114 2260 w os).abs (restOf rest env0 cE ⟨31, 0, 31, 13⟩ [topFrame q0]) := by
  obtain ⟨v, s₁, n, ⟨e1, e2, hn⟩, g⟩ := Wt_use (f := tail12) (display12 w os)
  obtain ⟨q, e⟩ := g (kTail rest) (leaveH env0) cE ⟨31, 0, 31, 8704⟩ (topFrame q0) []
  have z := gEnd w os rest q
  rw [← e2, ← e1] at z
  rw [restOf_cons, exec12]
  exact ⟨1 + (n + 40), by omega, Goes.trans (Goes_at (α := Unit)) (Goes.trans e z)⟩

theorem body_split : bodyE = [stm 0, stm 1, stm 2, stm 3, stm 4, stm 5, stm 6, stm 7, stm 8, stm 9] ++ ([stm 10] ++ ([stm 11] ++ (stm 12 :: ([stm 13, stm 14, stm 15] ++ ([stm 16, stm 17, stm 18, stm 19, stm 20, stm 21, stm 22, stm 23] ++ []))))) := by kernel_rfl

theorem wholeRun (w : World) (os : OsState) : topRun treeTable pw w 11 ann0 500010000 ⟨boot_heap w.params, #[], boot_drawn, boot_toks, os⟩ (topStub pw) = some (SB TB6 230 2430 w os).abs := by
  obtain ⟨nD, hb, hD⟩ := stepD w os ([stm 13, stm 14, stm 15] ++ ([stm 16, stm 17, stm 18, stm 19, stm 20, stm 21, stm 22, stm 23] ++ []))
  have k0 := piece_nil (env := env0) (pieceFin w os)
  have k1 := piece_app (rest := []) (segRun_of (pieceF w os)) k0
  have k2 := piece_app (segRun_of (pieceE w os)) k1
  have k3 := hD _ _ k2
  have k4 := piece_app (segRun_of (pieceC w os)) k3
  have k5 := piece_app (segRun_of (pieceB w os)) k4
  have k6 := piece_app (segRun_of (pieceA w os)) k5
  rw [← body_split] at k6
  have k7 := go_top (piecePre w os) (piece_block (pieceBlock w os) k6)
  have e : 12 + (1 + (216 + (999 + (30 + (nD + (533 + (215 + 2))))))) + (500010000 - (12 + (1 + (216 + (999 + (30 + (nD + (533 + (215 + 2))))))))) = 500010000 := by omega
  have k8 := topRun_mono (500010000 - (12 + (1 + (216 + (999 + (30 + (nD + (533 + (215 + 2))))))))) _ _ _ _ k7
  rw [e] at k8
  exact k8
end Mine
end PartD8
section PartD9
namespace Mine
open PySem PySem.W PySem.Calls PyProof.Rows
noncomputable section
noncomputable def KX (P : Params) : Frag := (nat_lit 2, (boot_o_2 P)) :: (nat_lit 3, (o3_6 P)) :: (nat_lit 15, (o15_0 P)) :: (nat_lit 17, (o17_0 P)) :: (nat_lit 18, (o18_0 P)) :: (nat_lit 20, (o20_0 P)) :: (nat_lit 21, (o21_0 P)) :: (nat_lit 22, (o22_0 P)) :: (nat_lit 24, (o24_0 P)) :: (nat_lit 25, (o25_0 P)) :: (nat_lit 27, (o27_0 P)) :: (nat_lit 28, (o28_0 P)) :: (nat_lit 29, (o29_0 P)) :: (nat_lit 31, (o31_0 P)) :: (nat_lit 32, (o32_0 P)) :: (nat_lit 34, (o34_0 P)) :: (nat_lit 35, (o35_0 P)) :: (nat_lit 36, (o36_0 P)) :: (nat_lit 38, (o38_0 P)) :: (nat_lit 39, (o39_0 P)) :: (nat_lit 41, (o41_0 P)) :: (nat_lit 42, (o42_0 P)) :: (nat_lit 43, (o43_0 P)) :: (nat_lit 45, (o45_0 P)) :: (nat_lit 46, (o46_0 P)) :: (nat_lit 48, (o48_0 P)) :: (nat_lit 49, (o49_0 P)) :: (nat_lit 50, (o50_0 P)) :: (nat_lit 52, (o52_0 P)) :: (nat_lit 53, (o53_0 P)) :: (nat_lit 55, (o55_0 P)) :: (nat_lit 56, (o56_0 P)) :: (nat_lit 64, (o64_0 P)) :: (nat_lit 68, (o68_0 P)) :: (nat_lit 70, (o70_0 P)) :: (nat_lit 71, (o71_0 P)) :: (nat_lit 73, (o73_0 P)) :: (nat_lit 74, (o74_0 P)) :: (nat_lit 75, (b3 0)) :: (nat_lit 114, (o114_0 P)) :: (nat_lit 116, (o116_0 P)) :: (nat_lit 117, (o117_0 P)) :: (nat_lit 119, (o119_0 P)) :: (nat_lit 120, (o120_0 P)) :: (nat_lit 131, (o131_0 P)) :: (nat_lit 133, (o133_0 P)) :: (nat_lit 134, (o134_0 P)) :: (nat_lit 136, (o136_0 P)) :: (nat_lit 137, (o137_0 P)) :: (nat_lit 138, (o138_0 P)) :: (nat_lit 140, (o140_0 P)) :: (nat_lit 141, (o141_0 P)) :: (nat_lit 143, (o143_0 P)) :: (nat_lit 144, (o144_0 P)) :: (nat_lit 145, (o145_0 P)) :: (nat_lit 147, (o147_0 P)) :: (nat_lit 148, (o148_0 P)) :: (nat_lit 150, (o150_0 P)) :: (nat_lit 151, (o151_0 P)) :: (nat_lit 152, (o152_0 P)) :: (nat_lit 154, (o154_0 P)) :: (nat_lit 155, (o155_0 P)) :: (nat_lit 157, (o157_0 P)) :: (nat_lit 158, (o158_0 P)) :: (nat_lit 159, (o159_0 P)) :: (nat_lit 161, (o161_0 P)) :: (nat_lit 162, (o162_0 P)) :: (nat_lit 164, (o164_0 P)) :: (nat_lit 165, (o165_0 P)) :: (nat_lit 166, (o166_0 P)) :: (nat_lit 168, (o168_0 P)) :: (nat_lit 169, (o169_0 P)) :: (nat_lit 171, (o171_0 P)) :: (nat_lit 172, (o172_0 P)) :: (nat_lit 173, (o173_0 P)) :: (nat_lit 175, (o175_0 P)) :: (nat_lit 176, (o176_0 P)) :: (nat_lit 178, (o178_0 P)) :: (nat_lit 179, (o179_0 P)) :: (nat_lit 180, (o180_0 P)) :: (nat_lit 181, (o181_0 P)) :: (nat_lit 182, (o182_0 P)) :: (nat_lit 183, (o183_0 P)) :: (nat_lit 184, (o184_0 P)) :: (nat_lit 187, (o187_0 P)) :: (nat_lit 189, (o189_0 P)) :: (nat_lit 190, (o190_0 P)) :: (nat_lit 192, (o192_0 P)) :: (nat_lit 193, (o193_0 P)) :: (nat_lit 194, (o194_0 P)) :: (nat_lit 196, (o196_0 P)) :: (nat_lit 197, (o197_0 P)) :: (nat_lit 199, (o199_0 P)) :: (nat_lit 200, (o200_0 P)) :: (nat_lit 201, (o201_0 P)) :: (nat_lit 204, (o204_0 P)) :: (nat_lit 205, (o205_0 P)) :: (nat_lit 206, (o206_0 P)) :: (nat_lit 208, (o208_0 P)) :: (nat_lit 209, (o209_0 P)) :: (nat_lit 211, (o211_0 P)) :: (nat_lit 212, (o212_0 P)) :: (nat_lit 213, (o213_0 P)) :: (nat_lit 215, (o215_0 P)) :: (nat_lit 216, (o216_0 P)) :: (nat_lit 218, (o218_0 P)) :: (nat_lit 219, (o219_0 P)) :: (nat_lit 220, (o220_0 P)) :: (nat_lit 223, (o223_0 P)) :: (nat_lit 224, (o224_0 P)) :: (nat_lit 225, (o225_0 P)) :: (nat_lit 228, (o228_0 P)) :: (nat_lit 229, (o229_0 P)) :: []
noncomputable def kas : List Addr := [2, 3, 15, 17, 18, 20, 21, 22, 24, 25, 27, 28, 29, 31, 32, 34, 35, 36, 38, 39, 41, 42, 43, 45, 46, 48, 49, 50, 52, 53, 55, 56, 64, 68, 70, 71, 73, 74, 75, 114, 116, 117, 119, 120, 131, 133, 134, 136, 137, 138, 140, 141, 143, 144, 145, 147, 148, 150, 151, 152, 154, 155, 157, 158, 159, 161, 162, 164, 165, 166, 168, 169, 171, 172, 173, 175, 176, 178, 179, 180, 181, 182, 183, 184, 187, 189, 190, 192, 193, 194, 196, 197, 199, 200, 201, 204, 205, 206, 208, 209, 211, 212, 213, 215, 216, 218, 219, 220, 223, 224, 225, 228, 229]
theorem kas_eq (P : Params) : kas = (KX P).map (·.1) := by kernel_rfl
noncomputable def qv : Program := { pw with main := { pw.main with body := [stm 0, stm 2, stm 3, stm 5, stm 6, stm 7, stm 8, stm 10, stm 11, stm 12, stm 13, stm 15, stm 17, stm 18, stm 19, stm 20, stm 21, stm 22, stm 23] } }
noncomputable def looseV : List Str := [Str.ofString "b1_set", Str.ofString "b3_exceptions", Str.ofString "Whitespace"]
noncomputable abbrev hookV : Hook := kHook KX kas kas_eq
abbrev rowV : OpenRow := PySem.Challenge.rw_tl0046_01.row
noncomputable abbrev XtV : Shared → Bool := fun s => xlAt qv [] s && recOk (RowW.records rowV.toRowW) s
noncomputable abbrev H1 (P : Params) : Heap := absHeap (TB6 P) 230 {}
theorem openV (w : World) : (fencedOpening treeTable pw w 600000000).map (fun s => (s.heap, s.gens, s.drawn, s.toks)) = some (boot_heap w.params, Array.mk [], boot_drawn, boot_toks) :=
  boot_open (by kernel_rfl) (by kernel_rfl) (fun s => by kernel_rfl) w
theorem sizeV (w : World) : ((boot_heap w.params).isNs mainGlobals && (Array.mk [] : Array GenState).size == 0, (boot_heap w.params).objs.size, (boot_heap w.params).nsMap mainGlobals "__annotations__") = (true, 11, ann0) := by
  rw [Fast.te8920871248978507458]; kernel_rfl
theorem looksA (w : World) (os : OsState) : (staticsOk (importedModules pw.main.body) (boot_heap w.params) (H1 w.params) && namesBound pw (H1 w.params) && gensDone ⟨H1 w.params, #[], {}, 2430, os⟩ && laidKept (boot_heap w.params) (H1 w.params)) = true := by
  kernel_rfl
theorem looksC (w : World) (os : OsState) : hookV.obs ⟨H1 w.params, #[], {}, 2430, os⟩ = hookV.val w := by
  kernel_rfl
end
end Mine
end PartD9
section PartD10
namespace Mine
open PySem PySem.W PySem.Calls PyProof.Rows
noncomputable def ascP : Int → List (PyData × PyData) → Bool
  | _, [] => true
  | k, (.int j, _) :: D => decide (k < j) && ascP j D
  | _, _ => false
theorem has_asc : ∀ (D : List (PyData × PyData)) (j k : Int), ascP j D = true → k ≤ j → hasIntKey k D = false
  | [], _, _, _, _ => rfl
  | (.int j', _) :: D, j, k, h, hk => by
    simp only [ascP, Bool.and_eq_true, decide_eq_true_eq] at h
    simp only [hasIntKey, Bool.or_eq_false_iff, beq_eq_false_iff_ne]
    exact ⟨by omega, has_asc D j' k h.2 (by omega)⟩
  | (.none, _) :: D, _, _, h, _ | (.bool _, _) :: D, _, _, h, _ | (.str _, _) :: D, _, _, h, _ | (.list _, _) :: D, _, _, h, _ | (.tuple _, _) :: D, _, _, h, _ | (.dict _, _) :: D, _, _, h, _ => by simp [ascP] at h
theorem apart_asc : ∀ (D : List (PyData × PyData)) (j : Int), ascP j D = true → keysApartInt D = true
  | [], _, _ => rfl
  | (.int j', _) :: D, j, h => by
    simp only [ascP, Bool.and_eq_true, decide_eq_true_eq] at h
    simp only [keysApartInt, Bool.and_eq_true, Bool.not_eq_true']
    exact ⟨has_asc D j' j' h.2 (Int.le_refl _), apart_asc D j' h.2⟩
  | (.none, _) :: D, _, h | (.bool _, _) :: D, _, h | (.str _, _) :: D, _, h | (.list _, _) :: D, _, h | (.tuple _, _) :: D, _, h | (.dict _, _) :: D, _, h => by simp [ascP] at h
theorem all_but {α : Type} [BEq α] [LawfulBEq α] (y : α) {f : α → Bool} (hy : f y = true) : ∀ l : List α, (l.all fun x => x == y || f x) = true → l.all f = true := by
  intro l h
  rw [List.all_eq_true] at h ⊢
  intro x hx
  rcases Bool.or_eq_true_iff.mp (h x hx) with e | e
  · rw [eq_of_beq e]; exact hy
  · exact e
theorem and3 {a b c : Bool} (x : a = true) (y : b = true) (z : c = true) : (a && b && c) = true := by rw [x, y, z]; rfl
theorem and5 {a b c d e : Bool} (x : a = true) (y : b = true) (z : c = true) (u : d = true) (v : e = true) : (a && b && c && d && e) = true := by rw [x, y, z, u, v]; rfl
noncomputable def b3n : Str := Str.ofString "b3_exceptions"
noncomputable def D3 : List (PyData × PyData) := (tabIntOf qv b3n).getD []
theorem d3_is : tabIntOf qv b3n = some D3 := by kernel_rfl
theorem d3_apart : keysApartInt D3 = true := apart_asc D3 (-1) (by kernel_rfl)
theorem d3_dict : (match (b3 0).data with | .dict es _ => entriesAreInt es.toList D3 | _ => false) = true := by kernel_rfl
theorem tab3 (P : Params) : (H1 P).tabIntOk b3n D3 = true := by
  unfold Heap.tabIntOk
  rw [show (H1 P).nsMap mainGlobals b3n = some (.ref 75) from by kernel_rfl]
  dsimp only
  rw [show (H1 P).get? 75 = some (b3 0) from by kernel_rfl]
  dsimp only
  have e1 : (b3 0).cls = .type "dict" := by kernel_rfl
  have e2 : (b3 0).dict = none := by kernel_rfl
  have e3 : ((b3 0).slots.size == 0) = true := by kernel_rfl
  have e4 := d3_dict
  have e5 : (match (b3 0).data with | .dict es _ => true | _ => false) = true := by kernel_rfl
  generalize b3 0 = o at *
  obtain ⟨c, d, dt, sl⟩ := o
  cases dt <;> simp only [Bool.false_eq_true] at e5
  simp only at e1 e2 e3 e4
  subst e1 e2
  exact and5 (by decide) e3 e4 d3_apart (by decide)
theorem tables6 (P : Params) : tablesOk qv (H1 P) = true := by
  unfold tablesOk
  refine all_but b3n (and3 ?_ ?_ ?_) _ ?_
  · kernel_rfl
  · kernel_rfl
  · rw [d3_is]; exact tab3 P
  · kernel_rfl
theorem pr {α β : Type} {a a' : α} {b b' : β} (x : a = a') (y : b = b') : (a, b) = (a', b') := by rw [x, y]
theorem and7 {a b c d e f g : Bool} (x : a = true) (y : b = true) (z : c = true) (u : d = true) (v : e = true) (p : f = true) (q : g = true) : (a && b && c && d && e && f && g) = true := by rw [x, y, z, u, v, p, q]; rfl
theorem looksB (w : World) (os : OsState) : openSeen qv looseV (importedModules pw.main.body) XtV true ⟨H1 w.params, #[], {}, 2430, os⟩ = openGood qv looseV := by
  unfold openSeen openGood
  refine pr ?_ (pr ?_ (pr (and7 ?_ ?_ ?_ ?_ (tables6 w.params) ?_ ?_) (pr ?_ (pr ?_ (pr ?_ (pr ?_ (pr ?_ ?_)))))))
  all_goals kernel_rfl
end Mine
end PartD10
section PartD11
namespace Mine
open PySem PySem.W PySem.Calls PyProof.Rows
theorem leftV : LeftO pw qv looseV XtV hookV.obs hookV.val 600000000 :=
  LeftO.of_pieces (H₀ := boot_heap) (H₁ := H1) openV sizeV wholeRun (by kernel_rfl) (fun w => funext fun os => Prod.ext (looksA w os) (Prod.ext (looksB w os) (looksC w os)))
noncomputable def lawD : DefRec := { name := Str.ofString "law", params := fdA (stm 23), body := fdB (stm 23), scope := fdS (stm 23), pos := ⟨121, 0, 138, 58⟩ }
theorem said0 : PySem.Challenge.rw_tl0046_01.wellSaid = true := by
  rw [Fast.te9446332074065402090]
  kernel_rfl
set_option maxHeartbeats 4000000 in
theorem headV (hc : WalkO qv looseV (XL qv []) (InK KX) rowV.toRowW lawD [] fun f vs => PySem.call f vs) : PySem.Challenge.rw_tl0046_01.Holds := by
  w_on
  refine holds_law said0 fun said => ?_
  refine W.holds_open (q := qv) (loose := looseV) (Xt := XtV) (XP := XL qv []) (Yf := hookV.obs) (Ya := hookV.val) (YP := hookV.says) (d := lawD) (kwd := []) (N := 600000000) leftV hookV.of hookV.keeps (fun s e => xl_of s (Bool.and_eq_true_iff.mp e).1) XL.keeps (by kernel_rfl) (by kernel_rfl) (by kernel_rfl) (fun s e => recFacts_of (Bool.and_eq_true_iff.mp e).2) (by rfl) (by assumption) (by decide +kernel) ⟨rfl, rfl, rfl, rfl, rfl, by decide +kernel⟩ ?hw ?hc
  case hw => w_witness2
  case hc => exact hc
end Mine
end PartD11
section PartW0
open PySem PySem.W PySem.Calls PyProof.Rows
namespace Mine
noncomputable abbrev CC (k : Nat) (w : World) (f : Addr) (vs : List Value) (R : Tok → Value) : Prop :=
  ∀ (mean : ExcName → Option Value) (mg mb : Str → Option Value) (dp un : Nat) (gd : Option (List Code)) (cn : Str) (cs : Scope) (a : Addr) (ccd : Value) (cl : List (Str × Addr)) (outer : List Env) (A₀ : Around) (base h₀ : Heap) (L : Addr) (m : Str → Option Value) (news : List (Addr × Obj)) (s : Shared) (Q E : Value → Shared → Prop),
    Below A₀ base outer h₀ → Fr h₀ L s.heap m → (KX w.params).In h₀ → News h₀ L s.heap news → Top qv (looseW qv looseV) mean mg mb h₀ → cs.kind = .function →
    dp + k < recursionLimit → un + 8 * k < cLine → CbRet h₀ L m news s Q R →
      wpAny (model pw w) (ktrTop dp un gd cn cs L a ccd cl outer) (call (.ref f) vs) Q E s
end Mine
end PartW0
section PartW4
open PySem PySem.W PySem.Calls PyProof.Rows
namespace Mine
theorem reg4 : rowV = rowV ∧ KX = KX := by
  k_fill
  exact ⟨rfl, rfl⟩
set_option maxHeartbeats 8000000
theorem c_mul {w : World} (n : Int) (h0 : 0 ≤ n) (h1 : n ≤ 12) (t u : Tok) : CC 2 w 42 [.str (Str.ofString " ") t, .int n u] (fun t => .str (Txt.mul (Str.ofString " ") n) t) := by
  k_with_none
  w_on
  dsimp only [CC, CbRet]
  intros; rename_i hret
  refine wpAny_call ?_
  k_dflt (refine' code_def (binds := [(Str.ofString "a", .str (Str.ofString " ") t), (Str.ofString "b", .int n u)]) ?k1 ?k2 ?k3 ?k4 ?k5 ?kA ?kF ?kK ?k6 ?k7 ?k8 ?k9 ?kB ?_ ?c2 ?c3 ?c4 ?c5; (case kA => exact rfl); (case kF => exact rfl); (case kK => assumption); (case k1 => k_asm); (case k2 => k_asm); (case k3 => k_asm); (case k4 => k_asm); (case k5 => k_asm); (case k6 => k_is); (case k7 => k_is); (case k8 => ktr_room); (case k9 => exact BindsTo.of_eq rfl); (case c5 => decide); (case kB => exact locs rfl); (case c2 => exact rfl); (case c3 => exact rfl); (case c4 => exact rfl); k_whole; intro g' L' h' FG' F' N' B' X' T'; (try dsimp only); (try k_fold))
  repeat' (first | (k_unfold; (try dsimp only)) | (k_end; kc_close) | (walk1; (try dsimp only)) | (leave1; walk_say "STEP leave1"; (try dsimp only)) | fail "no step")
  all_goals cb_end hret
end Mine
end PartW4
section PartW1
open PySem PySem.W PySem.Calls PyProof.Rows
namespace Mine
set_option maxHeartbeats 8000000
theorem c_neg {w : World} (x : Int) (t : Tok) : CC 2 w 49 [.int x t] (fun t => .int (-x) t) := by
  k_with_none
  w_on
  dsimp only [CC, CbRet]
  intros; rename_i hret
  refine wpAny_call ?_
  k_dflt (refine' code_def (binds := [(Str.ofString "a", .int x t)]) ?k1 ?k2 ?k3 ?k4 ?k5 ?kA ?kF ?kK ?k6 ?k7 ?k8 ?k9 ?kB ?_ ?c2 ?c3 ?c4 ?c5; (case kA => exact rfl); (case kF => exact rfl); (case kK => assumption); (case k1 => k_asm); (case k2 => k_asm); (case k3 => k_asm); (case k4 => k_asm); (case k5 => k_asm); (case k6 => k_is); (case k7 => k_is); (case k8 => ktr_room); (case k9 => exact BindsTo.of_eq rfl); (case c5 => decide); (case kB => exact locs rfl); (case c2 => exact rfl); (case c3 => exact rfl); (case c4 => exact rfl); k_whole; intro g' L' h' FG' F' N' B' X' T'; (try dsimp only); (try k_fold))
  repeat' (first | (k_unfold; (try dsimp only)) | (k_end; kc_close) | (walk1; (try dsimp only)) | (leave1; walk_say "STEP leave1"; (try dsimp only)) | fail "no step")
  all_goals cb_end hret
theorem c_add {w : World} (x y : Int) (t u : Tok) : CC 2 w 35 [.int x t, .int y u] (fun t => .int (x + y) t) := by
  k_with_none
  w_on
  dsimp only [CC, CbRet]
  intros; rename_i hret
  refine wpAny_call ?_
  k_dflt (refine' code_def (binds := [(Str.ofString "a", .int x t), (Str.ofString "b", .int y u)]) ?k1 ?k2 ?k3 ?k4 ?k5 ?kA ?kF ?kK ?k6 ?k7 ?k8 ?k9 ?kB ?_ ?c2 ?c3 ?c4 ?c5; (case kA => exact rfl); (case kF => exact rfl); (case kK => assumption); (case k1 => k_asm); (case k2 => k_asm); (case k3 => k_asm); (case k4 => k_asm); (case k5 => k_asm); (case k6 => k_is); (case k7 => k_is); (case k8 => ktr_room); (case k9 => exact BindsTo.of_eq rfl); (case c5 => decide); (case kB => exact locs rfl); (case c2 => exact rfl); (case c3 => exact rfl); (case c4 => exact rfl); k_whole; intro g' L' h' FG' F' N' B' X' T'; (try dsimp only); (try k_fold))
  repeat' (first | (k_unfold; (try dsimp only)) | (k_end; kc_close) | (walk1; (try dsimp only)) | (leave1; walk_say "STEP leave1"; (try dsimp only)) | fail "no step")
  all_goals cb_end hret
end Mine
end PartW1
section PartV2
open PySem PySem.W PySem.Calls PyProof.Rows PySem.Spec
namespace Mine
section
variable {prog : Program} {w : World} {A : Around} {R : GenEnd} {Y : Protocol} {n : Nat} {s₀ : Shared} {fs : List Frame} {s : Shared} {env : Env} {c : Code}
  {K : Flow → Sem Fin} {H : Value → Sem Fin} {gd : Bool → Bool} {lv : List Value → List Value}
noncomputable abbrev noted (env : Env) (e : Value) : Sem Fin := (do noteFrame e env; theTreesLotGoes e : Sem Unit).wrap (fun _ => .raise e) .raise id id
noncomputable abbrev backFrom (K : Flow → Sem Fin) (H : Value → Sem Fin) (gd : Bool → Bool) (lv : List Value → List Value) (env : Env) : Result → Sem Fin := fun r => ((match r with | .ok f => (.pure f : Sem Flow) | .error e => .raise e).onRaise fun (x : Value) => do
        if (← field x 1) == Value.none then unsupported "frame.own-activation:exception-without-traceback"
        setFlight x env.frame).wrap K H gd lv
theorem segFor {target iter : PySem.Expr} {body orelse : List Stmt} {pos : Pos}
    (h : wpAny (model prog w) (A.over c fs) (eval iter env) (fun x s₁ => wpAny (model prog w) (A.over c fs) (pyIter x) (fun it s₂ => ∀ p, Seg (model prog w) A R Y n s₀ (.forLoop target it body orelse env) ((model prog w).den (.forLoop target it body orelse env))
        (.ret (backFrom K H gd lv env) none (gd false) (lv []) c p [] :: fs) s₂) (fun x s' => Seg (model prog w) A R Y n s₀ c (H x) fs s') s₁) (fun x s' => Seg (model prog w) A R Y n s₀ c (H x) fs s') s)
    (hs : ∀ x, foldedSetIterable iter env x = pure x := by intro _; rfl) :
    Seg (model prog w) A R Y n s₀ c ((exec (.For target iter body orelse pos) env).wrap K H gd lv) fs s := by
  rw [exec_For]
  show Seg _ A R Y n s₀ c (.at pos fun _ => (eval iter env >>= fun x => foldedSetIterable iter env x >>= fun x => standAt iter.pos >>= fun _ => holding [x] (pyIter x) >>= fun it => runOwn (.forLoop target it body orelse env) env).wrap K H gd lv) fs s
  refine seg_at ?_
  rw [Sem.bind_eq_wrap', Sem.wrap_wrap]
  refine seg_wrap (wpAny_mono h (fun x s₁ h₁ => ?_) fun _ _ x => x)
  rw [hs x]
  show Seg _ A R Y n s₀ c (.at iter.pos fun _ => (holding [x] (pyIter x) >>= fun it => runOwn (.forLoop target it body orelse env) env).wrap K H gd lv) fs s₁
  refine seg_at ?_
  rw [Sem.bind_eq_wrap', Sem.wrap_wrap]
  refine seg_wrap (wpAny_holding (wpAny_mono h₁ (fun it s₂ h₂ => ?_) fun _ _ x => x))
  exact seg_call h₂
theorem segForLoop {target : PySem.Expr} {it : Value} {body orelse : List Stmt}
    (h : wpAny (model prog w) (A.over (.forLoop target it body orelse env) fs) (pyNext it) (fun r s' => match r with
        | none => Seg (model prog w) A R Y n s₀ (.forLoop target it body orelse env) (.pure (.again (.block orelse env))) fs s'
        | some v => wpAny (model prog w) (A.over (.forLoop target it body orelse env) fs) (assign target env v) (fun _ s'' =>
          Seg (model prog w) A R Y n s₀ (.forLoop target it body orelse env) ((execs body env).wrap (fun f => match f with
            | .next | .cont => .pure (.again (.forLoop target it body orelse env))
            | .brk => .pure (.done .next)
            | .ret v => .pure (.done (.ret v))) (noted env) id id) fs s'') (fun x s' => Seg (model prog w) A R Y n s₀ (.forLoop target it body orelse env) (noted env x) fs s') s')
        (fun x s' => Seg (model prog w) A R Y n s₀ (.forLoop target it body orelse env) (noted env x) fs s') s)
    (ht : ∀ v, letOwnedTupleGo target it v = pure () := by intro _; rfl) :
    Seg (model prog w) A R Y n s₀ (.forLoop target it body orelse env) ((model prog w).den (.forLoop target it body orelse env)) fs s := by
  show Seg _ A R Y n s₀ _ ((forTurn target it body orelse env).onRaise (fun x => do noteFrame x env; theTreesLotGoes x)) fs s
  unfold forTurn
  rw [Sem.onRaise_eq_wrap]
  have eH : (fun e => (do noteFrame e env; theTreesLotGoes e : Sem Unit).bind fun _ => (.raise e : Sem Fin)) = noted env := funext fun e => Sem.bind_eq_wrap _ _
  rw [eH]
  show Seg _ A R Y n s₀ _ (.at target.pos fun _ => ((pyNext it).onRaise (fun _ => standAt { target.pos with line := 0 }) >>= fun r => _).wrap _ _ _ _) fs s
  refine seg_at ?_
  rw [Sem.bind_eq_wrap', Sem.wrap_wrap]
  refine seg_wrap (wpAny_onRaise (wpAny_mono h (fun r s' hr => ?_) fun _ _ h' => wpAny_standAt h'))
  cases r with
  | none => exact hr
  | some v =>
    dsimp only
    rw [ht v]
    show Seg _ A R Y n s₀ _ ((assign target env v >>= fun _ => execs body env >>= fun f => _).wrap _ _ _ _) fs s'
    rw [Sem.bind_eq_wrap', Sem.wrap_wrap]
    refine seg_wrap (wpAny_mono hr (fun _ s'' h'' => ?_) fun _ _ x => x)
    rw [Sem.bind_eq_wrap', Sem.wrap_wrap]
    have key := Sem.wrap_congr (execs body env) id id
      (K := fun f => Sem.wrap Sem.pure (noted env) id id (match f with
        | .next | .cont => again (.forLoop target it body orelse env)
        | .brk => pure (.done .next)
        | .ret v => pure (.done (.ret v))))
      (K' := fun f => match f with
        | .next | .cont => .pure (.again (.forLoop target it body orelse env))
        | .brk => .pure (.done .next)
        | .ret v => .pure (.done (.ret v)))
      (H := fun e => Sem.wrap Sem.pure (noted env) id id (.raise e)) (H' := noted env) (fun f => by cases f <;> rfl) (fun e => rfl)
    exact (congrArg (fun t => Seg (model prog w) A R Y n s₀ (.forLoop target it body orelse env) t fs s'') key).mpr h''
end
end Mine
end PartV2
section PartV3
open PySem PySem.W PySem.Calls PyProof.Rows PySem.Spec
namespace Mine
section
variable {prog : Program} {w : World} {A : Around} {E : Value → Shared → Prop} {s : Shared}
theorem nextOf_range_item {it : Addr} {x left step : Int} {Q : Value → Shared → Prop} (hit : IsRangeIter s.heap it x left step) (hleft : 0 < left)
    (hQ : ∀ h', IsRangeIter h' it (x + step) (left - 1) step → Heap.SameBut it s.heap h' → Q (.int x s.toks) { s with heap := h', toks := s.toks + 1 }) :
    wpAny (model prog w) A (Builtin.SmallTypes.nextOf (.ref it)) Q E s := by
  have hT : s.TypeIs (.ref it) "range_iterator" := ⟨_, hit, rfl⟩
  unfold Builtin.SmallTypes.nextOf
  refine wpAny_bind (wpAny_callSpecial?_slot (name := Str.ofString "__next__") hT PySem.F.slot_range_iterator_next
    (call_meets PySem.F.slot_range_iterator_next hT PySem.F.entry_range_iterator_next (PySem.F.args_range_iterator_next_1 _) (AutoRange.range_iterator___next___range_iterator_1 it x left step (by omega)) ⟨hit, ?_⟩))
  exact wpAny_pure (hQ _ (Heap.get?_update_self _ (Heap.get?_update_self _ hit rfl) rfl) ((Heap.SameBut.update ..).trans (Heap.SameBut.update ..)))
theorem nextOf_range_end {it : Addr} {x left step : Int} {Q : Value → Shared → Prop} (hh : A.handled = none) (hit : IsRangeIter s.heap it x left step) (hleft : left ≤ 0)
    (hE : ∀ h' e, (∀ b o, s.heap.get? b = some o → h'.get? b = some o) → (∃ o, h'.get? e = some o ∧ o.cls = .type "StopIteration") → E (.ref e) { s with heap := h' }) :
    wpAny (model prog w) A (Builtin.SmallTypes.nextOf (.ref it)) Q E s := by
  have hT : s.TypeIs (.ref it) "range_iterator" := ⟨_, hit, rfl⟩
  unfold Builtin.SmallTypes.nextOf
  refine wpAny_bind (wpAny_callSpecial?_slot (name := Str.ofString "__next__") hT PySem.F.slot_range_iterator_next
    (wpAny_call_entry PySem.F.slot_range_iterator_next hT PySem.F.entry_range_iterator_next ?_ (PySem.F.args_range_iterator_next_1 _)))
  show wpAny _ _ (field (.ref it) 0 >>= _) _ _ s
  refine wpAny_bind (wpAny_field hit rfl (x := rawInt x) rfl ?_)
  show wpAny _ _ (field (.ref it) 1 >>= _) _ _ s
  refine wpAny_bind (wpAny_field hit rfl (x := rawInt left) rfl ?_)
  show wpAny _ _ (field (.ref it) 2 >>= _) _ _ s
  refine wpAny_bind (wpAny_field hit rfl (x := rawInt step) rfl ?_)
  show wpAny _ _ (if left ≤ 0 then _ else _) _ _ s
  rw [if_pos hleft]
  refine wpAny_bind (wpAny_rule ?_)
  refine wpAny_bind ?_
  show wpAny _ _ (newExc (.type "StopIteration") [] >>= _) _ _ _
  refine wpAny_bind ?_
  simp only [newExc, newTuple]
  refine wpAny_bind (wpAny_newObj_type ?_ (by size_fits))
  refine wpAny_bind (m := firstArgMember _ _) (wpAny_of_eq (a := Value.none) (by first | rfl | (simp only [firstArgMember]; rfl)) ?_)
  refine wpAny_newObj_type ?_ (by size_fits)
  simp only [raiseNew]
  refine wpAny_bind (wpAny_handled ?_)
  first | rw [show A.in1.handled = none from hh] | rw [hh]
  refine wpAny_bind (wpAny_pure (wpAny_throw ?_))
  exact hE _ _ (fun b o hb => Heap.get?_push_of_some _ (Heap.get?_push_of_some _ hb)) ⟨_, Heap.get?_push_size _ rfl, rfl⟩
noncomputable abbrev GenR (P : Nat → Shared → Shared → Prop) : GenEnd := fun n s₀ r s₁ => r = .ok (.ret .none) ∧ P n s₀ s₁
theorem nextOf_gen {a : Addr} {g n : Nat} {gs : GenState} {P : Nat → Shared → Shared → Prop} {Y : Protocol} {Q : Value → Shared → Prop} (hh : A.handled = none)
    (hl : s.heap.NoLimit) (hroom : A.depth < recursionLimit) (hg : s.heap.IsGen a g) (hgs : s.gens[g]? = some gs)
    (hgo : gs.Goes (model prog w) A.in1 (GenR P) Y n (.send .none) (s.setGen g .running))
    (hY : ∀ v s₁ gs', gs'.bare = true → Y (n - 1) (s.setGen g .running) v s₁ (fun r' s'' => match n with
        | 0 => False
        | m + 1 => gs'.Goes (model prog w) A.in1 (GenR P) Y m r' s'') → Q v (s₁.setGen g gs'))
    (hP : ∀ s₁, P n (s.setGen g .running) s₁ → ∀ h' e, (∀ b o, s₁.heap.get? b = some o → h'.get? b = some o) → (∃ o, h'.get? e = some o ∧ o.cls = .type "StopIteration") → E (.ref e) { s₁.setGen g .finished with heap := h' }) :
    wpAny (model prog w) A (Builtin.SmallTypes.nextOf (.ref a)) Q E s := by
  unfold Builtin.SmallTypes.nextOf
  refine wpAny_bind (wpAny_callSpecial?_slot (name := Str.ofString "__next__") hg.typeIs slot_gen_next
    (wpAny_call_entry slot_gen_next hg.typeIs entry_gen_next ?_ (args_gen_next _)))
  show wpAny _ _ (Builtin.Generator.genWake (.ref a) (.send .none)) _ _ s
  unfold Builtin.Generator.genWake
  refine wpAny_bind (wpAny_holding (wpAny_genNumber hg (wpAny_bind (wpAny_genState hgs ?_))))
  cases gs with
  | running => exact hgo.elim
  | finished => exact hgo.elim
  | _ =>
    refine wpAny_bind (wpAny_roomToWake hl hroom ?_)
    show wpAny _ _ (.resume g (.send .none) [] _) _ _ s
    refine wpAny_resumeQ hgs hgo (fun x s₁ hx => ?_) (fun v s₁ gs' hb hv => ?_)
    · obtain ⟨rfl, hp⟩ := hx
      show wpAny _ _ (newExc (.type "StopIteration") [] >>= _) _ _ _
      refine wpAny_bind ?_
      simp only [newExc, newTuple]
      refine wpAny_bind (wpAny_newObj_type ?_ (by size_fits))
      refine wpAny_bind (m := firstArgMember _ _) (wpAny_of_eq (a := Value.none) (by first | rfl | (simp only [firstArgMember]; rfl)) ?_)
      refine wpAny_newObj_type ?_ (by size_fits)
      simp only [raiseNew]
      refine wpAny_bind (wpAny_bind (wpAny_handled ?_))
      first | rw [show A.in1.handled = none from hh] | rw [hh]
      refine wpAny_throw ?_
      exact hP s₁ hp _ _ (fun b o hb => Heap.get?_push_of_some _ (Heap.get?_push_of_some _ hb)) ⟨_, Heap.get?_push_size _ rfl, rfl⟩
    · exact wpAny_pure ⟨v, rfl, wpAny_pure (hY v s₁ gs' hb hv)⟩
end
end Mine
end PartV3
section PartV4
open PySem PySem.W PySem.Calls PyProof.Rows PySem.Spec
namespace Mine
section
variable {prog : Program} {w : World} {A : Around} {E : Value → Shared → Prop} {s : Shared}
structure ZApart (z TI TO I a : Addr) : Prop where
  TIz : TI ≠ z
  TOz : TO ≠ z
  Iz : I ≠ z
  az : a ≠ z
  TITO : TI ≠ TO
  TII : TI ≠ I
  TOI : TO ≠ I
  aTO : a ≠ TO
  aI : a ≠ I
theorem zip_next_rg {z TI TO I a : Addr} {x left : Int} {p q : Value} {Q : Value → Shared → Prop} (D : ZApart z TI TO I a)
    (hz : IsZip s.heap z TI TO .none) (hTI : IsPair s.heap TI (.ref I) (.ref a)) (hTO : IsPair s.heap TO p q) (h1 : IsRangeIter s.heap I x left 1) (hleft : 0 < left)
    (hgen : ∀ h₃, (∀ c o, c ≠ z → c ≠ TO → c ≠ I → s.heap.get? c = some o → h₃.get? c = some o) → h₃.objs.size = s.heap.objs.size → IsZip h₃ z TI TO .ellipsis → IsPair h₃ TO (.int x s.toks) q → IsRangeIter h₃ I (x + 1) (left - 1) 1 →
      wpAny (model prog w) A (Builtin.SmallTypes.nextOf (.ref a))
        (fun v s₄ => IsZip s₄.heap z TI TO .ellipsis ∧ IsPair s₄.heap TO (.int x s.toks) q ∧ ∀ h₅, IsZip h₅ z TI TO (rawInt s₄.heap.objs.size) → IsPair h₅ TO (.int x s.toks) v → IsPair h₅ s₄.heap.objs.size (.int x s.toks) v → h₅.objs.size = s₄.heap.objs.size + 1 →
          (∀ c o, c ≠ z → c ≠ TO → s₄.heap.get? c = some o → h₅.get? c = some o) → Q (.ref s₄.heap.objs.size) { s₄ with heap := h₅ })
        (fun e s₄ => IsZip s₄.heap z TI TO .ellipsis ∧ ∀ h₅, Heap.SameBut z s₄.heap h₅ → E e { s₄ with heap := h₅ }) { s with heap := h₃, toks := s.toks + 1 }) :
    wpAny (model prog w) A (Builtin.«zip.__next__» ⟨[.ref z], []⟩) (fun fin s' => ∃ v, fin = .done (.ret v) ∧ Q v s') E s := by
  show wpAny _ _ (field (.ref z) 2 >>= _) _ _ _
  refine wpAny_bind (wpAny_field hz rfl (x := .bool false) rfl ?_)
  show wpAny _ _ (field (.ref z) 3 >>= _) _ _ _
  refine wpAny_bind (wpAny_field hz rfl (x := .ref TI) rfl ?_)
  refine wpAny_bind (wpAny_seqItems hTI rfl ?_)
  show wpAny _ _ (Builtin.SmallTypes.ownedTupleIsFree (.ref z) >>= _) _ _ _
  refine wpAny_bind ?_
  unfold Builtin.SmallTypes.ownedTupleIsFree
  refine wpAny_bind (wpAny_field hz rfl (x := .none) rfl (wpAny_pure ?_))
  simp only [if_true]
  refine wpAny_bind (wpAny_rule ?_)
  refine wpAny_bind (wpAny_field hz rfl (x := .ref TO) rfl ?_)
  refine wpAny_bind (wpAny_setField_rec hz (by simp) fun h₁ hz₁ hs₁ => ?_)
  replace hz₁ : IsZip h₁ z TI TO .ellipsis := hz₁
  refine wpAny_bind ?_
  simp only [List.zipIdx_cons, List.zipIdx_nil, List.forIn_cons, List.forIn_nil]
  refine wpAny_bind (wpAny_bind (wpAny_onRaise ?_))
  show wpAny _ _ (Builtin.SmallTypes.nextOf (.ref I) >>= _) _ _ _
  have h1₁ : IsRangeIter h₁ I x left 1 := hs₁.extBut _ _ D.Iz h1
  refine wpAny_bind (nextOf_range_item h1₁ hleft fun h₂ h1₂ hs₂ => wpAny_pure ?_)
  have hTO₂ : IsPair h₂ TO p q := hs₂.extBut _ _ D.TOI (hs₁.extBut _ _ D.TOz hTO)
  refine wpAny_bind (wpAny_seqItems hTO₂ rfl ?_)
  refine wpAny_bind (wpAny_updateSeq_pair hTO₂ fun h₃ hTO₃ hs₃ => ?_)
  replace hTO₃ : IsPair h₃ TO (.int x s.toks) q := hTO₃
  refine wpAny_bind (wpAny_letGo (wpAny_pure ?_))
  refine wpAny_bind (wpAny_bind (wpAny_onRaise ?_))
  show wpAny _ _ (Builtin.SmallTypes.nextOf (.ref a) >>= _) _ _ _
  have hk₃ : ∀ c o, c ≠ z → c ≠ TO → c ≠ I → s.heap.get? c = some o → h₃.get? c = some o := fun c o c1 c2 c3 e => hs₃.extBut _ _ c2 (hs₂.extBut _ _ c3 (hs₁.extBut _ _ c1 e))
  have hsz₃ : h₃.objs.size = s.heap.objs.size := by rw [hs₃.1, hs₂.1, hs₁.1]
  have hz₃ : IsZip h₃ z TI TO .ellipsis := hs₃.extBut _ _ D.TOz.symm (hs₂.extBut _ _ D.Iz.symm hz₁)
  refine wpAny_bind (wpAny_mono (hgen h₃ hk₃ hsz₃ hz₃ hTO₃ (hs₃.extBut _ _ D.TOI.symm h1₂)) (fun v s₄ h₄ => wpAny_pure ?_) fun e s₄ h₄ => ?_)
  · obtain ⟨hz₄, hTO₄, hQ⟩ := h₄
    refine wpAny_bind (wpAny_seqItems hTO₄ rfl ?_)
    refine wpAny_bind (wpAny_updateSeq_pair hTO₄ fun h₅ hTO₅ hs₅ => ?_)
    replace hTO₅ : IsPair h₅ TO (.int x s.toks) v := hTO₅
    refine wpAny_bind (wpAny_letGo (wpAny_pure (wpAny_pure ?_)))
    refine wpAny_bind (wpAny_seqItems hTO₅ rfl ?_)
    refine wpAny_bind (wpAny_newTuple ?_)
    have hsz : h₅.objs.size = s₄.heap.objs.size := hs₅.1
    have hz₅ : IsZip h₅ z TI TO .ellipsis := hs₅.extBut _ _ D.TOz.symm hz₄
    have hzlt : z < h₅.objs.size := Heap.lt_size hz₅
    show wpAny _ _ (Builtin.SmallTypes.ownedTupleHandOut (.ref z) (.ref h₅.objs.size) >>= _) _ _ _
    refine wpAny_bind ?_
    unfold Builtin.SmallTypes.ownedTupleHandOut
    have hz₆ : IsZip (h₅.push { cls := .type "tuple", data := .seq #[.int x s.toks, v] }) z TI TO .ellipsis := Heap.get?_push_of_some _ hz₅
    refine wpAny_bind (wpAny_setField_rec hz₆ (by simp) fun h₇ hz₇ hs₇ => ?_)
    replace hz₇ : IsZip h₇ z TI TO (rawInt h₅.objs.size) := hz₇
    refine wpAny_setField_rec hz₇ (by simp) fun h₈ hz₈ hs₈ => ?_
    replace hz₈ : IsZip h₈ z TI TO (rawInt h₅.objs.size) := hz₈
    have up : ∀ c o, c ≠ z → h₅.get? c = some o → h₈.get? c = some o := fun c o c1 e => hs₈.extBut _ _ c1 (hs₇.extBut _ _ c1 (Heap.get?_push_of_some _ e))
    have hT₈ : IsPair h₈ h₅.objs.size (.int x s.toks) v := hs₈.extBut _ _ (Nat.ne_of_gt hzlt) (hs₇.extBut _ _ (Nat.ne_of_gt hzlt) (Heap.get?_push_size _ rfl))
    have hz8 : h₈.objs.size = h₅.objs.size + 1 := by rw [hs₈.1, hs₇.1, Heap.size_push]
    rw [hsz] at hz₈ hT₈ hz8
    refine wpAny_pure ⟨_, rfl, ?_⟩
    show Q (.ref h₅.objs.size) _
    rw [hsz]
    exact hQ h₈ hz₈ (up _ _ D.TOz hTO₅) hT₈ hz8 fun c o c1 c2 e => up c o c1 (hs₅.extBut _ _ c2 e)
  · obtain ⟨hz₄, hE⟩ := h₄
    exact wpAny_setField_rec hz₄ (by simp) fun h₅ _ hs₅ => hE h₅ hs₅
theorem zip_next_rg_end {z TI TO I a : Addr} {x left : Int} {p q : Value} {Q : Fin → Shared → Prop} (hh : A.handled = none) (D : ZApart z TI TO I a)
    (hz : IsZip s.heap z TI TO .none) (hTI : IsPair s.heap TI (.ref I) (.ref a)) (hTO : IsPair s.heap TO p q) (h1 : IsRangeIter s.heap I x left 1) (hleft : left ≤ 0)
    (hE : ∀ h' e, (∀ c o, c ≠ z → s.heap.get? c = some o → h'.get? c = some o) → (∃ o, h'.get? e = some o ∧ o.cls = .type "StopIteration") → E (.ref e) { s with heap := h' }) :
    wpAny (model prog w) A (Builtin.«zip.__next__» ⟨[.ref z], []⟩) Q E s := by
  show wpAny _ _ (field (.ref z) 2 >>= _) _ _ _
  refine wpAny_bind (wpAny_field hz rfl (x := .bool false) rfl ?_)
  show wpAny _ _ (field (.ref z) 3 >>= _) _ _ _
  refine wpAny_bind (wpAny_field hz rfl (x := .ref TI) rfl ?_)
  refine wpAny_bind (wpAny_seqItems hTI rfl ?_)
  show wpAny _ _ (Builtin.SmallTypes.ownedTupleIsFree (.ref z) >>= _) _ _ _
  refine wpAny_bind ?_
  unfold Builtin.SmallTypes.ownedTupleIsFree
  refine wpAny_bind (wpAny_field hz rfl (x := .none) rfl (wpAny_pure ?_))
  simp only [if_true]
  refine wpAny_bind (wpAny_rule ?_)
  refine wpAny_bind (wpAny_field hz rfl (x := .ref TO) rfl ?_)
  refine wpAny_bind (wpAny_setField_rec hz (by simp) fun h₁ hz₁ hs₁ => ?_)
  replace hz₁ : IsZip h₁ z TI TO .ellipsis := hz₁
  refine wpAny_bind ?_
  simp only [List.zipIdx_cons, List.zipIdx_nil, List.forIn_cons, List.forIn_nil]
  refine wpAny_bind (wpAny_bind (wpAny_onRaise ?_))
  show wpAny _ _ (Builtin.SmallTypes.nextOf (.ref I) >>= _) _ _ _
  have h1₁ : IsRangeIter h₁ I x left 1 := hs₁.extBut _ _ D.Iz h1
  refine wpAny_bind (nextOf_range_end hh h1₁ hleft fun h₂ e hk₂ he => ?_)
  have hz₂ : IsZip h₂ z TI TO .ellipsis := hk₂ _ _ hz₁
  obtain ⟨oe, hoe, hce⟩ := he
  have hez : e ≠ z := fun x => by subst x; rw [hz₂] at hoe; cases hoe; simp at hce
  exact wpAny_setField_rec hz₂ (by simp) fun h₃ _ hs₃ => hE h₃ e (fun c o c1 x => hs₃.extBut _ _ c1 (hk₂ _ _ (hs₁.extBut _ _ c1 x))) ⟨oe, hs₃.extBut _ _ hez hoe, hce⟩
theorem pyNext_zip_of {z TI TO : Addr} {f0 : Value} {Q : Option Value → Shared → Prop} (hz : IsZip s.heap z TI TO f0)
    (h : wpAny (model prog w) A.in1 (Builtin.«zip.__next__» ⟨[.ref z], []⟩) (fun fin s' => ∃ v, fin = .done (.ret v) ∧ Q (some v) s')
      (fun e s' => ∃ er, e = .ref er ∧ (∃ o, s'.heap.get? er = some o ∧ o.cls = .type "StopIteration") ∧ Q none s') s) :
    wpAny (model prog w) A (pyNext (.ref z)) Q E s := by
  have hT : s.TypeIs (.ref z) "zip" := ⟨_, hz, rfl⟩
  unfold pyNext
  refine wpAny_bind (wpAny_attempt (wpAny_callSpecial?_slot (name := Str.ofString "__next__") hT PySem.F.slot_zip_next
    (wpAny_call_entry PySem.F.slot_zip_next hT PySem.F.entry_zip_next (wpAny_mono h (fun fin s' hq => ?_) fun e s' he => ?_) (PySem.F.args_zip_next_1 _))))
  · obtain ⟨v, e, hq⟩ := hq
    exact ⟨v, e, wpAny_pure hq⟩
  · obtain ⟨er, rfl, ho, hq⟩ := he
    obtain ⟨o, ho, hc⟩ := ho
    refine wpAny_bind (wpAny_isInstance (T := "StopIteration") (b := true) ⟨o, ho, hc⟩ isSubtype_stop ?_)
    exact wpAny_pure hq
end
noncomputable abbrev zgH1 (h : Heap) (b : Int) : Heap := h.push { cls := .type "range_iterator", data := .fields #[rawInt 0, rawInt b, rawInt 1] }
noncomputable abbrev zgH2 (h : Heap) (a : Addr) (b : Int) : Heap := (zgH1 h b).push { cls := .type "tuple", data := .seq #[.ref h.objs.size, .ref a] }
noncomputable abbrev zgH3 (h : Heap) (a : Addr) (b : Int) : Heap := (zgH2 h a b).push { cls := .type "tuple", data := .seq #[.none, .none] }
noncomputable abbrev zgH4 (h : Heap) (a : Addr) (b : Int) : Heap := (zgH3 h a b).push { cls := .type "zip", data := .fields #[.none, .bool false, .bool false, .ref (zgH1 h b).objs.size, .ref (zgH2 h a b).objs.size] }
theorem meets_zip_rg (r a : Addr) (g : Nat) (b : Int) (t u v : Tok) (hsm : Builtin.Range.small 0 b 1 = true) (hb : Builtin.Range.rangeSize 0 b 1 = b) :
    Meets (Builtin.«zip.__new__» ⟨[.type "zip", .ref r, .ref a], []⟩) (fun _ R s => IsRange s.heap r 0 b 1 t u v ∧ s.heap.IsGen a g ∧
      R (.ok (.ret (.ref (zgH3 s.heap a b).objs.size))) { s with heap := zgH4 s.heap a b }) :=
  .of_wp fun prog w A R s h => by
    obtain ⟨hp, gn, d, tk, os⟩ := s; obtain ⟨hr, hg, h⟩ := h
    have hsub := sub_zip
    have hR : IsRange (Shared.heap ⟨hp, gn, d, tk, os⟩) r 0 b 1 t u v := hr
    have hG : Heap.IsGen (Shared.heap ⟨hp.push { cls := .type "range_iterator", data := .fields #[rawInt 0, rawInt b, rawInt 1] }, gn, d, tk, os⟩) a g := Heap.IsGen.push hg _
    have pi : ∀ {A : Around} {E : Value → Shared → Prop} {Q : Value → Shared → Prop}, Q (.ref hp.objs.size) ⟨hp.push { cls := .type "range_iterator", data := .fields #[rawInt 0, rawInt b, rawInt 1] }, gn, d, tk, os⟩ → wpAny (model prog w) A (pyIter (.ref r)) Q E ⟨hp, gn, d, tk, os⟩ := fun hq => wpAny_pyIter_range hR hsm (by rw [hb]; exact hq)
    wp_walk using pi, wpAny_pyIter_gen hG
    exact ⟨_, rfl, h⟩
end Mine
end PartV4
section PartV5
open PySem PySem.W PySem.Calls PyProof.Rows PySem.Spec
namespace Mine
section
variable {prog : Program} {w : World} {A : Around} {R : GenEnd} {Y : Protocol} {n : Nat} {s₀ : Shared} {fs : List Frame} {s : Shared} {env : Env} {c : Code}
  {K : Flow → Sem Fin} {H : Value → Sem Fin} {gd : Bool → Bool} {lv : List Value → List Value}
theorem segIf {test : PySem.Expr} {body orelse : List Stmt} {pos : Pos}
    (h : wpAny (model prog w) (A.over c fs) (isTrue test env (eval test env)) (fun b s' => if b = true then Seg (model prog w) A R Y n s₀ c ((execs body env).wrap K H gd lv) fs s' else Seg (model prog w) A R Y n s₀ c ((execs orelse env).wrap K H gd lv) fs s')
      (fun x s' => Seg (model prog w) A R Y n s₀ c (H x) fs s') s) :
    Seg (model prog w) A R Y n s₀ c ((exec (.If test body orelse pos) env).wrap K H gd lv) fs s := by
  rw [exec_If]
  show Seg _ A R Y n s₀ c (.at pos fun _ => (isTrue test env (eval test env) >>= fun b => if b = true then execs body env else execs orelse env).wrap K H gd lv) fs s
  refine seg_at ?_
  rw [Sem.bind_eq_wrap', Sem.wrap_wrap]
  refine seg_wrap (wpAny_mono h (fun b s₁ h₁ => ?_) fun _ _ x => x)
  cases b
  · exact h₁
  · exact h₁
end
noncomputable def forB : Stmt → List Stmt
  | .For _ _ b _ _ => b
  | _ => []
noncomputable def forT : Stmt → PySem.Expr
  | .For t _ _ _ _ => t
  | _ => .Constant .none 0 ⟨0, 0, 0, 0⟩
noncomputable def ifB : Stmt → List Stmt
  | .If _ b _ _ => b
  | _ => []
noncomputable def whB : Stmt → List Stmt
  | .While _ b _ _ => b
  | _ => []
noncomputable def whT : Stmt → PySem.Expr
  | .While t _ _ _ => t
  | _ => .Constant .none 0 ⟨0, 0, 0, 0⟩
noncomputable def nth (l : List Stmt) (i : Nat) : Stmt := (l[i]?).getD (.Pass ⟨0, 0, 0, 0⟩)
noncomputable abbrev g0 : Stmt := nth (fdB (stm 3)) 0
noncomputable abbrev gF : Stmt := nth (fdB (stm 3)) 1
noncomputable abbrev gb (i : Nat) : Stmt := nth (forB gF) i
noncomputable abbrev gi (i : Nat) : Stmt := nth (ifB (gb 1)) i
theorem gBody : fdB (stm 3) = [g0, gF] := rfl
theorem gForBody : forB gF = [gb 0, gb 1, gb 2, gb 3] := rfl
theorem gIfBody : ifB (gb 1) = [gi 0, gi 1] := rfl
noncomputable abbrev envG (C : Addr) : Env := envOf (Str.ofString "_grouping_intervals") (fdS (stm 3)) C 28 (.ref 27)
noncomputable abbrev sInterval : Str := Str.ofString "interval"
noncomputable abbrev sLast : Str := Str.ofString "last_interval"
section
variable {w : World} {A : Around} {E : Value → Shared → Prop} {s : Shared} {hb : Heap} {C : Addr} {m mg mb : Str → Option Value} {mean : ExcName → Option Value}
set_option maxHeartbeats 4000000
theorem g_if127 {Q : Flow → Shared → Prop} {x : Int} {t : Tok} (F : Fr hb C s.heap m) (X : (KX w.params).In hb) (T : Top qv (looseW qv looseV) mean mg mb hb) (hm : m sInterval = some (.int x t))
    (h : if x = 127 then Q (.ret .none) s else Q .next s) : wpAny (model pw w) A (exec (gb 0) (envG C)) Q E s := by
  k_with_none
  w_on
  conv in (exec _ _) => arg 1; whnf
  refine wpAny_If ?_
  walk1
  refine ld F hm ?_
  repeat' (first | (k_unfold; (try dsimp only)) | (walk1; (try dsimp only)) | fail "no step")
  · rw [if_pos (by assumption)] at h; exact h
  · rw [if_neg (by assumption)] at h; exact h
theorem g_test0 {Q : Bool → Shared → Prop} {x : Int} {t : Tok} (F : Fr hb C s.heap m) (X : (KX w.params).In hb) (T : Top qv (looseW qv looseV) mean mg mb hb) (hm : m sInterval = some (.int x t))
    {tst : PySem.Expr} {bd el : List Stmt} {p : Pos} (e : gb 1 = .If tst bd el p) (h : ∀ tk, Q (decide (x = 0)) { s with toks := tk }) : wpAny (model pw w) A (isTrue tst (envG C) (eval tst (envG C))) Q E s := by
  k_with_none
  w_on
  have e' : gb 1 = Stmt.If _ _ _ _ := rfl
  rw [e'] at e
  injection e with e1 e2 e3 e4
  subst e1
  walk1
  refine ld F hm ?_
  repeat' (first | (k_unfold; (try dsimp only)) | (walk1; (try dsimp only)) | fail "no step")
  all_goals exact h _
theorem g_last {Q : Flow → Shared → Prop} {x : Int} {t : Tok} (F : Fr hb C s.heap m) (X : (KX w.params).In hb) (T : Top qv (looseW qv looseV) mean mg mb hb) (hm : m sLast = some (.int x t))
    (h : Q .next s) : wpAny (model pw w) A (exec (gi 0) (envG C)) Q E s := by
  k_with_none
  w_on
  conv in (exec _ _) => arg 1; whnf
  refine wpAny_If ?_
  walk1
  refine ld F hm ?_
  repeat' (first | (k_unfold; (try dsimp only)) | (walk1; (try dsimp only)) | fail "no step")
  all_goals first | exact h | trace_state
end
end Mine
end PartV5
section PartV6
open PySem PySem.W PySem.Calls PyProof.Rows PySem.Spec
namespace Mine
noncomputable def Kfun : Flow → Sem Fin := fun f => .pure (.done (.ret (match f with | .ret v => v | _ => .none)))
noncomputable def Hfun (C : Addr) : Value → Sem Fin := fun e => (leaving (envG C) e).wrap (fun _ => .raise e) .raise id id
noncomputable def KFor (C : Addr) : Flow → Sem Fin := fun f => match f with | .next => (execs [] (envG C)).wrap Kfun (Hfun C) id id | f => Kfun f
noncomputable abbrev cF (C It : Addr) : Code := .forLoop (forT gF) (.ref It) (forB gF) [] (envG C)
noncomputable abbrev cFun (C : Addr) : Code := .func (fdB (stm 3)) (envG C)
noncomputable abbrev fsF (C : Addr) (p : Pos) : List Frame := [.ret (backFrom (KFor C) (Hfun C) id id (envG C)) none (id false) (id []) (cFun C) p []]
noncomputable def KB (C It : Addr) : Flow → Sem Fin := fun f => match f with | .next | .cont => .pure (.again (cF C It)) | .brk => .pure (.done .next) | .ret v => .pure (.done (.ret v))
noncomputable abbrev GK (hb : Heap) (C It G b : Addr) : Prop := b = C ∨ b = It ∨ b = G ∨ ∃ o, hb.get? b = some o
structure GA (hb : Heap) (C It G : Addr) : Prop where
  ItC : It ≠ C
  GC : G ≠ C
  GIt : G ≠ It
  hIt : hb.get? It = none
structure GI (hb : Heap) (C It G : Addr) (its : List Value) (j : Nat) (m : Str → Option Value) (h : Heap) : Prop where
  F : Fr hb C h m
  it : h.IsListIter It G j
  ls : h.IsList G its.toArray
structure GRel (C It : Addr) (s s' : Shared) : Prop where
  heap : ∀ b o, b ≠ C → b ≠ It → s.heap.get? b = some o → s'.heap.get? b = some o
  gens : s'.gens = s.gens
  drawn : s'.drawn = s.drawn
  os : s'.os = s.os
theorem GRel.refl {C It : Addr} (s : Shared) : GRel C It s s := ⟨fun _ _ _ _ e => e, rfl, rfl, rfl⟩
theorem GRel.trans {C It : Addr} {s s' s'' : Shared} (x : GRel C It s s') (y : GRel C It s' s'') : GRel C It s s'' :=
  ⟨fun b o h1 h2 e => y.heap b o h1 h2 (x.heap b o h1 h2 e), y.gens.trans x.gens, y.drawn.trans x.drawn, y.os.trans x.os⟩
noncomputable def gY (hb : Heap) (C It G : Addr) (step : Int) : Protocol := fun k s₀ v s' kap =>
  (∃ t, v = .int (if k = 12 then 1 else step) t) ∧ GRel C It s₀ s' ∧ (∃ o, s'.heap.get? It = some o) ∧ (k ≠ 0 → ∀ s'', (∀ b o, GK hb C It G b → s'.heap.get? b = some o → s''.heap.get? b = some o) → kap (.send .none) s'')
noncomputable def gP (C It : Addr) (step : Int) : Nat → Shared → Shared → Prop := fun n s₀ s' => n = 11 ∧ 7 ≤ step ∧ GRel C It s₀ s'
section
variable {w : World} {A : Around} {s s₀ : Shared} {hb : Heap} {C It G : Addr} {step : Int} {its : List Value} {j n : Nat} {m mg mb : Str → Option Value} {mean : ExcName → Option Value} {p : Pos}
theorem GI.move {h h' : Heap} (D : GA hb C It G) (x : GI hb C It G its j m h) (hk : ∀ b o, GK hb C It G b → h.get? b = some o → h'.get? b = some o) : GI hb C It G its j m h' where
  F := ⟨x.F.ns.at' fun o e => hk C o (.inl rfl) e, fun b o e => hk b o (.inr (.inr (.inr ⟨o, e⟩))) (x.F.keep b o e), x.F.above⟩
  it := let ⟨o, e, r⟩ := x.it; ⟨o, hk It o (.inr (.inl rfl)) e, r⟩
  ls := let ⟨o, e, r⟩ := x.ls; ⟨o, hk G o (.inr (.inr (.inl rfl))) e, r⟩
theorem hb_C (F : Fr hb C s.heap m) : hb.get? C = none := Heap.get?_none_of_le F.above
theorem seg_next {R : GenEnd} {Y : Protocol} {fs : List Frame} {v : Value} (D : GA hb C It G) (I : GI hb C It G its j m s.heap) (hv : its[j]? = some v) (hr : GRel C It s₀ s)
    (h : ∀ s', GI hb C It G its (j + 1) (fun y => if y = sInterval then some v else m y) s'.heap → GRel C It s₀ s' →
      Seg (model pw w) A R Y n s₀ (cF C It) ((execs [gb 0, gb 1, gb 2, gb 3] (envG C)).wrap (KB C It) (noted (envG C)) id id) fs s') :
    Seg (model pw w) A R Y n s₀ (cF C It) ((model pw w).den (cF C It)) fs s := by
  refine segForLoop (wpAny_pyNext_list_item I.it I.ls (x := v) (by simpa using hv) fun h' hit' hs' => ?_)
  have F' : Fr hb C h' m := ⟨I.F.ns.sameBut hs' (Ne.symm D.ItC), fun b o e => hs'.extBut b o (fun q => by rw [q, D.hIt] at e; cases e) (I.F.keep b o e), I.F.above⟩
  show wpAny _ _ (assign (.Name sInterval _) (envG C) v) _ _ _
  refine wpAny_assign_Name (wpAny_storeName_local rfl F'.ns (fun h₁ hn₁ hs₁ => ?_) rfl)
  have F₁ : Fr hb C h₁ (fun y => if y = sInterval then some v else m y) := ⟨hn₁, fun b o e => hs₁.extBut b o (fun q => by have q' : b = C := q; rw [q', Heap.get?_none_of_le I.F.above] at e; cases e) (F'.keep b o e), I.F.above⟩
  refine h _ ⟨F₁, hit'.extBut hs₁.extBut D.ItC, (I.ls.extBut hs'.extBut D.GIt).extBut hs₁.extBut D.GC⟩ (hr.trans ⟨fun b o h1 h2 e => hs₁.extBut b o h1 (hs'.extBut b o h2 e), rfl, rfl, rfl⟩)
theorem seg_done {P : Nat → Shared → Shared → Prop} {Y : Protocol} (hP : P n s₀ s) : Seg (model pw w) A (GenR P) Y n s₀ (cF C It) (KB C It (.ret .none)) (fsF C p) s :=
  seg_leaf (.ok (.ret .none)) (seg_end (.ok (.ret .none)) ⟨rfl, hP⟩)
theorem g_store {E : Value → Shared → Prop} {A : Around} {Q : Flow → Shared → Prop} {v : Value} (I : GI hb C It G its j m s.heap) (D : GA hb C It G) (hm : m sInterval = some v)
    (h : ∀ s', GI hb C It G its j (fun y => if y = sLast then some v else m y) s'.heap → GRel C It s s' → Q .next s') : wpAny (model pw w) A (exec (gb 3) (envG C)) Q E s := by
  conv in (exec _ _) => arg 1; whnf
  refine wpAny_Assign_Name ?_
  refine ld I.F hm ?_
  refine wpAny_storeName_local rfl I.F.ns (fun h₁ hn₁ hs₁ => ?_) rfl
  have F₁ : Fr hb C h₁ (fun y => if y = sLast then some v else m y) := ⟨hn₁, fun b o e => hs₁.extBut b o (fun q => by have q' : b = C := q; rw [q', Heap.get?_none_of_le I.F.above] at e; cases e) (I.F.keep b o e), I.F.above⟩
  exact h _ ⟨F₁, I.it.extBut hs₁.extBut D.ItC, I.ls.extBut hs₁.extBut D.GC⟩ ⟨fun b o h1 h2 e => hs₁.extBut b o h1 e, rfl, rfl, rfl⟩
theorem seg_after {R : GenEnd} {Y : Protocol} {fs : List Frame} {v : Value} (D : GA hb C It G) (I : GI hb C It G its j m s.heap) (hm : m sInterval = some v) (hr : GRel C It s₀ s)
    (h : ∀ s', GI hb C It G its j (fun y => if y = sLast then some v else m y) s'.heap → GRel C It s₀ s' → Seg (model pw w) A R Y n s₀ (cF C It) ((model pw w).den (cF C It)) fs s') :
    Seg (model pw w) A R Y n s₀ (cF C It) ((execs [gb 3] (envG C)).wrap (KB C It) (noted (envG C)) id id) fs s := by
  refine seg_execs_cons (seg_wrap (g_store I D hm fun s' I' hr' => ?_))
  refine seg_execs_nil ?_
  exact seg_again rfl (h s' I' (hr.trans hr'))
theorem seg_yield2 {R : GenEnd} {fs : List Frame} {x : Int} {t : Tok} (hfs : splitAtGen fs = none) (hfg : fs.any Frame.guarded = false) (D : GA hb C It G) (I : GI hb C It G its j m s.heap) (hm : m sInterval = some (.int x t)) (hr : GRel C It s₀ s)
    (hx : x = if n = 12 then 1 else step)
    (h : n ≠ 0 → ∀ s'', GI hb C It G its j m s''.heap → Seg (model pw w) A R (gY hb C It G step) n s'' (cF C It) ((execs [gb 3] (envG C)).wrap (KB C It) (noted (envG C)) id id) fs s'') :
    Seg (model pw w) A R (gY hb C It G step) (n + 1) s₀ (cF C It) ((execs [gb 2, gb 3] (envG C)).wrap (KB C It) (noted (envG C)) id id) fs s := by
  refine seg_execs_cons ?_
  refine seg_Expr_Yield (K := fun f => match f with | .next => (execs [gb 3] (envG C)).wrap (KB C It) (noted (envG C)) id id | f => KB C It f) hfs rfl hfg (ld I.F hm fun kap hk => ⟨⟨t, by rw [hx]⟩, hr, (let ⟨o, e, _⟩ := I.it; ⟨o, e⟩), fun hn s'' h'' => ?_⟩)
  exact hk .none s'' (h hn s'' (I.move D h''))
theorem seg_top {R : GenEnd} {Y : Protocol} {fs : List Frame} {x : Int} {t : Tok} (D : GA hb C It G) (I : GI hb C It G its j m s.heap) (X : (KX w.params).In hb) (T : Top qv (looseW qv looseV) mean mg mb hb) (hm : m sInterval = some (.int x t))
    (h : if x = 127 then Seg (model pw w) A R Y n s₀ (cF C It) (KB C It (.ret .none)) fs s else Seg (model pw w) A R Y n s₀ (cF C It) ((execs [gb 1, gb 2, gb 3] (envG C)).wrap (KB C It) (noted (envG C)) id id) fs s) :
    Seg (model pw w) A R Y n s₀ (cF C It) ((execs [gb 0, gb 1, gb 2, gb 3] (envG C)).wrap (KB C It) (noted (envG C)) id id) fs s := by
  refine seg_execs_cons (seg_wrap (g_if127 I.F X T hm ?_))
  split
  · rw [if_pos (by assumption)] at h; exact h
  · rw [if_neg (by assumption)] at h; exact h
theorem seg_skip0 {R : GenEnd} {Y : Protocol} {fs : List Frame} {x : Int} {t : Tok} (I : GI hb C It G its j m s.heap) (X : (KX w.params).In hb) (T : Top qv (looseW qv looseV) mean mg mb hb) (hm : m sInterval = some (.int x t)) (hx : x ≠ 0)
    (h : ∀ tk, Seg (model pw w) A R Y n s₀ (cF C It) ((execs [gb 2, gb 3] (envG C)).wrap (KB C It) (noted (envG C)) id id) fs { s with toks := tk }) :
    Seg (model pw w) A R Y n s₀ (cF C It) ((execs [gb 1, gb 2, gb 3] (envG C)).wrap (KB C It) (noted (envG C)) id id) fs s := by
  refine seg_execs_cons ?_
  refine segIf (g_test0 I.F X T hm rfl fun tk => ?_)
  rw [decide_eq_false hx]
  rw [if_neg Bool.false_ne_true]
  exact seg_execs_nil (h tk)
end
end Mine
end PartV6
section PartV7
open PySem PySem.W PySem.Calls PyProof.Rows PySem.Spec
namespace Mine
noncomputable abbrev wS : Stmt := gi 1
noncomputable abbrev cW (C : Addr) : Code := .whileLoop (whT wS) (whB wS) [] (envG C)
/-- what follows the while loop inside the loop's body, seen from the body's list -/
noncomputable def KW (C It : Addr) : Flow → Sem Fin := fun f => match f with | .next => (execs [] (envG C)).wrap (fun f => match f with | .next => (execs [gb 2, gb 3] (envG C)).wrap (KB C It) (noted (envG C)) id id | f => KB C It f) (noted (envG C)) id id | f => (match f with | .next => (execs [gb 2, gb 3] (envG C)).wrap (KB C It) (noted (envG C)) id id | f => KB C It f)
section
variable {w : World} {A : Around} {s s₀ : Shared} {hb : Heap} {C It G : Addr} {step : Int} {its : List Value} {j n : Nat} {m mg mb : Str → Option Value} {mean : ExcName → Option Value} {p : Pos}
theorem whTrue {E : Value → Shared → Prop} {A : Around} {Q : Bool → Shared → Prop} (h : Q true s) : wpAny (model pw w) A (isTrue (whT wS) (envG C) (eval (whT wS) (envG C))) Q E s := by
  conv in (isTrue _ _ _) => arg 1; whnf
  conv in (eval _ _) => arg 1; whnf
  w_on
  walk1
  repeat' (first | walk1 | exact h)
theorem seg_while {P : Nat → Shared → Shared → Prop} {fs : List Frame} {t : Tok} (D : GA hb C It G) (hfs : splitAtGen fs = none) (hfg : fs.any Frame.guarded = false) (hm : m sLast = some (.int step t)) :
    ∀ (n : Nat) (s₀ s : Shared), n < 12 → GI hb C It G its j m s.heap → GRel C It s₀ s →
      Seg (model pw w) A (GenR P) (gY hb C It G step) (n + 1) s₀ (cW C) ((model pw w).den (cW C)) fs s := by
  intro n
  induction n with
  | zero =>
    intro s₀ s hn I hr
    refine seg_whileLoop (whTrue ?_)
    rw [if_pos rfl]
    refine seg_execs_cons ?_
    refine seg_Expr_Yield hfs rfl hfg (ld I.F hm fun kap hk => ⟨⟨t, by rw [if_neg (by decide)]⟩, hr, (let ⟨o, e, _⟩ := I.it; ⟨o, e⟩), fun h0 => absurd rfl h0⟩)
  | succ n ih =>
    intro s₀ s hn I hr
    refine seg_whileLoop (whTrue ?_)
    rw [if_pos rfl]
    refine seg_execs_cons ?_
    refine seg_Expr_Yield hfs rfl hfg (ld I.F hm fun kap hk => ⟨⟨t, by rw [if_neg (by omega)]⟩, hr, (let ⟨o, e, _⟩ := I.it; ⟨o, e⟩), fun _ s'' h'' => ?_⟩)
    refine hk .none s'' ?_
    refine seg_execs_nil ?_
    exact seg_again rfl (ih s'' s'' (by omega) (I.move D h'') (GRel.refl _))
theorem seg_if0 {P : Nat → Shared → Shared → Prop} {t u : Tok} (D : GA hb C It G) (I : GI hb C It G its j m s.heap) (X : (KX w.params).In hb) (T : Top qv (looseW qv looseV) mean mg mb hb)
    (hm : m sInterval = some (.int 0 t)) (hl : m sLast = some (.int step u)) (hr : GRel C It s₀ s) (hn : n < 12) :
    Seg (model pw w) A (GenR P) (gY hb C It G step) (n + 1) s₀ (cF C It) ((execs [gb 1, gb 2, gb 3] (envG C)).wrap (KB C It) (noted (envG C)) id id) (fsF C p) s := by
  refine seg_execs_cons ?_
  refine segIf (g_test0 I.F X T hm rfl fun tk => ?_)
  rw [decide_eq_true rfl, if_pos rfl]
  show Seg _ _ _ _ _ _ _ ((execs [gi 0, gi 1] (envG C)).wrap _ _ _ _) _ _
  refine seg_execs_cons (seg_wrap (g_last (s := { s with toks := tk }) I.F X T hl ?_))
  refine seg_execs_cons ?_
  refine seg_While fun p' => ?_
  exact seg_while D rfl rfl hl n s₀ _ hn I ⟨hr.heap, hr.gens, hr.drawn, hr.os⟩
end
end Mine
end PartV7
section PartV8
open PySem PySem.W PySem.Calls PyProof.Rows PySem.Spec
namespace Mine
noncomputable def gItems (step : Int) (t1 t2 t3 t4 : Tok) : List Value := if step < 7 then [.int 1 t1, .int step t2, .int 0 t3, .int 127 t4] else [.int 1 t1, .int step t2, .int 127 t3]
section
variable {w : World} {A : Around} {s s₀ : Shared} {hb : Heap} {C It G : Addr} {step : Int} {its : List Value} {j n : Nat} {m mg mb : Str → Option Value} {mean : ExcName → Option Value} {p : Pos} {t1 t2 t3 t4 : Tok}
theorem seg_L2 {u : Tok} (D : GA hb C It G) (X : (KX w.params).In hb) (T : Top qv (looseW qv looseV) mean mg mb hb) (I : GI hb C It G (gItems step t1 t2 t3 t4) 2 m s.heap) (hl : m sLast = some (.int step u)) (hr : GRel C It s₀ s) :
    Seg (model pw w) A (GenR (gP C It step)) (gY hb C It G step) 11 s₀ (cF C It) ((model pw w).den (cF C It)) (fsF C p) s := by
  by_cases h7 : step < 7
  · refine seg_next D I (v := .int 0 t3) (by unfold gItems; rw [if_pos h7]; rfl) hr fun s' I' hr' => ?_
    refine seg_top D I' X T (x := 0) (t := t3) (by simp) ?_
    rw [if_neg (by decide)]
    exact seg_if0 D I' X T (t := t3) (by simp) (u := u) (by rw [if_neg (by decide)]; exact hl) hr' (by decide)
  · refine seg_next D I (v := .int 127 t3) (by unfold gItems; rw [if_neg h7]; rfl) hr fun s' I' hr' => ?_
    refine seg_top D I' X T (x := 127) (t := t3) (by simp) ?_
    rw [if_pos rfl]
    exact seg_done ⟨rfl, by omega, hr'⟩
theorem seg_L1 (D : GA hb C It G) (X : (KX w.params).In hb) (T : Top qv (looseW qv looseV) mean mg mb hb) (h1 : 1 ≤ step) (h12 : step ≤ 12) (I : GI hb C It G (gItems step t1 t2 t3 t4) 1 m s.heap) (hr : GRel C It s₀ s) :
    Seg (model pw w) A (GenR (gP C It step)) (gY hb C It G step) 12 s₀ (cF C It) ((model pw w).den (cF C It)) (fsF C p) s := by
  refine seg_next D I (v := .int step t2) (by unfold gItems; split <;> rfl) hr fun s' I' hr' => ?_
  refine seg_top D I' X T (x := step) (t := t2) (by simp) ?_
  rw [if_neg (by omega)]
  refine seg_skip0 I' X T (x := step) (t := t2) (by simp) (by omega) fun tk => ?_
  refine seg_yield2 rfl rfl D (s := { s' with toks := tk }) I' (x := step) (t := t2) (by simp) ⟨hr'.heap, hr'.gens, hr'.drawn, hr'.os⟩ (by rw [if_neg (by decide)]) fun _ s'' I'' => ?_
  refine seg_after D I'' (v := .int step t2) (by simp) (GRel.refl _) fun s3 I3 hr3 => ?_
  exact seg_L2 D X T I3 (u := t2) (by simp) hr3
theorem seg_L0 (D : GA hb C It G) (X : (KX w.params).In hb) (T : Top qv (looseW qv looseV) mean mg mb hb) (h1 : 1 ≤ step) (h12 : step ≤ 12) (I : GI hb C It G (gItems step t1 t2 t3 t4) 0 m s.heap) (hr : GRel C It s₀ s) :
    Seg (model pw w) A (GenR (gP C It step)) (gY hb C It G step) 13 s₀ (cF C It) ((model pw w).den (cF C It)) (fsF C p) s := by
  refine seg_next D I (v := .int 1 t1) (by unfold gItems; split <;> rfl) hr fun s' I' hr' => ?_
  refine seg_top D I' X T (x := 1) (t := t1) (by simp) ?_
  rw [if_neg (by decide)]
  refine seg_skip0 I' X T (x := 1) (t := t1) (by simp) (by decide) fun tk => ?_
  refine seg_yield2 rfl rfl D (s := { s' with toks := tk }) I' (x := 1) (t := t1) (by simp) ⟨hr'.heap, hr'.gens, hr'.drawn, hr'.os⟩ (by rw [if_pos rfl]) fun _ s'' I'' => ?_
  refine seg_after D I'' (v := .int 1 t1) (by simp) (GRel.refl _) fun s3 I3 hr3 => ?_
  exact seg_L1 D X T h1 h12 I3 hr3
theorem g_none {E : Value → Shared → Prop} {A : Around} {Q : Flow → Shared → Prop} (F : Fr hb C s.heap m)
    (h : ∀ h₁ tk, Fr hb C h₁ (fun y => if y = sLast then some .none else m y) → Heap.SameBut C s.heap h₁ → Q .next { s with heap := h₁, toks := tk }) : wpAny (model pw w) A (exec g0 (envG C)) Q E s := by
  w_on
  conv in (exec _ _) => arg 1; whnf
  refine wpAny_Assign_Name ?_
  walk1
  refine wpAny_storeName_local rfl F.ns (fun h₁ hn₁ hs₁ => ?_) rfl
  exact h _ _ ⟨hn₁, fun b o e => hs₁.extBut b o (fun q => by have q' : b = C := q; rw [q', Heap.get?_none_of_le F.above] at e; cases e) (F.keep b o e), F.above⟩ hs₁
theorem gen_goes (D : GA hb C s.heap.objs.size G) (X : (KX w.params).In hb) (T : Top qv (looseW qv looseV) mean mg mb hb) (h1 : 1 ≤ step) (h12 : step ≤ 12)
    (F : Fr hb C s.heap m) (hm : m (Str.ofString "grouping") = some (.ref G)) (hl : s.heap.IsList G (gItems step t1 t2 t3 t4).toArray) :
    GenState.Goes (model pw w) A (GenR (gP C s.heap.objs.size step)) (gY hb C s.heap.objs.size G step) 13 (.fresh (cFun C)) (.send .none) s := by
  refine ⟨rfl, seg_func ?_⟩
  show Seg _ _ _ _ _ _ _ ((execs [g0, gF] (envG C)).wrap Kfun (Hfun C) id id) _ _
  refine seg_execs_cons (seg_wrap (g_none F fun h₁ tk F₁ hs₁ => ?_))
  refine seg_execs_cons ?_
  refine segFor (target := forT gF) (body := forB gF) (orelse := []) (ld F₁ (by rw [if_neg (by decide)]; exact hm) ?_)
  have hl₁ : h₁.IsList G (gItems step t1 t2 t3 t4).toArray := hl.extBut hs₁.extBut D.GC
  have hsz : h₁.objs.size = s.heap.objs.size := hs₁.1
  refine wpAny_pyIter_list hl₁ fun p => ?_
  show Seg _ _ _ _ _ _ (.forLoop (forT gF) (.ref h₁.objs.size) (forB gF) [] (envG C)) _ _ _
  have up : ∀ b o, h₁.get? b = some o → (h₁.push { cls := .type "list_iterator", data := .fields #[.ref G, .int 0 0] }).get? b = some o := fun b o e => Heap.get?_push_of_some _ e
  have it : (h₁.push { cls := .type "list_iterator", data := .fields #[.ref G, .int 0 0] }).IsListIter h₁.objs.size G 0 := ⟨_, Heap.get?_push_size _ rfl, rfl, rfl⟩
  rw [hsz] at it
  have q := seg_L0 (A := A) (p := p) (s₀ := s) (s := { s with heap := h₁.push { cls := .type "list_iterator", data := .fields #[.ref G, .int 0 0] }, toks := tk }) D X T h1 h12 ⟨F₁.keeps up, it, hl₁.push _⟩ ⟨fun b o c1 c2 e => up _ _ (hs₁.extBut b o c1 e), rfl, rfl, rfl⟩
  rw [hsz]
  exact q
end
end Mine
end PartV8
section PartW9
open PySem PySem.W PySem.Calls PyProof.Rows
namespace Mine
set_option maxHeartbeats 8000000
noncomputable abbrev sx (x : String) : Str := Str.ofString x
noncomputable abbrev rF : Stmt := nth (fdB (stm 20)) 1
noncomputable abbrev wEnv (L : Addr) : Env := envOf (Str.ofString "_law_walk") (fdS (stm 20)) L 212 (.ref 211)
theorem lenW {prog : Program} {w : World} {A : Around} {E : Value → Shared → Prop} {s : Shared} {h₀ : Heap} {L W : Addr} {news : List (Addr × Obj)} {vs : List Value} {k : Nat} {Q : Value → Shared → Prop} (N : News h₀ L s.heap news) (hm : (W, PySem.W.listOf vs.toArray k) ∈ news) (hl : vs.length ≤ 100)
    (h : ∀ t tk, Q (.int (vs.length : Int) t) { s with toks := tk }) : wpAny (model prog w) A (call (.builtin "len") [.ref W]) Q E s := by
  refine Calls.call_len_list ⟨_, (N _ hm).1, rfl, _, rfl⟩ (by rw [List.size_toArray]; omega) ?_
  rw [List.size_toArray]
  exact h _ _
theorem ints_at : ∀ {vs : List Value} {ns : List Int}, IntsAre vs ns → ∀ (i : Nat) (k : Int), ns[i]? = some k → ∃ t, vs[i]? = some (.int k t)
  | _, _, .nil, i, k, h => by simp at h
  | _, _, .cons x t r, 0, k, h => by simp at h; subst h; exact ⟨t, rfl⟩
  | _, _, .cons x t r, i + 1, k, h => by simpa using ints_at r i k (by simpa using h)
theorem itemW {prog : Program} {w : World} {A : Around} {E : Value → Shared → Prop} {s : Shared} {h₀ : Heap} {L W : Addr} {news : List (Addr × Obj)} {vs : List Value} {ns : List Int} {value slice : PySem.Expr} {i : Int} {u : Tok} {Q : Value → Shared → Prop} {kk : Nat} (N : News h₀ L s.heap news) (hm : (W, PySem.W.listOf vs.toArray kk) ∈ news) (hi : IntsAre vs ns) (h0 : 0 ≤ i) (h1 : i < (ns.length : Int)) (hl : ns.length ≤ 100)
    (h : ∀ t, Q (.int (ns.getD i.toNat 0) t) s)
    (hs : subscripted slice false (.ref W) (.int i u) = operate [.ref W, .int i u] (getItem (.ref W) (.int i u)) := by with_unfolding_all rfl) : wpAny (model prog w) A (subscriptTail value slice (.ref W) (.int i u)) Q E s := by
  have hlt : i.toNat < ns.length := by omega
  obtain ⟨t', e⟩ := ints_at hi i.toNat (ns.getD i.toNat 0) (by rw [List.getD_eq_getElem?_getD, List.getElem?_eq_getElem hlt]; rfl)
  have hL : s.heap.IsList W vs.toArray := ⟨_, (N _ hm).1, rfl, _, rfl⟩
  exact tail_any hL.typeIs slot_list_getitem.lookup (wpAny_getItem_list hL h0 (by omega) (x := .int _ t') (by simpa using e) (h t')) hs
theorem allLt_mem {d : Addr} : ∀ {l : List (Addr × Obj)}, AllLt d l → ∀ p ∈ l, p.1 < d
  | [], _, _, h => nomatch h
  | q :: r, x, p, h => by
    rcases List.mem_cons.mp h with rfl | h
    · exact x.1
    · exact allLt_mem x.2 p h
theorem news_app {g h h5 : Heap} {L FD T : Addr} {o : Obj} {rs : List Value} {rest : List (Addr × Obj)} (N : News g L h ((T, o) :: (FD, LCg.lst rs) :: rest)) (lt : ∀ p ∈ (FD, LCg.lst rs) :: rest, p.1 < T) (hap : ∀ p ∈ rest, p.1 ≠ FD)
    (hs : Heap.SameBut FD h h5) (hD : h5.get? FD = some { cls := .type "list", data := .seq (rs.toArray.push (.ref T)) (rs.length + 1) }) : News g L h5 ((FD, LCg.lst (rs ++ [.ref T])) :: (T, o) :: rest) := by
  intro p hp
  rcases List.mem_cons.mp hp with rfl | hp
  · exact ⟨hD.trans (congrArg some (LCg.lst_snoc rs (.ref T))), (N _ (.tail _ (.head _))).2⟩
  · rcases List.mem_cons.mp hp with rfl | hp
    · exact ⟨hs.extBut _ _ (Nat.ne_of_gt (lt (FD, LCg.lst rs) (.head _))) (N _ (.head _)).1, (N _ (.head _)).2⟩
    · exact ⟨hs.extBut _ _ (hap p hp) (N _ (.tail _ (.tail _ hp))).1, (N _ (.tail _ (.tail _ hp))).2⟩
local macro_rules | `(tactic| walk_at "call builtin:len") => `(tactic| (k_here; (with_reducible show wpAny _ _ (call (Value.builtin "len") [Value.ref _]) _ _ _); k_dflt (refine' lenW ?N ?m ?l ?_; (case N => k_asm); (case m => assumption); (case l => assumption); intro _ _)))
local macro_rules | `(tactic| walk_at "subscriptTail") => `(tactic| (k_here; (with_reducible show wpAny _ _ (subscriptTail _ _ (Value.ref _) (Value.int _ _)) _ _ _); k_dflt (refine' itemW ?N ?m ?i ?l0 ?l1 ?l2 ?_; (case N => k_asm); (case m => assumption); (case i => assumption); (case l0 => omega); (case l1 => omega); (case l2 => assumption); intro _)))
local macro_rules | `(tactic| walk_at "call ref") => `(tactic| (k_here; (with_reducible show wpAny _ _ (call (Value.ref 35) _) _ _ _); k_dflt (refine' c_add _ _ _ _ _ _ _ _ _ _ _ _ _ _ _ _ _ _ _ _ _ _ _ _ _ ?k1 ?k2 ?k3 ?k4 ?k5 ?kK ?kd ?ku ?kR; (case k1 => k_asm); (case k2 => k_asm); (case k3 => k_asm); (case k4 => k_asm); (case k5 => k_asm); (case kK => first | exact rfl | assumption); (case kd => ktr_room); (case ku => ktr_units); (dsimp only [CbRet]; intro t9 h9 tk9 F9 N9; (try dsimp only); (try k_fold)))))
theorem walk_body {w : World} {mean : ExcName → Option Value} {mg mb : Str → Option Value} {dp un : Nat} {gd : Option (List Code)} {cn : Str} {cs : Scope} {L₀ a₀ : Addr} {ccd : Value} {cl : List (Str × Addr)} {outer : List Env} {base g : Heap} {L W RW FD : Addr} {m₀ : Str → Option Value} {rest : List (Addr × Obj)} {s : Shared} {Q : Flow → Shared → Prop} {E : Value → Shared → Prop} {vs rvs rs : List Value} {rns : List Int} {mk sz tot tn : Int} {t1 t2 t3 t4 : Tok}
    (B : Below (ktrTop dp un gd cn cs L₀ a₀ ccd cl outer) base (envX cn cs L₀ a₀ ccd cl :: outer) g) (X : (KX w.params).In g) (T : Top qv (looseW qv looseV) mean mg mb g) (hd : dp + 8 < recursionLimit) (hu : un + 64 < cLine)
    (F : Fr g L s.heap (fun y => if y = sx "size" then some (.int sz t1) else if y = sx "turn" then some (.int tn t2) else if y = sx "mark" then some (.int mk t3) else if y = sx "total" then some (.int tot t4) else if y = sx "worths" then some (.ref W) else if y = sx "row" then some (.ref RW) else if y = sx "found" then some (.ref FD) else m₀ y))
    (N : News g L s.heap ((FD, LCg.lst rs) :: rest)) (hap : ∀ p ∈ rest, p.1 ≠ FD) {wn rn : Nat} (hW : (W, PySem.W.listOf vs.toArray wn) ∈ (FD, LCg.lst rs) :: rest) (hR : (RW, PySem.W.listOf rvs.toArray rn) ∈ (FD, LCg.lst rs) :: rest) (hi : IntsAre rvs rns) (hl : vs.length ≤ 100) (hrl : rns.length ≤ 100) (hlen : rns.length = vs.length + 1) (hrs : rs.length ≤ 100)
    (h0 : 0 ≤ mk + sz) (h1 : mk + sz < 127) (h2 : mk < 200) (h3 : -200 < mk) (h4 : -200 < tot) (h5 : tot < 200) (h6 : 0 ≤ sz) (h7 : sz < 100)
    (hbrk : (vs.length : Int) < mk + sz → ∀ h' tk m', Fr g L h' m' → News g L h' ((FD, LCg.lst rs) :: rest) → m' (sx "found") = some (.ref FD) → Q .brk { s with heap := h', toks := tk })
    (hnext : mk + sz ≤ (vs.length : Int) → ∀ h' tk T t u, (∀ p ∈ (FD, LCg.lst rs) :: rest, p.1 < T) → News g L h' ((FD, LCg.lst (rs ++ [.ref T])) :: (T, { cls := .type "tuple", data := .seq #[.int (mk + sz) t, .int (tot + rns.getD (mk + sz).toNat 0) u] 0 }) :: rest) →
      Fr g L h' (fun y => if y = sx "total" then some (.int (tot + rns.getD (mk + sz).toNat 0) u) else if y = sx "mark" then some (.int (mk + sz) t) else if y = sx "size" then some (.int sz t1) else if y = sx "turn" then some (.int tn t2) else if y = sx "mark" then some (.int mk t3) else if y = sx "total" then some (.int tot t4) else if y = sx "worths" then some (.ref W) else if y = sx "row" then some (.ref RW) else if y = sx "found" then some (.ref FD) else m₀ y) → Q .next { s with heap := h', toks := tk }) :
    wpAny (model pw w) ((ktrTop dp un gd cn cs L₀ a₀ ccd cl outer).deeper (wEnv L)) (execs (forB rF) (wEnv L)) Q E s := by
  k_with_none
  w_on
  repeat' (first | (k_unfold; (try dsimp only)) | (k_end; kc_close) | (walk1; (try dsimp only)) | (leave1; walk_say "STEP leave1"; (try dsimp only)) | fail "no step")
  · exact hbrk (by assumption) _ _ _ (by assumption) (by assumption) rfl
  · k_dflt (refine' c_add _ _ _ _ _ _ _ _ _ _ _ _ _ _ _ _ _ _ _ _ _ _ _ _ _ ?k1 ?k2 ?k3 ?k4 ?k5 ?kK ?kd ?ku ?kR; (case k1 => k_asm); (case k2 => k_asm); (case k3 => k_asm); (case k4 => k_asm); (case k5 => k_asm); (case kK => first | exact rfl | assumption); (case kd => ktr_room); (case ku => ktr_units); (dsimp only [CbRet]; intro t9 h9 tk9 F9 N9; (try dsimp only); (try k_fold)))
    repeat' (first | (k_unfold; (try dsimp only)) | (k_end; kc_close) | (walk1; (try dsimp only)) | (leave1; walk_say "STEP leave1"; (try dsimp only)) | fail "no step")
    with_reducible rename News _ _ _ _ => N4
    with_reducible rename Fr _ _ _ _ => F4
    with_reducible rename _ ∧ AllLt _ _ => l4
    refine append_at (hsz := Nat.le_trans (by simpa using hrs) (by decide : 100 ≤ sizeLine)) (News.get N4 (.tail _ (.head _))) fun h5 hs5 hD5 => ?_
    repeat' (first | (k_unfold; (try dsimp only)) | (k_end; kc_close) | (walk1; (try dsimp only)) | (leave1; walk_say "STEP leave1"; (try dsimp only)) | fail "no step")
    have lt4 := allLt_mem (l := (FD, LCg.lst rs) :: rest) l4
    exact hnext (by omega) h5 _ _ _ _ lt4 (news_app N4 lt4 hap hs5 hD5) (F4.change hs5 (N4 _ (.tail _ (.head _))).2.1 (N4 _ (.tail _ (.head _))).2.2)
end Mine
end PartW9
section PartV9
open PySem PySem.W PySem.Calls PyProof.Rows PySem.Spec
namespace Mine
section
variable {prog : Program} {w : World} {A : Around} {E : Value → Shared → Prop} {s : Shared} {h₀ : Heap} {L : Addr} {m mg mb : Str → Option Value} {mean : ExcName → Option Value} {news : List (Addr × Obj)} {K : Frag} {p : Program} {loose : List Str}
theorem fresh_none (F : Fr h₀ L s.heap m) {b : Addr} (hb : s.heap.objs.size ≤ b) : h₀.get? b = none := by
  cases q : h₀.get? b with
  | none => rfl
  | some o => exact absurd (Heap.lt_size (F.keep _ _ q)) (Nat.not_lt.mpr hb)
theorem fresh_ne (F : Fr h₀ L s.heap m) {b : Addr} (hb : s.heap.objs.size ≤ b) : b ≠ L := Nat.ne_of_gt (Nat.lt_of_lt_of_le F.ns.lt hb)
theorem News.up {h h' : Heap} (N : News h₀ L h news) (k : ∀ b o, h.get? b = some o → h'.get? b = some o) : News h₀ L h' news := fun p hp => ⟨k _ _ (N p hp).1, (N p hp).2⟩
theorem News.more {h : Heap} {b : Addr} {o : Obj} (N : News h₀ L h news) (e : h.get? b = some o) (hL : b ≠ L) (h0 : h₀.get? b = none) : News h₀ L h ((b, o) :: news) := fun p hp => by
  rcases List.mem_cons.mp hp with rfl | hp
  · exact ⟨e, hL, h0⟩
  · exact N p hp
theorem code_gen {R : Result → Shared → Prop} {name qual : Str} {params : Arguments} {body : List Stmt} {scope : Scope} {dV kV doc pm cdv ct oc : Value} {an od : Option Addr} {osl : Array (Option Value)} {f : Addr} {args : Args} {binds : List (Str × Value)}
    (F : Fr h₀ L s.heap m) (X₀ : K.In h₀) (N : News h₀ L s.heap news) (T : Top p loose mean mg mb h₀)
    (ho : K.lookup f = some ⟨oc, od, .func (fnOf name qual params body scope dV kV doc pm an cdv ct), osl⟩) (hcd : codeIn K cdv qual = true) (hroom : A.depth < recursionLimit)
    (hbind : BindsTo s (fnOf name qual params body scope dV kV doc pm an cdv ct) args binds) (hloc : ∀ y ∈ binds, scope.names.lookup y.1 = some .local)
    (hco : scope.isCoroutine = false) (hgen : scope.isGenerator = true) (hk : scope.kind = .function) (hcell : ∀ x ∈ scope.names, x.2 ≠ .cell)
    (h : ∀ h' tk oC oa, Fr h₀ L h' m → News h₀ L h' ((s.heap.objs.size + 1, oa) :: (s.heap.objs.size, oC) :: news) → h'.Ns s.heap.objs.size (fun x => binds.reverse.lookup x) → h'.IsGen (s.heap.objs.size + 1) s.gens.size → h'.objs.size = s.heap.objs.size + 2 →
      R (.ok (.ret (.ref (s.heap.objs.size + 1)))) { s with heap := h', toks := tk, gens := s.gens.push (.fresh (.func body (envOf qual scope s.heap.objs.size f cdv))) }) :
    codeAny (model prog w) A (.call (.ref f) args) R s := by
  have X := X₀.keeps F.keep
  refine codeAny_call_generator (fd := fnOf name qual params body scope dV kV doc pm an cdv ct) hroom (X _ _ ho) rfl hco hgen rfl (codeRec_of X hcd) (hbind _ _ _ _ ?_)
  refine wpAny_newFunctionEnv hcell hloc (fun h₁ hns hsb => ⟨(T.nolimit.keeps F.keep).fresh _ hsb, ?_⟩) hk
  have hk₁ : ∀ b o, s.heap.get? b = some o → h₁.get? b = some o := fun b o e => hsb.extBut b o (Nat.ne_of_lt (Heap.lt_size e)) (Heap.get?_push_of_some _ e)
  have F₁ : Fr h₀ L h₁ m := F.keeps hk₁
  have hsz : h₁.objs.size = s.heap.objs.size + 1 := hsb.1.trans (Heap.size_push ..)
  obtain ⟨oC, es, ep, hC, hd⟩ := id hns
  have N₁ : News h₀ L h₁ ((s.heap.objs.size, oC) :: news) := News.more (News.up N hk₁) hC (fresh_ne F (Nat.le_refl _)) (fresh_none F (Nat.le_refl _))
  show R (.ok (.ret (.ref h₁.objs.size))) _
  have q := h _ (s.toks + binds.length + 1 + 1) oC { cls := .type "generator", data := .fields #[.int s.gens.size 0, .str name (s.toks + binds.length), .str qual (s.toks + binds.length + 1)] } (F₁.push _) (News.more (News.up N₁ fun b o e => Heap.get?_push_of_some _ e) (by rw [← hsz]; exact Heap.get?_push_size _ rfl) (fresh_ne F (Nat.le_succ _)) (fresh_none F (Nat.le_succ _)))
    (hns.at' fun o e => Heap.get?_push_of_some _ e) ⟨_, _, _, by rw [← hsz]; exact Heap.get?_push_size _ rfl, rfl, rfl, rfl⟩ (by rw [Heap.size_push, hsz])
  rw [hsz]
  exact q
end
end Mine
end PartV9
section PartV10
open PySem PySem.W PySem.Calls PyProof.Rows PySem.Spec
namespace Mine
section
variable {prog : Program} {w : World} {A : Around} {E : Value → Shared → Prop} {s : Shared} {h₀ : Heap} {L : Addr} {m mg mb : Str → Option Value} {news : List (Addr × Obj)}
theorem call_zip_rg {r a : Addr} {g : Nat} {t u v : Tok} {Q : Value → Shared → Prop} (F : Fr h₀ L s.heap m) (N : News h₀ L s.heap news) (hr : IsRange s.heap r 0 13 1 t u v) (hg : s.heap.IsGen a g)
    (h : ∀ h', Fr h₀ L h' m → News h₀ L h' news → IsZip h' (s.heap.objs.size + 3) (s.heap.objs.size + 1) (s.heap.objs.size + 2) .none → IsPair h' (s.heap.objs.size + 1) (.ref s.heap.objs.size) (.ref a) →
      IsPair h' (s.heap.objs.size + 2) .none .none → IsRangeIter h' s.heap.objs.size 0 13 1 → h'.objs.size = s.heap.objs.size + 4 →
      (∀ c o, s.heap.get? c = some o → h'.get? c = some o) → Q (.ref (s.heap.objs.size + 3)) { s with heap := h' }) :
    wpAny (model prog w) A (call (.type "zip") [.ref r, .ref a]) Q E s := by
  refine callType_new PySem.F.called_zip (by decide) (PySem.F.typeCall_zip_2 _ _) (PySem.F.newCall_zip_2 _ _) (fun obj => PySem.F.args_object_init_3 obj _ _) PySem.F.entry_zip_new
    (meets_zip_rg r a g 13 t u v (small_one (by decide) (by decide) (by decide) (by decide)) (by decide)) ⟨hr, hg, ?_⟩
  have z1 : (zgH1 s.heap 13).objs.size = s.heap.objs.size + 1 := Heap.size_push ..
  have z2 : (zgH2 s.heap a 13).objs.size = s.heap.objs.size + 2 := by rw [Heap.size_push, z1]
  have z3 : (zgH3 s.heap a 13).objs.size = s.heap.objs.size + 3 := by rw [Heap.size_push, z2]
  have z4 : (zgH4 s.heap a 13).objs.size = s.heap.objs.size + 4 := by rw [Heap.size_push, z3]
  have g4 : (zgH4 s.heap a 13).get? (zgH3 s.heap a 13).objs.size = some _ := Heap.get?_push_size _ rfl
  have g3 : (zgH4 s.heap a 13).get? (zgH2 s.heap a 13).objs.size = some _ := Heap.get?_push_of_some _ (Heap.get?_push_size _ rfl)
  have g2 : (zgH4 s.heap a 13).get? (zgH1 s.heap 13).objs.size = some _ := Heap.get?_push_of_some _ (Heap.get?_push_of_some _ (Heap.get?_push_size _ rfl))
  have g1 : (zgH4 s.heap a 13).get? s.heap.objs.size = some _ := Heap.get?_push_of_some _ (Heap.get?_push_of_some _ (Heap.get?_push_of_some _ (Heap.get?_push_size _ rfl)))
  have up : ∀ c o, s.heap.get? c = some o → (zgH4 s.heap a 13).get? c = some o := fun c o x => Heap.get?_push_of_some _ (Heap.get?_push_of_some _ (Heap.get?_push_of_some _ (Heap.get?_push_of_some _ x)))
  show _ ∧ _
  rw [z1, z2, z3] at g4
  rw [z1] at g2
  rw [z2] at g3
  rw [z3]
  exact ⟨⟨_, g4, rfl⟩, h _ (F.keeps up) (News.up N up) g4 g2 g3 g1 z4 up⟩
end
end Mine
end PartV10
section PartV11
open PySem PySem.W PySem.Calls PyProof.Rows PySem.Spec
namespace Mine
noncomputable abbrev Hid (z TO I C It c : Addr) : Prop := c = z ∨ c = TO ∨ c = I ∨ c = C ∨ c = It
section
variable {w : World} {A : Around} {E : Value → Shared → Prop} {s : Shared} {hb : Heap} {z TI TO I a C It G : Addr} {gn k m : Nat} {gs : GenState} {step : Int} {p q : Value}
theorem zip_turn {Q : Option Value → Shared → Prop} (hh : A.handled = none) (hroom : A.depth < recursionLimit) (D : ZApart z TI TO I a) (hkm : k + m = 12)
    (hnz : ∀ b, GK hb C It G b → b ≠ z ∧ b ≠ TO) (dC : C ≠ I ∧ C ≠ a ∧ C ≠ TI) (dIt : It ≠ I ∧ It ≠ a ∧ It ≠ TI ∧ It ≠ z ∧ It ≠ TO) (limz : ∀ h' : Heap, (∀ c o, c ≠ z → c ≠ TO → c ≠ I → s.heap.get? c = some o → h'.get? c = some o) → h'.NoLimit)
    (hz : IsZip s.heap z TI TO .none) (hTI : IsPair s.heap TI (.ref I) (.ref a)) (hTO : IsPair s.heap TO p q) (h1 : IsRangeIter s.heap I (k : Int) (m + 1 : Int) 1) (hg : s.heap.IsGen a gn) (hgs : s.gens[gn]? = some gs)
    (hgo : ∀ s' : Shared, (∀ c o, c ≠ z → c ≠ TO → c ≠ I → s.heap.get? c = some o → s'.heap.get? c = some o) → s'.heap.objs.size = s.heap.objs.size → gs.Goes (model pw w) A.in1.in1 (GenR (gP C It step)) (gY hb C It G step) (m + 1) (.send .none) s')
    (hnone : k = 2 → 7 ≤ step → ∀ s' : Shared, (∀ c o, ¬ Hid z TO I C It c → s.heap.get? c = some o → s'.heap.get? c = some o) → s'.gens = (s.setGen gn .finished).gens → s'.drawn = s.drawn → s'.os = s.os → Q none s')
    (hsome : ∀ (s' : Shared) (T : Addr) (t u : Tok) (gs' : GenState), (∀ c o, ¬ Hid z TO I C It c → s.heap.get? c = some o → s'.heap.get? c = some o) → (∀ c o, ¬ Hid z TO I C It c → s.heap.get? c = some o → c < T) → T ≠ z → T ≠ TO → T ≠ I → (∃ o, s'.heap.get? It = some o) → s'.heap.objs.size = T + 1 → gs'.bare = true → s'.gens = (s.setGen gn gs').gens → s'.drawn = s.drawn → s'.os = s.os →
      IsZip s'.heap z TI TO (rawInt T) → (∃ p q, IsPair s'.heap TO p q) → IsRangeIter s'.heap I (k + 1 : Int) (m : Int) 1 → IsPair s'.heap T (.int k t) (.int (if k = 0 then 1 else step) u) →
      (m ≠ 0 → ∀ s'' : Shared, (∀ b o, GK hb C It G b → s'.heap.get? b = some o → s''.heap.get? b = some o) → gs'.Goes (model pw w) A.in1.in1 (GenR (gP C It step)) (gY hb C It G step) m (.send .none) s'') → Q (some (.ref T)) s') :
    wpAny (model pw w) A (pyNext (.ref z)) Q E s := by
  refine pyNext_zip_of hz (zip_next_rg D hz hTI hTO h1 (by omega) fun h₃ k3 z3 hz3 hTO3 h13 => ?_)
  have hg3 : h₃.IsGen a gn := let ⟨o, nm, qn, ho, r⟩ := hg; ⟨o, nm, qn, k3 a o D.az D.aTO D.aI ho, r⟩
  refine nextOf_gen (P := gP C It step) (Y := gY hb C It G step) (n := m + 1) (gs := gs) (g := gn) hh (limz h₃ k3) hroom hg3 hgs (hgo _ k3 z3) (fun v s₁ gs' hb' hY => ?_) fun s₁ hP h' e hk' he => ?_
  · obtain ⟨⟨t, rfl⟩, hr, ⟨oI, hoI⟩, hc⟩ := hY
    have k4 : ∀ c o, c ≠ C → c ≠ It → h₃.get? c = some o → s₁.heap.get? c = some o := fun c o c1 c2 e => hr.heap c o c1 c2 e
    have hzn : z ≠ C ∧ TO ≠ C ∧ z ≠ It ∧ TO ≠ It := ⟨fun e => (hnz C (.inl rfl)).1 e.symm, fun e => (hnz C (.inl rfl)).2 e.symm, fun e => dIt.2.2.2.1 e.symm, fun e => dIt.2.2.2.2 e.symm⟩
    refine ⟨k4 _ _ hzn.1 hzn.2.2.1 hz3, k4 _ _ hzn.2.1 hzn.2.2.2 hTO3, fun h₅ hz5 hTO5 hT5 z5 k5 => ?_⟩
    have I4 : IsRangeIter s₁.heap I (k + 1 : Int) (m : Int) 1 := k4 _ _ (Ne.symm dC.1) (Ne.symm dIt.1) (by have := h13; rw [show ((m : Int) + 1 - 1) = m by omega] at this; exact this)
    have old : ∀ c o, ¬ Hid z TO I C It c → s.heap.get? c = some o → s₁.heap.get? c = some o := fun c o hc' e => k4 c o (fun x => hc' (.inr (.inr (.inr (.inl x))))) (fun x => hc' (.inr (.inr (.inr (.inr x))))) (k3 c o (fun x => hc' (.inl x)) (fun x => hc' (.inr (.inl x))) (fun x => hc' (.inr (.inr (.inl x)))) e)
    refine hsome _ s₁.heap.objs.size s.toks t gs' (fun c o hc' e => k5 c o (fun x => hc' (.inl x)) (fun x => hc' (.inr (.inl x))) (old c o hc' e)) (fun c o hc' e => Heap.lt_size (old c o hc' e)) ?_ ?_ ?_ ⟨oI, k5 It oI dIt.2.2.2.1 dIt.2.2.2.2 hoI⟩ z5 hb' ?_ hr.drawn hr.os hz5 ⟨_, _, hTO5⟩ ?_ ?_ ?_
    · exact Nat.ne_of_gt (Heap.lt_size (k4 _ _ hzn.1 hzn.2.2.1 hz3))
    · exact Nat.ne_of_gt (Heap.lt_size (k4 _ _ hzn.2.1 hzn.2.2.2 hTO3))
    · exact Nat.ne_of_gt (Heap.lt_size I4)
    · show (s₁.setGen gn gs').gens = _
      simp only [Shared.setGen, hr.gens]
      exact Array.setIfInBounds_setIfInBounds ..
    · exact k5 I _ D.Iz (Ne.symm D.TOI) I4
    · have e : (if m + 1 - 1 = 12 then (1 : Int) else step) = if k = 0 then 1 else step := by
        by_cases h0 : k = 0
        · rw [if_pos h0, if_pos (by omega)]
        · rw [if_neg h0, if_neg (by omega)]
      rw [e] at hT5
      exact hT5
    · intro hm s'' hs''
      exact hc (by omega) s'' fun b o hb e => hs'' b o hb (k5 b o (hnz b hb).1 (hnz b hb).2 e)
  · obtain ⟨hn, h7, hr⟩ := hP
    have k4 : ∀ c o, c ≠ C → c ≠ It → h₃.get? c = some o → s₁.heap.get? c = some o := fun c o c1 c2 e => hr.heap c o c1 c2 e
    have hzn : z ≠ C ∧ z ≠ It := ⟨fun e => (hnz C (.inl rfl)).1 e.symm, fun e => dIt.2.2.2.1 e.symm⟩
    have hz4 := hk' _ _ (k4 _ _ hzn.1 hzn.2 hz3)
    refine ⟨hz4, fun h₅ hs5 => ⟨e, rfl, ?_, ?_⟩⟩
    · obtain ⟨oe, hoe, hce⟩ := he
      refine ⟨oe, hs5.extBut _ _ (fun x => ?_) hoe, hce⟩
      rw [x] at hoe
      have hoe' : h'.get? z = some oe := hoe
      rw [hz4] at hoe'
      cases hoe'; simp at hce
    · refine hnone (by omega) h7 _ (fun c o hc' e => hs5.extBut c o (fun x => hc' (.inl x)) (hk' c o (k4 c o (fun x => hc' (.inr (.inr (.inr (.inl x))))) (fun x => hc' (.inr (.inr (.inr (.inr x))))) (k3 c o (fun x => hc' (.inl x)) (fun x => hc' (.inr (.inl x))) (fun x => hc' (.inr (.inr (.inl x)))) e)))) ?_ hr.drawn hr.os
      show (s₁.setGen gn .finished).gens = _
      simp only [Shared.setGen, hr.gens]
      exact Array.setIfInBounds_setIfInBounds ..
end
end Mine
end PartV11
section PartV12
open PySem PySem.W PySem.Calls PyProof.Rows PySem.Spec
namespace Mine
section
variable {prog : Program} {w : World} {A : Around} {E E' : Value → Shared → Prop} {s : Shared} {g : Heap} {L z TI TO T : Addr} {m : Str → Option Value} {env : Env}
theorem pair_store {xi xv : Str} {pi pv pt : Pos} {x1} {va vb : Value} {Q : Unit → Shared → Prop} (hh : A.handled = none) (hL : env.locals = L) (hxi : env.kindOf xi = some .local) (hxv : env.kindOf xv = some .local)
    (hp : (env.scope.kind == .class || (env.scope.kind == .module && env.locals != env.globals)) = false)
    (F : Fr g L s.heap m) (hz0 : g.get? z = none) (hzL : z ≠ L) (hTz : T ≠ z) (hz : IsZip s.heap z TI TO (rawInt T)) (hT : IsPair s.heap T va vb)
    (h : ∀ h' tk, (∀ c o, c ≠ z → c ≠ L → s.heap.get? c = some o → h'.get? c = some o) → IsZip h' z TI TO .none → Fr g L h' (fun y => if y = xv then some vb else if y = xi then some va else m y) → Q () { s with heap := h', toks := tk }) :
    wpAny (model prog w) A (letOwnedTupleGo (.Tuple [.Name xi pi, .Name xv pv] x1 pt) (.ref z) (.ref T)) (fun _ s₁ =>
      wpAny (model prog w) A (assign (.Tuple [.Name xi pi, .Name xv pv] x1 pt) env (.ref T)) Q E' s₁) E s := by
  subst hL
  refine wpAny_letOwnedTupleGo_zip hz fun h₂ hz₂ hs₂ => ?_
  have F₂ : Fr g env.locals h₂ m := ⟨F.ns.sameBut hs₂ (Ne.symm hzL), fun b o e => hs₂.extBut b o (fun q => by rw [q, hz0] at e; cases e) (F.keep b o e), F.above⟩
  have hT₂ : Heap.IsTuple h₂ T #[va, vb] := ⟨_, hs₂.extBut _ _ hTz hT, rfl, _, rfl⟩
  refine wpAny_assign_Tuple hh hT₂ rfl rfl fun h₃ hx₃ => ?_
  have k₃ : ∀ c o, h₂.get? c = some o → h₃.get? c = some o := fun c o e => hx₃ c o (Nat.ne_of_lt (Heap.lt_size e)) e
  have F₃ := F₂.keeps k₃
  show wpAny _ A (do holding [vb] (assign (.Name xi pi) env va); do holding [] (assign (.Name xv pv) env vb); pure ()) _ _ _
  have gL : ∀ {h h' : Heap} {m m' : Str → Option Value}, Fr g env.locals h m → Heap.SameBut env.locals h h' → h'.Ns env.locals m' → Fr g env.locals h' m' := fun F hs hn => F.set hn hs
  refine wpAny_bind (wpAny_holding (wpAny_assign_Name (wpAny_storeName_local hxi F₃.ns (fun h₄ hn₄ hs₄ => ?_) hp)))
  have F₄ := gL F₃ hs₄ hn₄
  refine wpAny_bind (wpAny_holding (wpAny_assign_Name (wpAny_storeName_local hxv F₄.ns (fun h₅ hn₅ hs₅ => wpAny_pure ?_) hp)))
  have F₅ := gL F₄ hs₅ hn₅
  exact h h₅ _ (fun c o c1 c2 e => hs₅.extBut c o c2 (hs₄.extBut c o c2 (k₃ c o (hs₂.extBut c o c1 e)))) (hs₅.extBut _ _ hzL (hs₄.extBut _ _ hzL (k₃ _ _ hz₂))) F₅
end
end Mine
end PartV12
section PartV13
open PySem PySem.W PySem.Calls PyProof.Rows PySem.Spec
namespace Mine
noncomputable def grab (h : Heap) : List Addr → List (Addr × Obj)
  | [] => []
  | b :: r => (match h.get? b with | some o => [(b, o)] | none => []) ++ grab h r
theorem grab_mem {h : Heap} : ∀ {l : List Addr}, ∀ p ∈ grab h l, p.1 ∈ l ∧ h.get? p.1 = some p.2
  | [], p, hp => nomatch hp
  | b :: r, p, hp => by
    unfold grab at hp
    rcases List.mem_append.mp hp with hp | hp
    · cases e : h.get? b with
      | none => rw [e] at hp; cases hp
      | some o =>
        rw [e] at hp
        simp at hp
        subst hp
        exact ⟨.head _, e⟩
    · exact ⟨.tail _ (grab_mem p hp).1, (grab_mem p hp).2⟩
theorem mem_grab {h : Heap} {b : Addr} {o : Obj} (e : h.get? b = some o) : ∀ {l : List Addr}, b ∈ l → (b, o) ∈ grab h l
  | c :: r, hm => by
    unfold grab
    rcases List.mem_cons.mp hm with rfl | hm
    · rw [e]; exact .head _
    · exact List.mem_append.mpr (.inr (mem_grab e hm))
noncomputable def ownOf (g h : Heap) (fp : List Addr) : List (Addr × Obj) := (grab h fp).filter fun p => (g.get? p.1).isNone
theorem ownOf_mem {g h : Heap} {fp : List Addr} {p : Addr × Obj} (hp : p ∈ ownOf g h fp) : p.1 ∈ fp ∧ h.get? p.1 = some p.2 ∧ g.get? p.1 = none := by
  obtain ⟨a, b⟩ := List.mem_filter.mp hp
  exact ⟨(grab_mem p a).1, (grab_mem p a).2, by simpa using b⟩
theorem mem_ownOf {g h : Heap} {fp : List Addr} {b : Addr} {o : Obj} (e : h.get? b = some o) (hb : b ∈ fp) (h0 : g.get? b = none) : (b, o) ∈ ownOf g h fp :=
  List.mem_filter.mpr ⟨mem_grab e hb, by simp [h0]⟩
section
variable {prog : Program} {w : World} {A : Around} {s : Shared} {g : Heap} {env : Env} {body : List Stmt} {R : Result → Shared → Prop} {I : Addr} {fp wr : List Addr} {n : Nat}
noncomputable def LoopPost (g : Heap) (L : Addr) (wr : List Addr) (own rest : List (Addr × Obj)) (J : (Str → Option Value) → List (Addr × Obj) → Array GenState → Prop) (s₁ : Shared) (R : Result → Shared → Prop) (f : Flow) (s₂ : Shared) : Prop :=
  match f with
  | .next | .cont => ∃ m₂ live₂, Fr g L s₂.heap m₂ ∧ News g L s₂.heap (live₂ ++ (own ++ rest)) ∧ (∀ p ∈ live₂, p.1 ∉ wr) ∧ J m₂ live₂ s₂.gens ∧ s₂.drawn = s₁.drawn ∧ s₂.os = s₁.os
  | .brk => R (.ok .next) s₂
  | .ret v => R (.ok (.ret v)) s₂
structure LoopIn (g : Heap) (L : Addr) (wr : List Addr) (rest : List (Addr × Obj)) (J : Nat → (Str → Option Value) → List (Addr × Obj) → Array GenState → Prop) (St : Nat → Heap → Prop) (s₀ : Shared) (i : Nat) (m : Str → Option Value) (live : List (Addr × Obj)) (s : Shared) : Prop where
  st : St i s.heap
  F : Fr g L s.heap m
  N : News g L s.heap (live ++ rest)
  off : ∀ p ∈ live ++ rest, p.1 ∉ wr
  J : J i m live s.gens
  drawn : s.drawn = s₀.drawn
  os : s.os = s₀.os
theorem own_news {h : Heap} {L : Addr} {m : Str → Option Value} {live rest : List (Addr × Obj)} (F : Fr g L h m) (hfp : L ∉ fp) (N : News g L h (live ++ rest)) : News g L h (live ++ (ownOf g h fp ++ rest)) := fun p hp => by
  rcases List.mem_append.mp hp with hp | hp
  · exact N p (List.mem_append_left _ hp)
  · rcases List.mem_append.mp hp with hp | hp
    · obtain ⟨a, b, c⟩ := ownOf_mem hp
      exact ⟨b, fun e => hfp (e ▸ a), c⟩
    · exact N p (List.mem_append_right _ hp)
theorem own_keep {h h' : Heap} {L : Addr} {m : Str → Option Value} {live rest : List (Addr × Obj)} (F : Fr g L h m) (k : ∀ b o, g.get? b = some o → h'.get? b = some o) (N' : News g L h' (live ++ (ownOf g h fp ++ rest))) : ∀ b ∈ fp, ∀ o, h.get? b = some o → h'.get? b = some o := fun b hb o e => by
  cases q : g.get? b with
  | none => exact (N' _ (List.mem_append_right _ (List.mem_append_left _ (mem_ownOf e hb q)))).1
  | some o' =>
    have := F.keep b o' q
    rw [this] at e
    cases e
    exact k b _ q
theorem loop_name {x : Str} {px : Pos} {P : Nat → Value → Prop} {St : Nat → Heap → Prop} (W : Walks prog w A I fp wr n P St) (hx : env.kindOf x = some .local)
    (hp : (env.scope.kind == .class || (env.scope.kind == .module && env.locals != env.globals)) = false) (hfp : env.locals ∉ fp) (hwr : ∀ b ∈ wr, g.get? b = none) (hex : ∀ i h, St i h → ∀ b ∈ wr, ∃ o, h.get? b = some o)
    (J : Nat → (Str → Option Value) → List (Addr × Obj) → Array GenState → Prop) {m : Str → Option Value} {live rest : List (Addr × Obj)}
    (h0 : LoopIn g env.locals wr rest J St s 0 m live s)
    (step : ∀ i v m₁ live₁ own s₁, i < n → P i v → J i m₁ live₁ s₁.gens → (∀ p ∈ live₁ ++ rest, p.1 ∉ wr) → (∀ p ∈ own, p.1 ∈ fp) → (∀ b ∈ wr, ∃ o, (b, o) ∈ own) → Fr g env.locals s₁.heap (fun y => if y = x then some v else m₁ y) → News g env.locals s₁.heap (live₁ ++ (own ++ rest)) →
      s₁.drawn = s.drawn → s₁.os = s.os → wpAny (model prog w) A (execs body env) (LoopPost g env.locals wr own rest (J (i + 1)) s₁ R) (notedBy (model prog w) A env fun e s' => R (.error e) s') s₁)
    (done : ∀ m₁ live₁ s₁, J n m₁ live₁ s₁.gens → Fr g env.locals s₁.heap m₁ → News g env.locals s₁.heap (live₁ ++ rest) → s₁.drawn = s.drawn → s₁.os = s.os → R (.ok .next) s₁) :
    codeAny (model prog w) A (.forLoop (.Name x px) (.ref I) body [] env) R s := by
  refine codeAny_forLoop_any (fun k s' => ∃ i m₁ live₁, k = n - i ∧ i ≤ n ∧ LoopIn g env.locals wr rest J St s i m₁ live₁ s') ?_ n ⟨0, m, live, rfl, Nat.zero_le _, h0⟩
  rintro k s' ⟨i, m₁, live₁, rfl, hi, H⟩
  have fr : ∀ {h h' : Heap} {m : Str → Option Value}, Fr g env.locals h m → (∀ b o, b ∉ wr → h.get? b = some o → h'.get? b = some o) → Fr g env.locals h' m := fun F k =>
    ⟨F.ns.at' fun o e => k _ o (fun q => hfp (W.sub _ q)) e, fun b o e => k b o (fun q => by rw [hwr b q] at e; cases e) (F.keep b o e), F.above⟩
  by_cases hn : i = n
  · subst hn
    refine W.done s' _ _ H.st fun h' tk k => wpAny_execs_nil ?_
    exact done m₁ live₁ { s' with heap := h', toks := tk } H.J (fr H.F k) (fun p hp => ⟨k _ _ (H.off p hp) (H.N p hp).1, (H.N p hp).2⟩) H.drawn H.os
  · refine W.item i s' _ _ (Nat.lt_of_le_of_ne hi hn) H.st fun v h' tk hP hst k => ?_
    refine wpAny_of_eq (a := ()) (by rfl) ?_
    have F₁ := fr H.F k
    refine wpAny_assign_Name (wpAny_storeName_local hx F₁.ns (fun h₂ hn₂ hs₂ => ?_) hp)
    have F₂ : Fr g env.locals h₂ _ := F₁.set hn₂ hs₂
    have k₂ : ∀ b o, b ≠ env.locals → h'.get? b = some o → h₂.get? b = some o := fun b o hb e => hs₂.extBut b o hb e
    have N₂ : News g env.locals h₂ (live₁ ++ rest) := fun p hp => ⟨k₂ _ _ (H.N p hp).2.1 (k _ _ (H.off p hp) (H.N p hp).1), (H.N p hp).2⟩
    have st₂ : St (i + 1) h₂ := W.frame _ _ _ hst fun b hb o e => k₂ b o (fun q => hfp (q ▸ hb)) e
    refine wpAny_mono (step i v m₁ live₁ (ownOf g h₂ fp) _ (Nat.lt_of_le_of_ne hi hn) hP H.J H.off (fun p hp => (ownOf_mem hp).1) (fun b hb => ?_) F₂ (own_news F₂ hfp N₂) H.drawn H.os) (fun f s₂ hq => ?_) fun _ _ e => e
    · obtain ⟨o, e⟩ := hex _ _ st₂ b hb
      exact ⟨o, mem_ownOf e (W.sub b hb) (hwr b hb)⟩
    · have nxt : LoopPost g env.locals wr (ownOf g h₂ fp) rest (J (i + 1)) { s' with heap := h₂, toks := tk } R .next s₂ → ∃ k, k < n - i ∧ ∃ i m₁ live₁, k = n - i ∧ i ≤ n ∧ LoopIn g env.locals wr rest J St s i m₁ live₁ s₂ := by
        rintro ⟨m₂, live₂, F₃, N₃, off₃, J₃, hd, ho⟩
        refine ⟨n - (i + 1), by omega, i + 1, m₂, live₂, rfl, by omega, ⟨W.frame _ _ _ st₂ (own_keep F₂ F₃.keep N₃), F₃, fun p hp => ?_, fun p hp => ?_, J₃, hd.trans H.drawn, ho.trans H.os⟩⟩
        · rcases List.mem_append.mp hp with hp | hp
          · exact N₃ p (List.mem_append_left _ hp)
          · exact N₃ p (List.mem_append_right _ (List.mem_append_right _ hp))
        · rcases List.mem_append.mp hp with hp | hp
          · exact off₃ p hp
          · exact H.off p (List.mem_append_right _ hp)
      cases f with
      | next => exact nxt hq
      | cont => exact nxt hq
      | brk => exact hq
      | ret v => exact hq
theorem loop_pair {xi xv : Str} {pi pv pt : Pos} {x1} {Pt : Nat → Array Value → Prop} {St : Nat → Heap → Prop} {Mid : Nat → Addr → Heap → Prop} (W : WalksT prog w A I fp wr n Pt St Mid) (hh : A.handled = none) (hxi : env.kindOf xi = some .local) (hxv : env.kindOf xv = some .local)
    (hp : (env.scope.kind == .class || (env.scope.kind == .module && env.locals != env.globals)) = false) (hfp : env.locals ∉ fp) (hwr : ∀ b ∈ wr, g.get? b = none) (hex : ∀ i h, St i h → ∀ b ∈ wr, ∃ o, h.get? b = some o) (hPt : ∀ i vals, Pt i vals → ∃ a b, vals = #[a, b])
    (J : Nat → (Str → Option Value) → List (Addr × Obj) → Array GenState → Prop) {m : Str → Option Value} {live rest : List (Addr × Obj)}
    (h0 : LoopIn g env.locals wr rest J St s 0 m live s)
    (step : ∀ i va vb m₁ live₁ own s₁, i < n → Pt i #[va, vb] → J i m₁ live₁ s₁.gens → (∀ p ∈ live₁ ++ rest, p.1 ∉ wr) → (∀ p ∈ own, p.1 ∈ fp) → (∀ b ∈ wr, ∃ o, (b, o) ∈ own) → Fr g env.locals s₁.heap (fun y => if y = xv then some vb else if y = xi then some va else m₁ y) → News g env.locals s₁.heap (live₁ ++ (own ++ rest)) →
      s₁.drawn = s.drawn → s₁.os = s.os → wpAny (model prog w) A (execs body env) (LoopPost g env.locals wr own rest (J (i + 1)) s₁ R) (notedBy (model prog w) A env fun e s' => R (.error e) s') s₁)
    (done : ∀ m₁ live₁ s₁, J n m₁ live₁ s₁.gens → Fr g env.locals s₁.heap m₁ → News g env.locals s₁.heap (live₁ ++ rest) → s₁.drawn = s.drawn → s₁.os = s.os → R (.ok .next) s₁) :
    codeAny (model prog w) A (.forLoop (.Tuple [.Name xi pi, .Name xv pv] x1 pt) (.ref I) body [] env) R s := by
  refine codeAny_forLoop_any (fun k s' => ∃ i m₁ live₁, k = n - i ∧ i ≤ n ∧ LoopIn g env.locals wr rest J St s i m₁ live₁ s') ?_ n ⟨0, m, live, rfl, Nat.zero_le _, h0⟩
  rintro k s' ⟨i, m₁, live₁, rfl, hi, H⟩
  have fr : ∀ {h h' : Heap} {m : Str → Option Value}, Fr g env.locals h m → (∀ b o, b ∉ wr → h.get? b = some o → h'.get? b = some o) → Fr g env.locals h' m := fun F k =>
    ⟨F.ns.at' fun o e => k _ o (fun q => hfp (W.sub _ q)) e, fun b o e => k b o (fun q => by rw [hwr b q] at e; cases e) (F.keep b o e), F.above⟩
  by_cases hn : i = n
  · subst hn
    refine W.done s' _ _ H.st fun h' tk k => wpAny_execs_nil ?_
    exact done m₁ live₁ { s' with heap := h', toks := tk } H.J (fr H.F k) (fun p hp => ⟨k _ _ (H.off p hp) (H.N p hp).1, (H.N p hp).2⟩) H.drawn H.os
  · refine W.item i s' _ _ (Nat.lt_of_le_of_ne hi hn) H.st fun T vals h' tk hP hT hTup hmid k => ?_
    obtain ⟨va, vb, rfl⟩ := hPt i vals hP
    refine W.go _ _ _ i T _ _ _ hmid fun h1 hst k1 => ?_
    have F₁ := fr (fr H.F k) k1
    have hT1 : Heap.IsTuple h1 T #[va, vb] := let ⟨o, e, r⟩ := hTup; ⟨o, k1 _ _ (W.apart _ _ _ hmid) e, r⟩
    refine wpAny_assign_Tuple hh hT1 rfl rfl fun h₃ hx₃ => ?_
    have k₃ : ∀ c o, h1.get? c = some o → h₃.get? c = some o := fun c o e => hx₃ c o (Nat.ne_of_lt (Heap.lt_size e)) e
    have F₃ := F₁.keeps k₃
    show wpAny _ A (do holding [vb] (assign (.Name xi pi) env va); do holding [] (assign (.Name xv pv) env vb); pure ()) _ _ _
    refine wpAny_bind (wpAny_holding (wpAny_assign_Name (wpAny_storeName_local hxi F₃.ns (fun h₄ hn₄ hs₄ => ?_) hp)))
    have F₄ : Fr g env.locals h₄ _ := F₃.set hn₄ hs₄
    refine wpAny_bind (wpAny_holding (wpAny_assign_Name (wpAny_storeName_local hxv F₄.ns (fun h₂ hn₂ hs₂ => wpAny_pure ?_) hp)))
    have F₂ : Fr g env.locals h₂ _ := F₄.set hn₂ hs₂
    have k₂ : ∀ b o, b ≠ env.locals → h1.get? b = some o → h₂.get? b = some o := fun b o hb e => hs₂.extBut b o hb (hs₄.extBut b o hb (k₃ b o e))
    have N₂ : News g env.locals h₂ (live₁ ++ rest) := fun p hp => ⟨k₂ _ _ (H.N p hp).2.1 (k1 _ _ (H.off p hp) (k _ _ (H.off p hp) (H.N p hp).1)), (H.N p hp).2⟩
    have st₂ : St (i + 1) h₂ := W.frame _ _ _ hst fun b hb o e => k₂ b o (fun q => hfp (q ▸ hb)) e
    refine wpAny_mono (step i va vb m₁ live₁ (ownOf g h₂ fp) _ (Nat.lt_of_le_of_ne hi hn) hP H.J H.off (fun p hp => (ownOf_mem hp).1) (fun b hb => ?_) F₂ (own_news F₂ hfp N₂) H.drawn H.os) (fun f s₂ hq => ?_) fun _ _ e => e
    · obtain ⟨o, e⟩ := hex _ _ st₂ b hb
      exact ⟨o, mem_ownOf e (W.sub b hb) (hwr b hb)⟩
    · have nxt : ∀ sx : Shared, sx.drawn = s'.drawn → sx.os = s'.os → LoopPost g env.locals wr (ownOf g h₂ fp) rest (J (i + 1)) sx R .next s₂ → ∃ k, k < n - i ∧ ∃ i m₁ live₁, k = n - i ∧ i ≤ n ∧ LoopIn g env.locals wr rest J St s i m₁ live₁ s₂ := by
        rintro sx e1 e2 ⟨m₂, live₂, F₃, N₃, off₃, J₃, hd, ho⟩
        refine ⟨n - (i + 1), by omega, i + 1, m₂, live₂, rfl, by omega, ⟨W.frame _ _ _ st₂ (own_keep F₂ F₃.keep N₃), F₃, fun p hp => ?_, fun p hp => ?_, J₃, (hd.trans e1).trans H.drawn, (ho.trans e2).trans H.os⟩⟩
        · rcases List.mem_append.mp hp with hp | hp
          · exact N₃ p (List.mem_append_left _ hp)
          · exact N₃ p (List.mem_append_right _ (List.mem_append_right _ hp))
        · rcases List.mem_append.mp hp with hp | hp
          · exact off₃ p hp
          · exact H.off p (List.mem_append_right _ hp)
      cases f with
      | next => exact nxt _ rfl rfl hq
      | cont => exact nxt _ rfl rfl hq
      | brk => exact hq
      | ret v => exact hq
end
end Mine
end PartV13
section PartW10
open PySem PySem.W PySem.Calls PyProof.Rows
namespace Mine
noncomputable def totAt (step : Int) (ns : List Int) : Nat → Int
  | 0 => 0
  | k + 1 => totAt step ns k + ((0 : Int) :: ns).getD (((k + 1 : Nat) : Int) * step).toNat 0
noncomputable def rowsK (step : Int) (ns : List Int) (k : Nat) : List (Int × Int) := (List.range k).map fun (i : Nat) => ((i : Int) * step, totAt step ns i)
theorem rowsK_succ (step : Int) (ns : List Int) (k : Nat) : rowsK step ns (k + 1) = rowsK step ns k ++ [((k : Int) * step, totAt step ns k)] := by
  unfold rowsK
  rw [List.range_succ, List.map_append]
  rfl
theorem totAt_step (step : Int) (ns : List Int) (k : Nat) : totAt step ns k = totAt step ns (k - 1) + ((0 : Int) :: ns).getD ((k : Int) * step).toNat 0 := by
  cases k with
  | zero => simp [totAt]
  | succ k => rfl
theorem getD_small {ns : List Int} (h : ∀ x ∈ ns, -1 ≤ x ∧ x ≤ 1) (i : Nat) : -1 ≤ ((0 : Int) :: ns).getD i 0 ∧ ((0 : Int) :: ns).getD i 0 ≤ 1 := by
  rw [List.getD_eq_getElem?_getD]
  cases e : ((0 : Int) :: ns)[i]? with
  | none => simp
  | some x =>
    rcases List.mem_cons.mp (List.mem_of_getElem? e) with rfl | hx
    · simp
    · simpa using h x hx
theorem totAt_small {ns : List Int} (h : ∀ x ∈ ns, -1 ≤ x ∧ x ≤ 1) (step : Int) : ∀ k : Nat, -(k : Int) ≤ totAt step ns k ∧ totAt step ns k ≤ k
  | 0 => by simp [totAt]
  | k + 1 => by
    have a := totAt_small h step k
    have b := getD_small h (((k + 1 : Nat) : Int) * step).toNat
    unfold totAt
    omega
theorem rows_end {k : Nat} {step len : Int} (hk : k ≠ 0) (hs : 1 ≤ step) (h0 : 0 ≤ len) (h1 : ((k : Int) - 1) * step ≤ len) (h2 : len < (k : Int) * step) : (len / step).toNat + 1 = k := by
  have a : (k : Int) - 1 ≤ len / step := (Int.le_ediv_iff_mul_le (by omega)).mpr h1
  have b : len / step < (k : Int) := (Int.ediv_lt_iff_lt_mul (by omega)).mpr h2
  omega
noncomputable abbrev tupO (mk tot : Int) (t u : Tok) : Obj := { cls := .type "tuple", data := .seq #[.int mk t, .int tot u] 0 }
inductive WalkRs : List Value → List (Addr × Obj) → List (Int × Int) → Prop
  | nil : WalkRs [] [] []
  | snoc {rs tl rows T mk tot t u} : WalkRs rs tl rows → WalkRs (rs ++ [.ref T]) ((T, tupO mk tot t u) :: tl) (rows ++ [(mk, tot)])
theorem WalkRs.len {rs tl rows} (h : WalkRs rs tl rows) : rs.length = rows.length := by
  induction h with
  | nil => rfl
  | snoc _ ih => simp [ih]
theorem bare_set {gens : Array GenState} {gn : Nat} {gs : GenState} (h : AllBare gens) (hb : gs.bare = true) : AllBare (gens.setIfInBounds gn gs) := fun y hy => by
  rcases Array.mem_or_eq_of_mem_setIfInBounds hy with hy | rfl
  · exact h y hy
  · exact hb
theorem set_get {s : Shared} {gn : Nat} {gs gs' : GenState} (h : s.gens[gn]? = some gs) : (s.setGen gn gs').gens[gn]? = some gs' := by
  have := (Array.getElem?_eq_some_iff.mp h).1
  show (s.gens.setIfInBounds gn gs')[gn]? = some gs'
  exact Array.getElem?_setIfInBounds_self_of_lt this
structure WI (w : World) (A : Around) (g : Heap) (L C W RW FD G : Addr) (gn : Nat) (step : Int) (ns : List Int) (rest0 : List (Addr × Obj)) (s₀ : Shared) (k : Nat) (s : Shared) (rs : List Value) (tl : List (Addr × Obj)) (It : Addr) (gst : GenState) (m : Str → Option Value) : Prop where
  F : Fr g L s.heap m
  mark : ∃ t, m (sx "mark") = some (.int (if k = 0 then -1 else ((k : Int) - 1) * step) t)
  total : ∃ t, m (sx "total") = some (.int (totAt step ns (k - 1)) t)
  wo : m (sx "worths") = some (.ref W)
  ro : m (sx "row") = some (.ref RW)
  fo : m (sx "found") = some (.ref FD)
  N : News g L s.heap ((FD, LCg.lst rs) :: (tl ++ rest0))
  rel : WalkRs rs tl (rowsK step ns k)
  tlC : ∀ p ∈ tl, C + 6 ≤ p.1 ∧ p.1 ≠ It
  tl0 : k = 0 → tl = []
  gs : s.gens[gn]? = some gst
  go : (k = 0 ∧ gst = .fresh (cFun C) ∧ ∃ mC, Fr g C s.heap mC ∧ mC (Str.ofString "grouping") = some (.ref G)) ∨
    (k ≠ 0 ∧ C + 6 ≤ It ∧ ∀ mm, k + mm = 12 → ∀ s'' : Shared, (∀ b o, GK g C It G b → s.heap.get? b = some o → s''.heap.get? b = some o) → gst.Goes (model pw w) A.in1.in1 (GenR (gP C It step)) (gY g C It G step) (mm + 1) (.send .none) s'')
  z : IsZip s.heap (C + 5) (C + 3) (C + 4) .none
  ti : IsPair s.heap (C + 3) (.ref (C + 2)) (.ref (C + 1))
  to : ∃ p q, IsPair s.heap (C + 4) p q
  ri : IsRangeIter s.heap (C + 2) (k : Int) (13 - k : Int) 1
  ig : s.heap.IsGen (C + 1) gn
  bare : AllBare s.gens
  drawn : s.drawn = s₀.drawn
  os : s.os = s₀.os
  fit : k = 0 ∨ ((k : Int) - 1) * step ≤ ns.length
  le : k ≤ 13
theorem rC_el : ∃ pi pv pt x1, forT rF = .Tuple [.Name (sx "turn") pi, .Name (sx "size") pv] x1 pt := ⟨_, _, _, _, rfl⟩
theorem zap (C : Addr) : ZApart (C + 5) (C + 3) (C + 4) (C + 2) (C + 1) := by
  constructor <;> (delta Addr at *; omega)
theorem ge6 {C x : Addr} (h : C + 6 ≤ x) : x ≠ C + 5 ∧ x ≠ C + 4 ∧ x ≠ C + 3 ∧ x ≠ C + 2 ∧ x ≠ C + 1 ∧ x ≠ C := by
  delta Addr at *; omega
theorem lt6 {C x : Addr} (h : x < C) : x ≠ C + 5 ∧ x ≠ C + 4 ∧ x ≠ C + 3 ∧ x ≠ C + 2 ∧ x ≠ C + 1 ∧ x ≠ C := by
  delta Addr at *; omega
theorem lt_ge6 {C x y : Addr} (h : x < C) (h' : C + 6 ≤ y) : x ≠ y := by
  delta Addr at *; omega
theorem cSelf (C : Addr) : (C ≠ C + 2 ∧ C ≠ C + 1 ∧ C ≠ C + 3) ∧ C ≠ C + 5 ∧ C ≠ C + 4 := by
  delta Addr at *; omega
theorem a1 (C It : Addr) (h : C + 6 ≤ It) : ¬ Hid (C + 5) (C + 4) (C + 2) C It (C + 1) ∧ ¬ Hid (C + 5) (C + 4) (C + 2) C It (C + 3) := by
  unfold Hid; delta Addr at *; omega
theorem nHid_lt {C It x : Addr} (h : C + 6 ≤ It) (hx : x < C) : ¬ Hid (C + 5) (C + 4) (C + 2) C It x := by
  unfold Hid; delta Addr at *; omega
theorem nHid_ge {C It x : Addr} (hx : C + 6 ≤ x ∧ x ≠ It) : ¬ Hid (C + 5) (C + 4) (C + 2) C It x := by
  unfold Hid; delta Addr at *; omega
theorem hid_ge {C It L b : Addr} (hLC : L < C) (h : C + 6 ≤ It) (hb : b ∈ [C + 5, C + 4, C + 3, C + 2, C + 1, C, It]) : C ≤ b ∧ b ≠ L := by
  simp only [List.mem_cons, List.not_mem_nil, or_false] at hb
  delta Addr at *; omega
theorem hid_tl {C It b x : Addr} (h : C + 6 ≤ It) (hx : x < C ∨ (C + 6 ≤ x ∧ x ≠ It)) (hb : b ∈ [C + 5, C + 4, C + 3, C + 2, C + 1, C, It]) : b ≠ x := by
  simp only [List.mem_cons, List.not_mem_nil, or_false] at hb
  delta Addr at *; omega
theorem fr_keep {g h h' : Heap} {L : Addr} {m : Str → Option Value} (F : Fr g L h m) (k : ∀ c o, c ≤ L → h.get? c = some o → h'.get? c = some o) : Fr g L h' m :=
  ⟨F.ns.at' fun o e => k L o (Nat.le_refl _) e, fun b o e => k b o (Nat.le_of_lt (Nat.lt_of_lt_of_le (Heap.lt_size e) F.above)) (F.keep b o e), F.above⟩
theorem led_keep {g h h' : Heap} {L : Addr} {l : List (Addr × Obj)} (N : News g L h l) (k : ∀ p ∈ l, h.get? p.1 = some p.2 → h'.get? p.1 = some p.2) : News g L h' l :=
  fun p hp => ⟨k p hp (N p hp).1, (N p hp).2⟩
theorem chain_eq {m : Str → Option Value} {a b : Value} {mk tot wo ro fo : Value} (h1 : m (sx "mark") = some mk) (h2 : m (sx "total") = some tot) (h3 : m (sx "worths") = some wo) (h4 : m (sx "row") = some ro) (h5 : m (sx "found") = some fo) :
    (fun y => if y = sx "size" then some a else if y = sx "turn" then some b else m y) =
    (fun y => if y = sx "size" then some a else if y = sx "turn" then some b else if y = sx "mark" then some mk else if y = sx "total" then some tot else if y = sx "worths" then some wo else if y = sx "row" then some ro else if y = sx "found" then some fo else m y) := by
  funext y
  split
  · rfl
  · split
    · rfl
    · split
      · rename_i h; rw [h, h1]
      · split
        · rename_i h; rw [h, h2]
        · split
          · rename_i h; rw [h, h3]
          · split
            · rename_i h; rw [h, h4]
            · split
              · rename_i h; rw [h, h5]
              · rfl
theorem walk_loop {w : World} {mean : ExcName → Option Value} {mg mb : Str → Option Value} {dp un : Nat} {gd : Option (List Code)} {cn : Str} {cs : Scope} {L₀ a₀ : Addr} {ccd : Value} {cl : List (Str × Addr)} {outer : List Env} {base g : Heap} {L C W RW FD G : Addr} {gn : Nat} {step : Int} {ns : List Int} {vs rvs : List Value} {wn rn : Nat} {rest0 : List (Addr × Obj)} {s₀ : Shared} {R : Result → Shared → Prop} {tg1 tg2 tg3 tg4 : Tok}
    (B : Below (ktrTop dp un gd cn cs L₀ a₀ ccd cl outer) base (envX cn cs L₀ a₀ ccd cl :: outer) g) (X : (KX w.params).In g) (T : Top qv (looseW qv looseV) mean mg mb g) (hd : dp + 8 < recursionLimit) (hu : un + 64 < cLine)
    (hLC : L < C) (hFC : FD < C) (hrC : ∀ p ∈ rest0, p.1 < C) (hap : ∀ p ∈ rest0, p.1 ≠ FD)
    (hW : (W, PySem.W.listOf vs.toArray wn) ∈ rest0) (hR : (RW, PySem.W.listOf rvs.toArray rn) ∈ rest0) (hi : IntsAre rvs ((0 : Int) :: ns)) (hG : (G, PySem.W.listOf (gItems step tg1 tg2 tg3 tg4).toArray 0) ∈ rest0)
    (hl : vs.length ≤ 12) (hlen : ns.length = vs.length) (hns : ∀ x ∈ ns, -1 ≤ x ∧ x ≤ 1) (h1 : 1 ≤ step) (h12 : step ≤ 12)
    (hQ : ∀ s' rs tl m', Fr g L s'.heap m' → m' (sx "found") = some (.ref FD) → News g L s'.heap ((FD, LCg.lst rs) :: (tl ++ rest0)) → WalkRs rs tl (rowsK step ns (((ns.length : Int) / step).toNat + 1)) → (∀ p ∈ tl, C ≤ p.1) → AllBare s'.gens → s'.drawn = s₀.drawn → s'.os = s₀.os → R (.ok .next) s')
    {s : Shared} {rs : List Value} {tl : List (Addr × Obj)} {It : Addr} {gst : GenState} {m : Str → Option Value}
    (I0 : WI w ((ktrTop dp un gd cn cs L₀ a₀ ccd cl outer).deeper (wEnv L)) g L C W RW FD G gn step ns rest0 s₀ 0 s rs tl It gst m) :
    codeAny (model pw w) ((ktrTop dp un gd cn cs L₀ a₀ ccd cl outer).deeper (wEnv L)) (.forLoop (forT rF) (.ref (C + 5)) (forB rF) [] (wEnv L)) R s := by
  refine codeAny_forLoop_any (fun n s => ∃ k rs tl It gst m, n = 14 - k ∧ WI w ((ktrTop dp un gd cn cs L₀ a₀ ccd cl outer).deeper (wEnv L)) g L C W RW FD G gn step ns rest0 s₀ k s rs tl It gst m) ?_ 14 ⟨0, _, _, _, _, _, rfl, I0⟩
  clear I0 gst m It tl rs s
  rintro n s ⟨k, rs, tl, It, gst, m, rfl, I⟩
  have gC : ∀ b o, g.get? b = some o → b < L := fun b o e => Nat.lt_of_lt_of_le (Heap.lt_size e) I.F.above
  have gN : ∀ b, L ≤ b → g.get? b = none := fun b hb => by
    cases q : g.get? b with
    | none => rfl
    | some o => exact absurd (gC b o q) (Nat.not_lt.mpr hb)
  have GC : G < C := hrC _ hG
  have hled : ∀ p ∈ (FD, LCg.lst rs) :: (tl ++ rest0), p.1 < C ∨ (C + 6 ≤ p.1 ∧ p.1 ≠ It) := fun p hp => by
    rcases List.mem_cons.mp hp with rfl | hp
    · exact .inl hFC
    · rcases List.mem_append.mp hp with hp | hp
      · exact .inr (I.tlC p hp)
      · exact .inl (hrC p hp)
  have hh : ((ktrTop dp un gd cn cs L₀ a₀ ccd cl outer).deeper (wEnv L)).handled = none := rfl
  have hroom : ((ktrTop dp un gd cn cs L₀ a₀ ccd cl outer).deeper (wEnv L)).depth < recursionLimit := by ktr_room
  have limz : ∀ h' : Heap, (∀ b o, g.get? b = some o → h'.get? b = some o) → h'.NoLimit := fun h' k => T.nolimit.keeps k
  by_cases h13 : k = 13
  · obtain ⟨p, q, hTO⟩ := I.to
    subst h13
    refine pyNext_zip_of I.z (zip_next_rg_end hh (zap C) I.z I.ti hTO I.ri (by decide) fun h' e k' he => ⟨e, rfl, he, wpAny_execs_nil ?_⟩)
    have hfit : ((13 : Nat) : Int) - 1 = 12 := rfl
    have e13 : ((ns.length : Int) / step).toNat + 1 = 13 := by
      have f := I.fit.resolve_left (by decide)
      rw [hfit] at f
      exact rows_end (by decide) h1 (by omega) (by rw [hfit]; exact f) (by show _ < (13 : Int) * step; omega)
    have hTl : ∀ p ∈ tl, C ≤ p.1 := fun p hp => Nat.le_trans (Nat.le_add_right _ 6) (I.tlC p hp).1
    refine hQ _ rs tl m (fr_keep I.F fun c o hc e => k' c o (lt6 (Nat.lt_of_le_of_lt hc hLC)).1 e) I.fo (led_keep I.N fun p hp e => k' _ _ ?_ e) (by rw [e13]; exact I.rel) hTl I.bare I.drawn I.os
    rcases hled p hp with h | h
    · exact (lt6 h).1
    · exact (ge6 h.1).1
  · have hk : k ≤ 12 := by have := I.le; omega
    obtain ⟨p0, q0, hTO⟩ := I.to
    obtain ⟨mm, hkm⟩ : ∃ mm, k + mm = 12 := ⟨12 - k, by omega⟩
    have hri : IsRangeIter s.heap (C + 2) (k : Int) ((mm : Int) + 1) 1 := by
      have := I.ri
      rw [show (13 : Int) - k = (mm : Int) + 1 by omega] at this
      exact this
    have gHid : ∀ {I' : Addr}, C + 6 ≤ I' → ∀ c, c ≤ L → ¬ Hid (C + 5) (C + 4) (C + 2) C I' c := fun h c hc => nHid_lt h (Nat.lt_of_le_of_lt hc hLC)
    obtain ⟨It', hIt6, hgo, htl'⟩ : ∃ It', C + 6 ≤ It' ∧ (∀ s' : Shared, (∀ c o, c ≠ C + 5 → c ≠ C + 4 → c ≠ C + 2 → s.heap.get? c = some o → s'.heap.get? c = some o) → s'.heap.objs.size = s.heap.objs.size →
        gst.Goes (model pw w) ((ktrTop dp un gd cn cs L₀ a₀ ccd cl outer).deeper (wEnv L)).in1.in1 (GenR (gP C It' step)) (gY g C It' G step) (mm + 1) (.send .none) s') ∧ (∀ p ∈ tl, C + 6 ≤ p.1 ∧ p.1 ≠ It') := by
      rcases I.go with ⟨h0, rfl, mC, FC, hmC⟩ | ⟨h0, hIt, hg⟩
      · have hsz : C + 6 ≤ s.heap.objs.size := Heap.lt_size I.z
        refine ⟨s.heap.objs.size, hsz, fun s' k' hs' => ?_, fun p hp => by rw [I.tl0 h0] at hp; cases hp⟩
        have e12 : mm + 1 = 13 := by omega
        rw [e12, ← hs']
        have FC' : Fr g C s'.heap mC := ⟨FC.ns.at' fun o e => k' C o (cSelf C).2.1 (cSelf C).2.2 (cSelf C).1.1 e, fun b o e => by
          have := lt6 (Nat.lt_trans (gC b o e) hLC)
          exact k' b o this.1 this.2.1 this.2.2.2.1 (FC.keep b o e), FC.above⟩
        refine gen_goes (t1 := tg1) (t2 := tg2) (t3 := tg3) (t4 := tg4) ⟨?_, ?_, ?_, ?_⟩ X T h1 h12 FC' hmC ?_
        · rw [hs']; exact (ge6 hsz).2.2.2.2.2
        · exact (lt6 GC).2.2.2.2.2
        · rw [hs']; exact lt_ge6 GC hsz
        · rw [hs']; exact gN _ (Nat.le_trans (Nat.le_of_lt hLC) (Nat.le_trans (Nat.le_add_right _ 6) hsz))
        · have := lt6 GC
          exact ⟨_, k' G _ this.1 this.2.1 this.2.2.2.1 (I.N _ (.tail _ (List.mem_append_right _ hG))).1, rfl, _, rfl⟩
      · refine ⟨It, hIt, fun s' k' _ => hg mm hkm s' fun b o hb e => ?_, I.tlC⟩
        rcases hb with rfl | rfl | rfl | ⟨o', hb⟩
        · exact k' _ o (cSelf _).2.1 (cSelf _).2.2 (cSelf _).1.1 e
        · have := ge6 hIt; exact k' _ o this.1 this.2.1 this.2.2.2.1 e
        · have := lt6 GC; exact k' _ o this.1 this.2.1 this.2.2.2.1 e
        · have := lt6 (Nat.lt_trans (gC b o' hb) hLC); exact k' _ o this.1 this.2.1 this.2.2.2.1 e
    have hled' : ∀ p ∈ (FD, LCg.lst rs) :: (tl ++ rest0), p.1 < C ∨ (C + 6 ≤ p.1 ∧ p.1 ≠ It') := fun p hp => by
      rcases List.mem_cons.mp hp with rfl | hp
      · exact .inl hFC
      · rcases List.mem_append.mp hp with hp | hp
        · exact .inr (htl' p hp)
        · exact .inl (hrC p hp)
    have hTl : ∀ p ∈ tl, C ≤ p.1 := fun p hp => Nat.le_trans (Nat.le_add_right _ 6) (I.tlC p hp).1
    have nHled : ∀ p ∈ (FD, LCg.lst rs) :: (tl ++ rest0), ¬ Hid (C + 5) (C + 4) (C + 2) C It' p.1 := fun p hp => by
      rcases hled' p hp with h | h
      · exact nHid_lt hIt6 h
      · exact nHid_ge h
    refine zip_turn (It := It') (G := G) (gn := gn) (gs := gst) (step := step) (hb := g) hh hroom (zap C) hkm ?_ (cSelf C).1 ?_ (fun h' k' => limz h' fun b o e => ?_) I.z I.ti hTO hri I.ig I.gs hgo (fun hk2 h7 s' k' hgens hdr hos => ?_) fun s' T1 t u gs' k' hT hTz hTT hTI hoI hsz hbare hgens hdr hos hz' hTO' hri' hpair hcont => ?_
    · rintro b (rfl | rfl | rfl | ⟨o, hb⟩)
      · exact (cSelf _).2
      · exact ⟨(ge6 hIt6).1, (ge6 hIt6).2.1⟩
      · exact ⟨(lt6 GC).1, (lt6 GC).2.1⟩
      · have := lt6 (Nat.lt_trans (gC b o hb) hLC); exact ⟨this.1, this.2.1⟩
    · have := ge6 hIt6; exact ⟨this.2.2.2.1, this.2.2.2.2.1, this.2.2.1, this.1, this.2.1⟩
    · have := lt6 (Nat.lt_trans (gC b o e) hLC); exact k' b o this.1 this.2.1 this.2.2.2.1 (I.F.keep b o e)
    · refine wpAny_execs_nil (hQ _ rs tl m (fr_keep I.F fun c o hc e => k' c o (gHid hIt6 c hc) e) I.fo (led_keep I.N fun p hp e => k' _ _ (nHled p hp) e) ?_ hTl (by rw [hgens]; exact bare_set I.bare rfl) (hdr.trans I.drawn) (hos.trans I.os))
      subst hk2
      have f := I.fit.resolve_left (by decide)
      have e1 : ((2 : Nat) : Int) - 1 = 1 := rfl
      rw [rows_end (k := 2) (by decide) h1 (by omega) f (by show _ < (2 : Int) * step; omega)]
      exact I.rel
    · have F1 : Fr g L s'.heap m := fr_keep I.F fun c o hc e => k' c o (gHid hIt6 c hc) e
      have N1 : News g L s'.heap ((FD, LCg.lst rs) :: (tl ++ rest0)) := led_keep I.N fun p hp e => k' _ _ (nHled p hp) e
      obtain ⟨pi, pv, pt, x1, eT⟩ := rC_el
      rw [eT]
      have hCz : L < C + 5 := Nat.lt_of_lt_of_le hLC (Nat.le_add_right _ 5)
      refine pair_store hh rfl rfl rfl rfl F1 (gN _ (Nat.le_of_lt hCz)) (Nat.ne_of_gt hCz) hTz hz' hpair fun h2 tk2 k2 hz2 F2 => ?_
      obtain ⟨tm, hm1⟩ := I.mark
      obtain ⟨tt, hm2⟩ := I.total
      rw [chain_eq hm1 hm2 I.wo I.ro I.fo] at F2
      have kA : ∀ p ∈ (FD, LCg.lst rs) :: (tl ++ rest0), p.1 ≠ C + 5 ∧ p.1 ≠ L := fun p hp => ⟨(by rcases hled' p hp with h | h; exact (lt6 h).1; exact (ge6 h.1).1), (N1 p hp).2.1⟩
      have N2 : News g L h2 ((FD, LCg.lst rs) :: (tl ++ rest0)) := led_keep N1 fun p hp e => k2 _ _ (kA p hp).1 (kA p hp).2 e
      have N3 : News g L h2 ((FD, LCg.lst rs) :: (grab h2 [C + 5, C + 4, C + 3, C + 2, C + 1, C, It'] ++ (tl ++ rest0))) := fun p hp => by
        rcases List.mem_cons.mp hp with rfl | hp
        · exact N2 _ (.head _)
        · rcases List.mem_append.mp hp with hp | hp
          · have hb := hid_ge hLC hIt6 (grab_mem p hp).1
            exact ⟨(grab_mem p hp).2, hb.2, gN _ (Nat.le_trans (Nat.le_of_lt hLC) hb.1)⟩
          · exact N2 _ (.tail _ hp)
      have hap3 : ∀ p ∈ grab h2 [C + 5, C + 4, C + 3, C + 2, C + 1, C, It'] ++ (tl ++ rest0), p.1 ≠ FD := fun p hp => by
        rcases List.mem_append.mp hp with hp | hp
        · exact hid_tl hIt6 (.inl hFC) (grab_mem p hp).1
        · rcases List.mem_append.mp hp with hp | hp
          · exact Nat.ne_of_gt (Nat.lt_of_lt_of_le hFC (hTl p hp))
          · exact hap p hp
      have sub : ∀ p ∈ rest0, p ∈ grab h2 [C + 5, C + 4, C + 3, C + 2, C + 1, C, It'] ++ (tl ++ rest0) := fun p hp => List.mem_append_right _ (List.mem_append_right _ hp)
      have hsz : (if k = 0 then (-1 : Int) else ((k : Int) - 1) * step) + (if k = 0 then 1 else step) = (k : Int) * step := by
        by_cases h0 : k = 0
        · rw [if_pos h0, if_pos h0, h0]; simp
        · rw [if_neg h0, if_neg h0, Int.sub_mul, Int.one_mul]; omega
      have hfit : (k : Int) * step ≤ ns.length + step := by
        rcases I.fit with h0 | h0
        · rw [h0]; simp; omega
        · rw [Int.sub_mul, Int.one_mul] at h0; omega
      have hk0 : (0 : Int) ≤ (k : Int) * step := Int.mul_nonneg (by omega) (by omega)
      have hmk : (-1 : Int) ≤ (if k = 0 then (-1 : Int) else ((k : Int) - 1) * step) ∧ (if k = 0 then (-1 : Int) else ((k : Int) - 1) * step) ≤ (k : Int) * step := by
        by_cases h0 : k = 0
        · rw [if_pos h0]; omega
        · rw [if_neg h0]
          have : (0 : Int) ≤ ((k : Int) - 1) * step := Int.mul_nonneg (by omega) (by omega)
          rw [Int.sub_mul, Int.one_mul] at this ⊢; omega
      have hstep : (1 : Int) ≤ (if k = 0 then 1 else step) ∧ (if k = 0 then 1 else step) ≤ 12 := by
        by_cases h0 : k = 0
        · rw [if_pos h0]; omega
        · rw [if_neg h0]; omega
      have htot := totAt_small hns step (k - 1)
      have hrsl : rs.length ≤ 100 := by rw [I.rel.len]; simp [rowsK]; omega
      have hbr : AllBare s'.gens := by rw [hgens]; exact bare_set I.bare hbare
      refine walk_body (mk := if k = 0 then -1 else ((k : Int) - 1) * step) (sz := if k = 0 then 1 else step) (tot := totAt step ns (k - 1)) (tn := k) (s := { s' with heap := h2, toks := tk2 }) B X T hd hu F2 N3 hap3 (.tail _ (sub _ hW)) (.tail _ (sub _ hR)) hi (by omega) (by simp; omega) (by simp; omega) hrsl (by rw [hsz]; exact hk0) (by rw [hsz]; omega) (by omega) (by omega) (by omega) (by omega) (by omega) (by omega) ?_ ?_
      · intro hlt h3 tk3 m3 F3 N4 hf3
        rw [hsz] at hlt
        have h0 : k ≠ 0 := by
          intro e; rw [e] at hlt; simp at hlt; omega
        refine hQ _ rs tl m3 F3 hf3 (fun p hp => ?_) ?_ hTl hbr (hdr.trans I.drawn) (hos.trans I.os)
        · rcases List.mem_cons.mp hp with rfl | hp
          · exact N4 _ (.head _)
          · exact N4 _ (.tail _ (List.mem_append_right _ hp))
        · rw [rows_end h0 h1 (by omega) (I.fit.resolve_left h0) (by rw [hlen]; exact hlt)]
          exact I.rel
      · intro hle h3 tk3 T3 t3 u3 lt3 N4 F4
        rw [hsz] at hle N4 F4
        rw [← totAt_step] at N4 F4
        have old : ∀ b o, b ∈ [C + 5, C + 4, C + 3, C + 2, C + 1, C, It'] → h2.get? b = some o → h3.get? b = some o := fun b o hb e => (N4 _ (.tail _ (.tail _ (List.mem_append_left _ (mem_grab e hb))))).1
        have zin : ∀ b o, b ∈ [C + 5, C + 4, C + 3, C + 2, C + 1, C, It'] → b ≠ C + 5 → s'.heap.get? b = some o → h3.get? b = some o := fun b o hb hz e => old b o hb (k2 b o hz (hid_ge hLC hIt6 hb).2 e)
        refine ⟨14 - (k + 1), by omega, k + 1, rs ++ [.ref T3], (T3, tupO ((k : Int) * step) (totAt step ns k) t3 u3) :: tl, It', gs', _, rfl, ⟨F4, ?_, ?_, ?_, ?_, ?_, ?_, ?_, ?_, ?_, ?_, ?_, ?_, ?_, ?_, ?_, ?_, hbr, hdr.trans I.drawn, hos.trans I.os, .inr ?_, by omega⟩⟩
        · refine ⟨t3, ?_⟩
          rw [if_neg (Nat.succ_ne_zero k), show ((k + 1 : Nat) : Int) - 1 = k by omega]; rfl
        · exact ⟨u3, rfl⟩
        · rfl
        · rfl
        · rfl
        · intro p hp
          rcases List.mem_cons.mp hp with rfl | hp
          · exact N4 _ (.head _)
          · rcases List.mem_cons.mp hp with rfl | hp
            · exact N4 _ (.tail _ (.head _))
            · exact N4 _ (.tail _ (.tail _ (List.mem_append_right _ hp)))
        · rw [rowsK_succ]; exact .snoc I.rel
        · intro p hp
          rcases List.mem_cons.mp hp with rfl | hp
          · obtain ⟨oI, hoI⟩ := hoI
            have a := lt3 _ (.tail _ (List.mem_append_left _ (mem_grab hz2 (l := [C + 5, C + 4, C + 3, C + 2, C + 1, C, It']) (.head _))))
            have b := lt3 _ (.tail _ (List.mem_append_left _ (mem_grab (k2 It' oI (ge6 hIt6).1 (hid_ge hLC hIt6 (by simp)).2 hoI) (l := [C + 5, C + 4, C + 3, C + 2, C + 1, C, It']) (by simp))))
            exact ⟨a, Nat.ne_of_gt b⟩
          · exact htl' p hp
        · intro e; exact absurd e (Nat.succ_ne_zero k)
        · show s'.gens[gn]? = _
          rw [hgens]; exact set_get I.gs
        · refine .inr ⟨Nat.succ_ne_zero k, hIt6, fun m4 hm4 s4 k4 => ?_⟩
          obtain rfl : mm = m4 + 1 := by omega
          refine hcont (Nat.succ_ne_zero m4) s4 fun b o hb e => k4 b o hb ?_
          rcases hb with rfl | rfl | rfl | ⟨o', hb⟩
          · exact zin _ o (by simp) (cSelf _).2.1 e
          · exact zin _ o (by simp) (ge6 hIt6).1 e
          · have a := (N1 _ (.tail _ (List.mem_append_right _ hG))).1
            have c := (N4 _ (.tail _ (.tail _ (sub _ hG)))).1
            rw [a] at e
            cases e
            exact c
          · rw [F1.keep b o' hb] at e
            cases e
            exact F4.keep b _ hb
        · exact old _ _ (.head _) hz2
        · exact zin _ _ (by simp) (zap C).TIz (k' _ _ (a1 C It' hIt6).2 I.ti)
        · obtain ⟨p', q', hTO'⟩ := hTO'
          exact ⟨p', q', zin _ _ (by simp) (zap C).TOz hTO'⟩
        · have := zin _ _ (by simp) (zap C).Iz hri'
          rw [show (13 : Int) - ((k + 1 : Nat) : Int) = mm by omega, show ((k + 1 : Nat) : Int) = (k : Int) + 1 by omega]
          exact this
        · obtain ⟨o, nm, qn, ho, r⟩ := I.ig
          exact ⟨o, nm, qn, zin _ _ (by simp) (zap C).az (k' _ _ (a1 C It' hIt6).1 ho), r⟩
        · rw [show ((k + 1 : Nat) : Int) - 1 = k by omega, hlen]; exact hle
end Mine
end PartW10
section PartW11
open PySem PySem.W PySem.Calls PyProof.Rows
namespace Mine
set_option maxHeartbeats 8000000
theorem catW {prog : Program} {w : World} {A : Around} {E : Value → Shared → Prop} {s : Shared} {h₀ : Heap} {L a W : Addr} {m : Str → Option Value} {news : List (Addr × Obj)} {vs us : List Value} {k n : Nat} {Q : Value → Shared → Prop} (F : Fr h₀ L s.heap m) (N : News h₀ L s.heap news) (ha : (a, PySem.W.listOf us.toArray n) ∈ news) (hm : (W, PySem.W.listOf vs.toArray k) ∈ news) (hz : us.length + vs.length ≤ 100)
    (h : ∀ D h', Fr h₀ L h' m → News h₀ L h' ((D, PySem.W.listOf (us ++ vs).toArray 0) :: news) → (∀ p ∈ news, p.1 < D) → Q (.ref D) { s with heap := h' }) : wpAny (model prog w) A (binaryOp .Add (.ref a) (.ref W)) Q E s :=
  add_lists F N ⟨_, (N _ ha).1, rfl, _, rfl⟩ ⟨_, (N _ hm).1, rfl, _, rfl⟩ (fun h' F' N' => h _ _ F' N' fun p hp => Heap.lt_size (N p hp).1) (Nat.le_trans hz (by decide : 100 ≤ sizeLine))
noncomputable abbrev rngO (n : Int) (t u v : Tok) : Obj := { cls := .type "range", dict := none, data := .fields #[.int 0 t, .int n u, .int 1 v], slots := #[] }
theorem rangeW {prog : Program} {w : World} {A : Around} {E : Value → Shared → Prop} {s : Shared} {h₀ : Heap} {L : Addr} {m : Str → Option Value} {news : List (Addr × Obj)} {n : Int} {t : Tok} {Q : Value → Shared → Prop} (F : Fr h₀ L s.heap m) (N : News h₀ L s.heap news)
    (h : ∀ D h' tk t1 t2 t3, Fr h₀ L h' m → News h₀ L h' ((D, rngO n t1 t2 t3) :: news) → (∀ p ∈ news, p.1 < D) → Q (.ref D) { s with heap := h', toks := tk }) : wpAny (model prog w) A (call (.type "range") [.int n t]) Q E s :=
  call_range_1 (h _ _ _ _ _ _ (F.push _) (News.push F N _) fun p hp => Heap.lt_size (N p hp).1)
local macro_rules | `(tactic| walk_at "idle") => `(tactic| skip)
local macro_rules | `(tactic| walk_at "idle") => `(tactic| skip)
local macro_rules | `(tactic| walk_at "idle") => `(tactic| skip)
local macro_rules | `(tactic| walk_at "exec For Tuple Call cons nil") => `(tactic| (refine wpAny_For ?_ (fun _ => by with_unfolding_all rfl)))
local macro_rules | `(tactic| walk_at "call type:range") => `(tactic| (k_here; k_dflt (refine' rangeW ?F ?N ?_; (case F => k_asm); (case N => k_asm)); intro D' h' tk' t1' t2' t3' F' N' l1'; (try k_lt l1'); (try k_sweep)))
theorem ret_found {w : World} {A : Around} {g : Heap} {L FD : Addr} {mean : ExcName → Option Value} {mg mb m : Str → Option Value} {s : Shared} {Q : Flow → Shared → Prop} {E : Value → Shared → Prop} (X : (KX w.params).In g) (T : Top qv (looseW qv looseV) mean mg mb g)
    (F0 : Fr g L s.heap m) (hm : m (sx "found") = some (.ref FD)) (h : Q (.ret (.ref FD)) s) : wpAny (model pw w) A (execs [nth (fdB (stm 20)) 2] (wEnv L)) Q E s := by
  have F : Fr g L s.heap (fun y => if y = sx "found" then some (.ref FD) else m y) := by
    have e : (fun y => if y = sx "found" then some (.ref FD) else m y) = m := by
      funext y
      split
      · rename_i h; rw [h, hm]
      · rfl
    rw [e]; exact F0
  clear F0
  k_with_none
  w_on
  conv in (execs _ _) => arg 1; arg 1; whnf
  repeat' (first | (k_unfold; (try dsimp only)) | (k_end; kc_close) | (walk1; (try dsimp only)) | (leave1; walk_say "STEP leave1"; (try dsimp only)) | fail "no step")
  all_goals exact h
theorem walk_mid {w : World} {mean : ExcName → Option Value} {mg mb : Str → Option Value} {dp un : Nat} {gd : Option (List Code)} {cn : Str} {cs : Scope} {L₀ a₀ : Addr} {ccd : Value} {cl : List (Str × Addr)} {outer : List Env} {base g : Heap} {L W : Addr} {rest : List (Addr × Obj)} {s : Shared} {E : Value → Shared → Prop} {vs : List Value} {ns : List Int} {step : Int} {t : Tok} {wn : Nat} {m : Str → Option Value} {R : Result → Shared → Prop} {G Rg Tt FD RW l1 : Addr} {ot ol : Obj} {t0 t1 t2 t3 t4 tm tt r1 r2 r3 : Tok} {p : Pos} (B : Below (ktrTop dp un gd cn cs L₀ a₀ ccd cl outer) base (envX cn cs L₀ a₀ ccd cl :: outer) g) (X : (KX w.params).In g) (T : Top qv (looseW qv looseV) mean mg mb g) (hd : dp + 8 < recursionLimit) (hu : un + 64 < cLine)
    (F : Fr g L s.heap m) (hm1 : m (sx "mark") = some (.int (-1) tm)) (hm2 : m (sx "total") = some (.int 0 tt)) (hm3 : m (sx "worths") = some (.ref W)) (hm4 : m (sx "row") = some (.ref RW)) (hm5 : m (sx "found") = some (.ref FD))
    {ga : Array Value} (hga : (step < 7 ∧ ga = #[.int 1 t1, .int step t2, .int 0 t3, .int 127 t4]) ∨ (¬ step < 7 ∧ ga = #[.int 1 t1, .int step t2, .int 127 t3]))
    (N : News g L s.heap ((G, PySem.W.listOf ga 0) :: (Rg, rngO 13 r1 r2 r3) :: (Tt, ot) :: (FD, PySem.W.listOf #[] 0) :: (RW, PySem.W.listOf ([Value.int 0 t0] ++ vs).toArray 0) :: (l1, ol) :: rest))
    (hbare : AllBare s.gens) (hFD : ∀ p ∈ rest, p.1 < FD) (hne : RW ≠ FD ∧ l1 ≠ FD ∧ Tt ≠ FD ∧ Rg ≠ FD ∧ G ≠ FD)
    (hW : (W, PySem.W.listOf vs.toArray wn) ∈ rest) (hi : IntsAre vs ns) (hl : vs.length ≤ 12) (hlen : ns.length = vs.length) (hns : ∀ x ∈ ns, -1 ≤ x ∧ x ≤ 1) (h1 : 1 ≤ step) (h12 : step ≤ 12)
    (hR : ∀ s' rs tl m', Fr g L s'.heap m' → m' (sx "found") = some (.ref FD) → News g L s'.heap ((FD, LCg.lst rs) :: (tl ++ rest)) → WalkRs rs tl (rowsK step ns (((ns.length : Int) / step).toNat + 1)) → (∀ p ∈ tl, FD < p.1) → AllBare s'.gens → s'.drawn = s.drawn → s'.os = s.os → R (.ok .next) s') :
    wpAny (model pw w) ((ktrTop dp un gd cn cs L₀ a₀ ccd cl outer).deeper (wEnv L)) (call (.ref 28) [.ref G]) (fun v s₁ => wpAny (model pw w) ((ktrTop dp un gd cn cs L₀ a₀ ccd cl outer).deeper (wEnv L)) (spliced (backTo p (starEach [] (wEnv L)))) (fun vs s₂ =>
      wpAny (model pw w) ((ktrTop dp un gd cn cs L₀ a₀ ccd cl outer).deeper (wEnv L)) (call (.type "zip") (.ref Rg :: v :: vs)) (fun xv s₁ => wpAny (model pw w) ((ktrTop dp un gd cn cs L₀ a₀ ccd cl outer).deeper (wEnv L)) (pyIter xv) (fun it s₂ => codeAny (model pw w) ((ktrTop dp un gd cn cs L₀ a₀ ccd cl outer).deeper (wEnv L)) (.forLoop (forT rF) it (forB rF) [] (wEnv L)) R s₂) E s₁) E s₂) E s₁) E s := by
  have ega : ga = (gItems step t1 t2 t3 t4).toArray := by
    unfold gItems
    rcases hga with ⟨h, e⟩ | ⟨h, e⟩
    · rw [if_pos h, e]
    · rw [if_neg h, e]
  subst ega
  clear hga
  k_with_none
  w_on
  refine wpAny_call ?_
  k_dflt (refine' code_gen (binds := [(sx "grouping", .ref G)]) F X N T ?k6 ?k7 ?k8 ?k9 ?kB ?c1 ?c2 ?c3 ?c4 ?_; (case k6 => k_is); (case k7 => k_is); (case k8 => ktr_room); (case k9 => exact BindsTo.of_eq rfl); (case kB => exact locs rfl); (case c1 => exact rfl); (case c2 => exact rfl); (case c3 => exact rfl); (case c4 => decide))
  intro h5 tk5 oC oa F5 N5 hC5 hg5 hz5
  walk1
  have hCs : ∀ q ∈ ((G, PySem.W.listOf (gItems step t1 t2 t3 t4).toArray 0) :: (Rg, rngO 13 r1 r2 r3) :: (Tt, ot) :: (FD, PySem.W.listOf #[] 0) :: (RW, PySem.W.listOf ([Value.int 0 t0] ++ vs).toArray 0) :: (l1, ol) :: rest), q.1 < s.heap.objs.size := fun q hq => Heap.lt_size (N q hq).1
  have hLC : L < s.heap.objs.size := F.ns.lt
  generalize eC : s.heap.objs.size = C at *
  refine call_zip_rg F5 N5 (t := r1) (u := r2) (v := r3) (N5 _ (.tail _ (.tail _ (.tail _ (.head _))))).1 hg5 fun h6 F6 N6 z6 ti6 to6 ri6 hz6 k6 => ?_
  have e6 : h5.objs.size = C + 2 := hz5
  have z7 : IsZip h6 (C + 5) (C + 3) (C + 4) .none := by
    have := z6
    rw [show Shared.heap _ = h5 from rfl, e6] at this
    exact this
  have ti7 : IsPair h6 (C + 3) (.ref (C + 2)) (.ref (C + 1)) := by
    have := ti6
    rw [show Shared.heap _ = h5 from rfl, e6] at this
    exact this
  have to7 : IsPair h6 (C + 4) .none .none := by
    have := to6
    rw [show Shared.heap _ = h5 from rfl, e6] at this
    exact this
  have ri7 : IsRangeIter h6 (C + 2) 0 13 1 := by
    have := ri6
    rw [show Shared.heap _ = h5 from rfl, e6] at this
    exact this
  have zz : (Shared.heap { s with heap := h5, toks := tk5, gens := s.gens.push (.fresh (cFun C)) }).objs.size + 3 = C + 5 := by
    show h5.objs.size + 3 = C + 5
    rw [e6]
  refine wpAny_pyIter_zip z6 ?_
  have k56 : ∀ c o, h5.get? c = some o → h6.get? c = some o := k6
  have gC : g.objs.size ≤ C := Nat.le_trans F.above (Nat.le_of_lt hLC)
  refine (zz ▸ walk_loop (rest0 := (G, PySem.W.listOf (gItems step t1 t2 t3 t4).toArray 0) :: (Rg, rngO 13 r1 r2 r3) :: (Tt, ot) :: (RW, PySem.W.listOf ([Value.int 0 t0] ++ vs).toArray 0) :: (l1, ol) :: rest) (ns := ns) (vs := vs) (wn := wn) (rn := 0) (rvs := [Value.int 0 t0] ++ vs) (C := C) (gn := s.gens.size) (G := G) (W := W) (RW := RW) (FD := FD) (s₀ := s) (rs := []) (tl := []) (It := 0) (gst := .fresh (cFun C)) (m := m) (tg1 := t1) (tg2 := t2) (tg3 := t3) (tg4 := t4) B X T hd hu hLC (hCs _ (.tail _ (.tail _ (.tail _ (.head _))))) ?hrC ?hap ?hW (.tail _ (.tail _ (.tail _ (.head _)))) ?hi (.head _) hl hlen hns h1 h12 ?hQ ?I0)
  case hrC =>
    intro p hp
    refine hCs p ?_
    rcases List.mem_cons.mp hp with rfl | hp
    · exact .head _
    · rcases List.mem_cons.mp hp with rfl | hp
      · exact .tail _ (.head _)
      · rcases List.mem_cons.mp hp with rfl | hp
        · exact .tail _ (.tail _ (.head _))
        · exact .tail _ (.tail _ (.tail _ (.tail _ hp)))
  case hap =>
    intro p hp
    rcases List.mem_cons.mp hp with rfl | hp
    · exact hne.2.2.2.2
    · rcases List.mem_cons.mp hp with rfl | hp
      · exact hne.2.2.2.1
      · rcases List.mem_cons.mp hp with rfl | hp
        · exact hne.2.2.1
        · rcases List.mem_cons.mp hp with rfl | hp
          · exact hne.1
          · rcases List.mem_cons.mp hp with rfl | hp
            · exact hne.2.1
            · exact Nat.ne_of_lt (hFD p hp)
  case hW => exact .tail _ (.tail _ (.tail _ (.tail _ (.tail _ hW))))
  case hi => exact .cons 0 t0 hi
  case hQ =>
    intro s' rs tl m' F' hf N' rel hC hb hdr hos
    refine hR s' rs tl m' F' hf (fun p hp => ?_) rel (fun p hp => Nat.lt_of_lt_of_le (hCs _ (.tail _ (.tail _ (.tail _ (.head _))))) (hC p hp)) hb hdr hos
    rcases List.mem_cons.mp hp with rfl | hp
    · exact N' _ (.head _)
    · rcases List.mem_append.mp hp with hp | hp
      · exact N' _ (.tail _ (List.mem_append_left _ hp))
      · exact N' _ (.tail _ (List.mem_append_right _ (.tail _ (.tail _ (.tail _ (.tail _ (.tail _ hp)))))))
  case I0 =>
    have N7 : News g L h6 _ := N6
    refine ⟨F6, ⟨tm, hm1⟩, ⟨tt, hm2⟩, hm3, hm4, hm5, ?_, .nil, (fun p hp => nomatch hp), (fun _ => rfl), ?_, .inl ⟨rfl, rfl, _, ⟨hC5.at' fun o e => k56 _ o e, fun b o e => F6.keep b o e, gC⟩, rfl⟩, z7, ti7, ⟨_, _, to7⟩, ri7, ?_, ?_, rfl, rfl, .inl rfl, by decide⟩
    · intro p hp
      rcases List.mem_cons.mp hp with rfl | hp
      · exact N7 _ (.tail _ (.tail _ (.tail _ (.tail _ (.tail _ (.head _))))))
      · refine N7 p (.tail _ (.tail _ ?_))
        rcases List.mem_cons.mp hp with rfl | hp
        · exact .head _
        · rcases List.mem_cons.mp hp with rfl | hp
          · exact .tail _ (.head _)
          · rcases List.mem_cons.mp hp with rfl | hp
            · exact .tail _ (.tail _ (.head _))
            · exact .tail _ (.tail _ (.tail _ (.tail _ hp)))
    · show (s.gens.push _)[s.gens.size]? = _
      simp
    · obtain ⟨o, nm, qn, ho, r⟩ := hg5
      exact ⟨o, nm, qn, k56 _ _ ho, r⟩
    · exact AllBare.push hbare rfl
theorem walk_in {w : World} {mean : ExcName → Option Value} {mg mb : Str → Option Value} {dp un : Nat} {gd : Option (List Code)} {cn : Str} {cs : Scope} {L₀ a₀ : Addr} {ccd : Value} {cl : List (Str × Addr)} {outer : List Env} {base g : Heap} {L W : Addr} {rest : List (Addr × Obj)} {s : Shared} {E : Value → Shared → Prop} {vs : List Value} {ns : List Int} {step : Int} {t : Tok} {wn : Nat} {Q : Flow → Shared → Prop} (B : Below (ktrTop dp un gd cn cs L₀ a₀ ccd cl outer) base (envX cn cs L₀ a₀ ccd cl :: outer) g) (X : (KX w.params).In g) (T : Top qv (looseW qv looseV) mean mg mb g) (hd : dp + 8 < recursionLimit) (hu : un + 64 < cLine)
    (F : Fr g L s.heap (fun y => if y = sx "worths" then some (.ref W) else if y = sx "step" then some (.int step t) else none))
    (N : News g L s.heap rest) (hbare : AllBare s.gens) (hW : (W, PySem.W.listOf vs.toArray wn) ∈ rest) (hi : IntsAre vs ns) (hl : vs.length ≤ 12) (hlen : ns.length = vs.length) (hns : ∀ x ∈ ns, -1 ≤ x ∧ x ≤ 1) (h1 : 1 ≤ step) (h12 : step ≤ 12)
    (hret : ∀ s' FD rs tl m', Fr g L s'.heap m' → News g L s'.heap ((FD, LCg.lst rs) :: (tl ++ rest)) → WalkRs rs tl (rowsK step ns (((ns.length : Int) / step).toNat + 1)) → (∀ p ∈ rest, p.1 < FD) → (∀ p ∈ tl, FD < p.1) → AllBare s'.gens → s'.drawn = s.drawn → s'.os = s.os → Q (.ret (.ref FD)) s') :
    wpAny (model pw w) ((ktrTop dp un gd cn cs L₀ a₀ ccd cl outer).deeper (wEnv L)) (execs (fdB (stm 20)) (wEnv L)) Q E s := by
  k_with_none
  w_on
  repeat' (first | (k_unfold; (try dsimp only)) | (k_end; kc_close) | (walk1; (try dsimp only)) | (leave1; walk_say "STEP leave1"; (try dsimp only)) | fail "no step")
  with_reducible rename News _ _ _ _ => N4
  with_reducible rename Fr _ _ _ _ => F4
  refine catW F4 N4 (us := [.int 0 _]) (.head _) (.tail _ hW) (by simp; omega) fun D5 h5 F5 N5 l5 => ?_
  repeat' (first | (k_unfold; (try dsimp only)) | (k_end; kc_close) | (walk1; (try dsimp only)) | (leave1; walk_say "STEP leave1"; (try dsimp only)) | fail "no step")
  all_goals
    with_reducible rename News _ _ _ _ => N6
    with_reducible rename Fr _ _ _ _ => F6
    with_reducible rename _ ∧ _ ∧ AllLt _ _ => q2
    with_reducible rename _ ∧ _ ∧ _ ∧ AllLt _ _ => q3
    with_reducible rename _ ∧ _ ∧ _ ∧ _ ∧ AllLt _ _ => q4
    with_reducible rename _ ∧ _ ∧ _ ∧ _ ∧ _ ∧ AllLt _ _ => q5
    refine' walk_mid (t := 0) B X T hd hu F6 rfl rfl rfl rfl rfl ?hga N6 hbare (allLt_mem q2.2.2) ⟨Nat.ne_of_lt q2.1, Nat.ne_of_lt q2.2.1, Nat.ne_of_gt q3.1, Nat.ne_of_gt q4.2.1, Nat.ne_of_gt q5.2.2.1⟩ hW hi hl hlen hns h1 h12 ?hR
    case hga => first | exact .inl ⟨by assumption, rfl⟩ | exact .inr ⟨by assumption, rfl⟩
    case hR =>
      intro s' rs tl m' F' hf N' rel hC hb hdr hos
      exact ret_found X T F' hf (hret s' _ rs tl m' F' N' rel (allLt_mem q2.2.2) hC hb hdr hos)
  all_goals exact (0 : Nat)
theorem lookup2 {a b : Str} {x y : Value} : (fun z => List.lookup z ([(a, x), (b, y)] : List (Str × Value)).reverse) = (fun z => if z = b then some y else if z = a then some x else none) := by
  funext z
  show List.lookup z [(b, y), (a, x)] = _
  rw [List.lookup_cons, List.lookup_cons, List.lookup_nil]
  by_cases h1 : z = b
  · rw [if_pos h1, h1]; simp
  · by_cases h2 : z = a
    · rw [if_neg h1, if_pos h2, h2]
      have : (a == b) = false := by rw [← h2]; simpa using h1
      simp [this]
    · rw [if_neg h1, if_neg h2]
      have e1 : (z == b) = false := by simpa using h1
      have e2 : (z == a) = false := by simpa using h2
      simp [e1, e2]
theorem c_walk {w : World} {mean : ExcName → Option Value} {mg mb : Str → Option Value} {dp un : Nat} {gd : Option (List Code)} {cn : Str} {cs : Scope} {a : Addr} {ccd : Value} {cl : List (Str × Addr)} {outer : List Env} {A₀ : Around} {base h₀ : Heap} {L W : Addr} {m : Str → Option Value} {news : List (Addr × Obj)} {s : Shared} {Q E : Value → Shared → Prop} {vs : List Value} {ns : List Int} {step : Int} {t : Tok} {wn : Nat}
    (B : Below A₀ base outer h₀) (F : Fr h₀ L s.heap m) (X : (KX w.params).In h₀) (N : News h₀ L s.heap news) (T : Top qv (looseW qv looseV) mean mg mb h₀) (hk : cs.kind = .function)
    (hd : dp + 8 < recursionLimit) (hu : un + 64 < cLine) (hbare : AllBare s.gens) (hW : (W, PySem.W.listOf vs.toArray wn) ∈ news) (hi : IntsAre vs ns) (hl : vs.length ≤ 12) (hlen : ns.length = vs.length) (hns : ∀ x ∈ ns, -1 ≤ x ∧ x ≤ 1) (h1 : 1 ≤ step) (h12 : step ≤ 12)
    (hret : ∀ s' FD rs tl, Fr h₀ L s'.heap m → News h₀ L s'.heap ((FD, LCg.lst rs) :: (tl ++ news)) → WalkRs rs tl (rowsK step ns (((ns.length : Int) / step).toNat + 1)) → (∀ p ∈ news, p.1 < FD) → (∀ p ∈ tl, FD < p.1) → AllBare s'.gens → s'.drawn = s.drawn → s'.os = s.os → Q (.ref FD) s') :
    wpAny (model pw w) (ktrTop dp un gd cn cs L a ccd cl outer) (call (.ref 212) [.int step t, .ref W]) Q E s := by
  k_with_none
  w_on
  refine wpAny_call ?_
  k_dflt (refine' code_def (binds := [(sx "step", .int step t), (sx "worths", .ref W)]) ?k1 ?k2 ?k3 ?k4 ?k5 ?kA ?kF ?kK ?k6 ?k7 ?k8 ?k9 ?kB ?_ ?c2 ?c3 ?c4 ?c5; (case kA => exact rfl); (case kF => exact rfl); (case kK => assumption); (case k1 => k_asm); (case k2 => k_asm); (case k3 => k_asm); (case k4 => k_asm); (case k5 => k_asm); (case k6 => k_is); (case k7 => k_is); (case k8 => ktr_room); (case k9 => exact BindsTo.of_eq rfl); (case c5 => decide); (case kB => exact locs rfl); (case c2 => exact rfl); (case c3 => exact rfl); (case c4 => exact rfl); k_whole; intro g' L' h' FG' F' N' B' X' T'; (try dsimp only); (try k_fold))
  have F2 : Fr g' L' h' (fun z => if z = sx "worths" then some (.ref W) else if z = sx "step" then some (.int step t) else none) := by
    rw [← lookup2]; exact F'
  refine walk_in (wn := wn) (vs := vs) B' X' T' hd hu F2 N' hbare hW hi hl hlen hns h1 h12 fun s' FD rs tl m' F3 N3 rel hlt hgt hb hdr hos => ?_
  exact ⟨_, _, _, F3, N3, fun F4 N4 => hret s' FD rs tl F4 N4 rel hlt hgt hb hdr hos⟩
end Mine
end PartW11
section PartW12
open PySem PySem.W PySem.Calls PyProof.Rows
namespace Mine
noncomputable abbrev lEnv (L : Addr) : Env := envOf (Str.ofString "_law_lead") (fdS (stm 21)) L 219 (.ref 218)
set_option maxHeartbeats 8000000
noncomputable def leadTurn (i : Int) (x : Int) : Str := Txt.mul (Str.ofString " ") (if x = 1 then i + 1 else i) ++ Str.ofString "\t"
theorem leadTurn_pos {i x : Int} (h : x = 1) : leadTurn i x = Txt.mul (Str.ofString " ") (i + 1) ++ Str.ofString "	" := by unfold leadTurn; rw [if_pos h]
theorem leadTurn_neg {i x : Int} (h : x ≠ 1) : leadTurn i x = Txt.mul (Str.ofString " ") i ++ Str.ofString "	" := by unfold leadTurn; rw [if_neg h]
theorem mulLen {n : Int} (h : n ≤ 12) : (Txt.mul (Str.ofString " ") n).length ≤ 100 := by
  by_cases h0 : n < 1
  · unfold Txt.mul; rw [if_pos h0]; decide
  · have : n = 1 ∨ n = 2 ∨ n = 3 ∨ n = 4 ∨ n = 5 ∨ n = 6 ∨ n = 7 ∨ n = 8 ∨ n = 9 ∨ n = 10 ∨ n = 11 ∨ n = 12 := by omega
    rcases this with rfl | rfl | rfl | rfl | rfl | rfl | rfl | rfl | rfl | rfl | rfl | rfl <;> decide
theorem catLen {x y : Str} {a b : Nat} (hx : x.length ≤ a) (hy : y.length ≤ b) (h : a + b ≤ 1000) : (x ++ y).length ≤ 1000 := by
  rw [PySem.Str.length_append]; omega
theorem addS {prog : Program} {w : World} {A : Around} {E : Value → Shared → Prop} {s : Shared} {x y : Str} {t u : Tok} {Q : Value → Shared → Prop} (hx : x.length ≤ 1000) (hy : y.length ≤ 1000) (h : ∀ t' k, Q (.str (x ++ y) t') { s with toks := k }) : wpAny (model prog w) A (binaryOp .Add (.str x t) (.str y u)) Q E s :=
  KXadd.add (K := 1000) (L := 1000) hx hy (by decide) fun t' k _ => h t' k
theorem iaddS {prog : Program} {w : World} {A : Around} {E : Value → Shared → Prop} {s : Shared} {x y : Str} {t u : Tok} {Q : Value → Shared → Prop} (hx : x.length ≤ 1000) (hy : y.length ≤ 1000) (h : ∀ t' k, Q (.str (x ++ y) t') { s with toks := k }) : wpAny (model prog w) A (inplaceOp .Add (.str x t) (.str y u)) Q E s :=
  PySem.SB.iadd h (Nat.le_trans (Nat.add_le_add hx hy) (by decide : 2000 ≤ sizeLine))
theorem lead_body {w : World} {mean : ExcName → Option Value} {mg mb : Str → Option Value} {dp un : Nat} {gd : Option (List Code)} {cn : Str} {cs : Scope} {L₀ a₀ : Addr} {ccd : Value} {cl : List (Str × Addr)} {outer : List Env} {base g : Heap} {L W : Addr} {rest : List (Addr × Obj)} {s : Shared} {E : Value → Shared → Prop} {Q : Flow → Shared → Prop} {acc : Str} {x i : Int} {t1 t2 t3 : Tok} {m₀ : Str → Option Value} (B : Below (ktrTop dp un gd cn cs L₀ a₀ ccd cl outer) base (envX cn cs L₀ a₀ ccd cl :: outer) g) (X : (KX w.params).In g) (T : Top qv (looseW qv looseV) mean mg mb g) (hd : dp + 8 < recursionLimit) (hu : un + 64 < cLine)
    (F : Fr g L s.heap (fun y => if y = sx "worth" then some (.int x t1) else if y = sx "place" then some (.int i t2) else if y = sx "lead" then some (.str acc t3) else m₀ y))
    (N : News g L s.heap rest) (hx : acc.length ≤ 200) (h0 : 0 ≤ i) (h1 : i < 12)
    (hret : ∀ h' tk m' t, Fr g L h' m' → News g L h' rest → m' (sx "lead") = some (.str (acc ++ leadTurn i x) t) → Q .next { s with heap := h', toks := tk }) :
    wpAny (model pw w) ((ktrTop dp un gd cn cs L₀ a₀ ccd cl outer).deeper (lEnv L)) (execs (forB (nth (fdB (stm 21)) 1)) (lEnv L)) Q E s := by
  k_with_none
  w_on
  repeat' (first | ((with_reducible show wpAny _ _ (call (Value.ref 42) _) _ _ _); k_dflt (refine c_mul _ (by omega) (by omega) _ _ _ _ _ _ _ _ _ _ _ _ _ _ _ _ _ _ _ _ _ _ _ (by k_asm) (by k_asm) (by k_asm) (by k_asm) (by k_asm) (by first | exact rfl | assumption) (by ktr_room) (by ktr_units) ?_; (dsimp only [CbRet]; intro t9 h9 tk9 F9 N9; (try dsimp only); (try k_fold)))) | ((with_reducible show wpAny _ _ (binaryOp Operator.Add (Value.str _ _) (Value.str _ _)) _ _ _); refine addS (Nat.le_trans (mulLen (by omega)) (by decide)) (by decide) ?_; intro _ _; (try dsimp only)) | ((with_reducible show wpAny _ _ (inplaceOp Operator.Add (Value.str _ _) (Value.str _ _)) _ _ _); refine iaddS (Nat.le_trans hx (by decide)) (catLen (mulLen (by omega)) (b := 10) (by decide) (by decide)) ?_; intro _ _; (try dsimp only)) | (k_unfold; (try dsimp only)) | (k_end; kc_close) | (walk1; (try dsimp only)) | (leave1; walk_say "STEP leave1"; (try dsimp only)) | fail "no step")
  · exact hret _ _ _ _ (by assumption) (by assumption) (by rw [leadTurn_pos (by assumption)]; rfl)
  · exact hret _ _ _ _ (by assumption) (by assumption) (by rw [leadTurn_neg (by assumption)]; rfl)
end Mine
end PartW12
section PartV14
open PySem PySem.W PySem.Calls PyProof.Rows PySem.Spec
namespace Mine
theorem shared_eq {s s₁ : Shared} (h1 : s₁.gens = s.gens) (h2 : s₁.drawn = s.drawn) (h3 : s₁.os = s.os) : s₁ = { s with heap := s₁.heap, toks := s₁.toks } := by
  cases s₁; cases s; simp_all
theorem map_at {m : Str → Option Value} {x : Str} {v : Value} (h : m x = some v) : m = fun y => if y = x then some v else m y := by
  funext y
  split
  · rename_i e; rw [e, h]
  · rfl
theorem fresh_neN {g h : Heap} {L : Addr} {news : List (Addr × Obj)} (N : News g L h news) {b : Addr} (hb : h.objs.size ≤ b) : ∀ p ∈ news, p.1 ≠ b := fun p hp => Nat.ne_of_lt (Nat.lt_of_lt_of_le (Heap.lt_size (N p hp).1) hb)
section
variable {prog : Program} {w : World} {A : Around} {E : Value → Shared → Prop} {s : Shared} {g : Heap} {env : Env} {m : Str → Option Value} {news : List (Addr × Obj)} {R : Result → Shared → Prop} {body : List Stmt}
theorem enum_loop {xi xv : Str} {pi pv pt : Pos} {x1} {W : Addr} {vs : List Value} {wn : Nat} (hh : A.handled = none) (hxi : env.kindOf xi = some .local) (hxv : env.kindOf xv = some .local)
    (hp : (env.scope.kind == .class || (env.scope.kind == .module && env.locals != env.globals)) = false)
    (F : Fr g env.locals s.heap m) (N : News g env.locals s.heap news) (hW : (W, PySem.W.listOf vs.toArray wn) ∈ news) (J : Nat → (Str → Option Value) → Prop) (hJ : J 0 m)
    (step : ∀ (i : Nat) v u m₁ own s₁, vs[i]? = some v → J i m₁ → Fr g env.locals s₁.heap (fun y => if y = xv then some v else if y = xi then some (.int i u) else m₁ y) → News g env.locals s₁.heap (own ++ news) → s₁ = { s with heap := s₁.heap, toks := s₁.toks } →
      ∀ E', wpAny (model prog w) A (execs body env) (fun f s₂ => f = .next ∧ s₂ = { s with heap := s₂.heap, toks := s₂.toks } ∧ ∃ m₂, Fr g env.locals s₂.heap m₂ ∧ News g env.locals s₂.heap (own ++ news) ∧ J (i + 1) m₂) E' s₁)
    (done : ∀ s₁ m₁, J vs.length m₁ → Fr g env.locals s₁.heap m₁ → News g env.locals s₁.heap news → s₁ = { s with heap := s₁.heap, toks := s₁.toks } → R (.ok .next) s₁) :
    wpAny (model prog w) A (call (.type "enumerate") [.ref W]) (fun xv' s₁ => wpAny (model prog w) A (pyIter xv') (fun it s₂ => codeAny (model prog w) A (.forLoop (.Tuple [.Name xi pi, .Name xv pv] x1 pt) it body [] env) R s₂) E s₁) E s := by
  have hL4 : s.heap.IsList W vs.toArray := ⟨_, (N _ hW).1, rfl, _, rfl⟩
  refine call_enumerate_list hL4 fun h5 he5 hit5 hz5 k5 => ?_
  refine wpAny_pyIter_enum he5 ?_
  have F5 := F.keeps k5
  have N5 := News.up N k5
  have hWl : W < s.heap.objs.size := Heap.lt_size (N _ hW).1
  have hLl := F.ns.lt
  have a1 : s.heap.objs.size ≤ s.heap.objs.size + 1 := Nat.le_succ _
  refine loop_pair (rest := news) (live := []) (m := m) (J := fun i m live gens => live = [] ∧ gens = s.gens ∧ J i m) (WalksT.enumerate hh _ _ W (Nat.succ_ne_self _) (Nat.ne_of_lt (Nat.lt_succ_of_lt hWl)) (Nat.ne_of_lt hWl) vs.toArray) hh hxi hxv hp ?_ ?_ ?_ ?_
    ⟨⟨⟨_, he5⟩, hit5, ⟨_, (N5 _ hW).1, rfl, _, rfl⟩⟩, F5, N5, ?_, ⟨rfl, rfl, hJ⟩, rfl, rfl⟩ ?_ ?_
  · intro hm
    rcases List.mem_cons.mp hm with e | hm
    · exact Nat.ne_of_lt (Nat.lt_succ_of_lt hLl) e
    · rcases List.mem_cons.mp hm with e | hm
      · exact Nat.ne_of_lt hLl e
      · exact (N5 _ hW).2.1 (List.mem_singleton.mp hm).symm
  · intro b hb
    rcases List.mem_cons.mp hb with rfl | hb
    · exact fresh_none F a1
    · rw [List.mem_singleton.mp hb]; exact fresh_none F (Nat.le_refl _)
  · rintro i h ⟨⟨old, e1⟩, ⟨o, e2, _⟩, _⟩ b hb
    rcases List.mem_cons.mp hb with rfl | hb
    · exact ⟨_, e1⟩
    · rw [List.mem_singleton.mp hb]; exact ⟨_, e2⟩
  · rintro i vals ⟨t, x, _, rfl⟩
    exact ⟨_, _, rfl⟩
  · intro p hp hb
    rcases List.mem_cons.mp hb with e | hb
    · exact fresh_neN N a1 p hp e
    · exact fresh_neN N (Nat.le_refl _) p hp (List.mem_singleton.mp hb)
  · rintro i va vb m₁ live₁ own s₁ hi ⟨t, x, hx, hv⟩ ⟨rfl, hg, hJ₁⟩ off hown hexw F₁ N₁ hd ho
    have e := congrArg Array.toList hv
    simp at e
    obtain ⟨rfl, rfl⟩ := e
    refine wpAny_mono (step i _ t m₁ own s₁ (by simpa using hx) hJ₁ F₁ N₁ (shared_eq hg hd ho) _) (fun f s₂ hq => ?_) fun _ _ e => e
    obtain ⟨rfl, e2, m₂, F₂, N₂, hJ₂⟩ := hq
    have g2 : s₂.gens = s.gens := by rw [e2]
    exact ⟨m₂, [], F₂, N₂, (fun p hp => nomatch hp), ⟨rfl, g2, hJ₂⟩, by rw [hd, e2], by rw [ho, e2]⟩
  · rintro m₁ live₁ s₁ ⟨rfl, hg, hJ₁⟩ F₁ N₁ hd ho
    exact done s₁ m₁ (by simpa using hJ₁) F₁ N₁ (shared_eq hg hd ho)
end
end Mine
end PartV14
section PartW13
open PySem PySem.W PySem.Calls PyProof.Rows
namespace Mine
set_option maxHeartbeats 8000000
noncomputable def leadAcc (ns : List Int) : Nat → Str
  | 0 => Str.ofString ""
  | i + 1 => leadAcc ns i ++ leadTurn i (ns.getD i 0)
noncomputable def leadS (ns : List Int) : Str := leadAcc ns ns.length ++ Str.ofString " "
theorem mulLen' {n : Int} (h : n ≤ 12) : (Txt.mul (Str.ofString " ") n).length ≤ 12 := by
  by_cases h0 : n < 1
  · unfold Txt.mul; rw [if_pos h0]; decide
  · have : n = 1 ∨ n = 2 ∨ n = 3 ∨ n = 4 ∨ n = 5 ∨ n = 6 ∨ n = 7 ∨ n = 8 ∨ n = 9 ∨ n = 10 ∨ n = 11 ∨ n = 12 := by omega
    rcases this with rfl | rfl | rfl | rfl | rfl | rfl | rfl | rfl | rfl | rfl | rfl | rfl <;> decide
theorem leadTurn_len {i x : Int} (h : i < 12) : (leadTurn i x).length ≤ 13 := by
  unfold leadTurn
  rw [PySem.Str.length_append]
  have a : (Txt.mul (Str.ofString " ") (if x = 1 then i + 1 else i)).length ≤ 12 := mulLen' (by split <;> omega)
  have b : (Str.ofString "\t").length ≤ 1 := by decide
  omega
theorem leadAcc_len (ns : List Int) : ∀ i : Nat, i ≤ 12 → (leadAcc ns i).length ≤ 13 * i
  | 0, _ => by show (Str.ofString "").length ≤ 0; decide
  | i + 1, h => by
    have a := leadAcc_len ns i (by omega)
    have b : (leadTurn i (ns.getD i 0)).length ≤ 13 := leadTurn_len (by omega)
    show (leadAcc ns i ++ leadTurn i (ns.getD i 0)).length ≤ _
    rw [PySem.Str.length_append]
    omega
local macro_rules | `(tactic| walk_at "exec For Tuple Call cons nil") => `(tactic| (refine wpAny_For ?_ (fun _ => by with_unfolding_all rfl)))
theorem lead_ret {w : World} {A : Around} {g : Heap} {L : Addr} {mean : ExcName → Option Value} {mg mb m : Str → Option Value} {s : Shared} {Q : Flow → Shared → Prop} {E : Value → Shared → Prop} {acc : Str} {t : Tok} (X : (KX w.params).In g) (T : Top qv (looseW qv looseV) mean mg mb g)
    (F0 : Fr g L s.heap m) (hm : m (sx "lead") = some (.str acc t)) (hx : acc.length ≤ 200) (h : ∀ t tk, Q (.ret (.str (acc ++ Str.ofString " ") t)) { s with toks := tk }) : wpAny (model pw w) A (execs [nth (fdB (stm 21)) 2] (lEnv L)) Q E s := by
  have F : Fr g L s.heap (fun y => if y = sx "lead" then some (.str acc t) else m y) := by rw [← map_at hm]; exact F0
  clear F0
  k_with_none
  w_on
  conv in (execs _ _) => arg 1; arg 1; whnf
  repeat' (first | ((with_reducible show wpAny _ _ (binaryOp Operator.Add (Value.str _ _) (Value.str _ _)) _ _ _); refine addS (Nat.le_trans hx (by decide)) (by decide) ?_; intro _ _; (try dsimp only)) | (k_unfold; (try dsimp only)) | (k_end; kc_close) | (walk1; (try dsimp only)) | (leave1; walk_say "STEP leave1"; (try dsimp only)) | fail "no step")
  all_goals exact h _ _
theorem lead_in {w : World} {mean : ExcName → Option Value} {mg mb : Str → Option Value} {dp un : Nat} {gd : Option (List Code)} {cn : Str} {cs : Scope} {L₀ a₀ : Addr} {ccd : Value} {cl : List (Str × Addr)} {outer : List Env} {base g : Heap} {L W : Addr} {rest : List (Addr × Obj)} {s : Shared} {E : Value → Shared → Prop} {Q : Flow → Shared → Prop} {vs : List Value} {ns : List Int} {wn : Nat} (B : Below (ktrTop dp un gd cn cs L₀ a₀ ccd cl outer) base (envX cn cs L₀ a₀ ccd cl :: outer) g) (X : (KX w.params).In g) (T : Top qv (looseW qv looseV) mean mg mb g) (hd : dp + 8 < recursionLimit) (hu : un + 64 < cLine)
    (F : Fr g L s.heap (fun y => if y = sx "worths" then some (.ref W) else none)) (N : News g L s.heap rest) (hW : (W, PySem.W.listOf vs.toArray wn) ∈ rest) (hi : IntsAre vs ns) (hl : ns.length ≤ 12)
    (hret : ∀ h' tk m' t, Fr g L h' m' → News g L h' rest → Q (.ret (.str (leadS ns) t)) { s with heap := h', toks := tk }) :
    wpAny (model pw w) ((ktrTop dp un gd cn cs L₀ a₀ ccd cl outer).deeper (lEnv L)) (execs (fdB (stm 21)) (lEnv L)) Q E s := by
  k_with_none
  w_on
  repeat' (first | (k_unfold; (try dsimp only)) | (k_end; kc_close) | (walk1; (try dsimp only)) | (leave1; walk_say "STEP leave1"; (try dsimp only)) | fail "no step")
  with_reducible rename News _ _ _ _ => N4
  with_reducible rename Fr _ _ _ _ => F4
  have hln := hi.length
  refine enum_loop (J := fun i m => ∃ t, m (sx "lead") = some (.str (leadAcc ns i) t)) rfl rfl rfl rfl F4 N4 hW ⟨_, rfl⟩ ?_ ?_
  · rintro i v u m₁ own s₁ hv ⟨t, hm⟩ F₁ N₁ e₁ E'
    have hil : i < ns.length := by
      have := (List.getElem?_eq_some_iff.mp hv).1; omega
    obtain ⟨t', hx⟩ := hi.get i (ns.getD i 0) (by rw [List.getD_eq_getElem?_getD, List.getElem?_eq_getElem hil]; rfl)
    have ev : v = .int (ns.getD i 0) t' := Option.some.inj (hv.symm.trans hx)
    subst ev
    rw [map_at hm] at F₁
    refine lead_body (W := W) B X T hd hu F₁ N₁ (Nat.le_trans (leadAcc_len ns i (by omega)) (by omega)) (by omega) (by omega) fun h' tk m' t F' N' hm' => ?_
    exact ⟨rfl, by rw [e₁], m', F', N', t, hm'⟩
  · rintro s₁ m₁ ⟨t, hm⟩ F₁ N₁ e₁
    have hlv : vs.length = ns.length := by omega
    rw [hlv] at hm
    refine lead_ret X T F₁ hm (Nat.le_trans (leadAcc_len ns _ hl) (by omega)) fun t tk => ?_
    have := hret s₁.heap tk m₁ t F₁ N₁
    rw [e₁]
    exact this
theorem lookup1 {a : Str} {x : Value} : (fun z => List.lookup z ([(a, x)] : List (Str × Value)).reverse) = (fun z => if z = a then some x else none) := by
  funext z
  show List.lookup z [(a, x)] = _
  rw [List.lookup_cons, List.lookup_nil]
  by_cases h1 : z = a
  · rw [if_pos h1, h1]; simp
  · rw [if_neg h1]
    have e1 : (z == a) = false := by simpa using h1
    simp [e1]
theorem c_lead {w : World} {mean : ExcName → Option Value} {mg mb : Str → Option Value} {dp un : Nat} {gd : Option (List Code)} {cn : Str} {cs : Scope} {a : Addr} {ccd : Value} {cl : List (Str × Addr)} {outer : List Env} {A₀ : Around} {base h₀ : Heap} {L W : Addr} {m : Str → Option Value} {news : List (Addr × Obj)} {s : Shared} {Q E : Value → Shared → Prop} {vs : List Value} {ns : List Int} {wn : Nat}
    (B : Below A₀ base outer h₀) (F : Fr h₀ L s.heap m) (X : (KX w.params).In h₀) (N : News h₀ L s.heap news) (T : Top qv (looseW qv looseV) mean mg mb h₀) (hk : cs.kind = .function)
    (hd : dp + 8 < recursionLimit) (hu : un + 64 < cLine) (hW : (W, PySem.W.listOf vs.toArray wn) ∈ news) (hi : IntsAre vs ns) (hl : ns.length ≤ 12)
    (hret : CbRet h₀ L m news s Q (fun t => .str (leadS ns) t)) :
    wpAny (model pw w) (ktrTop dp un gd cn cs L a ccd cl outer) (call (.ref 219) [.ref W]) Q E s := by
  k_with_none
  w_on
  refine wpAny_call ?_
  k_dflt (refine' code_def (binds := [(sx "worths", .ref W)]) ?k1 ?k2 ?k3 ?k4 ?k5 ?kA ?kF ?kK ?k6 ?k7 ?k8 ?k9 ?kB ?_ ?c2 ?c3 ?c4 ?c5; (case kA => exact rfl); (case kF => exact rfl); (case kK => assumption); (case k1 => k_asm); (case k2 => k_asm); (case k3 => k_asm); (case k4 => k_asm); (case k5 => k_asm); (case k6 => k_is); (case k7 => k_is); (case k8 => ktr_room); (case k9 => exact BindsTo.of_eq rfl); (case c5 => decide); (case kB => exact locs rfl); (case c2 => exact rfl); (case c3 => exact rfl); (case c4 => exact rfl); k_whole; intro g' L' h' FG' F' N' B' X' T'; (try dsimp only); (try k_fold))
  have F2 : Fr g' L' h' (fun z => if z = sx "worths" then some (.ref W) else none) := by
    rw [← lookup1]; exact F'
  refine lead_in (wn := wn) (vs := vs) B' X' T' hd hu F2 N' hW hi hl fun h3 tk3 m3 t3 F3 N3 => ?_
  exact ⟨_, _, _, F3, N3, fun F4 N4 => hret _ _ _ F4 N4⟩
end Mine
end PartW13
section PartW14
open PySem PySem.W PySem.Calls PyProof.Rows
namespace Mine
noncomputable abbrev iEnv (L : Addr) : Env := envOf (Str.ofString "Whitespace.__init__") (fdS (mth 1)) L 137 (.ref 136)
set_option maxHeartbeats 8000000
noncomputable def padI (cs : List Int) (b : Int) : List Int := if (cs.length : Int) ≤ b then cs ++ (List.replicate (b - cs.length + 1).toNat [(0 : Int)]).flatten else cs
noncomputable def tabI (cs : List Int) (b : Int) : List Int := (padI cs b).set b.toNat ((padI cs b).getD b.toNat 0 + 1)
theorem tabI_pos {cs : List Int} {b : Int} (h : (cs.length : Int) ≤ b) : tabI cs b = (cs ++ (List.replicate (b - cs.length + 1).toNat [(0 : Int)]).flatten).set b.toNat ((cs ++ (List.replicate (b - cs.length + 1).toNat [(0 : Int)]).flatten).getD b.toNat 0 + 1) := by
  unfold tabI padI; rw [if_pos h]
theorem tabI_neg {cs : List Int} {b : Int} (h : ¬ (cs.length : Int) ≤ b) : tabI cs b = cs.set b.toNat (cs.getD b.toNat 0 + 1) := by
  unfold tabI padI; rw [if_neg h]
theorem news_first4 {g h : Heap} {L : Addr} {p q r u : Addr × Obj} {rest : List (Addr × Obj)} (N : News g L h (p :: q :: r :: u :: rest)) : News g L h (p :: rest) := fun x hx => by
  rcases List.mem_cons.mp hx with rfl | hx
  · exact N _ (.head _)
  · exact N _ (.tail _ (.tail _ (.tail _ (.tail _ hx))))
structure WsM (m₀ m : Str → Option Value) (b n nt : Int) (CN : Addr) : Prop where
  b : ∃ t, m (sx "b") = some (.int b t)
  n : ∃ t, m (sx "n") = some (.int n t)
  nt : ∃ t, m (sx "nt") = some (.int nt t)
  count : m (sx "count") = some (.ref CN)
  S : ∃ t, m (sx "S") = some (.str (sx " ") t)
  T : ∃ t, m (sx "T") = some (.str (sx "\t") t)
  self : m (sx "self") = m₀ (sx "self")
theorem ws_sp {w : World} {mean : ExcName → Option Value} {mg mb : Str → Option Value} {A : Around} {outer : List Env} {base g : Heap} {L : Addr} {rest : List (Addr × Obj)} {s : Shared} {E : Value → Shared → Prop} {Q : Flow → Shared → Prop} {b n nt : Int} {cvs : List Value} {cs : List Int} {ck : Nat} {CN : Addr} {t1 t2 t3 t4 t5 t6 : Tok} {m₀ : Str → Option Value} (X : (KX w.params).In g) (T : Top qv (looseW qv looseV) mean mg mb g) (hh : A.handled = none)
    (F : Fr g L s.heap (fun y => if y = sx "ch" then some (.str ⟨#[32]⟩ t1) else if y = sx "b" then some (.int b t2) else if y = sx "n" then some (.int n t3) else if y = sx "nt" then some (.int nt t4) else if y = sx "count" then some (.ref CN) else if y = sx "S" then some (.str (sx " ") t5) else if y = sx "T" then some (.str (sx "\t") t6) else m₀ y)) (N : News g L s.heap ((CN, PySem.W.listOf cvs.toArray ck) :: rest)) (hi : IntsAre cvs cs) (hl : cs.length ≤ 13) (hb0 : 0 ≤ b) (hb : b ≤ 12) (hn0 : 0 ≤ n) (hn : n ≤ 200) (ht0 : 0 ≤ nt) (ht : nt ≤ 200)
    (hret : ∀ h' tk m', Fr g L h' m' → News g L h' ((CN, PySem.W.listOf cvs.toArray ck) :: rest) → WsM m₀ m' (b + 1) (n + 1) nt CN → Q .next { s with heap := h', toks := tk }) :
    wpAny (model pw w) A (execs (forB (nth (fdB (mth 1)) 4)) (iEnv L)) Q E s := by
  k_with_none
  w_on
  repeat' (first | (k_unfold; (try dsimp only)) | (k_end; kc_close) | (walk1; (try dsimp only)) | (leave1; walk_say "STEP leave1"; (try dsimp only)) | fail "no step")
  with_reducible rename News _ _ _ _ => N4
  with_reducible rename Fr _ _ _ _ => F4
  exact hret _ _ _ F4 N4 ⟨⟨_, rfl⟩, ⟨_, rfl⟩, ⟨_, rfl⟩, rfl, ⟨_, rfl⟩, ⟨_, rfl⟩, rfl⟩
theorem ws_tab {w : World} {mean : ExcName → Option Value} {mg mb : Str → Option Value} {A : Around} {outer : List Env} {base g : Heap} {L : Addr} {rest : List (Addr × Obj)} {s : Shared} {E : Value → Shared → Prop} {Q : Flow → Shared → Prop} {b n nt : Int} {cvs : List Value} {cs : List Int} {ck : Nat} {CN : Addr} {t1 t2 t3 t4 t5 t6 : Tok} {m₀ : Str → Option Value} (X : (KX w.params).In g) (T : Top qv (looseW qv looseV) mean mg mb g) (hh : A.handled = none)
    (F : Fr g L s.heap (fun y => if y = sx "ch" then some (.str ⟨#[9]⟩ t1) else if y = sx "b" then some (.int b t2) else if y = sx "n" then some (.int n t3) else if y = sx "nt" then some (.int nt t4) else if y = sx "count" then some (.ref CN) else if y = sx "S" then some (.str (sx " ") t5) else if y = sx "T" then some (.str (sx "\t") t6) else m₀ y)) (N : News g L s.heap ((CN, PySem.W.listOf cvs.toArray ck) :: rest)) (hap : ∀ p ∈ rest, p.1 ≠ CN) (hi : IntsAre cvs cs) (hl : cs.length ≤ 13) (hb0 : 0 ≤ b) (hb : b ≤ 12) (hn0 : 0 ≤ n) (hn : n ≤ 200) (ht0 : 0 ≤ nt) (ht : nt ≤ 200)
    (hret : ∀ h' tk m' CN' cvs' ck', Fr g L h' m' → News g L h' ((CN', PySem.W.listOf cvs'.toArray ck') :: rest) → IntsAre cvs' (tabI cs b) → (∀ p ∈ rest, p.1 ≠ CN') → WsM m₀ m' 0 (n + 1) (nt + 1) CN' → Q .next { s with heap := h', toks := tk }) :
    wpAny (model pw w) A (execs (forB (nth (fdB (mth 1)) 4)) (iEnv L)) Q E s := by
  k_with_none
  w_on
  repeat' (first | (k_unfold; (try dsimp only)) | (k_end; kc_close) | (walk1; (try dsimp only)) | (leave1; walk_say "STEP leave1"; (try dsimp only)) | fail "no step")
  · with_reducible rename News _ _ _ _ => N4
    with_reducible rename Fr _ _ _ _ => F4
    with_reducible rename _ ∧ _ ∧ _ ∧ AllLt _ _ => q4
    with_reducible rename (_ : Int) ≤ b => q5
    rw [← tabI_pos q5] at *
    refine hret _ _ _ _ _ _ F4 (news_first4 N4) (by assumption) (fun p hp => Nat.ne_of_lt (allLt_mem q4.2.2.2 p hp)) ⟨⟨_, rfl⟩, ⟨_, rfl⟩, ⟨_, rfl⟩, rfl, ⟨_, rfl⟩, ⟨_, rfl⟩, rfl⟩
  · with_reducible rename News _ _ _ _ => N4
    with_reducible rename Fr _ _ _ _ => F4
    with_reducible rename ¬ (_ : Int) ≤ b => q5
    refine ksa_set F4 N4 (Upd.head hap) hi hb0 (by omega) (by omega) fun h5 F5 N5 hi5 hl5 hs5 => ?_
    repeat' (first | (k_unfold; (try dsimp only)) | (k_end; kc_close) | (walk1; (try dsimp only)) | (leave1; walk_say "STEP leave1"; (try dsimp only)) | fail "no step")
    rw [← tabI_neg q5] at *
    with_reducible rename News _ _ _ _ => N6
    with_reducible rename Fr _ _ _ _ => F6
    exact hret _ _ _ _ _ _ F6 N6 hi5 hap ⟨⟨_, rfl⟩, ⟨_, rfl⟩, ⟨_, rfl⟩, rfl, ⟨_, rfl⟩, ⟨_, rfl⟩, rfl⟩
end Mine
end PartW14
section PartV15
open PySem PySem.W PySem.Calls PyProof.Rows PySem.Spec
namespace Mine
section
variable {prog : Program} {w : World} {A : Around} {E : Value → Shared → Prop} {s : Shared} {g : Heap} {env : Env} {m : Str → Option Value} {live rest : List (Addr × Obj)} {R : Result → Shared → Prop} {body : List Stmt} {y : Str} {py : Pos}
theorem loop_one {I : Addr} {n : Nat} {P : Nat → Value → Prop} {St : Nat → Heap → Prop} (W : Walks prog w A I [I] [I] n P St) (hx : env.kindOf y = some .local)
    (hp : (env.scope.kind == .class || (env.scope.kind == .module && env.locals != env.globals)) = false) (hex : ∀ i h, St i h → ∃ o, h.get? I = some o) (hI : env.locals ≠ I) (hgI : g.get? I = none)
    (J : Nat → (Str → Option Value) → List (Addr × Obj) → Array GenState → Prop) (st : St 0 s.heap) (F : Fr g env.locals s.heap m) (N : News g env.locals s.heap (live ++ rest)) (off : ∀ p ∈ live ++ rest, p.1 ≠ I) (hJ : J 0 m live s.gens)
    (step : ∀ i v m₁ live₁ own s₁, i < n → P i v → J i m₁ live₁ s₁.gens → (∀ p ∈ live₁ ++ rest, p.1 ≠ I) → (∀ p ∈ own, p.1 = I) → (∃ o, (I, o) ∈ own) → Fr g env.locals s₁.heap (fun z => if z = y then some v else m₁ z) → News g env.locals s₁.heap (live₁ ++ (own ++ rest)) →
      s₁.drawn = s.drawn → s₁.os = s.os → ∀ E', wpAny (model prog w) A (execs body env) (fun f s₂ => f = .next ∧ s₂.drawn = s.drawn ∧ s₂.os = s.os ∧ ∃ m₂ live₂, Fr g env.locals s₂.heap m₂ ∧ News g env.locals s₂.heap (live₂ ++ (own ++ rest)) ∧ (∀ p ∈ live₂, p.1 ≠ I) ∧ J (i + 1) m₂ live₂ s₂.gens) E' s₁)
    (done : ∀ m₁ live₁ s₁, J n m₁ live₁ s₁.gens → Fr g env.locals s₁.heap m₁ → News g env.locals s₁.heap (live₁ ++ rest) → s₁.drawn = s.drawn → s₁.os = s.os → R (.ok .next) s₁) :
    codeAny (model prog w) A (.forLoop (.Name y py) (.ref I) body [] env) R s := by
  refine loop_name (rest := rest) (live := live) (m := m) W hx hp (fun h => hI (List.mem_singleton.mp h)) (fun b hb => by rw [List.mem_singleton.mp hb]; exact hgI) (fun i h st b hb => by rw [List.mem_singleton.mp hb]; exact hex i h st) J
    ⟨st, F, N, fun p hp hb => off p hp (List.mem_singleton.mp hb), hJ, rfl, rfl⟩ (fun i v m₁ live₁ own s₁ hi hP hJ₁ off₁ hown hexw F₁ N₁ hd ho => ?_) done
  refine wpAny_mono (step i v m₁ live₁ own s₁ hi hP hJ₁ (fun p hp e => off₁ p hp (e ▸ List.mem_singleton.mpr rfl)) (fun p hp => List.mem_singleton.mp (hown p hp)) (hexw I (.head _)) F₁ N₁ hd ho _) (fun f s₂ hq => ?_) fun _ _ e => e
  obtain ⟨rfl, hd2, ho2, m₂, live₂, F₂, N₂, off₂, hJ₂⟩ := hq
  exact ⟨m₂, live₂, F₂, N₂, (fun p hp hb => off₂ p hp (List.mem_singleton.mp hb)), hJ₂, hd2.trans hd.symm, ho2.trans ho.symm⟩
theorem text_loop {x : Str} {t : Tok} (hh : A.handled = none) (hx : env.kindOf y = some .local)
    (hp : (env.scope.kind == .class || (env.scope.kind == .module && env.locals != env.globals)) = false)
    (J : Nat → (Str → Option Value) → List (Addr × Obj) → Array GenState → Prop) (F : Fr g env.locals s.heap m) (N : News g env.locals s.heap (live ++ rest)) (hJ : J 0 m live s.gens)
    (step : ∀ I i v m₁ live₁ own s₁, i < x.cps.size → SignAt x i v → J i m₁ live₁ s₁.gens → (∀ p ∈ live₁ ++ rest, p.1 ≠ I) → (∀ p ∈ own, p.1 = I) → (∃ o, (I, o) ∈ own) → Fr g env.locals s₁.heap (fun z => if z = y then some v else m₁ z) → News g env.locals s₁.heap (live₁ ++ (own ++ rest)) →
      s₁.drawn = s.drawn → s₁.os = s.os → ∀ E', wpAny (model prog w) A (execs body env) (fun f s₂ => f = .next ∧ s₂.drawn = s.drawn ∧ s₂.os = s.os ∧ ∃ m₂ live₂, Fr g env.locals s₂.heap m₂ ∧ News g env.locals s₂.heap (live₂ ++ (own ++ rest)) ∧ (∀ p ∈ live₂, p.1 ≠ I) ∧ J (i + 1) m₂ live₂ s₂.gens) E' s₁)
    (done : ∀ m₁ live₁ s₁, J x.cps.size m₁ live₁ s₁.gens → Fr g env.locals s₁.heap m₁ → News g env.locals s₁.heap (live₁ ++ rest) → s₁.drawn = s.drawn → s₁.os = s.os → R (.ok .next) s₁) :
    wpAny (model prog w) A (pyIter (.str x t)) (fun it s₂ => codeAny (model prog w) A (.forLoop (.Name y py) it body [] env) R s₂) E s := by
  have hI := Nat.ne_of_lt F.ns.lt
  have hg := fresh_none F (Nat.le_refl _)
  have F' := fun o => F.push (o := o)
  have N' : ∀ o, News g env.locals (s.heap.push o) (live ++ rest) := fun o => News.up N fun b o' e => Heap.get?_push_of_some _ e
  have off : ∀ p ∈ live ++ rest, p.1 ≠ s.heap.objs.size := fresh_neN N (Nat.le_refl _)
  cases ha : x.cps.all (· < 128)
  · refine wpAny_pyIter_wide ha ?_
    exact loop_one (Walks.strWide hh _ x t) hx hp (fun i h ⟨o, e, _⟩ => ⟨o, e⟩) hI hg J ⟨_, Heap.get?_push_size _ rfl, rfl, rfl⟩ (F' _) (N' _) off hJ (fun i v m₁ live₁ own s₁ => step _ i v m₁ live₁ own s₁) done
  · refine wpAny_pyIter_ascii ha ?_
    exact loop_one (Walks.strAscii hh _ x t) hx hp (fun i h ⟨o, e, _⟩ => ⟨o, e⟩) hI hg J ⟨_, Heap.get?_push_size _ rfl, rfl, rfl⟩ (F' _) (N' _) off hJ (fun i v m₁ live₁ own s₁ => step _ i v m₁ live₁ own s₁) done
theorem range_loop {r : Addr} {a b : Int} {n : Nat} {t u v : Tok} (hh : A.handled = none) (hx : env.kindOf y = some .local)
    (hp : (env.scope.kind == .class || (env.scope.kind == .module && env.locals != env.globals)) = false) (hr : IsRange s.heap r a b 1 t u v) (hsm : Builtin.Range.small a b 1 = true) (hn : Builtin.Range.rangeSize a b 1 = n)
    (J : Nat → (Str → Option Value) → List (Addr × Obj) → Array GenState → Prop) (F : Fr g env.locals s.heap m) (N : News g env.locals s.heap (live ++ rest)) (hJ : J 0 m live s.gens)
    (step : ∀ I i tk m₁ live₁ own s₁, i < n → J i m₁ live₁ s₁.gens → (∀ p ∈ live₁ ++ rest, p.1 ≠ I) → (∀ p ∈ own, p.1 = I) → (∃ o, (I, o) ∈ own) → Fr g env.locals s₁.heap (fun z => if z = y then some (.int (a + i) tk) else m₁ z) → News g env.locals s₁.heap (live₁ ++ (own ++ rest)) →
      s₁.drawn = s.drawn → s₁.os = s.os → ∀ E', wpAny (model prog w) A (execs body env) (fun f s₂ => f = .next ∧ s₂.drawn = s.drawn ∧ s₂.os = s.os ∧ ∃ m₂ live₂, Fr g env.locals s₂.heap m₂ ∧ News g env.locals s₂.heap (live₂ ++ (own ++ rest)) ∧ (∀ p ∈ live₂, p.1 ≠ I) ∧ J (i + 1) m₂ live₂ s₂.gens) E' s₁)
    (done : ∀ m₁ live₁ s₁, J n m₁ live₁ s₁.gens → Fr g env.locals s₁.heap m₁ → News g env.locals s₁.heap (live₁ ++ rest) → s₁.drawn = s.drawn → s₁.os = s.os → R (.ok .next) s₁) :
    wpAny (model prog w) A (pyIter (.ref r)) (fun it s₂ => codeAny (model prog w) A (.forLoop (.Name y py) it body [] env) R s₂) E s := by
  have hI := Nat.ne_of_lt F.ns.lt
  have hg := fresh_none F (Nat.le_refl _)
  have N' : ∀ o, News g env.locals (s.heap.push o) (live ++ rest) := fun o => News.up N fun b o' e => Heap.get?_push_of_some _ e
  have off : ∀ p ∈ live ++ rest, p.1 ≠ s.heap.objs.size := fresh_neN N (Nat.le_refl _)
  refine wpAny_pyIter_range hr hsm ?_
  refine loop_one (Walks.range hh _ a 1 n) hx hp (fun i h e => ⟨_, e⟩) hI hg J ?_ (F.push _) (N' _) off hJ (fun i v m₁ live₁ own s₁ hi hP => ?_) done
  · show IsRangeIter _ _ _ _ _
    rw [hn]
    have := Heap.get?_push_size s.heap (o := { cls := .type "range_iterator", dict := none, data := .fields #[rawInt a, rawInt n, rawInt 1], slots := #[] }) rfl
    simpa using this
  · obtain ⟨tk, rfl⟩ := hP
    rw [Int.mul_one]
    exact step _ i tk m₁ live₁ own s₁ hi
end
end Mine
end PartV15
section PartW15
open PySem PySem.W PySem.Calls PyProof.Rows
namespace Mine
set_option maxHeartbeats 8000000
theorem ne_of_allLt {d : Addr} {l : List (Addr × Obj)} (h : AllLt d l) : ∀ p ∈ l, (p.1 : Nat) ≠ d := fun p hp => Nat.ne_of_lt (allLt_mem h p hp)
local macro_rules | `(tactic| k_all) => `(tactic| exact ne_of_allLt (by with_reducible assumption))
structure WsSt where
  cs : List Int
  b : Int
  n : Int
  nt : Int
noncomputable def wsStep (σ : WsSt) (c : Nat) : WsSt := if c = 32 then ⟨σ.cs, σ.b + 1, σ.n + 1, σ.nt⟩ else ⟨tabI σ.cs σ.b, 0, σ.n + 1, σ.nt + 1⟩
noncomputable def wsRun (l : List Nat) (σ : WsSt) : WsSt := l.foldl wsStep σ
noncomputable def wsOk : List Nat → Int → Bool
  | [], _ => true
  | c :: r, b => if c = 32 then decide (b + 1 ≤ 12) && wsOk r (b + 1) else decide (c = 9) && wsOk r 0
noncomputable abbrev ws0 : WsSt := ⟨[], 0, 0, 0⟩
theorem tabI_len {cs : List Int} {b : Int} (hl : cs.length ≤ 13) (hb : b ≤ 12) : (tabI cs b).length ≤ 13 := by
  unfold tabI padI
  rw [List.length_set]
  split
  · simp; omega
  · exact hl
theorem ws_map {m₀ m : Str → Option Value} {b n nt : Int} {CN : Addr} (H : WsM m₀ m b n nt CN) : ∃ t2 t3 t4 t5 t6, m = (fun y => if y = sx "b" then some (.int b t2) else if y = sx "n" then some (.int n t3) else if y = sx "nt" then some (.int nt t4) else if y = sx "count" then some (.ref CN) else if y = sx "S" then some (.str (sx " ") t5) else if y = sx "T" then some (.str (sx "\t") t6) else m y) := by
  obtain ⟨t2, h2⟩ := H.b
  obtain ⟨t3, h3⟩ := H.n
  obtain ⟨t4, h4⟩ := H.nt
  obtain ⟨t5, h5⟩ := H.S
  obtain ⟨t6, h6⟩ := H.T
  refine ⟨t2, t3, t4, t5, t6, ?_⟩
  have h7 := H.count
  funext z
  repeat' (split; (rename_i h; rw [h]; assumption))
  rfl
structure WsJ (l : List Nat) (m₀ : Str → Option Value) (rest : List (Addr × Obj)) (i : Nat) (m : Str → Option Value) (live : List (Addr × Obj)) (σ : WsSt) (CN : Addr) (cvs : List Value) (ck : Nat) : Prop where
  fl : live = [(CN, PySem.W.listOf cvs.toArray ck)]
  fi : IntsAre cvs σ.cs
  fm : WsM m₀ m σ.b σ.n σ.nt CN
  run : wsRun (l.drop i) σ = wsRun l ws0
  ok : wsOk (l.drop i) σ.b = true
  len : σ.cs.length ≤ 13
  b0 : 0 ≤ σ.b
  b1 : σ.b ≤ 12
  n0 : 0 ≤ σ.n
  n1 : σ.n ≤ i
  t0 : 0 ≤ σ.nt
  t1 : σ.nt ≤ i
  off : ∀ p ∈ rest, p.1 ≠ CN
local macro_rules | `(tactic| walk_at "idle") => `(tactic| skip)
local macro_rules | `(tactic| walk_at "exec For Name Attribute cons nil") => `(tactic| (refine wpAny_For ?_ (fun _ => by with_unfolding_all rfl)))
theorem ws_loop {w : World} {mean : ExcName → Option Value} {mg mb : Str → Option Value} {dp un : Nat} {gd : Option (List Code)} {cn : Str} {cs : Scope} {L₀ a₀ : Addr} {ccd : Value} {cl : List (Str × Addr)} {outer : List Env} {g : Heap} {L : Addr} {rest : List (Addr × Obj)} {s : Shared} {E : Value → Shared → Prop} {bc : Code} {m₀ m : Str → Option Value} {ws : Str} {t : Tok} {live : List (Addr × Obj)} {CN : Addr} {cvs : List Value} {ck : Nat} {y : Pos} {R : Result → Shared → Prop} (X : (KX w.params).In g) (T : Top qv (looseW qv looseV) mean mg mb g) (hd : dp + 8 < recursionLimit) (hu : un + 64 < cLine)
    (F : Fr g L s.heap m) (N : News g L s.heap (live ++ rest)) (hsz : ws.cps.size ≤ 200) (J0 : WsJ ws.cps.toList m₀ rest 0 m live ws0 CN cvs ck)
    (hret : ∀ h' tk m' live' σ CN' cvs' ck', Fr g L h' m' → News g L h' (live' ++ rest) → WsJ ws.cps.toList m₀ rest ws.cps.size m' live' σ CN' cvs' ck' → R (.ok .next) { s with heap := h', toks := tk }) :
    wpAny (model pw w) (((ktrTop dp un gd cn cs L₀ a₀ ccd cl outer).under bc).deeper (iEnv L)) (pyIter (.str ws t)) (fun it s₂ => codeAny (model pw w) (((ktrTop dp un gd cn cs L₀ a₀ ccd cl outer).under bc).deeper (iEnv L)) (.forLoop (.Name (sx "ch") y) it (forB (nth (fdB (mth 1)) 4)) [] (iEnv L)) R s₂) E s := by
  refine text_loop (rest := rest) (live := live) (m := m) rfl rfl rfl (fun i m live gens => gens = s.gens ∧ ∃ σ CN cvs ck, WsJ ws.cps.toList m₀ rest i m live σ CN cvs ck) F N ⟨rfl, _, _, _, _, J0⟩ ?_ ?_
  · rintro I i v m₁ live₁ own s₁ hi ⟨c, u, hc, rfl⟩ ⟨hg, σ, CN₁, cvs₁, ck₁, H⟩ off hown ⟨oI, hI⟩ F₁ N₁ hd1 ho1 E'
    obtain ⟨lv, hints, hmap, hrun, hok, hlen, hb0, hb1, hn0, hn1, ht0, ht1, hoff⟩ := H
    subst lv
    obtain ⟨t2, t3, t4, t5, t6, em⟩ := ws_map hmap
    rw [em] at F₁
    have hcl : ws.cps.toList.drop i = c :: ws.cps.toList.drop (i + 1) := by
      have hi' : i < ws.cps.toList.length := by simpa using hi
      rw [List.drop_eq_getElem_cons hi']
      congr 1
      have := (Array.getElem?_eq_some_iff.mp hc).2
      simpa using this
    rw [hcl] at hrun hok
    have hIc : CN₁ ≠ I := off _ (.head _)
    have hap : ∀ p ∈ own ++ rest, p.1 ≠ CN₁ := fun p hp => by
      rcases List.mem_append.mp hp with hp | hp
      · rw [hown p hp]; exact hIc.symm
      · exact hoff p hp
    by_cases h32 : c = 32
    · subst h32
      have hok' : wsOk (ws.cps.toList.drop (i + 1)) (σ.b + 1) = true ∧ σ.b + 1 ≤ 12 := by
        simp [wsOk] at hok
        exact ⟨hok.2, hok.1⟩
      refine ws_sp (base := g) (outer := outer) (rest := own ++ rest) X T rfl F₁ N₁ hints hlen hb0 hb1 hn0 (by omega) ht0 (by omega) fun h' tk m' F' N' M' => ?_
      refine ⟨rfl, hd1, ho1, m', [(CN₁, PySem.W.listOf cvs₁.toArray ck₁)], F', N', (fun p hp => by rw [List.mem_singleton.mp hp]; exact hIc), hg, ⟨σ.cs, σ.b + 1, σ.n + 1, σ.nt⟩, CN₁, cvs₁, ck₁, ⟨rfl, hints, ⟨M'.b, M'.n, M'.nt, M'.count, M'.S, M'.T, M'.self.trans hmap.self⟩, hrun, hok'.1, hlen, by show 0 ≤ σ.b + 1; omega, hok'.2, by show 0 ≤ σ.n + 1; omega, by show σ.n + 1 ≤ ((i + 1 : Nat) : Int); omega, ht0, by show σ.nt ≤ ((i + 1 : Nat) : Int); omega, hoff⟩⟩
    · have hok' : c = 9 ∧ wsOk (ws.cps.toList.drop (i + 1)) 0 = true := by
        simp [wsOk, h32] at hok
        exact hok
      obtain ⟨rfl, hok'⟩ := hok'
      refine ws_tab (base := g) (outer := outer) (rest := own ++ rest) X T rfl F₁ N₁ hap hints hlen hb0 hb1 hn0 (by omega) ht0 (by omega) fun h' tk m' CN' cvs' ck' F' N' hi' hap' M' => ?_
      have hIc' : CN' ≠ I := fun e => hap' _ (List.mem_append_left _ hI) e.symm
      refine ⟨rfl, hd1, ho1, m', [(CN', PySem.W.listOf cvs'.toArray ck')], F', N', (fun p hp => by rw [List.mem_singleton.mp hp]; exact hIc'), hg, ⟨tabI σ.cs σ.b, 0, σ.n + 1, σ.nt + 1⟩, CN', cvs', ck', ⟨rfl, hi', ⟨M'.b, M'.n, M'.nt, M'.count, M'.S, M'.T, M'.self.trans hmap.self⟩, hrun, hok', tabI_len hlen hb1, Int.le_refl 0, (by decide : (0 : Int) ≤ 12), by show 0 ≤ σ.n + 1; omega, by show σ.n + 1 ≤ ((i + 1 : Nat) : Int); omega, by show 0 ≤ σ.nt + 1; omega, by show σ.nt + 1 ≤ ((i + 1 : Nat) : Int); omega, fun p hp => hap' p (List.mem_append_right _ hp)⟩⟩
  · rintro m₁ live₁ s₁ ⟨hg, σ, CN₁, cvs₁, ck₁, H⟩ F₁ N₁ hd1 ho1
    rw [shared_eq hg hd1 ho1]
    exact hret _ _ m₁ live₁ σ CN₁ cvs₁ ck₁ F₁ N₁ H
end Mine
end PartW15
section PartW16
open PySem PySem.W PySem.Calls PyProof.Rows
namespace Mine
set_option maxHeartbeats 8000000
local macro_rules | `(tactic| k_all) => `(tactic| exact ne_of_allLt (by with_reducible assumption))
local macro_rules | `(tactic| walk_at "exec For Name Attribute cons nil") => `(tactic| (refine wpAny_For ?_ (fun _ => by with_unfolding_all rfl)))
noncomputable abbrev dEnt (P : Params) (k : String) (t : Tok) (v : Value) : DictEntry := { hash := PyData.keyHash P (Str.ofString k), key := .str (Str.ofString k) t, val := v }
noncomputable abbrev wsDict (P : Params) (ws : Str) (σ : WsSt) (NT : Addr) (q : Bool) (t1 t2 t3 t4 t5 t6 t7 t8 : Tok) : Obj :=
  dictOf [dEnt P "raw" t1 (.str ws t2), dEnt P "n" t3 (.int σ.n t4), dEnt P "nt" t5 (.int σ.nt t6), dEnt P "norm" t7 (.ref NT), dEnt P "is_simple" t8 (.bool q)] 5
noncomputable abbrev tup2 (CT : Addr) (b : Int) (t : Tok) : Obj := { cls := .type "tuple", data := .seq #[.ref CT, .int b t] }
noncomputable abbrev tupV (cvs : List Value) : Obj := { cls := .type "tuple", data := .seq cvs.toArray }
theorem news_no3 {g h : Heap} {L : Addr} {p q r : Addr × Obj} {rest : List (Addr × Obj)} (N : News g L h (p :: q :: r :: rest)) : News g L h (p :: q :: rest) := fun x hx => by
  rcases List.mem_cons.mp hx with rfl | hx
  · exact N _ (.head _)
  · rcases List.mem_cons.mp hx with rfl | hx
    · exact N _ (.tail _ (.head _))
    · exact N _ (.tail _ (.tail _ (.tail _ hx)))
theorem news_ne {g h : Heap} {L a b : Addr} {o1 o2 : Obj} {l : List (Addr × Obj)} (N : News g L h l) (h1 : (a, o1) ∈ l) (h2 : (b, o2) ∈ l) (hc : o1.cls ≠ o2.cls) : @Ne Nat a b := fun e => by
  have e : a = b := e
  subst e
  have := (N _ h1).1.symm.trans (N _ h2).1
  cases this
  exact hc rfl
theorem fr_map {g h : Heap} {L : Addr} {m m' : Str → Option Value} (F : Fr g L h m) (e : ∀ y, m y = m' y) : Fr g L h m' := (funext e) ▸ F
theorem news_drop2 {g h : Heap} {L : Addr} {p q : Addr × Obj} {rest : List (Addr × Obj)} (N : News g L h (p :: q :: rest)) : News g L h (p :: rest) := fun x hx => by
  rcases List.mem_cons.mp hx with rfl | hx
  · exact N _ (.head _)
  · exact N _ (.tail _ (.tail _ hx))
theorem ws_in {w : World} {mean : ExcName → Option Value} {mg mb : Str → Option Value} {dp un : Nat} {gd : Option (List Code)} {cn : Str} {cs : Scope} {L₀ a₀ : Addr} {ccd : Value} {cl : List (Str × Addr)} {outer : List Env} {g : Heap} {L : Addr} {rest : List (Addr × Obj)} {s : Shared} {E : Value → Shared → Prop} {bc : Code} {Q : Flow → Shared → Prop} {x dx : Addr} {ws : Str} {t : Tok} (X : (KX w.params).In g) (T : Top qv (looseW qv looseV) mean mg mb g) (hd : dp + 8 < recursionLimit) (hu : un + 64 < cLine)
    (F : Fr g L s.heap (fun y => if y = sx "ws" then some (.str ws t) else if y = sx "self" then some (.ref x) else none)) (N : News g L s.heap ((x, instObj 182 dx) :: (dx, dictOf [] 0) :: rest)) (l1 : AllLt dx rest) (l2 : @LT.lt Nat _ dx x ∧ AllLt x rest)
    (hsz : ws.cps.size ≤ 200) (hok : wsOk ws.cps.toList 0 = true)
    (hret : ∀ h' tk m' NT CT cvs q t0 t1 t2 t3 t4 t5 t6 t7 t8, Fr g L h' m' → News g L h' ((NT, tup2 CT (wsRun ws.cps.toList ws0).b t0) :: (CT, tupV cvs) :: (x, instObj 182 dx) :: (dx, wsDict w.params ws (wsRun ws.cps.toList ws0) NT q t1 t2 t3 t4 t5 t6 t7 t8) :: rest) → IntsAre cvs (wsRun ws.cps.toList ws0).cs → (wsRun ws.cps.toList ws0).cs.length ≤ 13 → 0 ≤ (wsRun ws.cps.toList ws0).b → (wsRun ws.cps.toList ws0).b ≤ 12 → 0 ≤ (wsRun ws.cps.toList ws0).nt → (wsRun ws.cps.toList ws0).nt ≤ 200 → Q .next { s with heap := h', toks := tk }) :
    wpAny (model pw w) (((ktrTop dp un gd cn cs L₀ a₀ ccd cl outer).under bc).deeper (iEnv L)) (execs (fdB (mth 1)) (iEnv L)) Q E s := by
  k_with_none
  w_on
  repeat' (first | (k_unfold; (try dsimp only)) | (k_end; kc_close) | (walk1; (try dsimp only)) | (leave1; walk_say "STEP leave1"; (try dsimp only)) | fail "no step")
  with_reducible rename News _ _ _ _ => N4
  with_reducible rename Fr _ _ _ _ => F4
  with_reducible rename _ ∧ _ ∧ _ ∧ AllLt _ _ => q4
  have N5 := news_drop2 N4
  refine ws_loop (m₀ := fun y => if y = sx "self" then some (.ref x) else none) (CN := _) (cvs := []) (ck := 0) (live := [(_, PySem.W.listOf #[] 0)]) X T hd hu F4 N5 hsz ⟨rfl, .nil, ⟨⟨_, rfl⟩, ⟨_, rfl⟩, ⟨_, rfl⟩, rfl, ⟨_, rfl⟩, ⟨_, rfl⟩, rfl⟩, rfl, hok, by decide, by decide, by decide, by decide, by decide, by decide, by decide, ?_⟩ ?_
  · intro p hp
    rcases List.mem_cons.mp hp with rfl | hp
    · exact Nat.ne_of_lt q4.2.1
    · rcases List.mem_cons.mp hp with rfl | hp
      · exact Nat.ne_of_lt q4.2.2.1
      · exact Nat.ne_of_lt (allLt_mem q4.2.2.2 p hp)
  · intro h6 tk6 m6 live6 σ CN cvs ck F6 N6 H
    obtain ⟨lv, hints, hmap, hrun, -, hlen, hb0, hb1, hn0, hn1, ht0, ht1, hoff⟩ := H
    subst lv
    have hse : m6 (sx "self") = some (.ref x) := hmap.self
    obtain ⟨t2, t3, t4, t5, t6, em⟩ := ws_map hmap
    have F7 : Fr g L h6 (fun y => if y = sx "self" then some (.ref x) else if y = sx "b" then some (.int σ.b t2) else if y = sx "n" then some (.int σ.n t3) else if y = sx "nt" then some (.int σ.nt t4) else if y = sx "count" then some (.ref CN) else if y = sx "S" then some (.str (sx " ") t5) else if y = sx "T" then some (.str (sx "\t") t6) else m6 y) := fr_map F6 fun y => by
      by_cases h : y = sx "self"
      · subst h; rw [hse]; exact (if_pos rfl).symm
      · rw [if_neg h]; exact congrFun em y
    clear em F6
    have ne1 : @Ne Nat CN x := fun e => hoff _ (.head _) e.symm
    have ne2 : @Ne Nat CN dx := fun e => hoff _ (.tail _ (.head _)) e.symm
    clear N4 N5 F4
    repeat' (first | (k_unfold; (try dsimp only)) | (k_end; kc_close) | (walk1; (try dsimp only)) | (leave1; walk_say "STEP leave1"; (try dsimp only)) | fail "no step")
    with_reducible rename News _ _ _ _ => N8
    have ne3 := news_ne N8 (.tail _ (.head _)) (.tail _ (.tail _ (.tail _ (.tail _ (.head _))))) (by simp)
    repeat' (first | (k_unfold; (try dsimp only)) | (k_end; kc_close) | (walk1; (try dsimp only)) | (leave1; walk_say "STEP leave1"; (try dsimp only)) | fail "no step")
    have eσ : σ = wsRun ws.cps.toList ws0 := by
      have q := hrun
      rw [List.drop_of_length_le (by simp)] at q
      exact q
    all_goals
      with_reducible rename News _ _ _ _ => N9
      with_reducible rename Fr _ _ _ _ => F9
      rw [← eσ] at hret
      exact hret _ _ _ _ _ _ _ _ _ _ _ _ _ _ _ _ F9 (news_no3 N9) hints hlen hb0 hb1 ht0 (by omega)
end Mine
end PartW16
section PartW17
open PySem PySem.W PySem.Calls PyProof.Rows
namespace Mine
set_option maxHeartbeats 8000000
theorem c_ws {w : World} {mean : ExcName → Option Value} {mg mb : Str → Option Value} {dp un : Nat} {gd : Option (List Code)} {cn : Str} {cs : Scope} {a : Addr} {ccd : Value} {cl : List (Str × Addr)} {outer : List Env} {A₀ : Around} {base h₀ : Heap} {L : Addr} {m : Str → Option Value} {news : List (Addr × Obj)} {s : Shared} {Q E : Value → Shared → Prop} {ws : Str} {t : Tok} (B : Below A₀ base outer h₀) (F : Fr h₀ L s.heap m) (X : (KX w.params).In h₀) (N : News h₀ L s.heap news) (T : Top qv (looseW qv looseV) mean mg mb h₀) (hk : cs.kind = .function) (hd : dp + 8 < recursionLimit) (hu : un + 64 < cLine) (hsz : ws.cps.size ≤ 200) (hok : wsOk ws.cps.toList 0 = true)
    (hret : ∀ h' tk x dx NT CT cvs q t0 t1 t2 t3 t4 t5 t6 t7 t8, Fr h₀ L h' m → News h₀ L h' ((NT, tup2 CT (wsRun ws.cps.toList ws0).b t0) :: (CT, tupV cvs) :: (x, instObj 182 dx) :: (dx, wsDict w.params ws (wsRun ws.cps.toList ws0) NT q t1 t2 t3 t4 t5 t6 t7 t8) :: news) → IntsAre cvs (wsRun ws.cps.toList ws0).cs → (wsRun ws.cps.toList ws0).cs.length ≤ 13 → 0 ≤ (wsRun ws.cps.toList ws0).b → (wsRun ws.cps.toList ws0).b ≤ 12 → 0 ≤ (wsRun ws.cps.toList ws0).nt → (wsRun ws.cps.toList ws0).nt ≤ 200 → Q (.ref x) { s with heap := h', toks := tk }) :
    wpAny (model pw w) (ktrTop dp un gd cn cs L a ccd cl outer) (call (.ref 182) [.str ws t]) Q E s := by
  k_with_none
  w_on
  k_dflt (refine' call_cls ?q1 ?q2 ?q3 ?q4 ?q5 ?q6 ?_; (case q1 => k_asm); (case q2 => k_asm); (case q3 => k_asm); (case q4 => k_is); (case q5 => k_is); (case q6 => k_is); k_whole)
  intro x' d' h5 F5 N5 l1 l2
  k_dflt (refine' code_def (binds := [(sx "self", .ref x'), (sx "ws", .str ws t)]) ?k1 ?k2 ?k3 ?k4 ?k5 ?kA ?kF ?kK ?k6 ?k7 ?k8 ?k9 ?kB ?_ ?c2 ?c3 ?c4 ?c5; (case kA => exact rfl); (case kF => exact rfl); (case kK => assumption); (case k1 => k_asm); (case k2 => k_asm); (case k3 => k_asm); (case k4 => k_asm); (case k5 => k_asm); (case k6 => k_is); (case k7 => k_is); (case k8 => ktr_room); (case k9 => exact BindsTo.of_eq rfl); (case c5 => decide); (case kB => exact locs rfl); (case c2 => exact rfl); (case c3 => exact rfl); (case c4 => exact rfl); k_whole; intro g' L' h' FG' F' N' B' X' T'; (try dsimp only); (try k_fold))
  have F2 : Fr g' L' h' (fun z => if z = sx "ws" then some (.str ws t) else if z = sx "self" then some (.ref x') else none) := by
    rw [← lookup2]; exact F'
  refine ws_in (E := ek) (Q := qk) (t := t) (rest := news) X' T' hd hu F2 N' (allLt_of l1) ⟨l2, allLt_of fun p hp => Nat.lt_trans (l1 p hp) l2⟩ hsz hok fun h6 tk6 m6 NT CT cvs q t0 t1 t2 t3 t4 t5 t6 t7 t8 F6 N6 hi hl hb0 hb1 ht0 ht1 => ?_
  exact ⟨_, _, _, F6, N6, fun F7 N7 => ⟨rfl, hret _ _ _ _ _ _ _ _ _ _ _ _ _ _ _ _ _ F7 N7 hi hl hb0 hb1 ht0 ht1⟩⟩
end Mine
end PartW17
section PartW18
open PySem PySem.W PySem.Calls PyProof.Rows
namespace Mine
noncomputable abbrev ilEnv (L : Addr) : Env := envOf (Str.ofString "Whitespace.indent_level") (fdS (mth 3)) L 151 (.ref 150)
set_option maxHeartbeats 8000000
structure WsO (P : Params) (news : List (Addr × Obj)) (x : Addr) (σ : WsSt) (dx NT CT : Addr) (cvs : List Value) (q : Bool) (ws : Str) (t0 t1 t2 t3 t4 t5 t6 t7 t8 : Tok) : Prop where
  hN : (NT, tup2 CT σ.b t0) ∈ news
  hC : (CT, tupV cvs) ∈ news
  hx : (x, instObj 182 dx) ∈ news
  hd : (dx, wsDict P ws σ NT q t1 t2 t3 t4 t5 t6 t7 t8) ∈ news
  hi : IntsAre cvs σ.cs
  len : σ.cs.length ≤ 13
  b0 : 0 ≤ σ.b
  b1 : σ.b ≤ 12
  t0 : 0 ≤ σ.nt
  t1 : σ.nt ≤ 200
noncomputable def WsAt (P : Params) (news : List (Addr × Obj)) (x : Addr) (σ : WsSt) : Prop := ∃ dx NT CT cvs q ws t0 t1 t2 t3 t4 t5 t6 t7 t8, WsO P news x σ dx NT CT cvs q ws t0 t1 t2 t3 t4 t5 t6 t7 t8
theorem WsAt.mono {P : Params} {news news' : List (Addr × Obj)} {x : Addr} {σ : WsSt} (h : WsAt P news x σ) (k : ∀ p ∈ news, p ∈ news') : WsAt P news' x σ := by
  obtain ⟨dx, NT, CT, cvs, q, ws, t0, t1, t2, t3, t4, t5, t6, t7, t8, H⟩ := h
  exact ⟨dx, NT, CT, cvs, q, ws, t0, t1, t2, t3, t4, t5, t6, t7, t8, ⟨k _ H.hN, k _ H.hC, k _ H.hx, k _ H.hd, H.hi, H.len, H.b0, H.b1, H.t0, H.t1⟩⟩
theorem news_four {g h : Heap} {L : Addr} {p q r u : Addr × Obj} {news : List (Addr × Obj)} (N : News g L h news) (h1 : p ∈ news) (h2 : q ∈ news) (h3 : r ∈ news) (h4 : u ∈ news) : News g L h (p :: q :: r :: u :: news) := fun x hx => by
  simp only [List.mem_cons] at hx
  rcases hx with rfl | rfl | rfl | rfl | hx
  · exact N _ h1
  · exact N _ h2
  · exact N _ h3
  · exact N _ h4
  · exact N _ hx
theorem lenT {prog : Program} {w : World} {A : Around} {E : Value → Shared → Prop} {s : Shared} {h₀ : Heap} {L C : Addr} {news : List (Addr × Obj)} {vs : List Value} {ns : List Int} {Q : Value → Shared → Prop} (N : News h₀ L s.heap news) (hm : (C, tupV vs) ∈ news) (hi : IntsAre vs ns) (hl : ns.length ≤ 13)
    (h : ∀ t tk, Q (.int (ns.length : Int) t) { s with toks := tk }) : wpAny (model prog w) A (call (.builtin "len") [.ref C]) Q E s := by
  have hln := hi.length
  refine PyProof.Rows.len_tuple (items := vs.toArray) ⟨_, (N _ hm).1, rfl, _, rfl⟩ (by simp; omega) ?_
  have e : (vs.toArray.size : Int) = (ns.length : Int) := by simp [hln]
  rw [e]
  exact h _ _
theorem maxW {prog : Program} {w : World} {A : Around} {E : Value → Shared → Prop} {s : Shared} {h₀ : Heap} {L : Addr} {m : Str → Option Value} {news : List (Addr × Obj)} {a b : Int} {t u : Tok} {Q : Value → Shared → Prop} (hh : A.handled = none) (F : Fr h₀ L s.heap m) (N : News h₀ L s.heap news)
    (h : ∀ h' t tk, Fr h₀ L h' m → News h₀ L h' news → Q (.int (max a b) t) { s with heap := h', toks := tk }) : wpAny (model prog w) A (call (.builtin "max") [.int a t, .int b u]) Q E s := by
  refine max_two_ints hh fun h' tk k => ?_
  by_cases hc : b > a
  · rw [if_pos hc]
    have e : max a b = b := by omega
    have := h h' u tk (F.keeps k) (News.up N k)
    rwa [e] at this
  · rw [if_neg hc]
    have e : max a b = a := by omega
    have := h h' t tk (F.keeps k) (News.up N k)
    rwa [e] at this
noncomputable abbrev rngO2 (a b : Int) (t u v : Tok) : Obj := { cls := .type "range", dict := none, data := .fields #[.int a t, .int b u, .int 1 v], slots := #[] }
theorem rangeW2 {prog : Program} {w : World} {A : Around} {E : Value → Shared → Prop} {s : Shared} {h₀ : Heap} {L : Addr} {m : Str → Option Value} {news : List (Addr × Obj)} {a b : Int} {t u : Tok} {Q : Value → Shared → Prop} (F : Fr h₀ L s.heap m) (N : News h₀ L s.heap news)
    (h : ∀ D h' tk t1 t2 t3, Fr h₀ L h' m → News h₀ L h' ((D, rngO2 a b t1 t2 t3) :: news) → (∀ p ∈ news, p.1 < D) → Q (.ref D) { s with heap := h', toks := tk }) : wpAny (model prog w) A (call (.type "range") [.int a t, .int b u]) Q E s :=
  call_range_2 (h _ _ _ _ _ _ (F.push _) (News.push F N _) fun p hp => Heap.lt_size (N p hp).1)
noncomputable def ilM (CT x : Addr) (b tab : Int) (t0 tt : Tok) (tk : Tok) : Str → Option Value := fun y => if y = sx "il" then some (.int 0 tk) else if y = sx "trailing" then some (.int b t0) else if y = sx "count" then some (.ref CT) else if y = sx "tabsize" then some (.int tab tt) else if y = sx "self" then some (.ref x) else none
theorem ilM_eq {CT x : Addr} {b tab : Int} {t0 tt tk : Tok} : ilM CT x b tab t0 tt tk = (fun y => if y = Str.ofString "il" then some (Value.int 0 tk) else if y = Str.ofString "trailing" then some (Value.int b t0) else if y = Str.ofString "count" then some (Value.ref CT) else List.lookup y ([(sx "self", Value.ref x), (sx "tabsize", Value.int tab tt)] : List (Str × Value)).reverse) := by
  have h := congrFun (lookup2 (a := sx "self") (b := sx "tabsize") (x := Value.ref x) (y := Value.int tab tt))
  funext y
  unfold ilM
  rw [h y]
noncomputable def ilAcc (cs : List Int) (tab : Int) : Nat → Int
  | 0 => 0
  | j + 1 => ilAcc cs tab j + Int.fdiv (tab + j) tab * cs.getD (tab + j).toNat 0
noncomputable def ilF (σ : WsSt) (tab : Int) : Int := σ.b + tab * (ilAcc σ.cs tab ((σ.cs.length : Int) - tab).toNat + σ.nt)
theorem rngN (a b : Int) : Builtin.Range.rangeSize a b 1 = ((b - a).toNat : Int) := by
  rw [rangeSize_one]
  split <;> omega
local macro_rules | `(tactic| walk_at "idle") => `(tactic| skip)
local macro_rules | `(tactic| walk_at "call builtin:len") => `(tactic| (k_here; (with_reducible show wpAny _ _ (call (Value.builtin "len") [Value.ref _]) _ _ _); k_dflt (refine lenT (by k_asm) (by k_mem) (by assumption) (by assumption) ?_; intro _ _)))
local macro_rules | `(tactic| walk_at "call builtin:max") => `(tactic| (k_here; (with_reducible show wpAny _ _ (call (Value.builtin "max") [Value.int _ _, Value.int _ _]) _ _ _); k_dflt (refine maxW rfl (by k_asm) (by k_asm) ?_; intro h' t' tk' F' N'; (try k_sweep))))
local macro_rules | `(tactic| walk_at "exec For Name Call cons nil") => `(tactic| (refine wpAny_For ?_ (fun _ => by with_unfolding_all rfl)))
local macro_rules | `(tactic| walk_at "call type:range") => `(tactic| (k_here; k_dflt (refine rangeW2 (by k_asm) (by k_asm) ?_); intro D' h' tk' t1' t2' t3' F' N' l1'; (try k_lt l1'); (try k_sweep)))
theorem c_long {w : World} {mean : ExcName → Option Value} {mg mb : Str → Option Value} {dp un : Nat} {gd : Option (List Code)} {cn : Str} {cs : Scope} {a : Addr} {ccd : Value} {cl : List (Str × Addr)} {outer : List Env} {A₀ : Around} {base h₀ : Heap} {L : Addr} {m : Str → Option Value} {news : List (Addr × Obj)} {s : Shared} {Q E : Value → Shared → Prop} {x : Addr} {σ : WsSt} (B : Below A₀ base outer h₀) (F : Fr h₀ L s.heap m) (X : (KX w.params).In h₀) (N : News h₀ L s.heap news) (T : Top qv (looseW qv looseV) mean mg mb h₀) (hk : cs.kind = .function) (hd : dp + 8 < recursionLimit) (hu : un + 64 < cLine) (hw : WsAt w.params news x σ)
    (hret : CbRet h₀ L m news s Q (fun t => .int (max ((σ.cs.length : Int) - 1) σ.b) t)) :
    wpAny (model pw w) (ktrTop dp un gd cn cs L a ccd cl outer) (call (.ref 144) [.ref x]) Q E s := by
  k_with_none
  w_on
  obtain ⟨dx, NT, CT, cvs, q, ws, t0, t1, t2, t3, t4, t5, t6, t7, t8, ⟨hN, hC, hx, hdx, hints, hlen, hb0, hb1, ht0, ht1⟩⟩ := hw
  have N2 := news_four N hN hC hx hdx
  refine wpAny_call ?_
  clear N
  k_dflt (refine' code_def (binds := [(sx "self", .ref x)]) ?k1 ?k2 ?k3 ?k4 ?k5 ?kA ?kF ?kK ?k6 ?k7 ?k8 ?k9 ?kB ?_ ?c2 ?c3 ?c4 ?c5; (case kA => exact rfl); (case kF => exact rfl); (case kK => assumption); (case k1 => k_asm); (case k2 => k_asm); (case k3 => k_asm); (case k4 => k_asm); (case k5 => k_asm); (case k6 => k_is); (case k7 => k_is); (case k8 => ktr_room); (case k9 => exact BindsTo.of_eq rfl); (case c5 => decide); (case kB => exact locs rfl); (case c2 => exact rfl); (case c3 => exact rfl); (case c4 => exact rfl); k_whole; intro g' L' h' FG' F' N' B' X' T'; (try dsimp only); (try k_fold))
  repeat' (first | (k_unfold; (try dsimp only)) | (k_end; kc_close) | (walk1; (try dsimp only)) | (leave1; walk_say "STEP leave1"; (try dsimp only)) | fail "no step")
  all_goals
    with_reducible rename News _ _ _ _ => N9
    with_reducible rename Fr _ _ _ _ => F9
    exact hret _ _ _ F9 fun p hp => N9 p (.tail _ (.tail _ (.tail _ (.tail _ hp))))
theorem il_body {w : World} {mean : ExcName → Option Value} {mg mb : Str → Option Value} {dp un : Nat} {gd : Option (List Code)} {cn : Str} {cs : Scope} {L₀ a₀ : Addr} {ccd : Value} {cl : List (Str × Addr)} {outer : List Env} {g : Heap} {L : Addr} {rest : List (Addr × Obj)} {s : Shared} {E : Value → Shared → Prop} {Q : Flow → Shared → Prop} {CT : Addr} {cvs : List Value} {ns : List Int} {il i tab : Int} {t1 t2 t3 : Tok} {m₀ : Str → Option Value}
    (X : (KX w.params).In g) (T : Top qv (looseW qv looseV) mean mg mb g) (hd : dp + 8 < recursionLimit) (hu : un + 64 < cLine)
    (F : Fr g L s.heap (fun y => if y = sx "i" then some (.int i t1) else if y = sx "il" then some (.int il t2) else if y = sx "count" then some (.ref CT) else if y = sx "tabsize" then some (.int tab t3) else m₀ y)) (N : News g L s.heap ((CT, tupV cvs) :: rest)) (hi : IntsAre cvs ns) (hl : ns.length ≤ 13) (h0 : 0 ≤ i) (h1 : i < ns.length) (ht : 1 ≤ tab) (ht2 : tab ≤ 13) (hq0 : 0 ≤ Int.fdiv i tab) (hq1 : Int.fdiv i tab ≤ 13)
    (hret : ∀ h' tk m' t, Fr g L h' m' → News g L h' ((CT, tupV cvs) :: rest) → m' (sx "il") = some (.int (il + Int.fdiv i tab * ns.getD i.toNat 0) t) → (∀ z, z ≠ sx "il" → z ≠ sx "i" → m' z = if z = sx "count" then some (.ref CT) else if z = sx "tabsize" then some (.int tab t3) else m₀ z) → Q .next { s with heap := h', toks := tk }) :
    wpAny (model pw w) ((ktrTop dp un gd cn cs L₀ a₀ ccd cl outer).deeper (ilEnv L)) (execs (forB (nth (fdB (mth 3)) 2)) (ilEnv L)) Q E s := by
  k_with_none
  w_on
  repeat' (first | (k_unfold; (try dsimp only)) | (k_end; kc_close) | (walk1; (try dsimp only)) | (leave1; walk_say "STEP leave1"; (try dsimp only)) | fail "no step")
  all_goals
    with_reducible rename News _ _ _ _ => N9
    with_reducible rename Fr _ _ _ _ => F9
    refine hret _ _ _ _ F9 N9 rfl fun z h1 h2 => ?_
    rw [if_neg h1, if_neg h2, if_neg h1]
theorem c_il {w : World} {mean : ExcName → Option Value} {mg mb : Str → Option Value} {dp un : Nat} {gd : Option (List Code)} {cn : Str} {cs : Scope} {a : Addr} {ccd : Value} {cl : List (Str × Addr)} {outer : List Env} {A₀ : Around} {base h₀ : Heap} {L : Addr} {m : Str → Option Value} {news : List (Addr × Obj)} {s : Shared} {Q E : Value → Shared → Prop} {x : Addr} {σ : WsSt} {tab : Int} {tt : Tok} (B : Below A₀ base outer h₀) (F : Fr h₀ L s.heap m) (X : (KX w.params).In h₀) (N : News h₀ L s.heap news) (T : Top qv (looseW qv looseV) mean mg mb h₀) (hk : cs.kind = .function) (hd : dp + 8 < recursionLimit) (hu : un + 64 < cLine) (hw : WsAt w.params news x σ) (ht : 1 ≤ tab) (ht2 : tab ≤ 13)
    (hret : CbRet h₀ L m news s Q (fun t => .int (ilF σ tab) t)) :
    wpAny (model pw w) (ktrTop dp un gd cn cs L a ccd cl outer) (call (.ref 151) [.ref x, .int tab tt]) Q E s := by
  k_with_none
  w_on
  obtain ⟨dx, NT, CT, cvs, q, ws, t0, t1, t2, t3, t4, t5, t6, t7, t8, ⟨hN, hC, hx, hdx, hints, hlen, hb0, hb1, ht0, ht1⟩⟩ := hw
  have N2 := news_four N hN hC hx hdx
  refine wpAny_call ?_
  clear N
  k_dflt (refine' code_def (binds := [(sx "self", .ref x), (sx "tabsize", .int tab tt)]) ?k1 ?k2 ?k3 ?k4 ?k5 ?kA ?kF ?kK ?k6 ?k7 ?k8 ?k9 ?kB ?_ ?c2 ?c3 ?c4 ?c5; (case kA => exact rfl); (case kF => exact rfl); (case kK => assumption); (case k1 => k_asm); (case k2 => k_asm); (case k3 => k_asm); (case k4 => k_asm); (case k5 => k_asm); (case k6 => k_is); (case k7 => k_is); (case k8 => ktr_room); (case k9 => exact BindsTo.of_eq rfl); (case c5 => decide); (case kB => exact locs rfl); (case c2 => exact rfl); (case c3 => exact rfl); (case c4 => exact rfl); k_whole; intro g' L' h' FG' F' N' B' X' T'; (try dsimp only); (try k_fold))
  repeat' (first | (k_unfold; (try dsimp only)) | (k_end; kc_close) | (walk1; (try dsimp only)) | (leave1; walk_say "STEP leave1"; (try dsimp only)) | fail "no step")
  with_reducible rename News _ _ _ _ => N9
  with_reducible rename Fr _ _ _ _ => F9
  rw [← ilM_eq] at F9
  refine range_loop (rest := _) (live := []) (n := ((σ.cs.length : Int) - tab).toNat) rfl rfl rfl (N9 _ (.head _)).1 (small_one (by omega) (by omega) (by omega) (by omega)) (rngN _ _) (fun i m live gens => live = [] ∧ gens = s.gens ∧ (∃ t, m (sx "il") = some (.int (ilAcc σ.cs tab i) t)) ∧ ∀ z, z ≠ sx "il" → z ≠ sx "i" → m z = ilM CT x σ.b tab t0 tt 0 z) F9 N9 ⟨rfl, rfl, ⟨_, rfl⟩, fun z h1 _ => (if_neg h1).trans (if_neg h1).symm⟩ ?_ ?_
  · rintro I i tk m₁ live₁ own s₁ hi ⟨rfl, hg, ⟨ta, hma⟩, hmo⟩ off hown ⟨oI, hI⟩ F₁ N₁ hd1 ho1 E'
    have hidx : (tab + (i : Int)).toNat < σ.cs.length := by omega
    have hmc : m₁ (sx "count") = some (.ref CT) := hmo _ (by decide) (by decide)
    have hmt : m₁ (sx "tabsize") = some (.int tab tt) := hmo _ (by decide) (by decide)
    have F₂ := fr_map F₁ (m' := fun y => if y = sx "i" then some (.int (tab + i) tk) else if y = sx "il" then some (.int (ilAcc σ.cs tab i) ta) else if y = sx "count" then some (.ref CT) else if y = sx "tabsize" then some (.int tab tt) else m₁ y) fun y => by
      by_cases e1 : y = sx "i"
      · rw [if_pos e1, if_pos e1]
      · rw [if_neg e1, if_neg e1]
        by_cases e2 : y = sx "il"
        · rw [if_pos e2, e2, hma]
        · rw [if_neg e2]
          by_cases e3 : y = sx "count"
          · rw [if_pos e3, e3, hmc]
          · rw [if_neg e3]
            by_cases e4 : y = sx "tabsize"
            · rw [if_pos e4, e4, hmt]
            · rw [if_neg e4]
    have N₂ : News g' L' s₁.heap ((CT, tupV cvs) :: (own ++ _)) := fun p hp => by
      rcases List.mem_cons.mp hp with rfl | hp
      · exact N₁ _ (List.mem_append_right own (.tail _ (.tail _ (.head _))))
      · exact N₁ p hp
    have hfd : Int.fdiv (tab + i) tab = (tab + i) / tab := Int.fdiv_eq_ediv_of_nonneg _ (by omega)
    have hq0 : 0 ≤ Int.fdiv (tab + i) tab := by rw [hfd]; exact Int.ediv_nonneg (by omega) (by omega)
    have hq1 : Int.fdiv (tab + i) tab ≤ 13 := by
      rw [hfd]
      exact Int.le_trans (Int.ediv_le_self _ (by omega)) (by omega)
    refine il_body X' T' hd hu F₂ N₂ hints hlen (by omega) (by omega) ht ht2 hq0 hq1 fun h' tk' m' t F' N' hil hoth => ?_
    refine ⟨rfl, hd1, ho1, m', [], F', (fun p hp => N' p (.tail _ hp)), (fun p hp => nomatch hp), rfl, hg, ⟨t, hil⟩, fun z h1 h2 => ?_⟩
    rw [hoth z h1 h2]
    by_cases e3 : z = sx "count"
    · rw [if_pos e3, e3]; rfl
    · rw [if_neg e3]
      by_cases e4 : z = sx "tabsize"
      · rw [if_pos e4, e4]; rfl
      · rw [if_neg e4]; exact hmo z h1 h2
  · rintro m₁ live₁ s₁ ⟨rfl, hg, ⟨ta, hma⟩, hmo⟩ F₁ N₁ hd1 ho1
    rw [shared_eq hg hd1 ho1]
    have F₂ := fr_map F₁ (m' := fun y => if y = sx "il" then some (.int (ilAcc σ.cs tab ((σ.cs.length : Int) - tab).toNat) ta) else if y = sx "i" then m₁ (sx "i") else if y = sx "trailing" then some (.int σ.b t0) else if y = sx "count" then some (.ref CT) else if y = sx "tabsize" then some (.int tab tt) else if y = sx "self" then some (.ref x) else none) fun y => by
      by_cases e1 : y = sx "il"
      · rw [if_pos e1, e1, hma]
      · rw [if_neg e1]
        by_cases e2 : y = sx "i"
        · rw [if_pos e2, e2]
        · rw [if_neg e2, hmo y e1 e2]
          unfold ilM
          rw [if_neg e1]
    clear F₁ F9 N9
    repeat' (first | (k_unfold; (try dsimp only)) | (k_end; kc_close) | (walk1; (try dsimp only)) | (leave1; walk_say "STEP leave1"; (try dsimp only)) | fail "no step")
    all_goals
      with_reducible rename News _ _ _ _ => N9
      with_reducible rename Fr _ _ _ _ => F9
      exact hret _ _ _ F9 fun p hp => N9 p (.tail _ (.tail _ (.tail _ (.tail _ (.tail _ hp)))))
end Mine
end PartW18
section PartW19
open PySem PySem.W PySem.Calls PyProof.Rows
namespace Mine
noncomputable abbrev nwEnv (L : Addr) : Env := envOf (Str.ofString "Whitespace.not_equal_witness") (fdS (mth 5)) L 165 (.ref 164)
set_option maxHeartbeats 8000000
noncomputable abbrev tup3 (a b c : Int) (t u v : Tok) : Obj := { cls := .type "tuple", data := .seq #[.int a t, .int b u, .int c v] }
theorem news_eight {g h : Heap} {L : Addr} {p a b c d e f i j : Addr × Obj} {rest : List (Addr × Obj)} (N : News g L h (p :: a :: b :: c :: d :: e :: f :: i :: j :: rest)) : News g L h (p :: rest) := fun x hx => by
  rcases List.mem_cons.mp hx with rfl | hx
  · exact N _ (.head _)
  · exact N _ (.tail _ (.tail _ (.tail _ (.tail _ (.tail _ (.tail _ (.tail _ (.tail _ (.tail _ hx)))))))))
theorem nw_body {w : World} {mean : ExcName → Option Value} {mg mb : Str → Option Value} {dp un : Nat} {gd : Option (List Code)} {cn : Str} {cs : Scope} {L₀ a₀ : Addr} {ccd : Value} {cl : List (Str × Addr)} {outer : List Env} {base g : Heap} {L : Addr} {rest : List (Addr × Obj)} {s : Shared} {E : Value → Shared → Prop} {Q : Flow → Shared → Prop} {x y AL : Addr} {σ τ : WsSt} {rs : List Value} {ts : Int} {t1 : Tok} {m₀ : Str → Option Value} (B : Below (ktrTop dp un gd cn cs L₀ a₀ ccd cl outer) base (envX cn cs L₀ a₀ ccd cl :: outer) g) (X : (KX w.params).In g) (T : Top qv (looseW qv looseV) mean mg mb g) (hd : dp + 16 < recursionLimit) (hu : un + 128 < cLine)
    (F : Fr g L s.heap (fun z => if z = sx "ts" then some (.int ts t1) else if z = sx "a" then some (.ref AL) else if z = sx "self" then some (.ref x) else if z = sx "other" then some (.ref y) else m₀ z))
    (N : News g L s.heap ((AL, LCg.lst rs) :: rest)) (hap : ∀ p ∈ rest, p.1 ≠ AL) (hx : WsAt w.params rest x σ) (hy : WsAt w.params rest y τ) (h1 : 1 ≤ ts) (h13 : ts ≤ 13) (hrs : rs.length ≤ 100)
    (hskip : ilF σ ts = ilF τ ts → ∀ h' tk, Fr g L h' (fun z => if z = sx "ts" then some (.int ts t1) else if z = sx "a" then some (.ref AL) else if z = sx "self" then some (.ref x) else if z = sx "other" then some (.ref y) else m₀ z) → News g L h' ((AL, LCg.lst rs) :: rest) → Q .next { s with heap := h', toks := tk })
    (happ : ilF σ ts ≠ ilF τ ts → ∀ h' tk T u1 u2 u3, (∀ p ∈ (AL, LCg.lst rs) :: rest, p.1 < T) → Fr g L h' (fun z => if z = sx "ts" then some (.int ts t1) else if z = sx "a" then some (.ref AL) else if z = sx "self" then some (.ref x) else if z = sx "other" then some (.ref y) else m₀ z) → News g L h' ((AL, LCg.lst (rs ++ [.ref T])) :: (T, tup3 ts (ilF σ ts) (ilF τ ts) u1 u2 u3) :: rest) → Q .next { s with heap := h', toks := tk }) :
    wpAny (model pw w) ((ktrTop dp un gd cn cs L₀ a₀ ccd cl outer).deeper (nwEnv L)) (execs (forB (nth (fdB (mth 5)) 2)) (nwEnv L)) Q E s := by
  k_with_none
  w_on
  have hx' : WsAt w.params ((AL, LCg.lst rs) :: rest) x σ := hx.mono fun p hp => .tail _ hp
  have hy' : WsAt w.params ((AL, LCg.lst rs) :: rest) y τ := hy.mono fun p hp => .tail _ hp
  obtain ⟨dx, NT, CT, cvs, q, ws, u0, u1, u2, u3, u4, u5, u6, u7, u8, Hx⟩ := hx
  obtain ⟨dy, NT2, CT2, cvs2, q2, ws2, v0, v1, v2, v3, v4, v5, v6, v7, v8, Hy⟩ := hy
  have N2 := news_four N (.tail _ Hx.hN) (.tail _ Hx.hC) (.tail _ Hx.hx) (.tail _ Hx.hd)
  have N3 := news_four N2 (.tail _ (.tail _ (.tail _ (.tail _ (.tail _ Hy.hN))))) (.tail _ (.tail _ (.tail _ (.tail _ (.tail _ Hy.hC))))) (.tail _ (.tail _ (.tail _ (.tail _ (.tail _ Hy.hx))))) (.tail _ (.tail _ (.tail _ (.tail _ (.tail _ Hy.hd)))))
  clear N N2
  repeat' (first | ((with_reducible show wpAny _ _ (call (Value.ref 151) _) _ _ _); k_dflt (refine c_il (by k_asm) (by k_asm) (by k_asm) (by k_asm) (by k_asm) (by first | exact rfl | assumption) (by ktr_room) (by ktr_units) (by first | assumption | (exact WsAt.mono (by assumption) (fun p hp => by simp [hp]))) (by omega) (by omega) ?_; (dsimp only [CbRet]; intro t9 h9 tk9 F9 N9; (try dsimp only); (try k_fold)))) | (k_unfold; (try dsimp only)) | (k_end; kc_close) | (walk1; (try dsimp only)) | (leave1; walk_say "STEP leave1"; (try dsimp only)) | fail "no step")
  · with_reducible rename News _ _ _ _ => N8
    with_reducible rename Fr _ _ _ _ => F8
    with_reducible rename _ ∧ _ ∧ _ ∧ _ ∧ _ ∧ _ ∧ _ ∧ _ ∧ _ ∧ AllLt _ _ => q8
    obtain ⟨-, -, -, -, -, -, -, -, qa, qr⟩ := q8
    have N4 := news_eight N8
    have lt4 : ∀ p ∈ (AL, LCg.lst rs) :: rest, p.1 < _ := fun p hp => by
      rcases List.mem_cons.mp hp with rfl | hp
      · exact qa
      · exact allLt_mem qr p hp
    refine append_at (hsz := Nat.le_trans (by simpa using hrs) (by decide : 100 ≤ sizeLine)) (News.get N4 (.tail _ (.head _))) fun h5 hs5 hD5 => ?_
    clear N8
    repeat' (first | (k_unfold; (try dsimp only)) | (k_end; kc_close) | (walk1; (try dsimp only)) | (leave1; walk_say "STEP leave1"; (try dsimp only)) | fail "no step")
    exact happ (by assumption) h5 _ _ _ _ _ lt4 (F8.change hs5 (N4 _ (.tail _ (.head _))).2.1 (N4 _ (.tail _ (.head _))).2.2) (news_app N4 lt4 hap hs5 hD5)
  · with_reducible rename News _ _ _ _ => N8
    with_reducible rename Fr _ _ _ _ => F8
    repeat' (first | (k_unfold; (try dsimp only)) | (k_end; kc_close) | (walk1; (try dsimp only)) | (leave1; walk_say "STEP leave1"; (try dsimp only)) | fail "no step")
    exact hskip (by first | assumption | omega) _ _ F8 fun p hp => N8 p (.tail _ (.tail _ (.tail _ (.tail _ (.tail _ (.tail _ (.tail _ (.tail _ hp))))))))
end Mine
end PartW19
section PartW20
open PySem PySem.W PySem.Calls PyProof.Rows
namespace Mine
set_option maxHeartbeats 8000000
inductive TripRs : List Value → List (Addr × Obj) → List (Int × Int × Int) → Prop
  | nil : TripRs [] [] []
  | snoc {rs tl rows T a b c t u v} : TripRs rs tl rows → TripRs (rs ++ [.ref T]) ((T, tup3 a b c t u v) :: tl) (rows ++ [(a, b, c)])
theorem TripRs.len {rs tl rows} (h : TripRs rs tl rows) : rs.length = rows.length := by
  induction h with
  | nil => rfl
  | snoc _ ih => simp [ih]
noncomputable def witRows (σ τ : WsSt) : Nat → List (Int × Int × Int)
  | 0 => []
  | j + 1 => witRows σ τ j ++ (if ilF σ (1 + (j : Int)) = ilF τ (1 + (j : Int)) then [] else [(1 + (j : Int), ilF σ (1 + (j : Int)), ilF τ (1 + (j : Int)))])
theorem witRows_len (σ τ : WsSt) : ∀ j, (witRows σ τ j).length ≤ j
  | 0 => Nat.le_refl _
  | j + 1 => by
    have := witRows_len σ τ j
    unfold witRows
    rw [List.length_append]
    split <;> simp <;> omega
noncomputable def witN (σ τ : WsSt) : Int := max (max ((σ.cs.length : Int) - 1) σ.b) (max ((τ.cs.length : Int) - 1) τ.b) + 1
noncomputable def witF (σ τ : WsSt) : List (Int × Int × Int) := witRows σ τ (witN σ τ).toNat
noncomputable def nwJ (s₀ : Shared) (x y AL : Addr) (σ τ : WsSt) (i : Nat) (m : Str → Option Value) (live : List (Addr × Obj)) (gens : Array GenState) : Prop :=
  gens = s₀.gens ∧ ∃ rs tl, live = (AL, LCg.lst rs) :: tl ∧ TripRs rs tl (witRows σ τ i) ∧ m (sx "a") = some (.ref AL) ∧ m (sx "self") = some (.ref x) ∧ m (sx "other") = some (.ref y) ∧ ∀ p ∈ tl, AL < p.1
local macro_rules | `(tactic| walk_at "idle") => `(tactic| skip)
local macro_rules | `(tactic| walk_at "idle") => `(tactic| skip)
local macro_rules | `(tactic| walk_at "idle") => `(tactic| skip)
local macro_rules | `(tactic| walk_at "idle") => `(tactic| skip)
local macro_rules | `(tactic| walk_at "idle") => `(tactic| skip)
local macro_rules | `(tactic| walk_at "call builtin:max") => `(tactic| (k_here; (with_reducible show wpAny _ _ (call (Value.builtin "max") [Value.int _ _, Value.int _ _]) _ _ _); k_dflt (refine maxW rfl (by k_asm) (by k_asm) ?_; intro h' t' tk' F' N'; (try k_sweep))))
local macro_rules | `(tactic| walk_at "exec For Name Call cons nil") => `(tactic| (refine wpAny_For ?_ (fun _ => by with_unfolding_all rfl)))
local macro_rules | `(tactic| walk_at "call type:range") => `(tactic| (k_here; k_dflt (refine rangeW2 (by k_asm) (by k_asm) ?_); intro D' h' tk' t1' t2' t3' F' N' l1'; (try k_lt l1'); (try k_sweep)))
theorem c_nw {w : World} {mean : ExcName → Option Value} {mg mb : Str → Option Value} {dp un : Nat} {gd : Option (List Code)} {cn : Str} {cs : Scope} {a : Addr} {ccd : Value} {cl : List (Str × Addr)} {outer : List Env} {A₀ : Around} {base h₀ : Heap} {L : Addr} {m : Str → Option Value} {news : List (Addr × Obj)} {s : Shared} {Q E : Value → Shared → Prop} {x y : Addr} {σ τ : WsSt} (B : Below A₀ base outer h₀) (F : Fr h₀ L s.heap m) (X : (KX w.params).In h₀) (N : News h₀ L s.heap news) (T : Top qv (looseW qv looseV) mean mg mb h₀) (hk : cs.kind = .function) (hd : dp + 16 < recursionLimit) (hu : un + 128 < cLine) (hx : WsAt w.params news x σ) (hy : WsAt w.params news y τ)
    (hret : ∀ h' tk AL rs tl, Fr h₀ L h' m → News h₀ L h' ((AL, LCg.lst rs) :: (tl ++ news)) → TripRs rs tl (witF σ τ) → (∀ p ∈ news, p.1 < AL) → Q (.ref AL) { s with heap := h', toks := tk }) :
    wpAny (model pw w) (ktrTop dp un gd cn cs L a ccd cl outer) (call (.ref 165) [.ref x, .ref y]) Q E s := by
  k_with_none
  w_on
  have hx0 := hx
  have hy0 := hy
  obtain ⟨dx, NT, CT, cvs, q, ws, u0, u1, u2, u3, u4, u5, u6, u7, u8, Hx⟩ := hx
  obtain ⟨dy, NT2, CT2, cvs2, q2, ws2, v0, v1, v2, v3, v4, v5, v6, v7, v8, Hy⟩ := hy
  have N2 := news_four N Hx.hN Hx.hC Hx.hx Hx.hd
  have N3 := news_four N2 (.tail _ (.tail _ (.tail _ (.tail _ Hy.hN)))) (.tail _ (.tail _ (.tail _ (.tail _ Hy.hC)))) (.tail _ (.tail _ (.tail _ (.tail _ Hy.hx)))) (.tail _ (.tail _ (.tail _ (.tail _ Hy.hd))))
  refine wpAny_call ?_
  clear N N2
  k_dflt (refine' code_def (binds := [(sx "self", .ref x), (sx "other", .ref y)]) ?k1 ?k2 ?k3 ?k4 ?k5 ?kA ?kF ?kK ?k6 ?k7 ?k8 ?k9 ?kB ?_ ?c2 ?c3 ?c4 ?c5; (case kA => exact rfl); (case kF => exact rfl); (case kK => assumption); (case k1 => k_asm); (case k2 => k_asm); (case k3 => k_asm); (case k4 => k_asm); (case k5 => k_asm); (case k6 => k_is); (case k7 => k_is); (case k8 => ktr_room); (case k9 => exact BindsTo.of_eq rfl); (case c5 => decide); (case kB => exact locs rfl); (case c2 => exact rfl); (case c3 => exact rfl); (case c4 => exact rfl); k_whole; intro g' L' h' FG' F' N' B' X' T'; (try dsimp only); (try k_fold))
  repeat' (first | ((with_reducible show wpAny _ _ (call (Value.ref 144) _) _ _ _); k_dflt (refine c_long (by k_asm) (by k_asm) (by k_asm) (by k_asm) (by k_asm) (by first | exact rfl | assumption) (by ktr_room) (by ktr_units) (by first | assumption | (exact WsAt.mono (by assumption) (fun p hp => by simp [hp]))) ?_; (dsimp only [CbRet]; intro t9 h9 tk9 F9 N9; (try dsimp only); (try k_fold)))) | (k_unfold; (try dsimp only)) | (k_end; kc_close) | (walk1; (try dsimp only)) | (leave1; walk_say "STEP leave1"; (try dsimp only)) | fail "no step")
  with_reducible rename News _ _ _ _ => N9
  with_reducible rename Fr _ _ _ _ => F9
  with_reducible rename _ ∧ _ ∧ _ ∧ _ ∧ _ ∧ _ ∧ _ ∧ _ ∧ AllLt _ _ => q9
  obtain ⟨-, -, -, -, -, -, -, -, qr⟩ := q9
  have hAL := allLt_mem qr
  have N10 : News g' L' _ ([(_, LCg.lst [])] ++ news) := fun p hp => by
    rcases List.mem_cons.mp hp with rfl | hp
    · exact N9 _ (.tail _ (.head _))
    · exact N9 _ (.tail _ (.tail _ (.tail _ (.tail _ (.tail _ (.tail _ (.tail _ (.tail _ (.tail _ (.tail _ hp))))))))))
  have hwn : 1 ≤ witN σ τ ∧ witN σ τ ≤ 13 := by
    have a1 := Hx.len; have a2 := Hx.b0; have a3 := Hx.b1
    have b1 := Hy.len; have b2 := Hy.b0; have b3 := Hy.b1
    unfold witN; omega
  have hrn : Builtin.Range.rangeSize 1 (witN σ τ + 1) 1 = ((witN σ τ).toNat : Int) := by
    rw [rngN]; congr 2; omega
  refine range_loop (rest := news) (live := [(_, LCg.lst [])]) (n := (witN σ τ).toNat) rfl rfl rfl (N9 _ (.head _)).1 (small_one (by omega) (by omega) (by have := hwn; unfold witN at this; omega) (by have := hwn; unfold witN at this; omega)) hrn (nwJ s x y _ σ τ) F9 N10 ⟨rfl, [], [], rfl, .nil, rfl, rfl, rfl, fun p hp => nomatch hp⟩ ?_ ?_
  · rintro I i tk m₁ live₁ own s₁ hi ⟨hg, rs, tl, rfl, hrel, hma, hms, hmo, htl⟩ off hown ⟨oI, hI⟩ F₁ N₁ hd1 ho1 E'
    have hALI := off _ (.head _)
    have F₂ := fr_map F₁ (m' := fun z => if z = sx "ts" then some (.int (1 + i) tk) else if z = sx "a" then some (.ref _) else if z = sx "self" then some (.ref x) else if z = sx "other" then some (.ref y) else m₁ z) fun z => by
      by_cases e1 : z = sx "ts"
      · rw [if_pos e1, if_pos e1]
      · rw [if_neg e1, if_neg e1]
        by_cases e2 : z = sx "a"
        · rw [if_pos e2, e2, hma]
        · rw [if_neg e2]
          by_cases e3 : z = sx "self"
          · rw [if_pos e3, e3, hms]
          · rw [if_neg e3]
            by_cases e4 : z = sx "other"
            · rw [if_pos e4, e4, hmo]
            · rw [if_neg e4]
    have N₂ : News g' L' s₁.heap ((_, LCg.lst rs) :: (tl ++ (own ++ news))) := fun p hp => N₁ p (by simpa [List.append_assoc] using hp)
    have hap : ∀ p ∈ tl ++ (own ++ news), p.1 ≠ _ := fun p hp => by
      rcases List.mem_append.mp hp with hp | hp
      · exact Nat.ne_of_gt (htl p hp)
      · rcases List.mem_append.mp hp with hp | hp
        · rw [hown p hp]; exact hALI.symm
        · exact Nat.ne_of_lt (hAL p hp)
    have sub : ∀ p ∈ news, p ∈ tl ++ (own ++ news) := fun p hp => List.mem_append_right _ (List.mem_append_right _ hp)
    have hlen := witRows_len σ τ i
    have hrl := hrel.len
    refine nw_body (ts := 1 + i) B' X' T' hd hu F₂ N₂ hap (hx0.mono sub) (hy0.mono sub) (by omega) (by omega) (by omega) ?_ ?_
    · intro he h' tk' F' N'
      refine ⟨rfl, hd1, ho1, _, (_, LCg.lst rs) :: tl, F', (fun p hp => N' p (by simpa [List.append_assoc] using hp)), (fun p hp => off p (List.mem_append_left _ hp)), hg, rs, tl, rfl, ?_, rfl, rfl, rfl, htl⟩
      unfold witRows
      rw [if_pos he, List.append_nil]
      exact hrel
    · intro he h' tk' TT u1 u2 u3 lt F' N'
      refine ⟨rfl, hd1, ho1, _, (_, LCg.lst (rs ++ [.ref TT])) :: (TT, tup3 (1 + i) (ilF σ (1 + i)) (ilF τ (1 + i)) u1 u2 u3) :: tl, F', (fun p hp => N' p (by simpa [List.append_assoc] using hp)), (fun p hp => ?_), hg, rs ++ [.ref TT], (TT, tup3 (1 + i) (ilF σ (1 + i)) (ilF τ (1 + i)) u1 u2 u3) :: tl, rfl, ?_, rfl, rfl, rfl, ?_⟩
      · rcases List.mem_cons.mp hp with rfl | hp
        · exact hALI
        · rcases List.mem_cons.mp hp with rfl | hp
          · exact Nat.ne_of_gt (lt _ (.tail _ (List.mem_append_right _ (List.mem_append_left _ hI))))
          · exact off p (List.mem_append_left _ (.tail _ hp))
      · unfold witRows
        rw [if_neg he]
        exact .snoc hrel
      · intro p hp
        rcases List.mem_cons.mp hp with rfl | hp
        · exact lt _ (.head _)
        · exact htl p hp
  · rintro m₁ live₁ s₁ ⟨hg, rs, tl, rfl, hrel, hma, hms, hmo, htl⟩ F₁ N₁ hd1 ho1
    rw [shared_eq hg hd1 ho1]
    have F₂ : Fr g' L' s₁.heap (fun z => if z = sx "a" then some (.ref _) else m₁ z) := fr_map F₁ fun z => congrFun (map_at hma) z
    clear F₁ F9 N9 N10
    repeat' (first | (k_unfold; (try dsimp only)) | (k_end; kc_close) | (walk1; (try dsimp only)) | (leave1; walk_say "STEP leave1"; (try dsimp only)) | fail "no step")
    all_goals
      with_reducible rename News _ _ _ _ => N9
      with_reducible rename Fr _ _ _ _ => F9
      exact hret _ _ _ _ _ F9 N9 hrel hAL
end Mine
end PartW20
section PartW21
open PySem PySem.W PySem.Calls PyProof.Rows
namespace Mine
noncomputable abbrev dEnv (L : Addr) : Env := envOfC (Str.ofString "_law_due") (fdS (stm 22)) L 224 (.ref 223)
set_option maxHeartbeats 8000000
theorem WalkRs.last {rs tl rows mk tot} (h : WalkRs rs tl (rows ++ [(mk, tot)])) : ∃ rs' T t u tl', rs = rs' ++ [.ref T] ∧ tl = (T, tupO mk tot t u) :: tl' := by
  generalize e : rows ++ [(mk, tot)] = r at h
  cases h with
  | nil => simp at e
  | snoc h' =>
    have q := List.append_inj_right' e rfl
    simp at q
    obtain ⟨rfl, rfl⟩ := q
    exact ⟨_, _, _, _, _, rfl, rfl⟩
noncomputable def apartF (tab : Int) (ns : List Int) : Int := totAt tab ns ((ns.length : Int) / tab).toNat
noncomputable def bothF (tab : Int) (ns : List Int) : Int := 2 * (ns.length : Int) + (List.map (fun (i : Nat) => Int.fdiv (0 + (i : Int)) tab + Int.fdiv (0 + (i : Int) + 1) tab) (List.range ns.length)).sum
structure DueM (m : Str → Option Value) (ns : List Int) (RL W : Addr) : Prop where
  size : ∃ t, m (sx "size") = some (.int (ns.length : Int) t)
  rows : m (sx "rows") = some (.ref RL)
  worths : m (sx "worths") = some (.ref W)
theorem ints_snoc {k : Int} {t : Tok} : ∀ {vs : List Value} {ns : List Int}, IntsAre vs ns → IntsAre (vs ++ [.int k t]) (ns ++ [k])
  | _, _, .nil => .cons k t .nil
  | _, _, .cons n u r => .cons n u (ints_snoc r)
theorem rest_ints {prog : Program} {w : World} {A : Around} {h₀ : Heap} {L : Addr} {m : Str → Option Value} {env : Env} {elt : PySem.Expr} {x : Str} {scope : Scope} {cl : List (Str × Addr)} {s : Shared} {S : List (Addr × Obj) → Prop} {Fin : List Value → List (Addr × Obj) → Prop} {news : List (Addr × Obj)} {n : Nat}
    (a : Int) (f : Nat → Int)
    (turn : ∀ i t I oI C oC D m₂ ys h tk (E' : Value → Shared → Prop), i < n → LCg.NsObj oC m₂ → m₂ x = some (.int (a + (i : Int)) t) → Fr h₀ L h m → News h₀ L h ((I, oI) :: (C, oC) :: (D, LCg.lst ys) :: news) → LCg.Off3 I C D news → ((@Ne Nat I C) ∧ (@Ne Nat I D) ∧ (@Ne Nat C D)) →
      wpAny (model prog w) A (eval elt (compEnvC scope cl C env)) (LCg.CompEnd h₀ L m { s with heap := h, toks := tk } I oI C oC D (LCg.lst ys) S (fun y news' => news' = news ∧ ∃ t : Tok, y = .int (f i) t)) E' { s with heap := h, toks := tk })
    (fin : ∀ ys, IntsAre ys ((List.range n).map f) → Fin ys news) : LCg.CompRest prog w A h₀ L m env elt x scope cl s S (fun i v => ∃ t, v = .int (a + (i : Int)) t) Fin n 0 [] news := by
  have key : ∀ (j i : Nat) (ys : List Value), i + j = n → IntsAre ys ((List.range i).map f) → LCg.CompRest prog w A h₀ L m env elt x scope cl s S (fun i v => ∃ t, v = .int (a + (i : Int)) t) Fin j i ys news := by
    intro j
    induction j with
    | zero =>
      intro i ys hi hy
      obtain rfl : i = n := by omega
      exact LCg.CompRest.zero (fin ys hy)
    | succ j ih =>
      intro i ys hi hy
      refine LCg.CompRest.succ ?_
      intro v I oI C oC D m₂ h tk E' hv hC hx F N off ne
      obtain ⟨t, rfl⟩ := hv
      refine wpAny_mono (turn i t I oI C oC D m₂ ys h tk E' (by omega) hC hx F N off ne) (fun y s₂ hq => ?_) fun _ _ e => e
      obtain ⟨h', tk', nw, e', F', N', off', hS, rfl, t', rfl⟩ := hq
      refine ⟨h', tk', nw, e', F', N', off', hS, ih (i + 1) _ (by omega) ?_⟩
      rw [List.range_succ, List.map_append]
      exact ints_snoc hy
  exact key n 0 [] (by omega) .nil
theorem lastW {prog : Program} {w : World} {A : Around} {E : Value → Shared → Prop} {s : Shared} {h₀ : Heap} {L W : Addr} {news : List (Addr × Obj)} {vs : List Value} {x : Value} {value slice : PySem.Expr} {u : Tok} {Q : Value → Shared → Prop} (N : News h₀ L s.heap news) (hm : (W, LCg.lst (vs ++ [x])) ∈ news)
    (h : Q x s) (hs : subscripted slice false (.ref W) (.int (-1) u) = operate [.ref W, .int (-1) u] (getItem (.ref W) (.int (-1) u)) := by with_unfolding_all rfl) : wpAny (model prog w) A (subscriptTail value slice (.ref W) (.int (-1) u)) Q E s := by
  have hL : s.heap.IsList W (vs ++ [x]).toArray := ⟨_, (N _ hm).1, rfl, _, rfl⟩
  refine tail_any hL.typeIs slot_list_getitem.lookup (wpAny_getItem_list_neg hL (by decide) (by simp; omega) (by decide) (x := x) ?_ h) hs
  have e : ((-1 : Int) + ((vs ++ [x]).toArray.size : Int)).toNat = vs.length := by simp; omega
  rw [e]
  simp
theorem itemTup {prog : Program} {w : World} {A : Around} {E : Value → Shared → Prop} {s : Shared} {h₀ : Heap} {L W : Addr} {news : List (Addr × Obj)} {a b : Int} {t v : Tok} {value slice : PySem.Expr} {u : Tok} {Q : Value → Shared → Prop} (N : News h₀ L s.heap news) (hm : (W, tupO a b t v) ∈ news)
    (h : Q (.int b v) s) (hs : subscripted slice false (.ref W) (.int 1 u) = operate [.ref W, .int 1 u] (getItem (.ref W) (.int 1 u)) := by with_unfolding_all rfl) : wpAny (model prog w) A (subscriptTail value slice (.ref W) (.int 1 u)) Q E s :=
  item_tupleT (l := [.int a t, .int b v]) (j := 1) (x := .int b v) ⟨_, (N _ hm).1, rfl, _, rfl⟩ (by decide) (by decide) rfl rfl h hs
local macro_rules | `(tactic| walk_at "call type:range") => `(tactic| (k_here; k_dflt (refine rangeW (by k_asm) (by k_asm) ?_); intro D' h' tk' t1' t2' t3' F' N' l1'; (try k_lt l1'); (try k_sweep)))
theorem due_body {w : World} {mean : ExcName → Option Value} {mg mb : Str → Option Value} {dp un : Nat} {gd : Option (List Code)} {cn : Str} {cs : Scope} {L₀ a₀ : Addr} {ccd : Value} {cl : List (Str × Addr)} {outer : List Env} {base g : Heap} {L : Addr} {rest : List (Addr × Obj)} {s : Shared} {E : Value → Shared → Prop} {Q : Flow → Shared → Prop} {W RL : Addr} {vs rs0 : List Value} {ns : List Int} {tab : Int} {wn : Nat} {t1 t2 : Tok} {m₀ : Str → Option Value} (B : Below (ktrTop dp un gd cn cs L₀ a₀ ccd cl outer) base (envX cn cs L₀ a₀ ccd cl :: outer) g) (X : (KX w.params).In g) (T : Top qv (looseW qv looseV) mean mg mb g) (hd : dp + 16 < recursionLimit) (hu : un + 128 < cLine)
    (F : Fr g L s.heap (fun z => if z = sx "size" then some (.int (ns.length : Int) t2) else if z = sx "rows" then some (.ref RL) else if z = sx "worths" then some (.ref W) else m₀ z))
    {oc : Obj} (hoc : oc.data = .cell (some (.int tab t1))) (N : News g L s.heap ((RL, LCg.lst rs0) :: (L + 1, oc) :: rest)) (hap : ∀ p ∈ rest, p.1 ≠ RL) (hbare : AllBare s.gens) (hW : (W, PySem.W.listOf vs.toArray wn) ∈ rest) (hi : IntsAre vs ns) (hl : vs.length ≤ 12) (hlen : ns.length = vs.length) (hns : ∀ x ∈ ns, -1 ≤ x ∧ x ≤ 1) (h1 : 1 ≤ tab) (h12 : tab ≤ (ns.length : Int)) (hrs : rs0.length ≤ 100) (hLR : L + 1 ≠ RL)
    (hskip : apartF tab ns = 0 → ∀ s₂ m', Fr g L s₂.heap m' → News g L s₂.heap ((RL, LCg.lst rs0) :: (L + 1, oc) :: rest) → AllBare s₂.gens → s₂.drawn = s.drawn → s₂.os = s.os → DueM m' ns RL W → Q .next s₂)
    (happ : apartF tab ns ≠ 0 → ∀ s₂ m' TT u1 u2 u3, (∀ p ∈ (RL, LCg.lst rs0) :: (L + 1, oc) :: rest, p.1 < TT) → Fr g L s₂.heap m' → News g L s₂.heap ((RL, LCg.lst (rs0 ++ [.ref TT])) :: (TT, tup3 tab (1 + tab * Int.fdiv (bothF tab ns + apartF tab ns) 2) (1 + tab * Int.fdiv (bothF tab ns - apartF tab ns) 2) u1 u2 u3) :: (L + 1, oc) :: rest) → AllBare s₂.gens → s₂.drawn = s.drawn → s₂.os = s.os → DueM m' ns RL W → Q .next s₂) :
    wpAny (model pw w) ((ktrTop dp un gd cn cs L₀ a₀ ccd cl outer).deeper (dEnv L)) (execs (forB (nth (fdB (stm 22)) 1)) (dEnv L)) Q E s := by
  k_with_none
  w_on
  repeat' (first | (k_unfold; (try dsimp only)) | (k_end; kc_close) | (walk1; (try dsimp only)) | (leave1; walk_say "STEP leave1"; (try dsimp only)) | fail "no step")
  refine c_walk (wn := wn) (vs := vs) (ns := ns) (by k_asm) (by k_asm) (by k_asm) (by k_asm) (by k_asm) (by first | exact rfl | assumption) (by ktr_room) (by ktr_units) hbare (.tail _ (.tail _ hW)) hi hl hlen hns h1 (by omega) fun s' FD rs tl F' N' rel hlt htl hb hdr hos => ?_
  rw [rowsK_succ] at rel
  obtain ⟨rs', TT, tt, tu, tl', rfl, rfl⟩ := rel.last
  have N7 : News g L s'.heap ((FD, LCg.lst (rs' ++ [.ref TT])) :: (TT, tupO _ _ tt tu) :: (RL, LCg.lst rs0) :: (L + 1, oc) :: (tl' ++ rest)) := fun p hp => by
    rcases List.mem_cons.mp hp with rfl | hp
    · exact N' _ (.head _)
    · rcases List.mem_cons.mp hp with rfl | hp
      · exact N' _ (.tail _ (.head _))
      · rcases List.mem_cons.mp hp with rfl | hp
        · exact N' _ (.tail _ (List.mem_append_right (_ :: tl') (.head _)))
        · rcases List.mem_cons.mp hp with rfl | hp
          · exact N' _ (.tail _ (List.mem_append_right (_ :: tl') (.tail _ (.head _))))
          · rcases List.mem_append.mp hp with hp | hp
            · exact N' _ (.tail _ (.tail _ (List.mem_append_left _ hp)))
            · exact N' _ (.tail _ (List.mem_append_right (_ :: tl') (.tail _ (.tail _ hp))))
  have hap1 : ∀ p ∈ tl' ++ rest, p.1 ≠ RL := fun p hp => by
    rcases List.mem_append.mp hp with hp | hp
    · exact Nat.ne_of_gt (Nat.lt_trans (hlt _ (.head _)) (htl p (.tail _ hp)))
    · exact hap p hp
  have sub1 : ∀ p ∈ rest, p ∈ tl' ++ rest := fun p hp => List.mem_append_right _ hp
  clear N' rel htl
  generalize tl' ++ rest = rest1 at *
  repeat' (first | (k_unfold; (try dsimp only)) | (k_end; kc_close) | (walk1; (try dsimp only)) | (leave1; walk_say "STEP leave1"; (try dsimp only)) | fail "no step")
  refine lastW N7 (.head _) ?_
  repeat' (first | (k_unfold; (try dsimp only)) | (k_end; kc_close) | (walk1; (try dsimp only)) | (leave1; walk_say "STEP leave1"; (try dsimp only)) | fail "no step")
  with_reducible rename News _ _ _ _ => N5
  with_reducible rename Fr _ _ _ _ => F5
  with_reducible refine' LCg.CompSrc.range (n := ns.length) ?hh ?F ?N ?hr ?hsm ?hn ?hsz ?_
  case F => exact F5
  case N => exact N5
  case hr => exact (N5 _ (.head _)).1
  case hh => rfl
  case hsm => exact small_one (by decide) (by decide) (by omega) (by omega)
  case hn => rw [rngN]; omega
  case hsz => exact Nat.le_trans (show ns.length ≤ 12 by omega) (by decide)
  intro gg
  refine rest_ints (a := 0) (fun i => Int.fdiv (0 + (i : Int)) tab + Int.fdiv (0 + (i : Int) + 1) tab) (fun i t I oI C oC D m₂ ys h tk E' hin hC hx2 F2 N2 off ne => ?_) (fun ys hy => ?_)
  · dsimp only
    k_fold
    clear hlt hb hdr hos hns hbare hap
    repeat' (first | (k_unfold; (try dsimp only)) | (k_end; kc_close) | (walk1; (try dsimp only)) | (leave1; walk_say "STEP leave1"; (try dsimp only)) | fail "no step")
    all_goals exact LCg.CompEnd.intro (by assumption) (by assumption) _ (fun p hp => hp) off trivial ⟨rfl, _, rfl⟩
  · unfold LCg.FinE
    intro D h tk F2 N2 o1
    clear hap hns
    repeat' (first | (k_unfold; (try dsimp only)) | (k_end; kc_close) | (walk1; (try dsimp only)) | (leave1; walk_say "STEP leave1"; (try dsimp only)) | fail "no step")
    · with_reducible rename News _ _ _ _ => N8
      with_reducible rename Fr _ _ _ _ => F8
      with_reducible rename _ ∧ _ ∧ _ ∧ _ ∧ _ ∧ _ ∧ AllLt _ _ => q8
      have lt4 : ∀ p ∈ (RL, LCg.lst rs0) :: (L + 1, oc) :: rest, p.1 < _ := fun p hp => by
        rcases List.mem_cons.mp hp with rfl | hp
        · exact q8.2.2.2.2.1
        · rcases List.mem_cons.mp hp with rfl | hp
          · exact q8.2.2.2.2.2.1
          · exact allLt_mem q8.2.2.2.2.2.2 p (sub1 p hp)
      have N4 : News g L _ ((_, tup3 tab _ _ _ _ _) :: (RL, LCg.lst rs0) :: (L + 1, oc) :: rest) := fun p hp => by
        rcases List.mem_cons.mp hp with rfl | hp
        · exact N8 _ (.head _)
        · rcases List.mem_cons.mp hp with rfl | hp
          · exact N8 _ (.tail _ (.tail _ (.tail _ (.tail _ (.tail _ (.head _))))))
          · rcases List.mem_cons.mp hp with rfl | hp
            · exact N8 _ (.tail _ (.tail _ (.tail _ (.tail _ (.tail _ (.tail _ (.head _)))))))
            · exact N8 _ (.tail _ (.tail _ (.tail _ (.tail _ (.tail _ (.tail _ (.tail _ (sub1 p hp))))))))
      refine append_at (hsz := Nat.le_trans (by simpa using hrs) (by decide : 100 ≤ sizeLine)) (News.get N4 (.tail _ (.head _))) fun h5 hs5 hD5 => ?_
      have hapR : ∀ p ∈ (L + 1, oc) :: rest, p.1 ≠ RL := fun p hp => by
        rcases List.mem_cons.mp hp with rfl | hp
        · exact hLR
        · exact hap1 p (sub1 p hp)
      have NF := news_app N4 lt4 hapR hs5 hD5
      have FF := F8.change hs5 (N4 _ (.tail _ (.head _))).2.1 (N4 _ (.tail _ (.head _))).2.2
      clear N8 N4 F8
      repeat' (first | (k_unfold; (try dsimp only)) | (k_end; kc_close) | (walk1; (try dsimp only)) | (leave1; walk_say "STEP leave1"; (try dsimp only)) | fail "no step")
      exact happ (by assumption) _ _ _ _ _ _ lt4 FF NF hb hdr hos ⟨⟨_, rfl⟩, rfl, rfl⟩
    · with_reducible rename News _ _ _ _ => N8
      with_reducible rename Fr _ _ _ _ => F8
      have N4 : News g L _ ((RL, LCg.lst rs0) :: (L + 1, oc) :: rest) := fun p hp => by
        rcases List.mem_cons.mp hp with rfl | hp
        · exact N8 _ (.tail _ (.tail _ (.tail _ (.tail _ (.head _)))))
        · rcases List.mem_cons.mp hp with rfl | hp
          · exact N8 _ (.tail _ (.tail _ (.tail _ (.tail _ (.tail _ (.head _))))))
          · exact N8 _ (.tail _ (.tail _ (.tail _ (.tail _ (.tail _ (.tail _ (sub1 p hp)))))))
      exact hskip (by assumption) _ _ F8 N4 hb hdr hos ⟨⟨_, rfl⟩, rfl, rfl⟩
end Mine
end PartW21
section PartV16
open PySem PySem.W PySem.Calls PyProof.Rows PySem.Spec
namespace Mine
section
variable {prog : Program} {w : World} {A : Around} {E : Value → Shared → Prop} {s : Shared} {g : Heap} {env : Env} {m : Str → Option Value} {live rest : List (Addr × Obj)} {R : Result → Shared → Prop} {body : List Stmt} {y : Str} {py : Pos}
structure CellIn (g : Heap) (L I c : Addr) (rest : List (Addr × Obj)) (J : Nat → (Str → Option Value) → List (Addr × Obj) → Array GenState → Prop) (St : Nat → Heap → Prop) (s₀ : Shared) (i : Nat) (m : Str → Option Value) (live : List (Addr × Obj)) (oc : Obj) (s : Shared) : Prop where
  st : St i s.heap
  F : Fr g L s.heap m
  cell : ∃ v, oc.data = .cell v
  N : News g L s.heap ((c, oc) :: (live ++ rest))
  off : ∀ p ∈ live ++ rest, p.1 ≠ I ∧ p.1 ≠ c
  J : J i m live s.gens
  drawn : s.drawn = s₀.drawn
  os : s.os = s₀.os
theorem loop_cell {I c : Addr} {n : Nat} {P : Nat → Value → Prop} {St : Nat → Heap → Prop} (W : Walks prog w A I [I] [I] n P St) (hk : env.scope.kind = .function) (hx : env.kindOf y = some .cell) (hc : env.cells.lookup y = some c)
    (hex : ∀ i h, St i h → ∃ o, h.get? I = some o) (hI : env.locals ≠ I) (hgI : g.get? I = none) (hIc : I ≠ c)
    (J : Nat → (Str → Option Value) → List (Addr × Obj) → Array GenState → Prop) {oc : Obj} (st : St 0 s.heap) (F : Fr g env.locals s.heap m) (hoc : ∃ v, oc.data = .cell v) (N : News g env.locals s.heap ((c, oc) :: (live ++ rest))) (off : ∀ p ∈ live ++ rest, p.1 ≠ I ∧ p.1 ≠ c) (hJ : J 0 m live s.gens)
    (step : ∀ i v m₁ live₁ own oc s₁, i < n → P i v → J i m₁ live₁ s₁.gens → (∀ p ∈ live₁ ++ rest, p.1 ≠ I ∧ p.1 ≠ c) → (∀ p ∈ own, p.1 = I) → (∃ o, (I, o) ∈ own) → oc.data = .cell (some v) → Fr g env.locals s₁.heap m₁ → News g env.locals s₁.heap ((c, oc) :: (live₁ ++ (own ++ rest))) →
      s₁.drawn = s.drawn → s₁.os = s.os → ∀ E', wpAny (model prog w) A (execs body env) (fun f s₂ => f = .next ∧ s₂.drawn = s.drawn ∧ s₂.os = s.os ∧ ∃ m₂ live₂, Fr g env.locals s₂.heap m₂ ∧ News g env.locals s₂.heap ((c, oc) :: (live₂ ++ (own ++ rest))) ∧ (∀ p ∈ live₂, p.1 ≠ I ∧ p.1 ≠ c) ∧ J (i + 1) m₂ live₂ s₂.gens) E' s₁)
    (done : ∀ m₁ live₁ oc s₁, J n m₁ live₁ s₁.gens → Fr g env.locals s₁.heap m₁ → News g env.locals s₁.heap ((c, oc) :: (live₁ ++ rest)) → s₁.drawn = s.drawn → s₁.os = s.os → R (.ok .next) s₁) :
    codeAny (model prog w) A (.forLoop (.Name y py) (.ref I) body [] env) R s := by
  refine codeAny_forLoop_any (fun k s' => ∃ i m₁ live₁ oc, k = n - i ∧ i ≤ n ∧ CellIn g env.locals I c rest J St s i m₁ live₁ oc s') ?_ n ⟨0, m, live, oc, rfl, Nat.zero_le _, st, F, hoc, N, off, hJ, rfl, rfl⟩
  rintro k s' ⟨i, m₁, live₁, oc, rfl, hi, H⟩
  have hcL : c ≠ env.locals := (H.N _ (.head _)).2.1
  have hcg : g.get? c = none := (H.N _ (.head _)).2.2
  have fr : ∀ {h h' : Heap} {m : Str → Option Value}, Fr g env.locals h m → (∀ b o, b ∉ [I] → h.get? b = some o → h'.get? b = some o) → Fr g env.locals h' m := fun F k =>
    ⟨F.ns.at' fun o e => k _ o (fun q => hI (List.mem_singleton.mp q)) e, fun b o e => k b o (fun q => by rw [List.mem_singleton.mp q, hgI] at e; cases e) (F.keep b o e), F.above⟩
  have nw : ∀ {h h' : Heap}, News g env.locals h ((c, oc) :: (live₁ ++ rest)) → (∀ b o, b ∉ [I] → h.get? b = some o → h'.get? b = some o) → News g env.locals h' ((c, oc) :: (live₁ ++ rest)) := fun N k p hp => by
    refine ⟨k _ _ (fun q => ?_) (N p hp).1, (N p hp).2⟩
    rcases List.mem_cons.mp hp with rfl | hp
    · exact hIc (List.mem_singleton.mp q).symm
    · exact (H.off p hp).1 (List.mem_singleton.mp q)
  by_cases hn : i = n
  · subst hn
    refine W.done s' _ _ H.st fun h' tk k => wpAny_execs_nil ?_
    exact done m₁ live₁ oc { s' with heap := h', toks := tk } H.J (fr H.F k) (nw H.N k) H.drawn H.os
  · refine W.item i s' _ _ (Nat.lt_of_le_of_ne hi hn) H.st fun v h' tk hP hst k => ?_
    refine wpAny_of_eq (a := ()) (by rfl) ?_
    have F₁ := fr H.F k
    have N₁ := nw H.N k
    obtain ⟨v₀, hv₀⟩ := H.cell
    refine wpAny_assign_Name (wpAny_storeName_cell hk hx hc ⟨oc, (N₁ _ (.head _)).1, hv₀⟩ fun h₂ hv hs₂ => ?_)
    obtain ⟨o₂, ho₂, hd₂⟩ := hv
    have F₂ : Fr g env.locals h₂ m₁ := F₁.change hs₂ hcL hcg
    have N₂ : News g env.locals h₂ ((c, o₂) :: (live₁ ++ rest)) := fun p hp => by
      rcases List.mem_cons.mp hp with rfl | hp
      · exact ⟨ho₂, hcL, hcg⟩
      · exact ⟨hs₂.extBut _ _ (H.off p hp).2 (N₁ p (.tail _ hp)).1, (N₁ p (.tail _ hp)).2⟩
    have st₂ : St (i + 1) h₂ := W.frame _ _ _ hst fun b hb o e => hs₂.extBut b o (fun q => hIc ((List.mem_singleton.mp hb).symm.trans q)) e
    have fp : env.locals ∉ [I] := fun h => hI (List.mem_singleton.mp h)
    have N₃ : News g env.locals h₂ ((c, o₂) :: (live₁ ++ (ownOf g h₂ [I] ++ rest))) := own_news (live := (c, o₂) :: live₁) F₂ fp N₂
    obtain ⟨oI, eI⟩ := hex _ _ st₂
    refine wpAny_mono (step i v m₁ live₁ (ownOf g h₂ [I]) o₂ { s' with heap := h₂, toks := tk } (Nat.lt_of_le_of_ne hi hn) hP H.J H.off (fun p hp => List.mem_singleton.mp (ownOf_mem hp).1) ⟨oI, mem_ownOf eI (.head _) hgI⟩ hd₂ F₂ N₃ H.drawn H.os _) (fun f s₂ hq => ?_) fun _ _ e => e
    obtain ⟨rfl, hd2, ho2, m₂, live₂, F₄, N₄, off₄, J₄⟩ := hq
    refine ⟨n - (i + 1), by omega, i + 1, m₂, live₂, o₂, rfl, by omega, ⟨W.frame _ _ _ st₂ (own_keep (live := (c, o₂) :: live₂) F₂ F₄.keep N₄), F₄, ⟨_, hd₂⟩, fun p hp => ?_, fun p hp => ?_, J₄, hd2, ho2⟩⟩
    · rcases List.mem_cons.mp hp with rfl | hp
      · exact N₄ _ (.head _)
      · rcases List.mem_append.mp hp with hp | hp
        · exact N₄ p (.tail _ (List.mem_append_left _ hp))
        · exact N₄ p (.tail _ (List.mem_append_right _ (List.mem_append_right _ hp)))
    · rcases List.mem_append.mp hp with hp | hp
      · exact off₄ p hp
      · exact H.off p (List.mem_append_right _ hp)
theorem range_loop_cell {r c : Addr} {a b : Int} {n : Nat} {t u v : Tok} (hh : A.handled = none) (hk : env.scope.kind = .function) (hx : env.kindOf y = some .cell) (hc : env.cells.lookup y = some c)
    (hr : IsRange s.heap r a b 1 t u v) (hsm : Builtin.Range.small a b 1 = true) (hn : Builtin.Range.rangeSize a b 1 = n)
    (J : Nat → (Str → Option Value) → List (Addr × Obj) → Array GenState → Prop) {oc : Obj} (F : Fr g env.locals s.heap m) (hoc : ∃ v, oc.data = .cell v) (N : News g env.locals s.heap ((c, oc) :: (live ++ rest))) (offc : ∀ p ∈ live ++ rest, p.1 ≠ c) (hJ : J 0 m live s.gens)
    (step : ∀ I i tk m₁ live₁ own oc s₁, i < n → J i m₁ live₁ s₁.gens → (∀ p ∈ live₁ ++ rest, p.1 ≠ I ∧ p.1 ≠ c) → I ≠ c → (∀ p ∈ own, p.1 = I) → (∃ o, (I, o) ∈ own) → oc.data = .cell (some (.int (a + i) tk)) → Fr g env.locals s₁.heap m₁ → News g env.locals s₁.heap ((c, oc) :: (live₁ ++ (own ++ rest))) →
      s₁.drawn = s.drawn → s₁.os = s.os → ∀ E', wpAny (model prog w) A (execs body env) (fun f s₂ => f = .next ∧ s₂.drawn = s.drawn ∧ s₂.os = s.os ∧ ∃ m₂ live₂, Fr g env.locals s₂.heap m₂ ∧ News g env.locals s₂.heap ((c, oc) :: (live₂ ++ (own ++ rest))) ∧ (∀ p ∈ live₂, p.1 ≠ I ∧ p.1 ≠ c) ∧ J (i + 1) m₂ live₂ s₂.gens) E' s₁)
    (done : ∀ m₁ live₁ oc s₁, J n m₁ live₁ s₁.gens → Fr g env.locals s₁.heap m₁ → News g env.locals s₁.heap ((c, oc) :: (live₁ ++ rest)) → s₁.drawn = s.drawn → s₁.os = s.os → R (.ok .next) s₁) :
    wpAny (model prog w) A (pyIter (.ref r)) (fun it s₂ => codeAny (model prog w) A (.forLoop (.Name y py) it body [] env) R s₂) E s := by
  have hI := Nat.ne_of_lt F.ns.lt
  have hg := fresh_none F (Nat.le_refl _)
  have N' : ∀ o, News g env.locals (s.heap.push o) ((c, oc) :: (live ++ rest)) := fun o => News.up N fun b o' e => Heap.get?_push_of_some _ e
  have offI := fresh_neN N (Nat.le_refl s.heap.objs.size)
  have hIc : s.heap.objs.size ≠ c := (offI _ (.head _)).symm
  refine wpAny_pyIter_range hr hsm ?_
  refine loop_cell (Walks.range hh _ a 1 n) hk hx hc (fun i h e => ⟨_, e⟩) hI hg hIc J ?_ (F.push _) hoc (N' _) (fun p hp => ⟨offI p (.tail _ hp), offc p hp⟩) hJ (fun i v m₁ live₁ own oc s₁ hi hP => ?_) done
  · show IsRangeIter _ _ _ _ _
    rw [hn]
    have := Heap.get?_push_size s.heap (o := { cls := .type "range_iterator", dict := none, data := .fields #[rawInt a, rawInt n, rawInt 1], slots := #[] }) rfl
    simpa using this
  · obtain ⟨tk, rfl⟩ := hP
    rw [Int.mul_one]
    exact fun hJ₁ off₁ hown hexw hoc₁ F₁ N₁ hd ho E' => step _ i tk m₁ live₁ own oc s₁ hi hJ₁ off₁ hIc hown hexw hoc₁ F₁ N₁ hd ho E'
end
end Mine
end PartV16
section PartW22
open PySem PySem.W PySem.Calls PyProof.Rows
namespace Mine
set_option maxHeartbeats 8000000
noncomputable def dueRows (ns : List Int) : Nat → List (Int × Int × Int)
  | 0 => []
  | j + 1 => dueRows ns j ++ (if apartF (1 + (j : Int)) ns = 0 then [] else [(1 + (j : Int), 1 + (1 + (j : Int)) * Int.fdiv (bothF (1 + (j : Int)) ns + apartF (1 + (j : Int)) ns) 2, 1 + (1 + (j : Int)) * Int.fdiv (bothF (1 + (j : Int)) ns - apartF (1 + (j : Int)) ns) 2)])
theorem dueRows_len (ns : List Int) : ∀ j, (dueRows ns j).length ≤ j
  | 0 => Nat.le_refl _
  | j + 1 => by
    have := dueRows_len ns j
    unfold dueRows
    rw [List.length_append]
    split <;> simp <;> omega
noncomputable def dueF (ns : List Int) : List (Int × Int × Int) := dueRows ns ns.length
noncomputable def dueJ (ns : List Int) (W AL : Addr) (i : Nat) (m : Str → Option Value) (live : List (Addr × Obj)) (gens : Array GenState) : Prop :=
  AllBare gens ∧ ∃ rs tl, live = (AL, LCg.lst rs) :: tl ∧ TripRs rs tl (dueRows ns i) ∧ DueM m ns AL W ∧ ∀ p ∈ tl, AL < p.1
local macro_rules | `(tactic| walk_at "idle") => `(tactic| skip)
local macro_rules | `(tactic| walk_at "exec For Name Call cons nil") => `(tactic| (refine wpAny_For ?_ (fun _ => by with_unfolding_all rfl)))
local macro_rules | `(tactic| walk_at "call type:range") => `(tactic| (k_here; k_dflt (refine rangeW2 (by k_asm) (by k_asm) ?_); intro D' h' tk' t1' t2' t3' F' N' l1'; (try k_lt l1'); (try k_sweep)))
theorem lenW2 {prog : Program} {w : World} {A : Around} {E : Value → Shared → Prop} {s : Shared} {h₀ : Heap} {L W : Addr} {news : List (Addr × Obj)} {vs : List Value} {ns : List Int} {k : Nat} {Q : Value → Shared → Prop} (N : News h₀ L s.heap news) (hm : (W, PySem.W.listOf vs.toArray k) ∈ news) (hi : IntsAre vs ns) (hl : ns.length ≤ 100)
    (h : ∀ t tk, Q (.int (ns.length : Int) t) { s with toks := tk }) : wpAny (model prog w) A (call (.builtin "len") [.ref W]) Q E s := by
  refine lenW N hm (by rw [hi.length]; exact hl) fun t tk => ?_
  rw [hi.length]
  exact h t tk
theorem c_due {w : World} {mean : ExcName → Option Value} {mg mb : Str → Option Value} {dp un : Nat} {gd : Option (List Code)} {cn : Str} {cs : Scope} {a : Addr} {ccd : Value} {cl : List (Str × Addr)} {outer : List Env} {A₀ : Around} {base h₀ : Heap} {L W : Addr} {m : Str → Option Value} {news : List (Addr × Obj)} {s : Shared} {Q E : Value → Shared → Prop} {vs : List Value} {ns : List Int} {wn : Nat} (B : Below A₀ base outer h₀) (F : Fr h₀ L s.heap m) (X : (KX w.params).In h₀) (N : News h₀ L s.heap news) (T : Top qv (looseW qv looseV) mean mg mb h₀) (hk : cs.kind = .function) (hd : dp + 16 < recursionLimit) (hu : un + 128 < cLine) (hbare : AllBare s.gens) (hW : (W, PySem.W.listOf vs.toArray wn) ∈ news) (hi : IntsAre vs ns) (hl : ns.length ≤ 12) (hns : ∀ x ∈ ns, -1 ≤ x ∧ x ≤ 1)
    (hret : ∀ s' AL rs tl, Fr h₀ L s'.heap m → News h₀ L s'.heap ((AL, LCg.lst rs) :: (tl ++ news)) → TripRs rs tl (dueF ns) → (∀ p ∈ news, p.1 < AL) → AllBare s'.gens → s'.drawn = s.drawn → s'.os = s.os → Q (.ref AL) s') :
    wpAny (model pw w) (ktrTop dp un gd cn cs L a ccd cl outer) (call (.ref 224) [.ref W]) Q E s := by
  k_with_none
  w_on
  have hln := hi.length
  refine wpAny_call ?_
  k_dflt (refine' code_defC (binds := [(sx "worths", .ref W)]) ?k1 ?k2 ?k3 ?k4 ?k5 ?kA ?kF ?kK ?k6 ?k7 ?k8 ?k9 ?kB ?kD ?_ ?c2 ?c3 ?c4; (case kA => exact rfl); (case kF => exact rfl); (case kK => assumption); (case k1 => k_asm); (case k2 => k_asm); (case k3 => k_asm); (case k4 => k_asm); (case k5 => k_asm); (case k6 => k_is); (case k7 => k_is); (case k8 => ktr_room); (case k9 => exact BindsTo.of_eq rfl); (case kB => exact rfl); (case kD => decide +kernel); (case c2 => exact rfl); (case c3 => exact rfl); (case c4 => exact rfl); k_whole; intro g' L' h' tk' cells' FG' F' N' Y' B' X' T' l1; (try k_lt l1); k_cells Y'; (try simp only [List.cons_append, List.nil_append] at N'); (try dsimp only); (try k_fold))
  repeat' (first | (k_unfold; (try dsimp only)) | (k_end; kc_close) | (walk1; (try dsimp only)) | (leave1; walk_say "STEP leave1"; (try dsimp only)) | fail "no step")
  refine lenW2 (by k_asm) (.tail _ hW) hi (by omega) fun t tk => ?_
  repeat' (first | (k_unfold; (try dsimp only)) | (k_end; kc_close) | (walk1; (try dsimp only)) | (leave1; walk_say "STEP leave1"; (try dsimp only)) | fail "no step")
  with_reducible rename News _ _ _ _ => N9
  with_reducible rename Fr _ _ _ _ => F9
  with_reducible rename _ < _ ∧ AllLt _ _ => q5
  have hAL := allLt_mem q5.2
  have hcA := q5.1
  have hcN : ∀ p ∈ news, p.1 ≠ L' + 1 := fun p hp => Nat.ne_of_lt (Nat.lt_succ_of_lt (l1 p hp))
  have N10 : News g' L' _ ((L' + 1, _) :: ([(_, LCg.lst [])] ++ news)) := fun p hp => by
    rcases List.mem_cons.mp hp with rfl | hp
    · exact N9 _ (.tail _ (.tail _ (.tail _ (.head _))))
    · rcases List.mem_cons.mp hp with rfl | hp
      · exact N9 _ (.tail _ (.tail _ (.head _)))
      · exact N9 _ (.tail _ (.tail _ (.tail _ (.tail _ hp))))
  have hrn : Builtin.Range.rangeSize 1 ((ns.length : Int) + 1) 1 = (ns.length : Int) := by
    rw [rngN]; omega
  refine range_loop_cell (c := L' + 1) (rest := news) (live := [(_, LCg.lst [])]) (n := ns.length) rfl rfl rfl rfl (N9 _ (.head _)).1 (small_one (by omega) (by omega) (by omega) (by omega)) hrn (dueJ ns W _) F9 ⟨_, by assumption⟩ N10 ?_ ⟨hbare, [], [], rfl, .nil, ⟨⟨_, rfl⟩, rfl, rfl⟩, fun p hp => nomatch hp⟩ ?_ ?_
  · intro p hp
    rcases List.mem_cons.mp hp with rfl | hp
    · exact Nat.ne_of_gt hcA
    · exact hcN p hp
  · rintro I i tk m₁ live₁ own oc s₁ hi' ⟨hb₁, rs, tl, rfl, hrel, ⟨⟨ts, hms⟩, hmr, hmw⟩, htl⟩ off hIc hown ⟨oI, hI⟩ hoc F₁ N₁ hd1 ho1 E'
    have hALI := (off _ (.head _)).1
    have hALc := (off _ (.head _)).2
    have F₂ := fr_map F₁ (m' := fun z => if z = sx "size" then some (.int (ns.length : Int) ts) else if z = sx "rows" then some (.ref _) else if z = sx "worths" then some (.ref W) else m₁ z) fun z => by
      by_cases e2 : z = sx "size"
      · rw [if_pos e2, e2, hms]
      · rw [if_neg e2]
        by_cases e3 : z = sx "rows"
        · rw [if_pos e3, e3, hmr]
        · rw [if_neg e3]
          by_cases e4 : z = sx "worths"
          · rw [if_pos e4, e4, hmw]
          · rw [if_neg e4]
    have N₂ : News g' L' s₁.heap ((_, LCg.lst rs) :: (L' + 1, oc) :: (tl ++ (own ++ news))) := fun p hp => by
      rcases List.mem_cons.mp hp with rfl | hp
      · exact N₁ _ (.tail _ (.head _))
      · rcases List.mem_cons.mp hp with rfl | hp
        · exact N₁ _ (.head _)
        · exact N₁ p (.tail _ (.tail _ hp))
    have hap : ∀ p ∈ tl ++ (own ++ news), p.1 ≠ _ := fun p hp => by
      rcases List.mem_append.mp hp with hp | hp
      · exact Nat.ne_of_gt (htl p hp)
      · rcases List.mem_append.mp hp with hp | hp
        · rw [hown p hp]; exact hALI.symm
        · exact Nat.ne_of_lt (hAL p hp)
    have sub : ∀ p ∈ news, p ∈ tl ++ (own ++ news) := fun p hp => List.mem_append_right _ (List.mem_append_right _ hp)
    have hlen := dueRows_len ns i
    have hrl := hrel.len
    refine due_body (W := W) (vs := vs) (ns := ns) (wn := wn) (tab := 1 + i) B' X' T' hd hu F₂ hoc N₂ hap hb₁ (sub _ hW) hi (by omega) hln.symm hns (by omega) (by omega) (by omega) hALc.symm ?_ ?_
    · intro he s₂ m₂ F' N' hb2 hd2 ho2 hm2
      refine ⟨rfl, hd2.trans hd1, ho2.trans ho1, m₂, (_, LCg.lst rs) :: tl, F', (fun p hp => ?_), (fun p hp => off p (List.mem_append_left _ hp)), hb2, rs, tl, rfl, ?_, hm2, htl⟩
      · rcases List.mem_cons.mp hp with rfl | hp
        · exact N' _ (.tail _ (.head _))
        · rcases List.mem_cons.mp hp with rfl | hp
          · exact N' _ (.head _)
          · exact N' p (.tail _ (.tail _ hp))
      · unfold dueRows
        rw [if_pos he, List.append_nil]
        exact hrel
    · intro he s₂ m₂ TT u1 u2 u3 lt F' N' hb2 hd2 ho2 hm2
      refine ⟨rfl, hd2.trans hd1, ho2.trans ho1, m₂, (_, LCg.lst (rs ++ [.ref TT])) :: (TT, tup3 (1 + (i : Int)) (1 + (1 + (i : Int)) * Int.fdiv (bothF (1 + (i : Int)) ns + apartF (1 + (i : Int)) ns) 2) (1 + (1 + (i : Int)) * Int.fdiv (bothF (1 + (i : Int)) ns - apartF (1 + (i : Int)) ns) 2) u1 u2 u3) :: tl, F', (fun p hp => ?_), (fun p hp => ?_), hb2, rs ++ [.ref TT], (TT, tup3 (1 + (i : Int)) (1 + (1 + (i : Int)) * Int.fdiv (bothF (1 + (i : Int)) ns + apartF (1 + (i : Int)) ns) 2) (1 + (1 + (i : Int)) * Int.fdiv (bothF (1 + (i : Int)) ns - apartF (1 + (i : Int)) ns) 2) u1 u2 u3) :: tl, rfl, ?_, hm2, ?_⟩
      rotate_left
      · rcases List.mem_cons.mp hp with rfl | hp
        · exact ⟨hALI, hALc⟩
        · rcases List.mem_cons.mp hp with rfl | hp
          · exact ⟨Nat.ne_of_gt (lt _ (.tail _ (.tail _ (List.mem_append_right _ (List.mem_append_left _ hI))))), Nat.ne_of_gt (lt _ (.tail _ (.head _)))⟩
          · exact off p (List.mem_append_left _ (.tail _ hp))
      · unfold dueRows
        rw [if_neg he]
        exact .snoc hrel
      · intro p hp
        rcases List.mem_cons.mp hp with rfl | hp
        · exact lt _ (.head _)
        · exact htl p hp
      · rcases List.mem_cons.mp hp with rfl | hp
        · exact N' _ (.tail _ (.tail _ (.head _)))
        · rcases List.mem_cons.mp hp with rfl | hp
          · exact N' _ (.head _)
          · rcases List.mem_cons.mp hp with rfl | hp
            · exact N' _ (.tail _ (.head _))
            · exact N' p (.tail _ (.tail _ (.tail _ hp)))
  · rintro m₁ live₁ oc s₁ ⟨hb₁, rs, tl, rfl, hrel, ⟨⟨ts, hms⟩, hmr, hmw⟩, htl⟩ F₁ N₁ hd1 ho1
    have F₂ : Fr g' L' s₁.heap (fun z => if z = sx "rows" then some (.ref _) else m₁ z) := fr_map F₁ fun z => congrFun (map_at hmr) z
    have N₂ : News g' L' s₁.heap ((_, LCg.lst rs) :: (tl ++ news)) := fun p hp => N₁ p (.tail _ hp)
    clear F₁ F9 N9 N10 N₁
    repeat' (first | (k_unfold; (try dsimp only)) | (k_end; kc_close) | (walk1; (try dsimp only)) | (leave1; walk_say "STEP leave1"; (try dsimp only)) | fail "no step")
    all_goals
      with_reducible rename News _ _ _ _ => N9
      with_reducible rename Fr _ _ _ _ => F9
      exact hret _ _ _ _ F9 N9 hrel hAL hb₁ hd1 ho1
end Mine
end PartW22
section PartW27
open PySem PySem.W PySem.Calls PyProof.Rows
namespace Mine
set_option maxHeartbeats 8000000
theorem any22 (tot : Int) : ([2, -2].any fun x => x == tot) = (tot == 2 || tot == -2) := by
  have h1 : ((2 : Int) == tot) = (tot == 2) := by
    by_cases h : tot = 2
    · subst h; rfl
    · rw [beq_eq_false_iff_ne.mpr h, beq_eq_false_iff_ne.mpr (Ne.symm h)]
  have h2 : ((-2 : Int) == tot) = (tot == -2) := by
    by_cases h : tot = -2
    · subst h; rfl
    · rw [beq_eq_false_iff_ne.mpr h, beq_eq_false_iff_ne.mpr (Ne.symm h)]
  simp only [List.any_cons, List.any_nil, Bool.or_false]
  rw [h1, h2]
noncomputable abbrev tup22 (t u : Tok) : Obj := { cls := .type "tuple", data := .seq #[.int 2 t, .int (-2) u] }
theorem c_contains {w : World} {mean : ExcName → Option Value} {mg mb : Str → Option Value} {dp un : Nat} {gd : Option (List Code)} {cn : Str} {cs : Scope} {a : Addr} {ccd : Value} {cl : List (Str × Addr)} {outer : List Env} {A₀ : Around} {base h₀ : Heap} {L : Addr} {m : Str → Option Value} {news : List (Addr × Obj)} {s : Shared} {Q E : Value → Shared → Prop} {TT : Addr} {tot : Int} {t1 t2 t3 : Tok} (B : Below A₀ base outer h₀) (F : Fr h₀ L s.heap m) (X : (KX w.params).In h₀) (N : News h₀ L s.heap news) (T : Top qv (looseW qv looseV) mean mg mb h₀) (hk : cs.kind = .function) (hd : dp + 8 < recursionLimit) (hu : un + 64 < cLine) (hT : (TT, tup22 t1 t2) ∈ news)
    (hret : CbRet h₀ L m news s Q (fun _ => .bool (tot == 2 || tot == -2))) :
    wpAny (model pw w) (ktrTop dp un gd cn cs L a ccd cl outer) (call (.ref 56) [.ref TT, .int tot t3]) Q E s := by
  k_with_none
  w_on
  have N2 : News h₀ L s.heap ((TT, tup22 t1 t2) :: news) := fun p hp => by
    rcases List.mem_cons.mp hp with rfl | hp
    · exact N _ hT
    · exact N _ hp
  refine wpAny_call ?_
  clear N
  k_dflt (refine' code_def (binds := [(sx "a", .ref TT), (sx "b", .int tot t3)]) ?k1 ?k2 ?k3 ?k4 ?k5 ?kA ?kF ?kK ?k6 ?k7 ?k8 ?k9 ?kB ?_ ?c2 ?c3 ?c4 ?c5; (case kA => exact rfl); (case kF => exact rfl); (case kK => assumption); (case k1 => k_asm); (case k2 => k_asm); (case k3 => k_asm); (case k4 => k_asm); (case k5 => k_asm); (case k6 => k_is); (case k7 => k_is); (case k8 => ktr_room); (case k9 => exact BindsTo.of_eq rfl); (case c5 => decide); (case kB => exact locs rfl); (case c2 => exact rfl); (case c3 => exact rfl); (case c4 => exact rfl); k_whole; intro g' L' h' FG' F' N' B' X' T'; (try dsimp only); (try k_fold))
  repeat' (first | (k_unfold; (try dsimp only)) | (k_end; kc_close) | (walk1; (try dsimp only)) | (leave1; walk_say "STEP leave1"; (try dsimp only)) | fail "no step")
  rw [any22]
  with_reducible rename News _ _ _ _ => N9
  with_reducible rename Fr _ _ _ _ => F9
  exact hret 0 _ _ F9 fun p hp => N9 p (.tail _ hp)
end Mine
end PartW27
section PartV17
open PySem PySem.W PySem.Calls PyProof.Rows PySem.Spec
namespace Mine
section
variable {prog : Program} {w : World} {A : Around} {E : Value → Shared → Prop} {s : Shared} {h₀ : Heap} {L : Addr} {m : Str → Option Value} {env : Env}
noncomputable def CompSrc2 (prog : Program) (w : World) (A : Around) (h₀ : Heap) (L : Addr) (m : Str → Option Value) (env : Env) (elt : PySem.Expr) (x : Str) (scope : Scope) (cl : List (Str × Addr)) (Fin : Shared → List Value → List (Addr × Obj) → Prop) (xv : Value) (s₁ : Shared) : Prop :=
  LCg.CompSrc prog w A h₀ L m env elt x scope cl Fin xv s₁
theorem ListComp_U2 {elt iter : PySem.Expr} {x : Str} {px : Pos} {scope : Scope} {cl : List (Str × Addr)} {pos : Pos} {Q : Value → Shared → Prop} (F₀ : Fr h₀ L s.heap m)
    (hclos : closureFor scope env = pure cl) (hcell : ∀ y ∈ scope.names, y.2 ≠ .cell) (hkind : scope.kind = .function)
    (hnames : ∀ y ∈ scope.names, y.2 = .local → scope.names.lookup y.1 = some .local) (hx : scope.names.lookup x = some .local)
    (h : wpAny (model prog w) A (eval iter env) (CompSrc2 prog w A h₀ L m env elt x scope cl (fun s₂ => LCg.FinE h₀ L m s₂ Q)) E s)
    (hs : ∀ x, foldedSetIterable iter env x = pure x := by intro _; rfl) :
    wpAny (model prog w) A (eval (.ListComp elt [⟨.Name x px, iter, [], 0⟩] scope pos) env) Q E s :=
  LCg.ListComp_U F₀ hclos hcell hkind hnames hx h hs
theorem CompSrc2.ledger {elt : PySem.Expr} {x : Str} {scope : Scope} {cl : List (Str × Addr)} {Fin : Shared → List Value → List (Addr × Obj) → Prop} {ax : Addr} {its : Array Value} {k : Nat} {news : List (Addr × Obj)} {s₁ : Shared}
    (hh : A.handled = none) (F : Fr h₀ L s₁.heap m) (N : News h₀ L s₁.heap news) (hm : (ax, ({ cls := .type "list", data := .seq its k } : Obj)) ∈ news) (hsz : its.size ≤ sizeLine)
    (h : ∀ g, LCg.CompRest prog w A h₀ L m env elt x scope cl { s₁ with heap := g } (LCg.SrcAt h₀ ax its) (fun i v => its[i]? = some v) (Fin { s₁ with heap := g }) its.size 0 [] news) :
    CompSrc2 prog w A h₀ L m env elt x scope cl Fin (.ref ax) s₁ := LCg.CompSrc.ledger hh F N hm hsz h
end
end Mine
end PartV17
section PartV18
open PySem PySem.W PySem.Calls PyProof.Rows PySem.Spec
namespace Mine
section
variable {prog : Program} {w : World} {A : Around} {E : Value → Shared → Prop} {s : Shared} {h₀ : Heap} {L : Addr} {m : Str → Option Value} {env : Env}
noncomputable def TextSrc0 (prog : Program) (w : World) (A : Around) (h₀ : Heap) (L : Addr) (m : Str → Option Value) (env : Env) (elt : PySem.Expr) (x : Str) (scope : Scope) (cl : List (Str × Addr)) (Q : Value → Shared → Prop) (xv : Value) (s₁ : Shared) : Prop :=
  ∃ y t news, xv = .str y t ∧ A.handled = none ∧ Fr h₀ L s₁.heap m ∧ News h₀ L s₁.heap news ∧ y.cps.size ≤ sizeLine ∧
      ∀ g, LCg.CompRest prog w A h₀ L m env elt x scope cl { s₁ with heap := g } (fun _ => True) (SignAt y) (LCg.FinE h₀ L m { s₁ with heap := g } Q) y.cps.size 0 [] news
theorem textSrc0 {elt : PySem.Expr} {x : Str} {scope : Scope} {cl : List (Str × Addr)} {Q : Value → Shared → Prop} {y : Str} {t : Tok} {s₁ : Shared} {news : List (Addr × Obj)}
    (hh : A.handled = none) (F : Fr h₀ L s₁.heap m) (N : News h₀ L s₁.heap news) (hs : y.cps.size ≤ sizeLine)
    (h : ∀ g, LCg.CompRest prog w A h₀ L m env elt x scope cl { s₁ with heap := g } (fun _ => True) (SignAt y) (LCg.FinE h₀ L m { s₁ with heap := g } Q) y.cps.size 0 [] news) :
    TextSrc0 prog w A h₀ L m env elt x scope cl Q (.str y t) s₁ := ⟨y, t, news, rfl, hh, F, N, hs, h⟩
theorem listComp_text0 {elt iter : PySem.Expr} {x : Str} {px : Pos} {scope : Scope} {cl : List (Str × Addr)} {pos : Pos} {Q : Value → Shared → Prop}
    (F₀ : Fr h₀ L s.heap m)
    (hclos : closureFor scope env = pure cl) (hcell : ∀ y ∈ scope.names, y.2 ≠ .cell) (hkind : scope.kind = .function)
    (hnames : ∀ y ∈ scope.names, y.2 = .local → scope.names.lookup y.1 = some .local) (hx : scope.names.lookup x = some .local)
    (h : wpAny (model prog w) A (eval iter env) (TextSrc0 prog w A h₀ L m env elt x scope cl Q) E s)
    (hs : ∀ x, foldedSetIterable iter env x = pure x := by intro _; rfl) :
    wpAny (model prog w) A (eval (.ListComp elt [⟨.Name x px, iter, [], 0⟩] scope pos) env) Q E s := by
  rw [eval_ListComp]
  refine wpAny_comprehension_free (use := none) rfl hs hclos hkind hnames (wpAny_mono h (fun xv s₁ h₁ => ?_) fun _ _ e => e)
  obtain ⟨y, t, news, rfl, hh, F, N, hsz, R⟩ := h₁
  have fin : ∀ (I : Addr) (s₂ : Shared), (∃ g, s₂ = { s₁ with heap := g }) → ∀ D C h tk m' ys news', Fr h₀ L h m → News h₀ L h ((D, LCg.lst ys) :: news') → LCg.Off1 D news' → h.Ns C m' → h₀.get? C = none → h₀.get? D = none → C ≠ L → D ≠ L → C ≠ D →
      (∀ p ∈ news', p.1 ≠ C) → LCg.FinE h₀ L m s₂ Q ys news' → ∃ m', h.Ns C m' ∧ ∀ h'' : Heap, Heap.SameBut C h h'' → Q (.ref D) { s₂ with heap := h'', toks := tk } := by
    intro I s₂ _ D C h tk m' ys news' F' N' o1 hn hC₀ hD₀ hCL hDL hCD offC fin
    refine ⟨m', hn, fun h'' hs'' => fin D h'' tk (F'.change hs'' hCL hC₀) (fun p hp => ?_) o1⟩
    refine ⟨hs''.extBut _ _ ?_ (N' p hp).1, (N' p hp).2⟩
    rcases List.mem_cons.mp hp with rfl | hp
    · exact Ne.symm hCD
    · exact offC p hp
  have st_keep : ∀ {ty : String} i (h h' : Heap) (o : Obj) (nw : List (Addr × Obj)), h.IsStrIter s₁.heap.objs.size ty y t i → h.get? s₁.heap.objs.size = some o → h'.get? s₁.heap.objs.size = some o →
      (∀ b o, h₀.get? b = some o → h'.get? b = some o) → News h₀ L h' nw → True → h'.IsStrIter s₁.heap.objs.size ty y t i := by
    intro ty i h h' o nw ⟨o', e, r⟩ e1 e2 _ _ _
    rw [e1] at e; cases e
    exact ⟨o, e2, r⟩
  have lt1 : ∀ (o : Obj), ∀ b ∈ [s₁.heap.objs.size], b < (s₁.heap.push o).objs.size := fun o b hb => by
    rw [List.mem_singleton.mp hb, Heap.size_push]; exact Nat.lt_succ_self _
  cases ha : y.cps.all (· < 128)
  · refine wpAny_pyIter_wide ha ?_
    refine LCg.block_U (Walks.strWide hh _ y t) hsz (fun i h st => by obtain ⟨o, e, _⟩ := st; exact ⟨o, e⟩) st_keep hcell hkind hx ⟨_, Heap.get?_push_size _ rfl, rfl, rfl⟩ (lt1 _)
      (F.keeps fun _ _ e => Heap.get?_push_of_some _ e) (N.grown fun _ _ e => Heap.get?_push_of_some _ e) (Nat.ne_of_lt F.ns.lt) (next_is_new F) (fun p hp => Nat.ne_of_lt (Heap.lt_size (N p hp).1)) trivial (R _) ?_
    exact fin s₁.heap.objs.size _ ⟨_, rfl⟩
  · refine wpAny_pyIter_ascii ha ?_
    refine LCg.block_U (Walks.strAscii hh _ y t) hsz (fun i h st => by obtain ⟨o, e, _⟩ := st; exact ⟨o, e⟩) st_keep hcell hkind hx ⟨_, Heap.get?_push_size _ rfl, rfl, rfl⟩ (lt1 _)
      (F.keeps fun _ _ e => Heap.get?_push_of_some _ e) (N.grown fun _ _ e => Heap.get?_push_of_some _ e) (Nat.ne_of_lt F.ns.lt) (next_is_new F) (fun p hp => Nat.ne_of_lt (Heap.lt_size (N p hp).1)) trivial (R _) ?_
    exact fin s₁.heap.objs.size _ ⟨_, rfl⟩
theorem ints_snoc0 {k : Int} {t : Tok} : ∀ {vs : List Value} {ns : List Int}, IntsAre vs ns → IntsAre (vs ++ [.int k t]) (ns ++ [k])
  | _, _, .nil => .cons k t .nil
  | _, _, .cons n u r => .cons n u (ints_snoc0 r)
theorem rest_signs {elt : PySem.Expr} {x : Str} {scope : Scope} {cl : List (Str × Addr)} {S : List (Addr × Obj) → Prop} {Fin : List Value → List (Addr × Obj) → Prop} {news : List (Addr × Obj)} {y : Str} (f : Nat → Int)
    (turn : ∀ c u I oI C oC D m₂ ys h tk (E' : Value → Shared → Prop), c ∈ y.cps.toList → LCg.NsObj oC m₂ → m₂ x = some (.str ⟨#[c]⟩ u) → Fr h₀ L h m → News h₀ L h ((I, oI) :: (C, oC) :: (D, LCg.lst ys) :: news) → LCg.Off3 I C D news → ((@Ne Nat I C) ∧ (@Ne Nat I D) ∧ (@Ne Nat C D)) →
      wpAny (model prog w) A (eval elt (compEnvC scope cl C env)) (LCg.CompEnd h₀ L m { s with heap := h, toks := tk } I oI C oC D (LCg.lst ys) S (fun y news' => news' = news ∧ ∃ t : Tok, y = .int (f c) t)) E' { s with heap := h, toks := tk })
    (fin : ∀ ys, IntsAre ys (y.cps.toList.map f) → Fin ys news) : LCg.CompRest prog w A h₀ L m env elt x scope cl s S (SignAt y) Fin y.cps.size 0 [] news := by
  have key : ∀ (j i : Nat) (ys : List Value), i + j = y.cps.size → IntsAre ys ((y.cps.toList.take i).map f) → LCg.CompRest prog w A h₀ L m env elt x scope cl s S (SignAt y) Fin j i ys news := by
    intro j
    induction j with
    | zero =>
      intro i ys hi hy
      have e : i = y.cps.toList.length := by simp; omega
      subst e
      rw [List.take_length] at hy
      exact LCg.CompRest.zero (fin ys hy)
    | succ j ih =>
      intro i ys hi hy
      refine LCg.CompRest.succ ?_
      intro v I oI C oC D m₂ h tk E' hv hC hx F N off ne
      obtain ⟨c, u, hc, rfl⟩ := hv
      have hk : y.cps.toList[i]? = some c := by simpa using hc
      refine wpAny_mono (turn c u I oI C oC D m₂ ys h tk E' (List.mem_of_getElem? hk) hC hx F N off ne) (fun y s₂ hq => ?_) fun _ _ e => e
      obtain ⟨h', tk', nw, e', F', N', off', hS, rfl, t', rfl⟩ := hq
      refine ⟨h', tk', nw, e', F', N', off', hS, ih (i + 1) _ (by omega) ?_⟩
      rw [List.take_add_one, hk]
      simp only [Option.toList_some, List.map_append, List.map_cons, List.map_nil]
      exact ints_snoc0 hy
  exact key y.cps.size 0 [] (by omega) .nil
end
end Mine
end PartV18
section PartV19
open PySem PySem.W PySem.Calls PyProof.Rows PySem.Spec
namespace Mine
section
variable {prog : Program} {w : World} {A : Around} {E : Value → Shared → Prop} {s : Shared} {h₀ : Heap} {L : Addr} {m : Str → Option Value} {env : Env}
noncomputable abbrev Far (I C D : Addr) (news : List (Addr × Obj)) : Prop := ∀ p ∈ news, p.1 ≠ I ∧ p.1 ≠ C ∧ p.1 ≠ D
structure Hid3 (h₀ : Heap) (L I C D : Addr) : Prop where
  I0 : h₀.get? I = none
  C0 : h₀.get? C = none
  D0 : h₀.get? D = none
  IL : I ≠ L
  CL : C ≠ L
  DL : D ≠ L
  IC : I ≠ C
  ID : I ≠ D
  CD : C ≠ D
structure CompAt (h₀ : Heap) (L I C D : Addr) (m : Str → Option Value) (J : Nat → List Value → List (Addr × Obj) → Array GenState → Prop) (St : Nat → Heap → Prop) (s₀ : Shared) (i : Nat) (ys : List Value) (mc : Str → Option Value) (news : List (Addr × Obj)) (s : Shared) : Prop where
  len : ys.length = i
  st : St i s.heap
  F : Fr h₀ L s.heap m
  ns : s.heap.Ns C mc
  N : News h₀ L s.heap ((D, LCg.lst ys) :: news)
  off : Far I C D news
  J : J i ys news s.gens
  drawn : s.drawn = s₀.drawn
  os : s.os = s₀.os
theorem fr_off {h h' : Heap} {I : Addr} (F : Fr h₀ L h m) (hI0 : h₀.get? I = none) (hIL : I ≠ L) (k : ∀ b o, b ∉ [I] → h.get? b = some o → h'.get? b = some o) : Fr h₀ L h' m :=
  ⟨F.ns.at' fun o e => k L o (fun q => hIL (List.mem_singleton.mp q).symm) e, fun b o e => k b o (fun q => by rw [List.mem_singleton.mp q, hI0] at e; cases e) (F.keep b o e), F.above⟩
theorem compLoop_G {elt iter : PySem.Expr} {x : Str} {px : Pos} {scope : Scope} {cl : List (Str × Addr)} {pos : Pos} {I C D : Addr} {n : Nat} {P : Nat → Value → Prop} {St : Nat → Heap → Prop} {R : Result → Shared → Prop}
    (W : Walks prog w A I [I] [I] n P St) (hsz : n ≤ sizeLine) (hx : scope.names.lookup x = some .local) (hkind : scope.kind = .function) (H : Hid3 h₀ L I C D) (hIo : ∀ i h, St i h → ∃ o, h.get? I = some o)
    (J : Nat → List Value → List (Addr × Obj) → Array GenState → Prop) {mc : Str → Option Value} {news : List (Addr × Obj)} (h0 : CompAt h₀ L I C D m J St s 0 [] mc news s)
    (turn : ∀ i v oI oC ys news₁ m₂ s₁ (E' : Value → Shared → Prop), i < n → P i v → J i ys news₁ s₁.gens → LCg.NsObj oC m₂ → m₂ x = some v → Fr h₀ L s₁.heap m → News h₀ L s₁.heap ((I, oI) :: (C, oC) :: (D, LCg.lst ys) :: news₁) → Far I C D news₁ → s₁.drawn = s.drawn → s₁.os = s.os →
      wpAny (model prog w) A (eval elt (compEnvC scope cl C env)) (fun y s' => ∃ news', Fr h₀ L s'.heap m ∧ News h₀ L s'.heap ((I, oI) :: (C, oC) :: (D, LCg.lst ys) :: news') ∧ Far I C D news' ∧ J (i + 1) (ys ++ [y]) news' s'.gens ∧ s'.drawn = s.drawn ∧ s'.os = s.os) E' s₁)
    (done : ∀ s' mc' ys news', J n ys news' s'.gens → Fr h₀ L s'.heap m → News h₀ L s'.heap ((D, LCg.lst ys) :: news') → Far I C D news' → s'.heap.Ns C mc' → s'.drawn = s.drawn → s'.os = s.os → R (.ok .next) s') :
    codeAny (model prog w) A (.compLoop (.ListComp elt [⟨.Name x px, iter, [], 0⟩] scope pos) 0 (.ref I) (.ref D) (compEnvC scope cl C env)) R s := by
  refine codeAny_compLoop_tests (fun k s' => ∃ i ys mc news, i ≤ n ∧ k = n + 1 - i ∧ CompAt h₀ L I C D m J St s i ys mc news s') ?_ (n + 1) ⟨0, [], mc, news, Nat.zero_le _, rfl, h0⟩
  rintro k s' ⟨i, ys, mc', news', hi, rfl, Q⟩
  have kN : ∀ {h' : Heap}, (∀ b o, b ∉ [I] → s'.heap.get? b = some o → h'.get? b = some o) → News h₀ L h' ((D, LCg.lst ys) :: news') := fun k p hp => by
    refine ⟨k _ _ (fun q => ?_) (Q.N p hp).1, (Q.N p hp).2⟩
    rcases List.mem_cons.mp hp with rfl | hp
    · exact H.ID (List.mem_singleton.mp q).symm
    · exact (Q.off p hp).1 (List.mem_singleton.mp q)
  have kC : ∀ {h' : Heap}, (∀ b o, b ∉ [I] → s'.heap.get? b = some o → h'.get? b = some o) → h'.Ns C mc' := fun k => Q.ns.at' fun o e => k C o (fun q => H.IC (List.mem_singleton.mp q).symm) e
  by_cases hlt : i < n
  · refine W.item i _ _ _ hlt Q.st fun v h₂ tk₂ hP hst₂ hk₂ => ?_
    have F₂ := fr_off Q.F H.I0 H.IL hk₂
    have N₂ := kN hk₂
    refine wpAny_assign_Name (wpAny_storeName_local (lookup_relabel_local hx) (kC hk₂) (fun h₃ hn₃ hs₃ => ?_) (by simp [compEnvC, relabel, hkind]))
    refine wpAny_tests_nil ?_
    simp only [if_true]
    have hst₃ : St (i + 1) h₃ := W.frame _ _ _ hst₂ fun b hb o e => hs₃.extBut b o (fun q => H.IC ((List.mem_singleton.mp hb).symm.trans q)) e
    obtain ⟨oI, heI⟩ := hIo _ _ hst₃
    obtain ⟨oC, heC, hoC⟩ := LCg.ns_obj hn₃
    have F₃ : Fr h₀ L h₃ m := F₂.change hs₃ H.CL H.C0
    have N₃ : News h₀ L h₃ ((I, oI) :: (C, oC) :: (D, LCg.lst ys) :: news') := fun p hp => by
      rcases List.mem_cons.mp hp with rfl | hp
      · exact ⟨heI, H.IL, H.I0⟩
      · rcases List.mem_cons.mp hp with rfl | hp
        · exact ⟨heC, H.CL, H.C0⟩
        · refine ⟨hs₃.extBut _ _ ?_ (N₂ p hp).1, (N₂ p hp).2⟩
          rcases List.mem_cons.mp hp with rfl | hp
          · exact H.CD.symm
          · exact (Q.off p hp).2.1
    refine wpAny_mono (turn i v oI oC ys news' _ _ _ hlt hP Q.J hoC (by simp) F₃ N₃ Q.off Q.drawn Q.os) (fun y s₄ h₄ => ?_) fun _ _ e => e
    obtain ⟨news₄, F₄, N₄, off₄, J₄, hd₄, ho₄⟩ := h₄
    have zI := (N₄ _ (.head _)).1
    have zC := (N₄ _ (.tail _ (.head _))).1
    have zD := (N₄ _ (.tail _ (.tail _ (.head _)))).1
    have hst₄ : St (i + 1) s₄.heap := W.frame _ _ _ hst₃ fun b hb o e => by
      rw [List.mem_singleton.mp hb] at e ⊢
      rw [heI] at e; cases e
      exact zI
    refine append_at (hsz := by show ys.toArray.size ≤ sizeLine; rw [List.size_toArray, Q.len]; exact Nat.le_trans hi hsz) zD fun h₅ hs₅ hD₅ => ?_
    refine ⟨n + 1 - (i + 1), by omega, i + 1, ys ++ [y], _, news₄, hlt, rfl, ⟨by rw [List.length_append, List.length_singleton, Q.len], W.frame _ _ _ hst₄ fun b hb o e => hs₅.extBut b o (fun q => H.ID ((List.mem_singleton.mp hb).symm.trans q)) e, F₄.change hs₅ H.DL H.D0,
      (hoC.ns zC).sameBut hs₅ H.CD, fun p hp => ?_, off₄, J₄, hd₄, ho₄⟩⟩
    rcases List.mem_cons.mp hp with rfl | hp
    · exact ⟨hD₅.trans (congrArg some (LCg.lst_snoc ys y)), H.DL, H.D0⟩
    · exact ⟨hs₅.extBut _ _ (off₄ p hp).2.2 (N₄ p (.tail _ (.tail _ (.tail _ hp)))).1, (N₄ p (.tail _ (.tail _ (.tail _ hp)))).2⟩
  · obtain rfl : i = n := Nat.le_antisymm hi (Nat.not_lt.mp hlt)
    refine W.done _ _ _ Q.st fun h₂ tk₂ hk₂ => ?_
    exact done { s' with heap := h₂, toks := tk₂ } mc' ys news' Q.J (fr_off Q.F H.I0 H.IL hk₂) (kN hk₂) Q.off (kC hk₂) Q.drawn Q.os
end
end Mine
end PartV19
section PartV20
open PySem PySem.W PySem.Calls PyProof.Rows PySem.Spec
namespace Mine
section
variable {prog : Program} {w : World} {A : Around} {E : Value → Shared → Prop} {s : Shared} {h₀ : Heap} {L : Addr} {m : Str → Option Value} {env : Env}
theorem range_walks0 {prog : Program} {w : World} {A : Around} {I : Addr} (hh : A.handled = none) (a : Int) (n : Nat) : Walks prog w A I [I] [I] n (fun i v => ∃ t, v = .int (a + (i : Int)) t) (fun i h => IsRangeIter h I (a + (i : Nat) * 1) ((n : Int) - (i : Nat)) 1) := LCg.range_walks hh a n
noncomputable def RangeG (prog : Program) (w : World) (A : Around) (h₀ : Heap) (L : Addr) (m : Str → Option Value) (env : Env) (elt : PySem.Expr) (x : Str) (scope : Scope) (cl : List (Str × Addr)) (Fin : Shared → List Value → List (Addr × Obj) → Prop) (xv : Value) (s₁ : Shared) : Prop :=
  ∃ r a b t u v n news, xv = .ref r ∧ A.handled = none ∧ Fr h₀ L s₁.heap m ∧ News h₀ L s₁.heap news ∧ IsRange s₁.heap r a b 1 t u v ∧ Builtin.Range.small a b 1 = true ∧ Builtin.Range.rangeSize a b 1 = ((n : Nat) : Int) ∧ n ≤ sizeLine ∧
    ∃ J : Nat → List Value → List (Addr × Obj) → Array GenState → Prop, J 0 [] news s₁.gens ∧
      (∀ I C D, Hid3 h₀ L I C D → ∀ i tk oI oC ys news₁ m₂ s₂ (E' : Value → Shared → Prop), i < n → J i ys news₁ s₂.gens → LCg.NsObj oC m₂ → m₂ x = some (.int (a + (i : Int)) tk) → Fr h₀ L s₂.heap m → News h₀ L s₂.heap ((I, oI) :: (C, oC) :: (D, LCg.lst ys) :: news₁) → Far I C D news₁ → s₂.drawn = s₁.drawn → s₂.os = s₁.os →
        wpAny (model prog w) A (eval elt (compEnvC scope cl C env)) (fun y s' => ∃ news', Fr h₀ L s'.heap m ∧ News h₀ L s'.heap ((I, oI) :: (C, oC) :: (D, LCg.lst ys) :: news') ∧ Far I C D news' ∧ J (i + 1) (ys ++ [y]) news' s'.gens ∧ s'.drawn = s₁.drawn ∧ s'.os = s₁.os) E' s₂) ∧
      (∀ s' ys news', J n ys news' s'.gens → s'.drawn = s₁.drawn → s'.os = s₁.os → Fin s' ys news')
theorem assign_range_G {elt iter : PySem.Expr} {x y : Str} {px py : Pos} {scope : Scope} {cl : List (Str × Addr)} {pos spos : Pos} {Q : Flow → Shared → Prop} (F₀ : Fr h₀ L s.heap m) (hLe : env.locals = L)
    (hsw : swapsWith (.ListComp elt [⟨.Name x px, iter, [], 0⟩] scope pos) (some (.Name y py)) spos.line env = pure true)
    (hclos : closureFor scope env = pure cl) (hcell : ∀ z ∈ scope.names, z.2 ≠ .cell) (hkind : scope.kind = .function)
    (hnames : ∀ z ∈ scope.names, z.2 = .local → scope.names.lookup z.1 = some .local) (hx : scope.names.lookup x = some .local)
    (hy : env.kindOf y = some .local) (hp : (env.scope.kind == .class || (env.scope.kind == .module && env.locals != env.globals)) = false)
    (h : wpAny (model prog w) A (eval iter env) (RangeG prog w A h₀ L m env elt x scope cl (fun s' ys news' => ∀ D h'' tk, Fr h₀ L h'' (fun z => if z = y then some (.ref D) else m z) → News h₀ L h'' ((D, LCg.lst ys) :: news') → (∀ p ∈ news', p.1 ≠ D) → Q .next { s' with heap := h'', toks := tk })) E s)
    (hs : ∀ x, foldedSetIterable iter env x = pure x := by intro _; rfl) :
    wpAny (model prog w) A (exec (.Assign [.Name y py] (.ListComp elt [⟨.Name x px, iter, [], 0⟩] scope pos) spos) env) Q E s := by
  subst hLe
  rw [exec_Assign_Name_used _ _ _ _ hsw]
  refine wpAny_bind (wpAny_standAt (wpAny_bind ?_))
  show wpAny _ A (do let _ ← comprehension (.ListComp elt [⟨.Name x px, iter, [], 0⟩] scope pos) scope env _ (newList []) false (eval iter env) (some (assign (.Name y py) env))) _ _ s
  refine wpAny_bind (wpAny_mono (wpAny_comprehension_free (use := some (assign (.Name y py) env)) (Q := fun _ s' => Q .next s') rfl hs hclos hkind hnames
    (wpAny_mono h (fun xv s₁ h₁ => ?_) fun _ _ e => e)) (fun _ s' hq => wpAny_pure (wpAny_pure hq)) fun _ _ e => e)
  obtain ⟨r, a, b, t, u, v, n, news, rfl, hh, F, N, hr, hsm, hn, hsz, J, hJ, turn, fin⟩ := h₁
  refine wpAny_pyIter_range hr hsm ?_
  have hI0 := fresh_none F (Nat.le_refl s₁.heap.objs.size)
  have offI := fresh_neN N (Nat.le_refl s₁.heap.objs.size)
  have hIL := Nat.ne_of_lt F.ns.lt
  rw [hn]
  have F1 := F.push (o := { cls := .type "range_iterator", dict := none, data := .fields #[rawInt a, rawInt (n : Int), rawInt 1], slots := #[] })
  have N1 : News h₀ env.locals (s₁.heap.push { cls := .type "range_iterator", dict := none, data := .fields #[rawInt a, rawInt (n : Int), rawInt 1], slots := #[] }) news := News.up N fun b' o' e => Heap.get?_push_of_some _ e
  have st1 : IsRangeIter (s₁.heap.push { cls := .type "range_iterator", dict := none, data := .fields #[rawInt a, rawInt (n : Int), rawInt 1], slots := #[] }) s₁.heap.objs.size a n 1 := Heap.get?_push_size _ rfl
  have sz1 : (s₁.heap.push { cls := .type "range_iterator", dict := none, data := .fields #[rawInt a, rawInt (n : Int), rawInt 1], slots := #[] }).objs.size = s₁.heap.objs.size + 1 := Heap.size_push ..
  generalize s₁.heap.push { cls := .type "range_iterator", dict := none, data := .fields #[rawInt a, rawInt (n : Int), rawInt 1], slots := #[] } = H1 at F1 N1 st1 sz1 ⊢
  generalize hI : s₁.heap.objs.size = I at *
  refine wpAny_newObj_type (wpAny_newFunctionEnv hcell (by intro z hz; simp at hz) (fun h₁ hns₁ hsb₁ => ?_) hkind)
  dsimp only at hns₁ hsb₁ ⊢
  have szD : (H1.push { cls := .type "list", dict := none, data := .seq ([] : List Value).toArray }).objs.size = H1.objs.size + 1 := Heap.size_push ..
  have offD := fresh_neN N1 (Nat.le_refl H1.objs.size)
  have offC := fresh_neN N1 (Nat.le_succ H1.objs.size)
  have hD0 := fresh_none (s := { s₁ with heap := H1 }) F1 (Nat.le_refl H1.objs.size)
  have hC0 := fresh_none (s := { s₁ with heap := H1 }) F1 (Nat.le_succ H1.objs.size)
  have hDL := Nat.ne_of_gt F1.ns.lt
  have hCL := Nat.ne_of_gt (Nat.lt_succ_of_lt F1.ns.lt)
  have hIlt : I < H1.objs.size := by rw [sz1]; exact Nat.lt_succ_self _
  have H : Hid3 h₀ env.locals I (H1.objs.size + 1) H1.objs.size := ⟨hI0, hC0, hD0, Ne.symm hIL, hCL, hDL, Nat.ne_of_lt (Nat.lt_succ_of_lt hIlt), Nat.ne_of_lt hIlt, Nat.succ_ne_self _⟩
  rw [szD] at hns₁ hsb₁ ⊢
  have up : ∀ b' o, H1.get? b' = some o → h₁.get? b' = some o := fun b' o e => hsb₁.extBut b' o (Nat.ne_of_lt (Nat.lt_succ_of_lt (Heap.lt_size e))) (Heap.get?_push_of_some _ (Heap.get?_push_of_some _ e))
  have hD₁ : h₁.get? H1.objs.size = some (LCg.lst []) := hsb₁.extBut _ _ (Nat.ne_of_lt (Nat.lt_succ_self _)) (Heap.get?_push_of_some _ (Heap.get?_push_size _ rfl))
  have loop : codeAny (model prog w) A (.compLoop (.ListComp elt [⟨.Name x px, iter, [], 0⟩] scope pos) 0 (.ref I) (.ref H1.objs.size) (compEnvC scope cl (H1.objs.size + 1) env))
      (compPost (model prog w) A E (some (assign (.Name y py) env)) (fun _ s' => Q .next s') (.ref H1.objs.size) (H1.objs.size + 1)) { s₁ with heap := h₁, toks := s₁.toks + ([] : List (Str × Value)).length } := by
    refine compLoop_G (m := m) (news := news) (range_walks0 hh a n) hsz hx hkind H (fun i h e => ⟨_, e⟩) J ⟨rfl, ?_, F1.keeps up, hns₁, ?_, fun p hp => ⟨offI p hp, offC p hp, offD p hp⟩, hJ, rfl, rfl⟩ ?_ ?_
    · show IsRangeIter h₁ I _ _ 1
      have : IsRangeIter h₁ I a n 1 := up _ _ st1
      simpa using this
    · intro p hp
      rcases List.mem_cons.mp hp with rfl | hp
      · exact ⟨hD₁, hDL, hD0⟩
      · exact ⟨up _ _ (N1 p hp).1, (N1 p hp).2⟩
    · rintro i v' oI oC ys news₁ m₂ s₂ E' hi ⟨tk, rfl⟩ hJ₁ hC hmx F₂ N₂ off₂ hd ho
      exact turn I _ _ H i tk oI oC ys news₁ m₂ s₂ E' hi hJ₁ hC hmx F₂ N₂ off₂ hd ho
    · intro s' mc' ys news' hJ' F' N' off' hn' hd ho
      show wpAny _ A (assign (.Name y py) env (.ref H1.objs.size)) _ _ _
      refine wpAny_assign_Name (wpAny_storeName_local hy F'.ns (fun h₂ hn₂ hs₂ => ?_) hp)
      have F₂ : Fr h₀ env.locals h₂ (fun z => if z = y then some (.ref H1.objs.size) else m z) := F'.set hn₂ hs₂
      refine ⟨mc', hn'.sameBut hs₂ hCL, fun h'' hs'' => fin s' ys news' hJ' hd ho _ h'' _ (F₂.change hs'' hCL hC0) (fun p hp => ?_) (fun p hp => (off' p hp).2.2)⟩
      have z : h₂.get? p.1 = some p.2 := hs₂.extBut _ _ (N' p hp).2.1 (N' p hp).1
      refine ⟨hs''.extBut _ _ ?_ z, (N' p hp).2⟩
      rcases List.mem_cons.mp hp with rfl | hp
      · exact (Nat.succ_ne_self _).symm
      · exact (off' p hp).2.1
  exact codeAny_compStart_list loop ((range_walks0 (w := w) (prog := prog) hh a n).self 0 _ _ _ (by
    have : IsRangeIter h₁ I a n 1 := up _ _ st1
    show IsRangeIter h₁ I _ _ 1
    simpa using this) loop)
end
end Mine
end PartV20
section PartV21
open PySem PySem.W PySem.Calls PyProof.Rows PySem.Spec
namespace Mine
section
variable {prog : Program} {w : World} {A : Around} {E : Value → Shared → Prop} {R : Result → Shared → Prop} {s : Shared}
theorem turn_in (elt t0 i0 t1 i1 : PySem.Expr) (ifs : List PySem.Expr) (scope : Scope) (pos : Pos) (it acc : Value) (env : Env) :
    compTurn (.ListComp elt [⟨t0, i0, [], 0⟩, ⟨t1, i1, ifs, 0⟩] scope pos) 1 it acc env = (do
      standAt i1.pos
      match ← pyNext it with
      | none => pure (.done .next)
      | some v =>
        letOwnedTupleGo t1 it v
        assign t1 env v
        let mut ok := true
        for c in ifs do
          if ok then ok ← isTrue c env (eval c env)
        if ok then
          (do let _ ← call (.builtin "list.append") [acc, ← eval elt env])
        again (.compLoop (.ListComp elt [⟨t0, i0, [], 0⟩, ⟨t1, i1, ifs, 0⟩] scope pos) 1 it acc env)) := by rfl
theorem loop_in {elt t0 i0 i1 : PySem.Expr} {elts : List PySem.Expr} {x1} {tp : Pos} {ifs : List PySem.Expr} {scope : Scope} {pos : Pos} {it acc : Value} {env : Env} (I : Nat → Shared → Prop)
    (turn : ∀ n s, I n s → wpAny (model prog w) A (pyNext it) (fun r s₁ => match r with
      | none => R (.ok .next) s₁
      | some v => wpAny (model prog w) A (letOwnedTupleGo (.Tuple elts x1 tp) it v) (fun _ s₁' => wpAny (model prog w) A (assign (.Tuple elts x1 tp) env v) (fun _ s₂ =>
          wpAny (model prog w) A (forIn ifs true fun c r => if r = true then do let ok ← isTrue c env (eval c env); pure (ForInStep.yield ok) else pure (ForInStep.yield r)) (fun ok s₃ =>
            if ok = true then wpAny (model prog w) A (eval elt env) (fun x s₄ =>
              wpAny (model prog w) A (call (.builtin "list.append") [acc, x]) (fun _ s₅ => ∃ m, m < n ∧ I m s₅) (notedBy (model prog w) A env fun e s' => R (.error e) s') s₄) (notedBy (model prog w) A env fun e s' => R (.error e) s') s₃
            else ∃ m, m < n ∧ I m s₃) (notedBy (model prog w) A env fun e s' => R (.error e) s') s₂) (notedBy (model prog w) A env fun e s' => R (.error e) s') s₁') (notedBy (model prog w) A env fun e s' => R (.error e) s') s₁) (notedBy (model prog w) A env fun e s' => R (.error e) s') s)
    (n : Nat) (h : I n s) : codeAny (model prog w) A (.compLoop (.ListComp elt [⟨t0, i0, [], 0⟩, ⟨.Tuple elts x1 tp, i1, ifs, 0⟩] scope pos) 1 it acc env) R s := by
  refine codeAny_loop rfl I (fun n s hI => ?_) n h
  show wpAny _ A ((compTurn (.ListComp elt [⟨t0, i0, [], 0⟩, ⟨.Tuple elts x1 tp, i1, ifs, 0⟩] scope pos) 1 it acc env).onRaise (fun x => do noteFrame x env; theTreesLotGoes x)) _ _ s
  refine wpAny_noted ?_
  rw [turn_in]
  refine wpAny_bind (wpAny_standAt (wpAny_bind (wpAny_mono (turn n s hI) (fun r s₁ h₁ => ?_) fun _ _ h' => h')))
  cases r with
  | none => exact wpAny_pure h₁
  | some v =>
    refine wpAny_bind (wpAny_mono h₁ (fun _ s₁' h₁' => ?_) fun _ _ h' => h')
    refine wpAny_bind (wpAny_mono h₁' (fun _ s₂ h₂ => wpAny_bind (wpAny_mono h₂ (fun ok s₃ h₃ => ?_) fun _ _ h' => h')) fun _ _ h' => h')
    cases ok with
    | false => exact wpAny_pure ⟨rfl, h₃⟩
    | true => exact wpAny_bind (wpAny_bind (wpAny_mono h₃ (fun x s₄ h₄ => wpAny_bind (wpAny_mono h₄ (fun _ s₅ h₅ => wpAny_pure (wpAny_pure ⟨rfl, h₅⟩)) fun _ _ h' => h')) fun _ _ h' => h'))
theorem turn_out (elt t0 i0 t1 i1 : PySem.Expr) (ifs : List PySem.Expr) (scope : Scope) (pos : Pos) (it acc : Value) (env : Env) :
    compTurn (.ListComp elt [⟨t0, i0, [], 0⟩, ⟨t1, i1, ifs, 0⟩] scope pos) 0 it acc env = (do
      standAt i0.pos
      match ← pyNext it with
      | none => pure (.done .next)
      | some v =>
        letOwnedTupleGo t0 it v
        assign t0 env v
        let x ← eval i1 env
        standAt i1.pos
        let x ← foldedSetIterable i1 env x
        let _ ← runOwn (.compStart (.ListComp elt [⟨t0, i0, [], 0⟩, ⟨t1, i1, ifs, 0⟩] scope pos) 1 (← holding [x] (pyIter x)) acc env) env
        again (.compLoop (.ListComp elt [⟨t0, i0, [], 0⟩, ⟨t1, i1, ifs, 0⟩] scope pos) 0 it acc env)) := by rfl
theorem loop_out {elt i0 t1 i1 : PySem.Expr} {x : Str} {px : Pos} {ifs : List PySem.Expr} {scope : Scope} {pos : Pos} {it acc : Value} {env : Env} (I : Nat → Shared → Prop) (hs : ∀ x, foldedSetIterable i1 env x = pure x)
    (turn : ∀ n s, I n s → wpAny (model prog w) A (pyNext it) (fun r s₁ => match r with
      | none => R (.ok .next) s₁
      | some v => wpAny (model prog w) A (assign (.Name x px) env v) (fun _ s₂ => wpAny (model prog w) A (eval i1 env) (fun y s₃ => wpAny (model prog w) A (pyIter y) (fun it' s₄ =>
          codeAny (model prog w) A (.compStart (.ListComp elt [⟨.Name x px, i0, [], 0⟩, ⟨t1, i1, ifs, 0⟩] scope pos) 1 it' acc env) (fun r s' => match r with | .ok _ => ∃ m, m < n ∧ I m s' | .error e => cameBackBy (model prog w) A env (notedBy (model prog w) A env fun e s' => R (.error e) s') e s') s₄)
          (notedBy (model prog w) A env fun e s' => R (.error e) s') s₃) (notedBy (model prog w) A env fun e s' => R (.error e) s') s₂) (notedBy (model prog w) A env fun e s' => R (.error e) s') s₁) (notedBy (model prog w) A env fun e s' => R (.error e) s') s)
    (n : Nat) (h : I n s) : codeAny (model prog w) A (.compLoop (.ListComp elt [⟨.Name x px, i0, [], 0⟩, ⟨t1, i1, ifs, 0⟩] scope pos) 0 it acc env) R s := by
  refine codeAny_loop rfl I (fun n s hI => ?_) n h
  show wpAny _ A ((compTurn (.ListComp elt [⟨.Name x px, i0, [], 0⟩, ⟨t1, i1, ifs, 0⟩] scope pos) 0 it acc env).onRaise (fun x => do noteFrame x env; theTreesLotGoes x)) _ _ s
  refine wpAny_noted ?_
  rw [turn_out]
  refine wpAny_bind (wpAny_standAt (wpAny_bind (wpAny_mono (turn n s hI) (fun r s₁ h₁ => ?_) fun _ _ h' => h')))
  cases r with
  | none => exact wpAny_pure h₁
  | some v =>
    refine wpAny_bind (wpAny_of_eq (a := ()) (by rfl) ?_)
    refine wpAny_bind (wpAny_mono h₁ (fun _ s₂ h₂ => wpAny_bind (wpAny_mono h₂ (fun y s₃ h₃ => wpAny_bind (wpAny_standAt (wpAny_bind (wpAny_of_eq (hs y) ?_)))) fun _ _ h' => h')) fun _ _ h' => h')
    refine wpAny_bind (wpAny_holding (wpAny_mono h₃ (fun it' s₄ h₄ => ?_) fun _ _ h' => h'))
    exact wpAny_bind (wpAny_mono (wpAny_runOwn h₄) (fun _ s₅ h₅ => wpAny_pure ⟨rfl, h₅⟩) fun _ _ h' => h')
theorem start_in {elt t0 i0 t1 i1 : PySem.Expr} {ifs : List PySem.Expr} {scope : Scope} {pos : Pos} {it acc : Value} {env : Env}
    (h0 : codeAny (model prog w) A (.compLoop (.ListComp elt [⟨t0, i0, [], 0⟩, ⟨t1, i1, ifs, 0⟩] scope pos) 1 it acc env) R s)
    (h : wpAny (model prog w) A (pyIter it) (fun it' s' => codeAny (model prog w) A (.compLoop (.ListComp elt [⟨t0, i0, [], 0⟩, ⟨t1, i1, ifs, 0⟩] scope pos) 1 it' acc env) R s')
      (notedBy (model prog w) A env fun x s' => R (.error x) s') s) :
    codeAny (model prog w) A (.compStart (.ListComp elt [⟨t0, i0, [], 0⟩, ⟨t1, i1, ifs, 0⟩] scope pos) 1 it acc env) R s := by
  refine codeAny_of_tree ?_
  show wpAny _ _ ((compStart (.ListComp elt [⟨t0, i0, [], 0⟩, ⟨t1, i1, ifs, 0⟩] scope pos) 1 it acc env).onRaise (fun x => do noteFrame x env; standAt theWindowsPlace)) _ _ s
  refine wpAny_notedAt ?_
  unfold compStart
  show wpAny _ _ (ask >>= _) _ _ s
  refine wpAny_bind (wpAny_askSetting (wpAny_ite ?_))
  split
  · first
      | exact wpAny_bind (wpAny_pure (wpAny_pure (And.intro rfl h0)))
      | exact wpAny_pure (And.intro rfl h0)
  · first
      | exact wpAny_bind (wpAny_rule (wpAny_bind (wpAny_standAt (wpAny_bind (wpAny_mono h (fun it' s' h' => wpAny_pure (And.intro rfl h')) fun _ _ x => x)))))
      | (refine wpAny_bind (wpAny_rule ?_); show wpAny _ _ (standAt i1.pos >>= _) _ _ s; exact wpAny_bind (wpAny_standAt (wpAny_bind (wpAny_mono h (fun it' s' h' => wpAny_pure (And.intro rfl h')) fun _ _ x => x))))
end
end Mine
end PartV21
section PartV22
open PySem PySem.W PySem.Calls PyProof.Rows PySem.Spec
namespace Mine
theorem WalkRs.get {rs : List Value} {tl : List (Addr × Obj)} {rows : List (Int × Int)} (h : WalkRs rs tl rows) : ∀ i, i < rows.length → ∃ T mk tot t u, rs[i]? = some (.ref T) ∧ rows[i]? = some (mk, tot) ∧ (T, tupO mk tot t u) ∈ tl := by
  induction h with
  | nil => intro i hi; exact absurd hi (Nat.not_lt_zero _)
  | @snoc rs tl rows T mk tot t u h ih =>
    intro i hi
    have hl := h.len
    by_cases hlt : i < rows.length
    · obtain ⟨T', mk', tot', t', u', e1, e2, e3⟩ := ih i hlt
      exact ⟨T', mk', tot', t', u', by rw [List.getElem?_append_left (by omega)]; exact e1, by rw [List.getElem?_append_left hlt]; exact e2, .tail _ e3⟩
    · have e : i = rows.length := by rw [List.length_append, List.length_singleton] at hi; omega
      subst e
      exact ⟨T, mk, tot, t, u, by rw [← hl]; simp, by simp, .head _⟩
noncomputable def pairT (p : Int × Int) : Bool := p.2 == 2 || p.2 == -2
noncomputable def pairM (rows : List (Int × Int)) : List Int := (rows.filter pairT).map (·.1)
theorem pairM_step {rows : List (Int × Int)} {i : Nat} {p : Int × Int} (h : rows[i]? = some p) : pairM (rows.take (i + 1)) = pairM (rows.take i) ++ (if pairT p = true then [p.1] else []) := by
  unfold pairM
  rw [List.take_add_one, h]
  simp only [Option.toList_some, List.filter_append, List.map_append]
  congr 1
  by_cases hp : pairT p = true
  · rw [if_pos hp, List.filter_cons_of_pos hp]; rfl
  · rw [if_neg hp, List.filter_cons_of_neg hp]; rfl
section
variable {prog : Program} {w : World} {A : Around} {E : Value → Shared → Prop} {R : Result → Shared → Prop} {s : Shared} {h₀ : Heap} {L : Addr} {m : Str → Option Value} {env : Env}
theorem inner_loop {elt t0 i0 i1 ct : PySem.Expr} {xa xb : Str} {pa pb tp : Pos} {x1} {scope : Scope} {cl : List (Str × Addr)} {pos : Pos} {I C D FD : Addr} {rs ys0 : List Value} {tl news : List (Addr × Obj)} {rows : List (Int × Int)} {ms : List Int} {mc : Str → Option Value}
    (hh : A.handled = none) (hxa : scope.names.lookup xa = some .local) (hxb : scope.names.lookup xb = some .local) (hab : xa ≠ xb) (hkind : scope.kind = .function) (H : Hid3 h₀ L I C D)
    (hFD : (FD, LCg.lst rs) ∈ news) (htl : ∀ p ∈ tl, p ∈ news) (rel : WalkRs rs tl rows) (hsz : ys0.length + rows.length ≤ 1000) (hy0 : IntsAre ys0 ms)
    (hit : s.heap.IsListIter I FD 0) (F : Fr h₀ L s.heap m) (hns : s.heap.Ns C mc) (N : News h₀ L s.heap ((D, LCg.lst ys0) :: news)) (off : Far I C D news)
    (test : ∀ tot t oI oC ys m₂ s₁ (E' : Value → Shared → Prop), LCg.NsObj oC m₂ → m₂ xb = some (.int tot t) → Fr h₀ L s₁.heap m → News h₀ L s₁.heap ((I, oI) :: (C, oC) :: (D, LCg.lst ys) :: news) → s₁ = { s with heap := s₁.heap, toks := s₁.toks } →
      wpAny (model prog w) A (isTrue ct (compEnvC scope cl C env) (eval ct (compEnvC scope cl C env))) (fun ok s' => ok = (tot == 2 || tot == -2) ∧ s' = { s with heap := s'.heap, toks := s'.toks } ∧ Fr h₀ L s'.heap m ∧ News h₀ L s'.heap ((I, oI) :: (C, oC) :: (D, LCg.lst ys) :: news)) E' s₁)
    (elem : ∀ mk t oC m₂ s₁ (E' : Value → Shared → Prop) (Q : Value → Shared → Prop), LCg.NsObj oC m₂ → m₂ xa = some (.int mk t) → s₁.heap.get? C = some oC → Q (.int mk t) s₁ → wpAny (model prog w) A (eval elt (compEnvC scope cl C env)) Q E' s₁)
    (done : ∀ s' mc' ys, s' = { s with heap := s'.heap, toks := s'.toks } → Fr h₀ L s'.heap m → s'.heap.Ns C mc' → News h₀ L s'.heap ((D, LCg.lst ys) :: news) → IntsAre ys (ms ++ pairM rows) → ys.length ≤ ys0.length + rows.length → R (.ok .next) s') :
    codeAny (model prog w) A (.compLoop (.ListComp elt [⟨t0, i0, [], 0⟩, ⟨.Tuple [.Name xa pa, .Name xb pb] x1 tp, i1, [ct], 0⟩] scope pos) 1 (.ref I) (.ref D) (compEnvC scope cl C env)) R s := by
  have hsp : ((compEnvC scope cl C env).scope.kind == .class || ((compEnvC scope cl C env).scope.kind == .module && (compEnvC scope cl C env).locals != (compEnvC scope cl C env).globals)) = false := by simp [compEnvC, relabel, hkind]
  refine loop_in (fun k s' => ∃ i ys mc', i ≤ rows.length ∧ k = rows.length - i ∧ s' = { s with heap := s'.heap, toks := s'.toks } ∧ s'.heap.IsListIter I FD i ∧ Fr h₀ L s'.heap m ∧ s'.heap.Ns C mc' ∧ News h₀ L s'.heap ((D, LCg.lst ys) :: news) ∧ IntsAre ys (ms ++ pairM (rows.take i)) ∧ ys.length ≤ ys0.length + i) ?_ rows.length
    ⟨0, ys0, mc, Nat.zero_le _, rfl, rfl, hit, F, hns, N, by simpa [pairM] using hy0, Nat.le_refl _⟩
  rintro k s' ⟨i, ys, mc', hi, rfl, e', it', F', ns', N', hy, hlen⟩
  have hl : s'.heap.IsList FD rs.toArray := ⟨_, (N' _ (.tail _ hFD)).1, rfl, _, rfl⟩
  have hrl := rel.len
  have kF : ∀ {h' : Heap}, (∀ b o, b ≠ I → s'.heap.get? b = some o → h'.get? b = some o) → Fr h₀ L h' m := fun k =>
    ⟨F'.ns.at' fun o e => k L o (Ne.symm H.IL) e, fun b o e => k b o (fun q => by rw [q, H.I0] at e; cases e) (F'.keep b o e), F'.above⟩
  have kN : ∀ {h' : Heap}, (∀ b o, b ≠ I → s'.heap.get? b = some o → h'.get? b = some o) → News h₀ L h' ((D, LCg.lst ys) :: news) := fun k p hp => by
    refine ⟨k _ _ ?_ (N' p hp).1, (N' p hp).2⟩
    rcases List.mem_cons.mp hp with rfl | hp
    · exact Ne.symm H.ID
    · exact (off p hp).1
  by_cases hlt : i < rows.length
  · obtain ⟨T, mk, tot, t, u, hT, hrow, hmem⟩ := rel.get i hlt
    refine wpAny_pyNext_list_item it' hl (x := .ref T) (by simpa using hT) fun h₁ it₁ hs₁ => ?_
    have F₁ := kF hs₁.extBut
    have N₁ := kN hs₁.extBut
    have ns₁ : h₁.Ns C mc' := ns'.at' fun o e => hs₁.extBut _ _ (Ne.symm H.IC) e
    refine wpAny_letOwnedTupleGo_listiter it₁ ?_
    have hTm := htl _ hmem
    have hT₁ : Heap.IsTuple h₁ T #[.int mk t, .int tot u] := ⟨_, (N₁ _ (.tail _ hTm)).1, rfl, _, rfl⟩
    refine wpAny_assign_Tuple hh hT₁ rfl rfl fun h₂ hx₂ => ?_
    have k₂ : ∀ b o, h₁.get? b = some o → h₂.get? b = some o := fun b o e => hx₂ b o (Nat.ne_of_lt (Heap.lt_size e)) e
    show wpAny _ A (do holding [.int tot u] (assign (.Name xa pa) (compEnvC scope cl C env) (.int mk t)); do holding [] (assign (.Name xb pb) (compEnvC scope cl C env) (.int tot u)); pure ()) _ _ _
    refine wpAny_bind (wpAny_holding (wpAny_assign_Name (wpAny_storeName_local (lookup_relabel_local hxa) (ns₁.at' fun o e => k₂ _ o e) (fun h₃ hn₃ hs₃ => ?_) hsp)))
    refine wpAny_bind (wpAny_holding (wpAny_assign_Name (wpAny_storeName_local (lookup_relabel_local hxb) hn₃ (fun h₄ hn₄ hs₄ => wpAny_pure ?_) hsp)))
    replace hs₃ : Heap.SameBut C h₂ h₃ := hs₃
    replace hs₄ : Heap.SameBut C h₃ h₄ := hs₄
    have k₄ : ∀ b o, b ≠ C → h₁.get? b = some o → h₄.get? b = some o := fun b o hb e => hs₄.extBut b o hb (hs₃.extBut b o hb (k₂ b o e))
    have F₄ : Fr h₀ L h₄ m := ⟨F₁.ns.at' fun o e => k₄ L o (Ne.symm H.CL) e, fun b o e => k₄ b o (fun q => by rw [q, H.C0] at e; cases e) (F₁.keep b o e), F₁.above⟩
    obtain ⟨oI, heI, hrI⟩ := it₁
    have heI₄ := k₄ _ _ H.IC heI
    obtain ⟨oC, heC, hoC⟩ := LCg.ns_obj hn₄
    have N₄ : News h₀ L h₄ ((I, oI) :: (C, oC) :: (D, LCg.lst ys) :: news) := fun p hp => by
      rcases List.mem_cons.mp hp with rfl | hp
      · exact ⟨heI₄, H.IL, H.I0⟩
      · rcases List.mem_cons.mp hp with rfl | hp
        · exact ⟨heC, H.CL, H.C0⟩
        · refine ⟨k₄ _ _ ?_ (N₁ p hp).1, (N₁ p hp).2⟩
          rcases List.mem_cons.mp hp with rfl | hp
          · exact Ne.symm H.CD
          · exact (off p hp).2.1
    have step : pairM (rows.take (i + 1)) = pairM (rows.take i) ++ (if (tot == 2 || tot == -2) = true then [mk] else []) := pairM_step hrow
    have es : ∀ hx tx, ({ s' with heap := hx, toks := tx } : Shared) = { s with heap := hx, toks := tx } := fun hx tx => by rw [e']
    refine wpAny_tests_one (wpAny_mono (test tot u oI oC ys _ _ _ hoC (by simp) F₄ N₄ (es _ _)) (fun ok s₅ h₅ => ?_) fun _ _ e => e)
    obtain ⟨rfl, e₅, F₅, N₅⟩ := h₅
    have it₅ : s₅.heap.IsListIter I FD (i + 1) := ⟨oI, (N₅ _ (.head _)).1, hrI⟩
    have ns₅ := hoC.ns (N₅ _ (.tail _ (.head _))).1
    have N₅' : News h₀ L s₅.heap ((D, LCg.lst ys) :: news) := fun p hp => N₅ p (.tail _ (.tail _ hp))
    by_cases hok : (tot == 2 || tot == -2) = true
    · rw [if_pos hok]
      refine elem mk t oC _ s₅ _ _ hoC (by simp [hab]) (N₅ _ (.tail _ (.head _))).1 ?_
      refine append_at (hsz := ?hsz) (N₅' _ (.head _)).1 fun h₆ hs₆ hD₆ => ?_
      case hsz =>
        show ys.toArray.size ≤ sizeLine
        rw [List.size_toArray]
        exact Nat.le_trans (show ys.length ≤ 1000 by omega) (by decide)
      refine ⟨rows.length - (i + 1), by omega, i + 1, ys ++ [.int mk t], _, hlt, rfl, by rw [e₅], ⟨oI, hs₆.extBut _ _ H.ID (N₅ _ (.head _)).1, hrI⟩, F₅.change hs₆ H.DL H.D0, ns₅.sameBut hs₆ H.CD, fun p hp => ?_, ?_, by rw [List.length_append, List.length_singleton]; omega⟩
      · rcases List.mem_cons.mp hp with rfl | hp
        · exact ⟨hD₆.trans (congrArg some (LCg.lst_snoc ys _)), H.DL, H.D0⟩
        · exact ⟨hs₆.extBut _ _ (off p hp).2.2 (N₅' p (.tail _ hp)).1, (N₅' p (.tail _ hp)).2⟩
      · rw [step, if_pos hok, ← List.append_assoc]
        exact ints_snoc0 hy
    · rw [if_neg hok]
      refine ⟨rows.length - (i + 1), by omega, i + 1, ys, _, hlt, rfl, e₅, it₅, F₅, ns₅, N₅', ?_, by omega⟩
      rw [step, if_neg hok, List.append_nil]
      exact hy
  · have e : i = rows.length := Nat.le_antisymm hi (Nat.not_lt.mp hlt)
    subst e
    refine wpAny_pyNext_list_end hh it' hl (by simp [hrl]) fun h₁ hk₁ => ?_
    rw [List.take_length] at hy
    exact done _ mc' ys (by rw [e']) (kF hk₁) (ns'.at' fun o e => hk₁ _ _ (Ne.symm H.IC) e) (kN hk₁) hy hlen
end
end Mine
end PartV22
section PartV0
open PySem PySem.W PySem.Calls PyProof.Rows
namespace Mine
noncomputable def b1L : List Int := [65024, 65025, 65026, 65027, 65028, 65029, 6150, 65030, 65031, 65032, 65033, 6155, 6156, 6157, 8203, 8204, 8205, 65034, 65035, 65036, 65037, 65038, 65039, 173, 847, 8288, 65279]
noncomputable def isB1 (k : Int) : Bool := b1L.any fun j => Value.isInt k (.int j 0)
noncomputable def b1Es (P : Params) : List (Int × Value) := match (o64_0 P).data with
  | .set es _ _ => es.toList
  | _ => []
theorem b1Es_eq (P : Params) (k : Int) : (b1Es P).any (fun e => Value.isInt k e.2) = isB1 k := by
  rfl
theorem b1Es_ok (P : Params) : (b1Es P).all (fun e => match e.2 with | .int j _ => decide (e.1 = hashInt j) && e.2.scannable | _ => false) = true := by
  rfl
theorem set64 {w : World} {h₀ h : Heap} {L : Addr} {m : Str → Option Value} (X : (KX w.params).In h₀) (F : Fr h₀ L h m) : h.SetOf (intKind pw w) 64 isB1 27 := by
  refine ⟨o64_0 w.params, _, _, _, F.keep _ _ (X 64 _ rfl), ⟨rfl, rfl, rfl⟩, rfl, ?_, ?_, by show 27 < scanBound; decide, rfl, rfl⟩
  · intro e he
    have := List.all_eq_true.mp (b1Es_ok w.params) e he
    revert this
    cases hv : e.2 with
    | int j t =>
      intro h
      have h := Bool.and_eq_true_iff.mp h
      exact ⟨⟨j, by show Value.isInt j (.int j t) = true; simp [Value.isInt], of_decide_eq_true h.1⟩, h.2⟩
    | _ => intro h; cases h
  · intro k
    rw [← b1Es_eq w.params k, List.any_eq_true]
    exact Iff.rfl
theorem in64 {w : World} {A : Around} {E : Value → Shared → Prop} {s : Shared} {h₀ : Heap} {L : Addr} {m : Str → Option Value} {c : Int} {t : Tok} {Q : Value → Shared → Prop} (X : (KX w.params).In h₀) (F : Fr h₀ L s.heap m)
    (h : Q (.bool (isB1 c)) { s with toks := s.toks + 1 }) : wpAny (model pw w) A (compareOp .In (.int c t) (.ref 64)) Q E s :=
  wpAny_inSet_of (knd := intKind pw w) (by show Value.isInt c (.int c t) = true; simp [Value.isInt]) rfl (set64 X F) h
noncomputable def b3Es : List DictEntry := match (b3 0).data with
  | .dict es _ => es.toList
  | _ => []
noncomputable def b3F (k : Int) : Option Value := findBy Value.isInt b3Es.toArray k
theorem b3Es_eq : b3Es = ents3 309 (chunk 0 ++ ((List.range 37).map fun i => chunk (i + 1)).flatten) ++ ents2 (309 + 3 * (chunk 0 ++ ((List.range 37).map fun i => chunk (i + 1)).flatten).length) (b3L.drop 646) := rfl
theorem dict75 {w : World} {h₀ h : Heap} {L : Addr} {m : Str → Option Value} (X : (KX w.params).In h₀) (F : Fr h₀ L h m) : h.MapOf (intKind pw w) 75 b3F := by
  refine ⟨b3 0, b3Es.toArray, _, F.keep _ _ (X 75 _ rfl), ⟨rfl, rfl, rfl⟩, rfl, ?_, fun k => rfl⟩
  intro e he
  have he := List.mem_toArray.mp he
  rw [b3Es_eq] at he
  have key : ∃ k u, e.key = .int k u ∧ e.hash = hashInt k := by
    rcases List.mem_append.mp he with he | he
    · exact ents3_keys _ _ e he
    · exact ents2_keys _ _ e he
  obtain ⟨k, u, e1, e2⟩ := key
  exact ⟨k, by show Value.isInt k e.key = true; rw [e1]; simp [Value.isInt], e2⟩
theorem get75_method {w : World} {A : Around} {E : Value → Shared → Prop} {s : Shared} {h₀ : Heap} {L : Addr} {m : Str → Option Value} {pl : Sem Bool} {Q : Value × List Value → Shared → Prop} (X : (KX w.params).In h₀) (F : Fr h₀ L s.heap m) (h : Q (.builtin "dict.get", [.ref 75]) s) :
    wpAny (model pw w) A (getMethod (.ref 75) "get" pl) Q E s :=
  have hM := dict75 X F
  have hT : s.TypeIs (.ref 75) "dict" := ⟨b3 0, F.keep _ _ (X 75 _ rfl), rfl⟩
  getMethod_builtin hT PySem.F.plainAttrs_dict PySem.F.slot_dict_get PySem.F.type_dict_get (fun b e => by cases e; exact ⟨b3 0, F.keep _ _ (X 75 _ rfl), rfl⟩) h
theorem get75 {w : World} {A : Around} {E : Value → Shared → Prop} {s : Shared} {h₀ : Heap} {L : Addr} {m : Str → Option Value} {c : Int} {t : Tok} {Q : Value → Shared → Prop} (X : (KX w.params).In h₀) (F : Fr h₀ L s.heap m) (v : Value) (hl : (b3F c).getD .none = v) (h : Q v { s with toks := s.toks + 1 }) :
    wpAny (model pw w) A (call (.builtin "dict.get") [.ref 75, .int c t]) Q E s :=
  have hT : s.TypeIs (.ref 75) "dict" := ⟨b3 0, F.keep _ _ (X 75 _ rfl), rfl⟩
  call_meetsIn PySem.F.slot_dict_get hT PySem.F.entry_dict_get (PySem.F.args_dict_get_2 _ _) (meets_dict_get (intKind pw w) 75 (by show Value.isInt c (.int c t) = true; simp [Value.isInt]) rfl) ⟨_, dict75 X F, by rw [hl]; exact h⟩
end Mine
end PartV0
section PartW2
open PySem PySem.W PySem.Calls PyProof.Rows
namespace Mine
set_option maxHeartbeats 8000000
local macro_rules | `(tactic| walk_at "idle") => `(tactic| skip)
local macro_rules | `(tactic| walk_at "idle") => `(tactic| skip)
local macro_rules | `(tactic| walk_at "idle") => `(tactic| skip)
local macro_rules | `(tactic| walk_at "compareOp") => `(tactic| (k_here; (with_reducible show wpAny _ _ (compareOp CmpOp.In (Value.int _ _) (Value.ref 64)) _ _ _); k_dflt (refine' in64 ?k1 ?k2 ?_; (case k1 => k_asm); (case k2 => k_asm); k_whole)))
local macro_rules | `(tactic| walk_at "getMethod") => `(tactic| (k_here; (with_reducible show wpAny _ _ (getMethod (Value.ref 75) _ _) _ _ _); k_dflt (refine' get75_method ?k1 ?k2 ?_; (case k1 => k_asm); (case k2 => k_asm); k_whole)))
theorem c_b1 {w : World} (c : Nat) (t : Tok) : CC 2 w 74 [.str ⟨#[c]⟩ t] (fun t => .bool (isB1 c)) := by
  k_with_none
  w_on
  dsimp only [CC, CbRet]
  intros; rename_i hret
  refine wpAny_call ?_
  k_dflt (refine' code_def (binds := [(Str.ofString "code", .str ⟨#[c]⟩ t)]) ?k1 ?k2 ?k3 ?k4 ?k5 ?kA ?kF ?kK ?k6 ?k7 ?k8 ?k9 ?kB ?_ ?c2 ?c3 ?c4 ?c5; (case kA => exact rfl); (case kF => exact rfl); (case kK => assumption); (case k1 => k_asm); (case k2 => k_asm); (case k3 => k_asm); (case k4 => k_asm); (case k5 => k_asm); (case k6 => k_is); (case k7 => k_is); (case k8 => ktr_room); (case k9 => exact BindsTo.of_eq rfl); (case c5 => decide); (case kB => exact locs rfl); (case c2 => exact rfl); (case c3 => exact rfl); (case c4 => exact rfl); k_whole; intro g' L' h' FG' F' N' B' X' T'; (try dsimp only); (try k_fold))
  repeat' (first | (k_unfold; (try dsimp only)) | (k_end; kc_close) | (walk1; (try dsimp only)) | (leave1; walk_say "STEP leave1"; (try dsimp only)) | fail "no step")
  all_goals cb_end hret
local macro_rules | `(tactic| walk_at "call builtin:str.lower") => `(tactic| (k_here; k_dflt (refine' KXw.lower (by with_reducible assumption) (by with_reducible assumption) ?_; k_whole; intro _ _)))
local macro_rules | `(tactic| walk_at "call builtin:dict.get") => `(tactic| (k_here; k_dflt (refine' get75 ?k1 ?k2 _ (by with_reducible assumption) ?_; (case k1 => k_asm); (case k2 => k_asm); k_whole)))
theorem c_b3_hit {w : World} (c : Nat) (t u : Tok) (r : Str) (hv : (b3F (c : Int)).getD .none = .str r u) : CC 2 w 120 [.str ⟨#[c]⟩ t] (fun t => .str r t) := by
  k_with_none
  w_on
  dsimp only [CC, CbRet]
  intros; rename_i hret
  refine wpAny_call ?_
  k_dflt (refine' code_def (binds := [(Str.ofString "code", .str ⟨#[c]⟩ t)]) ?k1 ?k2 ?k3 ?k4 ?k5 ?kA ?kF ?kK ?k6 ?k7 ?k8 ?k9 ?kB ?_ ?c2 ?c3 ?c4 ?c5; (case kA => exact rfl); (case kF => exact rfl); (case kK => assumption); (case k1 => k_asm); (case k2 => k_asm); (case k3 => k_asm); (case k4 => k_asm); (case k5 => k_asm); (case k6 => k_is); (case k7 => k_is); (case k8 => ktr_room); (case k9 => exact BindsTo.of_eq rfl); (case c5 => decide); (case kB => exact locs rfl); (case c2 => exact rfl); (case c3 => exact rfl); (case c4 => exact rfl); k_whole; intro g' L' h' FG' F' N' B' X' T'; (try dsimp only); (try k_fold))
  repeat' (first | (k_unfold; (try dsimp only)) | (k_end; kc_close) | (walk1; (try dsimp only)) | (leave1; walk_say "STEP leave1"; (try dsimp only)) | fail "no step")
  all_goals cb_end hret
theorem c_b3_miss {w : World} (c : Nat) (t : Tok) (r : Str) (hv : (b3F (c : Int)).getD .none = .none) (hl : Txt.lower ⟨#[c]⟩ = r) (hf : Builtin.Str.tooLong (Txt.lower ⟨#[c]⟩).length = false) : CC 2 w 120 [.str ⟨#[c]⟩ t] (fun t => .str r t) := by
  k_with_none
  w_on
  dsimp only [CC, CbRet]
  intros; rename_i hret
  refine wpAny_call ?_
  k_dflt (refine' code_def (binds := [(Str.ofString "code", .str ⟨#[c]⟩ t)]) ?k1 ?k2 ?k3 ?k4 ?k5 ?kA ?kF ?kK ?k6 ?k7 ?k8 ?k9 ?kB ?_ ?c2 ?c3 ?c4 ?c5; (case kA => exact rfl); (case kF => exact rfl); (case kK => assumption); (case k1 => k_asm); (case k2 => k_asm); (case k3 => k_asm); (case k4 => k_asm); (case k5 => k_asm); (case k6 => k_is); (case k7 => k_is); (case k8 => ktr_room); (case k9 => exact BindsTo.of_eq rfl); (case c5 => decide); (case kB => exact locs rfl); (case c2 => exact rfl); (case c3 => exact rfl); (case c4 => exact rfl); k_whole; intro g' L' h' FG' F' N' B' X' T'; (try dsimp only); (try k_fold))
  repeat' (first | (k_unfold; (try dsimp only)) | (k_end; kc_close) | (walk1; (try dsimp only)) | (leave1; walk_say "STEP leave1"; (try dsimp only)) | fail "no step")
  all_goals cb_end hret
noncomputable def keptL : List Nat := [115, 116, 83, 84, 383, 64262, 119826, 119827]
noncomputable def b3S (c : Nat) : Str := if c = 115 then Str.ofString "s" else if c = 116 then Str.ofString "t" else if c = 83 then Str.ofString "s" else if c = 84 then Str.ofString "t" else if c = 383 then Str.ofString "s" else if c = 64262 then Str.ofString "st" else if c = 119826 then Str.ofString "s" else Str.ofString "t"
noncomputable def tokOf : Value → Tok
  | .str _ t => t
  | _ => 0
theorem b3_hits : ([383, 64262, 119826, 119827].all fun c => (b3F ((c : Nat) : Int)).getD .none == .str (b3S c) (tokOf ((b3F (c : Int)).getD .none))) = true := by kernel_rfl
theorem find3 (k : Int) : ∀ (t : Nat) (L : List (Int × Str)), (∀ x ∈ L, x.1 ≠ k) → ∀ e ∈ ents3 t L, Value.isInt k e.key = false
  | _, [], _, _, he => nomatch he
  | t, x :: r, h, e, he => by
    rcases List.mem_cons.mp he with rfl | he
    · have := h x (.head _)
      show Value.isInt k (.int x.1 _) = false
      simp only [Value.isInt, beq_eq_false_iff_ne, ne_eq]; intro c; exact this (by first | exact c | exact c.symm)
    · exact find3 k _ r (fun y hy => h y (.tail _ hy)) e he
theorem find2 (k : Int) : ∀ (t : Nat) (L : List (Int × Str)), (∀ x ∈ L, x.1 ≠ k) → ∀ e ∈ ents2 t L, Value.isInt k e.key = false
  | _, [], _, _, he => nomatch he
  | t, x :: r, h, e, he => by
    rcases List.mem_cons.mp he with rfl | he
    · have := h x (.head _)
      show Value.isInt k (.int x.1 _) = false
      simp only [Value.isInt, beq_eq_false_iff_ne, ne_eq]; intro c; exact this (by first | exact c | exact c.symm)
    · exact find2 k _ r (fun y hy => h y (.tail _ hy)) e he
theorem chunk_sub {i : Nat} {x : Int × Str} (h : x ∈ chunk i) : x ∈ b3L := List.mem_of_mem_drop (List.mem_of_mem_take h)
theorem b3_miss (k : Int) (h : (b3L.all fun x => x.1 != k) = true) : (b3F k).getD .none = .none := by
  have h' : ∀ x ∈ b3L, x.1 ≠ k := fun x hx => bne_iff_ne.mp (List.all_eq_true.mp h x hx)
  have : b3F k = none := by
    unfold b3F findBy
    rw [← Array.find?_toList]
    have e : List.find? (fun e => Value.isInt k e.key) b3Es = none := by
      refine List.find?_eq_none.mpr fun e he => ?_
      rw [b3Es_eq] at he
      have : Value.isInt k e.key = false := by
        rcases List.mem_append.mp he with he | he
        · refine find3 k _ _ (fun x hx => ?_) e he
          rcases List.mem_append.mp hx with hx | hx
          · exact h' x (chunk_sub hx)
          · obtain ⟨l, hl, hx⟩ := List.mem_flatten.mp hx
            obtain ⟨i, _, rfl⟩ := List.mem_map.mp hl
            exact h' x (chunk_sub hx)
        · exact find2 k _ _ (fun x hx => h' x (List.mem_of_mem_drop hx)) e he
      rw [this]; exact Bool.false_ne_true
    rw [e]; rfl
  rw [this]; rfl
theorem b3_none : ([115, 116, 83, 84].all fun c => b3L.all fun x => x.1 != ((c : Nat) : Int)) = true := by kernel_rfl
theorem low_all : ([115, 116, 83, 84].all fun c => (Txt.lower ⟨#[c]⟩ == b3S c) && (b3S c).length ≤ 2) = true := by kernel_rfl
theorem c_b3 {w : World} (c : Nat) (hc : c ∈ keptL) (t : Tok) : CC 2 w 120 [.str ⟨#[c]⟩ t] (fun t => .str (b3S c) t) := by
  by_cases hm : c ∈ [115, 116, 83, 84]
  · have h1 := List.all_eq_true.mp b3_none c hm
    have h2 := Bool.and_eq_true_iff.mp (List.all_eq_true.mp low_all c hm)
    have e := eq_of_beq h2.1
    refine c_b3_miss c t _ (b3_miss _ h1) e ?_
    rw [e]
    have := of_decide_eq_true h2.2
    unfold Builtin.Str.tooLong
    exact decide_eq_false (by have : sizeLine = 16777216 := rfl; omega)
  · have hm' : c ∈ [383, 64262, 119826, 119827] := by
      simp only [keptL, List.mem_cons, List.not_mem_nil, or_false] at hc hm ⊢
      omega
    exact c_b3_hit c t _ _ (eq_of_beq (List.all_eq_true.mp b3_hits c hm'))
end Mine
end PartW2
section PartV1
open PySem PySem.W PySem.Calls PyProof.Rows PySem.Spec
namespace Mine
section
variable {prog : Program} {w : World} {A : Around} {E : Value → Shared → Prop} {s : Shared} {h₀ : Heap} {L : Addr} {m : Str → Option Value} {env : Env}
noncomputable def TextSrc (prog : Program) (w : World) (A : Around) (h₀ : Heap) (L : Addr) (m : Str → Option Value) (env : Env) (ct elt : PySem.Expr) (x : Str) (scope : Scope) (cl : List (Str × Addr)) (Q : Value → Shared → Prop) (xv : Value) (s₁ : Shared) : Prop :=
  ∃ y t news, xv = .str y t ∧ A.handled = none ∧ Fr h₀ L s₁.heap m ∧ News h₀ L s₁.heap news ∧ y.cps.size ≤ sizeLine ∧
      ∀ g, LCt.CompRestT prog w A h₀ L m env ct elt x scope cl { s₁ with heap := g } (fun _ => True) (SignAt y) (LCg.FinE h₀ L m { s₁ with heap := g } Q) y.cps.size 0 [] news
theorem listComp_text {ct elt iter : PySem.Expr} {x : Str} {px : Pos} {scope : Scope} {cl : List (Str × Addr)} {pos : Pos} {Q : Value → Shared → Prop}
    (F₀ : Fr h₀ L s.heap m)
    (hclos : closureFor scope env = pure cl) (hcell : ∀ y ∈ scope.names, y.2 ≠ .cell) (hkind : scope.kind = .function)
    (hnames : ∀ y ∈ scope.names, y.2 = .local → scope.names.lookup y.1 = some .local) (hx : scope.names.lookup x = some .local)
    (h : wpAny (model prog w) A (eval iter env) (TextSrc prog w A h₀ L m env ct elt x scope cl Q) E s)
    (hs : ∀ x, foldedSetIterable iter env x = pure x := by intro _; rfl) :
    wpAny (model prog w) A (eval (.ListComp elt [⟨.Name x px, iter, [ct], 0⟩] scope pos) env) Q E s := by
  rw [eval_ListComp]
  refine wpAny_comprehension_free (use := none) rfl hs hclos hkind hnames (wpAny_mono h (fun xv s₁ h₁ => ?_) fun _ _ e => e)
  obtain ⟨y, t, news, rfl, hh, F, N, hsz, R⟩ := h₁
  have fin : ∀ (I : Addr) (s₂ : Shared), (∃ g, s₂ = { s₁ with heap := g }) → ∀ D C h tk m' ys news', Fr h₀ L h m → News h₀ L h ((D, LCg.lst ys) :: news') → LCg.Off1 D news' → h.Ns C m' → h₀.get? C = none → h₀.get? D = none → C ≠ L → D ≠ L → C ≠ D →
      (∀ p ∈ news', p.1 ≠ C) → LCg.FinE h₀ L m s₂ Q ys news' → ∃ m', h.Ns C m' ∧ ∀ h'' : Heap, Heap.SameBut C h h'' → Q (.ref D) { s₂ with heap := h'', toks := tk } := by
    intro I s₂ _ D C h tk m' ys news' F' N' o1 hn hC₀ hD₀ hCL hDL hCD offC fin
    refine ⟨m', hn, fun h'' hs'' => fin D h'' tk (F'.change hs'' hCL hC₀) (fun p hp => ?_) o1⟩
    refine ⟨hs''.extBut _ _ ?_ (N' p hp).1, (N' p hp).2⟩
    rcases List.mem_cons.mp hp with rfl | hp
    · exact Ne.symm hCD
    · exact offC p hp
  have st_keep : ∀ {ty : String} i (h h' : Heap) (o : Obj) (nw : List (Addr × Obj)), h.IsStrIter s₁.heap.objs.size ty y t i → h.get? s₁.heap.objs.size = some o → h'.get? s₁.heap.objs.size = some o →
      (∀ b o, h₀.get? b = some o → h'.get? b = some o) → News h₀ L h' nw → True → h'.IsStrIter s₁.heap.objs.size ty y t i := by
    intro ty i h h' o nw ⟨o', e, r⟩ e1 e2 _ _ _
    rw [e1] at e; cases e
    exact ⟨o, e2, r⟩
  have lt1 : ∀ (o : Obj), ∀ b ∈ [s₁.heap.objs.size], b < (s₁.heap.push o).objs.size := fun o b hb => by
    rw [List.mem_singleton.mp hb, Heap.size_push]; exact Nat.lt_succ_self _
  cases ha : y.cps.all (· < 128)
  · refine wpAny_pyIter_wide ha ?_
    refine LCt.block_T (Walks.strWide hh _ y t) hsz (fun i h st => by obtain ⟨o, e, _⟩ := st; exact ⟨o, e⟩) st_keep hcell hkind hx ⟨_, Heap.get?_push_size _ rfl, rfl, rfl⟩ (lt1 _)
      (F.keeps fun _ _ e => Heap.get?_push_of_some _ e) (N.grown fun _ _ e => Heap.get?_push_of_some _ e) (Nat.ne_of_lt F.ns.lt) (next_is_new F) (fun p hp => Nat.ne_of_lt (Heap.lt_size (N p hp).1)) trivial (R _) ?_
    exact fin s₁.heap.objs.size _ ⟨_, rfl⟩
  · refine wpAny_pyIter_ascii ha ?_
    refine LCt.block_T (Walks.strAscii hh _ y t) hsz (fun i h st => by obtain ⟨o, e, _⟩ := st; exact ⟨o, e⟩) st_keep hcell hkind hx ⟨_, Heap.get?_push_size _ rfl, rfl, rfl⟩ (lt1 _)
      (F.keeps fun _ _ e => Heap.get?_push_of_some _ e) (N.grown fun _ _ e => Heap.get?_push_of_some _ e) (Nat.ne_of_lt F.ns.lt) (next_is_new F) (fun p hp => Nat.ne_of_lt (Heap.lt_size (N p hp).1)) trivial (R _) ?_
    exact fin s₁.heap.objs.size _ ⟨_, rfl⟩
noncomputable def OutS (news : List (Addr × Obj)) (r : Str) (y : Value) (news' : List (Addr × Obj)) : Prop := news' = news ∧ ∃ t : Tok, y = .str r t
noncomputable def OutN (news : List (Addr × Obj)) (y : Value) (news' : List (Addr × Obj)) : Prop := news' = news
theorem strs_snoc {y : Str} {t : Tok} : ∀ {vs : List Value} {ys : List Str}, StrsAre vs ys → StrsAre (vs ++ [.str y t]) (ys ++ [y])
  | _, _, .nil => .cons y t .nil
  | _, _, .cons z u r => .cons z u (strs_snoc r)
theorem rest_text {ct elt : PySem.Expr} {x : Str} {scope : Scope} {cl : List (Str × Addr)} {S : List (Addr × Obj) → Prop} {P : Nat → Value → Prop} {Fin : List Value → List (Addr × Obj) → Prop} {news : List (Addr × Obj)} {n : Nat}
    (cs : List Nat) (p : Nat → Bool) (g : Nat → Str) (hn : cs.length = n) (hP : ∀ i v, i < n → P i v → ∃ c u, cs[i]? = some c ∧ v = .str ⟨#[c]⟩ u)
    (turn : ∀ c u I oI C oC D m₂ ys h tk (E' : Value → Shared → Prop), c ∈ cs → LCg.NsObj oC m₂ → m₂ x = some (.str ⟨#[c]⟩ u) → Fr h₀ L h m → News h₀ L h ((I, oI) :: (C, oC) :: (D, LCg.lst ys) :: news) → LCg.Off3 I C D news → ((@Ne Nat I C) ∧ (@Ne Nat I D) ∧ (@Ne Nat C D)) →
      wpAny (model prog w) A (isTrue ct (compEnvC scope cl C env) (eval ct (compEnvC scope cl C env))) (fun ok s' => ok = p c ∧ (if ok = true then
        wpAny (model prog w) A (eval elt (compEnvC scope cl C env)) (LCg.CompEnd h₀ L m { s with heap := h, toks := tk } I oI C oC D (LCg.lst ys) S (OutS news (g c))) E' s'
        else LCg.CompEnd h₀ L m { s with heap := h, toks := tk } I oI C oC D (LCg.lst ys) S (OutN news) Value.none s')) E' { s with heap := h, toks := tk })
    (fin : ∀ ys, StrsAre ys ((cs.filter p).map g) → Fin ys news) : LCt.CompRestT prog w A h₀ L m env ct elt x scope cl s S P Fin n 0 [] news := by
  have key : ∀ (j i : Nat) (ys : List Value), i + j = n → StrsAre ys (((cs.take i).filter p).map g) → LCt.CompRestT prog w A h₀ L m env ct elt x scope cl s S P Fin j i ys news := by
    intro j
    induction j with
    | zero =>
      intro i ys hi hy
      have e : i = cs.length := by omega
      subst e
      rw [List.take_length] at hy
      exact LCt.CompRestT.zero (fin ys hy)
    | succ j ih =>
      intro i ys hi hy
      refine LCt.CompRestT.succ ?_
      intro v I oI C oC D m₂ h tk E' hv hC hx F N off ne
      obtain ⟨c, u, hk, hv'⟩ := hP i v (by omega) hv
      rw [hv'] at hx
      refine wpAny_mono (turn c u I oI C oC D m₂ ys h tk E' (List.mem_of_getElem? hk) hC hx F N off ne) (fun ok s₂ hq => ?_) fun _ _ e => e
      obtain ⟨e, hq⟩ := hq
      have tk1 : cs.take (i + 1) = cs.take i ++ [c] := by rw [List.take_add_one, hk]; rfl
      cases ok with
      | true =>
        simp only [if_true] at hq ⊢
        refine wpAny_mono hq (fun y s₃ hr => ?_) fun _ _ e => e
        obtain ⟨h', tk', nw, e', F', N', off', hS, hn, t', hy'⟩ := hr
        rw [hn] at N' off' hS
        refine ⟨h', tk', news, e', F', N', off', hS, ?_⟩
        rw [hy']
        refine ih (i + 1) _ (by omega) ?_
        rw [tk1, List.filter_append, List.map_append, List.filter_cons, if_pos e.symm]
        exact strs_snoc hy
      | false =>
        simp only [Bool.false_eq_true, if_false] at hq ⊢
        obtain ⟨h', tk', nw, e', F', N', off', hS, hn⟩ := hq
        have hn : nw = news := hn
        rw [hn] at N' off' hS
        refine ⟨h', tk', news, e', F', N', off', hS, ?_⟩
        refine ih (i + 1) _ (by omega) ?_
        rw [tk1, List.filter_append, List.map_append, List.filter_cons, if_neg (by rw [← e]; exact Bool.false_ne_true)]
        simpa using hy
  exact key n 0 [] (by omega) (by simp only [List.take_zero, List.filter_nil, List.map_nil]; exact .nil)
end
end Mine
end PartV1
section PartW5
open PySem PySem.W PySem.Calls PyProof.Rows
namespace Mine
set_option maxHeartbeats 8000000
noncomputable def signL : List Nat := [8203, 65039, 115, 116, 83, 84, 383, 64262, 119826, 119827]
noncomputable def keepS (c : Nat) : Bool := !isB1 (c : Int)
noncomputable def prepF (x : Str) : Str := Txt.join (Str.ofString "") ((x.cps.toList.filter keepS).map b3S)
theorem sign_kept : (signL.all fun c => !keepS c || keptL.contains c) = true := by decide +kernel
theorem mem_kept {c : Nat} (h : c ∈ signL) (hk : keepS c = true) : c ∈ keptL := by
  have := List.all_eq_true.mp sign_kept c h
  rw [hk] at this
  simpa using this
theorem textSrc {prog : Program} {w : World} {A : Around} {h₀ : Heap} {L : Addr} {m : Str → Option Value} {env : Env} {ct elt : PySem.Expr} {x : Str} {scope : Scope} {cl : List (Str × Addr)} {Q : Value → Shared → Prop} {y : Str} {t : Tok} {s₁ : Shared} {news : List (Addr × Obj)}
    (hh : A.handled = none) (F : Fr h₀ L s₁.heap m) (N : News h₀ L s₁.heap news) (hs : y.cps.size ≤ sizeLine)
    (h : ∀ g, LCt.CompRestT prog w A h₀ L m env ct elt x scope cl { s₁ with heap := g } (fun _ => True) (SignAt y) (LCg.FinE h₀ L m { s₁ with heap := g } Q) y.cps.size 0 [] news) :
    TextSrc prog w A h₀ L m env ct elt x scope cl Q (.str y t) s₁ := ⟨y, t, news, rfl, hh, F, N, hs, h⟩
theorem b3S_len (c : Nat) : (b3S c).length ≤ 2 := by
  unfold b3S
  repeat' split
  all_goals decide
theorem weight_le (l : List Nat) (h : l.length ≤ 100) : ((l.map b3S).map (·.length)).sum + (l.map b3S).length ≤ 1048576 := by
  have : ∀ l : List Nat, ((l.map b3S).map (·.length)).sum ≤ 2 * l.length := by
    intro l
    induction l with
    | nil => exact Nat.le_refl _
    | cons c r ih =>
      have := b3S_len c
      simp only [List.map_cons, List.sum_cons, List.length_cons]
      omega
  have := this l
  rw [List.length_map]
  omega
local macro_rules | `(tactic| walk_at "eval ListComp") => `(tactic| (k_here; k_dflt (refine listComp_text (F₀ := by k_asm) (by with_unfolding_all rfl) (by decide) (by rfl) (by decide) (by rfl) ?_)))
local macro_rules | `(tactic| walk_at "call ref") => `(tactic| (k_here; (with_reducible show wpAny _ _ (call (Value.ref 74) _) _ _ _); k_dflt (refine' c_b1 _ _ _ _ _ _ _ _ _ _ _ _ _ _ _ _ _ _ _ _ _ _ _ ?k1 ?k2 ?k3 ?k4 ?k5 ?kK ?kd ?ku ?kR; (case k1 => k_asm); (case k2 => k_asm); (case k3 => k_asm); (case k4 => k_asm); (case k5 => k_asm); (case kK => first | exact rfl | assumption); (case kd => ktr_room); (case ku => ktr_units); (dsimp only [CbRet]; intro t9 h9 tk9 F9 N9; (try dsimp only); (try k_fold)))))
theorem c_prepared {w : World} (x : Str) (hx : ∀ c ∈ x.cps.toList, c ∈ signL) (hl : x.cps.size ≤ 100) (t : Tok) : CC 4 w 205 [.str x t] (fun t => .str (prepF x) t) := by
  k_with_none
  w_on
  dsimp only [CC, CbRet]
  intros; rename_i hret
  refine wpAny_call ?_
  k_dflt (refine' code_def (binds := [(Str.ofString "text", .str x t)]) ?k1 ?k2 ?k3 ?k4 ?k5 ?kA ?kF ?kK ?k6 ?k7 ?k8 ?k9 ?kB ?_ ?c2 ?c3 ?c4 ?c5; (case kA => exact rfl); (case kF => exact rfl); (case kK => assumption); (case k1 => k_asm); (case k2 => k_asm); (case k3 => k_asm); (case k4 => k_asm); (case k5 => k_asm); (case k6 => k_is); (case k7 => k_is); (case k8 => ktr_room); (case k9 => exact BindsTo.of_eq rfl); (case c5 => decide); (case kB => exact locs rfl); (case c2 => exact rfl); (case c3 => exact rfl); (case c4 => exact rfl); k_whole; intro g' L' h' FG' F' N' B' X' T'; (try dsimp only); (try k_fold))
  repeat' (first | (k_unfold; (try dsimp only)) | (k_end; kc_close) | (walk1; (try dsimp only)) | (leave1; walk_say "STEP leave1"; (try dsimp only)) | fail "no step")
  k_dflt (refine' textSrc ?hh ?F ?N ?hs ?_)
  case hh => rfl
  case F => k_asm
  case N => k_asm
  case hs => exact Nat.le_trans hl (by decide)
  intro g
  refine rest_text x.cps.toList keepS b3S (by simp) (fun i v _ hv => ?_) (fun c u I oI C oC D m₂ ys h tk E' hc hC hx2 F2 N2 off ne => ?_) (fun ys hy => ?_)
  · obtain ⟨c, u, e1, e2⟩ := hv
    exact ⟨c, u, by simpa using e1, e2⟩
  · dsimp only
    k_fold
    repeat' (first | (k_unfold; (try dsimp only)) | (k_end; kc_close) | (walk1; (try dsimp only)) | (leave1; walk_say "STEP leave1"; (try dsimp only)) | fail "no step")
    · exact LCg.CompEnd.intro (by assumption) (by assumption) _ (fun p hp => hp) off trivial rfl
    · k_dflt (refine' c_b3 _ (mem_kept (hx _ hc) (by show (!isB1 _) = true; rw [(by assumption : isB1 _ = false)]; rfl)) _ _ _ _ _ _ _ _ _ _ _ _ _ _ _ _ _ _ _ _ _ _ ?k1 ?k2 ?k3 ?k4 ?k5 ?kK ?kd ?ku ?kR; (case k1 => k_asm); (case k2 => k_asm); (case k3 => k_asm); (case k4 => k_asm); (case k5 => k_asm); (case kK => first | exact rfl | assumption); (case kd => ktr_room); (case ku => ktr_units); (dsimp only [CbRet]; intro t9 h9 tk9 F9 N9; (try dsimp only); (try k_fold)))
      repeat' (first | (k_unfold; (try dsimp only)) | (k_end; kc_close) | (walk1; (try dsimp only)) | (leave1; walk_say "STEP leave1"; (try dsimp only)) | fail "no step")
      exact LCg.CompEnd.intro (by assumption) (by assumption) _ (fun p hp => hp) off trivial ⟨rfl, _, rfl⟩
  · unfold LCg.FinE
    intro D h tk F2 N2 o1
    repeat' (first | (k_unfold; (try dsimp only)) | (k_end; kc_close) | (walk1; (try dsimp only)) | (leave1; walk_say "STEP leave1"; (try dsimp only)) | fail "no step")
    refine join_listW (News.isList N2 (.head _)) hy (by decide) ?_ ?_
    · exact weight_le _ (Nat.le_trans (List.length_filter_le _ _) (by simpa using hl))
    intro t' k'
    repeat' (first | (k_unfold; (try dsimp only)) | (k_end; kc_close) | (walk1; (try dsimp only)) | (leave1; walk_say "STEP leave1"; (try dsimp only)) | fail "no step")
    all_goals cb_end hret
end Mine
end PartW5
section PartW23
open PySem PySem.W PySem.Calls PyProof.Rows
namespace Mine
noncomputable abbrev lawEnv (L fa : Addr) (cd : Value) : Env := envOfC (Str.ofString "law") (fdS (stm 23)) L fa cd
noncomputable abbrev lawA (dp un : Nat) (gd : Option (List Code)) (L fa : Addr) (cd : Value) : Around := ktrTop dp un gd (Str.ofString "law") (fdS (stm 23)) L fa cd (cellsFrom (L + 1) (fdS (stm 23)).names []) []
set_option maxHeartbeats 8000000
noncomputable def numsF (ns : List Int) : List Int := List.map (fun k' => k'.fmod (10 ^ Int.toNat 6)) (List.take 12 ns) ++ [0, 9, 3, 4, 7, 18, 6, 1, 11, 2, 12, 1].drop (((List.map (fun k' => k'.fmod (10 ^ Int.toNat 6)) (List.take 12 ns)).length : Nat) : Int).toNat
noncomputable def restL : List Int := [0, 9, 3, 4, 7, 18, 6, 1, 11, 2, 12, 1]
theorem restL_ints (a b c d e f g h i j k l : Tok) : IntsAre [.int 0 a, .int 9 b, .int 3 c, .int 4 d, .int 7 e, .int 18 f, .int 6 g, .int 1 h, .int 11 i, .int 2 j, .int 12 k, .int 1 l] restL :=
  .cons _ _ (.cons _ _ (.cons _ _ (.cons _ _ (.cons _ _ (.cons _ _ (.cons _ _ (.cons _ _ (.cons _ _ (.cons _ _ (.cons _ _ (.cons _ _ .nil)))))))))))
theorem sliceRest {prog : Program} {w : World} {A : Around} {E : Value → Shared → Prop} {s : Shared} {h₀ : Heap} {L l : Addr} {m : Str → Option Value} {news : List (Addr × Obj)} {value slice : PySem.Expr} {k : Int} {t : Tok} {Q : Value → Shared → Prop} {a b c d e f g h i j p q : Tok} {n : Nat} (F : Fr h₀ L s.heap m) (N : News h₀ L s.heap news)
    (hm : (l, PySem.W.listOf #[.int 0 a, .int 9 b, .int 3 c, .int 4 d, .int 7 e, .int 18 f, .int 6 g, .int 1 h, .int 11 i, .int 2 j, .int 12 p, .int 1 q] n) ∈ news) (hk : 0 ≤ k)
    (hq : ∀ D ws h', Fr h₀ L h' m → News h₀ L h' ((D, PySem.W.listOf (List.toArray ws) 0) :: news) → (∀ p ∈ news, p.1 < D) → IntsAre ws (restL.drop k.toNat) → Q (.ref D) { s with heap := h' })
    (hs : subscripted slice false (.ref l) (.ref s.heap.objs.size) = operate [.ref s.heap.objs.size, .ref l] (getItem (.ref l) (.ref s.heap.objs.size))) (ht : ∀ r, letTemporaryGo value (.ref l) r = pure ()) :
    wpAny (model prog w) A (subscriptTail value slice (.ref l) (.ref s.heap.objs.size)) Q E { s with heap := s.heap.push { cls := .type "slice", data := .fields #[.int k t, .none, .none] } } :=
  kmk_slice_ints (vs := [.int 0 a, .int 9 b, .int 3 c, .int 4 d, .int 7 e, .int 18 f, .int 6 g, .int 1 h, .int 11 i, .int 2 j, .int 12 p, .int 1 q]) (ns := restL) F N ⟨_, (N _ hm).1, rfl, _, rfl⟩ (by kmk_part) (by kmk_part) (restL_ints ..) (kmk_from (restL_ints ..) hk) rfl
    (fun D ws h' F' N' l1 hi _ _ => hq D ws h' F' N' l1 hi) hs ht (by show 12 ≤ sizeLine; decide)
theorem law_1 {w : World} {mean : ExcName → Option Value} {mg mb : Str → Option Value} {dp un : Nat} {gd : Option (List Code)} {cd : Value} {A₀ : Around} {base g : Heap} {L fa : Addr} {s : Shared} {E : Value → Shared → Prop} {Q : Flow → Shared → Prop} {R : Addr} {rvs : List Value} {ns : List Int} {oc : Obj} (B : Below A₀ base [] g) (X : (KX w.params).In g) (T : Top qv (looseW qv looseV) mean mg mb g) (hd : dp + 32 < recursionLimit) (hu : un + 256 < cLine)
    (hR : g.IsList R rvs.toArray) (hi : IntsAre rvs ns) (hl : ns.length ≤ 63)
    (F : Fr g L s.heap (fun y => if y = sx "script" then some (.ref R) else none)) (hoc : oc.data = .cell none) (N : News g L s.heap [(L + 1, oc)])
    (hret : ∀ h' tk D us m', Fr g L h' m' → News g L h' [(D, PySem.W.listOf (List.toArray us) 0), (L + 1, oc)] → m' (sx "numbers") = some (.ref D) → IntsAre us (numsF ns) → wpAny (model pw w) (lawA dp un gd L fa cd) (execs ((fdB (stm 23)).drop 2) (lawEnv L fa cd)) Q E { s with heap := h', toks := tk }) :
    wpAny (model pw w) (lawA dp un gd L fa cd) (execs (fdB (stm 23)) (lawEnv L fa cd)) Q E s := by
  k_with_none
  w_on
  repeat' (first | (k_unfold; (try dsimp only)) | (k_end; kc_close) | (walk1; (try dsimp only)) | (leave1; walk_say "STEP leave1"; (try dsimp only)) | fail "no step")
  with_reducible rename News _ _ _ _ => N4
  with_reducible rename Fr _ _ _ _ => F4
  k_dflt (refine' sliceRest (s := { gens := s.gens, drawn := s.drawn, os := s.os, heap := _, toks := _ }) ?F ?N ?m ?k ?_ ?s ?t; (case F => k_asm); (case N => k_asm); (case m => exact List.Mem.head _); (case k => exact Int.natCast_nonneg _); (case s => with_unfolding_all rfl); (case t => kmk_pure))
  intro D5 ws5 h5 F5 N5 l5 hI5
  clear N4 F4
  refine catW F5 N5 (.tail _ (.tail _ (.head _))) (.head _) ?hz fun D6 h6 F6 N6 l6 => ?_
  case hz =>
    have a1 := hI5.length
    rw [List.length_drop] at a1
    have a2 : restL.length = 12 := rfl
    simp only [List.length_map, List.length_take] at *
    omega
  have N7 : News g L h6 [(D6, PySem.W.listOf (_ ++ ws5).toArray 0), (L + 1, oc)] := fun p hp => by
    rcases List.mem_cons.mp hp with rfl | hp
    · exact N6 _ (.head _)
    · exact N6 _ (.tail _ (.tail _ (.tail _ (.tail _ (.tail _ hp)))))
  clear N5 F5 N6
  walk1
  with_reducible rename News _ _ _ _ => N8
  with_reducible rename Fr _ _ _ _ => F8
  exact hret _ _ _ _ _ F8 N8 rfl (by unfold numsF; exact IntsAre.append (by assumption) hI5)
end Mine
end PartW23
section PartW3
open PySem PySem.W PySem.Calls PyProof.Rows
namespace Mine
set_option maxHeartbeats 8000000
noncomputable def aheadL : List Str := [Str.ofString "", ⟨#[8203]⟩, ⟨#[65039]⟩]
noncomputable def typedL : List Str := [Str.ofString "s", Str.ofString "t", Str.ofString "S", Str.ofString "T", ⟨#[383]⟩, ⟨#[64262]⟩, ⟨#[119826]⟩, ⟨#[119827]⟩]
noncomputable def meantL : List Str := [Str.ofString "s", Str.ofString "t", Str.ofString "s", Str.ofString "t", Str.ofString "s", Str.ofString "st", Str.ofString "s", Str.ofString "t"]
noncomputable def typedF (x : Int) : Str := aheadL.getD ((x.fdiv 8).fmod 3).toNat Str.empty ++ typedL.getD (x.fmod 8).toNat Str.empty
noncomputable def meantF (x : Int) : Str := meantL.getD (x.fmod 8).toNat Str.empty
local macro_rules | `(tactic| walk_at "idle") => `(tactic| skip)
local macro_rules | `(tactic| walk_at "idle") => `(tactic| skip)
local macro_rules | `(tactic| walk_at "subscriptTail") => `(tactic| (k_here; (with_reducible show wpAny _ _ (subscriptTail _ _ (Value.ref _) (Value.int (Int.fmod _ _) _)) _ _ _); k_dflt (refine' KTb.item_tup ?ktbl ?ktbw ?ktb0 ?ktb1 ?ktbf ?_; (case ktbl => exact ⟨_, News.get (by k_asm) (by k_mem), rfl, _, rfl⟩); (case ktbw => repeat constructor); (case ktb0 => exact fmod_lo _ (by decide)); (case ktb1 => exact fmod_hi _ (by decide)); (case ktbf => exact Int.lt_trans (fmod_hi _ (by decide)) (by decide)); intro _ _)))
theorem c_typed {w : World} (x : Int) (hx0 : 0 ≤ x) (hx1 : x < 1000000) (t : Tok) : CC 2 w 193 [.int x t] (fun t => .str (typedF x) t) := by
  k_with_none
  w_on
  dsimp only [CC, CbRet]
  intros; rename_i hret
  refine wpAny_call ?_
  k_dflt (refine' code_def (binds := [(Str.ofString "number", .int x t)]) ?k1 ?k2 ?k3 ?k4 ?k5 ?kA ?kF ?kK ?k6 ?k7 ?k8 ?k9 ?kB ?_ ?c2 ?c3 ?c4 ?c5; (case kA => exact rfl); (case kF => exact rfl); (case kK => assumption); (case k1 => k_asm); (case k2 => k_asm); (case k3 => k_asm); (case k4 => k_asm); (case k5 => k_asm); (case k6 => k_is); (case k7 => k_is); (case k8 => ktr_room); (case k9 => exact BindsTo.of_eq rfl); (case c5 => decide); (case kB => exact locs rfl); (case c2 => exact rfl); (case c3 => exact rfl); (case c4 => exact rfl); k_whole; intro g' L' h' FG' F' N' B' X' T'; (try dsimp only); (try k_fold))
  repeat' (first | (k_unfold; (try dsimp only)) | (k_end; kc_close) | (walk1; (try dsimp only)) | (leave1; walk_say "STEP leave1"; (try dsimp only)) | fail "no step")
  all_goals cb_end hret
theorem c_meant {w : World} (x : Int) (hx0 : 0 ≤ x) (hx1 : x < 1000000) (t : Tok) : CC 2 w 200 [.int x t] (fun t => .str (meantF x) t) := by
  k_with_none
  w_on
  dsimp only [CC, CbRet]
  intros; rename_i hret
  refine wpAny_call ?_
  k_dflt (refine' code_def (binds := [(Str.ofString "number", .int x t)]) ?k1 ?k2 ?k3 ?k4 ?k5 ?kA ?kF ?kK ?k6 ?k7 ?k8 ?k9 ?kB ?_ ?c2 ?c3 ?c4 ?c5; (case kA => exact rfl); (case kF => exact rfl); (case kK => assumption); (case k1 => k_asm); (case k2 => k_asm); (case k3 => k_asm); (case k4 => k_asm); (case k5 => k_asm); (case k6 => k_is); (case k7 => k_is); (case k8 => ktr_room); (case k9 => exact BindsTo.of_eq rfl); (case c5 => decide); (case kB => exact locs rfl); (case c2 => exact rfl); (case c3 => exact rfl); (case c4 => exact rfl); k_whole; intro g' L' h' FG' F' N' B' X' T'; (try dsimp only); (try k_fold))
  repeat' (first | (k_unfold; (try dsimp only)) | (k_end; kc_close) | (walk1; (try dsimp only)) | (leave1; walk_say "STEP leave1"; (try dsimp only)) | fail "no step")
  all_goals cb_end hret
end Mine
end PartW3
section PartP0
open PySem PySem.W PySem.Calls PyProof.Rows
namespace Mine
theorem fold_cps : ∀ (xs : List Str) (acc : Array Nat), (xs.foldl (fun acc p => acc ++ (Str.ofString "").cps ++ p.cps) acc).toList = acc.toList ++ xs.flatMap (·.cps.toList)
  | [], acc => by simp
  | x :: r, acc => by
    rw [List.foldl_cons, fold_cps r]
    have e : (Str.ofString "").cps.toList = [] := by decide
    rw [Array.toList_append, Array.toList_append, e]
    simp
theorem join_cps (xs : List Str) : (Txt.join (Str.ofString "") xs).cps.toList = xs.flatMap (·.cps.toList) := by
  cases xs with
  | nil => rfl
  | cons x r =>
    show ((r).foldl (fun acc p => acc ++ (Str.ofString "").cps ++ p.cps) x.cps).toList = _
    rw [fold_cps]
    simp
noncomputable def tyL (a b : Nat) : List Nat := (aheadL.getD a Str.empty ++ typedL.getD b Str.empty).cps.toList
theorem ty_fin : ((List.range 3).all fun a => (List.range 8).all fun b => ((tyL a b).filter keepS).flatMap (fun c => (b3S c).cps.toList) == (meantL.getD b Str.empty).cps.toList && (tyL a b).all (fun c => signL.contains c) && decide ((tyL a b).length ≤ 2)) = true := by decide +kernel
theorem ty_one (x : Int) : ((typedF x).cps.toList.filter keepS).flatMap (fun c => (b3S c).cps.toList) = (meantF x).cps.toList ∧ (∀ c ∈ (typedF x).cps.toList, c ∈ signL) ∧ (typedF x).cps.toList.length ≤ 2 := by
  have h := ty_fin
  rw [List.all_eq_true] at h
  have ha : ((x.fdiv 8).fmod 3).toNat ∈ List.range 3 := by
    have h1 := Int.fmod_nonneg_of_pos (x.fdiv 8) (by decide : (0 : Int) < 3)
    have h2 := Int.fmod_lt_of_pos (x.fdiv 8) (by decide : (0 : Int) < 3)
    rw [List.mem_range]; omega
  have hb : (x.fmod 8).toNat ∈ List.range 8 := by
    have h1 := Int.fmod_nonneg_of_pos x (by decide : (0 : Int) < 8)
    have h2 := Int.fmod_lt_of_pos x (by decide : (0 : Int) < 8)
    rw [List.mem_range]; omega
  have h2 := h _ ha
  rw [List.all_eq_true] at h2
  have h3 := h2 _ hb
  simp only [Bool.and_eq_true, beq_iff_eq, decide_eq_true_eq] at h3
  obtain ⟨⟨e1, e2⟩, e3⟩ := h3
  refine ⟨e1, fun c hc => ?_, e3⟩
  have := List.all_eq_true.mp e2 c hc
  simpa using this
theorem flat_len {α : Type} (f : α → List Nat) (k : Nat) (h : ∀ x, (f x).length ≤ k) : ∀ l : List α, (l.flatMap f).length ≤ k * l.length
  | [] => by simp
  | x :: r => by
    have a := h x
    have b := flat_len f k h r
    rw [List.flatMap_cons, List.length_append, List.length_cons, Nat.mul_succ]
    omega
noncomputable def toldF (nums : List Int) : Str := Txt.join (Str.ofString "") (nums.map typedF)
noncomputable def saidF (nums : List Int) : Str := Txt.join (Str.ofString "") (nums.map meantF)
theorem told_sign (nums : List Int) : ∀ c ∈ (toldF nums).cps.toList, c ∈ signL := by
  intro c hc
  unfold toldF at hc
  rw [join_cps, List.mem_flatMap] at hc
  obtain ⟨y, hy, hc⟩ := hc
  obtain ⟨x, _, rfl⟩ := List.mem_map.mp hy
  exact (ty_one x).2.1 c hc
theorem told_size (nums : List Int) (h : nums.length ≤ 12) : (toldF nums).cps.size ≤ 100 := by
  have e : (toldF nums).cps.size = (toldF nums).cps.toList.length := by simp
  rw [e]
  unfold toldF
  rw [join_cps, List.flatMap_map]
  have := flat_len (fun x => (typedF x).cps.toList) 2 (fun x => (ty_one x).2.2) nums
  omega
theorem prep_told (nums : List Int) : prepF (toldF nums) = saidF nums := by
  apply Str.ext'
  apply Array.toList_inj.mp
  unfold prepF saidF
  rw [join_cps, join_cps]
  unfold toldF
  rw [join_cps]
  induction nums with
  | nil => rfl
  | cons x r ih =>
    simp only [List.map_cons, List.flatMap_cons, List.filter_append, List.map_append, List.flatMap_append] at ih ⊢
    rw [ih]
    congr 1
    rw [List.flatMap_map]
    exact (ty_one x).1
theorem meant_len (x : Int) : (meantF x).length ≤ 4 := by
  have h := (ty_one x).1
  have e : (meantF x).length = (meantF x).cps.toList.length := by simp [Str.length]
  rw [e, ← h]
  have a := flat_len (fun c => (b3S c).cps.toList) 2 (fun c => by have := b3S_len c; simpa [Str.length] using this) ((typedF x).cps.toList.filter keepS)
  have b := (ty_one x).2.2
  have c := List.length_filter_le keepS (typedF x).cps.toList
  omega
theorem typed_len (x : Int) : (typedF x).length ≤ 4 := by
  have b := (ty_one x).2.2
  have e : (typedF x).length = (typedF x).cps.toList.length := by simp [Str.length]
  omega
theorem weight_of (f : Int → Str) (h : ∀ x, (f x).length ≤ 4) (nums : List Int) (hl : nums.length = 12) : ((nums.map f).map (·.length)).sum + (nums.map f).length ≤ 1048576 := by
  have : ∀ l : List Int, ((l.map f).map (·.length)).sum ≤ 4 * l.length := by
    intro l
    induction l with
    | nil => exact Nat.le_refl _
    | cons c r ih =>
      have := h c
      simp only [List.map_cons, List.sum_cons, List.length_cons]
      omega
  have := this nums
  rw [List.length_map]
  omega
theorem said_len (nums : List Int) (hl : nums.length = 12) : (saidF nums).length ≤ 100 := by
  have e : (saidF nums).length = (saidF nums).cps.toList.length := by simp [Str.length]
  rw [e]
  unfold saidF
  rw [join_cps, List.flatMap_map]
  have := flat_len (fun x => (meantF x).cps.toList) 4 (fun x => by have := meant_len x; simpa [Str.length] using this) nums
  omega
end Mine
end PartP0
section PartW24
open PySem PySem.W PySem.Calls PyProof.Rows
namespace Mine
set_option maxHeartbeats 8000000
local macro_rules | `(tactic| walk_at "eval ListComp") => `(tactic| (k_here; k_dflt (refine ListComp_U2 (F₀ := by k_asm) (by with_unfolding_all rfl) (by decide) (by rfl) (by decide) (by rfl) ?_)))
theorem rest_strs {prog : Program} {w : World} {A : Around} {h₀ : Heap} {L : Addr} {m : Str → Option Value} {env : Env} {elt : PySem.Expr} {x : Str} {scope : Scope} {cl : List (Str × Addr)} {s : Shared} {S : List (Addr × Obj) → Prop} {Fin : List Value → List (Addr × Obj) → Prop} {news : List (Addr × Obj)} {us : List Value} {nums : List Int} {n : Nat}
    (hi : IntsAre us nums) (hn : nums.length = n) (f : Int → Str)
    (turn : ∀ k t I oI C oC D m₂ ys h tk (E' : Value → Shared → Prop), k ∈ nums → LCg.NsObj oC m₂ → m₂ x = some (.int k t) → Fr h₀ L h m → News h₀ L h ((I, oI) :: (C, oC) :: (D, LCg.lst ys) :: news) → LCg.Off3 I C D news → ((@Ne Nat I C) ∧ (@Ne Nat I D) ∧ (@Ne Nat C D)) →
      wpAny (model prog w) A (eval elt (compEnvC scope cl C env)) (LCg.CompEnd h₀ L m { s with heap := h, toks := tk } I oI C oC D (LCg.lst ys) S (OutS news (f k))) E' { s with heap := h, toks := tk })
    (fin : ∀ ys, StrsAre ys (nums.map f) → Fin ys news) : LCg.CompRest prog w A h₀ L m env elt x scope cl s S (fun i v => us.toArray[i]? = some v) Fin n 0 [] news := by
  have key : ∀ (j i : Nat) (ys : List Value), i + j = n → StrsAre ys ((nums.take i).map f) → LCg.CompRest prog w A h₀ L m env elt x scope cl s S (fun i v => us.toArray[i]? = some v) Fin j i ys news := by
    intro j
    induction j with
    | zero =>
      intro i ys hi' hy
      have e : i = nums.length := by omega
      subst e
      rw [List.take_length] at hy
      exact LCg.CompRest.zero (fin ys hy)
    | succ j ih =>
      intro i ys hi' hy
      refine LCg.CompRest.succ ?_
      intro v I oI C oC D m₂ h tk E' hv hC hx F N off ne
      have hil : i < nums.length := by omega
      obtain ⟨t, hx'⟩ := hi.get i nums[i] (by simp [hil])
      have hv' : us[i]? = some v := by simpa using hv
      have ev : v = .int nums[i] t := Option.some.inj (hv'.symm.trans hx')
      subst ev
      refine wpAny_mono (turn nums[i] t I oI C oC D m₂ ys h tk E' (List.getElem_mem hil) hC hx F N off ne) (fun y s₂ hq => ?_) fun _ _ e => e
      obtain ⟨h', tk', nw, e', F', N', off', hS, hn', t', hy'⟩ := hq
      subst hn' hy'
      refine ⟨h', tk', nw, e', F', N', off', hS, ih (i + 1) _ (by omega) ?_⟩
      rw [List.take_add_one, List.getElem?_eq_getElem hil]
      simp only [Option.toList_some, List.map_append, List.map_cons, List.map_nil]
      exact strs_snoc hy
  exact key n 0 [] (by omega) .nil
theorem law_2 {w : World} {mean : ExcName → Option Value} {mg mb : Str → Option Value} {dp un : Nat} {gd : Option (List Code)} {cd : Value} {A₀ : Around} {base g : Heap} {L fa : Addr} {s : Shared} {E : Value → Shared → Prop} {Q : Flow → Shared → Prop} {D : Addr} {us : List Value} {nums : List Int} {oc : Obj} {m : Str → Option Value} (B : Below A₀ base [] g) (X : (KX w.params).In g) (T : Top qv (looseW qv looseV) mean mg mb g) (hd : dp + 32 < recursionLimit) (hu : un + 256 < cLine)
    (hi : IntsAre us nums) (hl : nums.length = 12) (nums_lo : ∀ x ∈ nums, 0 ≤ x) (nums_hi : ∀ x ∈ nums, x < 1000000)
    (F0 : Fr g L s.heap m) (hm : m (sx "numbers") = some (.ref D)) (hoc : oc.data = .cell none) (N : News g L s.heap [(D, PySem.W.listOf (List.toArray us) 0), (L + 1, oc)])
    (hret : ∀ h' tk t m', Fr g L h' m' → News g L h' [(L + 1, oc)] → m' (sx "word") = some (.str (Txt.slice (saidF nums) none (some 12)) t) → wpAny (model pw w) (lawA dp un gd L fa cd) (execs ((fdB (stm 23)).drop 5) (lawEnv L fa cd)) Q E { s with heap := h', toks := tk }) :
    wpAny (model pw w) (lawA dp un gd L fa cd) (execs ((fdB (stm 23)).drop 2) (lawEnv L fa cd)) Q E s := by
  have F : Fr g L s.heap (fun y => if y = sx "numbers" then some (.ref D) else m y) := by rw [← map_at hm]; exact F0
  clear F0
  have hln := hi.length
  k_with_none
  w_on
  conv in (execs _ _) => arg 1; whnf
  repeat' (first | (k_unfold; (try dsimp only)) | (k_end; kc_close) | (walk1; (try dsimp only)) | (leave1; walk_say "STEP leave1"; (try dsimp only)) | fail "no step")
  with_reducible rename News _ _ _ _ => N4
  with_reducible rename Fr _ _ _ _ => F4
  with_reducible refine' CompSrc2.ledger (k := 0) (its := us.toArray) ?hh ?F ?N ?hm ?hsz ?_
  case F => exact F4
  case N => exact N4
  case hm => exact .head _
  case hh => rfl
  case hsz => rw [List.size_toArray, hln, hl]; decide
  intro gg
  refine rest_strs hi (by rw [List.size_toArray, hln]) typedF (fun k t I oI C oC D2 m₂ ys h tk E' hmem hC hx2 F2 N2 off ne => ?_) (fun ys hy => ?_)
  · dsimp only
    k_fold
    repeat' (first | ((with_reducible show wpAny _ _ (call (Value.ref 193) _) _ _ _); k_dflt (refine c_typed _ (nums_lo _ hmem) (nums_hi _ hmem) _ _ _ _ _ _ _ _ _ _ _ _ _ _ _ _ _ _ _ _ _ _ (by k_asm) (by k_asm) (by k_asm) (by k_asm) (by k_asm) (by first | exact rfl | assumption) (by ktr_room) (by ktr_units) ?_; (dsimp only [CbRet]; intro t9 h9 tk9 F9 N9; (try dsimp only); (try k_fold)))) | (k_unfold; (try dsimp only)) | (k_end; kc_close) | (walk1; (try dsimp only)) | (leave1; walk_say "STEP leave1"; (try dsimp only)) | fail "no step")
    all_goals exact LCg.CompEnd.intro (by assumption) (by assumption) _ (fun p hp => hp) off (.inr ⟨_, .head _, rfl, _, rfl⟩) ⟨rfl, _, rfl⟩
  · unfold LCg.FinE
    intro D2 h tk F2 N2 o1
    clear N4 F4 hm
    repeat' (first | (k_unfold; (try dsimp only)) | (k_end; kc_close) | (walk1; (try dsimp only)) | (leave1; walk_say "STEP leave1"; (try dsimp only)) | fail "no step")
    refine join_listW (News.isList N2 (.head _)) hy (by decide) (weight_of _ typed_len nums hl) ?_
    intro t2 k2
    repeat' (first | ((with_reducible show wpAny _ _ (call (Value.ref 205) _) _ _ _); k_dflt (refine c_prepared _ (told_sign nums) (told_size nums (by omega)) _ _ _ _ _ _ _ _ _ _ _ _ _ _ _ _ _ _ _ _ _ _ (by k_asm) (by k_asm) (by k_asm) (by k_asm) (by k_asm) (by first | exact rfl | assumption) (by ktr_room) (by ktr_units) ?_; (dsimp only [CbRet]; intro t9 h9 tk9 F9 N9; (try dsimp only); (try k_fold)))) | (k_unfold; (try dsimp only)) | (k_end; kc_close) | (walk1; (try dsimp only)) | (leave1; walk_say "STEP leave1"; (try dsimp only)) | fail "no step")
    rw [prep_told] at *
    with_reducible rename News _ _ _ _ => N4
    with_reducible rename Fr _ _ _ _ => F4
    with_reducible refine' CompSrc2.ledger (k := 0) (its := us.toArray) ?hh ?F ?N ?hm ?hsz ?_
    case F => exact F4
    case N => exact N4
    case hm => exact .tail _ (.head _)
    case hh => rfl
    case hsz => rw [List.size_toArray, hln, hl]; decide
    intro gg2
    refine rest_strs hi (by rw [List.size_toArray, hln]) meantF (fun k t I oI C oC D3 m₂ ys2 h tk E' hmem hC hx2 F2 N2 off ne => ?_) (fun ys2 hy2 => ?_)
    · dsimp only
      k_fold
      repeat' (first | ((with_reducible show wpAny _ _ (call (Value.ref 200) _) _ _ _); k_dflt (refine c_meant _ (nums_lo _ hmem) (nums_hi _ hmem) _ _ _ _ _ _ _ _ _ _ _ _ _ _ _ _ _ _ _ _ _ _ (by k_asm) (by k_asm) (by k_asm) (by k_asm) (by k_asm) (by first | exact rfl | assumption) (by ktr_room) (by ktr_units) ?_; (dsimp only [CbRet]; intro t9 h9 tk9 F9 N9; (try dsimp only); (try k_fold)))) | (k_unfold; (try dsimp only)) | (k_end; kc_close) | (walk1; (try dsimp only)) | (leave1; walk_say "STEP leave1"; (try dsimp only)) | fail "no step")
      all_goals exact LCg.CompEnd.intro (by assumption) (by assumption) _ (fun p hp => hp) off (.inr ⟨_, .tail _ (.head _), rfl, _, rfl⟩) ⟨rfl, _, rfl⟩
    · unfold LCg.FinE
      intro D3 h tk F3 N3 o3
      clear N4 F4
      repeat' (first | (k_unfold; (try dsimp only)) | (k_end; kc_close) | (walk1; (try dsimp only)) | (leave1; walk_say "STEP leave1"; (try dsimp only)) | fail "no step")
      refine join_listW (News.isList N3 (.head _)) hy2 (by decide) (weight_of _ meant_len nums hl) ?_
      intro t3 k3
      repeat' (first | (k_unfold; (try dsimp only)) | (k_end; kc_close) | (walk1; (try dsimp only)) | (leave1; walk_say "STEP leave1"; (try dsimp only)) | fail "no step")
      · exact absurd (by assumption) (by simp [saidF])
      · refine slice_strN_ns (hsz := ?hsz) (s := ⟨_, _, _, _, _⟩) F3 N3 ?_
        case hsz => exact Nat.le_trans (said_len nums hl) (by decide)
        intro h5 t5 k5 F5 N5
        clear F3 N3
        walk1
        with_reducible rename News _ _ _ _ => N8
        with_reducible rename Fr _ _ _ _ => F8
        exact hret _ _ _ _ F8 (fun p hp => N8 p (.tail _ (.tail _ (.tail _ hp)))) rfl
end Mine
end PartW24
section PartW25
open PySem PySem.W PySem.Calls PyProof.Rows
namespace Mine
set_option maxHeartbeats 8000000
noncomputable def worthC (c : Nat) : Int := if c = 115 then 1 else -1
theorem sign_eq (c : Nat) : ((⟨#[c]⟩ : Str) == Str.ofString "s") = decide (c = 115) := by
  by_cases h : c = 115
  · subst h; decide
  · rw [decide_eq_false h]
    apply beq_eq_false_iff_ne.mpr
    intro e
    apply h
    have e2 : (⟨#[c]⟩ : Str) = ⟨#[115]⟩ := e.trans (by decide)
    injection e2 with e3
    have := congrArg Array.toList e3
    simpa using this
theorem worth_t {c : Nat} (h : ((⟨#[c]⟩ : Str) == Str.ofString "s") = true) : worthC c = 1 := by
  rw [sign_eq] at h; unfold worthC; rw [if_pos (of_decide_eq_true h)]
theorem worth_f {c : Nat} (h : ((⟨#[c]⟩ : Str) == Str.ofString "s") = false) : worthC c = -1 := by
  rw [sign_eq] at h; unfold worthC; rw [if_neg (of_decide_eq_false h)]
local macro_rules | `(tactic| walk_at "idle") => `(tactic| skip)
local macro_rules | `(tactic| walk_at "eval ListComp") => `(tactic| (k_here; k_dflt (refine listComp_text0 (F₀ := by k_asm) (by with_unfolding_all rfl) (by decide) (by rfl) (by decide) (by rfl) ?_)))
theorem law_3 {w : World} {mean : ExcName → Option Value} {mg mb : Str → Option Value} {dp un : Nat} {gd : Option (List Code)} {cd : Value} {A₀ : Around} {base g : Heap} {L fa : Addr} {s : Shared} {E : Value → Shared → Prop} {Q : Flow → Shared → Prop} {word : Str} {t : Tok} {oc : Obj} {m : Str → Option Value} (B : Below A₀ base [] g) (X : (KX w.params).In g) (T : Top qv (looseW qv looseV) mean mg mb g) (hd : dp + 32 < recursionLimit) (hu : un + 256 < cLine)
    (hl : word.cps.size = 12) (F0 : Fr g L s.heap m) (hm : m (sx "word") = some (.str word t)) (hoc : oc.data = .cell none) (N : News g L s.heap [(L + 1, oc)])
    (hret : ∀ h' tk D ys oc' m', Fr g L h' m' → News g L h' [(D, LCg.lst ys), (L + 1, oc')] → L + 1 ≠ D → oc'.data = .cell (some (.ref D)) → m' (sx "word") = some (.str word t) → IntsAre ys (word.cps.toList.map worthC) → wpAny (model pw w) (lawA dp un gd L fa cd) (execs ((fdB (stm 23)).drop 6) (lawEnv L fa cd)) Q E { s with heap := h', toks := tk }) :
    wpAny (model pw w) (lawA dp un gd L fa cd) (execs ((fdB (stm 23)).drop 5) (lawEnv L fa cd)) Q E s := by
  have F : Fr g L s.heap (fun y => if y = sx "word" then some (.str word t) else m y) := by rw [← map_at hm]; exact F0
  clear F0
  k_with_none
  w_on
  conv in (execs _ _) => arg 1; whnf
  repeat' (first | (k_unfold; (try dsimp only)) | (k_end; kc_close) | (walk1; (try dsimp only)) | (leave1; walk_say "STEP leave1"; (try dsimp only)) | fail "no step")
  with_reducible rename News _ _ _ _ => N4
  with_reducible rename Fr _ _ _ _ => F4
  refine textSrc0 rfl F4 N4 (by rw [hl]; decide) fun gg => ?_
  refine rest_signs worthC (fun c u I oI C oC D2 m₂ ys h tk E' hc hC hx2 F2 N2 off ne => ?_) (fun ys hy => ?_)
  · dsimp only
    k_fold
    repeat' (first | ((with_reducible show wpAny _ _ (call (Value.ref 49) _) _ _ _); k_dflt (refine c_neg _ _ _ _ _ _ _ _ _ _ _ _ _ _ _ _ _ _ _ _ _ _ _ (by k_asm) (by k_asm) (by k_asm) (by k_asm) (by k_asm) (by first | exact rfl | assumption) (by ktr_room) (by ktr_units) ?_; (dsimp only [CbRet]; intro t9 h9 tk9 F9 N9; (try dsimp only); (try k_fold)))) | (k_unfold; (try dsimp only)) | (k_end; kc_close) | (walk1; (try dsimp only)) | (leave1; walk_say "STEP leave1"; (try dsimp only)) | fail "no step")
    · exact LCg.CompEnd.intro (by assumption) (by assumption) _ (fun p hp => hp) off trivial ⟨rfl, _, by rw [worth_t (by assumption)]⟩
    · exact LCg.CompEnd.intro (by assumption) (by assumption) _ (fun p hp => hp) off trivial ⟨rfl, _, by rw [worth_f (by assumption)]⟩
  · unfold LCg.FinE
    intro D2 h tk F2 N2 o1
    clear N4 F4
    walk1
    with_reducible rename News _ _ _ _ => N8
    with_reducible rename Fr _ _ _ _ => F8
    exact hret _ _ _ _ _ _ F8 N8 o1.1 (by assumption) rfl hy
end Mine
end PartW25
section PartW26
open PySem PySem.W PySem.Calls PyProof.Rows
namespace Mine
set_option maxHeartbeats 8000000
inductive WkRs (ws : List Int) : Nat → List Value → List (Addr × Obj) → Prop
  | nil : WkRs ws 0 [] []
  | snoc {j fds objs FD rs tl} : WkRs ws j fds objs → WalkRs rs tl (rowsK (1 + (j : Int)) ws (((ws.length : Int) / (1 + (j : Int))).toNat + 1)) → WkRs ws (j + 1) (fds ++ [.ref FD]) ((FD, LCg.lst rs) :: (tl ++ objs))
noncomputable def wkJ (ws : List Int) (news0 : List (Addr × Obj)) (i : Nat) (ys : List Value) (news : List (Addr × Obj)) (gens : Array GenState) : Prop :=
  AllBare gens ∧ ∃ objs, news = objs ++ news0 ∧ WkRs ws i ys objs
local macro_rules | `(tactic| walk_at "idle") => `(tactic| skip)
local macro_rules | `(tactic| walk_at "idle") => `(tactic| skip)
local macro_rules | `(tactic| walk_at "call type:range") => `(tactic| (k_here; k_dflt (refine rangeW2 (by k_asm) (by k_asm) ?_); intro D' h' tk' t1' t2' t3' F' N' l1'; (try k_lt l1'); (try k_sweep)))
local macro_rules | `(tactic| walk_at "exec Assign cons ListComp") => `(tactic| (k_here; k_dflt (refine assign_range_G (F₀ := by k_asm) rfl (by with_unfolding_all rfl) (by with_unfolding_all rfl) (by decide) (by rfl) (by decide) (by rfl) (by rfl) (by rfl) ?_)))
theorem law_4 {w : World} {mean : ExcName → Option Value} {mg mb : Str → Option Value} {dp un : Nat} {gd : Option (List Code)} {cd : Value} {A₀ : Around} {base g : Heap} {L fa : Addr} {s : Shared} {E : Value → Shared → Prop} {Q : Flow → Shared → Prop} {word : Str} {t : Tok} {D : Addr} {ys : List Value} {ws : List Int} {oc : Obj} {m : Str → Option Value} (B : Below A₀ base [] g) (X : (KX w.params).In g) (T : Top qv (looseW qv looseV) mean mg mb g) (hd : dp + 32 < recursionLimit) (hu : un + 256 < cLine)
    (hl : ws.length = 12) (hi : IntsAre ys ws) (hws : ∀ x ∈ ws, -1 ≤ x ∧ x ≤ 1) (F0 : Fr g L s.heap m) (hm : m (sx "word") = some (.str word t)) (hoc : oc.data = .cell (some (.ref D))) (N : News g L s.heap [(D, LCg.lst ys), (L + 1, oc)]) (hbare : AllBare s.gens)
    (hret : ∀ s' DW fds objs m', Fr g L s'.heap m' → News g L s'.heap ((DW, LCg.lst fds) :: (D, LCg.lst ys) :: (L + 1, oc) :: objs) → WkRs ws 12 fds objs → m' (sx "word") = some (.str word t) → m' (sx "walks") = some (.ref DW) → AllBare s'.gens → s'.drawn = s.drawn → s'.os = s.os → wpAny (model pw w) (lawA dp un gd L fa cd) (execs ((fdB (stm 23)).drop 7) (lawEnv L fa cd)) Q E s') :
    wpAny (model pw w) (lawA dp un gd L fa cd) (execs ((fdB (stm 23)).drop 6) (lawEnv L fa cd)) Q E s := by
  have F : Fr g L s.heap (fun y => if y = sx "word" then some (.str word t) else m y) := by rw [← map_at hm]; exact F0
  clear F0
  k_with_none
  w_on
  conv in (execs _ _) => arg 1; whnf
  repeat' (first | (k_unfold; (try dsimp only)) | (k_end; kc_close) | (walk1; (try dsimp only)) | (leave1; walk_say "STEP leave1"; (try dsimp only)) | fail "no step")
  with_reducible rename News _ _ _ _ => N4
  with_reducible rename Fr _ _ _ _ => F4
  have hln := hi.length
  refine ⟨_, 1, 13, _, _, _, 12, _, rfl, rfl, F4, N4, (N4 _ (.head _)).1, by decide, by decide, by decide, wkJ ws _, ⟨hbare, [], rfl, .nil⟩, ?_, ?_⟩
  · rintro I C D2 H3 i tk oI oC ys2 news₁ m₂ s₂ E' hi12 ⟨hb₂, objs, rfl, hrel⟩ hC hx2 F2 N2 off2 hd2 ho2
    have N3 : News g L s₂.heap ((I, oI) :: (C, oC) :: (D2, LCg.lst ys2) :: (D, LCg.lst ys) :: (L + 1, oc) :: (objs ++ _)) := fun p hp => by
      rcases List.mem_cons.mp hp with rfl | hp
      · exact N2 _ (.head _)
      · rcases List.mem_cons.mp hp with rfl | hp
        · exact N2 _ (.tail _ (.head _))
        · rcases List.mem_cons.mp hp with rfl | hp
          · exact N2 _ (.tail _ (.tail _ (.head _)))
          · rcases List.mem_cons.mp hp with rfl | hp
            · exact N2 _ (.tail _ (.tail _ (.tail _ (List.mem_append_right objs (.tail _ (.head _))))))
            · rcases List.mem_cons.mp hp with rfl | hp
              · exact N2 _ (.tail _ (.tail _ (.tail _ (List.mem_append_right objs (.tail _ (.tail _ (.head _)))))))
              · exact N2 _ (.tail _ (.tail _ (.tail _ hp)))
    clear N2 N4 F4
    generalize hrest : objs ++ _ = rest1 at N3 off2
    (try dsimp only)
    (try k_fold)
    repeat' (first | (k_unfold; (try dsimp only)) | (k_end; kc_close) | (walk1; (try dsimp only)) | (leave1; walk_say "STEP leave1"; (try dsimp only)) | fail "no step")
    refine c_walk (wn := ys.length) (vs := ys) (ns := ws) (by k_asm) (by k_asm) (by k_asm) (by k_asm) (by k_asm) (by first | exact rfl | assumption) (by ktr_room) (by ktr_units) hb₂ (.tail _ (.tail _ (.tail _ (.head _)))) hi (by omega) hln.symm hws (by omega) (by omega) fun s' FD rs tl F' N' rel hlt htl hb hdr hos => ?_
    refine ⟨(FD, LCg.lst rs) :: (tl ++ rest1), F', ?_, ?_, ⟨hb, (FD, LCg.lst rs) :: (tl ++ objs), ?_, .snoc hrel rel⟩, hdr.trans hd2, hos.trans ho2⟩
    · intro p hp
      rcases List.mem_cons.mp hp with rfl | hp
      · exact N' _ (.tail _ (List.mem_append_right tl (.head _)))
      · rcases List.mem_cons.mp hp with rfl | hp
        · exact N' _ (.tail _ (List.mem_append_right tl (.tail _ (.head _))))
        · rcases List.mem_cons.mp hp with rfl | hp
          · exact N' _ (.tail _ (List.mem_append_right tl (.tail _ (.tail _ (.head _)))))
          · rcases List.mem_cons.mp hp with rfl | hp
            · exact N' _ (.head _)
            · rcases List.mem_append.mp hp with hp | hp
              · exact N' _ (.tail _ (List.mem_append_left _ hp))
              · exact N' _ (.tail _ (List.mem_append_right tl (.tail _ (.tail _ (.tail _ (.tail _ (.tail _ hp)))))))
    · have fI := hlt _ (.head _)
      have fC := hlt _ (.tail _ (.head _))
      have fD := hlt _ (.tail _ (.tail _ (.head _)))
      intro p hp
      rcases List.mem_cons.mp hp with rfl | hp
      · exact ⟨Nat.ne_of_gt fI, Nat.ne_of_gt fC, Nat.ne_of_gt fD⟩
      · rcases List.mem_append.mp hp with hp | hp
        · have q := htl p hp
          exact ⟨Nat.ne_of_gt (Nat.lt_trans fI q), Nat.ne_of_gt (Nat.lt_trans fC q), Nat.ne_of_gt (Nat.lt_trans fD q)⟩
        · exact off2 p hp
    · rw [← hrest]; simp [List.append_assoc]
  · rintro s' ys2 news' ⟨hb', objs, rfl, hrel⟩ hd' ho' DW h'' tk F' N' offW
    refine hret { s' with heap := h'', toks := tk } DW ys2 objs _ F' (fun p hp => ?_) hrel rfl rfl hb' hd' ho'
    rcases List.mem_cons.mp hp with rfl | hp
    · exact N' _ (.head _)
    · rcases List.mem_cons.mp hp with rfl | hp
      · exact N' _ (.tail _ (List.mem_append_right objs (.tail _ (.head _))))
      · rcases List.mem_cons.mp hp with rfl | hp
        · exact N' _ (.tail _ (List.mem_append_right objs (.tail _ (.tail _ (.head _)))))
        · exact N' _ (.tail _ (List.mem_append_left _ hp))
end Mine
end PartW26
section PartV23
open PySem PySem.W PySem.Calls PyProof.Rows PySem.Spec
namespace Mine
noncomputable abbrev rowsOf (ws : List Int) (j : Nat) : List (Int × Int) := rowsK (1 + (j : Int)) ws (((ws.length : Int) / (1 + (j : Int))).toNat + 1)
noncomputable def unevenAt (ws : List Int) : Nat → List Int
  | 0 => []
  | j + 1 => unevenAt ws j ++ pairM (rowsOf ws j)
theorem WkRs.len {ws : List Int} {j : Nat} {fds : List Value} {objs : List (Addr × Obj)} (h : WkRs ws j fds objs) : fds.length = j := by
  induction h with
  | nil => rfl
  | snoc _ _ ih => simp [ih]
theorem WkRs.get {ws : List Int} {n : Nat} {fds : List Value} {objs : List (Addr × Obj)} (h : WkRs ws n fds objs) : ∀ j, j < n → ∃ FD rs tl, fds[j]? = some (.ref FD) ∧ (FD, LCg.lst rs) ∈ objs ∧ (∀ p ∈ tl, p ∈ objs) ∧ WalkRs rs tl (rowsOf ws j) := by
  induction h with
  | nil => intro j hj; exact absurd hj (Nat.not_lt_zero _)
  | @snoc j' fds objs FD rs tl h r ih =>
    intro j hj
    have hl := h.len
    by_cases hlt : j < j'
    · obtain ⟨FD', rs', tl', e1, e2, e3, e4⟩ := ih j hlt
      exact ⟨FD', rs', tl', by rw [List.getElem?_append_left (by omega)]; exact e1, .tail _ (List.mem_append_right _ e2), fun p hp => .tail _ (List.mem_append_right _ (e3 p hp)), e4⟩
    · obtain rfl : j = j' := by omega
      exact ⟨FD, rs, tl, by rw [← hl]; simp, .head _, fun p hp => .tail _ (List.mem_append_left _ hp), r⟩
theorem rowsOf_len (ws : List Int) (j : Nat) (hl : ws.length = 12) : (rowsOf ws j).length ≤ 13 := by
  unfold rowsOf rowsK
  rw [List.length_map, List.length_range, hl]
  have : ((12 : Nat) : Int) / (1 + (j : Int)) ≤ 12 := Int.ediv_le_self _ (by decide)
  omega
section
variable {prog : Program} {w : World} {A : Around} {E : Value → Shared → Prop} {R : Result → Shared → Prop} {s : Shared} {h₀ : Heap} {L : Addr} {m : Str → Option Value} {env : Env}
theorem outer_loop {elt i0 i1 ct : PySem.Expr} {x xa xb : Str} {px pa pb tp : Pos} {x1} {scope : Scope} {cl : List (Str × Addr)} {pos : Pos} {I0 C D DW : Addr} {fds : List Value} {objs news : List (Addr × Obj)} {ws : List Int} {mc : Str → Option Value}
    (hh : A.handled = none) (hx : scope.names.lookup x = some .local) (hxa : scope.names.lookup xa = some .local) (hxb : scope.names.lookup xb = some .local) (hab : xa ≠ xb) (hkind : scope.kind = .function) (H : Hid3 h₀ L I0 C D) (hfold : ∀ y, foldedSetIterable i1 (compEnvC scope cl C env) y = pure y)
    (hl : ws.length = 12) (hDW : (DW, LCg.lst fds) ∈ news) (hobjs : ∀ p ∈ objs, p ∈ news) (rel : WkRs ws 12 fds objs)
    (hit : s.heap.IsListIter I0 DW 0) (F : Fr h₀ L s.heap m) (hns : s.heap.Ns C mc) (N : News h₀ L s.heap ((D, LCg.lst []) :: news)) (off : Far I0 C D news)
    (evalW : ∀ v oC m₂ s₁ (E' : Value → Shared → Prop) (Q : Value → Shared → Prop), LCg.NsObj oC m₂ → m₂ x = some v → s₁.heap.get? C = some oC → Q v s₁ → wpAny (model prog w) A (eval i1 (compEnvC scope cl C env)) Q E' s₁)
    (test : ∀ I1 oI0 tot t oI oC ys m₂ s₁ (E' : Value → Shared → Prop), LCg.NsObj oC m₂ → m₂ xb = some (.int tot t) → Fr h₀ L s₁.heap m → News h₀ L s₁.heap ((I1, oI) :: (C, oC) :: (D, LCg.lst ys) :: (I0, oI0) :: news) → s₁ = { s with heap := s₁.heap, toks := s₁.toks } →
      wpAny (model prog w) A (isTrue ct (compEnvC scope cl C env) (eval ct (compEnvC scope cl C env))) (fun ok s' => ok = (tot == 2 || tot == -2) ∧ s' = { s with heap := s'.heap, toks := s'.toks } ∧ Fr h₀ L s'.heap m ∧ News h₀ L s'.heap ((I1, oI) :: (C, oC) :: (D, LCg.lst ys) :: (I0, oI0) :: news)) E' s₁)
    (elem : ∀ mk t oC m₂ s₁ (E' : Value → Shared → Prop) (Q : Value → Shared → Prop), LCg.NsObj oC m₂ → m₂ xa = some (.int mk t) → s₁.heap.get? C = some oC → Q (.int mk t) s₁ → wpAny (model prog w) A (eval elt (compEnvC scope cl C env)) Q E' s₁)
    (done : ∀ s' mc' ys, s' = { s with heap := s'.heap, toks := s'.toks } → Fr h₀ L s'.heap m → s'.heap.Ns C mc' → News h₀ L s'.heap ((D, LCg.lst ys) :: news) → IntsAre ys (unevenAt ws 12) → R (.ok .next) s') :
    codeAny (model prog w) A (.compLoop (.ListComp elt [⟨.Name x px, i0, [], 0⟩, ⟨.Tuple [.Name xa pa, .Name xb pb] x1 tp, i1, [ct], 0⟩] scope pos) 0 (.ref I0) (.ref D) (compEnvC scope cl C env)) R s := by
  have hsp : ((compEnvC scope cl C env).scope.kind == .class || ((compEnvC scope cl C env).scope.kind == .module && (compEnvC scope cl C env).locals != (compEnvC scope cl C env).globals)) = false := by simp [compEnvC, relabel, hkind]
  have hfl := rel.len
  refine loop_out (fun k s' => ∃ i ys mc', i ≤ 12 ∧ k = 12 - i ∧ s' = { s with heap := s'.heap, toks := s'.toks } ∧ s'.heap.IsListIter I0 DW i ∧ Fr h₀ L s'.heap m ∧ s'.heap.Ns C mc' ∧ News h₀ L s'.heap ((D, LCg.lst ys) :: news) ∧ IntsAre ys (unevenAt ws i) ∧ ys.length ≤ 13 * i) hfold ?_ 12
    ⟨0, [], mc, Nat.zero_le _, rfl, rfl, hit, F, hns, N, .nil, Nat.le_refl _⟩
  rintro k s' ⟨i, ys, mc', hi, rfl, e', it', F', ns', N', hy, hlen⟩
  have hL : s'.heap.IsList DW fds.toArray := ⟨_, (N' _ (.tail _ hDW)).1, rfl, _, rfl⟩
  have kF : ∀ {h' : Heap}, (∀ b o, b ≠ I0 → s'.heap.get? b = some o → h'.get? b = some o) → Fr h₀ L h' m := fun k =>
    ⟨F'.ns.at' fun o e => k L o (Ne.symm H.IL) e, fun b o e => k b o (fun q => by rw [q, H.I0] at e; cases e) (F'.keep b o e), F'.above⟩
  have kN : ∀ {h' : Heap}, (∀ b o, b ≠ I0 → s'.heap.get? b = some o → h'.get? b = some o) → News h₀ L h' ((D, LCg.lst ys) :: news) := fun k p hp => by
    refine ⟨k _ _ ?_ (N' p hp).1, (N' p hp).2⟩
    rcases List.mem_cons.mp hp with rfl | hp
    · exact Ne.symm H.ID
    · exact (off p hp).1
  by_cases hlt : i < 12
  · obtain ⟨FD, rs, tl, hFD, hmem, htl, hrel⟩ := rel.get i hlt
    refine wpAny_pyNext_list_item it' hL (x := .ref FD) (by simpa using hFD) fun h₁ it₁ hs₁ => ?_
    have F₁ := kF hs₁.extBut
    have N₁ := kN hs₁.extBut
    have ns₁ : h₁.Ns C mc' := ns'.at' fun o e => hs₁.extBut _ _ (Ne.symm H.IC) e
    refine wpAny_assign_Name (wpAny_storeName_local (lookup_relabel_local hx) ns₁ (fun h₂ hn₂ hs₂ => ?_) hsp)
    replace hs₂ : Heap.SameBut C h₁ h₂ := hs₂
    have F₂ : Fr h₀ L h₂ m := F₁.change hs₂ H.CL H.C0
    have N₂ : News h₀ L h₂ ((D, LCg.lst ys) :: news) := fun p hp => by
      refine ⟨hs₂.extBut _ _ ?_ (N₁ p hp).1, (N₁ p hp).2⟩
      rcases List.mem_cons.mp hp with rfl | hp
      · exact Ne.symm H.CD
      · exact (off p hp).2.1
    obtain ⟨oI0, heI0, hrI0⟩ := it₁
    have heI0₂ := hs₂.extBut _ _ H.IC heI0
    obtain ⟨oC, heC, hoC⟩ := LCg.ns_obj hn₂
    refine evalW (.ref FD) oC _ _ _ _ hoC (by simp) heC ?_
    have hFDm := hobjs _ hmem
    have hFL : Heap.IsList h₂ FD rs.toArray := ⟨_, (N₂ _ (.tail _ hFDm)).1, rfl, _, rfl⟩
    refine wpAny_pyIter_list hFL ?_
    have hI1 := fresh_none (s := { s' with heap := h₂ }) F₂ (Nat.le_refl h₂.objs.size)
    have hI1L := Nat.ne_of_gt F₂.ns.lt
    have hCs : C < h₂.objs.size := Heap.lt_size heC
    have hDs : D < h₂.objs.size := Heap.lt_size (N₂ _ (.head _)).1
    have hIs : I0 < h₂.objs.size := Heap.lt_size heI0₂
    have offI1 := fresh_neN N₂ (Nat.le_refl h₂.objs.size)
    have H1 : Hid3 h₀ L h₂.objs.size C D := ⟨hI1, H.C0, H.D0, hI1L, H.CL, H.DL, Nat.ne_of_gt hCs, Nat.ne_of_gt hDs, H.CD⟩
    have up : ∀ b o, h₂.get? b = some o → (h₂.push { cls := .type "list_iterator", data := .fields #[.ref FD, .int 0 0] }).get? b = some o := fun b o e => Heap.get?_push_of_some _ e
    have it1 : (h₂.push { cls := .type "list_iterator", data := .fields #[.ref FD, .int 0 0] }).IsListIter h₂.objs.size FD 0 := ⟨_, Heap.get?_push_size _ rfl, rfl, rfl⟩
    have F₃ : Fr h₀ L (h₂.push { cls := .type "list_iterator", data := .fields #[.ref FD, .int 0 0] }) m := F₂.keeps up
    have N₃ : News h₀ L (h₂.push { cls := .type "list_iterator", data := .fields #[.ref FD, .int 0 0] }) ((D, LCg.lst ys) :: (I0, oI0) :: news) := fun p hp => by
      rcases List.mem_cons.mp hp with rfl | hp
      · exact ⟨up _ _ (N₂ _ (.head _)).1, (N₂ _ (.head _)).2⟩
      · rcases List.mem_cons.mp hp with rfl | hp
        · exact ⟨up _ _ heI0₂, H.IL, H.I0⟩
        · exact ⟨up _ _ (N₂ _ (.tail _ hp)).1, (N₂ _ (.tail _ hp)).2⟩
    have ns₃ : (h₂.push { cls := .type "list_iterator", data := .fields #[.ref FD, .int 0 0] }).Ns C _ := hn₂.at' fun o e => up _ _ e
    have rl := rowsOf_len ws i hl
    have inner : ∀ tk : Nat, codeAny (model prog w) A (.compLoop (.ListComp elt [⟨.Name x px, i0, [], 0⟩, ⟨.Tuple [.Name xa pa, .Name xb pb] x1 tp, i1, [ct], 0⟩] scope pos) 1 (.ref h₂.objs.size) (.ref D) (compEnvC scope cl C env))
        (fun r s' => match r with
          | .ok _ => ∃ m_1, m_1 < 12 - i ∧ ∃ i ys mc', i ≤ 12 ∧ m_1 = 12 - i ∧ s' = { s with heap := s'.heap, toks := s'.toks } ∧ s'.heap.IsListIter I0 DW i ∧ Fr h₀ L s'.heap m ∧ s'.heap.Ns C mc' ∧ News h₀ L s'.heap ((D, LCg.lst ys) :: news) ∧ IntsAre ys (unevenAt ws i) ∧ ys.length ≤ 13 * i
          | .error e => cameBackBy (model prog w) A (compEnvC scope cl C env) (notedBy (model prog w) A (compEnvC scope cl C env) fun e s' => R (.error e) s') e s')
        { s' with heap := h₂.push { cls := .type "list_iterator", data := .fields #[.ref FD, .int 0 0] }, toks := tk } := by
      intro tk
      refine inner_loop (m := m) (news := (I0, oI0) :: news) (rows := rowsOf ws i) hh hxa hxb hab hkind H1 (.tail _ hFDm) (fun p hp => .tail _ (hobjs _ (htl p hp))) hrel (by omega) hy it1 F₃ ns₃ N₃ ?_ ?_ elem ?_
      · intro p hp
        rcases List.mem_cons.mp hp with rfl | hp
        · exact ⟨Nat.ne_of_lt hIs, H.IC, H.ID⟩
        · exact ⟨offI1 p (.tail _ hp), (off p hp).2.1, (off p hp).2.2⟩
      · intro tot t oI oC' ys' m₂ s₁ E' hC' hm₂ F'' N'' e₁
        have e₂ : s₁ = { s with heap := s₁.heap, toks := s₁.toks } := by rw [e₁, e']
        refine wpAny_mono (test _ oI0 tot t oI oC' ys' m₂ s₁ E' hC' hm₂ F'' N'' e₂) (fun ok s₂ hq => ?_) fun _ _ e => e
        obtain ⟨h1, h2, h3, h4⟩ := hq
        exact ⟨h1, by rw [h2, e'], h3, h4⟩
      · intro s₅ mc₅ ys₅ e₅ F₅ ns₅ N₅ hy₅ hl₅
        refine ⟨12 - (i + 1), by omega, i + 1, ys₅, mc₅, hlt, rfl, by rw [e₅, e'], ⟨oI0, (N₅ _ (.tail _ (.head _))).1, hrI0⟩, F₅, ns₅, fun p hp => ?_, hy₅, by omega⟩
        rcases List.mem_cons.mp hp with rfl | hp
        · exact N₅ _ (.head _)
        · exact N₅ p (.tail _ (.tail _ hp))
    exact start_in (inner _) (wpAny_pyIter_listiter it1 (inner _))
  · obtain rfl : i = 12 := Nat.le_antisymm hi (Nat.not_lt.mp hlt)
    refine wpAny_pyNext_list_end hh it' hL (by simp [hfl]) fun h₁ hk₁ => ?_
    exact done _ mc' ys (by rw [e']) (kF hk₁) (ns'.at' fun o e => hk₁ _ _ (Ne.symm H.IC) e) (kN hk₁) hy
end
end Mine
end PartV23
section PartV24
open PySem PySem.W PySem.Calls PyProof.Rows PySem.Spec
namespace Mine
section
variable {prog : Program} {w : World} {A : Around} {E : Value → Shared → Prop} {s : Shared} {h₀ : Heap} {L : Addr} {m : Str → Option Value} {env : Env}
noncomputable def NestG (prog : Program) (w : World) (A : Around) (h₀ : Heap) (L : Addr) (m : Str → Option Value) (env : Env) (elt i1 ct : PySem.Expr) (x xa xb : Str) (scope : Scope) (cl : List (Str × Addr)) (Fin : Shared → List Value → List (Addr × Obj) → List Int → Prop) (xv : Value) (s₁ : Shared) : Prop :=
  ∃ DW fds objs news ws, xv = .ref DW ∧ A.handled = none ∧ Fr h₀ L s₁.heap m ∧ News h₀ L s₁.heap news ∧ (DW, LCg.lst fds) ∈ news ∧ (∀ p ∈ objs, p ∈ news) ∧ WkRs ws 12 fds objs ∧ ws.length = 12 ∧
    (∀ C v oC m₂ s₁ (E' : Value → Shared → Prop) (Q : Value → Shared → Prop), LCg.NsObj oC m₂ → m₂ x = some v → s₁.heap.get? C = some oC → Q v s₁ → wpAny (model prog w) A (eval i1 (compEnvC scope cl C env)) Q E' s₁) ∧
    (∀ C v oC m₂ s₁ (E' : Value → Shared → Prop) (Q : Value → Shared → Prop), LCg.NsObj oC m₂ → m₂ xa = some v → s₁.heap.get? C = some oC → Q v s₁ → wpAny (model prog w) A (eval elt (compEnvC scope cl C env)) Q E' s₁) ∧
    (∀ I0 C D, Hid3 h₀ L I0 C D → ∀ I1 oI0 tot t oI oC ys m₂ s₂ (E' : Value → Shared → Prop), LCg.NsObj oC m₂ → m₂ xb = some (.int tot t) → Fr h₀ L s₂.heap m → News h₀ L s₂.heap ((I1, oI) :: (C, oC) :: (D, LCg.lst ys) :: (I0, oI0) :: news) → s₂ = { s₁ with heap := s₂.heap, toks := s₂.toks } →
      wpAny (model prog w) A (isTrue ct (compEnvC scope cl C env) (eval ct (compEnvC scope cl C env))) (fun ok s' => ok = (tot == 2 || tot == -2) ∧ s' = { s₁ with heap := s'.heap, toks := s'.toks } ∧ Fr h₀ L s'.heap m ∧ News h₀ L s'.heap ((I1, oI) :: (C, oC) :: (D, LCg.lst ys) :: (I0, oI0) :: news)) E' s₂) ∧
    (∀ s' ys, s' = { s₁ with heap := s'.heap, toks := s'.toks } → IntsAre ys (unevenAt ws 12) → Fin s' ys news ws)
theorem assign_nest {elt i0 i1 ct : PySem.Expr} {x y xa xb : Str} {px py pa pb tp : Pos} {x1} {scope : Scope} {cl : List (Str × Addr)} {pos spos : Pos} {Q : Flow → Shared → Prop} (F₀ : Fr h₀ L s.heap m) (hLe : env.locals = L)
    (hsw : swapsWith (.ListComp elt [⟨.Name x px, i0, [], 0⟩, ⟨.Tuple [.Name xa pa, .Name xb pb] x1 tp, i1, [ct], 0⟩] scope pos) (some (.Name y py)) spos.line env = pure true)
    (hclos : closureFor scope env = pure cl) (hcell : ∀ z ∈ scope.names, z.2 ≠ .cell) (hkind : scope.kind = .function)
    (hnames : ∀ z ∈ scope.names, z.2 = .local → scope.names.lookup z.1 = some .local) (hx : scope.names.lookup x = some .local) (hxa : scope.names.lookup xa = some .local) (hxb : scope.names.lookup xb = some .local) (hab : xa ≠ xb)
    (hy : env.kindOf y = some .local) (hp : (env.scope.kind == .class || (env.scope.kind == .module && env.locals != env.globals)) = false)
    (h : wpAny (model prog w) A (eval i0 env) (NestG prog w A h₀ L m env elt i1 ct x xa xb scope cl (fun s' ys news ws => ∀ D h'' tk, Fr h₀ L h'' (fun z => if z = y then some (.ref D) else m z) → News h₀ L h'' ((D, LCg.lst ys) :: news) → (∀ p ∈ news, p.1 ≠ D) → Q .next { s' with heap := h'', toks := tk })) E s)
    (hs : ∀ x, foldedSetIterable i0 env x = pure x := by intro _; rfl) (hfold : ∀ C y, foldedSetIterable i1 (compEnvC scope cl C env) y = pure y := by intro _ _; rfl) :
    wpAny (model prog w) A (exec (.Assign [.Name y py] (.ListComp elt [⟨.Name x px, i0, [], 0⟩, ⟨.Tuple [.Name xa pa, .Name xb pb] x1 tp, i1, [ct], 0⟩] scope pos) spos) env) Q E s := by
  subst hLe
  rw [exec_Assign_Name_used _ _ _ _ hsw]
  refine wpAny_bind (wpAny_standAt (wpAny_bind ?_))
  show wpAny _ A (do let _ ← comprehension (.ListComp elt [⟨.Name x px, i0, [], 0⟩, ⟨.Tuple [.Name xa pa, .Name xb pb] x1 tp, i1, [ct], 0⟩] scope pos) scope env _ (newList []) false (eval i0 env) (some (assign (.Name y py) env))) _ _ s
  refine wpAny_bind (wpAny_mono (wpAny_comprehension_free (use := some (assign (.Name y py) env)) (Q := fun _ s' => Q .next s') rfl hs hclos hkind hnames
    (wpAny_mono h (fun xv s₁ h₁ => ?_) fun _ _ e => e)) (fun _ s' hq => wpAny_pure (wpAny_pure hq)) fun _ _ e => e)
  obtain ⟨DW, fds, objs, news, ws, rfl, hh, F, N, hDW, hobjs, rel, hl, evalW, elem, test, fin⟩ := h₁
  have hLi : s₁.heap.IsList DW fds.toArray := ⟨_, (N _ hDW).1, rfl, _, rfl⟩
  refine wpAny_pyIter_list hLi ?_
  have hI0 := fresh_none F (Nat.le_refl s₁.heap.objs.size)
  have offI := fresh_neN N (Nat.le_refl s₁.heap.objs.size)
  have hIL := Nat.ne_of_lt F.ns.lt
  have F1 := F.push (o := { cls := .type "list_iterator", data := .fields #[.ref DW, .int 0 0] })
  have N1 : News h₀ env.locals (s₁.heap.push { cls := .type "list_iterator", data := .fields #[.ref DW, .int 0 0] }) news := News.up N fun b' o' e => Heap.get?_push_of_some _ e
  have st1 : (s₁.heap.push { cls := .type "list_iterator", data := .fields #[.ref DW, .int 0 0] }).IsListIter s₁.heap.objs.size DW 0 := ⟨_, Heap.get?_push_size _ rfl, rfl, rfl⟩
  have sz1 : (s₁.heap.push { cls := .type "list_iterator", data := .fields #[.ref DW, .int 0 0] }).objs.size = s₁.heap.objs.size + 1 := Heap.size_push ..
  generalize s₁.heap.push { cls := .type "list_iterator", data := .fields #[.ref DW, .int 0 0] } = H1 at F1 N1 st1 sz1 ⊢
  generalize hI : s₁.heap.objs.size = I at *
  refine wpAny_newObj_type (wpAny_newFunctionEnv hcell (by intro z hz; simp at hz) (fun h₁ hns₁ hsb₁ => ?_) hkind)
  dsimp only at hns₁ hsb₁ ⊢
  have szD : (H1.push { cls := .type "list", dict := none, data := .seq ([] : List Value).toArray }).objs.size = H1.objs.size + 1 := Heap.size_push ..
  have offD := fresh_neN N1 (Nat.le_refl H1.objs.size)
  have offC := fresh_neN N1 (Nat.le_succ H1.objs.size)
  have hD0 := fresh_none (s := { s₁ with heap := H1 }) F1 (Nat.le_refl H1.objs.size)
  have hC0 := fresh_none (s := { s₁ with heap := H1 }) F1 (Nat.le_succ H1.objs.size)
  have hDL := Nat.ne_of_gt F1.ns.lt
  have hCL := Nat.ne_of_gt (Nat.lt_succ_of_lt F1.ns.lt)
  have hIlt : I < H1.objs.size := by rw [sz1]; exact Nat.lt_succ_self _
  have H : Hid3 h₀ env.locals I (H1.objs.size + 1) H1.objs.size := ⟨hI0, hC0, hD0, Ne.symm hIL, hCL, hDL, Nat.ne_of_lt (Nat.lt_succ_of_lt hIlt), Nat.ne_of_lt hIlt, Nat.succ_ne_self _⟩
  rw [szD] at hns₁ hsb₁ ⊢
  have up : ∀ b' o, H1.get? b' = some o → h₁.get? b' = some o := fun b' o e => hsb₁.extBut b' o (Nat.ne_of_lt (Nat.lt_succ_of_lt (Heap.lt_size e))) (Heap.get?_push_of_some _ (Heap.get?_push_of_some _ e))
  have hD₁ : h₁.get? H1.objs.size = some (LCg.lst []) := hsb₁.extBut _ _ (Nat.ne_of_lt (Nat.lt_succ_self _)) (Heap.get?_push_of_some _ (Heap.get?_push_size _ rfl))
  have it₁ : h₁.IsListIter I DW 0 := let ⟨o, e, r⟩ := st1; ⟨o, up _ _ e, r⟩
  have loop : codeAny (model prog w) A (.compLoop (.ListComp elt [⟨.Name x px, i0, [], 0⟩, ⟨.Tuple [.Name xa pa, .Name xb pb] x1 tp, i1, [ct], 0⟩] scope pos) 0 (.ref I) (.ref H1.objs.size) (compEnvC scope cl (H1.objs.size + 1) env))
      (compPost (model prog w) A E (some (assign (.Name y py) env)) (fun _ s' => Q .next s') (.ref H1.objs.size) (H1.objs.size + 1)) { s₁ with heap := h₁, toks := s₁.toks + ([] : List (Str × Value)).length } := by
    refine outer_loop (m := m) (news := news) hh hx hxa hxb hab hkind H (hfold _) hl hDW hobjs rel it₁ (F1.keeps up) hns₁ ?_ (fun p hp => ⟨offI p hp, offC p hp, offD p hp⟩) (fun v oC m₂ s₂ E' Q' => evalW _ v oC m₂ s₂ E' Q') ?_ (fun mk t oC m₂ s₂ E' Q' => elem _ _ oC m₂ s₂ E' Q') ?_
    · intro p hp
      rcases List.mem_cons.mp hp with rfl | hp
      · exact ⟨hD₁, hDL, hD0⟩
      · exact ⟨up _ _ (N1 p hp).1, (N1 p hp).2⟩
    · intro I1 oI0 tot t oI oC ys m₂ s₂ E' hC hm₂ F₂ N₂ e₂
      exact test I _ _ H I1 oI0 tot t oI oC ys m₂ s₂ E' hC hm₂ F₂ N₂ e₂
    · intro s' mc' ys e' F' hn' N' hy'
      show wpAny _ A (assign (.Name y py) env (.ref H1.objs.size)) _ _ _
      refine wpAny_assign_Name (wpAny_storeName_local hy F'.ns (fun h₂ hn₂ hs₂ => ?_) hp)
      have F₂ : Fr h₀ env.locals h₂ (fun z => if z = y then some (.ref H1.objs.size) else m z) := F'.set hn₂ hs₂
      refine ⟨mc', hn'.sameBut hs₂ hCL, fun h'' hs'' => fin s' ys e' hy' _ h'' _ (F₂.change hs'' hCL hC0) (fun p hp => ?_) (fun p hp => offD p hp)⟩
      have z : h₂.get? p.1 = some p.2 := hs₂.extBut _ _ (N' p hp).2.1 (N' p hp).1
      refine ⟨hs''.extBut _ _ ?_ z, (N' p hp).2⟩
      rcases List.mem_cons.mp hp with rfl | hp
      · exact (Nat.succ_ne_self _).symm
      · exact offC p hp
  exact codeAny_compStart_list loop (wpAny_pyIter_listiter it₁ loop)
end
end Mine
end PartV24
section PartW28
open PySem PySem.W PySem.Calls PyProof.Rows
namespace Mine
set_option maxHeartbeats 8000000
theorem name_comp {prog : Program} {w : World} {A : Around} {C : Addr} {oC : Obj} {m₂ : Str → Option Value} {env : Env} {scope : Scope} {cl : List (Str × Addr)} {x : Str} {pos : Pos} {v : Value} {E' : Value → Shared → Prop} {Q : Value → Shared → Prop} {s₁ : Shared} (hk : (compEnvC scope cl C env).scope.kind = .function) (hx : (compEnvC scope cl C env).kindOf x = some .local) (hd : (x == ("__debug__" : Str)) = false)
    (hC : LCg.NsObj oC m₂) (hv : m₂ x = some v) (e : s₁.heap.get? C = some oC) (hQ : Q v s₁) : wpAny (model prog w) A (eval (.Name x pos) (compEnvC scope cl C env)) Q E' s₁ :=
  wpAny_Name (wpAny_loadName_local hk hx (hC.ns e) hv hQ) hd
local macro_rules | `(tactic| walk_at "exec Assign cons ListComp") => `(tactic| (k_here; k_dflt (refine assign_nest (F₀ := by k_asm) rfl (by with_unfolding_all rfl) (by with_unfolding_all rfl) (by decide) (by rfl) (by decide) (by rfl) (by rfl) (by rfl) (by decide) (by rfl) (by rfl) ?_)))
theorem law_5 {w : World} {mean : ExcName → Option Value} {mg mb : Str → Option Value} {dp un : Nat} {gd : Option (List Code)} {cd : Value} {A₀ : Around} {base g : Heap} {L fa : Addr} {s : Shared} {E : Value → Shared → Prop} {Q : Flow → Shared → Prop} {word : Str} {t : Tok} {D DW : Addr} {ys fds : List Value} {ws : List Int} {oc : Obj} {objs : List (Addr × Obj)} {m : Str → Option Value} (B : Below A₀ base [] g) (X : (KX w.params).In g) (T : Top qv (looseW qv looseV) mean mg mb g) (hd : dp + 32 < recursionLimit) (hu : un + 256 < cLine)
    (hl : ws.length = 12) (F0 : Fr g L s.heap m) (hm1 : m (sx "word") = some (.str word t)) (hm2 : m (sx "walks") = some (.ref DW)) (hoc : oc.data = .cell (some (.ref D))) (N : News g L s.heap ((DW, LCg.lst fds) :: (D, LCg.lst ys) :: (L + 1, oc) :: objs)) (rel : WkRs ws 12 fds objs)
    (hret : ∀ h' tk DU us m', Fr g L h' m' → News g L h' [(DU, LCg.lst us), (D, LCg.lst ys), (L + 1, oc)] → IntsAre us (unevenAt ws 12) → m' (sx "word") = some (.str word t) → m' (sx "uneven") = some (.ref DU) → wpAny (model pw w) (lawA dp un gd L fa cd) (execs ((fdB (stm 23)).drop 8) (lawEnv L fa cd)) Q E { s with heap := h', toks := tk }) :
    wpAny (model pw w) (lawA dp un gd L fa cd) (execs ((fdB (stm 23)).drop 7) (lawEnv L fa cd)) Q E s := by
  have F : Fr g L s.heap (fun y => if y = sx "walks" then some (.ref DW) else if y = sx "word" then some (.str word t) else m y) := fr_map F0 fun y => by
    by_cases e1 : y = sx "walks"
    · rw [if_pos e1, e1, hm2]
    · rw [if_neg e1]
      by_cases e2 : y = sx "word"
      · rw [if_pos e2, e2, hm1]
      · rw [if_neg e2]
  clear F0
  k_with_none
  w_on
  conv in (execs _ _) => arg 1; whnf
  repeat' (first | (k_unfold; (try dsimp only)) | (k_end; kc_close) | (walk1; (try dsimp only)) | (leave1; walk_say "STEP leave1"; (try dsimp only)) | fail "no step")
  with_reducible rename News _ _ _ _ => N4
  with_reducible rename Fr _ _ _ _ => F4
  refine ⟨DW, fds, objs, _, ws, rfl, rfl, F4, N4, .head _, fun p hp => .tail _ (.tail _ (.tail _ hp)), rel, hl, ?_, ?_, ?_, ?_⟩
  · intro C v oC m₂ s₁ E' Q' hC hv e hQ
    exact name_comp rfl rfl (by decide) hC hv e hQ
  · intro C v oC m₂ s₁ E' Q' hC hv e hQ
    exact name_comp rfl rfl (by decide) hC hv e hQ
  · rintro I0 C D2 H3 I1 oI0 tot t oI oC ys2 m₂ s₂ E' hC hx2 F2 N2 e2
    clear N4 F4
    rw [e2]
    have F2' : Fr g L ({ s with heap := s₂.heap, toks := s₂.toks } : Shared).heap _ := F2
    clear F2
    (try dsimp only)
    (try k_fold)
    repeat' (first | ((with_reducible show wpAny _ _ (call (Value.ref 56) _) _ _ _); k_dflt (refine c_contains (by k_asm) (by k_asm) (by k_asm) (by k_asm) (by k_asm) (by first | exact rfl | assumption) (by ktr_room) (by ktr_units) (.head _) ?_; (dsimp only [CbRet]; intro t9 h9 tk9 F9 N9; (try dsimp only); (try k_fold)))) | (k_unfold; (try dsimp only)) | (k_end; kc_close) | (walk1; (try dsimp only)) | (leave1; walk_say "STEP leave1"; (try dsimp only)) | fail "no step")
    all_goals first | rfl | assumption | exact fun p hp => N9 p (.tail _ hp)
  · rintro s' us e' hy D2 h'' tk F' N' offD
    have := hret h'' tk D2 us _ F' (fun p hp => N' p (by
      rcases List.mem_cons.mp hp with rfl | hp
      · exact .head _
      · rcases List.mem_cons.mp hp with rfl | hp
        · exact .tail _ (.tail _ (.head _))
        · rw [List.mem_singleton.mp hp]; exact .tail _ (.tail _ (.tail _ (.head _))))) hy rfl rfl
    rw [e']
    exact this
end Mine
end PartW28
section PartW29
open PySem PySem.W PySem.Calls PyProof.Rows
namespace Mine
set_option maxHeartbeats 8000000
theorem law_6 {w : World} {mean : ExcName → Option Value} {mg mb : Str → Option Value} {dp un : Nat} {gd : Option (List Code)} {cd : Value} {A₀ : Around} {base g : Heap} {L fa : Addr} {s : Shared} {E : Value → Shared → Prop} {Q : Flow → Shared → Prop} {word : Str} {t : Tok} {D DU : Addr} {ys us : List Value} {um ws : List Int} {oc : Obj} {m : Str → Option Value} (B : Below A₀ base [] g) (X : (KX w.params).In g) (T : Top qv (looseW qv looseV) mean mg mb g) (hd : dp + 32 < recursionLimit) (hu : un + 256 < cLine)
    (hne : um ≠ []) (hul : um.length ≤ 200) (hwl : word.length ≤ 100) (hu : IntsAre us um) (hi : IntsAre ys ws) (hws : ws.length = 12)
    (hM : ∀ M ∈ um, (∀ a, a ∈ um → M ≤ a) → M.fmod 2 = 0 ∧ (¬ ((M == 12) != [Str.ofString "sttstsstts", Str.ofString "tsststtsst"].any fun x => x == Txt.slice word none (some 10)) = true) ∧ 0 ≤ M)
    (F0 : Fr g L s.heap m) (hm1 : m (sx "word") = some (.str word t)) (hm2 : m (sx "uneven") = some (.ref DU)) (hoc : oc.data = .cell (some (.ref D))) (N : News g L s.heap [(DU, LCg.lst us), (D, LCg.lst ys), (L + 1, oc)])
    (hret : ∀ h' tk DF fs m' M, M ∈ um → (∀ a, a ∈ um → M ≤ a) → Fr g L h' m' → News g L h' [(DF, PySem.W.listOf fs.toArray 0), (L + 1, oc)] → IntsAre fs (ws.take M.toNat) → m' (sx "front") = some (.ref DF) → wpAny (model pw w) (lawA dp un gd L fa cd) (execs ((fdB (stm 23)).drop 12) (lawEnv L fa cd)) Q E { s with heap := h', toks := tk }) :
    wpAny (model pw w) (lawA dp un gd L fa cd) (execs ((fdB (stm 23)).drop 8) (lawEnv L fa cd)) Q E s := by
  have F : Fr g L s.heap (fun y => if y = sx "uneven" then some (.ref DU) else if y = sx "word" then some (.str word t) else m y) := fr_map F0 fun y => by
    by_cases e1 : y = sx "uneven"
    · rw [if_pos e1, e1, hm2]
    · rw [if_neg e1]
      by_cases e2 : y = sx "word"
      · rw [if_pos e2, e2, hm1]
      · rw [if_neg e2]
  clear F0
  k_with_none
  w_on
  conv in (execs _ _) => arg 1; whnf
  repeat' (first | ((fail_if_success (with_reducible show wpAny _ _ (subscriptTail _ (PySem.Expr.Slice _ _ none _) (Value.ref _) (Value.ref _)) _ _ _)); first | (k_unfold; (try dsimp only)) | (k_end; kc_close) | (walk1; (try dsimp only)) | (leave1; walk_say "STEP leave1"; (try dsimp only))) | fail "no step")
  · exact absurd (hM _ (by assumption) (by assumption)).1 (by assumption)
  · exact absurd (by assumption) (hM _ (by assumption) (by assumption)).2.1
  · with_reducible rename News _ _ _ _ => N4
    with_reducible rename Fr _ _ _ _ => F4
    have h0 := (hM _ (by assumption) (by assumption)).2.2
    refine kmk_slice_ints (s := { heap := _, gens := s.gens, drawn := s.drawn, toks := _, os := s.os }) F4 N4 (News.isList N4 (.tail _ (.tail _ (.head _)))) IsPart.none (IsPart.int _ _) hi (kmk_upto hi h0) rfl ?_ (by with_unfolding_all rfl) (by intro _; with_unfolding_all rfl) (kmk_sz hi (by rw [hws]; decide))
    intro DF fs h5 F5 N5 l5 hf5 hc5 hl5
    clear F4 N4
    walk1
    with_reducible rename News _ _ _ _ => N8
    with_reducible rename Fr _ _ _ _ => F8
    refine hret _ _ _ _ _ _ (by assumption) (by assumption) F8 (fun p hp => N8 p ?_) hf5 rfl
    rcases List.mem_cons.mp hp with rfl | hp
    · exact .head _
    · rw [List.mem_singleton.mp hp]; exact .tail _ (.tail _ (.tail _ (.tail _ (.head _))))
  · exact absurd (List.length_pos_iff.mpr hne) (by assumption)
end Mine
end PartW29
section PartW30
open PySem PySem.W PySem.Calls PyProof.Rows
namespace Mine
set_option maxHeartbeats 8000000
theorem rest_ii {prog : Program} {w : World} {A : Around} {h₀ : Heap} {L : Addr} {m : Str → Option Value} {env : Env} {elt : PySem.Expr} {x : Str} {scope : Scope} {cl : List (Str × Addr)} {s : Shared} {S : List (Addr × Obj) → Prop} {Fin : List Value → List (Addr × Obj) → Prop} {news : List (Addr × Obj)} {us : List Value} {nums : List Int} {n : Nat}
    (hi : IntsAre us nums) (hn : nums.length = n) (f : Int → Int)
    (turn : ∀ k t I oI C oC D m₂ ys h tk (E' : Value → Shared → Prop), k ∈ nums → LCg.NsObj oC m₂ → m₂ x = some (.int k t) → Fr h₀ L h m → News h₀ L h ((I, oI) :: (C, oC) :: (D, LCg.lst ys) :: news) → LCg.Off3 I C D news → ((@Ne Nat I C) ∧ (@Ne Nat I D) ∧ (@Ne Nat C D)) →
      wpAny (model prog w) A (eval elt (compEnvC scope cl C env)) (LCg.CompEnd h₀ L m { s with heap := h, toks := tk } I oI C oC D (LCg.lst ys) S (fun y news' => news' = news ∧ ∃ t : Tok, y = .int (f k) t)) E' { s with heap := h, toks := tk })
    (fin : ∀ ys, IntsAre ys (nums.map f) → Fin ys news) : LCg.CompRest prog w A h₀ L m env elt x scope cl s S (fun i v => us.toArray[i]? = some v) Fin n 0 [] news := by
  have key : ∀ (j i : Nat) (ys : List Value), i + j = n → IntsAre ys ((nums.take i).map f) → LCg.CompRest prog w A h₀ L m env elt x scope cl s S (fun i v => us.toArray[i]? = some v) Fin j i ys news := by
    intro j
    induction j with
    | zero =>
      intro i ys hi' hy
      have e : i = nums.length := by omega
      subst e
      rw [List.take_length] at hy
      exact LCg.CompRest.zero (fin ys hy)
    | succ j ih =>
      intro i ys hi' hy
      refine LCg.CompRest.succ ?_
      intro v I oI C oC D m₂ h tk E' hv hC hx F N off ne
      have hil : i < nums.length := by omega
      obtain ⟨t, hx'⟩ := hi.get i nums[i] (by simp [hil])
      have hv' : us[i]? = some v := by simpa using hv
      have ev : v = .int nums[i] t := Option.some.inj (hv'.symm.trans hx')
      subst ev
      refine wpAny_mono (turn nums[i] t I oI C oC D m₂ ys h tk E' (List.getElem_mem hil) hC hx F N off ne) (fun y s₂ hq => ?_) fun _ _ e => e
      obtain ⟨h', tk', nw, e', F', N', off', hS, hn', t', hy'⟩ := hq
      subst hn' hy'
      refine ⟨h', tk', nw, e', F', N', off', hS, ih (i + 1) _ (by omega) ?_⟩
      rw [List.take_add_one, List.getElem?_eq_getElem hil]
      simp only [Option.toList_some, List.map_append, List.map_cons, List.map_nil]
      exact ints_snoc0 hy
  exact key n 0 [] (by omega) .nil
noncomputable def negF (x : Int) : Int := -x
local macro_rules | `(tactic| walk_at "idle") => `(tactic| skip)
local macro_rules | `(tactic| walk_at "eval ListComp") => `(tactic| (k_here; k_dflt (refine ListComp_U2 (F₀ := by k_asm) (by with_unfolding_all rfl) (by decide) (by rfl) (by decide) (by rfl) ?_)))
theorem law_7 {w : World} {mean : ExcName → Option Value} {mg mb : Str → Option Value} {dp un : Nat} {gd : Option (List Code)} {cd : Value} {A₀ : Around} {base g : Heap} {L fa : Addr} {s : Shared} {E : Value → Shared → Prop} {Q : Flow → Shared → Prop} {DF : Addr} {fs : List Value} {fr : List Int} {oc : Obj} {m : Str → Option Value} (B : Below A₀ base [] g) (X : (KX w.params).In g) (T : Top qv (looseW qv looseV) mean mg mb g) (hd : dp + 32 < recursionLimit) (hu : un + 256 < cLine)
    (hi : IntsAre fs fr) (hl1 : fr.length ≤ 12) (hl2 : (fr.map negF).length ≤ 12) (hs1 : (leadS fr).cps.size ≤ 200) (hs2 : (leadS (fr.map negF)).cps.size ≤ 200) (ho1 : wsOk (leadS fr).cps.toList 0 = true) (ho2 : wsOk (leadS (fr.map negF)).cps.toList 0 = true)
    (F0 : Fr g L s.heap m) (hm : m (sx "front") = some (.ref DF)) (N : News g L s.heap [(DF, PySem.W.listOf fs.toArray 0), (L + 1, oc)])
    (hret : ∀ h' tk x y news' m', Fr g L h' m' → News g L h' news' → (DF, PySem.W.listOf fs.toArray 0) ∈ news' → WsAt w.params news' x (wsRun (leadS fr).cps.toList ws0) → WsAt w.params news' y (wsRun (leadS (fr.map negF)).cps.toList ws0) → m' (sx "front") = some (.ref DF) → m' (sx "one") = some (.ref x) → m' (sx "other") = some (.ref y) → wpAny (model pw w) (lawA dp un gd L fa cd) (execs ((fdB (stm 23)).drop 13) (lawEnv L fa cd)) Q E { s with heap := h', toks := tk }) :
    wpAny (model pw w) (lawA dp un gd L fa cd) (execs ((fdB (stm 23)).drop 12) (lawEnv L fa cd)) Q E s := by
  have F : Fr g L s.heap (fun y => if y = sx "front" then some (.ref DF) else m y) := by rw [← map_at hm]; exact F0
  clear F0
  have hlen := hi.length
  k_with_none
  w_on
  conv in (execs _ _) => arg 1; whnf
  repeat' (first | ((fail_if_success (with_reducible show wpAny _ _ (execs (PySem.Stmt.Return _ _ :: _) _) _ _ _)); first | ((with_reducible show wpAny _ _ (call (Value.ref 49) _) _ _ _); k_dflt (refine c_neg _ _ _ _ _ _ _ _ _ _ _ _ _ _ _ _ _ _ _ _ _ _ _ (by k_asm) (by k_asm) (by k_asm) (by k_asm) (by k_asm) (by first | exact rfl | assumption) (by ktr_room) (by ktr_units) ?_; (dsimp only [CbRet]; intro t9 h9 tk9 F9 N9; (try dsimp only); (try k_fold)))) | ((with_reducible show wpAny _ _ (call (Value.ref 219) _) _ _ _); k_dflt (refine c_lead (by k_asm) (by k_asm) (by k_asm) (by k_asm) (by k_asm) (by first | exact rfl | assumption) (by ktr_room) (by ktr_units) (by k_mem) (by assumption) (by assumption) ?_; (dsimp only [CbRet]; intro t9 h9 tk9 F9 N9; (try dsimp only); (try k_fold)))) | ((with_reducible show wpAny _ _ (call (Value.ref 182) _) _ _ _); k_dflt (refine c_ws (by k_asm) (by k_asm) (by k_asm) (by k_asm) (by k_asm) (by first | exact rfl | assumption) (by ktr_room) (by ktr_units) (by assumption) (by assumption) ?_; (intro h9 tk9 x9 dx9 NT9 CT9 cvs9 q9 t0 t1 t2 t3 t4 t5 t6 t7 t8 F9 N9 c1 c2 c3 c4 c5 c6; (try dsimp only); (try k_fold)))) | (k_unfold; (try dsimp only)) | (k_end; kc_close) | (walk1; (try dsimp only)) | (leave1; walk_say "STEP leave1"; (try dsimp only))) | fail "no step")
  with_reducible rename News _ _ _ _ => N4
  with_reducible rename Fr _ _ _ _ => F4
  with_reducible refine' CompSrc2.ledger (k := 0) (its := fs.toArray) ?hh ?F ?N ?hm ?hsz ?_
  case F => exact F4
  case N => exact N4
  case hm => exact .tail _ (.tail _ (.tail _ (.tail _ (.head _))))
  case hh => rfl
  case hsz => rw [List.size_toArray, hlen]; exact Nat.le_trans hl1 (by decide)
  intro gg
  refine rest_ii hi (by rw [List.size_toArray, hlen]) negF (fun k t I oI C oC D2 m₂ ys h tk E' hmem hC hx2 F2 N2 off ne => ?_) (fun ys hy => ?_)
  · dsimp only
    k_fold
    repeat' (first | ((fail_if_success (with_reducible show wpAny _ _ (execs (PySem.Stmt.Return _ _ :: _) _) _ _ _)); first | ((with_reducible show wpAny _ _ (call (Value.ref 49) _) _ _ _); k_dflt (refine c_neg _ _ _ _ _ _ _ _ _ _ _ _ _ _ _ _ _ _ _ _ _ _ _ (by k_asm) (by k_asm) (by k_asm) (by k_asm) (by k_asm) (by first | exact rfl | assumption) (by ktr_room) (by ktr_units) ?_; (dsimp only [CbRet]; intro t9 h9 tk9 F9 N9; (try dsimp only); (try k_fold)))) | ((with_reducible show wpAny _ _ (call (Value.ref 219) _) _ _ _); k_dflt (refine c_lead (by k_asm) (by k_asm) (by k_asm) (by k_asm) (by k_asm) (by first | exact rfl | assumption) (by ktr_room) (by ktr_units) (by k_mem) (by assumption) (by assumption) ?_; (dsimp only [CbRet]; intro t9 h9 tk9 F9 N9; (try dsimp only); (try k_fold)))) | ((with_reducible show wpAny _ _ (call (Value.ref 182) _) _ _ _); k_dflt (refine c_ws (by k_asm) (by k_asm) (by k_asm) (by k_asm) (by k_asm) (by first | exact rfl | assumption) (by ktr_room) (by ktr_units) (by assumption) (by assumption) ?_; (intro h9 tk9 x9 dx9 NT9 CT9 cvs9 q9 t0 t1 t2 t3 t4 t5 t6 t7 t8 F9 N9 c1 c2 c3 c4 c5 c6; (try dsimp only); (try k_fold)))) | (k_unfold; (try dsimp only)) | (k_end; kc_close) | (walk1; (try dsimp only)) | (leave1; walk_say "STEP leave1"; (try dsimp only))) | fail "no step")
    all_goals exact LCg.CompEnd.intro (by assumption) (by assumption) _ (fun p hp => hp) off (.inr ⟨_, .tail _ (.tail _ (.tail _ (.tail _ (.head _)))), rfl, _, rfl⟩) ⟨rfl, _, rfl⟩
  · unfold LCg.FinE
    intro D2 h tk F2 N2 o1
    clear N4 F4
    repeat' (first | ((fail_if_success (with_reducible show wpAny _ _ (execs (PySem.Stmt.Return _ _ :: _) _) _ _ _)); first | ((with_reducible show wpAny _ _ (call (Value.ref 49) _) _ _ _); k_dflt (refine c_neg _ _ _ _ _ _ _ _ _ _ _ _ _ _ _ _ _ _ _ _ _ _ _ (by k_asm) (by k_asm) (by k_asm) (by k_asm) (by k_asm) (by first | exact rfl | assumption) (by ktr_room) (by ktr_units) ?_; (dsimp only [CbRet]; intro t9 h9 tk9 F9 N9; (try dsimp only); (try k_fold)))) | ((with_reducible show wpAny _ _ (call (Value.ref 219) _) _ _ _); k_dflt (refine c_lead (by k_asm) (by k_asm) (by k_asm) (by k_asm) (by k_asm) (by first | exact rfl | assumption) (by ktr_room) (by ktr_units) (by k_mem) (by assumption) (by assumption) ?_; (dsimp only [CbRet]; intro t9 h9 tk9 F9 N9; (try dsimp only); (try k_fold)))) | ((with_reducible show wpAny _ _ (call (Value.ref 182) _) _ _ _); k_dflt (refine c_ws (by k_asm) (by k_asm) (by k_asm) (by k_asm) (by k_asm) (by first | exact rfl | assumption) (by ktr_room) (by ktr_units) (by assumption) (by assumption) ?_; (intro h9 tk9 x9 dx9 NT9 CT9 cvs9 q9 t0 t1 t2 t3 t4 t5 t6 t7 t8 F9 N9 c1 c2 c3 c4 c5 c6; (try dsimp only); (try k_fold)))) | (k_unfold; (try dsimp only)) | (k_end; kc_close) | (walk1; (try dsimp only)) | (leave1; walk_say "STEP leave1"; (try dsimp only))) | fail "no step")
    with_reducible rename News _ _ _ _ => N8
    with_reducible rename Fr _ _ _ _ => F8
    exact hret _ _ _ _ _ _ F8 N8 (.tail _ (.tail _ (.tail _ (.tail _ (.tail _ (.tail _ (.tail _ (.tail _ (.tail _ (.tail _ (.head _))))))))))) ⟨_, _, _, _, _, _, _, _, _, _, _, _, _, _, _, ⟨(.tail _ (.tail _ (.tail _ (.tail _ (.tail _ (.tail _ (.head _))))))), (.tail _ (.tail _ (.tail _ (.tail _ (.tail _ (.tail _ (.tail _ (.head _)))))))), (.tail _ (.tail _ (.tail _ (.tail _ (.tail _ (.tail _ (.tail _ (.tail _ (.head _))))))))), (.tail _ (.tail _ (.tail _ (.tail _ (.tail _ (.tail _ (.tail _ (.tail _ (.tail _ (.head _)))))))))), by assumption, by assumption, by assumption, by assumption, by assumption, by assumption⟩⟩ ⟨_, _, _, _, _, _, _, _, _, _, _, _, _, _, _, ⟨(.tail _ (.head _)), (.tail _ (.tail _ (.head _))), (.tail _ (.tail _ (.tail _ (.head _)))), (.tail _ (.tail _ (.tail _ (.tail _ (.head _))))), by assumption, by assumption, by assumption, by assumption, by assumption, by assumption⟩⟩ rfl rfl rfl
end Mine
end PartW30
section PartW31
open PySem PySem.W PySem.Calls PyProof.Rows
namespace Mine
set_option maxHeartbeats 8000000
noncomputable def tripD (r : Int × Int × Int) : Dat := .tuple [.int r.1, .int r.2.1, .int r.2.2]
theorem dat_app {news : List (Addr × Obj)} {v : Value} {d : Dat} : ∀ {vs : List Value} {ds : List Dat}, DatAll news vs ds → DatIn news v d → DatAll news (vs ++ [v]) (ds ++ [d])
  | _, _, .nil, h => .cons h .nil
  | _, _, .cons a r, h => .cons a (dat_app r h)
theorem trip_dat {rs : List Value} {tl : List (Addr × Obj)} {rows : List (Int × Int × Int)} (h : TripRs rs tl rows) : DatAll tl rs (rows.map tripD) := by
  induction h with
  | nil => exact .nil
  | @snoc rs tl rows T a b c t u v _ ih =>
    rw [List.map_append]
    refine dat_app (ih.mono fun p hp => .tail _ hp) ?_
    exact .tuple (vs := [.int a t, .int b u, .int c v]) (n := 0) (.head _) (.cons (.int _ _) (.cons (.int _ _) (.cons (.int _ _) .nil)))
theorem trip_ok (rows : List (Int × Int × Int)) : ∀ d ∈ rows.map tripD, kqdOk 8 d = true := by
  intro d hd
  obtain ⟨r, _, rfl⟩ := List.mem_map.mp hd
  rfl
theorem eq_trips {prog : Program} {w : World} {A : Around} {E : Value → Shared → Prop} {s : Shared} {h₀ : Heap} {L a b : Addr} {news t1 t2 : List (Addr × Obj)} {xs ys : List Value} {r1 r2 : List (Int × Int × Int)} {Q : Value → Shared → Prop}
    (N : News h₀ L s.heap news) (ma : (a, LCg.lst xs) ∈ news) (Da : TripRs xs t1 r1) (sa : ∀ p ∈ t1, p ∈ news) (mb : (b, LCg.lst ys) ∈ news) (Db : TripRs ys t2 r2) (sb : ∀ p ∈ t2, p ∈ news) (e : r1 = r2) (hu : A.units + 64 < cLine) (h : Q (.bool true) s) :
    wpAny (model prog w) A (compareOp .Eq (.ref a) (.ref b)) Q E s := by
  subst e
  refine kqd_eq N ma rfl rfl (trip_dat Da) sa mb rfl rfl (trip_dat Db) sb (trip_ok _) (trip_ok _) hu ?_
  simpa using h
theorem law_8 {w : World} {mean : ExcName → Option Value} {mg mb : Str → Option Value} {dp un : Nat} {gd : Option (List Code)} {cd : Value} {A₀ : Around} {base g : Heap} {L fa : Addr} {s : Shared} {E : Value → Shared → Prop} {Q : Flow → Shared → Prop} {DF x y : Addr} {fs : List Value} {fr : List Int} {σ τ : WsSt} {news : List (Addr × Obj)} {m : Str → Option Value} (B : Below A₀ base [] g) (X : (KX w.params).In g) (T : Top qv (looseW qv looseV) mean mg mb g) (hd : dp + 32 < recursionLimit) (hu : un + 256 < cLine)
    (hi : IntsAre fs fr) (hl1 : fr.length ≤ 12) (hns : ∀ x ∈ fr, -1 ≤ x ∧ x ≤ 1) (hbare : AllBare s.gens) (heq : witF σ τ = dueF fr)
    (F0 : Fr g L s.heap m) (hm : m (sx "front") = some (.ref DF)) (hm1 : m (sx "one") = some (.ref x)) (hm2 : m (sx "other") = some (.ref y)) (N : News g L s.heap news) (hDF : (DF, PySem.W.listOf fs.toArray 0) ∈ news) (hx : WsAt w.params news x σ) (hy : WsAt w.params news y τ)
    (hret : ∀ s' m', Fr g L s'.heap m' → AllBare s'.gens → s'.drawn = s.drawn → s'.os = s.os → Q (.ret (.bool true)) s') :
    wpAny (model pw w) (lawA dp un gd L fa cd) (execs ((fdB (stm 23)).drop 13) (lawEnv L fa cd)) Q E s := by
  have F : Fr g L s.heap (fun z => if z = sx "one" then some (.ref x) else if z = sx "other" then some (.ref y) else if z = sx "front" then some (.ref DF) else m z) := fr_map F0 fun z => by
    by_cases e1 : z = sx "one"
    · rw [if_pos e1, e1, hm1]
    · rw [if_neg e1]
      by_cases e2 : z = sx "other"
      · rw [if_pos e2, e2, hm2]
      · rw [if_neg e2]
        by_cases e3 : z = sx "front"
        · rw [if_pos e3, e3, hm]
        · rw [if_neg e3]
  clear F0
  have hlen := hi.length
  have hx0 := hx
  have hy0 := hy
  obtain ⟨dx, NT, CT, cvs, q, ws, u0, u1, u2, u3, u4, u5, u6, u7, u8, Hx⟩ := hx
  obtain ⟨dy, NT2, CT2, cvs2, q2, ws2, v0, v1, v2, v3, v4, v5, v6, v7, v8, Hy⟩ := hy
  have N2 := news_four N Hx.hN Hx.hC Hx.hx Hx.hd
  have N3 := news_four N2 (.tail _ (.tail _ (.tail _ (.tail _ Hy.hN)))) (.tail _ (.tail _ (.tail _ (.tail _ Hy.hC)))) (.tail _ (.tail _ (.tail _ (.tail _ Hy.hx)))) (.tail _ (.tail _ (.tail _ (.tail _ Hy.hd))))
  clear N N2
  k_with_none
  w_on
  conv in (execs _ _) => arg 1; whnf
  repeat' (first | ((fail_if_success (with_reducible show wpAny _ _ (call (Value.ref 165) _) _ _ _)); (fail_if_success (with_reducible show wpAny _ _ (call (Value.ref 224) _) _ _ _)); (fail_if_success (with_reducible show wpAny _ _ (compareOp CmpOp.Eq (Value.ref _) (Value.ref _)) _ _ _)); first | (k_unfold; (try dsimp only)) | (k_end; kc_close) | (walk1; (try dsimp only)) | (leave1; walk_say "STEP leave1"; (try dsimp only))) | fail "no step")
  have s8 : ∀ p ∈ news, p ∈ ((NT2, tup2 CT2 τ.b v0) :: (CT2, tupV cvs2) :: (y, instObj 182 dy) :: (dy, wsDict w.params ws2 τ NT2 q2 v1 v2 v3 v4 v5 v6 v7 v8) :: (NT, tup2 CT σ.b u0) :: (CT, tupV cvs) :: (x, instObj 182 dx) :: (dx, wsDict w.params ws σ NT q u1 u2 u3 u4 u5 u6 u7 u8) :: news) := fun p hp => .tail _ (.tail _ (.tail _ (.tail _ (.tail _ (.tail _ (.tail _ (.tail _ (hp))))))))
  k_dflt (refine c_nw (by k_asm) (by k_asm) (by k_asm) (by k_asm) (by k_asm) (by first | exact rfl | assumption) (by ktr_room) (by ktr_units) (hx0.mono s8) (hy0.mono s8) ?_)
  intro h9 tk9 AL rs tl F9 N9 R1 l9
  try dsimp only
  have hDF2 := s8 _ hDF
  have hlt : DF < AL := l9 _ hDF2
  generalize (NT2, tup2 CT2 τ.b v0) :: _ = nws at N9 hDF2
  clear N3 F s8 l9
  have N10 : News g L h9 ((AL, LCg.lst rs) :: (DF, PySem.W.listOf fs.toArray 0) :: (tl ++ nws)) := fun p hp => by
    rcases List.mem_cons.mp hp with rfl | hp
    · exact N9 _ (.head _)
    · rcases List.mem_cons.mp hp with rfl | hp
      · exact N9 _ (.tail _ (List.mem_append_right _ hDF2))
      · exact N9 _ (.tail _ hp)
  clear N9
  generalize e9 : tl ++ nws = nw9 at N10
  repeat' (first | ((fail_if_success (with_reducible show wpAny _ _ (call (Value.ref 165) _) _ _ _)); (fail_if_success (with_reducible show wpAny _ _ (call (Value.ref 224) _) _ _ _)); (fail_if_success (with_reducible show wpAny _ _ (compareOp CmpOp.Eq (Value.ref _) (Value.ref _)) _ _ _)); first | (k_unfold; (try dsimp only)) | (k_end; kc_close) | (walk1; (try dsimp only)) | (leave1; walk_say "STEP leave1"; (try dsimp only))) | fail "no step")
  k_dflt (refine c_due (by k_asm) (by k_asm) (by k_asm) (by k_asm) (by k_asm) (by first | exact rfl | assumption) (by ktr_room) (by ktr_units) hbare (.tail _ (.head _)) hi hl1 hns ?_)
  intro s' AL2 rs2 tl2 F11 N11 R2 l11 b11 d11 o11
  try dsimp only
  refine eq_trips N11 (.tail _ (List.mem_append_right _ (.head _))) R1 (fun p hp => .tail _ (List.mem_append_right _ (.tail _ (.tail _ (e9 ▸ List.mem_append_left _ hp))))) (.head _) R2 (fun p hp => .tail _ (List.mem_append_left _ hp)) heq (by ktr_units) ?_
  exact hret _ _ F11 b11 d11 o11
end Mine
end PartW31
section PartP1
open PySem PySem.W PySem.Calls PyProof.Rows
namespace Mine
noncomputable def hitB (p : List Int) (M : Nat) : Bool := (List.range 12).any fun (d : Nat) => M % (d + 1) == 0 && (totAt (1 + (d : Int)) p (M / (d + 1)) == 2 || totAt (1 + (d : Int)) p (M / (d + 1)) == -2)
noncomputable def rowA : List Int := [1, -1, -1, 1, -1, 1, 1, -1, -1, 1]
noncomputable def rowB : List Int := [-1, 1, 1, -1, 1, -1, -1, 1, 1, -1]
noncomputable def fineB (p : List Int) : Bool :=
  p.length % 2 == 0 && (if p.length == 12 then p.take 10 == rowA || p.take 10 == rowB else (p != rowA.take p.length && p != rowB.take p.length))
  && decide ((leadS p).cps.size ≤ 200) && decide ((leadS (p.map negF)).cps.size ≤ 200) && wsOk (leadS p).cps.toList 0 && wsOk (leadS (p.map negF)).cps.toList 0
  && decide (witF (wsRun (leadS p).cps.toList ws0) (wsRun (leadS (p.map negF)).cps.toList ws0) = dueF p)
noncomputable def treeB : Nat → List Int → Bool
  | 0, p => hitB p p.length && fineB p
  | n + 1, p => if hitB p p.length then fineB p else treeB n (p ++ [1]) && treeB n (p ++ [-1])
theorem tree_ok : treeB 12 [] = true := by decide +kernel
end Mine
end PartP1
section PartP2
open PySem PySem.W PySem.Calls PyProof.Rows
namespace Mine
theorem tot_app (d : Nat) (p r : List Int) : ∀ k : Nat, k * (d + 1) ≤ p.length → totAt (1 + (d : Int)) (p ++ r) k = totAt (1 + (d : Int)) p k
  | 0, _ => rfl
  | k + 1, h => by
    have h1 : k * (d + 1) ≤ p.length := by rw [Nat.succ_mul] at h; omega
    unfold totAt
    rw [tot_app d p r k h1]
    congr 1
    have e : ((((k + 1 : Nat) : Int)) * (1 + (d : Int))).toNat = (k + 1) * (d + 1) := by
      have : (((k + 1 : Nat) : Int)) * (1 + (d : Int)) = (((k + 1) * (d + 1) : Nat) : Int) := by push_cast; rw [Int.add_comm 1 (d : Int)]
      rw [this, Int.toNat_natCast]
    rw [e, ← List.cons_append]
    simp only [List.getD_eq_getElem?_getD]
    rw [List.getElem?_append_left (by rw [List.length_cons]; omega)]
theorem hit_app (p r : List Int) (M : Nat) (h : M ≤ p.length) : hitB (p ++ r) M = hitB p M := by
  unfold hitB
  congr 1
  funext d
  rw [tot_app d p r _ (Nat.le_trans (Nat.div_mul_le_self M (d + 1)) h)]
theorem tree_sound : ∀ (r p : List Int), (∀ x ∈ r, x = 1 ∨ x = -1) → treeB r.length p = true → (∀ M, M < p.length → hitB p M = false) → ∃ M, M ≤ (p ++ r).length ∧ hitB (p ++ r) M = true ∧ (∀ N, N < M → hitB (p ++ r) N = false) ∧ fineB ((p ++ r).take M) = true := by
  intro r
  induction r with
  | nil =>
    intro p _ ht hn
    rw [List.length_nil] at ht
    unfold treeB at ht
    rw [Bool.and_eq_true] at ht
    rw [List.append_nil]
    exact ⟨p.length, Nat.le_refl _, ht.1, hn, by rw [List.take_length]; exact ht.2⟩
  | cons x r ih =>
    intro p hx ht hn
    rw [List.length_cons] at ht
    unfold treeB at ht
    by_cases hh : hitB p p.length = true
    · rw [if_pos hh] at ht
      refine ⟨p.length, by simp, by rw [hit_app p _ _ (Nat.le_refl _)]; exact hh, fun N hN => by rw [hit_app p _ _ (Nat.le_of_lt hN)]; exact hn N hN, by rw [List.take_left]; exact ht⟩
    · rw [if_neg hh, Bool.and_eq_true] at ht
      have e : p ++ x :: r = (p ++ [x]) ++ r := by simp
      rw [e]
      refine ih (p ++ [x]) (fun y hy => hx y (.tail _ hy)) ?_ ?_
      · rcases hx x (.head _) with rfl | rfl
        · exact ht.1
        · exact ht.2
      · intro M hM
        have hM' : M ≤ p.length := by rw [List.length_append, List.length_singleton] at hM; omega
        rw [hit_app p _ _ hM']
        by_cases e2 : M = p.length
        · rw [e2]; exact Bool.eq_false_iff.mpr hh
        · exact hn M (by omega)
theorem mem_uneven (ws : List Int) : ∀ (n : Nat) (a : Int), a ∈ unevenAt ws n ↔ ∃ j, j < n ∧ a ∈ pairM (rowsOf ws j)
  | 0, a => by simp [unevenAt]
  | n + 1, a => by
    unfold unevenAt
    rw [List.mem_append, mem_uneven ws n a]
    constructor
    · rintro (⟨j, hj, h⟩ | h)
      · exact ⟨j, by omega, h⟩
      · exact ⟨n, by omega, h⟩
    · rintro ⟨j, hj, h⟩
      by_cases e : j = n
      · rw [e] at h; exact .inr h
      · exact .inl ⟨j, by omega, h⟩
theorem mem_row (ws : List Int) (j : Nat) (a : Int) : a ∈ pairM (rowsOf ws j) ↔ ∃ i : Nat, i < ((ws.length : Int) / (1 + (j : Int))).toNat + 1 ∧ a = (i : Int) * (1 + (j : Int)) ∧ (totAt (1 + (j : Int)) ws i = 2 ∨ totAt (1 + (j : Int)) ws i = -2) := by
  unfold pairM rowsOf rowsK
  rw [List.mem_map]
  constructor
  · rintro ⟨q, hq, rfl⟩
    obtain ⟨hq1, hq2⟩ := List.mem_filter.mp hq
    obtain ⟨i, hi, rfl⟩ := List.mem_map.mp hq1
    refine ⟨i, List.mem_range.mp hi, rfl, ?_⟩
    unfold pairT at hq2
    simpa using hq2
  · rintro ⟨i, hi, rfl, ht⟩
    refine ⟨((i : Int) * (1 + (j : Int)), totAt (1 + (j : Int)) ws i), List.mem_filter.mpr ⟨List.mem_map.mpr ⟨i, List.mem_range.mpr hi, rfl⟩, ?_⟩, rfl⟩
    unfold pairT
    simpa using ht
theorem hit_iff (ws : List Int) (M : Nat) : hitB ws M = true ↔ ∃ d : Nat, d < 12 ∧ M % (d + 1) = 0 ∧ (totAt (1 + (d : Int)) ws (M / (d + 1)) = 2 ∨ totAt (1 + (d : Int)) ws (M / (d + 1)) = -2) := by
  unfold hitB
  rw [List.any_eq_true]
  constructor
  · rintro ⟨d, hd, h⟩
    refine ⟨d, List.mem_range.mp hd, ?_⟩
    simpa using h
  · rintro ⟨d, hd, h1, h2⟩
    refine ⟨d, List.mem_range.mpr hd, ?_⟩
    simpa using ⟨h1, h2⟩
theorem uneven_iff (ws : List Int) (hl : ws.length = 12) (a : Int) : a ∈ unevenAt ws 12 ↔ ∃ M : Nat, a = M ∧ M ≤ 12 ∧ hitB ws M = true := by
  rw [mem_uneven]
  constructor
  · rintro ⟨j, hj, h⟩
    obtain ⟨i, hi, rfl, ht⟩ := (mem_row ws j a).mp h
    refine ⟨i * (j + 1), ?_, ?_, (hit_iff _ _).mpr ⟨j, hj, Nat.mul_mod_left _ _, ?_⟩⟩
    · push_cast; rw [Int.add_comm 1 (j : Int)]
    · rw [hl] at hi
      have e : (((12 : Nat) : Int) / (1 + (j : Int))).toNat = 12 / (j + 1) := by
        have : ((12 : Nat) : Int) / (1 + (j : Int)) = ((12 / (j + 1) : Nat) : Int) := by push_cast; rw [Int.add_comm 1 (j : Int)]
        rw [this, Int.toNat_natCast]
      rw [e] at hi
      have h1 : i ≤ 12 / (j + 1) := by omega
      exact Nat.le_trans (Nat.mul_le_mul_right _ h1) (Nat.div_mul_le_self 12 (j + 1))
    · rw [Nat.mul_div_cancel _ (Nat.succ_pos j)]; exact ht
  · rintro ⟨M, rfl, hM, h⟩
    obtain ⟨d, hd, h1, h2⟩ := (hit_iff _ _).mp h
    refine ⟨d, hd, (mem_row _ _ _).mpr ⟨M / (d + 1), ?_, ?_, h2⟩⟩
    · rw [hl]
      have e : (((12 : Nat) : Int) / (1 + (d : Int))).toNat = 12 / (d + 1) := by
        have : ((12 : Nat) : Int) / (1 + (d : Int)) = ((12 / (d + 1) : Nat) : Int) := by push_cast; rw [Int.add_comm 1 (d : Int)]
        rw [this, Int.toNat_natCast]
      rw [e]
      exact Nat.lt_succ_of_le (Nat.div_le_div_right hM)
    · have e : M / (d + 1) * (d + 1) = M := Nat.div_mul_cancel (Nat.dvd_of_mod_eq_zero h1)
      have : ((M / (d + 1) : Nat) : Int) * (1 + (d : Int)) = ((M / (d + 1) * (d + 1) : Nat) : Int) := by push_cast; rw [Int.add_comm 1 (d : Int)]
      rw [this, e]
theorem uneven_len (ws : List Int) (hl : ws.length = 12) : ∀ n, (unevenAt ws n).length ≤ 13 * n
  | 0 => Nat.le_refl _
  | n + 1 => by
    unfold unevenAt
    rw [List.length_append]
    have a := uneven_len ws hl n
    have b : (pairM (rowsOf ws n)).length ≤ 13 := by
      unfold pairM
      rw [List.length_map]
      exact Nat.le_trans (List.length_filter_le _ _) (rowsOf_len ws n hl)
    omega
theorem plain_row (ws : List Int) (hl : ws.length = 12) (hx : ∀ x ∈ ws, x = 1 ∨ x = -1) : ∃ M : Nat, M ≤ 12 ∧ (M : Int) ∈ unevenAt ws 12 ∧ (∀ a ∈ unevenAt ws 12, (M : Int) ≤ a) ∧ fineB (ws.take M) = true := by
  obtain ⟨M, hM, hh, hn, hf⟩ := tree_sound ws [] hx (by rw [hl]; exact tree_ok) (fun M h => absurd h (Nat.not_lt_zero _))
  rw [List.nil_append] at hM hh hn hf
  rw [hl] at hM
  refine ⟨M, hM, (uneven_iff ws hl _).mpr ⟨M, rfl, hM, hh⟩, fun a ha => ?_, hf⟩
  obtain ⟨N, rfl, hN, h2⟩ := (uneven_iff ws hl a).mp ha
  by_cases c : N < M
  · rw [hn N c] at h2; exact absurd h2 (by decide)
  · omega
end Mine
end PartP2
section PartP3
open PySem PySem.W PySem.Calls PyProof.Rows
namespace Mine
open PySem.Builtin PySem.Builtin.Str in
theorem slice_take (x : Str) (n : Nat) : (Txt.slice x none (some (n : Int))).cps.toList = x.cps.toList.take n := by
  have hs : x.length = x.cps.toList.length := by simp [Str.length]
  have e : strSliceIndices none (some (n : Int)) 1 x.length = (List.range (min n x.length)).map (0 + ·) := by
    unfold strSliceIndices
    simp only [show (1 : Int) > 0 by decide, if_true, if_neg (show ¬ ((n : Int) < 0) by omega)]
    rw [show max 0 (min (n : Int) (x.length : Int)) = ((min n x.length : Nat) : Int) by omega]
    exact sliceRange_one 0 (min n x.length)
  unfold Txt.slice
  rw [e]
  split
  · rename_i h
    have h2 : min n x.length = x.length := by simpa using h
    rw [List.take_of_length_le (by omega)]
  · show ((List.range (min n x.length)).map (0 + ·)).filterMap (x.cps[·]?) = _
    rw [pick_run, List.drop_zero, hs]
    by_cases c : n ≤ x.cps.toList.length
    · rw [Nat.min_eq_left c]
    · rw [Nat.min_eq_right (by omega), List.take_of_length_le (Nat.le_refl _), List.take_of_length_le (by omega)]
theorem me_fin : ((List.range 8).all fun b => ((meantL.getD b Str.empty).cps.toList.all fun c => c == 115 || c == 116) && decide (1 ≤ (meantL.getD b Str.empty).cps.toList.length)) = true := by decide +kernel
theorem me_one (x : Int) : (∀ c ∈ (meantF x).cps.toList, c = 115 ∨ c = 116) ∧ 1 ≤ (meantF x).cps.toList.length := by
  have h := me_fin
  rw [List.all_eq_true] at h
  have hb : (x.fmod 8).toNat ∈ List.range 8 := by
    have h1 := Int.fmod_nonneg_of_pos x (by decide : (0 : Int) < 8)
    have h2 := Int.fmod_lt_of_pos x (by decide : (0 : Int) < 8)
    rw [List.mem_range]; omega
  have h3 := h _ hb
  rw [Bool.and_eq_true, List.all_eq_true] at h3
  refine ⟨fun c hc => ?_, of_decide_eq_true h3.2⟩
  have := h3.1 c hc
  simpa using this
theorem said_list (nums : List Int) : (saidF nums).cps.toList = nums.flatMap fun x => (meantF x).cps.toList := by
  unfold saidF
  rw [join_cps, List.flatMap_map]
theorem said_sign (nums : List Int) : ∀ c ∈ (saidF nums).cps.toList, c = 115 ∨ c = 116 := by
  intro c hc
  rw [said_list, List.mem_flatMap] at hc
  obtain ⟨x, _, hc⟩ := hc
  exact (me_one x).1 c hc
theorem said_long : ∀ nums : List Int, nums.length ≤ (nums.flatMap fun x => (meantF x).cps.toList).length
  | [] => Nat.le_refl _
  | x :: r => by
    have a := (me_one x).2
    have b := said_long r
    rw [List.flatMap_cons, List.length_append, List.length_cons]
    omega
noncomputable def wordF (nums : List Int) : Str := Txt.slice (saidF nums) none (some 12)
theorem word_list (nums : List Int) : (wordF nums).cps.toList = (saidF nums).cps.toList.take 12 := slice_take (saidF nums) 12
theorem word_sign (nums : List Int) : ∀ c ∈ (wordF nums).cps.toList, c = 115 ∨ c = 116 := by
  intro c hc
  rw [word_list] at hc
  exact said_sign nums c (List.mem_of_mem_take hc)
theorem word_len (nums : List Int) (hl : nums.length = 12) : (wordF nums).cps.toList.length = 12 := by
  rw [word_list, List.length_take, said_list]
  have := said_long nums
  omega
theorem worth_one {c : Nat} (h : c = 115 ∨ c = 116) : worthC c = 1 ∨ worthC c = -1 := by
  rcases h with rfl | rfl
  · exact .inl (by decide)
  · exact .inr (by decide)
theorem worth_inj {a b : Nat} (ha : a = 115 ∨ a = 116) (hb : b = 115 ∨ b = 116) (h : worthC a = worthC b) : a = b := by
  rcases ha with rfl | rfl <;> rcases hb with rfl | rfl
  · rfl
  · exact absurd h (by decide)
  · exact absurd h (by decide)
  · rfl
theorem worths_inj : ∀ (xs ys : List Nat), (∀ c ∈ xs, c = 115 ∨ c = 116) → (∀ c ∈ ys, c = 115 ∨ c = 116) → xs.map worthC = ys.map worthC → xs = ys
  | [], [], _, _, _ => rfl
  | [], _ :: _, _, _, h => by simp at h
  | _ :: _, [], _, _, h => by simp at h
  | a :: r, b :: t, ha, hb, h => by
    rw [List.map_cons, List.map_cons, List.cons.injEq] at h
    rw [worth_inj (ha a (.head _)) (hb b (.head _)) h.1, worths_inj r t (fun c hc => ha c (.tail _ hc)) (fun c hc => hb c (.tail _ hc)) h.2]
theorem str_beq (x y : Str) : (x == y) = decide (x.cps.toList = y.cps.toList) := by
  by_cases h : x = y
  · subst h; simp
  · rw [beq_eq_false_iff_ne.mpr h]
    symm
    apply decide_eq_false
    intro e
    exact h (Str.ext' (Array.toList_inj.mp e))
noncomputable def cpsA : List Nat := [115, 116, 116, 115, 116, 115, 115, 116, 116, 115]
noncomputable def cpsB : List Nat := [116, 115, 115, 116, 115, 116, 116, 115, 115, 116]
theorem cps_a : (Str.ofString "sttstsstts").cps.toList = cpsA := by decide +kernel
theorem cps_b : (Str.ofString "tsststtsst").cps.toList = cpsB := by decide +kernel
theorem take_worth (nums : List Int) (cs : List Nat) (row : List Int) (hc : ∀ c ∈ cs, c = 115 ∨ c = 116) (hr : cs.map worthC = row) : (wordF nums).cps.toList.take 10 = cs ↔ ((wordF nums).cps.toList.map worthC).take 10 = row := by
  rw [← List.map_take, ← hr]
  constructor
  · intro h; rw [h]
  · intro h; exact worths_inj _ _ (fun c hc => word_sign nums c (List.mem_of_mem_take hc)) hc h
theorem two_words (nums : List Int) : ([Str.ofString "sttstsstts", Str.ofString "tsststtsst"].any fun x => x == Txt.slice (wordF nums) none (some 10)) = (((wordF nums).cps.toList.map worthC).take 10 == rowA || ((wordF nums).cps.toList.map worthC).take 10 == rowB) := by
  have e : (Txt.slice (wordF nums) none (some 10)).cps.toList = (wordF nums).cps.toList.take 10 := slice_take (wordF nums) 10
  have ha := take_worth nums cpsA rowA (by decide) (by decide)
  have hb := take_worth nums cpsB rowB (by decide) (by decide)
  simp only [List.any_cons, List.any_nil, Bool.or_false, str_beq, cps_a, cps_b, e]
  rw [Bool.eq_iff_iff]
  simp only [Bool.or_eq_true, decide_eq_true_eq, beq_iff_eq]
  rw [← ha, ← hb]
  constructor
  · rintro (h | h)
    · exact .inl h.symm
    · exact .inr h.symm
  · rintro (h | h)
    · exact .inl h.symm
    · exact .inr h.symm
theorem nums_all (ns : List Int) : (numsF ns).length = 12 ∧ (∀ x ∈ numsF ns, 0 ≤ x) ∧ (∀ x ∈ numsF ns, x < 1000000) := by
  have e6 : (10 : Int) ^ Int.toNat 6 = 1000000 := by decide
  refine ⟨?_, ?_, ?_⟩
  · unfold numsF
    simp only [List.length_append, List.length_map, List.length_drop, List.length_take, Int.toNat_natCast, List.length_cons, List.length_nil]
    omega
  · intro x hx
    unfold numsF at hx
    rcases List.mem_append.mp hx with hx | hx
    · obtain ⟨k, _, rfl⟩ := List.mem_map.mp hx
      rw [e6]
      exact Int.fmod_nonneg_of_pos k (by decide)
    · have h2 := List.mem_of_mem_drop hx
      have : ∀ y ∈ [(0 : Int), 9, 3, 4, 7, 18, 6, 1, 11, 2, 12, 1], 0 ≤ y := by decide
      exact this x h2
  · intro x hx
    unfold numsF at hx
    rcases List.mem_append.mp hx with hx | hx
    · obtain ⟨k, _, rfl⟩ := List.mem_map.mp hx
      rw [e6]
      exact Int.fmod_lt_of_pos k (by decide)
    · have h2 := List.mem_of_mem_drop hx
      have : ∀ y ∈ [(0 : Int), 9, 3, 4, 7, 18, 6, 1, 11, 2, 12, 1], y < 1000000 := by decide
      exact this x h2
theorem fine_twelve {ws : List Int} {M : Nat} (hl : ws.length = 12) (hM : M ≤ 12) (h : fineB (ws.take M) = true) : ((M == 12) = (ws.take 10 == rowA || ws.take 10 == rowB)) ∧ M % 2 = 0 := by
  unfold fineB at h
  have el : (ws.take M).length = M := by rw [List.length_take]; omega
  rw [el] at h
  simp only [Bool.and_eq_true, beq_iff_eq] at h
  obtain ⟨⟨⟨⟨⟨⟨h0, h1⟩, _⟩, _⟩, _⟩, _⟩, _⟩ := h
  refine ⟨?_, h0⟩
  by_cases e : M = 12
  · subst e
    rw [if_pos rfl, List.take_take] at h1
    rw [show min 10 12 = 10 from rfl] at h1
    rw [h1]; decide
  · rw [if_neg e] at h1
    have h2 : M ≤ 10 := by omega
    have nA : ws.take 10 ≠ rowA := by
      intro c
      have : ws.take M = rowA.take M := by rw [← c, List.take_take, Nat.min_eq_left h2]
      rw [this] at h1
      simp at h1
    have nB : ws.take 10 ≠ rowB := by
      intro c
      have : ws.take M = rowB.take M := by rw [← c, List.take_take, Nat.min_eq_left h2]
      rw [this] at h1
      simp at h1
    rw [beq_eq_false_iff_ne.mpr e, beq_eq_false_iff_ne.mpr nA, beq_eq_false_iff_ne.mpr nB]
    rfl
theorem fine_rest {p : List Int} (h : fineB p = true) : (leadS p).cps.size ≤ 200 ∧ (leadS (p.map negF)).cps.size ≤ 200 ∧ wsOk (leadS p).cps.toList 0 = true ∧ wsOk (leadS (p.map negF)).cps.toList 0 = true ∧ witF (wsRun (leadS p).cps.toList ws0) (wsRun (leadS (p.map negF)).cps.toList ws0) = dueF p := by
  unfold fineB at h
  simp only [Bool.and_eq_true, decide_eq_true_eq] at h
  obtain ⟨⟨⟨⟨⟨_, h2⟩, h3⟩, h4⟩, h5⟩, h6⟩ := h
  exact ⟨h2, h3, h4, h5, h6⟩
end Mine
end PartP3
section PartW32
open PySem PySem.W PySem.Calls PyProof.Rows
namespace Mine
theorem one_small {x : Int} (h : x = 1 ∨ x = -1) : -1 ≤ x ∧ x ≤ 1 := by omega
theorem law_all {w : World} {mean : ExcName → Option Value} {mg mb : Str → Option Value} {dp un : Nat} {gd : Option (List Code)} {cd : Value} {A₀ : Around} {base g : Heap} {L fa : Addr} {s : Shared} {E : Value → Shared → Prop} {Q : Flow → Shared → Prop} {R : Addr} {rvs : List Value} {ns : List Int} {oc : Obj} (B : Below A₀ base [] g) (X : (KX w.params).In g) (T : Top qv (looseW qv looseV) mean mg mb g) (hd : dp + 32 < recursionLimit) (hu : un + 256 < cLine)
    (hR : g.IsList R rvs.toArray) (hi : IntsAre rvs ns) (hl : ns.length ≤ 63)
    (F : Fr g L s.heap (fun y => if y = sx "script" then some (.ref R) else none)) (hoc : oc.data = .cell none) (N : News g L s.heap [(L + 1, oc)]) (hbare : AllBare s.gens)
    (hret : ∀ s' m', Fr g L s'.heap m' → AllBare s'.gens → s'.drawn = s.drawn → s'.os = s.os → Q (.ret (.bool true)) s') :
    wpAny (model pw w) (lawA dp un gd L fa cd) (execs (fdB (stm 23)) (lawEnv L fa cd)) Q E s := by
  obtain ⟨n12, nlo, nhi⟩ := nums_all ns
  refine law_1 B X T hd hu hR hi hl F hoc N fun h1 tk1 D1 us1 m1 F1 N1 hm1 hi1 => ?_
  refine law_2 B X T hd hu hi1 n12 nlo nhi F1 hm1 hoc N1 fun h2 tk2 t2 m2 F2 N2 hm2 => ?_
  have hwl := word_len (numsF ns) n12
  have hws := word_sign (numsF ns)
  have hsz : (wordF (numsF ns)).cps.size = 12 := by rw [← hwl, Array.length_toList]
  refine law_3 (word := wordF (numsF ns)) B X T hd hu hsz F2 hm2 hoc N2 fun h3 tk3 D3 ys3 oc3 m3 F3 N3 ne3 hoc3 hm3 hi3 => ?_
  have htw := two_words (numsF ns)
  generalize hW : (wordF (numsF ns)).cps.toList.map worthC = ws at hi3 htw
  have hl12 : ws.length = 12 := by rw [← hW, List.length_map, hwl]
  have hone : ∀ x ∈ ws, x = 1 ∨ x = -1 := by
    intro x hx
    rw [← hW] at hx
    obtain ⟨c, hc, rfl⟩ := List.mem_map.mp hx
    exact worth_one (hws c hc)
  obtain ⟨M, hM12, hMm, hMl, hMf⟩ := plain_row ws hl12 hone
  refine law_4 (ws := ws) B X T hd hu hl12 hi3 (fun x hx => one_small (hone x hx)) F3 hm3 hoc3 N3 hbare fun s4 DW fds objs m4 F4 N4 rel hm4 hm4' b4 d4 o4 => ?_
  refine law_5 B X T hd hu hl12 F4 hm4 hm4' hoc3 N4 rel fun h5 tk5 DU us5 m5 F5 N5 hi5 hm5 hm5' => ?_
  have tw := fine_twelve hl12 hM12 hMf
  have only : ∀ M' ∈ unevenAt ws 12, (∀ a, a ∈ unevenAt ws 12 → M' ≤ a) → M' = (M : Int) := fun M' h1 h2 => Int.le_antisymm (h2 _ hMm) (hMl _ h1)
  refine law_6 (um := unevenAt ws 12) (ws := ws) B X T hd hu (List.ne_nil_of_mem hMm) (Nat.le_trans (uneven_len ws hl12 12) (by decide)) (show (wordF (numsF ns)).cps.size ≤ 100 by rw [hsz]; decide) hi5 hi3 hl12 ?_ F5 hm5 hm5' hoc3 N5 fun h6 tk6 DF fs m6 M' hm' hmin F6 N6 hi6 hm6 => ?_
  · intro M' h1 h2
    obtain rfl := only M' h1 h2
    refine ⟨?_, ?_, Int.natCast_nonneg M⟩
    · have := tw.2
      rw [Int.fmod_eq_emod_of_nonneg _ (by decide)]
      omega
    · rw [htw, ← tw.1]
      have e : (((M : Int)) == 12) = (M == 12) := by
        rw [Bool.eq_iff_iff]
        simp only [beq_iff_eq]
        omega
      rw [e]
      simp
  · obtain rfl := only M' hm' hmin
    rw [Int.toNat_natCast] at hi6
    have hfl : (ws.take M).length ≤ 12 := by rw [List.length_take]; omega
    obtain ⟨f1, f2, f3, f4, f5⟩ := fine_rest hMf
    refine law_7 B X T hd hu hi6 hfl (by rw [List.length_map]; exact hfl) f1 f2 f3 f4 F6 hm6 N6 fun h7 tk7 x y news7 m7 F7 N7 hDF hx hy hm7 hm71 hm72 => ?_
    refine law_8 B X T hd hu hi6 hfl (fun x hx => one_small (hone x (List.mem_of_mem_take hx))) b4 f5 F7 hm7 hm71 hm72 N7 hDF hx hy fun s8 m8 F8 b8 d8 o8 => ?_
    exact hret s8 m8 F8 b8 (d8.trans d4) (o8.trans o4)
end Mine
end PartW32
section PartE3
open PySem PySem.W PySem.Calls PyProof.Rows
namespace Mine
set_option maxHeartbeats 8000000
theorem walkV : WalkO qv looseV (XL qv []) (InK KX) rowV.toRowW lawD [] fun f vs => PySem.call f vs := by
  w_on
  k_fill
  intro w s₀ s₁ mg mb G Y fa o pm cd doc dV kV ho hd hcd hD hmg hg args vals as hpre hlay hrd hwl hlo
  have XK : (KX w.params).In s₁.heap := Y
  clear Y
  have X := (Ground.X G).1
  have V := (Ground.X G).2
  refine Ground.open G ?_
  intro T B D TE TW
  try (refine guard_noD D (by decide +kernel) ?_; clear D)
  obtain ⟨_, _, M⟩ := bmod_of_top T
  have TA := at_of_top T
  try (obtain ⟨_, _, he, B0⟩ := based_of_top T rfl hmg ho hd; have he' : cd = _ := he; subst he'; clear he)
  clear hmg
  wrow_args hpre hlay hrd hwl hlo
  all_goals (
    first | refine callC_kw (enter_call ?_) | refine enter_call ?_ | refine callC_kw (enter_callW ?_) | refine enter_callW ?_ | w_how
    w_top on
    have K0 := below_caller (Top.heap T)
    w_call any ho hd hcd hD T F
    clear hd TA
    k_drop
    skip)
  · with_reducible rename News _ _ _ _ => N0
    with_reducible rename IntsAre _ _ => hI
    with_reducible rename Heap.IsList _ _ _ => hL
    rename ¬ ((63 : Nat) : Int) < _ => hlen
    rename _ = Data.cell _ => hoc
    have hg' : AllBare s₁.gens := AllBare.of_eq hg
    refine law_all (A₀ := callerA) (base := T.heap) (un := _) (gd := _) (dp := _) (L := s₁.heap.objs.size) (oc := _) K0 XK T ?_ ?_ hL hI (by omega) (fr_map F fun y => ?_) (hoc.trans ?_) N0 hg' fun s' m' F' b' d' o' => ?_
    · decide
    · decide
    · with_unfolding_all rfl
    · with_unfolding_all rfl
    · refine ⟨.inl ⟨.bool true, .bool true, [], rfl, ?_, .bool _, ?_, ?_⟩, .of_keep F'.keep, o', b'⟩
      · intro cls; rfl
      · with_unfolding_all rfl
      · exact fun _ => ⟨List.nodup_nil, fun _ h => absurd h (by simp)⟩
end Mine
end PartE3
theorem PySem.Challenge.cw_tl0046_01_holds : PySem.Challenge.rw_tl0046_01.Holds := by
  exact Mine.headV Mine.walkV
