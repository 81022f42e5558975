import PyProof.Rows.All
import Wide.All
import OpenK.AllK
import Wide.FinOn
import Open.Tops
import PySem.Challenge.RW_im0126_01
set_option Elab.async false
set_option linter.all false
section H1part
open PySem PySem.W PyProof.Rows
set_option maxRecDepth 100000
namespace Mine

section
variable (p : Program) (w : World) (n₀ : Nat) (ann : Option Value)

noncomputable def Goes (N : Nat) (s : Shared) (t : Thread) (s' : Shared) (t' : Thread) : Prop :=
  ∃ n, n ≤ N ∧ segGo treeTable p w n₀ ann 1 n s t = some (s', t')

noncomputable def Tr {α : Type} (N : Nat) (cd : Code) (t : Sem α) (s : Shared) (a : α) (s' : Shared) : Prop :=
  ∀ (K : α → Sem Fin) (H : Value → Sem Fin) (gd : Bool → Bool) (lv : List Value → List Value) (pos : Pos) (f1 f2 : Frame) (st : List Frame),
    ∃ pos', Goes p w n₀ ann N s ⟨t.wrap K H gd lv, cd, pos, f1 :: f2 :: st⟩ s' ⟨K a, cd, pos', f1 :: f2 :: st⟩

noncomputable def CR (N : Nat) (c : Code) (s : Shared) (f : Flow) (s' : Shared) : Prop :=
  ∀ (k : Result → Sem Fin) (h : Option Value) (g : Bool) (l : List Value) (cd : Code) (pos pos0 : Pos) (kept : List Value) (f1 : Frame) (st : List Frame),
    Goes p w n₀ ann N s ⟨denote treeTable c, c, pos0, .ret k h g l cd pos kept :: f1 :: st⟩ s' ⟨k (.ok f), cd, pos, f1 :: st⟩
end

section
variable {p : Program} {w : World} {n₀ : Nat} {ann : Option Value}

theorem segGo_add : ∀ {n m : Nat} {s s1 : Shared} {t t1 : Thread} {r : Shared × Thread}, segGo treeTable p w n₀ ann 1 n s t = some (s1, t1) →
    segGo treeTable p w n₀ ann 1 m s1 t1 = some r → segGo treeTable p w n₀ ann 1 (n + m) s t = some r
  | 0, m, s, s1, t, t1, r, h, k => by
    obtain ⟨rfl, rfl⟩ : s = s1 ∧ t = t1 := by simpa [segGo] using h
    rw [Nat.zero_add]; exact k
  | n + 1, m, s, s1, t, t1, r, h, k => by
    rw [show n + 1 + m = n + m + 1 by omega]
    unfold segGo at h ⊢
    cases he : endAt 1 t with
    | some f => rw [he] at h; cases h
    | none =>
      rw [he] at h
      cases hk : stepOk n₀ ann t with
      | false => rw [hk] at h; cases h
      | true =>
        rw [hk] at h
        cases hs : step (denote treeTable) p w s t with
        | halt o s₂ => rw [hs] at h; cases h
        | go s₂ t₂ => rw [hs] at h; exact segGo_add h k

theorem Goes.refl {s : Shared} {t : Thread} : Goes p w n₀ ann 0 s t s t := ⟨0, Nat.le_refl _, rfl⟩
theorem Goes.trans {N M : Nat} {s s1 s2 : Shared} {t t1 t2 : Thread} (h : Goes p w n₀ ann N s t s1 t1) (k : Goes p w n₀ ann M s1 t1 s2 t2) : Goes p w n₀ ann (N + M) s t s2 t2 := by
  obtain ⟨n, hn, h⟩ := h
  obtain ⟨m, hm, k⟩ := k
  exact ⟨n + m, by omega, segGo_add h k⟩
theorem Goes.le {N M : Nat} {s s1 : Shared} {t t1 : Thread} (h : Goes p w n₀ ann N s t s1 t1) (l : N ≤ M) : Goes p w n₀ ann M s t s1 t1 := by
  obtain ⟨n, hn, h⟩ := h
  exact ⟨n, by omega, h⟩
theorem Goes.step {s s' : Shared} {t t' : Thread} (e : endAt 1 t = none) (ok : stepOk n₀ ann t = true) (h : step (denote treeTable) p w s t = .go s' t') : Goes p w n₀ ann 1 s t s' t' := by
  refine ⟨1, Nat.le_refl _, ?_⟩
  unfold segGo
  rw [e, ok, h]
  rfl
theorem endAt_two (cur : Sem Fin) (cd : Code) (pos : Pos) (f1 f2 : Frame) (st : List Frame) : endAt 1 ⟨cur, cd, pos, f1 :: f2 :: st⟩ = none := by
  unfold endAt
  have : ((f1 :: f2 :: st).length == 1) = false := by simp
  simp only [this]

variable {α β : Type} {cd : Code} {s s1 s2 : Shared}
theorem Tr.le {N M : Nat} {t : Sem α} {a : α} (h : Tr p w n₀ ann N cd t s a s1) (l : N ≤ M) : Tr p w n₀ ann M cd t s a s1 := fun K H gd lv pos f1 f2 st => by
  obtain ⟨q, h⟩ := h K H gd lv pos f1 f2 st
  exact ⟨q, h.le l⟩
theorem Tr.pure {a : α} : Tr p w n₀ ann 0 cd (Sem.pure a) s a s := fun _ _ _ _ pos _ _ _ => ⟨pos, .refl⟩
theorem Tr.pure' {a : α} : Tr p w n₀ ann 0 cd (Pure.pure a : Sem α) s a s := fun _ _ _ _ pos _ _ _ => ⟨pos, .refl⟩
theorem Tr.bind {N M : Nat} {m : Sem α} {f : α → Sem β} {a : α} {b : β} (h : Tr p w n₀ ann N cd m s a s1) (k : Tr p w n₀ ann M cd (f a) s1 b s2) : Tr p w n₀ ann (N + M) cd (m >>= f) s b s2 := fun K H gd lv pos f1 f2 st => by
  rw [Sem.bind_eq_wrap', Sem.wrap_wrap]
  obtain ⟨q, h⟩ := h (fun a => (f a).wrap K H gd lv) (fun e => (Sem.raise e : Sem β).wrap K H gd lv) (fun g => gd (id g)) (fun l => lv (id l)) pos f1 f2 st
  obtain ⟨q', k⟩ := k K H gd lv q f1 f2 st
  exact ⟨q', h.trans k⟩
theorem Tr.wrapped {N : Nat} {m : Sem α} {a : α} {H : Value → Sem α} {gd : Bool → Bool} {lv : List Value → List Value} (h : Tr p w n₀ ann N cd m s a s1) : Tr p w n₀ ann N cd (m.wrap .pure H gd lv) s a s1 := fun K H' gd' lv' pos f1 f2 st => by
  rw [Sem.wrap_wrap]
  exact h _ _ _ _ pos f1 f2 st
theorem Tr.keep {N : Nat} {m : Sem α} {a : α} {vs : List Value} (h : Tr p w n₀ ann N cd m s a s1) : Tr p w n₀ ann N cd (m.keep vs) s a s1 := by
  rw [Sem.keep_eq_wrap]; exact h.wrapped
theorem Tr.holding {N : Nat} {m : Sem α} {a : α} {vs : List Value} (h : Tr p w n₀ ann N cd m s a s1) : Tr p w n₀ ann N cd (PySem.holding vs m) s a s1 := by
  unfold PySem.holding
  split
  · exact h
  · exact h.keep
theorem Tr.one {N : Nat} {t t' : Sem α} {a : α} {s s' s2 : Shared}
    (h : ∀ (K : α → Sem Fin) (H : Value → Sem Fin) (gd : Bool → Bool) (lv : List Value → List Value) (pos : Pos) (st : List Frame),
      stepOk n₀ ann ⟨t.wrap K H gd lv, cd, pos, st⟩ = true ∧ ∃ pos', step (denote treeTable) p w s ⟨t.wrap K H gd lv, cd, pos, st⟩ = .go s' ⟨t'.wrap K H gd lv, cd, pos', st⟩)
    (k : Tr p w n₀ ann N cd t' s' a s2) : Tr p w n₀ ann (N + 1) cd t s a s2 := fun K H gd lv pos f1 f2 st => by
  obtain ⟨h1, pos', h2⟩ := h K H gd lv pos (f1 :: f2 :: st)
  obtain ⟨q, k⟩ := k K H gd lv pos' f1 f2 st
  rw [Nat.add_comm]
  exact ⟨q, (Goes.step (endAt_two ..) h1 h2).trans k⟩

theorem Tr.rule_ {N : Nat} {tag : String} {k : Unit → Sem α} {a : α} (h : Tr p w n₀ ann N cd (k ()) s a s1) : Tr p w n₀ ann (N + 1) cd (.rule tag k) s a s1 :=
  Tr.one (fun K H gd lv pos st => ⟨rfl, pos, rfl⟩) h
theorem Tr.point_ {N : Nat} {l : List Value} {k : Unit → Sem α} {a : α} (h : Tr p w n₀ ann N cd (k ()) s a s1) : Tr p w n₀ ann (N + 1) cd (.point l k) s a s1 :=
  Tr.one (fun K H gd lv pos st => ⟨rfl, pos, rfl⟩) h
theorem Tr.fresh_ {N : Nat} {k : Tok → Sem α} {a : α} (h : Tr p w n₀ ann N cd (k s.toks) { s with toks := s.toks + 1 } a s1) : Tr p w n₀ ann (N + 1) cd (.fresh k) s a s1 :=
  Tr.one (fun K H gd lv pos st => ⟨rfl, pos, rfl⟩) h
theorem Tr.ask_ {N : Nat} {k : Setting → Sem α} {a : α} (h : Tr p w n₀ ann N cd (k ⟨p, w.params⟩) s a s1) : Tr p w n₀ ann (N + 1) cd (.ask k) s a s1 :=
  Tr.one (fun K H gd lv pos st => ⟨rfl, pos, rfl⟩) h
theorem Tr.load_ {N : Nat} {b : Addr} {q : Option Value} {o : Obj} {k : Obj → Sem α} {a : α} (ho : s.heap.get? b = some o) (h : Tr p w n₀ ann N cd (k o) s a s1) : Tr p w n₀ ann (N + 1) cd (.load b q k) s a s1 :=
  Tr.one (fun K H gd lv pos st => ⟨rfl, pos, by obtain ⟨heap, gens, drawn, toks, os⟩ := s; simp only [Sem.wrap, step, ho]⟩) h
theorem Tr.update_ {N : Nat} {b : Addr} {q : Option Value} {o : Obj} {f : Obj → Obj} {k : Unit → Sem α} {a : α} (hb : n₀ ≤ b) (ho : s.heap.get? b = some o) (h : Tr p w n₀ ann N cd (k ()) { s with heap := s.heap.update b f } a s1) : Tr p w n₀ ann (N + 1) cd (.update b q f k) s a s1 :=
  Tr.one (fun K H gd lv pos st => ⟨by
    have : Nat.ble n₀ b = true := Nat.ble_eq_true_of_le hb
    show (Thread.calm _ && (Nat.ble n₀ b || _ || _ || _)) = true
    rw [this]; rfl, pos, by obtain ⟨heap, gens, drawn, toks, os⟩ := s; simp only [Sem.wrap, step, ho, Option.isSome_some, if_true]⟩) h
theorem step_call {c : Code} {h : Option Value} {g : Bool} {l : List Value} {k : Result → Sem Fin} {s : Shared} {cd : Code} {pos : Pos} {st : List Frame} :
    ∃ kept, step (denote treeTable) p w s ⟨.call c h g l k, cd, pos, st⟩ = .go s ⟨denote treeTable c, c, pos, .ret k h g l cd pos kept :: st⟩ := by
  obtain ⟨heap, gens, drawn, toks, os⟩ := s
  exact ⟨_, rfl⟩
theorem Tr.call_ {N M : Nat} {c : Code} {h : Option Value} {g : Bool} {l : List Value} {k : Result → Sem α} {f : Flow} {a : α} (x : CR p w n₀ ann M c s f s1) (y : Tr p w n₀ ann N cd (k (.ok f)) s1 a s2) : Tr p w n₀ ann (1 + M + N) cd (.call c h g l k) s a s2 := fun K H gd lv pos f1 f2 st => by
  obtain ⟨q, y⟩ := y K H gd lv pos f1 f2 st
  obtain ⟨kept, e⟩ := step_call (p := p) (w := w) (c := c) (h := h) (g := gd g) (l := lv l) (k := fun r => (k r).wrap K H gd lv) (s := s) (cd := cd) (pos := pos) (st := f1 :: f2 :: st)
  exact ⟨q, Goes.trans (Goes.trans (Goes.step (endAt_two ..) rfl e) (x (fun r => (k r).wrap K H gd lv) h (gd g) (lv l) cd pos pos kept f1 (f2 :: st))) y⟩
theorem wrap_id : ∀ (t : Sem α), t.wrap Sem.pure Sem.raise id id = t := by
  intro t
  induction t <;> simp only [Sem.wrap, id, *]
theorem CR.done {N : Nat} {c : Code} {f : Flow} (h : Tr p w n₀ ann N c (denote treeTable c) s (.done f) s1) : CR p w n₀ ann (N + 1) c s f s1 := fun k hd g l cd pos pos0 kept f1 st => by
  obtain ⟨q, h⟩ := h Sem.pure Sem.raise id id pos0 (.ret k hd g l cd pos kept) f1 st
  rw [wrap_id] at h
  refine Goes.trans h (Goes.step (endAt_two ..) rfl ?_)
  obtain ⟨heap, gens, drawn, toks, os⟩ := s1
  rfl
theorem CR.again {N M : Nat} {c c' : Code} {f : Flow} (h : Tr p w n₀ ann N c (denote treeTable c) s (.again c') s1) (hq : c'.quiet = true) (k : CR p w n₀ ann M c' s1 f s2) : CR p w n₀ ann (N + 1 + M) c s f s2 := fun kk hd g l cd pos pos0 kept f1 st => by
  obtain ⟨q, h⟩ := h Sem.pure Sem.raise id id pos0 (.ret kk hd g l cd pos kept) f1 st
  rw [wrap_id] at h
  refine Goes.trans (Goes.trans h (Goes.step (endAt_two ..) ?_ ?_)) (k kk hd g l cd pos q (keptBy c c' l kept) f1 st)
  · show (Thread.calm _ && true) = true
    rw [Bool.and_true, Thread.calm_eq, Thread.loud_again, hq]
    rfl
  · obtain ⟨heap, gens, drawn, toks, os⟩ := s1
    exact step_again
end
end Mine
end H1part
section H2part
open PySem PySem.W PyProof.Rows
set_option maxRecDepth 100000
namespace Mine

abbrev rowN : String := "special-get-raises"
noncomputable def bhash (P : Params) (b : Array UInt8) : Int := if (⟨b.map (·.toNat)⟩ : Str).cps.isEmpty then 0 else reduceHash (P.strHash (b.map (·.toNat)))

section
variable {p : Program} {w : World} {n₀ : Nat} {ann : Option Value}

theorem hash_go (bb : Bool) (b : Array UInt8) (t : Tok) (heap : Heap) (gens : Array GenState) (drawn : Drawn) (toks : Nat) (os : OsState) (K : Int → Sem PySem.Fin) (H : Value → Sem PySem.Fin) (gd : Bool → Bool) (lv : List Value → List Value) (cd : Code) (pos : Pos) (f1 f2 : Frame) (st : List Frame) :
    segGo treeTable p (w.withFollow rowN bb) n₀ ann 1 6 ⟨heap, gens, drawn, toks, os⟩ ⟨(pyHash (.bytes b t)).wrap K H gd lv, cd, pos, f1 :: f2 :: st⟩ =
    some (⟨heap, gens, drawn, toks + 1, os⟩, ⟨(pyHashByItsType.reduced (bhash (w.withFollow rowN bb).params b)).wrap K H gd lv, cd, pos, f1 :: f2 :: st⟩) := by
  cases bb <;> kernel_rfl

theorem bhash_facts (P : Params) (b : Array UInt8) : -(2 ^ 63) ≤ bhash P b ∧ bhash P b < 2 ^ 63 ∧ bhash P b ≠ -1 := by
  unfold bhash
  split
  · decide
  · unfold reduceHash
    generalize P.strHash (b.map (·.toNat)) = i
    split
    · rename_i h
      simp only [Bool.and_eq_true, decide_eq_true_eq] at h
      split
      · decide
      · rename_i q
        simp only [beq_iff_eq] at q
        exact ⟨h.1, h.2, q⟩
    · have h1 : 0 ≤ (i.natAbs : Int) % (2 ^ 61 - 1) := Int.emod_nonneg _ (by decide)
      have h2 : (i.natAbs : Int) % (2 ^ 61 - 1) < 2 ^ 61 - 1 := Int.emod_lt_of_pos _ (by decide)
      generalize (i.natAbs : Int) % (2 ^ 61 - 1) = j at h1 h2
      dsimp only
      split <;> split <;> simp_all <;> omega
theorem reduced_bhash (P : Params) (b : Array UInt8) : pyHashByItsType.reduced (bhash P b) = (Pure.pure (bhash P b) : Sem Int) := by
  obtain ⟨h1, h2, h3⟩ := bhash_facts P b
  unfold pyHashByItsType.reduced
  rw [if_pos (by simp only [Bool.and_eq_true, decide_eq_true_eq]; exact ⟨h1, h2⟩), if_neg (by simpa using h3)]

variable {cd : Code} {s s1 s2 : Shared}
theorem Tr.hashB (b : Array UInt8) (t : Tok) : Tr p w n₀ ann 6 cd (pyHash (.bytes b t)) s (bhash w.params b) { s with toks := s.toks + 1 } := by
  intro K H gd lv pos f1 f2 st
  have key : ∀ bb, Goes p (w.withFollow rowN bb) n₀ ann 6 s ⟨(pyHash (.bytes b t)).wrap K H gd lv, cd, pos, f1 :: f2 :: st⟩ { s with toks := s.toks + 1 } ⟨K (bhash (w.withFollow rowN bb).params b), cd, pos, f1 :: f2 :: st⟩ := fun bb => by
    obtain ⟨heap, gens, drawn, toks, os⟩ := s
    refine ⟨6, Nat.le_refl _, ?_⟩
    rw [hash_go bb, reduced_bhash]
    rfl
  have k := key (w.params.followText rowN)
  rw [World.withFollow_self] at k
  exact ⟨pos, k⟩

theorem eq_go (bb : Bool) (b c : Array UInt8) (t u : Tok) (heap : Heap) (gens : Array GenState) (drawn : Drawn) (toks : Nat) (os : OsState) (K : Bool → Sem PySem.Fin) (H : Value → Sem PySem.Fin) (gd : Bool → Bool) (lv : List Value → List Value) (cd : Code) (pos : Pos) (f1 f2 : Frame) (st : List Frame) :
    segGo treeTable p (w.withFollow rowN bb) n₀ ann 1 4 ⟨heap, gens, drawn, toks, os⟩ ⟨(do truthOfDropped (← richCompare .Eq (.bytes b t) (.bytes c u)) : Sem Bool).wrap K H gd lv, cd, pos, f1 :: f2 :: st⟩ =
    some (⟨heap, gens, drawn, toks, os⟩, ⟨K (PySem.Builtin.Bytes.order b.toList c.toList == .eq), cd, pos, f1 :: f2 :: st⟩) := by
  cases bb <;> kernel_rfl

theorem Tr.eqB (b c : Array UInt8) (t u : Tok) : Tr p w n₀ ann 4 cd (eqBool (.bytes b t) (.bytes c u)) s (decide (b = c)) s := by
  unfold eqBool
  refine Tr.holding ?_
  by_cases hab : (Value.bytes b t == Value.bytes c u) = true
  · rw [if_pos hab]
    have e : b = c := by have := eq_of_beq hab; injection this
    subst e
    rw [decide_eq_true rfl]
    exact Tr.le (Tr.bind (N := 1) (M := 0) (Tr.rule_ Tr.pure) Tr.pure') (by omega)
  · rw [if_neg hab]
    intro K H gd lv pos f1 f2 st
    obtain ⟨heap, gens, drawn, toks, os⟩ := s
    refine ⟨pos, 4, Nat.le_refl _, ?_⟩
    have e : (PySem.Builtin.Bytes.order b.toList c.toList == .eq) = decide (b = c) := by
      rw [W.order_eq, Bool.eq_iff_iff]; simp
    rw [← e]
    have k := eq_go (p := p) (w := w) (n₀ := n₀) (ann := ann) (w.params.followText rowN) b c t u heap gens drawn toks os K H gd lv cd pos f1 f2 st
    rw [World.withFollow_self] at k
    exact k

theorem Tr.forIn_first {γ δ : Type} (F : γ → δ → Sem (ForInStep δ)) (b₀ : δ) (hit : γ → δ) (sel : γ → Bool) (c : Nat) : ∀ l : List γ,
    (∀ i ∈ l, Tr p w n₀ ann c cd (F i b₀) s (if sel i = true then .done (hit i) else .yield b₀) s) →
    Tr p w n₀ ann (c * l.length) cd (forIn l b₀ F) s (match l.find? sel with | some i => hit i | none => b₀) s
  | [], _ => by rw [List.forIn_nil]; exact Tr.pure'
  | i :: l, h => by
    rw [List.forIn_cons, List.find?_cons]
    have h0 := h i (.head _)
    cases e : sel i with
    | true =>
      rw [if_pos e] at h0
      exact Tr.le (Tr.bind h0 Tr.pure') (by rw [List.length_cons, Nat.mul_add]; omega)
    | false =>
      rw [if_neg (by rw [e]; exact Bool.false_ne_true)] at h0
      exact Tr.le (Tr.bind h0 (Tr.forIn_first F b₀ hit sel c l fun j hj => h j (.tail _ hj))) (by rw [List.length_cons, Nat.mul_add]; omega)

noncomputable def isB (b : Array UInt8) : Value → Bool
  | .bytes c _ => decide (c = b)
  | _ => false
noncomputable def BK (P : Params) (es : Array DictEntry) : Prop := ∀ e ∈ es, ∃ b t, e.key = .bytes b t ∧ e.hash = bhash P b

theorem Tr.epoch {d : Addr} {o : Obj} {es : Array DictEntry} {ep : Nat} {q : Option Value} (ho : s.heap.get? d = some o) (hd : o.data = .dict es ep) : Tr p w n₀ ann 1 cd (dictEpoch d q) s ep s := by
  unfold dictEpoch
  refine Tr.bind (N := 1) (M := 0) (a := o) (Tr.load_ ho Tr.pure) ?_
  rw [hd]; exact Tr.pure'
theorem Tr.entries {d : Addr} {o : Obj} {es : Array DictEntry} {ep : Nat} {q : Option Value} (ho : s.heap.get? d = some o) (hd : o.data = .dict es ep) : Tr p w n₀ ann 1 cd (dictEntries d q) s es s := by
  unfold dictEntries
  refine Tr.bind (N := 1) (M := 0) (a := o) (Tr.load_ ho Tr.pure) ?_
  rw [hd]; exact Tr.pure'

noncomputable def selB (es : Array DictEntry) (b : Array UInt8) (i : Nat) : Bool := match es[i]? with
  | some e => isB b e.key
  | none => false
theorem Tr.walkB {d : Addr} {o : Obj} {es : Array DictEntry} {ep : Nat} (b : Array UInt8) (t : Tok) (ho : s.heap.get? d = some o) (hd : o.data = .dict es ep) (hk : BK w.params es) (places : List Nat) :
    Tr p w n₀ ann (8 * places.length) cd (dictWalkPlain d (.bytes b t) (bhash w.params b) es places) s (places.find? (selB es b)) s := by
  unfold dictWalkPlain
  refine Tr.le (Tr.bind (M := 0) (Tr.forIn_first _ _ (fun i => (some (some i), ())) (selB es b) 8 places ?_) ?_) (Nat.le_refl _)
  · intro i hi
    cases he : es[i]? with
    | none =>
      have : selB es b i = false := by unfold selB; rw [he]
      simp only [this, Bool.false_eq_true, if_false]
      exact Tr.le Tr.pure' (by omega)
    | some e =>
      obtain ⟨c, u, hc, hh⟩ := hk e (Array.mem_of_getElem? he)
      obtain ⟨eh, ek, ev⟩ := e
      dsimp only at hc hh
      subst hc hh
      have ee : selB es b i = decide (c = b) := by unfold selB; rw [he]; rfl
      simp only [ee]
      by_cases q : (bhash w.params c == bhash w.params b) = true
      · rw [if_pos q]
        refine Tr.le (Tr.bind (Tr.epoch ho hd) (Tr.bind (Tr.eqB c b u t) (Tr.bind (Tr.epoch ho hd) (M := 1) ?_))) (by omega)
        rw [if_neg (by simp)]
        by_cases x : c = b
        · simp only [x, decide_true, if_true]
          exact Tr.bind (N := 1) (M := 0) (Tr.rule_ Tr.pure) Tr.pure'
        · simp only [x, decide_false, Bool.false_eq_true, if_false]
          exact Tr.bind (N := 1) (M := 0) (Tr.rule_ Tr.pure) Tr.pure'
      · rw [if_neg q]
        have : c ≠ b := fun x => q (by rw [x]; simp)
        simp only [this, decide_false, Bool.false_eq_true, if_false]
        exact Tr.le Tr.pure' (by omega)
  · cases e : places.find? (selB es b) with
    | none => exact Tr.pure'
    | some i => exact Tr.pure'

noncomputable def eqL : List UInt8 → List UInt8 → Bool
  | [], [] => true
  | a :: x, b :: y => match Nat.beq a.toNat b.toNat with
    | true => eqL x y
    | false => false
  | _, _ => false
theorem eqL_iff : ∀ {x y : List UInt8}, eqL x y = true ↔ x = y
  | [], [] => ⟨fun _ => rfl, fun _ => rfl⟩
  | [], _ :: _ => ⟨fun h => (nomatch h), fun h => (nomatch h)⟩
  | _ :: _, [] => ⟨fun h => (nomatch h), fun h => (nomatch h)⟩
  | a :: x, b :: y => by
    unfold eqL
    cases h : Nat.beq a.toNat b.toNat with
    | true =>
      have : a = b := UInt8.toNat_inj.mp (Nat.eq_of_beq_eq_true h)
      subst this
      rw [List.cons.injEq]
      exact ⟨fun q => ⟨rfl, eqL_iff.mp q⟩, fun q => eqL_iff.mpr q.2⟩
    | false =>
      refine ⟨fun q => (nomatch q), fun q => ?_⟩
      have : a = b := (List.cons.inj q).1
      subst this
      exact absurd rfl (Nat.ne_of_beq_eq_false h)
noncomputable def isK (b : Array UInt8) : Value → Bool
  | .bytes c _ => eqL c.toList b.toList
  | _ => false
theorem isK_eq (b : Array UInt8) (v : Value) : isK b v = isB b v := by
  cases v <;> try rfl
  rename_i c t
  show eqL c.toList b.toList = decide (c = b)
  rw [Bool.eq_iff_iff, eqL_iff, decide_eq_true_eq]
  exact ⟨Array.toList_inj.mp, fun e => e ▸ rfl⟩
noncomputable def idxB (b : Array UInt8) : List DictEntry → Nat → Option Nat
  | [], _ => none
  | e :: l, i => match isK b e.key with
    | true => some i
    | false => idxB b l (i + 1)
theorem find_range' (es : Array DictEntry) (b : Array UInt8) : ∀ (l : List DictEntry) (i : Nat), es.toList.drop i = l → (List.range' i l.length).find? (selB es b) = idxB b l i
  | [], i, h => rfl
  | e :: l, i, h => by
    have hi : es.toList[i]? = some e := by rw [← List.head?_drop, h]; rfl
    have he : es[i]? = some e := by simpa using hi
    have hs : selB es b i = isK b e.key := by unfold selB; rw [he, isK_eq]
    rw [List.length_cons, List.range'_succ, List.find?_cons, hs]
    unfold idxB
    cases q : isK b e.key with
    | true => rfl
    | false =>
      refine find_range' es b l (i + 1) ?_
      rw [← List.drop_drop, h]; rfl
theorem find_places {P : Params} {es : Array DictEntry} (hk : BK P es) (b : Array UInt8) :
    (placesWithHash es.size (fun i => es[i]?.map (·.hash)) (bhash P b)).find? (selB es b) = idxB b es.toList 0 := by
  rw [← find_range' es b es.toList 0 rfl, Array.length_toList]
  unfold placesWithHash
  rw [List.range_eq_range', List.find?_filter]
  congr 1
  funext i
  rw [Bool.eq_iff_iff]
  simp only [beq_iff_eq, decide_eq_true_eq]
  refine ⟨fun h => h.2, fun h => ⟨?_, h⟩⟩
  unfold selB at h
  cases he : es[i]? with
  | none => rw [he] at h; cases h
  | some e =>
    rw [he] at h
    obtain ⟨c, u, hc, hh⟩ := hk e (Array.mem_of_getElem? he)
    dsimp only at h
    rw [hc] at h
    have : c = b := of_decide_eq_true h
    rw [Option.map_some, hh, this]

theorem Tr.findB {d : Addr} {o : Obj} {es : Array DictEntry} {ep : Nat} (b : Array UInt8) (t : Tok) (ho : s.heap.get? d = some o) (hd : o.data = .dict es ep) (hk : BK w.params es) :
    Tr p w n₀ ann (1 + 8 * es.size) cd (dictFind d (.bytes b t) (bhash w.params b)) s (idxB b es.toList 0) s := by
  have hlen : (placesWithHash es.size (fun i => es[i]?.map (·.hash)) (bhash w.params b)).length ≤ es.size := by
    unfold placesWithHash
    have := List.length_filter_le (fun i => (es[i]?.map (·.hash)) == some (bhash w.params b)) (List.range es.size)
    simpa using this
  have hall : (((Value.bytes b t) :: (placesWithHash es.size (fun i => es[i]?.map (·.hash)) (bhash w.params b)).filterMap fun i => es[i]?.map (·.key)).all carriedByValue) = true := by
    rw [List.all_cons, List.all_eq_true.mpr, Bool.and_true]
    · rfl
    · intro v hv
      obtain ⟨i, _, hi⟩ := List.mem_filterMap.mp hv
      cases he : es[i]? with
      | none => rw [he] at hi; cases hi
      | some e =>
        rw [he] at hi
        obtain rfl : e.key = v := by simpa using hi
        obtain ⟨c, u, hc, _⟩ := hk e (Array.mem_of_getElem? he)
        rw [hc]; rfl
  unfold dictFind
  refine Tr.holding ?_
  refine Tr.le (Tr.bind (Tr.entries ho hd) (M := 8 * es.size) ?_) (Nat.le_refl _)
  dsimp only
  rw [if_pos hall]
  have k := Tr.walkB (p := p) (n₀ := n₀) (ann := ann) (cd := cd) b t ho hd hk (placesWithHash es.size (fun i => es[i]?.map (·.hash)) (bhash w.params b))
  rw [find_places hk b] at k
  exact Tr.le k (by omega)

noncomputable def putB (P : Params) (b : Array UInt8) (t : Tok) (v : Value) (es : Array DictEntry) : Array DictEntry := es.push ⟨bhash P b, .bytes b t, v⟩
theorem BK.push {P : Params} {es : Array DictEntry} (hk : BK P es) (b : Array UInt8) (t : Tok) (v : Value) : BK P (putB P b t v es) := by
  intro e he
  rcases Array.mem_push.mp he with h | rfl
  · exact hk e h
  · exact ⟨b, t, rfl, rfl⟩
theorem BK.modify {P : Params} {es : Array DictEntry} (hk : BK P es) (i : Nat) (v : Value) : BK P (es.modify i fun e => { e with val := v }) := by
  intro e he
  obtain ⟨j, hj, rfl⟩ := Array.mem_iff_getElem.mp he
  rw [Array.size_modify] at hj
  rw [Array.getElem_modify]
  split
  · exact hk es[j] (Array.getElem_mem hj)
  · exact hk es[j] (Array.getElem_mem hj)

theorem Tr.grow {d : Addr} {o : Obj} {es : Array DictEntry} {ep : Nat} {q : Option Value} {f : Array DictEntry → Array DictEntry} (hb : n₀ ≤ d) (ho : s.heap.get? d = some o) (hd : o.data = .dict es ep) (hz : (f es).size ≤ sizeLine + 1) :
    Tr p w n₀ ann 3 cd (updateDictKeys d f q) s () { s with heap := s.heap.update d (Obj.mapDictKeys f) } := by
  obtain ⟨c, dd, dt, sl⟩ := o
  simp only at hd; subst hd
  unfold updateDictKeys
  refine Tr.bind (N := 1) (M := 2) (a := ⟨c, dd, .dict es ep, sl⟩) (Tr.load_ ho Tr.pure) ?_
  dsimp only
  refine Tr.bind (N := 1) (M := 1) (Tr.update_ hb ho Tr.pure) ?_
  unfold lookBehind
  refine Tr.bind (N := 1) (M := 0) (a := Obj.mapDictKeys f ⟨c, dd, .dict es ep, sl⟩) (Tr.load_ (Heap.get?_update_self _ ho rfl) Tr.pure) ?_
  have e : (Obj.mapDictKeys f ⟨c, dd, .dict es ep, sl⟩).data.pastItsLine = none := pastItsLine_dict hz
  rw [e]
  exact Tr.pure'
theorem Tr.swap {d : Addr} {o : Obj} {es : Array DictEntry} {ep : Nat} {q : Option Value} {f : Array DictEntry → Array DictEntry} (hb : n₀ ≤ d) (ho : s.heap.get? d = some o) (hd : o.data = .dict es ep) (hz : (f es).size ≤ es.size) :
    Tr p w n₀ ann 3 cd (updateDict d f q) s () { s with heap := s.heap.update d (Obj.mapDict f) } := by
  obtain ⟨c, dd, dt, sl⟩ := o
  simp only at hd; subst hd
  unfold updateDict
  refine Tr.bind (N := 1) (M := 2) (a := ⟨c, dd, .dict es ep, sl⟩) (Tr.load_ ho Tr.pure) ?_
  dsimp only
  refine Tr.bind (N := 1) (M := 1) (Tr.update_ hb ho Tr.pure) ?_
  refine Tr.bind (N := 1) (M := 0) (a := Obj.mapDict f ⟨c, dd, .dict es ep, sl⟩) (Tr.load_ (Heap.get?_update_self _ ho rfl) Tr.pure) ?_
  show Tr _ _ _ _ 0 _ (if (f es).size > es.size then unsupported "internal:a-replacing-writer-has-grown" else Pure.pure ()) _ _ _
  rw [if_neg (Nat.not_lt.mpr hz)]
  exact Tr.pure'

theorem Tr.setDefaultB {d : Addr} {o : Obj} {es : Array DictEntry} {ep : Nat} (b : Array UInt8) (t : Tok) (v : Value) (hb : n₀ ≤ d) (ho : s.heap.get? d = some o) (hd : o.data = .dict es ep) (hk : BK w.params es) (hz : es.size ≤ 64) :
    Tr p w n₀ ann (13 + 8 * es.size) cd (dictSetDefault d (.bytes b t) v) s (match idxB b es.toList 0 with | some i => (es[i]?.map (·.val)).getD .none | none => v)
      (match idxB b es.toList 0 with | some _ => { s with toks := s.toks + 1 } | none => { s with heap := s.heap.update d (Obj.mapDictKeys (putB w.params b t v)), toks := s.toks + 1 }) := by
  unfold dictSetDefault
  refine Tr.holding ?_
  refine Tr.le (Tr.bind (Tr.hashB b t) (M := 7 + 8 * es.size) ?_) (by omega)
  have ho' : ({ s with toks := s.toks + 1 } : Shared).heap.get? d = some o := ho
  refine Tr.le (Tr.bind (Tr.findB b t ho' hd hk) (M := 4) ?_) (by omega)
  cases e : idxB b es.toList 0 with
  | none =>
    dsimp only
    refine Tr.le (Tr.bind (N := 1) (M := 3) (Tr.rule_ Tr.pure) ?_) (by omega)
    refine Tr.bind (N := 3) (M := 0) (Tr.grow hb ho' hd ?_) Tr.pure'
    show (es.push _).size ≤ _
    rw [Array.size_push, sizeLine_eq]; omega
  | some i =>
    dsimp only
    refine Tr.le (Tr.bind (M := 1) (Tr.entries ho' hd) ?_) (by omega)
    have hi : ∃ e, es[i]? = some e := by
      have := find_range' es b es.toList 0 rfl
      rw [e] at this
      have h := List.mem_of_find?_eq_some this
      have : i < es.size := by
        have := List.mem_range'_1.mp h
        rw [Array.length_toList] at this; omega
      exact ⟨es[i], Array.getElem?_eq_getElem this⟩
    obtain ⟨e', he'⟩ := hi
    rw [he']
    dsimp only [Option.map_some, Option.getD_some]
    exact Tr.bind (N := 1) (M := 0) (Tr.rule_ Tr.pure) Tr.pure'

theorem Tr.setB {d : Addr} {o : Obj} {es : Array DictEntry} {ep : Nat} (b : Array UInt8) (t : Tok) (v : Value) (hb : n₀ ≤ d) (ho : s.heap.get? d = some o) (hd : o.data = .dict es ep) (hk : BK w.params es) (hz : es.size ≤ 64) :
    Tr p w n₀ ann (13 + 8 * es.size) cd (dictSet d (.bytes b t) v) s ()
      (match idxB b es.toList 0 with | some i => { s with heap := s.heap.update d (Obj.mapDict fun es => es.modify i fun e => { e with val := v }), toks := s.toks + 1 } | none => { s with heap := s.heap.update d (Obj.mapDictKeys (putB w.params b t v)), toks := s.toks + 1 }) := by
  unfold dictSet
  refine Tr.holding ?_
  refine Tr.le (Tr.bind (Tr.hashB b t) (M := 7 + 8 * es.size) ?_) (by omega)
  have ho' : ({ s with toks := s.toks + 1 } : Shared).heap.get? d = some o := ho
  unfold dictSetHashed
  refine Tr.holding ?_
  refine Tr.le (Tr.bind (Tr.findB b t ho' hd hk) (M := 5) ?_) (by omega)
  cases e : idxB b es.toList 0 with
  | none =>
    dsimp only
    refine Tr.le (Tr.bind (N := 1) (M := 3) (Tr.rule_ Tr.pure) ?_) (by omega)
    refine Tr.grow hb ho' hd ?_
    show (es.push _).size ≤ _
    rw [Array.size_push, sizeLine_eq]; omega
  | some i =>
    dsimp only
    refine Tr.bind (N := 1) (M := 4) (Tr.rule_ Tr.pure) ?_
    refine Tr.bind (N := 3) (M := 1) (Tr.swap hb ho' hd ?_) ?_
    · rw [Array.size_modify]; exact Nat.le_refl _
    · exact Tr.point_ Tr.pure
end
end Mine
end H2part
section H3part
open PySem PySem.W PyProof.Rows
set_option maxRecDepth 100000
namespace Mine
section
variable {p : Program} {w : World} {n₀ : Nat} {ann : Option Value} {α : Type} {cd : Code} {s s1 s2 : Shared}

theorem entry_sd : entryFor treeTable "dict.setdefault" = some Builtin.«dict.setdefault» := by kernel_rfl
theorem entry_si : entryFor treeTable "dict.__setitem__" = some Builtin.«dict.__setitem__» := by kernel_rfl

theorem CR.le {N M : Nat} {c : Code} {f : Flow} (h : CR p w n₀ ann N c s f s1) (l : N ≤ M) : CR p w n₀ ann M c s f s1 := fun k hd g l' cd pos pos0 kept f1 st => (h k hd g l' cd pos pos0 kept f1 st).le l
theorem denote_of {id : String} {b : Builtin} {a : Args} (h : entryFor treeTable id = some b) : denote treeTable (.builtin id a) = b a := by
  have e : denote treeTable (.builtin id a) = (match entryFor treeTable id with | some b => b a | none => unsupported ((withoutEnding? id "#data").getD id)) := rfl
  rw [e, h]
theorem Tr.notOrd {d : Addr} {o : Obj} (name : String) (rest : List Value) (hc : o.cls = .type "dict") (ho : s.heap.get? d = some o) : Tr p w n₀ ann 1 cd (Builtin.Dict.notOrdered name ⟨.ref d :: rest, []⟩) s () s := by
  unfold Builtin.Dict.notOrdered
  split
  · show Tr _ _ _ _ 1 _ (typeOf (.ref d) >>= _) _ _ _
    refine Tr.bind (N := 1) (M := 0) (s1 := s) (a := .type "dict") ?_ ?_
    · show Tr _ _ _ _ 1 _ (loadPart d (some headPart) >>= fun o => Pure.pure o.cls) _ _ _
      refine Tr.bind (N := 1) (M := 0) (s1 := s) (a := o) (Tr.load_ ho Tr.pure) ?_
      rw [← hc]; exact Tr.pure'
    · rw [if_neg (by decide)]; exact Tr.pure'
  · exact Tr.le Tr.pure' (by omega)

theorem CR.sdB {d : Addr} {es : Array DictEntry} {ep : Nat} (b : Array UInt8) (t : Tok) (v : Value) (hb : n₀ ≤ d) (h1 : (d == sysModules) = false)
    (ho : s.heap.get? d = some ⟨.type "dict", none, .dict es ep, #[]⟩) (hk : BK w.params es) (hz : es.size ≤ 64) :
    CR p w n₀ ann (20 + 8 * es.size) (.builtin "dict.setdefault" ⟨[.ref d, .bytes b t, v], []⟩) s (.ret (match idxB b es.toList 0 with | some i => (es[i]?.map (·.val)).getD .none | none => v))
      (match idxB b es.toList 0 with | some _ => { s with toks := s.toks + 1 } | none => { s with heap := s.heap.update d (Obj.mapDictKeys (putB w.params b t v)), toks := s.toks + 1 }) := by
  have e : denote treeTable (.builtin "dict.setdefault" ⟨[.ref d, .bytes b t, v], []⟩) = Builtin.«dict.setdefault» ⟨[.ref d, .bytes b t, v], []⟩ := by
    exact denote_of entry_sd
  have k : Tr p w n₀ ann (19 + 8 * es.size) (.builtin "dict.setdefault" ⟨[.ref d, .bytes b t, v], []⟩) (denote treeTable (.builtin "dict.setdefault" ⟨[.ref d, .bytes b t, v], []⟩)) s
      (.done (.ret (match idxB b es.toList 0 with | some i => (es[i]?.map (·.val)).getD .none | none => v))) (match idxB b es.toList 0 with | some _ => { s with toks := s.toks + 1 } | none => { s with heap := s.heap.update d (Obj.mapDictKeys (putB w.params b t v)), toks := s.toks + 1 }) := by
    rw [e]
    unfold Builtin.«dict.setdefault»
    refine Tr.le (Tr.bind (N := 1) (M := 14 + 8 * es.size) (s1 := s) (a := (d, .bytes b t, some v)) ?_ ?_) (by omega)
    · unfold Builtin.Dict.keyAndDefault
      refine Tr.bind (N := 1) (M := 0) (Tr.notOrd _ _ rfl ho) ?_
      exact Tr.pure'
    · dsimp only
      rw [if_neg (by rw [h1]; exact Bool.false_ne_true)]
      refine Tr.le (Tr.bind (M := 0) (Tr.setDefaultB b t v hb ho rfl hk hz) ?_) (by omega)
      exact Tr.pure'
  exact (CR.done k).le (by omega)

theorem CR.siB {d : Addr} {es : Array DictEntry} {ep : Nat} (b : Array UInt8) (t : Tok) (v : Value) (hb : n₀ ≤ d)
    (ho : s.heap.get? d = some ⟨.type "dict", none, .dict es ep, #[]⟩) (hk : BK w.params es) (hz : es.size ≤ 64) :
    CR p w n₀ ann (20 + 8 * es.size) (.builtin "dict.__setitem__" ⟨[.ref d, .bytes b t, v], []⟩) s (.ret .none)
      (match idxB b es.toList 0 with | some i => { s with heap := s.heap.update d (Obj.mapDict fun es => es.modify i fun e => { e with val := v }), toks := s.toks + 1 } | none => { s with heap := s.heap.update d (Obj.mapDictKeys (putB w.params b t v)), toks := s.toks + 1 }) := by
  have e : denote treeTable (.builtin "dict.__setitem__" ⟨[.ref d, .bytes b t, v], []⟩) = Builtin.«dict.__setitem__» ⟨[.ref d, .bytes b t, v], []⟩ := by
    exact denote_of entry_si
  have k : Tr p w n₀ ann (19 + 8 * es.size) (.builtin "dict.__setitem__" ⟨[.ref d, .bytes b t, v], []⟩) (denote treeTable (.builtin "dict.__setitem__" ⟨[.ref d, .bytes b t, v], []⟩)) s
      (.done (.ret .none)) (match idxB b es.toList 0 with | some i => { s with heap := s.heap.update d (Obj.mapDict fun es => es.modify i fun e => { e with val := v }), toks := s.toks + 1 } | none => { s with heap := s.heap.update d (Obj.mapDictKeys (putB w.params b t v)), toks := s.toks + 1 }) := by
    rw [e]
    unfold Builtin.«dict.__setitem__»
    refine Tr.le (Tr.bind (N := 1) (M := 14 + 8 * es.size) (Tr.notOrd _ _ rfl ho) ?_) (by omega)
    show Tr _ _ _ _ _ _ (dictSet d (.bytes b t) v >>= fun _ => ret .none) _ _ _
    exact Tr.le (Tr.bind (M := 0) (Tr.setB b t v hb ho rfl hk hz) Tr.pure') (by omega)
  exact (CR.done k).le (by omega)
end
end Mine
end H3part
section H4part
open PySem PySem.W PyProof.Rows
set_option maxRecDepth 100000
namespace Mine

noncomputable def keyB : Value → Bool
  | .bytes .. => true
  | _ => false
noncomputable def noB (o : Obj) : Bool := match o.data with
  | .dict es _ => es.toList.all fun e => !keyB e.key
  | _ => true
noncomputable def HC (P : Params) (T : BT) : Prop := ∀ a o, T.get a = some o → ∀ es ep, o.data = .dict es ep → ∀ e ∈ es, ∀ b t, e.key = .bytes b t → e.hash = bhash P b
theorem hc_of_noB {P : Params} {o : Obj} (h : noB o = true) : ∀ es ep, o.data = .dict es ep → ∀ e ∈ es, ∀ b t, e.key = .bytes b t → e.hash = bhash P b := by
  intro es ep hd e he b t hk
  unfold noB at h
  rw [hd] at h
  have := List.all_eq_true.mp h e (Array.mem_toList_iff.mpr he)
  rw [hk] at this
  cases this

noncomputable def isDict : Value → Bool
  | .type n => decide (n = "dict")
  | _ => false
noncomputable def hook3 (P : Params) (s : SharedT) (d : Addr) (b : Array UInt8) (tk : Tok) (v : Value) (es : Array DictEntry) (k : Result → Sem PySem.Fin) (cd : Code) (ps : Pos) (rest : List Frame) (id : String) : Option (SharedT × Thread) :=
  match s with
  | ⟨T, n, life, gens, drawn, toks, os⟩ => match decide (id = "dict.setdefault") with
    | true => (match idxB b es.toList 0 with
      | some i => some (⟨T, n, life, gens, drawn, toks + 1, os⟩, ⟨k (.ok (.ret ((es[i]?.map (·.val)).getD .none))), cd, ps, rest⟩)
      | none => some (⟨T.set d (Obj.mapDictKeys (putB P b tk v)), n, life, gens, drawn, toks + 1, os⟩, ⟨k (.ok (.ret v)), cd, ps, rest⟩))
    | false => match decide (id = "dict.__setitem__") with
      | true => (match idxB b es.toList 0 with
        | some i => some (⟨T.set d (Obj.mapDict fun es => es.modify i fun e => { e with val := v }), n, life, gens, drawn, toks + 1, os⟩, ⟨k (.ok (.ret .none)), cd, ps, rest⟩)
        | none => some (⟨T.set d (Obj.mapDictKeys (putB P b tk v)), n, life, gens, drawn, toks + 1, os⟩, ⟨k (.ok (.ret .none)), cd, ps, rest⟩))
      | false => none
noncomputable def fits2 (n₀ : Nat) (n : Nat) (d : Addr) (c : Value) (dd : Option Addr) (sl : Array (Option Value)) (es : Array DictEntry) : Bool :=
  isDict c && dd.isNone && sl.isEmpty && Nat.ble n₀ d && Nat.blt d n && !(Nat.beq d 1) && es.toList.all (fun e => keyB e.key) && Nat.ble es.size 64
noncomputable def hook2 (P : Params) (n₀ : Nat) (s : SharedT) (d : Addr) (b : Array UInt8) (tk : Tok) (v : Value) (k : Result → Sem PySem.Fin) (cd : Code) (ps : Pos) (rest : List Frame) (id : String) : Option (SharedT × Thread) :=
  match s.tree.get d with
  | some o => (match o with
    | ⟨c, dd, dt, sl⟩ => match dt with
      | .dict es _ => (match fits2 n₀ s.n d c dd sl es with
        | true => hook3 P s d b tk v es k cd ps rest id
        | false => none)
      | _ => none)
  | none => none
noncomputable def hook1 (P : Params) (n₀ : Nat) (s : SharedT) (stack : List Frame) (id : String) (a : Args) : Option (SharedT × Thread) :=
  match a with
  | ⟨pos, kw⟩ => match kw with
    | [] => (match pos with
      | x :: r1 => (match r1 with
        | y :: r2 => (match r2 with
          | v :: r3 => (match r3 with
            | [] => (match x with
              | .ref d => (match y with
                | .bytes b tk => (match stack with
                  | f :: rest => (match f with
                    | .ret k _ _ _ cd ps _ => (match rest with
                      | f1 :: st => hook2 P n₀ s d b tk v k cd ps (f1 :: st) id
                      | [] => none)
                    | _ => none)
                  | [] => none)
                | _ => none)
              | _ => none)
            | _ => none)
          | [] => none)
        | [] => none)
      | [] => none)
    | _ => none
noncomputable def hook (P : Params) (n₀ : Nat) (s : SharedT) (t : Thread) : Option (SharedT × Thread) :=
  match t.cur with
  | .pure f => (match f with
    | .again c => (match c with
      | .builtin id a => hook1 P n₀ s t.stack id a
      | _ => none)
    | .done _ => none)
  | _ => none

section
variable {p : Program} {w : World} {n₀ : Nat} {ann : Option Value}

theorem hc_set {P : Params} {T : BT} {a : Addr} {f : Obj → Obj} {o : Obj} (h : HC P T) (ho : T.get a = some o) (hf : ∀ es ep, (f o).data = .dict es ep → ∀ e ∈ es, ∀ b t, e.key = .bytes b t → e.hash = bhash P b) : HC P (T.set a f) := by
  intro i x hx
  rw [BT.get_set] at hx
  by_cases e : i = a
  · rw [if_pos e, ho] at hx
    cases hx
    exact hf
  · rw [if_neg e] at hx
    exact h i x hx

theorem bk_of {P : Params} {T : BT} {d : Addr} {o : Obj} {es : Array DictEntry} {ep : Nat} (h : HC P T) (ho : T.get d = some o) (hd : o.data = .dict es ep) (ha : es.toList.all (fun e => keyB e.key) = true) : BK P es := by
  intro e he
  have := List.all_eq_true.mp ha e (Array.mem_toList_iff.mpr he)
  obtain ⟨eh, ek, ev⟩ := e
  cases ek with
  | bytes b t => exact ⟨b, t, rfl, h d o ho es ep hd _ he b t rfl⟩
  | _ => exact absurd this (by simp [keyB])

theorem hook3_sound {s s' : SharedT} {d : Addr} {b : Array UInt8} {tk : Tok} {v : Value} {es : Array DictEntry} {ep : Nat} {k : Result → Sem PySem.Fin} {hd : Option Value} {g : Bool} {l : List Value} {cd : Code} {ps : Pos} {kept : List Value} {f1 : Frame} {st : List Frame} {id : String} {t' : Thread} {code : Code} {pos : Pos}
    (h : HC w.params s.tree) (ho : s.tree.get d = some ⟨.type "dict", none, .dict es ep, #[]⟩) (hn : n₀ ≤ d) (hlt : d < s.n) (h1 : (d == sysModules) = false) (ha : es.toList.all (fun e => keyB e.key) = true) (hz : es.size ≤ 64)
    (e : hook3 w.params s d b tk v es k cd ps (f1 :: st) id = some (s', t')) :
    HC w.params s'.tree ∧ Goes p w n₀ ann 600 s.abs ⟨.pure (.again (.builtin id ⟨[.ref d, .bytes b tk, v], []⟩)), code, pos, .ret k hd g l cd ps kept :: f1 :: st⟩ s'.abs t' := by
  obtain ⟨T, n, life, gens, drawn, toks, os⟩ := s
  have hk := bk_of h ho rfl ha
  have hg : (SharedT.abs ⟨T, n, life, gens, drawn, toks, os⟩).heap.get? d = some ⟨.type "dict", none, .dict es ep, #[]⟩ := abs_get hlt ho
  have hput : ∀ es' ep', (Obj.mapDictKeys (putB w.params b tk v) ⟨.type "dict", none, .dict es ep, #[]⟩).data = .dict es' ep' → ∀ e ∈ es', ∀ b t, e.key = .bytes b t → e.hash = bhash w.params b := by
    intro es' ep' q e he b' t' hk'
    have q' : Data.dict (putB w.params b tk v es) (ep + 1) = .dict es' ep' := q
    cases q'
    obtain ⟨c, u, x1, x2⟩ := hk.push b tk v e he
    rw [hk'] at x1
    cases x1
    exact x2
  have hmod : ∀ i es' ep', (Obj.mapDict (fun es => es.modify i fun e => { e with val := v }) ⟨.type "dict", none, .dict es ep, #[]⟩).data = .dict es' ep' → ∀ e ∈ es', ∀ b t, e.key = .bytes b t → e.hash = bhash w.params b := by
    intro i es' ep' q e he b' t' hk'
    have q' : Data.dict (es.modify i fun e => { e with val := v }) ep = .dict es' ep' := q
    cases q'
    obtain ⟨c, u, x1, x2⟩ := hk.modify i v e he
    rw [hk'] at x1
    cases x1
    exact x2
  unfold hook3 at e
  dsimp only at e
  by_cases i1 : id = "dict.setdefault"
  · subst i1
    simp only [decide_true] at e
    have c := CR.sdB (p := p) (ann := ann) (s := SharedT.abs ⟨T, n, life, gens, drawn, toks, os⟩) b tk v hn h1 hg hk hz
    have a := Goes.step (p := p) (w := w) (n₀ := n₀) (ann := ann) (s := SharedT.abs ⟨T, n, life, gens, drawn, toks, os⟩) (endAt_two (.pure (.again (.builtin "dict.setdefault" ⟨[.ref d, .bytes b tk, v], []⟩))) code pos (.ret k hd g l cd ps kept) f1 st) (by
      show (Thread.calm _ && true) = true
      rw [Bool.and_true, Thread.calm_eq, Thread.loud_again, Code.quiet_builtin _ (by decide +kernel)]; rfl) step_again
    cases q : idxB b es.toList 0 with
    | some i =>
      rw [q] at e c
      cases e
      exact ⟨h, (a.trans (c k hd g l cd ps pos _ f1 st)).le (by omega)⟩
    | none =>
      rw [q] at e c
      cases e
      refine ⟨hc_set h ho hput, ?_⟩
      have := (a.trans (c k hd g l cd ps pos _ f1 st)).le (M := 600) (by omega)
      have ee : (SharedT.abs ⟨T.set d (Obj.mapDictKeys (putB w.params b tk v)), n, life, gens, drawn, toks + 1, os⟩) = { (SharedT.abs ⟨T, n, life, gens, drawn, toks, os⟩) with heap := (SharedT.abs ⟨T, n, life, gens, drawn, toks, os⟩).heap.update d (Obj.mapDictKeys (putB w.params b tk v)), toks := toks + 1 } := by
        unfold SharedT.abs
        dsimp only
        rw [absHeap_set ho]
      rw [ee]
      exact this
  · simp only [i1, decide_false] at e
    by_cases i2 : id = "dict.__setitem__"
    · subst i2
      simp only [decide_true] at e
      have c := CR.siB (p := p) (ann := ann) (s := SharedT.abs ⟨T, n, life, gens, drawn, toks, os⟩) b tk v hn hg hk hz
      have a := Goes.step (p := p) (w := w) (n₀ := n₀) (ann := ann) (s := SharedT.abs ⟨T, n, life, gens, drawn, toks, os⟩) (endAt_two (.pure (.again (.builtin "dict.__setitem__" ⟨[.ref d, .bytes b tk, v], []⟩))) code pos (.ret k hd g l cd ps kept) f1 st) (by
        show (Thread.calm _ && true) = true
        rw [Bool.and_true, Thread.calm_eq, Thread.loud_again, Code.quiet_builtin _ (by decide +kernel)]; rfl) step_again
      cases q : idxB b es.toList 0 with
      | some i =>
        rw [q] at e c
        cases e
        refine ⟨hc_set h ho (hmod i), ?_⟩
        have := (a.trans (c k hd g l cd ps pos _ f1 st)).le (M := 600) (by omega)
        have ee : (SharedT.abs ⟨T.set d (Obj.mapDict fun es => es.modify i fun e => { e with val := v }), n, life, gens, drawn, toks + 1, os⟩) = { (SharedT.abs ⟨T, n, life, gens, drawn, toks, os⟩) with heap := (SharedT.abs ⟨T, n, life, gens, drawn, toks, os⟩).heap.update d (Obj.mapDict fun es => es.modify i fun e => { e with val := v }), toks := toks + 1 } := by
          unfold SharedT.abs
          dsimp only
          rw [absHeap_set ho]
        rw [ee]
        exact this
      | none =>
        rw [q] at e c
        cases e
        refine ⟨hc_set h ho hput, ?_⟩
        have := (a.trans (c k hd g l cd ps pos _ f1 st)).le (M := 600) (by omega)
        have ee : (SharedT.abs ⟨T.set d (Obj.mapDictKeys (putB w.params b tk v)), n, life, gens, drawn, toks + 1, os⟩) = { (SharedT.abs ⟨T, n, life, gens, drawn, toks, os⟩) with heap := (SharedT.abs ⟨T, n, life, gens, drawn, toks, os⟩).heap.update d (Obj.mapDictKeys (putB w.params b tk v)), toks := toks + 1 } := by
          unfold SharedT.abs
          dsimp only
          rw [absHeap_set ho]
        rw [ee]
        exact this
    · simp only [i2, decide_false] at e
      cases e

theorem hook_sound {s s' : SharedT} {t t' : Thread} (h : HC w.params s.tree) (e : hook w.params n₀ s t = some (s', t')) : HC w.params s'.tree ∧ Goes p w n₀ ann 600 s.abs t s'.abs t' := by
  obtain ⟨cur, code, pos, stack⟩ := t
  unfold hook at e
  dsimp only at e
  split at e <;> try (cases e; done)
  split at e <;> try (cases e; done)
  split at e <;> try (cases e; done)
  rename_i id a
  unfold hook1 at e
  split at e
  split at e <;> try (cases e; done)
  split at e <;> try (cases e; done)
  split at e <;> try (cases e; done)
  split at e <;> try (cases e; done)
  split at e <;> try (cases e; done)
  split at e <;> try (cases e; done)
  split at e <;> try (cases e; done)
  split at e <;> try (cases e; done)
  split at e <;> try (cases e; done)
  split at e <;> try (cases e; done)
  unfold hook2 at e
  split at e <;> try (cases e; done)
  rename_i o ho
  split at e
  split at e <;> try (cases e; done)
  split at e <;> try (cases e; done)
  rename_i q
  unfold fits2 at q
  simp only [Bool.and_eq_true, Bool.not_eq_true'] at q
  obtain ⟨⟨⟨⟨⟨⟨⟨q1, q2⟩, q3⟩, q4⟩, q5⟩, q6⟩, q7⟩, q8⟩ := q
  rename_i c dd sl _ es ep _
  have e1 : c = .type "dict" := by
    unfold isDict at q1
    split at q1
    · rw [of_decide_eq_true q1]
    · cases q1
  have e2 : dd = none := Option.isNone_iff_eq_none.mp q2
  have e3 : sl = #[] := Array.isEmpty_iff.mp q3
  subst e1 e2 e3
  exact hook3_sound h ho (Nat.le_of_ble_eq_true q4) (Nat.le_of_ble_eq_true q5) (by
    have : ¬ _ = 1 := Nat.ne_of_beq_eq_false q6
    exact beq_eq_false_iff_ne.mpr this) q7 (Nat.le_of_ble_eq_true q8) e

noncomputable def okT (s : SharedT) (t : Thread) : Bool := match t.cur with
  | .alloc o _ => noB o
  | .update a _ f _ => (match s.tree.get a with
    | some o => noB (f o)
    | none => false)
  | _ => true
noncomputable def hGo (p : Program) (w : World) (n₀ : Nat) (ann : Option Value) : Nat → SharedT → Thread → Option (SharedT × Thread)
  | 0, s, t => some (s, t)
  | n + 1, s, t => match hook w.params n₀ s t with
    | some r => (match r with | (s', t') => hGo p w n₀ ann n s' t')
    | none => match endAt 1 t with
      | some _ => none
      | none => match Fast.tw6613529449190102663 n₀ ann t with
        | false => none
        | true => match okT s t with
          | false => none
          | true => match Fast.tw10156331382660048174 (Fast.tw11892475500146522536 Fast.tw14364793385576792824) p w s t with
            | some r => (match r with | (s', t') => hGo p w n₀ ann n s' t')
            | none => none

theorem stepT_tree {den : Code → Sem PySem.Fin} {s s' : SharedT} {t t' : Thread} (h : HC w.params s.tree) (ok : okT s t = true) (e : stepT den p w s t = some (s', t')) : HC w.params s'.tree := by
  obtain ⟨T, n, life, gens, drawn, toks, os⟩ := s
  obtain ⟨cur, code, pos, stack⟩ := t
  cases cur with
  | alloc o k =>
    simp only [stepT] at e
    split at e
    · rename_i q
      cases e
      intro i x hx
      rw [BT.get_ins o T n q] at hx
      by_cases z : i = n
      · rw [if_pos z] at hx
        cases hx
        exact hc_of_noB ok
      · rw [if_neg z] at hx
        exact h i x hx
    · cases e
  | update a q f k =>
    simp only [stepT] at e
    split at e <;> try (cases e; done)
    split at e <;> try (cases e; done)
    split at e <;> try (cases e; done)
    rename_i o ho _ _ _
    cases e
    unfold okT at ok
    dsimp only at ok
    rw [ho] at ok
    exact hc_set h ho (hc_of_noB ok)
  | load a q k =>
    simp only [stepT] at e
    split at e <;> try (cases e; done)
    split at e <;> try (cases e; done)
    split at e <;> try (cases e; done)
    cases e
    exact h
  | loadIfAlive a k =>
    simp only [stepT] at e
    split at e
    · split at e <;> try (cases e; done)
      cases e; exact h
    · cases e; exact h
  | _ =>
    simp only [stepT] at e
    split at e <;> try (cases e; done)
    cases e; exact h

theorem hGo_sound : ∀ {n : Nat} {s s' : SharedT} {t t' : Thread}, HC w.params s.tree → hGo p w n₀ ann n s t = some (s', t') → HC w.params s'.tree ∧ Goes p w n₀ ann (600 * n) s.abs t s'.abs t'
  | 0, s, s', t, t', h, e => by
    cases e
    exact ⟨h, .refl⟩
  | n + 1, s, s', t, t', h, e => by
    unfold hGo at e
    split at e
    · rename_i r q
      obtain ⟨s1, t1⟩ := r
      dsimp only at e
      obtain ⟨h1, g1⟩ := hook_sound (p := p) (ann := ann) h q
      obtain ⟨h2, g2⟩ := hGo_sound h1 e
      exact ⟨h2, (g1.trans g2).le (by omega)⟩
    · split at e <;> try (cases e; done)
      rename_i he
      split at e <;> try (cases e; done)
      rename_i hs
      split at e <;> try (cases e; done)
      rename_i hok
      split at e <;> try (cases e; done)
      rename_i r hst
      obtain ⟨s1, t1⟩ := r
      dsimp only at e
      rw [← Fast.te6613529449190102663] at hs
      rw [← Fast.te10156331382660048174, ← Fast.te11892475500146522536, ← Fast.te14364793385576792824] at hst
      obtain ⟨h2, g2⟩ := hGo_sound (stepT_tree h hok hst) e
      exact ⟨h2, ((Goes.step he hs (stepT_spec hst)).trans g2).le (by omega)⟩
end
end Mine
end H4part
section H5xpart
open PySem PySem.W PyProof.Rows
set_option maxRecDepth 100000
namespace Mine

noncomputable def fdOf (k : Nat) : Option (Arguments × List Stmt × Scope) := match PySem.Challenge.pw_im0126_01.main.body[k]? with
  | some (.FunctionDef _ a b _ _ _ sc _ _ _) => some (a, b, sc)
  | _ => none
noncomputable def mdOf (k j : Nat) : Option (Arguments × List Stmt × Scope) := match PySem.Challenge.pw_im0126_01.main.body[k]? with
  | some (.ClassDef _ _ _ cb _ _ _ _ _ _ _) => match cb[j]? with
    | some (.FunctionDef _ a b _ _ _ sc _ _ _) => some (a, b, sc)
    | _ => none
  | _ => none
noncomputable def fp1 (q : Option (Arguments × List Stmt × Scope)) : Arguments := (q.map fun x => x.1).getD default
noncomputable def fp2 (q : Option (Arguments × List Stmt × Scope)) : List Stmt := (q.map fun x => x.2.1).getD []
noncomputable def fp3 (q : Option (Arguments × List Stmt × Scope)) : Scope := (q.map fun x => x.2.2).getD default
noncomputable def stM : Stmt := (PySem.Challenge.pw_im0126_01.main.body[10]?).getD default
noncomputable def stsF : List Stmt := PySem.Challenge.pw_im0126_01.main.body.drop 11
noncomputable def stsP : List Stmt := (behindTheImports PySem.Challenge.pw_im0126_01).take 9
noncomputable def env1 : Env := { scope := PySem.Challenge.pw_im0126_01.main.scope, locals := mainNs, globals := mainNs, cells := [], code := Value.ref 31, frame := some 32 }
abbrev annA : Option Value := some (Value.ref 6)
abbrev q0 : Pos := { line := 0, col := 0, endLine := 0, endCol := 0 }
abbrev posK : Pos := { line := 89, col := 0, endLine := 94, endCol := 31 }
noncomputable def StT (tr : Params → BT) (n tk : Nat) (w : World) (os : OsState) : SharedT := ⟨tr w.params, n, {}, Array.mk [], {}, tk, os⟩
noncomputable def TP (b : List Stmt) : Thread := piecesOf stsP env1 (Code.body b env1) { line := 0, col := 0, endLine := 0, endCol := 0 } [topFrame q0]
noncomputable def TM (b : List Stmt) : Thread := piecesOf [stM] env1 (Code.body b env1) posK [topFrame q0]
noncomputable def TF (b : List Stmt) : Thread := piecesOf stsF env1 (Code.body b env1) { line := 95, col := 0, endLine := 95, endCol := 32 } [topFrame q0]
noncomputable def TE (b : List Stmt) (pos : Pos) : Thread := ⟨.pure (.done .next), Code.body b env1, pos, [topFrame q0]⟩
noncomputable def xB_0 (P : Params) : Obj := ⟨(.type "dict"), none, (.dict #[⟨PyData.keyHash P ⟨#[95, 95, 110, 97, 109, 101, 95, 95]⟩, (.str ⟨#[95, 95, 110, 97, 109, 101, 95, 95]⟩ 1), (.str ⟨#[98, 117, 105, 108, 116, 105, 110, 115]⟩ 160)⟩, ⟨PyData.keyHash P ⟨#[95, 95, 100, 111, 99, 95, 95]⟩, (.str ⟨#[95, 95, 100, 111, 99, 95, 95]⟩ 2), (.builtin "builtins.__doc__:str#opaque")⟩, ⟨PyData.keyHash P ⟨#[95, 95, 112, 97, 99, 107, 97, 103, 101, 95, 95]⟩, (.str ⟨#[95, 95, 112, 97, 99, 107, 97, 103, 101, 95, 95]⟩ 3), (.builtin "builtins.__package__:str#opaque")⟩, ⟨PyData.keyHash P ⟨#[95, 95, 108, 111, 97, 100, 101, 114, 95, 95]⟩, (.str ⟨#[95, 95, 108, 111, 97, 100, 101, 114, 95, 95]⟩ 4), (.builtin "builtins.__loader__:shared#opaque")⟩, ⟨PyData.keyHash P ⟨#[95, 95, 115, 112, 101, 99, 95, 95]⟩, (.str ⟨#[95, 95, 115, 112, 101, 99, 95, 95]⟩ 5), (.builtin "builtins.__spec__#opaque")⟩, ⟨PyData.keyHash P ⟨#[95, 95, 98, 117, 105, 108, 100, 95, 99, 108, 97, 115, 115, 95, 95]⟩, (.str ⟨#[95, 95, 98, 117, 105, 108, 100, 95, 99, 108, 97, 115, 115, 95, 95]⟩ 6), (.builtin "__build_class__")⟩, ⟨PyData.keyHash P ⟨#[95, 95, 105, 109, 112, 111, 114, 116, 95, 95]⟩, (.str ⟨#[95, 95, 105, 109, 112, 111, 114, 116, 95, 95]⟩ 7), (.builtin "__import__")⟩, ⟨PyData.keyHash P ⟨#[97, 98, 115]⟩, (.str ⟨#[97, 98, 115]⟩ 8), (.builtin "abs")⟩, ⟨PyData.keyHash P ⟨#[97, 108, 108]⟩, (.str ⟨#[97, 108, 108]⟩ 9), (.builtin "all")⟩, ⟨PyData.keyHash P ⟨#[97, 110, 121]⟩, (.str ⟨#[97, 110, 121]⟩ 10), (.builtin "any")⟩, ⟨PyData.keyHash P ⟨#[97, 115, 99, 105, 105]⟩, (.str ⟨#[97, 115, 99, 105, 105]⟩ 11), (.builtin "ascii")⟩, ⟨PyData.keyHash P ⟨#[98, 105, 110]⟩, (.str ⟨#[98, 105, 110]⟩ 12), (.builtin "bin")⟩, ⟨PyData.keyHash P ⟨#[98, 114, 101, 97, 107, 112, 111, 105, 110, 116]⟩, (.str ⟨#[98, 114, 101, 97, 107, 112, 111, 105, 110, 116]⟩ 13), (.builtin "breakpoint")⟩, ⟨PyData.keyHash P ⟨#[99, 97, 108, 108, 97, 98, 108, 101]⟩, (.str ⟨#[99, 97, 108, 108, 97, 98, 108, 101]⟩ 14), (.builtin "callable")⟩, ⟨PyData.keyHash P ⟨#[99, 104, 114]⟩, (.str ⟨#[99, 104, 114]⟩ 15), (.builtin "chr")⟩, ⟨PyData.keyHash P ⟨#[99, 111, 109, 112, 105, 108, 101]⟩, (.str ⟨#[99, 111, 109, 112, 105, 108, 101]⟩ 16), (.builtin "compile")⟩, ⟨PyData.keyHash P ⟨#[100, 101, 108, 97, 116, 116, 114]⟩, (.str ⟨#[100, 101, 108, 97, 116, 116, 114]⟩ 17), (.builtin "delattr")⟩, ⟨PyData.keyHash P ⟨#[100, 105, 114]⟩, (.str ⟨#[100, 105, 114]⟩ 18), (.builtin "dir")⟩, ⟨PyData.keyHash P ⟨#[100, 105, 118, 109, 111, 100]⟩, (.str ⟨#[100, 105, 118, 109, 111, 100]⟩ 19), (.builtin "divmod")⟩, ⟨PyData.keyHash P ⟨#[101, 118, 97, 108]⟩, (.str ⟨#[101, 118, 97, 108]⟩ 20), (.builtin "eval")⟩, ⟨PyData.keyHash P ⟨#[101, 120, 101, 99]⟩, (.str ⟨#[101, 120, 101, 99]⟩ 21), (.builtin "exec")⟩, ⟨PyData.keyHash P ⟨#[102, 111, 114, 109, 97, 116]⟩, (.str ⟨#[102, 111, 114, 109, 97, 116]⟩ 22), (.builtin "format")⟩, ⟨PyData.keyHash P ⟨#[103, 101, 116, 97, 116, 116, 114]⟩, (.str ⟨#[103, 101, 116, 97, 116, 116, 114]⟩ 23), (.builtin "getattr")⟩, ⟨PyData.keyHash P ⟨#[103, 108, 111, 98, 97, 108, 115]⟩, (.str ⟨#[103, 108, 111, 98, 97, 108, 115]⟩ 24), (.builtin "globals")⟩, ⟨PyData.keyHash P ⟨#[104, 97, 115, 97, 116, 116, 114]⟩, (.str ⟨#[104, 97, 115, 97, 116, 116, 114]⟩ 25), (.builtin "hasattr")⟩, ⟨PyData.keyHash P ⟨#[104, 97, 115, 104]⟩, (.str ⟨#[104, 97, 115, 104]⟩ 26), (.builtin "hash")⟩, ⟨PyData.keyHash P ⟨#[104, 101, 120]⟩, (.str ⟨#[104, 101, 120]⟩ 27), (.builtin "hex")⟩, ⟨PyData.keyHash P ⟨#[105, 100]⟩, (.str ⟨#[105, 100]⟩ 28), (.builtin "id")⟩, ⟨PyData.keyHash P ⟨#[105, 110, 112, 117, 116]⟩, (.str ⟨#[105, 110, 112, 117, 116]⟩ 29), (.builtin "input")⟩, ⟨PyData.keyHash P ⟨#[105, 115, 105, 110, 115, 116, 97, 110, 99, 101]⟩, (.str ⟨#[105, 115, 105, 110, 115, 116, 97, 110, 99, 101]⟩ 30), (.builtin "isinstance")⟩, ⟨PyData.keyHash P ⟨#[105, 115, 115, 117, 98, 99, 108, 97, 115, 115]⟩, (.str ⟨#[105, 115, 115, 117, 98, 99, 108, 97, 115, 115]⟩ 31), (.builtin "issubclass")⟩, ⟨PyData.keyHash P ⟨#[105, 116, 101, 114]⟩, (.str ⟨#[105, 116, 101, 114]⟩ 32), (.builtin "iter")⟩, ⟨PyData.keyHash P ⟨#[97, 105, 116, 101, 114]⟩, (.str ⟨#[97, 105, 116, 101, 114]⟩ 33), (.builtin "aiter")⟩, ⟨PyData.keyHash P ⟨#[108, 101, 110]⟩, (.str ⟨#[108, 101, 110]⟩ 34), (.builtin "len")⟩, ⟨PyData.keyHash P ⟨#[108, 111, 99, 97, 108, 115]⟩, (.str ⟨#[108, 111, 99, 97, 108, 115]⟩ 35), (.builtin "locals")⟩, ⟨PyData.keyHash P ⟨#[109, 97, 120]⟩, (.str ⟨#[109, 97, 120]⟩ 36), (.builtin "max")⟩, ⟨PyData.keyHash P ⟨#[109, 105, 110]⟩, (.str ⟨#[109, 105, 110]⟩ 37), (.builtin "min")⟩, ⟨PyData.keyHash P ⟨#[110, 101, 120, 116]⟩, (.str ⟨#[110, 101, 120, 116]⟩ 38), (.builtin "next")⟩, ⟨PyData.keyHash P ⟨#[97, 110, 101, 120, 116]⟩, (.str ⟨#[97, 110, 101, 120, 116]⟩ 39), (.builtin "anext")⟩, ⟨PyData.keyHash P ⟨#[111, 99, 116]⟩, (.str ⟨#[111, 99, 116]⟩ 40), (.builtin "oct")⟩, ⟨PyData.keyHash P ⟨#[111, 114, 100]⟩, (.str ⟨#[111, 114, 100]⟩ 41), (.builtin "ord")⟩, ⟨PyData.keyHash P ⟨#[112, 111, 119]⟩, (.str ⟨#[112, 111, 119]⟩ 42), (.builtin "pow")⟩, ⟨PyData.keyHash P ⟨#[112, 114, 105, 110, 116]⟩, (.str ⟨#[112, 114, 105, 110, 116]⟩ 43), (.builtin "print")⟩, ⟨PyData.keyHash P ⟨#[114, 101, 112, 114]⟩, (.str ⟨#[114, 101, 112, 114]⟩ 44), (.builtin "repr")⟩, ⟨PyData.keyHash P ⟨#[114, 111, 117, 110, 100]⟩, (.str ⟨#[114, 111, 117, 110, 100]⟩ 45), (.builtin "round")⟩, ⟨PyData.keyHash P ⟨#[115, 101, 116, 97, 116, 116, 114]⟩, (.str ⟨#[115, 101, 116, 97, 116, 116, 114]⟩ 46), (.builtin "setattr")⟩, ⟨PyData.keyHash P ⟨#[115, 111, 114, 116, 101, 100]⟩, (.str ⟨#[115, 111, 114, 116, 101, 100]⟩ 47), (.builtin "sorted")⟩, ⟨PyData.keyHash P ⟨#[115, 117, 109]⟩, (.str ⟨#[115, 117, 109]⟩ 48), (.builtin "sum")⟩, ⟨PyData.keyHash P ⟨#[118, 97, 114, 115]⟩, (.str ⟨#[118, 97, 114, 115]⟩ 49), (.builtin "vars")⟩, ⟨PyData.keyHash P ⟨#[78, 111, 110, 101]⟩, (.str ⟨#[78, 111, 110, 101]⟩ 50), .none⟩, ⟨PyData.keyHash P ⟨#[69, 108, 108, 105, 112, 115, 105, 115]⟩, (.str ⟨#[69, 108, 108, 105, 112, 115, 105, 115]⟩ 51), .ellipsis⟩, ⟨PyData.keyHash P ⟨#[78, 111, 116, 73, 109, 112, 108, 101, 109, 101, 110, 116, 101, 100]⟩, (.str ⟨#[78, 111, 116, 73, 109, 112, 108, 101, 109, 101, 110, 116, 101, 100]⟩ 52), .notImplemented⟩, ⟨PyData.keyHash P ⟨#[70, 97, 108, 115, 101]⟩, (.str ⟨#[70, 97, 108, 115, 101]⟩ 53), (.bool false)⟩, ⟨PyData.keyHash P ⟨#[84, 114, 117, 101]⟩, (.str ⟨#[84, 114, 117, 101]⟩ 54), (.bool true)⟩, ⟨PyData.keyHash P ⟨#[98, 111, 111, 108]⟩, (.str ⟨#[98, 111, 111, 108]⟩ 55), (.type "bool")⟩, ⟨PyData.keyHash P ⟨#[109, 101, 109, 111, 114, 121, 118, 105, 101, 119]⟩, (.str ⟨#[109, 101, 109, 111, 114, 121, 118, 105, 101, 119]⟩ 56), (.type "memoryview")⟩, ⟨PyData.keyHash P ⟨#[98, 121, 116, 101, 97, 114, 114, 97, 121]⟩, (.str ⟨#[98, 121, 116, 101, 97, 114, 114, 97, 121]⟩ 57), (.type "bytearray")⟩, ⟨PyData.keyHash P ⟨#[98, 121, 116, 101, 115]⟩, (.str ⟨#[98, 121, 116, 101, 115]⟩ 58), (.type "bytes")⟩, ⟨PyData.keyHash P ⟨#[99, 108, 97, 115, 115, 109, 101, 116, 104, 111, 100]⟩, (.str ⟨#[99, 108, 97, 115, 115, 109, 101, 116, 104, 111, 100]⟩ 59), (.type "classmethod")⟩, ⟨PyData.keyHash P ⟨#[99, 111, 109, 112, 108, 101, 120]⟩, (.str ⟨#[99, 111, 109, 112, 108, 101, 120]⟩ 60), (.type "complex")⟩, ⟨PyData.keyHash P ⟨#[100, 105, 99, 116]⟩, (.str ⟨#[100, 105, 99, 116]⟩ 61), (.type "dict")⟩, ⟨PyData.keyHash P ⟨#[101, 110, 117, 109, 101, 114, 97, 116, 101]⟩, (.str ⟨#[101, 110, 117, 109, 101, 114, 97, 116, 101]⟩ 62), (.type "enumerate")⟩, ⟨PyData.keyHash P ⟨#[102, 105, 108, 116, 101, 114]⟩, (.str ⟨#[102, 105, 108, 116, 101, 114]⟩ 63), (.type "filter")⟩, ⟨PyData.keyHash P ⟨#[102, 108, 111, 97, 116]⟩, (.str ⟨#[102, 108, 111, 97, 116]⟩ 64), (.type "float")⟩, ⟨PyData.keyHash P ⟨#[102, 114, 111, 122, 101, 110, 115, 101, 116]⟩, (.str ⟨#[102, 114, 111, 122, 101, 110, 115, 101, 116]⟩ 65), (.type "frozenset")⟩, ⟨PyData.keyHash P ⟨#[112, 114, 111, 112, 101, 114, 116, 121]⟩, (.str ⟨#[112, 114, 111, 112, 101, 114, 116, 121]⟩ 66), (.type "property")⟩, ⟨PyData.keyHash P ⟨#[105, 110, 116]⟩, (.str ⟨#[105, 110, 116]⟩ 67), (.type "int")⟩, ⟨PyData.keyHash P ⟨#[108, 105, 115, 116]⟩, (.str ⟨#[108, 105, 115, 116]⟩ 68), (.type "list")⟩, ⟨PyData.keyHash P ⟨#[109, 97, 112]⟩, (.str ⟨#[109, 97, 112]⟩ 69), (.type "map")⟩, ⟨PyData.keyHash P ⟨#[111, 98, 106, 101, 99, 116]⟩, (.str ⟨#[111, 98, 106, 101, 99, 116]⟩ 70), (.type "object")⟩, ⟨PyData.keyHash P ⟨#[114, 97, 110, 103, 101]⟩, (.str ⟨#[114, 97, 110, 103, 101]⟩ 71), (.type "range")⟩, ⟨PyData.keyHash P ⟨#[114, 101, 118, 101, 114, 115, 101, 100]⟩, (.str ⟨#[114, 101, 118, 101, 114, 115, 101, 100]⟩ 72), (.type "reversed")⟩, ⟨PyData.keyHash P ⟨#[115, 101, 116]⟩, (.str ⟨#[115, 101, 116]⟩ 73), (.type "set")⟩, ⟨PyData.keyHash P ⟨#[115, 108, 105, 99, 101]⟩, (.str ⟨#[115, 108, 105, 99, 101]⟩ 74), (.type "slice")⟩, ⟨PyData.keyHash P ⟨#[115, 116, 97, 116, 105, 99, 109, 101, 116, 104, 111, 100]⟩, (.str ⟨#[115, 116, 97, 116, 105, 99, 109, 101, 116, 104, 111, 100]⟩ 75), (.type "staticmethod")⟩, ⟨PyData.keyHash P ⟨#[115, 116, 114]⟩, (.str ⟨#[115, 116, 114]⟩ 76), (.type "str")⟩, ⟨PyData.keyHash P ⟨#[115, 117, 112, 101, 114]⟩, (.str ⟨#[115, 117, 112, 101, 114]⟩ 77), (.type "super")⟩, ⟨PyData.keyHash P ⟨#[116, 117, 112, 108, 101]⟩, (.str ⟨#[116, 117, 112, 108, 101]⟩ 78), (.type "tuple")⟩, ⟨PyData.keyHash P ⟨#[116, 121, 112, 101]⟩, (.str ⟨#[116, 121, 112, 101]⟩ 79), (.type "type")⟩, ⟨PyData.keyHash P ⟨#[122, 105, 112]⟩, (.str ⟨#[122, 105, 112]⟩ 80), (.type "zip")⟩, ⟨PyData.keyHash P ⟨#[95, 95, 100, 101, 98, 117, 103, 95, 95]⟩, (.str ⟨#[95, 95, 100, 101, 98, 117, 103, 95, 95]⟩ 81), (.bool true)⟩, ⟨PyData.keyHash P ⟨#[66, 97, 115, 101, 69, 120, 99, 101, 112, 116, 105, 111, 110]⟩, (.str ⟨#[66, 97, 115, 101, 69, 120, 99, 101, 112, 116, 105, 111, 110]⟩ 82), (.type "BaseException")⟩, ⟨PyData.keyHash P ⟨#[66, 97, 115, 101, 69, 120, 99, 101, 112, 116, 105, 111, 110, 71, 114, 111, 117, 112]⟩, (.str ⟨#[66, 97, 115, 101, 69, 120, 99, 101, 112, 116, 105, 111, 110, 71, 114, 111, 117, 112]⟩ 83), (.type "BaseExceptionGroup")⟩, ⟨PyData.keyHash P ⟨#[69, 120, 99, 101, 112, 116, 105, 111, 110]⟩, (.str ⟨#[69, 120, 99, 101, 112, 116, 105, 111, 110]⟩ 84), (.type "Exception")⟩, ⟨PyData.keyHash P ⟨#[71, 101, 110, 101, 114, 97, 116, 111, 114, 69, 120, 105, 116]⟩, (.str ⟨#[71, 101, 110, 101, 114, 97, 116, 111, 114, 69, 120, 105, 116]⟩ 85), (.type "GeneratorExit")⟩, ⟨PyData.keyHash P ⟨#[75, 101, 121, 98, 111, 97, 114, 100, 73, 110, 116, 101, 114, 114, 117, 112, 116]⟩, (.str ⟨#[75, 101, 121, 98, 111, 97, 114, 100, 73, 110, 116, 101, 114, 114, 117, 112, 116]⟩ 86), (.type "KeyboardInterrupt")⟩, ⟨PyData.keyHash P ⟨#[83, 121, 115, 116, 101, 109, 69, 120, 105, 116]⟩, (.str ⟨#[83, 121, 115, 116, 101, 109, 69, 120, 105, 116]⟩ 87), (.type "SystemExit")⟩, ⟨PyData.keyHash P ⟨#[65, 114, 105, 116, 104, 109, 101, 116, 105, 99, 69, 114, 114, 111, 114]⟩, (.str ⟨#[65, 114, 105, 116, 104, 109, 101, 116, 105, 99, 69, 114, 114, 111, 114]⟩ 88), (.type "ArithmeticError")⟩, ⟨PyData.keyHash P ⟨#[65, 115, 115, 101, 114, 116, 105, 111, 110, 69, 114, 114, 111, 114]⟩, (.str ⟨#[65, 115, 115, 101, 114, 116, 105, 111, 110, 69, 114, 114, 111, 114]⟩ 89), (.type "AssertionError")⟩, ⟨PyData.keyHash P ⟨#[65, 116, 116, 114, 105, 98, 117, 116, 101, 69, 114, 114, 111, 114]⟩, (.str ⟨#[65, 116, 116, 114, 105, 98, 117, 116, 101, 69, 114, 114, 111, 114]⟩ 90), (.type "AttributeError")⟩, ⟨PyData.keyHash P ⟨#[66, 117, 102, 102, 101, 114, 69, 114, 114, 111, 114]⟩, (.str ⟨#[66, 117, 102, 102, 101, 114, 69, 114, 114, 111, 114]⟩ 91), (.type "BufferError")⟩, ⟨PyData.keyHash P ⟨#[69, 79, 70, 69, 114, 114, 111, 114]⟩, (.str ⟨#[69, 79, 70, 69, 114, 114, 111, 114]⟩ 92), (.type "EOFError")⟩, ⟨PyData.keyHash P ⟨#[73, 109, 112, 111, 114, 116, 69, 114, 114, 111, 114]⟩, (.str ⟨#[73, 109, 112, 111, 114, 116, 69, 114, 114, 111, 114]⟩ 93), (.type "ImportError")⟩, ⟨PyData.keyHash P ⟨#[76, 111, 111, 107, 117, 112, 69, 114, 114, 111, 114]⟩, (.str ⟨#[76, 111, 111, 107, 117, 112, 69, 114, 114, 111, 114]⟩ 94), (.type "LookupError")⟩, ⟨PyData.keyHash P ⟨#[77, 101, 109, 111, 114, 121, 69, 114, 114, 111, 114]⟩, (.str ⟨#[77, 101, 109, 111, 114, 121, 69, 114, 114, 111, 114]⟩ 95), (.type "MemoryError")⟩, ⟨PyData.keyHash P ⟨#[78, 97, 109, 101, 69, 114, 114, 111, 114]⟩, (.str ⟨#[78, 97, 109, 101, 69, 114, 114, 111, 114]⟩ 96), (.type "NameError")⟩, ⟨PyData.keyHash P ⟨#[79, 83, 69, 114, 114, 111, 114]⟩, (.str ⟨#[79, 83, 69, 114, 114, 111, 114]⟩ 97), (.type "OSError")⟩, ⟨PyData.keyHash P ⟨#[82, 101, 102, 101, 114, 101, 110, 99, 101, 69, 114, 114, 111, 114]⟩, (.str ⟨#[82, 101, 102, 101, 114, 101, 110, 99, 101, 69, 114, 114, 111, 114]⟩ 98), (.type "ReferenceError")⟩, ⟨PyData.keyHash P ⟨#[82, 117, 110, 116, 105, 109, 101, 69, 114, 114, 111, 114]⟩, (.str ⟨#[82, 117, 110, 116, 105, 109, 101, 69, 114, 114, 111, 114]⟩ 99), (.type "RuntimeError")⟩, ⟨PyData.keyHash P ⟨#[83, 116, 111, 112, 65, 115, 121, 110, 99, 73, 116, 101, 114, 97, 116, 105, 111, 110]⟩, (.str ⟨#[83, 116, 111, 112, 65, 115, 121, 110, 99, 73, 116, 101, 114, 97, 116, 105, 111, 110]⟩ 100), (.type "StopAsyncIteration")⟩, ⟨PyData.keyHash P ⟨#[83, 116, 111, 112, 73, 116, 101, 114, 97, 116, 105, 111, 110]⟩, (.str ⟨#[83, 116, 111, 112, 73, 116, 101, 114, 97, 116, 105, 111, 110]⟩ 101), (.type "StopIteration")⟩, ⟨PyData.keyHash P ⟨#[83, 121, 110, 116, 97, 120, 69, 114, 114, 111, 114]⟩, (.str ⟨#[83, 121, 110, 116, 97, 120, 69, 114, 114, 111, 114]⟩ 102), (.type "SyntaxError")⟩, ⟨PyData.keyHash P ⟨#[83, 121, 115, 116, 101, 109, 69, 114, 114, 111, 114]⟩, (.str ⟨#[83, 121, 115, 116, 101, 109, 69, 114, 114, 111, 114]⟩ 103), (.type "SystemError")⟩, ⟨PyData.keyHash P ⟨#[84, 121, 112, 101, 69, 114, 114, 111, 114]⟩, (.str ⟨#[84, 121, 112, 101, 69, 114, 114, 111, 114]⟩ 104), (.type "TypeError")⟩, ⟨PyData.keyHash P ⟨#[86, 97, 108, 117, 101, 69, 114, 114, 111, 114]⟩, (.str ⟨#[86, 97, 108, 117, 101, 69, 114, 114, 111, 114]⟩ 105), (.type "ValueError")⟩, ⟨PyData.keyHash P ⟨#[87, 97, 114, 110, 105, 110, 103]⟩, (.str ⟨#[87, 97, 114, 110, 105, 110, 103]⟩ 106), (.type "Warning")⟩, ⟨PyData.keyHash P ⟨#[70, 108, 111, 97, 116, 105, 110, 103, 80, 111, 105, 110, 116, 69, 114, 114, 111, 114]⟩, (.str ⟨#[70, 108, 111, 97, 116, 105, 110, 103, 80, 111, 105, 110, 116, 69, 114, 114, 111, 114]⟩ 107), (.type "FloatingPointError")⟩, ⟨PyData.keyHash P ⟨#[79, 118, 101, 114, 102, 108, 111, 119, 69, 114, 114, 111, 114]⟩, (.str ⟨#[79, 118, 101, 114, 102, 108, 111, 119, 69, 114, 114, 111, 114]⟩ 108), (.type "OverflowError")⟩, ⟨PyData.keyHash P ⟨#[90, 101, 114, 111, 68, 105, 118, 105, 115, 105, 111, 110, 69, 114, 114, 111, 114]⟩, (.str ⟨#[90, 101, 114, 111, 68, 105, 118, 105, 115, 105, 111, 110, 69, 114, 114, 111, 114]⟩ 109), (.type "ZeroDivisionError")⟩, ⟨PyData.keyHash P ⟨#[66, 121, 116, 101, 115, 87, 97, 114, 110, 105, 110, 103]⟩, (.str ⟨#[66, 121, 116, 101, 115, 87, 97, 114, 110, 105, 110, 103]⟩ 110), (.type "BytesWarning")⟩, ⟨PyData.keyHash P ⟨#[68, 101, 112, 114, 101, 99, 97, 116, 105, 111, 110, 87, 97, 114, 110, 105, 110, 103]⟩, (.str ⟨#[68, 101, 112, 114, 101, 99, 97, 116, 105, 111, 110, 87, 97, 114, 110, 105, 110, 103]⟩ 111), (.type "DeprecationWarning")⟩, ⟨PyData.keyHash P ⟨#[69, 110, 99, 111, 100, 105, 110, 103, 87, 97, 114, 110, 105, 110, 103]⟩, (.str ⟨#[69, 110, 99, 111, 100, 105, 110, 103, 87, 97, 114, 110, 105, 110, 103]⟩ 112), (.type "EncodingWarning")⟩, ⟨PyData.keyHash P ⟨#[70, 117, 116, 117, 114, 101, 87, 97, 114, 110, 105, 110, 103]⟩, (.str ⟨#[70, 117, 116, 117, 114, 101, 87, 97, 114, 110, 105, 110, 103]⟩ 113), (.type "FutureWarning")⟩, ⟨PyData.keyHash P ⟨#[73, 109, 112, 111, 114, 116, 87, 97, 114, 110, 105, 110, 103]⟩, (.str ⟨#[73, 109, 112, 111, 114, 116, 87, 97, 114, 110, 105, 110, 103]⟩ 114), (.type "ImportWarning")⟩, ⟨PyData.keyHash P ⟨#[80, 101, 110, 100, 105, 110, 103, 68, 101, 112, 114, 101, 99, 97, 116, 105, 111, 110, 87, 97, 114, 110, 105, 110, 103]⟩, (.str ⟨#[80, 101, 110, 100, 105, 110, 103, 68, 101, 112, 114, 101, 99, 97, 116, 105, 111, 110, 87, 97, 114, 110, 105, 110, 103]⟩ 115), (.type "PendingDeprecationWarning")⟩, ⟨PyData.keyHash P ⟨#[82, 101, 115, 111, 117, 114, 99, 101, 87, 97, 114, 110, 105, 110, 103]⟩, (.str ⟨#[82, 101, 115, 111, 117, 114, 99, 101, 87, 97, 114, 110, 105, 110, 103]⟩ 116), (.type "ResourceWarning")⟩, ⟨PyData.keyHash P ⟨#[82, 117, 110, 116, 105, 109, 101, 87, 97, 114, 110, 105, 110, 103]⟩, (.str ⟨#[82, 117, 110, 116, 105, 109, 101, 87, 97, 114, 110, 105, 110, 103]⟩ 117), (.type "RuntimeWarning")⟩, ⟨PyData.keyHash P ⟨#[83, 121, 110, 116, 97, 120, 87, 97, 114, 110, 105, 110, 103]⟩, (.str ⟨#[83, 121, 110, 116, 97, 120, 87, 97, 114, 110, 105, 110, 103]⟩ 118), (.type "SyntaxWarning")⟩, ⟨PyData.keyHash P ⟨#[85, 110, 105, 99, 111, 100, 101, 87, 97, 114, 110, 105, 110, 103]⟩, (.str ⟨#[85, 110, 105, 99, 111, 100, 101, 87, 97, 114, 110, 105, 110, 103]⟩ 119), (.type "UnicodeWarning")⟩, ⟨PyData.keyHash P ⟨#[85, 115, 101, 114, 87, 97, 114, 110, 105, 110, 103]⟩, (.str ⟨#[85, 115, 101, 114, 87, 97, 114, 110, 105, 110, 103]⟩ 120), (.type "UserWarning")⟩, ⟨PyData.keyHash P ⟨#[66, 108, 111, 99, 107, 105, 110, 103, 73, 79, 69, 114, 114, 111, 114]⟩, (.str ⟨#[66, 108, 111, 99, 107, 105, 110, 103, 73, 79, 69, 114, 114, 111, 114]⟩ 121), (.type "BlockingIOError")⟩, ⟨PyData.keyHash P ⟨#[67, 104, 105, 108, 100, 80, 114, 111, 99, 101, 115, 115, 69, 114, 114, 111, 114]⟩, (.str ⟨#[67, 104, 105, 108, 100, 80, 114, 111, 99, 101, 115, 115, 69, 114, 114, 111, 114]⟩ 122), (.type "ChildProcessError")⟩, ⟨PyData.keyHash P ⟨#[67, 111, 110, 110, 101, 99, 116, 105, 111, 110, 69, 114, 114, 111, 114]⟩, (.str ⟨#[67, 111, 110, 110, 101, 99, 116, 105, 111, 110, 69, 114, 114, 111, 114]⟩ 123), (.type "ConnectionError")⟩, ⟨PyData.keyHash P ⟨#[70, 105, 108, 101, 69, 120, 105, 115, 116, 115, 69, 114, 114, 111, 114]⟩, (.str ⟨#[70, 105, 108, 101, 69, 120, 105, 115, 116, 115, 69, 114, 114, 111, 114]⟩ 124), (.type "FileExistsError")⟩, ⟨PyData.keyHash P ⟨#[70, 105, 108, 101, 78, 111, 116, 70, 111, 117, 110, 100, 69, 114, 114, 111, 114]⟩, (.str ⟨#[70, 105, 108, 101, 78, 111, 116, 70, 111, 117, 110, 100, 69, 114, 114, 111, 114]⟩ 125), (.type "FileNotFoundError")⟩, ⟨PyData.keyHash P ⟨#[73, 110, 116, 101, 114, 114, 117, 112, 116, 101, 100, 69, 114, 114, 111, 114]⟩, (.str ⟨#[73, 110, 116, 101, 114, 114, 117, 112, 116, 101, 100, 69, 114, 114, 111, 114]⟩ 126), (.type "InterruptedError")⟩, ⟨PyData.keyHash P ⟨#[73, 115, 65, 68, 105, 114, 101, 99, 116, 111, 114, 121, 69, 114, 114, 111, 114]⟩, (.str ⟨#[73, 115, 65, 68, 105, 114, 101, 99, 116, 111, 114, 121, 69, 114, 114, 111, 114]⟩ 127), (.type "IsADirectoryError")⟩, ⟨PyData.keyHash P ⟨#[78, 111, 116, 65, 68, 105, 114, 101, 99, 116, 111, 114, 121, 69, 114, 114, 111, 114]⟩, (.str ⟨#[78, 111, 116, 65, 68, 105, 114, 101, 99, 116, 111, 114, 121, 69, 114, 114, 111, 114]⟩ 128), (.type "NotADirectoryError")⟩, ⟨PyData.keyHash P ⟨#[80, 101, 114, 109, 105, 115, 115, 105, 111, 110, 69, 114, 114, 111, 114]⟩, (.str ⟨#[80, 101, 114, 109, 105, 115, 115, 105, 111, 110, 69, 114, 114, 111, 114]⟩ 129), (.type "PermissionError")⟩, ⟨PyData.keyHash P ⟨#[80, 114, 111, 99, 101, 115, 115, 76, 111, 111, 107, 117, 112, 69, 114, 114, 111, 114]⟩, (.str ⟨#[80, 114, 111, 99, 101, 115, 115, 76, 111, 111, 107, 117, 112, 69, 114, 114, 111, 114]⟩ 130), (.type "ProcessLookupError")⟩, ⟨PyData.keyHash P ⟨#[84, 105, 109, 101, 111, 117, 116, 69, 114, 114, 111, 114]⟩, (.str ⟨#[84, 105, 109, 101, 111, 117, 116, 69, 114, 114, 111, 114]⟩ 131), (.type "TimeoutError")⟩, ⟨PyData.keyHash P ⟨#[73, 110, 100, 101, 110, 116, 97, 116, 105, 111, 110, 69, 114, 114, 111, 114]⟩, (.str ⟨#[73, 110, 100, 101, 110, 116, 97, 116, 105, 111, 110, 69, 114, 114, 111, 114]⟩ 132), (.type "IndentationError")⟩, ⟨PyData.keyHash P ⟨#[95, 73, 110, 99, 111, 109, 112, 108, 101, 116, 101, 73, 110, 112, 117, 116, 69, 114, 114, 111, 114]⟩, (.str ⟨#[95, 73, 110, 99, 111, 109, 112, 108, 101, 116, 101, 73, 110, 112, 117, 116, 69, 114, 114, 111, 114]⟩ 133), (.type "_IncompleteInputError")⟩, ⟨PyData.keyHash P ⟨#[73, 110, 100, 101, 120, 69, 114, 114, 111, 114]⟩, (.str ⟨#[73, 110, 100, 101, 120, 69, 114, 114, 111, 114]⟩ 134), (.type "IndexError")⟩, ⟨PyData.keyHash P ⟨#[75, 101, 121, 69, 114, 114, 111, 114]⟩, (.str ⟨#[75, 101, 121, 69, 114, 114, 111, 114]⟩ 135), (.type "KeyError")⟩, ⟨PyData.keyHash P ⟨#[77, 111, 100, 117, 108, 101, 78, 111, 116, 70, 111, 117, 110, 100, 69, 114, 114, 111, 114]⟩, (.str ⟨#[77, 111, 100, 117, 108, 101, 78, 111, 116, 70, 111, 117, 110, 100, 69, 114, 114, 111, 114]⟩ 136), (.type "ModuleNotFoundError")⟩, ⟨PyData.keyHash P ⟨#[78, 111, 116, 73, 109, 112, 108, 101, 109, 101, 110, 116, 101, 100, 69, 114, 114, 111, 114]⟩, (.str ⟨#[78, 111, 116, 73, 109, 112, 108, 101, 109, 101, 110, 116, 101, 100, 69, 114, 114, 111, 114]⟩ 137), (.type "NotImplementedError")⟩, ⟨PyData.keyHash P ⟨#[80, 121, 116, 104, 111, 110, 70, 105, 110, 97, 108, 105, 122, 97, 116, 105, 111, 110, 69, 114, 114, 111, 114]⟩, (.str ⟨#[80, 121, 116, 104, 111, 110, 70, 105, 110, 97, 108, 105, 122, 97, 116, 105, 111, 110, 69, 114, 114, 111, 114]⟩ 138), (.type "PythonFinalizationError")⟩, ⟨PyData.keyHash P ⟨#[82, 101, 99, 117, 114, 115, 105, 111, 110, 69, 114, 114, 111, 114]⟩, (.str ⟨#[82, 101, 99, 117, 114, 115, 105, 111, 110, 69, 114, 114, 111, 114]⟩ 139), (.type "RecursionError")⟩, ⟨PyData.keyHash P ⟨#[85, 110, 98, 111, 117, 110, 100, 76, 111, 99, 97, 108, 69, 114, 114, 111, 114]⟩, (.str ⟨#[85, 110, 98, 111, 117, 110, 100, 76, 111, 99, 97, 108, 69, 114, 114, 111, 114]⟩ 140), (.type "UnboundLocalError")⟩, ⟨PyData.keyHash P ⟨#[85, 110, 105, 99, 111, 100, 101, 69, 114, 114, 111, 114]⟩, (.str ⟨#[85, 110, 105, 99, 111, 100, 101, 69, 114, 114, 111, 114]⟩ 141), (.type "UnicodeError")⟩, ⟨PyData.keyHash P ⟨#[66, 114, 111, 107, 101, 110, 80, 105, 112, 101, 69, 114, 114, 111, 114]⟩, (.str ⟨#[66, 114, 111, 107, 101, 110, 80, 105, 112, 101, 69, 114, 114, 111, 114]⟩ 142), (.type "BrokenPipeError")⟩, ⟨PyData.keyHash P ⟨#[67, 111, 110, 110, 101, 99, 116, 105, 111, 110, 65, 98, 111, 114, 116, 101, 100, 69, 114, 114, 111, 114]⟩, (.str ⟨#[67, 111, 110, 110, 101, 99, 116, 105, 111, 110, 65, 98, 111, 114, 116, 101, 100, 69, 114, 114, 111, 114]⟩ 143), (.type "ConnectionAbortedError")⟩, ⟨PyData.keyHash P ⟨#[67, 111, 110, 110, 101, 99, 116, 105, 111, 110, 82, 101, 102, 117, 115, 101, 100, 69, 114, 114, 111, 114]⟩, (.str ⟨#[67, 111, 110, 110, 101, 99, 116, 105, 111, 110, 82, 101, 102, 117, 115, 101, 100, 69, 114, 114, 111, 114]⟩ 144), (.type "ConnectionRefusedError")⟩, ⟨PyData.keyHash P ⟨#[67, 111, 110, 110, 101, 99, 116, 105, 111, 110, 82, 101, 115, 101, 116, 69, 114, 114, 111, 114]⟩, (.str ⟨#[67, 111, 110, 110, 101, 99, 116, 105, 111, 110, 82, 101, 115, 101, 116, 69, 114, 114, 111, 114]⟩ 145), (.type "ConnectionResetError")⟩, ⟨PyData.keyHash P ⟨#[84, 97, 98, 69, 114, 114, 111, 114]⟩, (.str ⟨#[84, 97, 98, 69, 114, 114, 111, 114]⟩ 146), (.type "TabError")⟩, ⟨PyData.keyHash P ⟨#[85, 110, 105, 99, 111, 100, 101, 68, 101, 99, 111, 100, 101, 69, 114, 114, 111, 114]⟩, (.str ⟨#[85, 110, 105, 99, 111, 100, 101, 68, 101, 99, 111, 100, 101, 69, 114, 114, 111, 114]⟩ 147), (.type "UnicodeDecodeError")⟩, ⟨PyData.keyHash P ⟨#[85, 110, 105, 99, 111, 100, 101, 69, 110, 99, 111, 100, 101, 69, 114, 114, 111, 114]⟩, (.str ⟨#[85, 110, 105, 99, 111, 100, 101, 69, 110, 99, 111, 100, 101, 69, 114, 114, 111, 114]⟩ 148), (.type "UnicodeEncodeError")⟩, ⟨PyData.keyHash P ⟨#[85, 110, 105, 99, 111, 100, 101, 84, 114, 97, 110, 115, 108, 97, 116, 101, 69, 114, 114, 111, 114]⟩, (.str ⟨#[85, 110, 105, 99, 111, 100, 101, 84, 114, 97, 110, 115, 108, 97, 116, 101, 69, 114, 114, 111, 114]⟩ 149), (.type "UnicodeTranslateError")⟩, ⟨PyData.keyHash P ⟨#[69, 120, 99, 101, 112, 116, 105, 111, 110, 71, 114, 111, 117, 112]⟩, (.str ⟨#[69, 120, 99, 101, 112, 116, 105, 111, 110, 71, 114, 111, 117, 112]⟩ 150), (.type "ExceptionGroup")⟩, ⟨PyData.keyHash P ⟨#[69, 110, 118, 105, 114, 111, 110, 109, 101, 110, 116, 69, 114, 114, 111, 114]⟩, (.str ⟨#[69, 110, 118, 105, 114, 111, 110, 109, 101, 110, 116, 69, 114, 114, 111, 114]⟩ 151), (.type "OSError")⟩, ⟨PyData.keyHash P ⟨#[73, 79, 69, 114, 114, 111, 114]⟩, (.str ⟨#[73, 79, 69, 114, 114, 111, 114]⟩ 152), (.type "OSError")⟩, ⟨PyData.keyHash P ⟨#[111, 112, 101, 110]⟩, (.str ⟨#[111, 112, 101, 110]⟩ 153), (.builtin "open")⟩, ⟨PyData.keyHash P ⟨#[113, 117, 105, 116]⟩, (.str ⟨#[113, 117, 105, 116]⟩ 154), (.builtin "builtins.quit#opaque")⟩, ⟨PyData.keyHash P ⟨#[101, 120, 105, 116]⟩, (.str ⟨#[101, 120, 105, 116]⟩ 155), (.builtin "builtins.exit#opaque")⟩, ⟨PyData.keyHash P ⟨#[99, 111, 112, 121, 114, 105, 103, 104, 116]⟩, (.str ⟨#[99, 111, 112, 121, 114, 105, 103, 104, 116]⟩ 156), (.builtin "builtins.copyright#opaque")⟩, ⟨PyData.keyHash P ⟨#[99, 114, 101, 100, 105, 116, 115]⟩, (.str ⟨#[99, 114, 101, 100, 105, 116, 115]⟩ 157), (.builtin "builtins.credits#opaque")⟩, ⟨PyData.keyHash P ⟨#[108, 105, 99, 101, 110, 115, 101]⟩, (.str ⟨#[108, 105, 99, 101, 110, 115, 101]⟩ 158), (.builtin "builtins.license#opaque")⟩, ⟨PyData.keyHash P ⟨#[104, 101, 108, 112]⟩, (.str ⟨#[104, 101, 108, 112]⟩ 159), (.builtin "builtins.help#opaque")⟩] 159), #[]⟩
noncomputable def xB_1 (P : Params) : Obj := ⟨(.type "dict"), none, (.dict #[⟨PyData.keyHash P ⟨#[98, 117, 105, 108, 116, 105, 110, 115]⟩, (.str ⟨#[98, 117, 105, 108, 116, 105, 110, 115]⟩ 162), (.ref 4)⟩, ⟨PyData.keyHash P ⟨#[95, 95, 109, 97, 105, 110, 95, 95]⟩, (.str ⟨#[95, 95, 109, 97, 105, 110, 95, 95]⟩ 163), (.ref 5)⟩, ⟨PyData.keyHash P ⟨#[95, 99, 111, 108, 108, 101, 99, 116, 105, 111, 110, 115]⟩, (.str ⟨#[95, 99, 111, 108, 108, 101, 99, 116, 105, 111, 110, 115]⟩ 246), (.ref 13)⟩] 3), #[]⟩
noncomputable def xB_2 (P : Params) : Obj := ⟨.none, none, (.dict #[⟨PyData.keyHash P ⟨#[105, 109, 112, 111, 114, 116, 46, 108, 111, 97, 100, 101, 100, 46, 95, 99, 111, 108, 108, 101, 99, 116, 105, 111, 110, 115]⟩, (.str ⟨#[105, 109, 112, 111, 114, 116, 46, 108, 111, 97, 100, 101, 100, 46, 95, 99, 111, 108, 108, 101, 99, 116, 105, 111, 110, 115]⟩ 185), (.bool true)⟩, ⟨PyData.keyHash P ⟨#[99, 108, 97, 115, 115, 46, 95, 102, 114, 111, 122, 101, 110, 95, 105, 109, 112, 111, 114, 116, 108, 105, 98, 46, 66, 117, 105, 108, 116, 105, 110, 73, 109, 112, 111, 114, 116, 101, 114]⟩, (.str ⟨#[99, 108, 97, 115, 115, 46, 95, 102, 114, 111, 122, 101, 110, 95, 105, 109, 112, 111, 114, 116, 108, 105, 98, 46, 66, 117, 105, 108, 116, 105, 110, 73, 109, 112, 111, 114, 116, 101, 114]⟩ 187), (.ref 15)⟩, ⟨PyData.keyHash P ⟨#[119, 97, 116, 99, 104, 101, 100, 46, 105, 109, 112, 111, 114, 116]⟩, (.str ⟨#[119, 97, 116, 99, 104, 101, 100, 46, 105, 109, 112, 111, 114, 116]⟩ 208), (.ref 19)⟩, ⟨PyData.keyHash P ⟨#[99, 108, 97, 115, 115, 46, 95, 102, 114, 111, 122, 101, 110, 95, 105, 109, 112, 111, 114, 116, 108, 105, 98, 46, 77, 111, 100, 117, 108, 101, 83, 112, 101, 99]⟩, (.str ⟨#[99, 108, 97, 115, 115, 46, 95, 102, 114, 111, 122, 101, 110, 95, 105, 109, 112, 111, 114, 116, 108, 105, 98, 46, 77, 111, 100, 117, 108, 101, 83, 112, 101, 99]⟩ 218), (.ref 23)⟩, ⟨PyData.keyHash P ⟨#[115, 121, 115, 46, 109, 111, 100, 117, 108, 101, 115, 46, 98, 111, 111, 107, 101, 100, 45, 101, 112, 111, 99, 104]⟩, (.str ⟨#[115, 121, 115, 46, 109, 111, 100, 117, 108, 101, 115, 46, 98, 111, 111, 107, 101, 100, 45, 101, 112, 111, 99, 104]⟩ 247), (.int 3 0)⟩, ⟨PyData.keyHash P ⟨#[115, 121, 115, 46, 109, 111, 100, 117, 108, 101, 115, 46, 108, 97, 110, 100, 101, 100, 46, 95, 99, 111, 108, 108, 101, 99, 116, 105, 111, 110, 115]⟩, (.str ⟨#[115, 121, 115, 46, 109, 111, 100, 117, 108, 101, 115, 46, 108, 97, 110, 100, 101, 100, 46, 95, 99, 111, 108, 108, 101, 99, 116, 105, 111, 110, 115]⟩ 248), (.bool true)⟩, ⟨PyData.keyHash P ⟨#[105, 109, 112, 111, 114, 116, 46, 108, 97, 116, 101, 114, 45, 108, 97, 105, 100, 46, 95, 99, 111, 108, 108, 101, 99, 116, 105, 111, 110, 115]⟩, (.str ⟨#[105, 109, 112, 111, 114, 116, 46, 108, 97, 116, 101, 114, 45, 108, 97, 105, 100, 46, 95, 99, 111, 108, 108, 101, 99, 116, 105, 111, 110, 115]⟩ 263), (.bool true)⟩, ⟨PyData.keyHash P ⟨#[119, 97, 116, 99, 104, 101, 100, 46, 108, 105, 98, 114, 97, 114, 121]⟩, (.str ⟨#[119, 97, 116, 99, 104, 101, 100, 46, 108, 105, 98, 114, 97, 114, 121]⟩ 265), (.ref 28)⟩, ⟨PyData.keyHash P ⟨#[119, 97, 116, 99, 104, 101, 100, 46, 108, 105, 98, 114, 97, 114, 121, 45, 111, 98, 106, 101, 99, 116, 115]⟩, (.str ⟨#[119, 97, 116, 99, 104, 101, 100, 46, 108, 105, 98, 114, 97, 114, 121, 45, 111, 98, 106, 101, 99, 116, 115]⟩ 0), (.str ⟨#[13]⟩ 0)⟩, ⟨PyData.keyHash P ⟨#[119, 97, 116, 99, 104, 101, 100, 46, 108, 105, 98, 114, 97, 114, 121, 45, 100, 101, 101, 112, 46, 95, 99, 111, 108, 108, 101, 99, 116, 105, 111, 110, 115]⟩, (.str ⟨#[119, 97, 116, 99, 104, 101, 100, 46, 108, 105, 98, 114, 97, 114, 121, 45, 100, 101, 101, 112, 46, 95, 99, 111, 108, 108, 101, 99, 116, 105, 111, 110, 115]⟩ 266), (.str ⟨#[4, 0, 0, 12, 4, 0, 0, 12, 4, 0, 0, 3, 4, 0, 0, 12, 8, 4, 100, 105, 99, 116, 2]⟩ 0)⟩] 10), #[]⟩
noncomputable def xB_3 (P : Params) : Obj := ⟨(.type "dict"), none, (.dict #[⟨PyData.keyHash P ⟨#[95, 95, 110, 97, 109, 101, 95, 95]⟩, (.str ⟨#[95, 95, 110, 97, 109, 101, 95, 95]⟩ 165), (.str ⟨#[95, 95, 109, 97, 105, 110, 95, 95]⟩ 164)⟩, ⟨PyData.keyHash P ⟨#[95, 95, 100, 111, 99, 95, 95]⟩, (.str ⟨#[95, 95, 100, 111, 99, 95, 95]⟩ 166), .none⟩, ⟨PyData.keyHash P ⟨#[95, 95, 112, 97, 99, 107, 97, 103, 101, 95, 95]⟩, (.str ⟨#[95, 95, 112, 97, 99, 107, 97, 103, 101, 95, 95]⟩ 167), .none⟩, ⟨PyData.keyHash P ⟨#[95, 95, 108, 111, 97, 100, 101, 114, 95, 95]⟩, (.str ⟨#[95, 95, 108, 111, 97, 100, 101, 114, 95, 95]⟩ 168), (.builtin "__main__.__loader__#opaque")⟩, ⟨PyData.keyHash P ⟨#[95, 95, 115, 112, 101, 99, 95, 95]⟩, (.str ⟨#[95, 95, 115, 112, 101, 99, 95, 95]⟩ 169), .none⟩, ⟨PyData.keyHash P ⟨#[95, 95, 97, 110, 110, 111, 116, 97, 116, 105, 111, 110, 115, 95, 95]⟩, (.str ⟨#[95, 95, 97, 110, 110, 111, 116, 97, 116, 105, 111, 110, 115, 95, 95]⟩ 170), (.ref 6)⟩, ⟨PyData.keyHash P ⟨#[95, 95, 98, 117, 105, 108, 116, 105, 110, 115, 95, 95]⟩, (.str ⟨#[95, 95, 98, 117, 105, 108, 116, 105, 110, 115, 95, 95]⟩ 171), (.ref 4)⟩, ⟨PyData.keyHash P ⟨#[95, 95, 102, 105, 108, 101, 95, 95]⟩, (.str ⟨#[95, 95, 102, 105, 108, 101, 95, 95]⟩ 173), (.str ⟨#[47, 99, 108, 97, 105, 109, 47, 99, 117, 116, 46, 112, 121]⟩ 172)⟩, ⟨PyData.keyHash P ⟨#[95, 95, 99, 97, 99, 104, 101, 100, 95, 95]⟩, (.str ⟨#[95, 95, 99, 97, 99, 104, 101, 100, 95, 95]⟩ 174), .none⟩, ⟨PyData.keyHash P ⟨#[100, 101, 113, 117, 101]⟩, (.str ⟨#[100, 101, 113, 117, 101]⟩ 272), (.type "collections.deque")⟩] 10), #[]⟩
noncomputable def xB_4 (P : Params) : Obj := ⟨(.type "module"), (some 0), .plain, #[]⟩
noncomputable def xB_5 (P : Params) : Obj := ⟨(.type "module"), (some 3), .plain, #[]⟩
noncomputable def xB_6 (P : Params) : Obj := ⟨(.type "dict"), none, (.dict #[] 0), #[]⟩
noncomputable def xB_7 (P : Params) : Obj := ⟨(.type "tuple"), none, (.seq #[] 0), #[]⟩
noncomputable def xB_8 (P : Params) : Obj := ⟨.none, none, (.fields #[]), #[]⟩
noncomputable def xB_9 (P : Params) : Obj := ⟨(.type "code"), none, (.fields #[(.str ⟨#[60, 109, 111, 100, 117, 108, 101, 62]⟩ 176), (.str ⟨#[60, 109, 111, 100, 117, 108, 101, 62]⟩ 177), (.str ⟨#[47, 99, 108, 97, 105, 109, 47, 99, 117, 116, 46, 112, 121]⟩ 178), (.int 1 0), (.int 0 0), (.int 0 0), (.int 0 0), (.int 0 0), (.ref 7), (.bool false), (.int 175 0), (.ref 8), .none, .none, .none, .none, (.int 179 0), (.int 1 0), (.str ⟨#[47, 99, 108, 97, 105, 109, 47, 99, 117, 116, 46, 112, 121]⟩ 180)]), #[]⟩
noncomputable def xB_10 (P : Params) : Obj := ⟨(.type "frame"), none, .plain, #[(some (.ref 9)), (some (.ref 3)), (some (.ref 3)), none, (some (.str ⟨#[95, 95, 109, 97, 105, 110, 95, 95]⟩ 164)), none, (some (.ref 0))]⟩
noncomputable def xB_11 (P : Params) : Obj := ⟨(.type "tuple"), none, (.seq #[(.str ⟨#[100, 101, 113, 117, 101]⟩ 182)] 0), #[]⟩
noncomputable def xB_12 (P : Params) : Obj := ⟨(.type "dict"), none, (.dict #[⟨PyData.keyHash P ⟨#[95, 95, 110, 97, 109, 101, 95, 95]⟩, (.str ⟨#[95, 95, 110, 97, 109, 101, 95, 95]⟩ 250), (.str ⟨#[95, 99, 111, 108, 108, 101, 99, 116, 105, 111, 110, 115]⟩ 249)⟩, ⟨PyData.keyHash P ⟨#[95, 95, 100, 111, 99, 95, 95]⟩, (.str ⟨#[95, 95, 100, 111, 99, 95, 95]⟩ 251), (.builtin "off-the-table:_collections.__doc__:shared#opaque")⟩, ⟨PyData.keyHash P ⟨#[95, 95, 112, 97, 99, 107, 97, 103, 101, 95, 95]⟩, (.str ⟨#[95, 95, 112, 97, 99, 107, 97, 103, 101, 95, 95]⟩ 253), (.str ⟨#[]⟩ 252)⟩, ⟨PyData.keyHash P ⟨#[95, 95, 108, 111, 97, 100, 101, 114, 95, 95]⟩, (.str ⟨#[95, 95, 108, 111, 97, 100, 101, 114, 95, 95]⟩ 254), (.builtin "off-the-table:_collections.__loader__:shared#opaque")⟩, ⟨PyData.keyHash P ⟨#[95, 95, 115, 112, 101, 99, 95, 95]⟩, (.str ⟨#[95, 95, 115, 112, 101, 99, 95, 95]⟩ 255), (.builtin "off-the-table:_collections.__spec__:shared#opaque")⟩, ⟨PyData.keyHash P ⟨#[95, 99, 111, 117, 110, 116, 95, 101, 108, 101, 109, 101, 110, 116, 115]⟩, (.str ⟨#[95, 99, 111, 117, 110, 116, 95, 101, 108, 101, 109, 101, 110, 116, 115]⟩ 256), (.builtin "_collections._count_elements")⟩, ⟨PyData.keyHash P ⟨#[100, 101, 113, 117, 101]⟩, (.str ⟨#[100, 101, 113, 117, 101]⟩ 257), (.type "collections.deque")⟩, ⟨PyData.keyHash P ⟨#[100, 101, 102, 97, 117, 108, 116, 100, 105, 99, 116]⟩, (.str ⟨#[100, 101, 102, 97, 117, 108, 116, 100, 105, 99, 116]⟩ 258), (.type "collections.defaultdict")⟩, ⟨PyData.keyHash P ⟨#[95, 100, 101, 113, 117, 101, 95, 105, 116, 101, 114, 97, 116, 111, 114]⟩, (.str ⟨#[95, 100, 101, 113, 117, 101, 95, 105, 116, 101, 114, 97, 116, 111, 114]⟩ 259), (.builtin "off-the-table:_collections._deque_iterator:shared#opaque")⟩, ⟨PyData.keyHash P ⟨#[95, 100, 101, 113, 117, 101, 95, 114, 101, 118, 101, 114, 115, 101, 95, 105, 116, 101, 114, 97, 116, 111, 114]⟩, (.str ⟨#[95, 100, 101, 113, 117, 101, 95, 114, 101, 118, 101, 114, 115, 101, 95, 105, 116, 101, 114, 97, 116, 111, 114]⟩ 260), (.builtin "off-the-table:_collections._deque_reverse_iterator:shared#opaque")⟩, ⟨PyData.keyHash P ⟨#[95, 116, 117, 112, 108, 101, 103, 101, 116, 116, 101, 114]⟩, (.str ⟨#[95, 116, 117, 112, 108, 101, 103, 101, 116, 116, 101, 114]⟩ 261), (.type "collections._tuplegetter")⟩, ⟨PyData.keyHash P ⟨#[79, 114, 100, 101, 114, 101, 100, 68, 105, 99, 116]⟩, (.str ⟨#[79, 114, 100, 101, 114, 101, 100, 68, 105, 99, 116]⟩ 262), (.type "collections.OrderedDict")⟩] 12), #[]⟩
noncomputable def xB_13 (P : Params) : Obj := ⟨(.type "module"), (some 12), .plain, #[]⟩
noncomputable def xB_14 (P : Params) : Obj := ⟨(.type "dict"), none, (.dict #[⟨PyData.keyHash P ⟨#[95, 95, 109, 111, 100, 117, 108, 101, 95, 95]⟩, (.str ⟨#[95, 95, 109, 111, 100, 117, 108, 101, 95, 95]⟩ 191), (.str ⟨#[95, 102, 114, 111, 122, 101, 110, 95, 105, 109, 112, 111, 114, 116, 108, 105, 98]⟩ 188)⟩, ⟨PyData.keyHash P ⟨#[95, 95, 102, 105, 114, 115, 116, 108, 105, 110, 101, 110, 111, 95, 95]⟩, (.str ⟨#[95, 95, 102, 105, 114, 115, 116, 108, 105, 110, 101, 110, 111, 95, 95]⟩ 192), (.int 971 189)⟩, ⟨PyData.keyHash P ⟨#[95, 95, 100, 111, 99, 95, 95]⟩, (.str ⟨#[95, 95, 100, 111, 99, 95, 95]⟩ 193), (.builtin "_frozen_importlib.BuiltinImporter.__doc__:str#opaque")⟩, ⟨PyData.keyHash P ⟨#[95, 79, 82, 73, 71, 73, 78]⟩, (.str ⟨#[95, 79, 82, 73, 71, 73, 78]⟩ 194), (.str ⟨#[98, 117, 105, 108, 116, 45, 105, 110]⟩ 190)⟩, ⟨PyData.keyHash P ⟨#[102, 105, 110, 100, 95, 115, 112, 101, 99]⟩, (.str ⟨#[102, 105, 110, 100, 95, 115, 112, 101, 99]⟩ 195), (.builtin "_frozen_importlib.BuiltinImporter.find_spec#opaque")⟩, ⟨PyData.keyHash P ⟨#[99, 114, 101, 97, 116, 101, 95, 109, 111, 100, 117, 108, 101]⟩, (.str ⟨#[99, 114, 101, 97, 116, 101, 95, 109, 111, 100, 117, 108, 101]⟩ 196), (.builtin "_frozen_importlib.BuiltinImporter.create_module#opaque")⟩, ⟨PyData.keyHash P ⟨#[101, 120, 101, 99, 95, 109, 111, 100, 117, 108, 101]⟩, (.str ⟨#[101, 120, 101, 99, 95, 109, 111, 100, 117, 108, 101]⟩ 197), (.builtin "_frozen_importlib.BuiltinImporter.exec_module#opaque")⟩, ⟨PyData.keyHash P ⟨#[103, 101, 116, 95, 99, 111, 100, 101]⟩, (.str ⟨#[103, 101, 116, 95, 99, 111, 100, 101]⟩ 198), (.builtin "_frozen_importlib.BuiltinImporter.get_code#opaque")⟩, ⟨PyData.keyHash P ⟨#[103, 101, 116, 95, 115, 111, 117, 114, 99, 101]⟩, (.str ⟨#[103, 101, 116, 95, 115, 111, 117, 114, 99, 101]⟩ 199), (.builtin "_frozen_importlib.BuiltinImporter.get_source#opaque")⟩, ⟨PyData.keyHash P ⟨#[105, 115, 95, 112, 97, 99, 107, 97, 103, 101]⟩, (.str ⟨#[105, 115, 95, 112, 97, 99, 107, 97, 103, 101]⟩ 200), (.builtin "_frozen_importlib.BuiltinImporter.is_package#opaque")⟩, ⟨PyData.keyHash P ⟨#[108, 111, 97, 100, 95, 109, 111, 100, 117, 108, 101]⟩, (.str ⟨#[108, 111, 97, 100, 95, 109, 111, 100, 117, 108, 101]⟩ 201), (.builtin "_frozen_importlib.BuiltinImporter.load_module#opaque")⟩, ⟨PyData.keyHash P ⟨#[95, 95, 115, 116, 97, 116, 105, 99, 95, 97, 116, 116, 114, 105, 98, 117, 116, 101, 115, 95, 95]⟩, (.str ⟨#[95, 95, 115, 116, 97, 116, 105, 99, 95, 97, 116, 116, 114, 105, 98, 117, 116, 101, 115, 95, 95]⟩ 202), (.ref 16)⟩, ⟨PyData.keyHash P ⟨#[95, 95, 100, 105, 99, 116, 95, 95]⟩, (.str ⟨#[95, 95, 100, 105, 99, 116, 95, 95]⟩ 204), (.ref 17)⟩, ⟨PyData.keyHash P ⟨#[95, 95, 119, 101, 97, 107, 114, 101, 102, 95, 95]⟩, (.str ⟨#[95, 95, 119, 101, 97, 107, 114, 101, 102, 95, 95]⟩ 206), (.ref 18)⟩] 14), #[]⟩
noncomputable def xB_15 (P : Params) : Obj := ⟨(.type "type"), none, (.cls { name := ⟨#[66, 117, 105, 108, 116, 105, 110, 73, 109, 112, 111, 114, 116, 101, 114]⟩, bases := [(.type "object")], mro := [(.ref 15), (.type "object")], ns := 14, qualname := ⟨#[66, 117, 105, 108, 116, 105, 110, 73, 109, 112, 111, 114, 116, 101, 114]⟩, hasDict := true, slotNames := [], subclasses := [], abstract := false, collection := none, hasDel := false }), #[]⟩
noncomputable def xB_16 (P : Params) : Obj := ⟨(.type "tuple"), none, (.seq #[] 0), #[]⟩
noncomputable def xB_17 (P : Params) : Obj := ⟨(.type "getset_descriptor"), none, (.fields #[(.str ⟨#[95, 95, 100, 105, 99, 116, 95, 95]⟩ 203), (.ref 15), (.builtin "function.__dict__"), (.builtin "function.__dict__#set")]), #[]⟩
noncomputable def xB_18 (P : Params) : Obj := ⟨(.type "getset_descriptor"), none, (.fields #[(.str ⟨#[95, 95, 119, 101, 97, 107, 114, 101, 102, 95, 95]⟩ 205), (.ref 15), (.builtin "ExceptionGroup.__weakref__"), .none]), #[]⟩
noncomputable def xB_19 (P : Params) : Obj := ⟨.none, none, (.seq #[(.int 14 0), (.str ⟨#[6, 191, 10, 95, 95, 109, 111, 100, 117, 108, 101, 95, 95, 6, 188, 17, 95, 102, 114, 111, 122, 101, 110, 95, 105, 109, 112, 111, 114, 116, 108, 105, 98, 6, 192, 15, 95, 95, 102, 105, 114, 115, 116, 108, 105, 110, 101, 110, 111, 95, 95, 4, 189, 0, 971, 6, 193, 7, 95, 95, 100, 111, 99, 95, 95, 9, 52, 95, 102, 114, 111, 122, 101, 110, 95, 105, 109, 112, 111, 114, 116, 108, 105, 98, 46, 66, 117, 105, 108, 116, 105, 110, 73, 109, 112, 111, 114, 116, 101, 114, 46, 95, 95, 100, 111, 99, 95, 95, 58, 115, 116, 114, 35, 111, 112, 97, 113, 117, 101, 6, 194, 7, 95, 79, 82, 73, 71, 73, 78, 6, 190, 8, 98, 117, 105, 108, 116, 45, 105, 110, 6, 195, 9, 102, 105, 110, 100, 95, 115, 112, 101, 99, 9, 50, 95, 102, 114, 111, 122, 101, 110, 95, 105, 109, 112, 111, 114, 116, 108, 105, 98, 46, 66, 117, 105, 108, 116, 105, 110, 73, 109, 112, 111, 114, 116, 101, 114, 46, 102, 105, 110, 100, 95, 115, 112, 101, 99, 35, 111, 112, 97, 113, 117, 101, 6, 196, 13, 99, 114, 101, 97, 116, 101, 95, 109, 111, 100, 117, 108, 101, 9, 54, 95, 102, 114, 111, 122, 101, 110, 95, 105, 109, 112, 111, 114, 116, 108, 105, 98, 46, 66, 117, 105, 108, 116, 105, 110, 73, 109, 112, 111, 114, 116, 101, 114, 46, 99, 114, 101, 97, 116, 101, 95, 109, 111, 100, 117, 108, 101, 35, 111, 112, 97, 113, 117, 101, 6, 197, 11, 101, 120, 101, 99, 95, 109, 111, 100, 117, 108, 101, 9, 52, 95, 102, 114, 111, 122, 101, 110, 95, 105, 109, 112, 111, 114, 116, 108, 105, 98, 46, 66, 117, 105, 108, 116, 105, 110, 73, 109, 112, 111, 114, 116, 101, 114, 46, 101, 120, 101, 99, 95, 109, 111, 100, 117, 108, 101, 35, 111, 112, 97, 113, 117, 101, 6, 198, 8, 103, 101, 116, 95, 99, 111, 100, 101, 9, 49, 95, 102, 114, 111, 122, 101, 110, 95, 105, 109, 112, 111, 114, 116, 108, 105, 98, 46, 66, 117, 105, 108, 116, 105, 110, 73, 109, 112, 111, 114, 116, 101, 114, 46, 103, 101, 116, 95, 99, 111, 100, 101, 35, 111, 112, 97, 113, 117, 101, 6, 199, 10, 103, 101, 116, 95, 115, 111, 117, 114, 99, 101, 9, 51, 95, 102, 114, 111, 122, 101, 110, 95, 105, 109, 112, 111, 114, 116, 108, 105, 98, 46, 66, 117, 105, 108, 116, 105, 110, 73, 109, 112, 111, 114, 116, 101, 114, 46, 103, 101, 116, 95, 115, 111, 117, 114, 99, 101, 35, 111, 112, 97, 113, 117, 101, 6, 200, 10, 105, 115, 95, 112, 97, 99, 107, 97, 103, 101, 9, 51, 95, 102, 114, 111, 122, 101, 110, 95, 105, 109, 112, 111, 114, 116, 108, 105, 98, 46, 66, 117, 105, 108, 116, 105, 110, 73, 109, 112, 111, 114, 116, 101, 114, 46, 105, 115, 95, 112, 97, 99, 107, 97, 103, 101, 35, 111, 112, 97, 113, 117, 101, 6, 201, 11, 108, 111, 97, 100, 95, 109, 111, 100, 117, 108, 101, 9, 52, 95, 102, 114, 111, 122, 101, 110, 95, 105, 109, 112, 111, 114, 116, 108, 105, 98, 46, 66, 117, 105, 108, 116, 105, 110, 73, 109, 112, 111, 114, 116, 101, 114, 46, 108, 111, 97, 100, 95, 109, 111, 100, 117, 108, 101, 35, 111, 112, 97, 113, 117, 101, 6, 202, 21, 95, 95, 115, 116, 97, 116, 105, 99, 95, 97, 116, 116, 114, 105, 98, 117, 116, 101, 115, 95, 95, 4, 0, 0, 16, 6, 204, 8, 95, 95, 100, 105, 99, 116, 95, 95, 4, 0, 0, 17, 6, 206, 11, 95, 95, 119, 101, 97, 107, 114, 101, 102, 95, 95, 4, 0, 0, 18]⟩ 0), (.bool true), (.bool true), (.str ⟨#[]⟩ 207), (.int 22 0), (.str ⟨#[6, 229, 10, 95, 95, 109, 111, 100, 117, 108, 101, 95, 95, 6, 219, 17, 95, 102, 114, 111, 122, 101, 110, 95, 105, 109, 112, 111, 114, 116, 108, 105, 98, 6, 230, 15, 95, 95, 102, 105, 114, 115, 116, 108, 105, 110, 101, 110, 111, 95, 95, 4, 220, 0, 562, 6, 231, 7, 95, 95, 100, 111, 99, 95, 95, 9, 47, 95, 102, 114, 111, 122, 101, 110, 95, 105, 109, 112, 111, 114, 116, 108, 105, 98, 46, 77, 111, 100, 117, 108, 101, 83, 112, 101, 99, 46, 95, 95, 100, 111, 99, 95, 95, 58, 115, 116, 114, 35, 111, 112, 97, 113, 117, 101, 6, 232, 8, 95, 95, 105, 110, 105, 116, 95, 95, 9, 44, 95, 102, 114, 111, 122, 101, 110, 95, 105, 109, 112, 111, 114, 116, 108, 105, 98, 46, 77, 111, 100, 117, 108, 101, 83, 112, 101, 99, 46, 95, 95, 105, 110, 105, 116, 95, 95, 35, 111, 112, 97, 113, 117, 101, 6, 233, 8, 95, 95, 114, 101, 112, 114, 95, 95, 9, 44, 95, 102, 114, 111, 122, 101, 110, 95, 105, 109, 112, 111, 114, 116, 108, 105, 98, 46, 77, 111, 100, 117, 108, 101, 83, 112, 101, 99, 46, 95, 95, 114, 101, 112, 114, 95, 95, 35, 111, 112, 97, 113, 117, 101, 6, 234, 6, 95, 95, 101, 113, 95, 95, 9, 42, 95, 102, 114, 111, 122, 101, 110, 95, 105, 109, 112, 111, 114, 116, 108, 105, 98, 46, 77, 111, 100, 117, 108, 101, 83, 112, 101, 99, 46, 95, 95, 101, 113, 95, 95, 35, 111, 112, 97, 113, 117, 101, 6, 235, 6, 99, 97, 99, 104, 101, 100, 9, 42, 95, 102, 114, 111, 122, 101, 110, 95, 105, 109, 112, 111, 114, 116, 108, 105, 98, 46, 77, 111, 100, 117, 108, 101, 83, 112, 101, 99, 46, 99, 97, 99, 104, 101, 100, 35, 111, 112, 97, 113, 117, 101, 6, 236, 6, 112, 97, 114, 101, 110, 116, 9, 42, 95, 102, 114, 111, 122, 101, 110, 95, 105, 109, 112, 111, 114, 116, 108, 105, 98, 46, 77, 111, 100, 117, 108, 101, 83, 112, 101, 99, 46, 112, 97, 114, 101, 110, 116, 35, 111, 112, 97, 113, 117, 101, 6, 237, 12, 104, 97, 115, 95, 108, 111, 99, 97, 116, 105, 111, 110, 9, 48, 95, 102, 114, 111, 122, 101, 110, 95, 105, 109, 112, 111, 114, 116, 108, 105, 98, 46, 77, 111, 100, 117, 108, 101, 83, 112, 101, 99, 46, 104, 97, 115, 95, 108, 111, 99, 97, 116, 105, 111, 110, 35, 111, 112, 97, 113, 117, 101, 6, 238, 21, 95, 95, 115, 116, 97, 116, 105, 99, 95, 97, 116, 116, 114, 105, 98, 117, 116, 101, 115, 95, 95, 4, 0, 0, 24, 6, 240, 8, 95, 95, 100, 105, 99, 116, 95, 95, 4, 0, 0, 25, 6, 242, 11, 95, 95, 119, 101, 97, 107, 114, 101, 102, 95, 95, 4, 0, 0, 26, 6, 243, 8, 95, 95, 104, 97, 115, 104, 95, 95, 0]⟩ 0), (.bool true), (.bool true), (.str ⟨#[]⟩ 244)] 1), #[]⟩
noncomputable def xB_20 (P : Params) : Obj := ⟨(.type "list"), none, (.seq #[] 0), #[]⟩
noncomputable def xB_21 (P : Params) : Obj := ⟨(.type "dict"), none, (.dict #[⟨PyData.keyHash P ⟨#[110, 97, 109, 101]⟩, (.str ⟨#[110, 97, 109, 101]⟩ 210), (.str ⟨#[95, 99, 111, 108, 108, 101, 99, 116, 105, 111, 110, 115]⟩ 209)⟩, ⟨PyData.keyHash P ⟨#[108, 111, 97, 100, 101, 114]⟩, (.str ⟨#[108, 111, 97, 100, 101, 114]⟩ 211), (.ref 15)⟩, ⟨PyData.keyHash P ⟨#[111, 114, 105, 103, 105, 110]⟩, (.str ⟨#[111, 114, 105, 103, 105, 110]⟩ 212), (.str ⟨#[98, 117, 105, 108, 116, 45, 105, 110]⟩ 186)⟩, ⟨PyData.keyHash P ⟨#[108, 111, 97, 100, 101, 114, 95, 115, 116, 97, 116, 101]⟩, (.str ⟨#[108, 111, 97, 100, 101, 114, 95, 115, 116, 97, 116, 101]⟩ 213), .none⟩, ⟨PyData.keyHash P ⟨#[115, 117, 98, 109, 111, 100, 117, 108, 101, 95, 115, 101, 97, 114, 99, 104, 95, 108, 111, 99, 97, 116, 105, 111, 110, 115]⟩, (.str ⟨#[115, 117, 98, 109, 111, 100, 117, 108, 101, 95, 115, 101, 97, 114, 99, 104, 95, 108, 111, 99, 97, 116, 105, 111, 110, 115]⟩ 214), .none⟩, ⟨PyData.keyHash P ⟨#[95, 117, 110, 105, 110, 105, 116, 105, 97, 108, 105, 122, 101, 100, 95, 115, 117, 98, 109, 111, 100, 117, 108, 101, 115]⟩, (.str ⟨#[95, 117, 110, 105, 110, 105, 116, 105, 97, 108, 105, 122, 101, 100, 95, 115, 117, 98, 109, 111, 100, 117, 108, 101, 115]⟩ 215), (.ref 20)⟩, ⟨PyData.keyHash P ⟨#[95, 115, 101, 116, 95, 102, 105, 108, 101, 97, 116, 116, 114]⟩, (.str ⟨#[95, 115, 101, 116, 95, 102, 105, 108, 101, 97, 116, 116, 114]⟩ 216), (.bool false)⟩, ⟨PyData.keyHash P ⟨#[95, 99, 97, 99, 104, 101, 100]⟩, (.str ⟨#[95, 99, 97, 99, 104, 101, 100]⟩ 217), .none⟩, ⟨PyData.keyHash P ⟨#[95, 105, 110, 105, 116, 105, 97, 108, 105, 122, 105, 110, 103]⟩, (.str ⟨#[95, 105, 110, 105, 116, 105, 97, 108, 105, 122, 105, 110, 103]⟩ 245), (.bool false)⟩] 9), #[]⟩
noncomputable def xB_22 (P : Params) : Obj := ⟨(.type "dict"), none, (.dict #[⟨PyData.keyHash P ⟨#[95, 95, 109, 111, 100, 117, 108, 101, 95, 95]⟩, (.str ⟨#[95, 95, 109, 111, 100, 117, 108, 101, 95, 95]⟩ 229), (.str ⟨#[95, 102, 114, 111, 122, 101, 110, 95, 105, 109, 112, 111, 114, 116, 108, 105, 98]⟩ 219)⟩, ⟨PyData.keyHash P ⟨#[95, 95, 102, 105, 114, 115, 116, 108, 105, 110, 101, 110, 111, 95, 95]⟩, (.str ⟨#[95, 95, 102, 105, 114, 115, 116, 108, 105, 110, 101, 110, 111, 95, 95]⟩ 230), (.int 562 220)⟩, ⟨PyData.keyHash P ⟨#[95, 95, 100, 111, 99, 95, 95]⟩, (.str ⟨#[95, 95, 100, 111, 99, 95, 95]⟩ 231), (.builtin "_frozen_importlib.ModuleSpec.__doc__:str#opaque")⟩, ⟨PyData.keyHash P ⟨#[95, 95, 105, 110, 105, 116, 95, 95]⟩, (.str ⟨#[95, 95, 105, 110, 105, 116, 95, 95]⟩ 232), (.builtin "_frozen_importlib.ModuleSpec.__init__#opaque")⟩, ⟨PyData.keyHash P ⟨#[95, 95, 114, 101, 112, 114, 95, 95]⟩, (.str ⟨#[95, 95, 114, 101, 112, 114, 95, 95]⟩ 233), (.builtin "_frozen_importlib.ModuleSpec.__repr__#opaque")⟩, ⟨PyData.keyHash P ⟨#[95, 95, 101, 113, 95, 95]⟩, (.str ⟨#[95, 95, 101, 113, 95, 95]⟩ 234), (.builtin "_frozen_importlib.ModuleSpec.__eq__#opaque")⟩, ⟨PyData.keyHash P ⟨#[99, 97, 99, 104, 101, 100]⟩, (.str ⟨#[99, 97, 99, 104, 101, 100]⟩ 235), (.builtin "_frozen_importlib.ModuleSpec.cached#opaque")⟩, ⟨PyData.keyHash P ⟨#[112, 97, 114, 101, 110, 116]⟩, (.str ⟨#[112, 97, 114, 101, 110, 116]⟩ 236), (.builtin "_frozen_importlib.ModuleSpec.parent#opaque")⟩, ⟨PyData.keyHash P ⟨#[104, 97, 115, 95, 108, 111, 99, 97, 116, 105, 111, 110]⟩, (.str ⟨#[104, 97, 115, 95, 108, 111, 99, 97, 116, 105, 111, 110]⟩ 237), (.builtin "_frozen_importlib.ModuleSpec.has_location#opaque")⟩, ⟨PyData.keyHash P ⟨#[95, 95, 115, 116, 97, 116, 105, 99, 95, 97, 116, 116, 114, 105, 98, 117, 116, 101, 115, 95, 95]⟩, (.str ⟨#[95, 95, 115, 116, 97, 116, 105, 99, 95, 97, 116, 116, 114, 105, 98, 117, 116, 101, 115, 95, 95]⟩ 238), (.ref 24)⟩, ⟨PyData.keyHash P ⟨#[95, 95, 100, 105, 99, 116, 95, 95]⟩, (.str ⟨#[95, 95, 100, 105, 99, 116, 95, 95]⟩ 240), (.ref 25)⟩, ⟨PyData.keyHash P ⟨#[95, 95, 119, 101, 97, 107, 114, 101, 102, 95, 95]⟩, (.str ⟨#[95, 95, 119, 101, 97, 107, 114, 101, 102, 95, 95]⟩ 242), (.ref 26)⟩, ⟨PyData.keyHash P ⟨#[95, 95, 104, 97, 115, 104, 95, 95]⟩, (.str ⟨#[95, 95, 104, 97, 115, 104, 95, 95]⟩ 243), .none⟩] 13), #[]⟩
noncomputable def xB_23 (P : Params) : Obj := ⟨(.type "type"), none, (.cls { name := ⟨#[77, 111, 100, 117, 108, 101, 83, 112, 101, 99]⟩, bases := [(.type "object")], mro := [(.ref 23), (.type "object")], ns := 22, qualname := ⟨#[77, 111, 100, 117, 108, 101, 83, 112, 101, 99]⟩, hasDict := true, slotNames := [], subclasses := [], abstract := false, collection := none, hasDel := false }), #[]⟩
noncomputable def xB_24 (P : Params) : Obj := ⟨(.type "tuple"), none, (.seq #[(.str ⟨#[95, 99, 97, 99, 104, 101, 100]⟩ 221), (.str ⟨#[95, 115, 101, 116, 95, 102, 105, 108, 101, 97, 116, 116, 114]⟩ 222), (.str ⟨#[95, 117, 110, 105, 110, 105, 116, 105, 97, 108, 105, 122, 101, 100, 95, 115, 117, 98, 109, 111, 100, 117, 108, 101, 115]⟩ 223), (.str ⟨#[108, 111, 97, 100, 101, 114]⟩ 224), (.str ⟨#[108, 111, 97, 100, 101, 114, 95, 115, 116, 97, 116, 101]⟩ 225), (.str ⟨#[110, 97, 109, 101]⟩ 226), (.str ⟨#[111, 114, 105, 103, 105, 110]⟩ 227), (.str ⟨#[115, 117, 98, 109, 111, 100, 117, 108, 101, 95, 115, 101, 97, 114, 99, 104, 95, 108, 111, 99, 97, 116, 105, 111, 110, 115]⟩ 228)] 0), #[]⟩
noncomputable def xB_25 (P : Params) : Obj := ⟨(.type "getset_descriptor"), none, (.fields #[(.str ⟨#[95, 95, 100, 105, 99, 116, 95, 95]⟩ 239), (.ref 23), (.builtin "function.__dict__"), (.builtin "function.__dict__#set")]), #[]⟩
noncomputable def xB_26 (P : Params) : Obj := ⟨(.type "getset_descriptor"), none, (.fields #[(.str ⟨#[95, 95, 119, 101, 97, 107, 114, 101, 102, 95, 95]⟩ 241), (.ref 23), (.builtin "ExceptionGroup.__weakref__"), .none]), #[]⟩
noncomputable def xB_27 (P : Params) : Obj := ⟨(.ref 23), (some 21), .plain, #[]⟩
noncomputable def xB_28 (P : Params) : Obj := ⟨.none, none, (.seq #[(.int 12 0), (.str ⟨#[6, 250, 8, 95, 95, 110, 97, 109, 101, 95, 95, 6, 249, 12, 95, 99, 111, 108, 108, 101, 99, 116, 105, 111, 110, 115, 6, 251, 7, 95, 95, 100, 111, 99, 95, 95, 9, 31, 95, 99, 111, 108, 108, 101, 99, 116, 105, 111, 110, 115, 46, 95, 95, 100, 111, 99, 95, 95, 58, 115, 116, 114, 35, 111, 112, 97, 113, 117, 101, 6, 253, 11, 95, 95, 112, 97, 99, 107, 97, 103, 101, 95, 95, 6, 252, 0, 6, 254, 10, 95, 95, 108, 111, 97, 100, 101, 114, 95, 95, 4, 0, 0, 15, 6, 255, 8, 95, 95, 115, 112, 101, 99, 95, 95, 4, 0, 0, 27, 6, 256, 15, 95, 99, 111, 117, 110, 116, 95, 101, 108, 101, 109, 101, 110, 116, 115, 9, 28, 95, 99, 111, 108, 108, 101, 99, 116, 105, 111, 110, 115, 46, 95, 99, 111, 117, 110, 116, 95, 101, 108, 101, 109, 101, 110, 116, 115, 6, 257, 5, 100, 101, 113, 117, 101, 8, 17, 99, 111, 108, 108, 101, 99, 116, 105, 111, 110, 115, 46, 100, 101, 113, 117, 101, 6, 258, 11, 100, 101, 102, 97, 117, 108, 116, 100, 105, 99, 116, 8, 23, 99, 111, 108, 108, 101, 99, 116, 105, 111, 110, 115, 46, 100, 101, 102, 97, 117, 108, 116, 100, 105, 99, 116, 6, 259, 15, 95, 100, 101, 113, 117, 101, 95, 105, 116, 101, 114, 97, 116, 111, 114, 8, 27, 99, 111, 108, 108, 101, 99, 116, 105, 111, 110, 115, 46, 95, 100, 101, 113, 117, 101, 95, 105, 116, 101, 114, 97, 116, 111, 114, 6, 260, 23, 95, 100, 101, 113, 117, 101, 95, 114, 101, 118, 101, 114, 115, 101, 95, 105, 116, 101, 114, 97, 116, 111, 114, 8, 35, 99, 111, 108, 108, 101, 99, 116, 105, 111, 110, 115, 46, 95, 100, 101, 113, 117, 101, 95, 114, 101, 118, 101, 114, 115, 101, 95, 105, 116, 101, 114, 97, 116, 111, 114, 6, 261, 12, 95, 116, 117, 112, 108, 101, 103, 101, 116, 116, 101, 114, 8, 24, 99, 111, 108, 108, 101, 99, 116, 105, 111, 110, 115, 46, 95, 116, 117, 112, 108, 101, 103, 101, 116, 116, 101, 114, 6, 262, 11, 79, 114, 100, 101, 114, 101, 100, 68, 105, 99, 116, 8, 23, 99, 111, 108, 108, 101, 99, 116, 105, 111, 110, 115, 46, 79, 114, 100, 101, 114, 101, 100, 68, 105, 99, 116]⟩ 0), (.bool true), (.bool false), (.str ⟨#[95, 99, 111, 108, 108, 101, 99, 116, 105, 111, 110, 115]⟩ 264)] 0), #[]⟩
noncomputable def xB_29 (P : Params) : Obj := ⟨(.type "tuple"), none, (.seq #[] 0), #[]⟩
noncomputable def xB_30 (P : Params) : Obj := ⟨.none, none, (.fields #[]), #[]⟩
noncomputable def xB_31 (P : Params) : Obj := ⟨(.type "code"), none, (.fields #[(.str ⟨#[60, 109, 111, 100, 117, 108, 101, 62]⟩ 274), (.str ⟨#[60, 109, 111, 100, 117, 108, 101, 62]⟩ 275), (.str ⟨#[47, 99, 108, 97, 105, 109, 47, 99, 117, 116, 46, 112, 121]⟩ 276), (.int 1 0), (.int 0 0), (.int 0 0), (.int 0 0), (.int 0 0), (.ref 29), (.bool false), (.int 273 0), (.ref 30), .none, .none, .none, .none, (.int 277 0), (.int 1 0), (.str ⟨#[47, 99, 108, 97, 105, 109, 47, 99, 117, 116, 46, 112, 121]⟩ 278)]), #[]⟩
noncomputable def xB_32 (P : Params) : Obj := ⟨(.type "frame"), none, .plain, #[(some (.ref 31)), (some (.ref 3)), (some (.ref 3)), none, (some (.str ⟨#[95, 95, 109, 97, 105, 110, 95, 95]⟩ 164)), none, (some (.ref 0))]⟩
noncomputable def treeB (P : Params) : BT := (.node (xB_0 P) (.node (xB_1 P) (.node (xB_3 P) (.node (xB_7 P) (.node (xB_15 P) (.node (xB_31 P) .nil .nil) .nil) (.node (xB_23 P) .nil .nil)) (.node (xB_11 P) (.node (xB_19 P) .nil .nil) (.node (xB_27 P) .nil .nil))) (.node (xB_5 P) (.node (xB_9 P) (.node (xB_17 P) .nil .nil) (.node (xB_25 P) .nil .nil)) (.node (xB_13 P) (.node (xB_21 P) .nil .nil) (.node (xB_29 P) .nil .nil)))) (.node (xB_2 P) (.node (xB_4 P) (.node (xB_8 P) (.node (xB_16 P) (.node (xB_32 P) .nil .nil) .nil) (.node (xB_24 P) .nil .nil)) (.node (xB_12 P) (.node (xB_20 P) .nil .nil) (.node (xB_28 P) .nil .nil))) (.node (xB_6 P) (.node (xB_10 P) (.node (xB_18 P) .nil .nil) (.node (xB_26 P) .nil .nil)) (.node (xB_14 P) (.node (xB_22 P) .nil .nil) (.node (xB_30 P) .nil .nil)))))
noncomputable def xK_2 (P : Params) : Obj := ⟨.none, none, (.dict #[⟨PyData.keyHash P ⟨#[105, 109, 112, 111, 114, 116, 46, 108, 111, 97, 100, 101, 100, 46, 95, 99, 111, 108, 108, 101, 99, 116, 105, 111, 110, 115]⟩, (.str ⟨#[105, 109, 112, 111, 114, 116, 46, 108, 111, 97, 100, 101, 100, 46, 95, 99, 111, 108, 108, 101, 99, 116, 105, 111, 110, 115]⟩ 185), (.bool true)⟩, ⟨PyData.keyHash P ⟨#[99, 108, 97, 115, 115, 46, 95, 102, 114, 111, 122, 101, 110, 95, 105, 109, 112, 111, 114, 116, 108, 105, 98, 46, 66, 117, 105, 108, 116, 105, 110, 73, 109, 112, 111, 114, 116, 101, 114]⟩, (.str ⟨#[99, 108, 97, 115, 115, 46, 95, 102, 114, 111, 122, 101, 110, 95, 105, 109, 112, 111, 114, 116, 108, 105, 98, 46, 66, 117, 105, 108, 116, 105, 110, 73, 109, 112, 111, 114, 116, 101, 114]⟩ 187), (.ref 15)⟩, ⟨PyData.keyHash P ⟨#[119, 97, 116, 99, 104, 101, 100, 46, 105, 109, 112, 111, 114, 116]⟩, (.str ⟨#[119, 97, 116, 99, 104, 101, 100, 46, 105, 109, 112, 111, 114, 116]⟩ 208), (.ref 19)⟩, ⟨PyData.keyHash P ⟨#[99, 108, 97, 115, 115, 46, 95, 102, 114, 111, 122, 101, 110, 95, 105, 109, 112, 111, 114, 116, 108, 105, 98, 46, 77, 111, 100, 117, 108, 101, 83, 112, 101, 99]⟩, (.str ⟨#[99, 108, 97, 115, 115, 46, 95, 102, 114, 111, 122, 101, 110, 95, 105, 109, 112, 111, 114, 116, 108, 105, 98, 46, 77, 111, 100, 117, 108, 101, 83, 112, 101, 99]⟩ 218), (.ref 23)⟩, ⟨PyData.keyHash P (Str.ofString "sys.modules.booked-epoch"), (.str (Str.ofString "sys.modules.booked-epoch") 247), (.int 3 0)⟩, ⟨PyData.keyHash P (Str.ofString "sys.modules.landed._collections"), (.str (Str.ofString "sys.modules.landed._collections") 248), (.bool true)⟩, ⟨PyData.keyHash P ⟨#[105, 109, 112, 111, 114, 116, 46, 108, 97, 116, 101, 114, 45, 108, 97, 105, 100, 46, 95, 99, 111, 108, 108, 101, 99, 116, 105, 111, 110, 115]⟩, (.str ⟨#[105, 109, 112, 111, 114, 116, 46, 108, 97, 116, 101, 114, 45, 108, 97, 105, 100, 46, 95, 99, 111, 108, 108, 101, 99, 116, 105, 111, 110, 115]⟩ 263), (.bool true)⟩, ⟨PyData.keyHash P (Str.ofString "watched.library"), (.str (Str.ofString "watched.library") 265), (.ref 28)⟩, ⟨PyData.keyHash P (Str.ofString "watched.library-objects"), (.str (Str.ofString "watched.library-objects") 0), (.str ⟨#[13]⟩ 0)⟩, ⟨PyData.keyHash P (Str.ofString "watched.library-deep._collections"), (.str (Str.ofString "watched.library-deep._collections") 266), (.str ⟨#[4, 0, 0, 12, 4, 0, 0, 12, 4, 0, 0, 3, 4, 0, 0, 12, 8, 4, 100, 105, 99, 116, 2]⟩ 0)⟩, ⟨PyData.keyHash P (Str.ofString "type.__subclasses__.Exception.0"), (.str (Str.ofString "type.__subclasses__.Exception.0") 297), (.int 42 0)⟩, ⟨PyData.keyHash P (Str.ofString "type.__subclasses__.Exception.n"), (.str (Str.ofString "type.__subclasses__.Exception.n") 298), (.int 1 0)⟩] 12), #[]⟩
noncomputable def xK_3 (P : Params) : Obj := ⟨(.type "dict"), none, (.dict #[⟨PyData.keyHash P (Str.ofString "__name__"), (.str (Str.ofString "__name__") 165), (.str (Str.ofString "hpack.table") 349)⟩, ⟨PyData.keyHash P (Str.ofString "__doc__"), (.str (Str.ofString "__doc__") 166), .none⟩, ⟨PyData.keyHash P (Str.ofString "__package__"), (.str (Str.ofString "__package__") 167), .none⟩, ⟨PyData.keyHash P (Str.ofString "__loader__"), (.str (Str.ofString "__loader__") 168), (.builtin "__main__.__loader__#opaque")⟩, ⟨PyData.keyHash P (Str.ofString "__spec__"), (.str (Str.ofString "__spec__") 169), .none⟩, ⟨PyData.keyHash P (Str.ofString "__annotations__"), (.str (Str.ofString "__annotations__") 170), (.ref 6)⟩, ⟨PyData.keyHash P (Str.ofString "__builtins__"), (.str (Str.ofString "__builtins__") 171), (.ref 4)⟩, ⟨PyData.keyHash P (Str.ofString "__file__"), (.str (Str.ofString "__file__") 173), (.str (Str.ofString "/claim/cut.py") 172)⟩, ⟨PyData.keyHash P (Str.ofString "__cached__"), (.str (Str.ofString "__cached__") 174), .none⟩, ⟨PyData.keyHash P (Str.ofString "deque"), (.str (Str.ofString "deque") 272), (.type "collections.deque")⟩, ⟨PyData.keyHash P (Str.ofString "HPACKError"), (.str (Str.ofString "HPACKError") 300), (.ref 42)⟩, ⟨PyData.keyHash P (Str.ofString "HPACKDecodingError"), (.str (Str.ofString "HPACKDecodingError") 316), (.ref 55)⟩, ⟨PyData.keyHash P (Str.ofString "InvalidTableIndexError"), (.str (Str.ofString "InvalidTableIndexError") 332), (.ref 67)⟩, ⟨PyData.keyHash P (Str.ofString "InvalidTableIndex"), (.str (Str.ofString "InvalidTableIndex") 348), (.ref 79)⟩, ⟨PyData.keyHash P (Str.ofString "table_entry_size"), (.str (Str.ofString "table_entry_size") 358), (.ref 88)⟩, ⟨PyData.keyHash P (Str.ofString "HeaderTable"), (.str (Str.ofString "HeaderTable") 588), (.ref 219)⟩, ⟨PyData.keyHash P (Str.ofString "_build_static_table_mapping"), (.str (Str.ofString "_build_static_table_mapping") 599), (.ref 230)⟩] 17), #[]⟩
noncomputable def xK_30 (P : Params) : Obj := ⟨.none, none, (.fields #[(.int 3 0), (.int 0 0), (.ref 38), (.int 5 0), (.int 0 0), (.ref 51), (.int 7 0), (.int 0 0), (.ref 63), (.int 9 0), (.int 0 0), (.ref 75), (.int 12 0), (.int 0 0), (.ref 87), (.int 14 0), (.int 0 0), (.ref 94), (.int 89 0), (.int 0 0), (.ref 229)]), #[]⟩
noncomputable def xK_33 (P : Params) : Obj := ⟨(.type "tuple"), none, (.seq #[(.type "Exception")] 0), #[]⟩
noncomputable def xK_34 (P : Params) : Obj := ⟨(.type "builtin_function_or_method"), none, (.fields #[(.builtin "type.__prepare__"), (.type "type")]), #[]⟩
noncomputable def xK_35 (P : Params) : Obj := ⟨(.type "dict"), none, (.dict #[⟨PyData.keyHash P (Str.ofString "__module__"), (.str (Str.ofString "__module__") 288), (.str (Str.ofString "hpack.exceptions") 279)⟩, ⟨PyData.keyHash P (Str.ofString "__qualname__"), (.str (Str.ofString "__qualname__") 290), (.str (Str.ofString "HPACKError") 289)⟩, ⟨PyData.keyHash P (Str.ofString "__firstlineno__"), (.str (Str.ofString "__firstlineno__") 292), (.int 3 291)⟩, ⟨PyData.keyHash P (Str.ofString "__static_attributes__"), (.str (Str.ofString "__static_attributes__") 293), (.ref 40)⟩] 4), #[]⟩
noncomputable def xK_36 (P : Params) : Obj := ⟨(.type "tuple"), none, (.seq #[] 0), #[]⟩
noncomputable def xK_37 (P : Params) : Obj := ⟨.none, none, (.fields #[]), #[]⟩
noncomputable def xK_38 (P : Params) : Obj := ⟨(.type "code"), none, (.fields #[(.str (Str.ofString "HPACKError") 283), (.str (Str.ofString "HPACKError") 284), (.str (Str.ofString "/claim/cut.py") 285), (.int 3 0), (.int 0 0), (.int 0 0), (.int 0 0), (.int 0 0), (.ref 36), (.bool false), (.int 273 0), (.ref 37), .none, .none, .none, .none, (.int 286 0), (.int 3 0), (.str (Str.ofString "/claim/cut.py") 287)]), #[]⟩
noncomputable def xK_39 (P : Params) : Obj := ⟨(.type "frame"), none, .plain, #[(some (.ref 38)), (some (.ref 3)), (some (.ref 35)), none, (some (.str (Str.ofString "hpack.exceptions") 279)), none, (some (.ref 0))]⟩
noncomputable def xK_40 (P : Params) : Obj := ⟨(.type "tuple"), none, (.seq #[] 0), #[]⟩
noncomputable def xK_41 (P : Params) : Obj := ⟨(.type "dict"), none, (.dict #[⟨PyData.keyHash P (Str.ofString "__module__"), (.str (Str.ofString "__module__") 288), (.str (Str.ofString "hpack.exceptions") 279)⟩, ⟨PyData.keyHash P (Str.ofString "__firstlineno__"), (.str (Str.ofString "__firstlineno__") 292), (.int 3 291)⟩, ⟨PyData.keyHash P (Str.ofString "__static_attributes__"), (.str (Str.ofString "__static_attributes__") 293), (.ref 40)⟩, ⟨PyData.keyHash P (Str.ofString "__weakref__"), (.str (Str.ofString "__weakref__") 295), (.ref 43)⟩, ⟨PyData.keyHash P (Str.ofString "__doc__"), (.str (Str.ofString "__doc__") 296), .none⟩] 3), #[]⟩
noncomputable def xK_42 (P : Params) : Obj := ⟨(.type "type"), none, (.cls { name := (Str.ofString "HPACKError"), bases := [(.type "Exception")], mro := [(.ref 42), (.type "Exception"), (.type "BaseException"), (.type "object")], ns := 41, qualname := (Str.ofString "HPACKError"), hasDict := true, slotNames := [], subclasses := [(.ref 55)], abstract := false, collection := none, hasDel := false }), #[(some (.ref 33)), none, (some (.str (Str.ofString "HPACKError") 281)), (some (.str (Str.ofString "HPACKError") 289)), (some (.builtin "Exception.__new__")), (some (.bool true))]⟩
noncomputable def xK_43 (P : Params) : Obj := ⟨(.type "getset_descriptor"), none, (.fields #[(.str (Str.ofString "__weakref__") 294), (.ref 42), (.builtin "ExceptionGroup.__weakref__"), .none]), #[]⟩
noncomputable def xK_44 (P : Params) : Obj := ⟨(.type "super"), none, (.fields #[(.ref 42), (.ref 42), (.ref 42)]), #[]⟩
noncomputable def xK_45 (P : Params) : Obj := ⟨(.type "builtin_function_or_method"), none, (.fields #[(.builtin "object.__init_subclass__"), (.ref 42)]), #[]⟩
noncomputable def xK_46 (P : Params) : Obj := ⟨(.type "tuple"), none, (.seq #[(.ref 42)] 0), #[]⟩
noncomputable def xK_47 (P : Params) : Obj := ⟨(.type "builtin_function_or_method"), none, (.fields #[(.builtin "type.__prepare__"), (.type "type")]), #[]⟩
noncomputable def xK_48 (P : Params) : Obj := ⟨(.type "dict"), none, (.dict #[⟨PyData.keyHash P (Str.ofString "__module__"), (.str (Str.ofString "__module__") 308), (.str (Str.ofString "hpack.exceptions") 279)⟩, ⟨PyData.keyHash P (Str.ofString "__qualname__"), (.str (Str.ofString "__qualname__") 310), (.str (Str.ofString "HPACKDecodingError") 309)⟩, ⟨PyData.keyHash P (Str.ofString "__firstlineno__"), (.str (Str.ofString "__firstlineno__") 312), (.int 5 311)⟩, ⟨PyData.keyHash P (Str.ofString "__static_attributes__"), (.str (Str.ofString "__static_attributes__") 313), (.ref 53)⟩] 4), #[]⟩
noncomputable def xK_49 (P : Params) : Obj := ⟨(.type "tuple"), none, (.seq #[] 0), #[]⟩
noncomputable def xK_50 (P : Params) : Obj := ⟨.none, none, (.fields #[]), #[]⟩
noncomputable def xK_51 (P : Params) : Obj := ⟨(.type "code"), none, (.fields #[(.str (Str.ofString "HPACKDecodingError") 303), (.str (Str.ofString "HPACKDecodingError") 304), (.str (Str.ofString "/claim/cut.py") 305), (.int 5 0), (.int 0 0), (.int 0 0), (.int 0 0), (.int 0 0), (.ref 49), (.bool false), (.int 273 0), (.ref 50), .none, .none, .none, .none, (.int 306 0), (.int 5 0), (.str (Str.ofString "/claim/cut.py") 307)]), #[]⟩
noncomputable def xK_52 (P : Params) : Obj := ⟨(.type "frame"), none, .plain, #[(some (.ref 51)), (some (.ref 3)), (some (.ref 48)), none, (some (.str (Str.ofString "hpack.exceptions") 279)), none, (some (.ref 0))]⟩
noncomputable def xK_53 (P : Params) : Obj := ⟨(.type "tuple"), none, (.seq #[] 0), #[]⟩
noncomputable def xK_54 (P : Params) : Obj := ⟨(.type "dict"), none, (.dict #[⟨PyData.keyHash P (Str.ofString "__module__"), (.str (Str.ofString "__module__") 308), (.str (Str.ofString "hpack.exceptions") 279)⟩, ⟨PyData.keyHash P (Str.ofString "__firstlineno__"), (.str (Str.ofString "__firstlineno__") 312), (.int 5 311)⟩, ⟨PyData.keyHash P (Str.ofString "__static_attributes__"), (.str (Str.ofString "__static_attributes__") 313), (.ref 53)⟩, ⟨PyData.keyHash P (Str.ofString "__doc__"), (.str (Str.ofString "__doc__") 314), .none⟩] 2), #[]⟩
noncomputable def xK_55 (P : Params) : Obj := ⟨(.type "type"), none, (.cls { name := (Str.ofString "HPACKDecodingError"), bases := [(.ref 42)], mro := [(.ref 55), (.ref 42), (.type "Exception"), (.type "BaseException"), (.type "object")], ns := 54, qualname := (Str.ofString "HPACKDecodingError"), hasDict := true, slotNames := [], subclasses := [(.ref 67)], abstract := false, collection := none, hasDel := false }), #[(some (.ref 46)), none, (some (.str (Str.ofString "HPACKDecodingError") 301)), (some (.str (Str.ofString "HPACKDecodingError") 309)), (some (.builtin "Exception.__new__")), (some (.bool true))]⟩
noncomputable def xK_56 (P : Params) : Obj := ⟨(.type "super"), none, (.fields #[(.ref 55), (.ref 55), (.ref 55)]), #[]⟩
noncomputable def xK_57 (P : Params) : Obj := ⟨(.type "builtin_function_or_method"), none, (.fields #[(.builtin "object.__init_subclass__"), (.ref 55)]), #[]⟩
noncomputable def xK_58 (P : Params) : Obj := ⟨(.type "tuple"), none, (.seq #[(.ref 55)] 0), #[]⟩
noncomputable def xK_59 (P : Params) : Obj := ⟨(.type "builtin_function_or_method"), none, (.fields #[(.builtin "type.__prepare__"), (.type "type")]), #[]⟩
noncomputable def xK_60 (P : Params) : Obj := ⟨(.type "dict"), none, (.dict #[⟨PyData.keyHash P (Str.ofString "__module__"), (.str (Str.ofString "__module__") 324), (.str (Str.ofString "hpack.exceptions") 279)⟩, ⟨PyData.keyHash P (Str.ofString "__qualname__"), (.str (Str.ofString "__qualname__") 326), (.str (Str.ofString "InvalidTableIndexError") 325)⟩, ⟨PyData.keyHash P (Str.ofString "__firstlineno__"), (.str (Str.ofString "__firstlineno__") 328), (.int 7 327)⟩, ⟨PyData.keyHash P (Str.ofString "__static_attributes__"), (.str (Str.ofString "__static_attributes__") 329), (.ref 65)⟩] 4), #[]⟩
noncomputable def xK_61 (P : Params) : Obj := ⟨(.type "tuple"), none, (.seq #[] 0), #[]⟩
noncomputable def xK_62 (P : Params) : Obj := ⟨.none, none, (.fields #[]), #[]⟩
noncomputable def xK_63 (P : Params) : Obj := ⟨(.type "code"), none, (.fields #[(.str (Str.ofString "InvalidTableIndexError") 319), (.str (Str.ofString "InvalidTableIndexError") 320), (.str (Str.ofString "/claim/cut.py") 321), (.int 7 0), (.int 0 0), (.int 0 0), (.int 0 0), (.int 0 0), (.ref 61), (.bool false), (.int 273 0), (.ref 62), .none, .none, .none, .none, (.int 322 0), (.int 7 0), (.str (Str.ofString "/claim/cut.py") 323)]), #[]⟩
noncomputable def xK_64 (P : Params) : Obj := ⟨(.type "frame"), none, .plain, #[(some (.ref 63)), (some (.ref 3)), (some (.ref 60)), none, (some (.str (Str.ofString "hpack.exceptions") 279)), none, (some (.ref 0))]⟩
noncomputable def xK_65 (P : Params) : Obj := ⟨(.type "tuple"), none, (.seq #[] 0), #[]⟩
noncomputable def xK_66 (P : Params) : Obj := ⟨(.type "dict"), none, (.dict #[⟨PyData.keyHash P (Str.ofString "__module__"), (.str (Str.ofString "__module__") 324), (.str (Str.ofString "hpack.exceptions") 279)⟩, ⟨PyData.keyHash P (Str.ofString "__firstlineno__"), (.str (Str.ofString "__firstlineno__") 328), (.int 7 327)⟩, ⟨PyData.keyHash P (Str.ofString "__static_attributes__"), (.str (Str.ofString "__static_attributes__") 329), (.ref 65)⟩, ⟨PyData.keyHash P (Str.ofString "__doc__"), (.str (Str.ofString "__doc__") 330), .none⟩] 2), #[]⟩
noncomputable def xK_67 (P : Params) : Obj := ⟨(.type "type"), none, (.cls { name := (Str.ofString "InvalidTableIndexError"), bases := [(.ref 55)], mro := [(.ref 67), (.ref 55), (.ref 42), (.type "Exception"), (.type "BaseException"), (.type "object")], ns := 66, qualname := (Str.ofString "InvalidTableIndexError"), hasDict := true, slotNames := [], subclasses := [(.ref 79)], abstract := false, collection := none, hasDel := false }), #[(some (.ref 58)), none, (some (.str (Str.ofString "InvalidTableIndexError") 317)), (some (.str (Str.ofString "InvalidTableIndexError") 325)), (some (.builtin "Exception.__new__")), (some (.bool true))]⟩
noncomputable def xK_68 (P : Params) : Obj := ⟨(.type "super"), none, (.fields #[(.ref 67), (.ref 67), (.ref 67)]), #[]⟩
noncomputable def xK_69 (P : Params) : Obj := ⟨(.type "builtin_function_or_method"), none, (.fields #[(.builtin "object.__init_subclass__"), (.ref 67)]), #[]⟩
noncomputable def xK_70 (P : Params) : Obj := ⟨(.type "tuple"), none, (.seq #[(.ref 67)] 0), #[]⟩
noncomputable def xK_71 (P : Params) : Obj := ⟨(.type "builtin_function_or_method"), none, (.fields #[(.builtin "type.__prepare__"), (.type "type")]), #[]⟩
noncomputable def xK_72 (P : Params) : Obj := ⟨(.type "dict"), none, (.dict #[⟨PyData.keyHash P (Str.ofString "__module__"), (.str (Str.ofString "__module__") 340), (.str (Str.ofString "hpack.exceptions") 279)⟩, ⟨PyData.keyHash P (Str.ofString "__qualname__"), (.str (Str.ofString "__qualname__") 342), (.str (Str.ofString "InvalidTableIndex") 341)⟩, ⟨PyData.keyHash P (Str.ofString "__firstlineno__"), (.str (Str.ofString "__firstlineno__") 344), (.int 9 343)⟩, ⟨PyData.keyHash P (Str.ofString "__static_attributes__"), (.str (Str.ofString "__static_attributes__") 345), (.ref 77)⟩] 4), #[]⟩
noncomputable def xK_73 (P : Params) : Obj := ⟨(.type "tuple"), none, (.seq #[] 0), #[]⟩
noncomputable def xK_74 (P : Params) : Obj := ⟨.none, none, (.fields #[]), #[]⟩
noncomputable def xK_75 (P : Params) : Obj := ⟨(.type "code"), none, (.fields #[(.str (Str.ofString "InvalidTableIndex") 335), (.str (Str.ofString "InvalidTableIndex") 336), (.str (Str.ofString "/claim/cut.py") 337), (.int 9 0), (.int 0 0), (.int 0 0), (.int 0 0), (.int 0 0), (.ref 73), (.bool false), (.int 273 0), (.ref 74), .none, .none, .none, .none, (.int 338 0), (.int 9 0), (.str (Str.ofString "/claim/cut.py") 339)]), #[]⟩
noncomputable def xK_76 (P : Params) : Obj := ⟨(.type "frame"), none, .plain, #[(some (.ref 75)), (some (.ref 3)), (some (.ref 72)), none, (some (.str (Str.ofString "hpack.exceptions") 279)), none, (some (.ref 0))]⟩
noncomputable def xK_77 (P : Params) : Obj := ⟨(.type "tuple"), none, (.seq #[] 0), #[]⟩
noncomputable def xK_78 (P : Params) : Obj := ⟨(.type "dict"), none, (.dict #[⟨PyData.keyHash P (Str.ofString "__module__"), (.str (Str.ofString "__module__") 340), (.str (Str.ofString "hpack.exceptions") 279)⟩, ⟨PyData.keyHash P (Str.ofString "__firstlineno__"), (.str (Str.ofString "__firstlineno__") 344), (.int 9 343)⟩, ⟨PyData.keyHash P (Str.ofString "__static_attributes__"), (.str (Str.ofString "__static_attributes__") 345), (.ref 77)⟩, ⟨PyData.keyHash P (Str.ofString "__doc__"), (.str (Str.ofString "__doc__") 346), .none⟩] 2), #[]⟩
noncomputable def xK_79 (P : Params) : Obj := ⟨(.type "type"), none, (.cls { name := (Str.ofString "InvalidTableIndex"), bases := [(.ref 67)], mro := [(.ref 79), (.ref 67), (.ref 55), (.ref 42), (.type "Exception"), (.type "BaseException"), (.type "object")], ns := 78, qualname := (Str.ofString "InvalidTableIndex"), hasDict := true, slotNames := [], subclasses := [], abstract := false, collection := none, hasDel := false }), #[(some (.ref 70)), none, (some (.str (Str.ofString "InvalidTableIndex") 333)), (some (.str (Str.ofString "InvalidTableIndex") 341)), (some (.builtin "Exception.__new__")), (some (.bool true))]⟩
noncomputable def xK_80 (P : Params) : Obj := ⟨(.type "super"), none, (.fields #[(.ref 79), (.ref 79), (.ref 79)]), #[]⟩
noncomputable def xK_81 (P : Params) : Obj := ⟨(.type "builtin_function_or_method"), none, (.fields #[(.builtin "object.__init_subclass__"), (.ref 79)]), #[]⟩
noncomputable def xK_82 (P : Params) : Obj := ⟨(.type "tuple"), none, (.seq #[] 0), #[]⟩
noncomputable def xK_83 (P : Params) : Obj := ⟨.none, none, (.fields #[]), #[]⟩
noncomputable def xK_84 (P : Params) : Obj := ⟨(.type "tuple"), none, (.seq #[(.str (Str.ofString "name") 354), (.str (Str.ofString "value") 355)] 0), #[]⟩
noncomputable def xK_85 (P : Params) : Obj := ⟨(.type "tuple"), none, (.seq #[] 0), #[]⟩
noncomputable def xK_86 (P : Params) : Obj := ⟨.none, none, (.func { name := (Str.ofString "table_entry_size"), qualname := (Str.ofString "table_entry_size"), params := fp1 (fdOf 7), body := .stmts (fp2 (fdOf 7)), scope := fp3 (fdOf 7), globals := 0, closure := [], defaults := .none, kwdefaults := .none, doc := .none, pyModule := .none, annotations := none, code := .none, closureTuple := .none, builtins := 0 }), #[]⟩
noncomputable def xK_87 (P : Params) : Obj := ⟨(.type "code"), none, (.fields #[(.str (Str.ofString "table_entry_size") 351), (.str (Str.ofString "table_entry_size") 352), (.str (Str.ofString "/claim/cut.py") 353), (.int 12 0), (.int 2 0), (.int 0 0), (.int 0 0), (.int 3 0), (.ref 82), (.bool true), (.int 273 0), (.ref 83), .none, (.ref 84), (.ref 85), (.ref 86), (.int 356 0), (.int 12 0), (.str (Str.ofString "/claim/cut.py") 357)]), #[]⟩
noncomputable def xK_88 (P : Params) : Obj := ⟨(.type "function"), none, (.func { name := (Str.ofString "table_entry_size"), qualname := (Str.ofString "table_entry_size"), params := fp1 (fdOf 7), body := .stmts (fp2 (fdOf 7)), scope := fp3 (fdOf 7), globals := 3, closure := [], defaults := .none, kwdefaults := .none, doc := .none, pyModule := (.str (Str.ofString "hpack.table") 349), annotations := none, code := (.ref 87), closureTuple := .none, builtins := 0 }), #[]⟩
noncomputable def xK_89 (P : Params) : Obj := ⟨(.type "tuple"), none, (.seq #[] 0), #[]⟩
noncomputable def xK_90 (P : Params) : Obj := ⟨(.type "builtin_function_or_method"), none, (.fields #[(.builtin "type.__prepare__"), (.type "type")]), #[]⟩
noncomputable def xK_91 (P : Params) : Obj := ⟨(.type "dict"), none, (.dict #[⟨PyData.keyHash P (Str.ofString "__module__"), (.str (Str.ofString "__module__") 366), (.str (Str.ofString "hpack.table") 349)⟩, ⟨PyData.keyHash P (Str.ofString "__qualname__"), (.str (Str.ofString "__qualname__") 368), (.str (Str.ofString "HeaderTable") 367)⟩, ⟨PyData.keyHash P (Str.ofString "__firstlineno__"), (.str (Str.ofString "__firstlineno__") 370), (.int 14 369)⟩, ⟨PyData.keyHash P (Str.ofString "DEFAULT_SIZE"), (.str (Str.ofString "DEFAULT_SIZE") 372), (.int 4096 371)⟩, ⟨PyData.keyHash P (Str.ofString "STATIC_TABLE"), (.str (Str.ofString "STATIC_TABLE") 495), (.ref 157)⟩, ⟨PyData.keyHash P (Str.ofString "STATIC_TABLE_LENGTH"), (.str (Str.ofString "STATIC_TABLE_LENGTH") 498), (.int 61 497)⟩, ⟨PyData.keyHash P (Str.ofString "__init__"), (.str (Str.ofString "__init__") 505), (.ref 164)⟩, ⟨PyData.keyHash P (Str.ofString "get_by_index"), (.str (Str.ofString "get_by_index") 514), (.ref 171)⟩, ⟨PyData.keyHash P (Str.ofString "__repr__"), (.str (Str.ofString "__repr__") 521), (.ref 178)⟩, ⟨PyData.keyHash P (Str.ofString "add"), (.str (Str.ofString "add") 531), (.ref 185)⟩, ⟨PyData.keyHash P (Str.ofString "search"), (.str (Str.ofString "search") 547), (.ref 192)⟩, ⟨PyData.keyHash P (Str.ofString "maxsize"), (.str (Str.ofString "maxsize") 555), (.ref 209)⟩, ⟨PyData.keyHash P (Str.ofString "_shrink"), (.str (Str.ofString "_shrink") 576), (.ref 216)⟩, ⟨PyData.keyHash P (Str.ofString "__static_attributes__"), (.str (Str.ofString "__static_attributes__") 581), (.ref 217)⟩] 14), #[]⟩
noncomputable def xK_92 (P : Params) : Obj := ⟨(.type "tuple"), none, (.seq #[] 0), #[]⟩
noncomputable def xK_93 (P : Params) : Obj := ⟨.none, none, (.fields #[(.int 19 0), (.int 4 0), (.ref 163), (.int 25 0), (.int 4 0), (.ref 170), (.int 36 0), (.int 4 0), (.ref 177), (.int 39 0), (.int 4 0), (.ref 184), (.int 49 0), (.int 4 0), (.ref 191), (.int 68 0), (.int 4 0), (.ref 198), (.int 72 0), (.int 4 0), (.ref 207), (.int 83 0), (.int 4 0), (.ref 215)]), #[]⟩
noncomputable def xK_94 (P : Params) : Obj := ⟨(.type "code"), none, (.fields #[(.str (Str.ofString "HeaderTable") 361), (.str (Str.ofString "HeaderTable") 362), (.str (Str.ofString "/claim/cut.py") 363), (.int 14 0), (.int 0 0), (.int 0 0), (.int 0 0), (.int 0 0), (.ref 92), (.bool false), (.int 273 0), (.ref 93), .none, .none, .none, .none, (.int 364 0), (.int 14 0), (.str (Str.ofString "/claim/cut.py") 365)]), #[]⟩
noncomputable def xK_95 (P : Params) : Obj := ⟨(.type "frame"), none, .plain, #[(some (.ref 94)), (some (.ref 3)), (some (.ref 91)), none, (some (.str (Str.ofString "hpack.table") 349)), none, (some (.ref 0))]⟩
noncomputable def xK_96 (P : Params) : Obj := ⟨(.type "tuple"), none, (.seq #[(.bytes #[58, 97, 117, 116, 104, 111, 114, 105, 116, 121] 373), (.bytes #[] 374)] 0), #[]⟩
noncomputable def xK_97 (P : Params) : Obj := ⟨(.type "tuple"), none, (.seq #[(.bytes #[58, 109, 101, 116, 104, 111, 100] 375), (.bytes #[71, 69, 84] 376)] 0), #[]⟩
noncomputable def xK_98 (P : Params) : Obj := ⟨(.type "tuple"), none, (.seq #[(.bytes #[58, 109, 101, 116, 104, 111, 100] 377), (.bytes #[80, 79, 83, 84] 378)] 0), #[]⟩
noncomputable def xK_99 (P : Params) : Obj := ⟨(.type "tuple"), none, (.seq #[(.bytes #[58, 112, 97, 116, 104] 379), (.bytes #[47] 380)] 0), #[]⟩
noncomputable def xK_100 (P : Params) : Obj := ⟨(.type "tuple"), none, (.seq #[(.bytes #[58, 112, 97, 116, 104] 381), (.bytes #[47, 105, 110, 100, 101, 120, 46, 104, 116, 109, 108] 382)] 0), #[]⟩
noncomputable def xK_101 (P : Params) : Obj := ⟨(.type "tuple"), none, (.seq #[(.bytes #[58, 115, 99, 104, 101, 109, 101] 383), (.bytes #[104, 116, 116, 112] 384)] 0), #[]⟩
noncomputable def xK_102 (P : Params) : Obj := ⟨(.type "tuple"), none, (.seq #[(.bytes #[58, 115, 99, 104, 101, 109, 101] 385), (.bytes #[104, 116, 116, 112, 115] 386)] 0), #[]⟩
noncomputable def xK_103 (P : Params) : Obj := ⟨(.type "tuple"), none, (.seq #[(.bytes #[58, 115, 116, 97, 116, 117, 115] 387), (.bytes #[50, 48, 48] 388)] 0), #[]⟩
noncomputable def xK_104 (P : Params) : Obj := ⟨(.type "tuple"), none, (.seq #[(.bytes #[58, 115, 116, 97, 116, 117, 115] 389), (.bytes #[50, 48, 52] 390)] 0), #[]⟩
noncomputable def xK_105 (P : Params) : Obj := ⟨(.type "tuple"), none, (.seq #[(.bytes #[58, 115, 116, 97, 116, 117, 115] 391), (.bytes #[50, 48, 54] 392)] 0), #[]⟩
noncomputable def xK_106 (P : Params) : Obj := ⟨(.type "tuple"), none, (.seq #[(.bytes #[58, 115, 116, 97, 116, 117, 115] 393), (.bytes #[51, 48, 52] 394)] 0), #[]⟩
noncomputable def xK_107 (P : Params) : Obj := ⟨(.type "tuple"), none, (.seq #[(.bytes #[58, 115, 116, 97, 116, 117, 115] 395), (.bytes #[52, 48, 48] 396)] 0), #[]⟩
noncomputable def xK_108 (P : Params) : Obj := ⟨(.type "tuple"), none, (.seq #[(.bytes #[58, 115, 116, 97, 116, 117, 115] 397), (.bytes #[52, 48, 52] 398)] 0), #[]⟩
noncomputable def xK_109 (P : Params) : Obj := ⟨(.type "tuple"), none, (.seq #[(.bytes #[58, 115, 116, 97, 116, 117, 115] 399), (.bytes #[53, 48, 48] 400)] 0), #[]⟩
noncomputable def xK_110 (P : Params) : Obj := ⟨(.type "tuple"), none, (.seq #[(.bytes #[97, 99, 99, 101, 112, 116, 45, 99, 104, 97, 114, 115, 101, 116] 401), (.bytes #[] 402)] 0), #[]⟩
noncomputable def xK_111 (P : Params) : Obj := ⟨(.type "tuple"), none, (.seq #[(.bytes #[97, 99, 99, 101, 112, 116, 45, 101, 110, 99, 111, 100, 105, 110, 103] 403), (.bytes #[103, 122, 105, 112, 44, 32, 100, 101, 102, 108, 97, 116, 101] 404)] 0), #[]⟩
noncomputable def xK_112 (P : Params) : Obj := ⟨(.type "tuple"), none, (.seq #[(.bytes #[97, 99, 99, 101, 112, 116, 45, 108, 97, 110, 103, 117, 97, 103, 101] 405), (.bytes #[] 406)] 0), #[]⟩
noncomputable def xK_113 (P : Params) : Obj := ⟨(.type "tuple"), none, (.seq #[(.bytes #[97, 99, 99, 101, 112, 116, 45, 114, 97, 110, 103, 101, 115] 407), (.bytes #[] 408)] 0), #[]⟩
noncomputable def xK_114 (P : Params) : Obj := ⟨(.type "tuple"), none, (.seq #[(.bytes #[97, 99, 99, 101, 112, 116] 409), (.bytes #[] 410)] 0), #[]⟩
noncomputable def xK_115 (P : Params) : Obj := ⟨(.type "tuple"), none, (.seq #[(.bytes #[97, 99, 99, 101, 115, 115, 45, 99, 111, 110, 116, 114, 111, 108, 45, 97, 108, 108, 111, 119, 45, 111, 114, 105, 103, 105, 110] 411), (.bytes #[] 412)] 0), #[]⟩
noncomputable def xK_116 (P : Params) : Obj := ⟨(.type "tuple"), none, (.seq #[(.bytes #[97, 103, 101] 413), (.bytes #[] 414)] 0), #[]⟩
noncomputable def xK_117 (P : Params) : Obj := ⟨(.type "tuple"), none, (.seq #[(.bytes #[97, 108, 108, 111, 119] 415), (.bytes #[] 416)] 0), #[]⟩
noncomputable def xK_118 (P : Params) : Obj := ⟨(.type "tuple"), none, (.seq #[(.bytes #[97, 117, 116, 104, 111, 114, 105, 122, 97, 116, 105, 111, 110] 417), (.bytes #[] 418)] 0), #[]⟩
noncomputable def xK_119 (P : Params) : Obj := ⟨(.type "tuple"), none, (.seq #[(.bytes #[99, 97, 99, 104, 101, 45, 99, 111, 110, 116, 114, 111, 108] 419), (.bytes #[] 420)] 0), #[]⟩
noncomputable def xK_120 (P : Params) : Obj := ⟨(.type "tuple"), none, (.seq #[(.bytes #[99, 111, 110, 116, 101, 110, 116, 45, 100, 105, 115, 112, 111, 115, 105, 116, 105, 111, 110] 421), (.bytes #[] 422)] 0), #[]⟩
noncomputable def xK_121 (P : Params) : Obj := ⟨(.type "tuple"), none, (.seq #[(.bytes #[99, 111, 110, 116, 101, 110, 116, 45, 101, 110, 99, 111, 100, 105, 110, 103] 423), (.bytes #[] 424)] 0), #[]⟩
noncomputable def xK_122 (P : Params) : Obj := ⟨(.type "tuple"), none, (.seq #[(.bytes #[99, 111, 110, 116, 101, 110, 116, 45, 108, 97, 110, 103, 117, 97, 103, 101] 425), (.bytes #[] 426)] 0), #[]⟩
noncomputable def xK_123 (P : Params) : Obj := ⟨(.type "tuple"), none, (.seq #[(.bytes #[99, 111, 110, 116, 101, 110, 116, 45, 108, 101, 110, 103, 116, 104] 427), (.bytes #[] 428)] 0), #[]⟩
noncomputable def xK_124 (P : Params) : Obj := ⟨(.type "tuple"), none, (.seq #[(.bytes #[99, 111, 110, 116, 101, 110, 116, 45, 108, 111, 99, 97, 116, 105, 111, 110] 429), (.bytes #[] 430)] 0), #[]⟩
noncomputable def xK_125 (P : Params) : Obj := ⟨(.type "tuple"), none, (.seq #[(.bytes #[99, 111, 110, 116, 101, 110, 116, 45, 114, 97, 110, 103, 101] 431), (.bytes #[] 432)] 0), #[]⟩
noncomputable def xK_126 (P : Params) : Obj := ⟨(.type "tuple"), none, (.seq #[(.bytes #[99, 111, 110, 116, 101, 110, 116, 45, 116, 121, 112, 101] 433), (.bytes #[] 434)] 0), #[]⟩
noncomputable def xK_127 (P : Params) : Obj := ⟨(.type "tuple"), none, (.seq #[(.bytes #[99, 111, 111, 107, 105, 101] 435), (.bytes #[] 436)] 0), #[]⟩
noncomputable def xK_128 (P : Params) : Obj := ⟨(.type "tuple"), none, (.seq #[(.bytes #[100, 97, 116, 101] 437), (.bytes #[] 438)] 0), #[]⟩
noncomputable def xK_129 (P : Params) : Obj := ⟨(.type "tuple"), none, (.seq #[(.bytes #[101, 116, 97, 103] 439), (.bytes #[] 440)] 0), #[]⟩
noncomputable def xK_130 (P : Params) : Obj := ⟨(.type "tuple"), none, (.seq #[(.bytes #[101, 120, 112, 101, 99, 116] 441), (.bytes #[] 442)] 0), #[]⟩
noncomputable def xK_131 (P : Params) : Obj := ⟨(.type "tuple"), none, (.seq #[(.bytes #[101, 120, 112, 105, 114, 101, 115] 443), (.bytes #[] 444)] 0), #[]⟩
noncomputable def xK_132 (P : Params) : Obj := ⟨(.type "tuple"), none, (.seq #[(.bytes #[102, 114, 111, 109] 445), (.bytes #[] 446)] 0), #[]⟩
noncomputable def xK_133 (P : Params) : Obj := ⟨(.type "tuple"), none, (.seq #[(.bytes #[104, 111, 115, 116] 447), (.bytes #[] 448)] 0), #[]⟩
noncomputable def xK_134 (P : Params) : Obj := ⟨(.type "tuple"), none, (.seq #[(.bytes #[105, 102, 45, 109, 97, 116, 99, 104] 449), (.bytes #[] 450)] 0), #[]⟩
noncomputable def xK_135 (P : Params) : Obj := ⟨(.type "tuple"), none, (.seq #[(.bytes #[105, 102, 45, 109, 111, 100, 105, 102, 105, 101, 100, 45, 115, 105, 110, 99, 101] 451), (.bytes #[] 452)] 0), #[]⟩
noncomputable def xK_136 (P : Params) : Obj := ⟨(.type "tuple"), none, (.seq #[(.bytes #[105, 102, 45, 110, 111, 110, 101, 45, 109, 97, 116, 99, 104] 453), (.bytes #[] 454)] 0), #[]⟩
noncomputable def xK_137 (P : Params) : Obj := ⟨(.type "tuple"), none, (.seq #[(.bytes #[105, 102, 45, 114, 97, 110, 103, 101] 455), (.bytes #[] 456)] 0), #[]⟩
noncomputable def xK_138 (P : Params) : Obj := ⟨(.type "tuple"), none, (.seq #[(.bytes #[105, 102, 45, 117, 110, 109, 111, 100, 105, 102, 105, 101, 100, 45, 115, 105, 110, 99, 101] 457), (.bytes #[] 458)] 0), #[]⟩
noncomputable def xK_139 (P : Params) : Obj := ⟨(.type "tuple"), none, (.seq #[(.bytes #[108, 97, 115, 116, 45, 109, 111, 100, 105, 102, 105, 101, 100] 459), (.bytes #[] 460)] 0), #[]⟩
noncomputable def xK_140 (P : Params) : Obj := ⟨(.type "tuple"), none, (.seq #[(.bytes #[108, 105, 110, 107] 461), (.bytes #[] 462)] 0), #[]⟩
noncomputable def xK_141 (P : Params) : Obj := ⟨(.type "tuple"), none, (.seq #[(.bytes #[108, 111, 99, 97, 116, 105, 111, 110] 463), (.bytes #[] 464)] 0), #[]⟩
noncomputable def xK_142 (P : Params) : Obj := ⟨(.type "tuple"), none, (.seq #[(.bytes #[109, 97, 120, 45, 102, 111, 114, 119, 97, 114, 100, 115] 465), (.bytes #[] 466)] 0), #[]⟩
noncomputable def xK_143 (P : Params) : Obj := ⟨(.type "tuple"), none, (.seq #[(.bytes #[112, 114, 111, 120, 121, 45, 97, 117, 116, 104, 101, 110, 116, 105, 99, 97, 116, 101] 467), (.bytes #[] 468)] 0), #[]⟩
noncomputable def xK_144 (P : Params) : Obj := ⟨(.type "tuple"), none, (.seq #[(.bytes #[112, 114, 111, 120, 121, 45, 97, 117, 116, 104, 111, 114, 105, 122, 97, 116, 105, 111, 110] 469), (.bytes #[] 470)] 0), #[]⟩
noncomputable def xK_145 (P : Params) : Obj := ⟨(.type "tuple"), none, (.seq #[(.bytes #[114, 97, 110, 103, 101] 471), (.bytes #[] 472)] 0), #[]⟩
noncomputable def xK_146 (P : Params) : Obj := ⟨(.type "tuple"), none, (.seq #[(.bytes #[114, 101, 102, 101, 114, 101, 114] 473), (.bytes #[] 474)] 0), #[]⟩
noncomputable def xK_147 (P : Params) : Obj := ⟨(.type "tuple"), none, (.seq #[(.bytes #[114, 101, 102, 114, 101, 115, 104] 475), (.bytes #[] 476)] 0), #[]⟩
noncomputable def xK_148 (P : Params) : Obj := ⟨(.type "tuple"), none, (.seq #[(.bytes #[114, 101, 116, 114, 121, 45, 97, 102, 116, 101, 114] 477), (.bytes #[] 478)] 0), #[]⟩
noncomputable def xK_149 (P : Params) : Obj := ⟨(.type "tuple"), none, (.seq #[(.bytes #[115, 101, 114, 118, 101, 114] 479), (.bytes #[] 480)] 0), #[]⟩
noncomputable def xK_150 (P : Params) : Obj := ⟨(.type "tuple"), none, (.seq #[(.bytes #[115, 101, 116, 45, 99, 111, 111, 107, 105, 101] 481), (.bytes #[] 482)] 0), #[]⟩
noncomputable def xK_151 (P : Params) : Obj := ⟨(.type "tuple"), none, (.seq #[(.bytes #[115, 116, 114, 105, 99, 116, 45, 116, 114, 97, 110, 115, 112, 111, 114, 116, 45, 115, 101, 99, 117, 114, 105, 116, 121] 483), (.bytes #[] 484)] 0), #[]⟩
noncomputable def xK_152 (P : Params) : Obj := ⟨(.type "tuple"), none, (.seq #[(.bytes #[116, 114, 97, 110, 115, 102, 101, 114, 45, 101, 110, 99, 111, 100, 105, 110, 103] 485), (.bytes #[] 486)] 0), #[]⟩
noncomputable def xK_153 (P : Params) : Obj := ⟨(.type "tuple"), none, (.seq #[(.bytes #[117, 115, 101, 114, 45, 97, 103, 101, 110, 116] 487), (.bytes #[] 488)] 0), #[]⟩
noncomputable def xK_154 (P : Params) : Obj := ⟨(.type "tuple"), none, (.seq #[(.bytes #[118, 97, 114, 121] 489), (.bytes #[] 490)] 0), #[]⟩
noncomputable def xK_155 (P : Params) : Obj := ⟨(.type "tuple"), none, (.seq #[(.bytes #[118, 105, 97] 491), (.bytes #[] 492)] 0), #[]⟩
noncomputable def xK_156 (P : Params) : Obj := ⟨(.type "tuple"), none, (.seq #[(.bytes #[119, 119, 119, 45, 97, 117, 116, 104, 101, 110, 116, 105, 99, 97, 116, 101] 493), (.bytes #[] 494)] 0), #[]⟩
noncomputable def xK_157 (P : Params) : Obj := ⟨(.type "tuple"), none, (.seq #[(.ref 96), (.ref 97), (.ref 98), (.ref 99), (.ref 100), (.ref 101), (.ref 102), (.ref 103), (.ref 104), (.ref 105), (.ref 106), (.ref 107), (.ref 108), (.ref 109), (.ref 110), (.ref 111), (.ref 112), (.ref 113), (.ref 114), (.ref 115), (.ref 116), (.ref 117), (.ref 118), (.ref 119), (.ref 120), (.ref 121), (.ref 122), (.ref 123), (.ref 124), (.ref 125), (.ref 126), (.ref 127), (.ref 128), (.ref 129), (.ref 130), (.ref 131), (.ref 132), (.ref 133), (.ref 134), (.ref 135), (.ref 136), (.ref 137), (.ref 138), (.ref 139), (.ref 140), (.ref 141), (.ref 142), (.ref 143), (.ref 144), (.ref 145), (.ref 146), (.ref 147), (.ref 148), (.ref 149), (.ref 150), (.ref 151), (.ref 152), (.ref 153), (.ref 154), (.ref 155), (.ref 156)] 0), #[]⟩
noncomputable def xK_158 (P : Params) : Obj := ⟨(.type "tuple"), none, (.seq #[] 0), #[]⟩
noncomputable def xK_159 (P : Params) : Obj := ⟨.none, none, (.fields #[]), #[]⟩
noncomputable def xK_160 (P : Params) : Obj := ⟨(.type "tuple"), none, (.seq #[(.str (Str.ofString "self") 502)] 0), #[]⟩
noncomputable def xK_161 (P : Params) : Obj := ⟨(.type "tuple"), none, (.seq #[] 0), #[]⟩
noncomputable def xK_162 (P : Params) : Obj := ⟨.none, none, (.func { name := (Str.ofString "__init__"), qualname := (Str.ofString "HeaderTable.__init__"), params := fp1 (mdOf 8 3), body := .stmts (fp2 (mdOf 8 3)), scope := fp3 (mdOf 8 3), globals := 0, closure := [], defaults := .none, kwdefaults := .none, doc := .none, pyModule := .none, annotations := none, code := .none, closureTuple := .none, builtins := 0 }), #[]⟩
noncomputable def xK_163 (P : Params) : Obj := ⟨(.type "code"), none, (.fields #[(.str (Str.ofString "__init__") 499), (.str (Str.ofString "HeaderTable.__init__") 500), (.str (Str.ofString "/claim/cut.py") 501), (.int 19 0), (.int 1 0), (.int 0 0), (.int 0 0), (.int 3 0), (.ref 158), (.bool true), (.int 273 0), (.ref 159), .none, (.ref 160), (.ref 161), (.ref 162), (.int 503 0), (.int 19 0), (.str (Str.ofString "/claim/cut.py") 504)]), #[]⟩
noncomputable def xK_164 (P : Params) : Obj := ⟨(.type "function"), none, (.func { name := (Str.ofString "__init__"), qualname := (Str.ofString "HeaderTable.__init__"), params := fp1 (mdOf 8 3), body := .stmts (fp2 (mdOf 8 3)), scope := fp3 (mdOf 8 3), globals := 3, closure := [], defaults := .none, kwdefaults := .none, doc := .none, pyModule := (.str (Str.ofString "hpack.table") 349), annotations := none, code := (.ref 163), closureTuple := .none, builtins := 0 }), #[]⟩
noncomputable def xK_165 (P : Params) : Obj := ⟨(.type "tuple"), none, (.seq #[] 0), #[]⟩
noncomputable def xK_166 (P : Params) : Obj := ⟨.none, none, (.fields #[]), #[]⟩
noncomputable def xK_167 (P : Params) : Obj := ⟨(.type "tuple"), none, (.seq #[(.str (Str.ofString "self") 509), (.str (Str.ofString "index") 510), (.str (Str.ofString "original_index") 511)] 0), #[]⟩
noncomputable def xK_168 (P : Params) : Obj := ⟨(.type "tuple"), none, (.seq #[] 0), #[]⟩
noncomputable def xK_169 (P : Params) : Obj := ⟨.none, none, (.func { name := (Str.ofString "get_by_index"), qualname := (Str.ofString "HeaderTable.get_by_index"), params := fp1 (mdOf 8 4), body := .stmts (fp2 (mdOf 8 4)), scope := fp3 (mdOf 8 4), globals := 0, closure := [], defaults := .none, kwdefaults := .none, doc := .none, pyModule := .none, annotations := none, code := .none, closureTuple := .none, builtins := 0 }), #[]⟩
noncomputable def xK_170 (P : Params) : Obj := ⟨(.type "code"), none, (.fields #[(.str (Str.ofString "get_by_index") 506), (.str (Str.ofString "HeaderTable.get_by_index") 507), (.str (Str.ofString "/claim/cut.py") 508), (.int 25 0), (.int 2 0), (.int 0 0), (.int 0 0), (.int 3 0), (.ref 165), (.bool true), (.int 273 0), (.ref 166), .none, (.ref 167), (.ref 168), (.ref 169), (.int 512 0), (.int 25 0), (.str (Str.ofString "/claim/cut.py") 513)]), #[]⟩
noncomputable def xK_171 (P : Params) : Obj := ⟨(.type "function"), none, (.func { name := (Str.ofString "get_by_index"), qualname := (Str.ofString "HeaderTable.get_by_index"), params := fp1 (mdOf 8 4), body := .stmts (fp2 (mdOf 8 4)), scope := fp3 (mdOf 8 4), globals := 3, closure := [], defaults := .none, kwdefaults := .none, doc := .none, pyModule := (.str (Str.ofString "hpack.table") 349), annotations := none, code := (.ref 170), closureTuple := .none, builtins := 0 }), #[]⟩
noncomputable def xK_172 (P : Params) : Obj := ⟨(.type "tuple"), none, (.seq #[] 0), #[]⟩
noncomputable def xK_173 (P : Params) : Obj := ⟨.none, none, (.fields #[]), #[]⟩
noncomputable def xK_174 (P : Params) : Obj := ⟨(.type "tuple"), none, (.seq #[(.str (Str.ofString "self") 518)] 0), #[]⟩
noncomputable def xK_175 (P : Params) : Obj := ⟨(.type "tuple"), none, (.seq #[] 0), #[]⟩
noncomputable def xK_176 (P : Params) : Obj := ⟨.none, none, (.func { name := (Str.ofString "__repr__"), qualname := (Str.ofString "HeaderTable.__repr__"), params := fp1 (mdOf 8 5), body := .stmts (fp2 (mdOf 8 5)), scope := fp3 (mdOf 8 5), globals := 0, closure := [], defaults := .none, kwdefaults := .none, doc := .none, pyModule := .none, annotations := none, code := .none, closureTuple := .none, builtins := 0 }), #[]⟩
noncomputable def xK_177 (P : Params) : Obj := ⟨(.type "code"), none, (.fields #[(.str (Str.ofString "__repr__") 515), (.str (Str.ofString "HeaderTable.__repr__") 516), (.str (Str.ofString "/claim/cut.py") 517), (.int 36 0), (.int 1 0), (.int 0 0), (.int 0 0), (.int 3 0), (.ref 172), (.bool true), (.int 273 0), (.ref 173), .none, (.ref 174), (.ref 175), (.ref 176), (.int 519 0), (.int 36 0), (.str (Str.ofString "/claim/cut.py") 520)]), #[]⟩
noncomputable def xK_178 (P : Params) : Obj := ⟨(.type "function"), none, (.func { name := (Str.ofString "__repr__"), qualname := (Str.ofString "HeaderTable.__repr__"), params := fp1 (mdOf 8 5), body := .stmts (fp2 (mdOf 8 5)), scope := fp3 (mdOf 8 5), globals := 3, closure := [], defaults := .none, kwdefaults := .none, doc := .none, pyModule := (.str (Str.ofString "hpack.table") 349), annotations := none, code := (.ref 177), closureTuple := .none, builtins := 0 }), #[]⟩
noncomputable def xK_179 (P : Params) : Obj := ⟨(.type "tuple"), none, (.seq #[] 0), #[]⟩
noncomputable def xK_180 (P : Params) : Obj := ⟨.none, none, (.fields #[]), #[]⟩
noncomputable def xK_181 (P : Params) : Obj := ⟨(.type "tuple"), none, (.seq #[(.str (Str.ofString "self") 525), (.str (Str.ofString "name") 526), (.str (Str.ofString "value") 527), (.str (Str.ofString "size") 528)] 0), #[]⟩
noncomputable def xK_182 (P : Params) : Obj := ⟨(.type "tuple"), none, (.seq #[] 0), #[]⟩
noncomputable def xK_183 (P : Params) : Obj := ⟨.none, none, (.func { name := (Str.ofString "add"), qualname := (Str.ofString "HeaderTable.add"), params := fp1 (mdOf 8 6), body := .stmts (fp2 (mdOf 8 6)), scope := fp3 (mdOf 8 6), globals := 0, closure := [], defaults := .none, kwdefaults := .none, doc := .none, pyModule := .none, annotations := none, code := .none, closureTuple := .none, builtins := 0 }), #[]⟩
noncomputable def xK_184 (P : Params) : Obj := ⟨(.type "code"), none, (.fields #[(.str (Str.ofString "add") 522), (.str (Str.ofString "HeaderTable.add") 523), (.str (Str.ofString "/claim/cut.py") 524), (.int 39 0), (.int 3 0), (.int 0 0), (.int 0 0), (.int 3 0), (.ref 179), (.bool true), (.int 273 0), (.ref 180), .none, (.ref 181), (.ref 182), (.ref 183), (.int 529 0), (.int 39 0), (.str (Str.ofString "/claim/cut.py") 530)]), #[]⟩
noncomputable def xK_185 (P : Params) : Obj := ⟨(.type "function"), none, (.func { name := (Str.ofString "add"), qualname := (Str.ofString "HeaderTable.add"), params := fp1 (mdOf 8 6), body := .stmts (fp2 (mdOf 8 6)), scope := fp3 (mdOf 8 6), globals := 3, closure := [], defaults := .none, kwdefaults := .none, doc := .none, pyModule := (.str (Str.ofString "hpack.table") 349), annotations := none, code := (.ref 184), closureTuple := .none, builtins := 0 }), #[]⟩
noncomputable def xK_186 (P : Params) : Obj := ⟨(.type "tuple"), none, (.seq #[] 0), #[]⟩
noncomputable def xK_187 (P : Params) : Obj := ⟨.none, none, (.fields #[]), #[]⟩
noncomputable def xK_188 (P : Params) : Obj := ⟨(.type "tuple"), none, (.seq #[(.str (Str.ofString "self") 535), (.str (Str.ofString "name") 536), (.str (Str.ofString "value") 537), (.str (Str.ofString "partial") 538), (.str (Str.ofString "header_name_search_result") 539), (.str (Str.ofString "index") 540), (.str (Str.ofString "offset") 541), (.str (Str.ofString "i") 542), (.str (Str.ofString "n") 543), (.str (Str.ofString "v") 544)] 0), #[]⟩
noncomputable def xK_189 (P : Params) : Obj := ⟨(.type "tuple"), none, (.seq #[] 0), #[]⟩
noncomputable def xK_190 (P : Params) : Obj := ⟨.none, none, (.func { name := (Str.ofString "search"), qualname := (Str.ofString "HeaderTable.search"), params := fp1 (mdOf 8 7), body := .stmts (fp2 (mdOf 8 7)), scope := fp3 (mdOf 8 7), globals := 0, closure := [], defaults := .none, kwdefaults := .none, doc := .none, pyModule := .none, annotations := none, code := .none, closureTuple := .none, builtins := 0 }), #[]⟩
noncomputable def xK_191 (P : Params) : Obj := ⟨(.type "code"), none, (.fields #[(.str (Str.ofString "search") 532), (.str (Str.ofString "HeaderTable.search") 533), (.str (Str.ofString "/claim/cut.py") 534), (.int 49 0), (.int 3 0), (.int 0 0), (.int 0 0), (.int 3 0), (.ref 186), (.bool true), (.int 273 0), (.ref 187), .none, (.ref 188), (.ref 189), (.ref 190), (.int 545 0), (.int 49 0), (.str (Str.ofString "/claim/cut.py") 546)]), #[]⟩
noncomputable def xK_192 (P : Params) : Obj := ⟨(.type "function"), none, (.func { name := (Str.ofString "search"), qualname := (Str.ofString "HeaderTable.search"), params := fp1 (mdOf 8 7), body := .stmts (fp2 (mdOf 8 7)), scope := fp3 (mdOf 8 7), globals := 3, closure := [], defaults := .none, kwdefaults := .none, doc := .none, pyModule := (.str (Str.ofString "hpack.table") 349), annotations := none, code := (.ref 191), closureTuple := .none, builtins := 0 }), #[]⟩
noncomputable def xK_193 (P : Params) : Obj := ⟨(.type "tuple"), none, (.seq #[] 0), #[]⟩
noncomputable def xK_194 (P : Params) : Obj := ⟨.none, none, (.fields #[]), #[]⟩
noncomputable def xK_195 (P : Params) : Obj := ⟨(.type "tuple"), none, (.seq #[(.str (Str.ofString "self") 551)] 0), #[]⟩
noncomputable def xK_196 (P : Params) : Obj := ⟨(.type "tuple"), none, (.seq #[] 0), #[]⟩
noncomputable def xK_197 (P : Params) : Obj := ⟨.none, none, (.func { name := (Str.ofString "maxsize"), qualname := (Str.ofString "HeaderTable.maxsize"), params := fp1 (mdOf 8 8), body := .stmts (fp2 (mdOf 8 8)), scope := fp3 (mdOf 8 8), globals := 0, closure := [], defaults := .none, kwdefaults := .none, doc := .none, pyModule := .none, annotations := none, code := .none, closureTuple := .none, builtins := 0 }), #[]⟩
noncomputable def xK_198 (P : Params) : Obj := ⟨(.type "code"), none, (.fields #[(.str (Str.ofString "maxsize") 548), (.str (Str.ofString "HeaderTable.maxsize") 549), (.str (Str.ofString "/claim/cut.py") 550), (.int 67 0), (.int 1 0), (.int 0 0), (.int 0 0), (.int 3 0), (.ref 193), (.bool true), (.int 273 0), (.ref 194), .none, (.ref 195), (.ref 196), (.ref 197), (.int 552 0), (.int 67 0), (.str (Str.ofString "/claim/cut.py") 553)]), #[]⟩
noncomputable def xK_199 (P : Params) : Obj := ⟨(.type "function"), none, (.func { name := (Str.ofString "maxsize"), qualname := (Str.ofString "HeaderTable.maxsize"), params := fp1 (mdOf 8 8), body := .stmts (fp2 (mdOf 8 8)), scope := fp3 (mdOf 8 8), globals := 3, closure := [], defaults := .none, kwdefaults := .none, doc := .none, pyModule := (.str (Str.ofString "hpack.table") 349), annotations := none, code := (.ref 198), closureTuple := .none, builtins := 0 }), #[]⟩
noncomputable def xK_200 (P : Params) : Obj := ⟨(.type "property"), none, (.fields #[(.ref 199), .none, .none, .none, (.int 0 0), (.bool false)]), #[]⟩
noncomputable def xK_201 (P : Params) : Obj := ⟨(.type "builtin_function_or_method"), none, (.fields #[(.builtin "property.setter"), (.ref 200)]), #[]⟩
noncomputable def xK_202 (P : Params) : Obj := ⟨(.type "tuple"), none, (.seq #[] 0), #[]⟩
noncomputable def xK_203 (P : Params) : Obj := ⟨.none, none, (.fields #[]), #[]⟩
noncomputable def xK_204 (P : Params) : Obj := ⟨(.type "tuple"), none, (.seq #[(.str (Str.ofString "self") 560), (.str (Str.ofString "newmax") 561), (.str (Str.ofString "oldmax") 562)] 0), #[]⟩
noncomputable def xK_205 (P : Params) : Obj := ⟨(.type "tuple"), none, (.seq #[] 0), #[]⟩
noncomputable def xK_206 (P : Params) : Obj := ⟨.none, none, (.func { name := (Str.ofString "maxsize"), qualname := (Str.ofString "HeaderTable.maxsize"), params := fp1 (mdOf 8 9), body := .stmts (fp2 (mdOf 8 9)), scope := fp3 (mdOf 8 9), globals := 0, closure := [], defaults := .none, kwdefaults := .none, doc := .none, pyModule := .none, annotations := none, code := .none, closureTuple := .none, builtins := 0 }), #[]⟩
noncomputable def xK_207 (P : Params) : Obj := ⟨(.type "code"), none, (.fields #[(.str (Str.ofString "maxsize") 557), (.str (Str.ofString "HeaderTable.maxsize") 558), (.str (Str.ofString "/claim/cut.py") 559), (.int 71 0), (.int 2 0), (.int 0 0), (.int 0 0), (.int 3 0), (.ref 202), (.bool true), (.int 273 0), (.ref 203), .none, (.ref 204), (.ref 205), (.ref 206), (.int 563 0), (.int 71 0), (.str (Str.ofString "/claim/cut.py") 564)]), #[]⟩
noncomputable def xK_208 (P : Params) : Obj := ⟨(.type "function"), none, (.func { name := (Str.ofString "maxsize"), qualname := (Str.ofString "HeaderTable.maxsize"), params := fp1 (mdOf 8 9), body := .stmts (fp2 (mdOf 8 9)), scope := fp3 (mdOf 8 9), globals := 3, closure := [], defaults := .none, kwdefaults := .none, doc := .none, pyModule := (.str (Str.ofString "hpack.table") 349), annotations := none, code := (.ref 207), closureTuple := .none, builtins := 0 }), #[]⟩
noncomputable def xK_209 (P : Params) : Obj := ⟨(.type "property"), none, (.fields #[(.ref 199), (.ref 208), .none, .none, (.str (Str.ofString "maxsize") 555), (.bool false)]), #[]⟩
noncomputable def xK_210 (P : Params) : Obj := ⟨(.type "tuple"), none, (.seq #[] 0), #[]⟩
noncomputable def xK_211 (P : Params) : Obj := ⟨.none, none, (.fields #[]), #[]⟩
noncomputable def xK_212 (P : Params) : Obj := ⟨(.type "tuple"), none, (.seq #[(.str (Str.ofString "self") 570), (.str (Str.ofString "cursize") 571), (.str (Str.ofString "name") 572), (.str (Str.ofString "value") 573)] 0), #[]⟩
noncomputable def xK_213 (P : Params) : Obj := ⟨(.type "tuple"), none, (.seq #[] 0), #[]⟩
noncomputable def xK_214 (P : Params) : Obj := ⟨.none, none, (.func { name := (Str.ofString "_shrink"), qualname := (Str.ofString "HeaderTable._shrink"), params := fp1 (mdOf 8 10), body := .stmts (fp2 (mdOf 8 10)), scope := fp3 (mdOf 8 10), globals := 0, closure := [], defaults := .none, kwdefaults := .none, doc := .none, pyModule := .none, annotations := none, code := .none, closureTuple := .none, builtins := 0 }), #[]⟩
noncomputable def xK_215 (P : Params) : Obj := ⟨(.type "code"), none, (.fields #[(.str (Str.ofString "_shrink") 567), (.str (Str.ofString "HeaderTable._shrink") 568), (.str (Str.ofString "/claim/cut.py") 569), (.int 83 0), (.int 1 0), (.int 0 0), (.int 0 0), (.int 3 0), (.ref 210), (.bool true), (.int 273 0), (.ref 211), .none, (.ref 212), (.ref 213), (.ref 214), (.int 574 0), (.int 83 0), (.str (Str.ofString "/claim/cut.py") 575)]), #[]⟩
noncomputable def xK_216 (P : Params) : Obj := ⟨(.type "function"), none, (.func { name := (Str.ofString "_shrink"), qualname := (Str.ofString "HeaderTable._shrink"), params := fp1 (mdOf 8 10), body := .stmts (fp2 (mdOf 8 10)), scope := fp3 (mdOf 8 10), globals := 3, closure := [], defaults := .none, kwdefaults := .none, doc := .none, pyModule := (.str (Str.ofString "hpack.table") 349), annotations := none, code := (.ref 215), closureTuple := .none, builtins := 0 }), #[]⟩
noncomputable def xK_217 (P : Params) : Obj := ⟨(.type "tuple"), none, (.seq #[(.str (Str.ofString "_current_size") 577), (.str (Str.ofString "_maxsize") 578), (.str (Str.ofString "dynamic_entries") 579), (.str (Str.ofString "resized") 580)] 0), #[]⟩
noncomputable def xK_218 (P : Params) : Obj := ⟨(.type "dict"), none, (.dict #[⟨PyData.keyHash P (Str.ofString "__module__"), (.str (Str.ofString "__module__") 366), (.str (Str.ofString "hpack.table") 349)⟩, ⟨PyData.keyHash P (Str.ofString "__firstlineno__"), (.str (Str.ofString "__firstlineno__") 370), (.int 14 369)⟩, ⟨PyData.keyHash P (Str.ofString "DEFAULT_SIZE"), (.str (Str.ofString "DEFAULT_SIZE") 372), (.int 4096 371)⟩, ⟨PyData.keyHash P (Str.ofString "STATIC_TABLE"), (.str (Str.ofString "STATIC_TABLE") 495), (.ref 157)⟩, ⟨PyData.keyHash P (Str.ofString "STATIC_TABLE_LENGTH"), (.str (Str.ofString "STATIC_TABLE_LENGTH") 498), (.int 61 497)⟩, ⟨PyData.keyHash P (Str.ofString "__init__"), (.str (Str.ofString "__init__") 505), (.ref 164)⟩, ⟨PyData.keyHash P (Str.ofString "get_by_index"), (.str (Str.ofString "get_by_index") 514), (.ref 171)⟩, ⟨PyData.keyHash P (Str.ofString "__repr__"), (.str (Str.ofString "__repr__") 521), (.ref 178)⟩, ⟨PyData.keyHash P (Str.ofString "add"), (.str (Str.ofString "add") 531), (.ref 185)⟩, ⟨PyData.keyHash P (Str.ofString "search"), (.str (Str.ofString "search") 547), (.ref 192)⟩, ⟨PyData.keyHash P (Str.ofString "maxsize"), (.str (Str.ofString "maxsize") 555), (.ref 209)⟩, ⟨PyData.keyHash P (Str.ofString "_shrink"), (.str (Str.ofString "_shrink") 576), (.ref 216)⟩, ⟨PyData.keyHash P (Str.ofString "__static_attributes__"), (.str (Str.ofString "__static_attributes__") 581), (.ref 217)⟩, ⟨PyData.keyHash P (Str.ofString "__dict__"), (.str (Str.ofString "__dict__") 583), (.ref 220)⟩, ⟨PyData.keyHash P (Str.ofString "__weakref__"), (.str (Str.ofString "__weakref__") 585), (.ref 221)⟩, ⟨PyData.keyHash P (Str.ofString "__doc__"), (.str (Str.ofString "__doc__") 586), .none⟩] 4), #[]⟩
noncomputable def xK_219 (P : Params) : Obj := ⟨(.type "type"), none, (.cls { name := (Str.ofString "HeaderTable"), bases := [(.type "object")], mro := [(.ref 219), (.type "object")], ns := 218, qualname := (Str.ofString "HeaderTable"), hasDict := true, slotNames := [], subclasses := [], abstract := false, collection := none, hasDel := false }), #[none, none, (some (.str (Str.ofString "HeaderTable") 359)), (some (.str (Str.ofString "HeaderTable") 367)), (some (.builtin "object.__new__")), (some (.bool true))]⟩
noncomputable def xK_220 (P : Params) : Obj := ⟨(.type "getset_descriptor"), none, (.fields #[(.str (Str.ofString "__dict__") 582), (.ref 219), (.builtin "function.__dict__"), (.builtin "function.__dict__#set")]), #[]⟩
noncomputable def xK_221 (P : Params) : Obj := ⟨(.type "getset_descriptor"), none, (.fields #[(.str (Str.ofString "__weakref__") 584), (.ref 219), (.builtin "ExceptionGroup.__weakref__"), .none]), #[]⟩
noncomputable def xK_222 (P : Params) : Obj := ⟨(.type "super"), none, (.fields #[(.ref 219), (.ref 219), (.ref 219)]), #[]⟩
noncomputable def xK_223 (P : Params) : Obj := ⟨(.type "builtin_function_or_method"), none, (.fields #[(.builtin "object.__init_subclass__"), (.ref 219)]), #[]⟩
noncomputable def xK_224 (P : Params) : Obj := ⟨(.type "tuple"), none, (.seq #[] 0), #[]⟩
noncomputable def xK_225 (P : Params) : Obj := ⟨.none, none, (.fields #[]), #[]⟩
noncomputable def xK_226 (P : Params) : Obj := ⟨(.type "tuple"), none, (.seq #[(.str (Str.ofString "static_table_mapping") 592), (.str (Str.ofString "index") 593), (.str (Str.ofString "name") 594), (.str (Str.ofString "value") 595), (.str (Str.ofString "header_name_search_result") 596)] 0), #[]⟩
noncomputable def xK_227 (P : Params) : Obj := ⟨(.type "tuple"), none, (.seq #[] 0), #[]⟩
noncomputable def xK_228 (P : Params) : Obj := ⟨.none, none, (.func { name := (Str.ofString "_build_static_table_mapping"), qualname := (Str.ofString "_build_static_table_mapping"), params := fp1 (fdOf 9), body := .stmts (fp2 (fdOf 9)), scope := fp3 (fdOf 9), globals := 0, closure := [], defaults := .none, kwdefaults := .none, doc := .none, pyModule := .none, annotations := none, code := .none, closureTuple := .none, builtins := 0 }), #[]⟩
noncomputable def xK_229 (P : Params) : Obj := ⟨(.type "code"), none, (.fields #[(.str (Str.ofString "_build_static_table_mapping") 589), (.str (Str.ofString "_build_static_table_mapping") 590), (.str (Str.ofString "/claim/cut.py") 591), (.int 89 0), (.int 0 0), (.int 0 0), (.int 0 0), (.int 3 0), (.ref 224), (.bool true), (.int 273 0), (.ref 225), .none, (.ref 226), (.ref 227), (.ref 228), (.int 597 0), (.int 89 0), (.str (Str.ofString "/claim/cut.py") 598)]), #[]⟩
noncomputable def xK_230 (P : Params) : Obj := ⟨(.type "function"), none, (.func { name := (Str.ofString "_build_static_table_mapping"), qualname := (Str.ofString "_build_static_table_mapping"), params := fp1 (fdOf 9), body := .stmts (fp2 (fdOf 9)), scope := fp3 (fdOf 9), globals := 3, closure := [], defaults := .none, kwdefaults := .none, doc := .none, pyModule := (.str (Str.ofString "hpack.table") 349), annotations := none, code := (.ref 229), closureTuple := .none, builtins := 0 }), #[]⟩
noncomputable def treeK (P : Params) : BT := (.node (xB_0 P) (.node (xB_1 P) (.node (xK_3 P) (.node (xB_7 P) (.node (xB_15 P) (.node (xB_31 P) (.node (xK_63 P) (.node (xK_127 P) .nil .nil) (.node (xK_191 P) .nil .nil)) (.node (xK_95 P) (.node (xK_159 P) .nil .nil) (.node (xK_223 P) .nil .nil))) (.node (xK_47 P) (.node (xK_79 P) (.node (xK_143 P) .nil .nil) (.node (xK_207 P) .nil .nil)) (.node (xK_111 P) (.node (xK_175 P) .nil .nil) .nil))) (.node (xB_23 P) (.node (xK_39 P) (.node (xK_71 P) (.node (xK_135 P) .nil .nil) (.node (xK_199 P) .nil .nil)) (.node (xK_103 P) (.node (xK_167 P) .nil .nil) .nil)) (.node (xK_55 P) (.node (xK_87 P) (.node (xK_151 P) .nil .nil) (.node (xK_215 P) .nil .nil)) (.node (xK_119 P) (.node (xK_183 P) .nil .nil) .nil)))) (.node (xB_11 P) (.node (xB_19 P) (.node (xK_35 P) (.node (xK_67 P) (.node (xK_131 P) .nil .nil) (.node (xK_195 P) .nil .nil)) (.node (xK_99 P) (.node (xK_163 P) .nil .nil) (.node (xK_227 P) .nil .nil))) (.node (xK_51 P) (.node (xK_83 P) (.node (xK_147 P) .nil .nil) (.node (xK_211 P) .nil .nil)) (.node (xK_115 P) (.node (xK_179 P) .nil .nil) .nil))) (.node (xB_27 P) (.node (xK_43 P) (.node (xK_75 P) (.node (xK_139 P) .nil .nil) (.node (xK_203 P) .nil .nil)) (.node (xK_107 P) (.node (xK_171 P) .nil .nil) .nil)) (.node (xK_59 P) (.node (xK_91 P) (.node (xK_155 P) .nil .nil) (.node (xK_219 P) .nil .nil)) (.node (xK_123 P) (.node (xK_187 P) .nil .nil) .nil))))) (.node (xB_5 P) (.node (xB_9 P) (.node (xB_17 P) (.node (xK_33 P) (.node (xK_65 P) (.node (xK_129 P) .nil .nil) (.node (xK_193 P) .nil .nil)) (.node (xK_97 P) (.node (xK_161 P) .nil .nil) (.node (xK_225 P) .nil .nil))) (.node (xK_49 P) (.node (xK_81 P) (.node (xK_145 P) .nil .nil) (.node (xK_209 P) .nil .nil)) (.node (xK_113 P) (.node (xK_177 P) .nil .nil) .nil))) (.node (xB_25 P) (.node (xK_41 P) (.node (xK_73 P) (.node (xK_137 P) .nil .nil) (.node (xK_201 P) .nil .nil)) (.node (xK_105 P) (.node (xK_169 P) .nil .nil) .nil)) (.node (xK_57 P) (.node (xK_89 P) (.node (xK_153 P) .nil .nil) (.node (xK_217 P) .nil .nil)) (.node (xK_121 P) (.node (xK_185 P) .nil .nil) .nil)))) (.node (xB_13 P) (.node (xB_21 P) (.node (xK_37 P) (.node (xK_69 P) (.node (xK_133 P) .nil .nil) (.node (xK_197 P) .nil .nil)) (.node (xK_101 P) (.node (xK_165 P) .nil .nil) (.node (xK_229 P) .nil .nil))) (.node (xK_53 P) (.node (xK_85 P) (.node (xK_149 P) .nil .nil) (.node (xK_213 P) .nil .nil)) (.node (xK_117 P) (.node (xK_181 P) .nil .nil) .nil))) (.node (xB_29 P) (.node (xK_45 P) (.node (xK_77 P) (.node (xK_141 P) .nil .nil) (.node (xK_205 P) .nil .nil)) (.node (xK_109 P) (.node (xK_173 P) .nil .nil) .nil)) (.node (xK_61 P) (.node (xK_93 P) (.node (xK_157 P) .nil .nil) (.node (xK_221 P) .nil .nil)) (.node (xK_125 P) (.node (xK_189 P) .nil .nil) .nil)))))) (.node (xK_2 P) (.node (xB_4 P) (.node (xB_8 P) (.node (xB_16 P) (.node (xB_32 P) (.node (xK_64 P) (.node (xK_128 P) .nil .nil) (.node (xK_192 P) .nil .nil)) (.node (xK_96 P) (.node (xK_160 P) .nil .nil) (.node (xK_224 P) .nil .nil))) (.node (xK_48 P) (.node (xK_80 P) (.node (xK_144 P) .nil .nil) (.node (xK_208 P) .nil .nil)) (.node (xK_112 P) (.node (xK_176 P) .nil .nil) .nil))) (.node (xB_24 P) (.node (xK_40 P) (.node (xK_72 P) (.node (xK_136 P) .nil .nil) (.node (xK_200 P) .nil .nil)) (.node (xK_104 P) (.node (xK_168 P) .nil .nil) .nil)) (.node (xK_56 P) (.node (xK_88 P) (.node (xK_152 P) .nil .nil) (.node (xK_216 P) .nil .nil)) (.node (xK_120 P) (.node (xK_184 P) .nil .nil) .nil)))) (.node (xB_12 P) (.node (xB_20 P) (.node (xK_36 P) (.node (xK_68 P) (.node (xK_132 P) .nil .nil) (.node (xK_196 P) .nil .nil)) (.node (xK_100 P) (.node (xK_164 P) .nil .nil) (.node (xK_228 P) .nil .nil))) (.node (xK_52 P) (.node (xK_84 P) (.node (xK_148 P) .nil .nil) (.node (xK_212 P) .nil .nil)) (.node (xK_116 P) (.node (xK_180 P) .nil .nil) .nil))) (.node (xB_28 P) (.node (xK_44 P) (.node (xK_76 P) (.node (xK_140 P) .nil .nil) (.node (xK_204 P) .nil .nil)) (.node (xK_108 P) (.node (xK_172 P) .nil .nil) .nil)) (.node (xK_60 P) (.node (xK_92 P) (.node (xK_156 P) .nil .nil) (.node (xK_220 P) .nil .nil)) (.node (xK_124 P) (.node (xK_188 P) .nil .nil) .nil))))) (.node (xB_6 P) (.node (xB_10 P) (.node (xB_18 P) (.node (xK_34 P) (.node (xK_66 P) (.node (xK_130 P) .nil .nil) (.node (xK_194 P) .nil .nil)) (.node (xK_98 P) (.node (xK_162 P) .nil .nil) (.node (xK_226 P) .nil .nil))) (.node (xK_50 P) (.node (xK_82 P) (.node (xK_146 P) .nil .nil) (.node (xK_210 P) .nil .nil)) (.node (xK_114 P) (.node (xK_178 P) .nil .nil) .nil))) (.node (xB_26 P) (.node (xK_42 P) (.node (xK_74 P) (.node (xK_138 P) .nil .nil) (.node (xK_202 P) .nil .nil)) (.node (xK_106 P) (.node (xK_170 P) .nil .nil) .nil)) (.node (xK_58 P) (.node (xK_90 P) (.node (xK_154 P) .nil .nil) (.node (xK_218 P) .nil .nil)) (.node (xK_122 P) (.node (xK_186 P) .nil .nil) .nil)))) (.node (xB_14 P) (.node (xB_22 P) (.node (xK_38 P) (.node (xK_70 P) (.node (xK_134 P) .nil .nil) (.node (xK_198 P) .nil .nil)) (.node (xK_102 P) (.node (xK_166 P) .nil .nil) (.node (xK_230 P) .nil .nil))) (.node (xK_54 P) (.node (xK_86 P) (.node (xK_150 P) .nil .nil) (.node (xK_214 P) .nil .nil)) (.node (xK_118 P) (.node (xK_182 P) .nil .nil) .nil))) (.node (xK_30 P) (.node (xK_46 P) (.node (xK_78 P) (.node (xK_142 P) .nil .nil) (.node (xK_206 P) .nil .nil)) (.node (xK_110 P) (.node (xK_174 P) .nil .nil) .nil)) (.node (xK_62 P) (.node (xK_94 P) (.node (xK_158 P) .nil .nil) (.node (xK_222 P) .nil .nil)) (.node (xK_126 P) (.node (xK_190 P) .nil .nil) .nil)))))))
noncomputable def x0_231 (P : Params) : Obj := ⟨(.type "frame"), none, (.dict #[⟨PyData.keyHash P ⟨#[115, 116, 97, 116, 105, 99, 95, 116, 97, 98, 108, 101, 95, 109, 97, 112, 112, 105, 110, 103]⟩, (.str ⟨#[115, 116, 97, 116, 105, 99, 95, 116, 97, 98, 108, 101, 95, 109, 97, 112, 112, 105, 110, 103]⟩ 600), (.ref 232)⟩] 1), #[]⟩
noncomputable def x0_232 (P : Params) : Obj := ⟨(.type "dict"), none, (.dict #[] 0), #[]⟩
noncomputable def x0_233 (P : Params) : Obj := ⟨(.type "tuple_iterator"), none, (.fields #[(.ref 157), (.int 0 0)]), #[]⟩
noncomputable def x0_234 (P : Params) : Obj := ⟨(.type "enumerate"), none, (.fields #[.none, (.bool false), (.ref 233), (.int 1 0), .none, .none]), #[]⟩
noncomputable def tree0 (P : Params) : BT := (.node (xB_0 P) (.node (xB_1 P) (.node (xK_3 P) (.node (xB_7 P) (.node (xB_15 P) (.node (xB_31 P) (.node (xK_63 P) (.node (xK_127 P) .nil .nil) (.node (xK_191 P) .nil .nil)) (.node (xK_95 P) (.node (xK_159 P) .nil .nil) (.node (xK_223 P) .nil .nil))) (.node (xK_47 P) (.node (xK_79 P) (.node (xK_143 P) .nil .nil) (.node (xK_207 P) .nil .nil)) (.node (xK_111 P) (.node (xK_175 P) .nil .nil) .nil))) (.node (xB_23 P) (.node (xK_39 P) (.node (xK_71 P) (.node (xK_135 P) .nil .nil) (.node (xK_199 P) .nil .nil)) (.node (xK_103 P) (.node (xK_167 P) .nil .nil) (.node (x0_231 P) .nil .nil))) (.node (xK_55 P) (.node (xK_87 P) (.node (xK_151 P) .nil .nil) (.node (xK_215 P) .nil .nil)) (.node (xK_119 P) (.node (xK_183 P) .nil .nil) .nil)))) (.node (xB_11 P) (.node (xB_19 P) (.node (xK_35 P) (.node (xK_67 P) (.node (xK_131 P) .nil .nil) (.node (xK_195 P) .nil .nil)) (.node (xK_99 P) (.node (xK_163 P) .nil .nil) (.node (xK_227 P) .nil .nil))) (.node (xK_51 P) (.node (xK_83 P) (.node (xK_147 P) .nil .nil) (.node (xK_211 P) .nil .nil)) (.node (xK_115 P) (.node (xK_179 P) .nil .nil) .nil))) (.node (xB_27 P) (.node (xK_43 P) (.node (xK_75 P) (.node (xK_139 P) .nil .nil) (.node (xK_203 P) .nil .nil)) (.node (xK_107 P) (.node (xK_171 P) .nil .nil) .nil)) (.node (xK_59 P) (.node (xK_91 P) (.node (xK_155 P) .nil .nil) (.node (xK_219 P) .nil .nil)) (.node (xK_123 P) (.node (xK_187 P) .nil .nil) .nil))))) (.node (xB_5 P) (.node (xB_9 P) (.node (xB_17 P) (.node (xK_33 P) (.node (xK_65 P) (.node (xK_129 P) .nil .nil) (.node (xK_193 P) .nil .nil)) (.node (xK_97 P) (.node (xK_161 P) .nil .nil) (.node (xK_225 P) .nil .nil))) (.node (xK_49 P) (.node (xK_81 P) (.node (xK_145 P) .nil .nil) (.node (xK_209 P) .nil .nil)) (.node (xK_113 P) (.node (xK_177 P) .nil .nil) .nil))) (.node (xB_25 P) (.node (xK_41 P) (.node (xK_73 P) (.node (xK_137 P) .nil .nil) (.node (xK_201 P) .nil .nil)) (.node (xK_105 P) (.node (xK_169 P) .nil .nil) (.node (x0_233 P) .nil .nil))) (.node (xK_57 P) (.node (xK_89 P) (.node (xK_153 P) .nil .nil) (.node (xK_217 P) .nil .nil)) (.node (xK_121 P) (.node (xK_185 P) .nil .nil) .nil)))) (.node (xB_13 P) (.node (xB_21 P) (.node (xK_37 P) (.node (xK_69 P) (.node (xK_133 P) .nil .nil) (.node (xK_197 P) .nil .nil)) (.node (xK_101 P) (.node (xK_165 P) .nil .nil) (.node (xK_229 P) .nil .nil))) (.node (xK_53 P) (.node (xK_85 P) (.node (xK_149 P) .nil .nil) (.node (xK_213 P) .nil .nil)) (.node (xK_117 P) (.node (xK_181 P) .nil .nil) .nil))) (.node (xB_29 P) (.node (xK_45 P) (.node (xK_77 P) (.node (xK_141 P) .nil .nil) (.node (xK_205 P) .nil .nil)) (.node (xK_109 P) (.node (xK_173 P) .nil .nil) .nil)) (.node (xK_61 P) (.node (xK_93 P) (.node (xK_157 P) .nil .nil) (.node (xK_221 P) .nil .nil)) (.node (xK_125 P) (.node (xK_189 P) .nil .nil) .nil)))))) (.node (xK_2 P) (.node (xB_4 P) (.node (xB_8 P) (.node (xB_16 P) (.node (xB_32 P) (.node (xK_64 P) (.node (xK_128 P) .nil .nil) (.node (xK_192 P) .nil .nil)) (.node (xK_96 P) (.node (xK_160 P) .nil .nil) (.node (xK_224 P) .nil .nil))) (.node (xK_48 P) (.node (xK_80 P) (.node (xK_144 P) .nil .nil) (.node (xK_208 P) .nil .nil)) (.node (xK_112 P) (.node (xK_176 P) .nil .nil) .nil))) (.node (xB_24 P) (.node (xK_40 P) (.node (xK_72 P) (.node (xK_136 P) .nil .nil) (.node (xK_200 P) .nil .nil)) (.node (xK_104 P) (.node (xK_168 P) .nil .nil) (.node (x0_232 P) .nil .nil))) (.node (xK_56 P) (.node (xK_88 P) (.node (xK_152 P) .nil .nil) (.node (xK_216 P) .nil .nil)) (.node (xK_120 P) (.node (xK_184 P) .nil .nil) .nil)))) (.node (xB_12 P) (.node (xB_20 P) (.node (xK_36 P) (.node (xK_68 P) (.node (xK_132 P) .nil .nil) (.node (xK_196 P) .nil .nil)) (.node (xK_100 P) (.node (xK_164 P) .nil .nil) (.node (xK_228 P) .nil .nil))) (.node (xK_52 P) (.node (xK_84 P) (.node (xK_148 P) .nil .nil) (.node (xK_212 P) .nil .nil)) (.node (xK_116 P) (.node (xK_180 P) .nil .nil) .nil))) (.node (xB_28 P) (.node (xK_44 P) (.node (xK_76 P) (.node (xK_140 P) .nil .nil) (.node (xK_204 P) .nil .nil)) (.node (xK_108 P) (.node (xK_172 P) .nil .nil) .nil)) (.node (xK_60 P) (.node (xK_92 P) (.node (xK_156 P) .nil .nil) (.node (xK_220 P) .nil .nil)) (.node (xK_124 P) (.node (xK_188 P) .nil .nil) .nil))))) (.node (xB_6 P) (.node (xB_10 P) (.node (xB_18 P) (.node (xK_34 P) (.node (xK_66 P) (.node (xK_130 P) .nil .nil) (.node (xK_194 P) .nil .nil)) (.node (xK_98 P) (.node (xK_162 P) .nil .nil) (.node (xK_226 P) .nil .nil))) (.node (xK_50 P) (.node (xK_82 P) (.node (xK_146 P) .nil .nil) (.node (xK_210 P) .nil .nil)) (.node (xK_114 P) (.node (xK_178 P) .nil .nil) .nil))) (.node (xB_26 P) (.node (xK_42 P) (.node (xK_74 P) (.node (xK_138 P) .nil .nil) (.node (xK_202 P) .nil .nil)) (.node (xK_106 P) (.node (xK_170 P) .nil .nil) (.node (x0_234 P) .nil .nil))) (.node (xK_58 P) (.node (xK_90 P) (.node (xK_154 P) .nil .nil) (.node (xK_218 P) .nil .nil)) (.node (xK_122 P) (.node (xK_186 P) .nil .nil) .nil)))) (.node (xB_14 P) (.node (xB_22 P) (.node (xK_38 P) (.node (xK_70 P) (.node (xK_134 P) .nil .nil) (.node (xK_198 P) .nil .nil)) (.node (xK_102 P) (.node (xK_166 P) .nil .nil) (.node (xK_230 P) .nil .nil))) (.node (xK_54 P) (.node (xK_86 P) (.node (xK_150 P) .nil .nil) (.node (xK_214 P) .nil .nil)) (.node (xK_118 P) (.node (xK_182 P) .nil .nil) .nil))) (.node (xK_30 P) (.node (xK_46 P) (.node (xK_78 P) (.node (xK_142 P) .nil .nil) (.node (xK_206 P) .nil .nil)) (.node (xK_110 P) (.node (xK_174 P) .nil .nil) .nil)) (.node (xK_62 P) (.node (xK_94 P) (.node (xK_158 P) .nil .nil) (.node (xK_222 P) .nil .nil)) (.node (xK_126 P) (.node (xK_190 P) .nil .nil) .nil)))))))
noncomputable def x1_231 (P : Params) : Obj := ⟨(.type "frame"), none, (.dict #[⟨PyData.keyHash P ⟨#[115, 116, 97, 116, 105, 99, 95, 116, 97, 98, 108, 101, 95, 109, 97, 112, 112, 105, 110, 103]⟩, (.str ⟨#[115, 116, 97, 116, 105, 99, 95, 116, 97, 98, 108, 101, 95, 109, 97, 112, 112, 105, 110, 103]⟩ 600), (.ref 232)⟩, ⟨PyData.keyHash P ⟨#[105, 110, 100, 101, 120]⟩, (.str ⟨#[105, 110, 100, 101, 120]⟩ 604), (.int 10 675)⟩, ⟨PyData.keyHash P ⟨#[110, 97, 109, 101]⟩, (.str ⟨#[110, 97, 109, 101]⟩ 605), (.bytes #[58, 115, 116, 97, 116, 117, 115] 391)⟩, ⟨PyData.keyHash P ⟨#[118, 97, 108, 117, 101]⟩, (.str ⟨#[118, 97, 108, 117, 101]⟩ 606), (.bytes #[50, 48, 54] 392)⟩, ⟨PyData.keyHash P ⟨#[104, 101, 97, 100, 101, 114, 95, 110, 97, 109, 101, 95, 115, 101, 97, 114, 99, 104, 95, 114, 101, 115, 117, 108, 116]⟩, (.str ⟨#[104, 101, 97, 100, 101, 114, 95, 110, 97, 109, 101, 95, 115, 101, 97, 114, 99, 104, 95, 114, 101, 115, 117, 108, 116]⟩ 608), (.ref 306)⟩] 5), #[]⟩
noncomputable def x1_232 (P : Params) : Obj := ⟨(.type "dict"), none, (.dict #[⟨bhash P #[58, 97, 117, 116, 104, 111, 114, 105, 116, 121], (.bytes #[58, 97, 117, 116, 104, 111, 114, 105, 116, 121] 373), (.ref 243)⟩, ⟨bhash P #[58, 109, 101, 116, 104, 111, 100], (.bytes #[58, 109, 101, 116, 104, 111, 100] 375), (.ref 252)⟩, ⟨bhash P #[58, 112, 97, 116, 104], (.bytes #[58, 112, 97, 116, 104] 379), (.ref 270)⟩, ⟨bhash P #[58, 115, 99, 104, 101, 109, 101], (.bytes #[58, 115, 99, 104, 101, 109, 101] 383), (.ref 288)⟩, ⟨bhash P #[58, 115, 116, 97, 116, 117, 115], (.bytes #[58, 115, 116, 97, 116, 117, 115] 387), (.ref 306)⟩] 5), #[]⟩
noncomputable def x1_233 (P : Params) : Obj := ⟨(.type "tuple_iterator"), none, (.fields #[(.ref 157), (.int 10 0)]), #[]⟩
noncomputable def x1_234 (P : Params) : Obj := ⟨(.type "enumerate"), none, (.fields #[.none, (.bool false), (.ref 233), (.int 11 0), .none, (.ref 105)]), #[]⟩
noncomputable def x1_235 (P : Params) : Obj := ⟨(.type "tuple"), none, (.seq #[(.int 1 603), (.ref 96)] 0), #[]⟩
noncomputable def x1_236 (P : Params) : Obj := ⟨(.type "tuple_iterator"), none, (.fields #[.none, (.int 2 0)]), #[]⟩
noncomputable def x1_237 (P : Params) : Obj := ⟨(.type "tuple"), none, (.seq #[] 0), #[]⟩
noncomputable def x1_238 (P : Params) : Obj := ⟨(.type "StopIteration"), none, (.fields #[(.ref 237), .none, .none, .none, (.bool false), .none]), #[]⟩
noncomputable def x1_239 (P : Params) : Obj := ⟨(.type "tuple_iterator"), none, (.fields #[.none, (.int 2 0)]), #[]⟩
noncomputable def x1_240 (P : Params) : Obj := ⟨(.type "tuple"), none, (.seq #[] 0), #[]⟩
noncomputable def x1_241 (P : Params) : Obj := ⟨(.type "StopIteration"), none, (.fields #[(.ref 240), .none, .none, .none, (.bool false), .none]), #[]⟩
noncomputable def x1_242 (P : Params) : Obj := ⟨(.type "dict"), none, (.dict #[⟨bhash P #[], (.bytes #[] 374), (.int 1 603)⟩] 1), #[]⟩
noncomputable def x1_243 (P : Params) : Obj := ⟨(.type "tuple"), none, (.seq #[(.int 1 603), (.ref 242)] 0), #[]⟩
noncomputable def x1_244 (P : Params) : Obj := ⟨(.type "tuple"), none, (.seq #[(.int 2 611), (.ref 97)] 0), #[]⟩
noncomputable def x1_245 (P : Params) : Obj := ⟨(.type "tuple_iterator"), none, (.fields #[.none, (.int 2 0)]), #[]⟩
noncomputable def x1_246 (P : Params) : Obj := ⟨(.type "tuple"), none, (.seq #[] 0), #[]⟩
noncomputable def x1_247 (P : Params) : Obj := ⟨(.type "StopIteration"), none, (.fields #[(.ref 246), .none, .none, .none, (.bool false), .none]), #[]⟩
noncomputable def x1_248 (P : Params) : Obj := ⟨(.type "tuple_iterator"), none, (.fields #[.none, (.int 2 0)]), #[]⟩
noncomputable def x1_249 (P : Params) : Obj := ⟨(.type "tuple"), none, (.seq #[] 0), #[]⟩
noncomputable def x1_250 (P : Params) : Obj := ⟨(.type "StopIteration"), none, (.fields #[(.ref 249), .none, .none, .none, (.bool false), .none]), #[]⟩
noncomputable def x1_251 (P : Params) : Obj := ⟨(.type "dict"), none, (.dict #[⟨bhash P #[71, 69, 84], (.bytes #[71, 69, 84] 376), (.int 2 611)⟩, ⟨bhash P #[80, 79, 83, 84], (.bytes #[80, 79, 83, 84] 378), (.int 3 619)⟩] 2), #[]⟩
noncomputable def x1_252 (P : Params) : Obj := ⟨(.type "tuple"), none, (.seq #[(.int 2 611), (.ref 251)] 0), #[]⟩
noncomputable def x1_253 (P : Params) : Obj := ⟨(.type "tuple"), none, (.seq #[(.int 3 619), (.ref 98)] 0), #[]⟩
noncomputable def x1_254 (P : Params) : Obj := ⟨(.type "tuple_iterator"), none, (.fields #[.none, (.int 2 0)]), #[]⟩
noncomputable def x1_255 (P : Params) : Obj := ⟨(.type "tuple"), none, (.seq #[] 0), #[]⟩
noncomputable def x1_256 (P : Params) : Obj := ⟨(.type "StopIteration"), none, (.fields #[(.ref 255), .none, .none, .none, (.bool false), .none]), #[]⟩
noncomputable def x1_257 (P : Params) : Obj := ⟨(.type "tuple_iterator"), none, (.fields #[.none, (.int 2 0)]), #[]⟩
noncomputable def x1_258 (P : Params) : Obj := ⟨(.type "tuple"), none, (.seq #[] 0), #[]⟩
noncomputable def x1_259 (P : Params) : Obj := ⟨(.type "StopIteration"), none, (.fields #[(.ref 258), .none, .none, .none, (.bool false), .none]), #[]⟩
noncomputable def x1_260 (P : Params) : Obj := ⟨(.type "dict"), none, (.dict #[] 0), #[]⟩
noncomputable def x1_261 (P : Params) : Obj := ⟨(.type "tuple"), none, (.seq #[(.int 3 619), (.ref 260)] 0), #[]⟩
noncomputable def x1_262 (P : Params) : Obj := ⟨(.type "tuple"), none, (.seq #[(.int 4 627), (.ref 99)] 0), #[]⟩
noncomputable def x1_263 (P : Params) : Obj := ⟨(.type "tuple_iterator"), none, (.fields #[.none, (.int 2 0)]), #[]⟩
noncomputable def x1_264 (P : Params) : Obj := ⟨(.type "tuple"), none, (.seq #[] 0), #[]⟩
noncomputable def x1_265 (P : Params) : Obj := ⟨(.type "StopIteration"), none, (.fields #[(.ref 264), .none, .none, .none, (.bool false), .none]), #[]⟩
noncomputable def x1_266 (P : Params) : Obj := ⟨(.type "tuple_iterator"), none, (.fields #[.none, (.int 2 0)]), #[]⟩
noncomputable def x1_267 (P : Params) : Obj := ⟨(.type "tuple"), none, (.seq #[] 0), #[]⟩
noncomputable def x1_268 (P : Params) : Obj := ⟨(.type "StopIteration"), none, (.fields #[(.ref 267), .none, .none, .none, (.bool false), .none]), #[]⟩
noncomputable def x1_269 (P : Params) : Obj := ⟨(.type "dict"), none, (.dict #[⟨bhash P #[47], (.bytes #[47] 380), (.int 4 627)⟩, ⟨bhash P #[47, 105, 110, 100, 101, 120, 46, 104, 116, 109, 108], (.bytes #[47, 105, 110, 100, 101, 120, 46, 104, 116, 109, 108] 382), (.int 5 635)⟩] 2), #[]⟩
noncomputable def x1_270 (P : Params) : Obj := ⟨(.type "tuple"), none, (.seq #[(.int 4 627), (.ref 269)] 0), #[]⟩
noncomputable def x1_271 (P : Params) : Obj := ⟨(.type "tuple"), none, (.seq #[(.int 5 635), (.ref 100)] 0), #[]⟩
noncomputable def x1_272 (P : Params) : Obj := ⟨(.type "tuple_iterator"), none, (.fields #[.none, (.int 2 0)]), #[]⟩
noncomputable def x1_273 (P : Params) : Obj := ⟨(.type "tuple"), none, (.seq #[] 0), #[]⟩
noncomputable def x1_274 (P : Params) : Obj := ⟨(.type "StopIteration"), none, (.fields #[(.ref 273), .none, .none, .none, (.bool false), .none]), #[]⟩
noncomputable def x1_275 (P : Params) : Obj := ⟨(.type "tuple_iterator"), none, (.fields #[.none, (.int 2 0)]), #[]⟩
noncomputable def x1_276 (P : Params) : Obj := ⟨(.type "tuple"), none, (.seq #[] 0), #[]⟩
noncomputable def x1_277 (P : Params) : Obj := ⟨(.type "StopIteration"), none, (.fields #[(.ref 276), .none, .none, .none, (.bool false), .none]), #[]⟩
noncomputable def x1_278 (P : Params) : Obj := ⟨(.type "dict"), none, (.dict #[] 0), #[]⟩
noncomputable def x1_279 (P : Params) : Obj := ⟨(.type "tuple"), none, (.seq #[(.int 5 635), (.ref 278)] 0), #[]⟩
noncomputable def x1_280 (P : Params) : Obj := ⟨(.type "tuple"), none, (.seq #[(.int 6 643), (.ref 101)] 0), #[]⟩
noncomputable def x1_281 (P : Params) : Obj := ⟨(.type "tuple_iterator"), none, (.fields #[.none, (.int 2 0)]), #[]⟩
noncomputable def x1_282 (P : Params) : Obj := ⟨(.type "tuple"), none, (.seq #[] 0), #[]⟩
noncomputable def x1_283 (P : Params) : Obj := ⟨(.type "StopIteration"), none, (.fields #[(.ref 282), .none, .none, .none, (.bool false), .none]), #[]⟩
noncomputable def x1_284 (P : Params) : Obj := ⟨(.type "tuple_iterator"), none, (.fields #[.none, (.int 2 0)]), #[]⟩
noncomputable def x1_285 (P : Params) : Obj := ⟨(.type "tuple"), none, (.seq #[] 0), #[]⟩
noncomputable def x1_286 (P : Params) : Obj := ⟨(.type "StopIteration"), none, (.fields #[(.ref 285), .none, .none, .none, (.bool false), .none]), #[]⟩
noncomputable def x1_287 (P : Params) : Obj := ⟨(.type "dict"), none, (.dict #[⟨bhash P #[104, 116, 116, 112], (.bytes #[104, 116, 116, 112] 384), (.int 6 643)⟩, ⟨bhash P #[104, 116, 116, 112, 115], (.bytes #[104, 116, 116, 112, 115] 386), (.int 7 651)⟩] 2), #[]⟩
noncomputable def x1_288 (P : Params) : Obj := ⟨(.type "tuple"), none, (.seq #[(.int 6 643), (.ref 287)] 0), #[]⟩
noncomputable def x1_289 (P : Params) : Obj := ⟨(.type "tuple"), none, (.seq #[(.int 7 651), (.ref 102)] 0), #[]⟩
noncomputable def x1_290 (P : Params) : Obj := ⟨(.type "tuple_iterator"), none, (.fields #[.none, (.int 2 0)]), #[]⟩
noncomputable def x1_291 (P : Params) : Obj := ⟨(.type "tuple"), none, (.seq #[] 0), #[]⟩
noncomputable def x1_292 (P : Params) : Obj := ⟨(.type "StopIteration"), none, (.fields #[(.ref 291), .none, .none, .none, (.bool false), .none]), #[]⟩
noncomputable def x1_293 (P : Params) : Obj := ⟨(.type "tuple_iterator"), none, (.fields #[.none, (.int 2 0)]), #[]⟩
noncomputable def x1_294 (P : Params) : Obj := ⟨(.type "tuple"), none, (.seq #[] 0), #[]⟩
noncomputable def x1_295 (P : Params) : Obj := ⟨(.type "StopIteration"), none, (.fields #[(.ref 294), .none, .none, .none, (.bool false), .none]), #[]⟩
noncomputable def x1_296 (P : Params) : Obj := ⟨(.type "dict"), none, (.dict #[] 0), #[]⟩
noncomputable def x1_297 (P : Params) : Obj := ⟨(.type "tuple"), none, (.seq #[(.int 7 651), (.ref 296)] 0), #[]⟩
noncomputable def x1_298 (P : Params) : Obj := ⟨(.type "tuple"), none, (.seq #[(.int 8 659), (.ref 103)] 0), #[]⟩
noncomputable def x1_299 (P : Params) : Obj := ⟨(.type "tuple_iterator"), none, (.fields #[.none, (.int 2 0)]), #[]⟩
noncomputable def x1_300 (P : Params) : Obj := ⟨(.type "tuple"), none, (.seq #[] 0), #[]⟩
noncomputable def x1_301 (P : Params) : Obj := ⟨(.type "StopIteration"), none, (.fields #[(.ref 300), .none, .none, .none, (.bool false), .none]), #[]⟩
noncomputable def x1_302 (P : Params) : Obj := ⟨(.type "tuple_iterator"), none, (.fields #[.none, (.int 2 0)]), #[]⟩
noncomputable def x1_303 (P : Params) : Obj := ⟨(.type "tuple"), none, (.seq #[] 0), #[]⟩
noncomputable def x1_304 (P : Params) : Obj := ⟨(.type "StopIteration"), none, (.fields #[(.ref 303), .none, .none, .none, (.bool false), .none]), #[]⟩
noncomputable def x1_305 (P : Params) : Obj := ⟨(.type "dict"), none, (.dict #[⟨bhash P #[50, 48, 48], (.bytes #[50, 48, 48] 388), (.int 8 659)⟩, ⟨bhash P #[50, 48, 52], (.bytes #[50, 48, 52] 390), (.int 9 667)⟩, ⟨bhash P #[50, 48, 54], (.bytes #[50, 48, 54] 392), (.int 10 675)⟩] 3), #[]⟩
noncomputable def x1_306 (P : Params) : Obj := ⟨(.type "tuple"), none, (.seq #[(.int 8 659), (.ref 305)] 0), #[]⟩
noncomputable def x1_307 (P : Params) : Obj := ⟨(.type "tuple"), none, (.seq #[(.int 9 667), (.ref 104)] 0), #[]⟩
noncomputable def x1_308 (P : Params) : Obj := ⟨(.type "tuple_iterator"), none, (.fields #[.none, (.int 2 0)]), #[]⟩
noncomputable def x1_309 (P : Params) : Obj := ⟨(.type "tuple"), none, (.seq #[] 0), #[]⟩
noncomputable def x1_310 (P : Params) : Obj := ⟨(.type "StopIteration"), none, (.fields #[(.ref 309), .none, .none, .none, (.bool false), .none]), #[]⟩
noncomputable def x1_311 (P : Params) : Obj := ⟨(.type "tuple_iterator"), none, (.fields #[.none, (.int 2 0)]), #[]⟩
noncomputable def x1_312 (P : Params) : Obj := ⟨(.type "tuple"), none, (.seq #[] 0), #[]⟩
noncomputable def x1_313 (P : Params) : Obj := ⟨(.type "StopIteration"), none, (.fields #[(.ref 312), .none, .none, .none, (.bool false), .none]), #[]⟩
noncomputable def x1_314 (P : Params) : Obj := ⟨(.type "dict"), none, (.dict #[] 0), #[]⟩
noncomputable def x1_315 (P : Params) : Obj := ⟨(.type "tuple"), none, (.seq #[(.int 9 667), (.ref 314)] 0), #[]⟩
noncomputable def x1_316 (P : Params) : Obj := ⟨(.type "tuple"), none, (.seq #[(.int 10 675), (.ref 105)] 0), #[]⟩
noncomputable def x1_317 (P : Params) : Obj := ⟨(.type "tuple_iterator"), none, (.fields #[.none, (.int 2 0)]), #[]⟩
noncomputable def x1_318 (P : Params) : Obj := ⟨(.type "tuple"), none, (.seq #[] 0), #[]⟩
noncomputable def x1_319 (P : Params) : Obj := ⟨(.type "StopIteration"), none, (.fields #[(.ref 318), .none, .none, .none, (.bool false), .none]), #[]⟩
noncomputable def x1_320 (P : Params) : Obj := ⟨(.type "tuple_iterator"), none, (.fields #[.none, (.int 2 0)]), #[]⟩
noncomputable def x1_321 (P : Params) : Obj := ⟨(.type "tuple"), none, (.seq #[] 0), #[]⟩
noncomputable def x1_322 (P : Params) : Obj := ⟨(.type "StopIteration"), none, (.fields #[(.ref 321), .none, .none, .none, (.bool false), .none]), #[]⟩
noncomputable def x1_323 (P : Params) : Obj := ⟨(.type "dict"), none, (.dict #[] 0), #[]⟩
noncomputable def x1_324 (P : Params) : Obj := ⟨(.type "tuple"), none, (.seq #[(.int 10 675), (.ref 323)] 0), #[]⟩
noncomputable def tree1 (P : Params) : BT := (.node (xB_0 P) (.node (xB_1 P) (.node (xK_3 P) (.node (xB_7 P) (.node (xB_15 P) (.node (xB_31 P) (.node (xK_63 P) (.node (xK_127 P) (.node (x1_255 P) .nil .nil) .nil) (.node (xK_191 P) (.node (x1_319 P) .nil .nil) .nil)) (.node (xK_95 P) (.node (xK_159 P) (.node (x1_287 P) .nil .nil) .nil) (.node (xK_223 P) .nil .nil))) (.node (xK_47 P) (.node (xK_79 P) (.node (xK_143 P) (.node (x1_271 P) .nil .nil) .nil) (.node (xK_207 P) .nil .nil)) (.node (xK_111 P) (.node (xK_175 P) (.node (x1_303 P) .nil .nil) .nil) (.node (x1_239 P) .nil .nil)))) (.node (xB_23 P) (.node (xK_39 P) (.node (xK_71 P) (.node (xK_135 P) (.node (x1_263 P) .nil .nil) .nil) (.node (xK_199 P) .nil .nil)) (.node (xK_103 P) (.node (xK_167 P) (.node (x1_295 P) .nil .nil) .nil) (.node (x1_231 P) .nil .nil))) (.node (xK_55 P) (.node (xK_87 P) (.node (xK_151 P) (.node (x1_279 P) .nil .nil) .nil) (.node (xK_215 P) .nil .nil)) (.node (xK_119 P) (.node (xK_183 P) (.node (x1_311 P) .nil .nil) .nil) (.node (x1_247 P) .nil .nil))))) (.node (xB_11 P) (.node (xB_19 P) (.node (xK_35 P) (.node (xK_67 P) (.node (xK_131 P) (.node (x1_259 P) .nil .nil) .nil) (.node (xK_195 P) (.node (x1_323 P) .nil .nil) .nil)) (.node (xK_99 P) (.node (xK_163 P) (.node (x1_291 P) .nil .nil) .nil) (.node (xK_227 P) .nil .nil))) (.node (xK_51 P) (.node (xK_83 P) (.node (xK_147 P) (.node (x1_275 P) .nil .nil) .nil) (.node (xK_211 P) .nil .nil)) (.node (xK_115 P) (.node (xK_179 P) (.node (x1_307 P) .nil .nil) .nil) (.node (x1_243 P) .nil .nil)))) (.node (xB_27 P) (.node (xK_43 P) (.node (xK_75 P) (.node (xK_139 P) (.node (x1_267 P) .nil .nil) .nil) (.node (xK_203 P) .nil .nil)) (.node (xK_107 P) (.node (xK_171 P) (.node (x1_299 P) .nil .nil) .nil) (.node (x1_235 P) .nil .nil))) (.node (xK_59 P) (.node (xK_91 P) (.node (xK_155 P) (.node (x1_283 P) .nil .nil) .nil) (.node (xK_219 P) .nil .nil)) (.node (xK_123 P) (.node (xK_187 P) (.node (x1_315 P) .nil .nil) .nil) (.node (x1_251 P) .nil .nil)))))) (.node (xB_5 P) (.node (xB_9 P) (.node (xB_17 P) (.node (xK_33 P) (.node (xK_65 P) (.node (xK_129 P) (.node (x1_257 P) .nil .nil) .nil) (.node (xK_193 P) (.node (x1_321 P) .nil .nil) .nil)) (.node (xK_97 P) (.node (xK_161 P) (.node (x1_289 P) .nil .nil) .nil) (.node (xK_225 P) .nil .nil))) (.node (xK_49 P) (.node (xK_81 P) (.node (xK_145 P) (.node (x1_273 P) .nil .nil) .nil) (.node (xK_209 P) .nil .nil)) (.node (xK_113 P) (.node (xK_177 P) (.node (x1_305 P) .nil .nil) .nil) (.node (x1_241 P) .nil .nil)))) (.node (xB_25 P) (.node (xK_41 P) (.node (xK_73 P) (.node (xK_137 P) (.node (x1_265 P) .nil .nil) .nil) (.node (xK_201 P) .nil .nil)) (.node (xK_105 P) (.node (xK_169 P) (.node (x1_297 P) .nil .nil) .nil) (.node (x1_233 P) .nil .nil))) (.node (xK_57 P) (.node (xK_89 P) (.node (xK_153 P) (.node (x1_281 P) .nil .nil) .nil) (.node (xK_217 P) .nil .nil)) (.node (xK_121 P) (.node (xK_185 P) (.node (x1_313 P) .nil .nil) .nil) (.node (x1_249 P) .nil .nil))))) (.node (xB_13 P) (.node (xB_21 P) (.node (xK_37 P) (.node (xK_69 P) (.node (xK_133 P) (.node (x1_261 P) .nil .nil) .nil) (.node (xK_197 P) .nil .nil)) (.node (xK_101 P) (.node (xK_165 P) (.node (x1_293 P) .nil .nil) .nil) (.node (xK_229 P) .nil .nil))) (.node (xK_53 P) (.node (xK_85 P) (.node (xK_149 P) (.node (x1_277 P) .nil .nil) .nil) (.node (xK_213 P) .nil .nil)) (.node (xK_117 P) (.node (xK_181 P) (.node (x1_309 P) .nil .nil) .nil) (.node (x1_245 P) .nil .nil)))) (.node (xB_29 P) (.node (xK_45 P) (.node (xK_77 P) (.node (xK_141 P) (.node (x1_269 P) .nil .nil) .nil) (.node (xK_205 P) .nil .nil)) (.node (xK_109 P) (.node (xK_173 P) (.node (x1_301 P) .nil .nil) .nil) (.node (x1_237 P) .nil .nil))) (.node (xK_61 P) (.node (xK_93 P) (.node (xK_157 P) (.node (x1_285 P) .nil .nil) .nil) (.node (xK_221 P) .nil .nil)) (.node (xK_125 P) (.node (xK_189 P) (.node (x1_317 P) .nil .nil) .nil) (.node (x1_253 P) .nil .nil))))))) (.node (xK_2 P) (.node (xB_4 P) (.node (xB_8 P) (.node (xB_16 P) (.node (xB_32 P) (.node (xK_64 P) (.node (xK_128 P) (.node (x1_256 P) .nil .nil) .nil) (.node (xK_192 P) (.node (x1_320 P) .nil .nil) .nil)) (.node (xK_96 P) (.node (xK_160 P) (.node (x1_288 P) .nil .nil) .nil) (.node (xK_224 P) .nil .nil))) (.node (xK_48 P) (.node (xK_80 P) (.node (xK_144 P) (.node (x1_272 P) .nil .nil) .nil) (.node (xK_208 P) .nil .nil)) (.node (xK_112 P) (.node (xK_176 P) (.node (x1_304 P) .nil .nil) .nil) (.node (x1_240 P) .nil .nil)))) (.node (xB_24 P) (.node (xK_40 P) (.node (xK_72 P) (.node (xK_136 P) (.node (x1_264 P) .nil .nil) .nil) (.node (xK_200 P) .nil .nil)) (.node (xK_104 P) (.node (xK_168 P) (.node (x1_296 P) .nil .nil) .nil) (.node (x1_232 P) .nil .nil))) (.node (xK_56 P) (.node (xK_88 P) (.node (xK_152 P) (.node (x1_280 P) .nil .nil) .nil) (.node (xK_216 P) .nil .nil)) (.node (xK_120 P) (.node (xK_184 P) (.node (x1_312 P) .nil .nil) .nil) (.node (x1_248 P) .nil .nil))))) (.node (xB_12 P) (.node (xB_20 P) (.node (xK_36 P) (.node (xK_68 P) (.node (xK_132 P) (.node (x1_260 P) .nil .nil) .nil) (.node (xK_196 P) (.node (x1_324 P) .nil .nil) .nil)) (.node (xK_100 P) (.node (xK_164 P) (.node (x1_292 P) .nil .nil) .nil) (.node (xK_228 P) .nil .nil))) (.node (xK_52 P) (.node (xK_84 P) (.node (xK_148 P) (.node (x1_276 P) .nil .nil) .nil) (.node (xK_212 P) .nil .nil)) (.node (xK_116 P) (.node (xK_180 P) (.node (x1_308 P) .nil .nil) .nil) (.node (x1_244 P) .nil .nil)))) (.node (xB_28 P) (.node (xK_44 P) (.node (xK_76 P) (.node (xK_140 P) (.node (x1_268 P) .nil .nil) .nil) (.node (xK_204 P) .nil .nil)) (.node (xK_108 P) (.node (xK_172 P) (.node (x1_300 P) .nil .nil) .nil) (.node (x1_236 P) .nil .nil))) (.node (xK_60 P) (.node (xK_92 P) (.node (xK_156 P) (.node (x1_284 P) .nil .nil) .nil) (.node (xK_220 P) .nil .nil)) (.node (xK_124 P) (.node (xK_188 P) (.node (x1_316 P) .nil .nil) .nil) (.node (x1_252 P) .nil .nil)))))) (.node (xB_6 P) (.node (xB_10 P) (.node (xB_18 P) (.node (xK_34 P) (.node (xK_66 P) (.node (xK_130 P) (.node (x1_258 P) .nil .nil) .nil) (.node (xK_194 P) (.node (x1_322 P) .nil .nil) .nil)) (.node (xK_98 P) (.node (xK_162 P) (.node (x1_290 P) .nil .nil) .nil) (.node (xK_226 P) .nil .nil))) (.node (xK_50 P) (.node (xK_82 P) (.node (xK_146 P) (.node (x1_274 P) .nil .nil) .nil) (.node (xK_210 P) .nil .nil)) (.node (xK_114 P) (.node (xK_178 P) (.node (x1_306 P) .nil .nil) .nil) (.node (x1_242 P) .nil .nil)))) (.node (xB_26 P) (.node (xK_42 P) (.node (xK_74 P) (.node (xK_138 P) (.node (x1_266 P) .nil .nil) .nil) (.node (xK_202 P) .nil .nil)) (.node (xK_106 P) (.node (xK_170 P) (.node (x1_298 P) .nil .nil) .nil) (.node (x1_234 P) .nil .nil))) (.node (xK_58 P) (.node (xK_90 P) (.node (xK_154 P) (.node (x1_282 P) .nil .nil) .nil) (.node (xK_218 P) .nil .nil)) (.node (xK_122 P) (.node (xK_186 P) (.node (x1_314 P) .nil .nil) .nil) (.node (x1_250 P) .nil .nil))))) (.node (xB_14 P) (.node (xB_22 P) (.node (xK_38 P) (.node (xK_70 P) (.node (xK_134 P) (.node (x1_262 P) .nil .nil) .nil) (.node (xK_198 P) .nil .nil)) (.node (xK_102 P) (.node (xK_166 P) (.node (x1_294 P) .nil .nil) .nil) (.node (xK_230 P) .nil .nil))) (.node (xK_54 P) (.node (xK_86 P) (.node (xK_150 P) (.node (x1_278 P) .nil .nil) .nil) (.node (xK_214 P) .nil .nil)) (.node (xK_118 P) (.node (xK_182 P) (.node (x1_310 P) .nil .nil) .nil) (.node (x1_246 P) .nil .nil)))) (.node (xK_30 P) (.node (xK_46 P) (.node (xK_78 P) (.node (xK_142 P) (.node (x1_270 P) .nil .nil) .nil) (.node (xK_206 P) .nil .nil)) (.node (xK_110 P) (.node (xK_174 P) (.node (x1_302 P) .nil .nil) .nil) (.node (x1_238 P) .nil .nil))) (.node (xK_62 P) (.node (xK_94 P) (.node (xK_158 P) (.node (x1_286 P) .nil .nil) .nil) (.node (xK_222 P) .nil .nil)) (.node (xK_126 P) (.node (xK_190 P) (.node (x1_318 P) .nil .nil) .nil) (.node (x1_254 P) .nil .nil))))))))
noncomputable def x2_231 (P : Params) : Obj := ⟨(.type "frame"), none, (.dict #[⟨PyData.keyHash P ⟨#[115, 116, 97, 116, 105, 99, 95, 116, 97, 98, 108, 101, 95, 109, 97, 112, 112, 105, 110, 103]⟩, (.str ⟨#[115, 116, 97, 116, 105, 99, 95, 116, 97, 98, 108, 101, 95, 109, 97, 112, 112, 105, 110, 103]⟩ 600), (.ref 232)⟩, ⟨PyData.keyHash P ⟨#[105, 110, 100, 101, 120]⟩, (.str ⟨#[105, 110, 100, 101, 120]⟩ 604), (.int 20 755)⟩, ⟨PyData.keyHash P ⟨#[110, 97, 109, 101]⟩, (.str ⟨#[110, 97, 109, 101]⟩ 605), (.bytes #[97, 99, 99, 101, 115, 115, 45, 99, 111, 110, 116, 114, 111, 108, 45, 97, 108, 108, 111, 119, 45, 111, 114, 105, 103, 105, 110] 411)⟩, ⟨PyData.keyHash P ⟨#[118, 97, 108, 117, 101]⟩, (.str ⟨#[118, 97, 108, 117, 101]⟩ 606), (.bytes #[] 412)⟩, ⟨PyData.keyHash P ⟨#[104, 101, 97, 100, 101, 114, 95, 110, 97, 109, 101, 95, 115, 101, 97, 114, 99, 104, 95, 114, 101, 115, 117, 108, 116]⟩, (.str ⟨#[104, 101, 97, 100, 101, 114, 95, 110, 97, 109, 101, 95, 115, 101, 97, 114, 99, 104, 95, 114, 101, 115, 117, 108, 116]⟩ 608), (.ref 414)⟩] 5), #[]⟩
noncomputable def x2_232 (P : Params) : Obj := ⟨(.type "dict"), none, (.dict #[⟨bhash P #[58, 97, 117, 116, 104, 111, 114, 105, 116, 121], (.bytes #[58, 97, 117, 116, 104, 111, 114, 105, 116, 121] 373), (.ref 243)⟩, ⟨bhash P #[58, 109, 101, 116, 104, 111, 100], (.bytes #[58, 109, 101, 116, 104, 111, 100] 375), (.ref 252)⟩, ⟨bhash P #[58, 112, 97, 116, 104], (.bytes #[58, 112, 97, 116, 104] 379), (.ref 270)⟩, ⟨bhash P #[58, 115, 99, 104, 101, 109, 101], (.bytes #[58, 115, 99, 104, 101, 109, 101] 383), (.ref 288)⟩, ⟨bhash P #[58, 115, 116, 97, 116, 117, 115], (.bytes #[58, 115, 116, 97, 116, 117, 115] 387), (.ref 306)⟩, ⟨bhash P #[97, 99, 99, 101, 112, 116, 45, 99, 104, 97, 114, 115, 101, 116], (.bytes #[97, 99, 99, 101, 112, 116, 45, 99, 104, 97, 114, 115, 101, 116] 401), (.ref 369)⟩, ⟨bhash P #[97, 99, 99, 101, 112, 116, 45, 101, 110, 99, 111, 100, 105, 110, 103], (.bytes #[97, 99, 99, 101, 112, 116, 45, 101, 110, 99, 111, 100, 105, 110, 103] 403), (.ref 378)⟩, ⟨bhash P #[97, 99, 99, 101, 112, 116, 45, 108, 97, 110, 103, 117, 97, 103, 101], (.bytes #[97, 99, 99, 101, 112, 116, 45, 108, 97, 110, 103, 117, 97, 103, 101] 405), (.ref 387)⟩, ⟨bhash P #[97, 99, 99, 101, 112, 116, 45, 114, 97, 110, 103, 101, 115], (.bytes #[97, 99, 99, 101, 112, 116, 45, 114, 97, 110, 103, 101, 115] 407), (.ref 396)⟩, ⟨bhash P #[97, 99, 99, 101, 112, 116], (.bytes #[97, 99, 99, 101, 112, 116] 409), (.ref 405)⟩, ⟨bhash P #[97, 99, 99, 101, 115, 115, 45, 99, 111, 110, 116, 114, 111, 108, 45, 97, 108, 108, 111, 119, 45, 111, 114, 105, 103, 105, 110], (.bytes #[97, 99, 99, 101, 115, 115, 45, 99, 111, 110, 116, 114, 111, 108, 45, 97, 108, 108, 111, 119, 45, 111, 114, 105, 103, 105, 110] 411), (.ref 414)⟩] 11), #[]⟩
noncomputable def x2_233 (P : Params) : Obj := ⟨(.type "tuple_iterator"), none, (.fields #[(.ref 157), (.int 20 0)]), #[]⟩
noncomputable def x2_234 (P : Params) : Obj := ⟨(.type "enumerate"), none, (.fields #[.none, (.bool false), (.ref 233), (.int 21 0), .none, (.ref 115)]), #[]⟩
noncomputable def x2_305 (P : Params) : Obj := ⟨(.type "dict"), none, (.dict #[⟨bhash P #[50, 48, 48], (.bytes #[50, 48, 48] 388), (.int 8 659)⟩, ⟨bhash P #[50, 48, 52], (.bytes #[50, 48, 52] 390), (.int 9 667)⟩, ⟨bhash P #[50, 48, 54], (.bytes #[50, 48, 54] 392), (.int 10 675)⟩, ⟨bhash P #[51, 48, 52], (.bytes #[51, 48, 52] 394), (.int 11 683)⟩, ⟨bhash P #[52, 48, 48], (.bytes #[52, 48, 48] 396), (.int 12 691)⟩, ⟨bhash P #[52, 48, 52], (.bytes #[52, 48, 52] 398), (.int 13 699)⟩, ⟨bhash P #[53, 48, 48], (.bytes #[53, 48, 48] 400), (.int 14 707)⟩] 7), #[]⟩
noncomputable def x2_325 (P : Params) : Obj := ⟨(.type "tuple"), none, (.seq #[(.int 11 683), (.ref 106)] 0), #[]⟩
noncomputable def x2_326 (P : Params) : Obj := ⟨(.type "tuple_iterator"), none, (.fields #[.none, (.int 2 0)]), #[]⟩
noncomputable def x2_327 (P : Params) : Obj := ⟨(.type "tuple"), none, (.seq #[] 0), #[]⟩
noncomputable def x2_328 (P : Params) : Obj := ⟨(.type "StopIteration"), none, (.fields #[(.ref 327), .none, .none, .none, (.bool false), .none]), #[]⟩
noncomputable def x2_329 (P : Params) : Obj := ⟨(.type "tuple_iterator"), none, (.fields #[.none, (.int 2 0)]), #[]⟩
noncomputable def x2_330 (P : Params) : Obj := ⟨(.type "tuple"), none, (.seq #[] 0), #[]⟩
noncomputable def x2_331 (P : Params) : Obj := ⟨(.type "StopIteration"), none, (.fields #[(.ref 330), .none, .none, .none, (.bool false), .none]), #[]⟩
noncomputable def x2_332 (P : Params) : Obj := ⟨(.type "dict"), none, (.dict #[] 0), #[]⟩
noncomputable def x2_333 (P : Params) : Obj := ⟨(.type "tuple"), none, (.seq #[(.int 11 683), (.ref 332)] 0), #[]⟩
noncomputable def x2_334 (P : Params) : Obj := ⟨(.type "tuple"), none, (.seq #[(.int 12 691), (.ref 107)] 0), #[]⟩
noncomputable def x2_335 (P : Params) : Obj := ⟨(.type "tuple_iterator"), none, (.fields #[.none, (.int 2 0)]), #[]⟩
noncomputable def x2_336 (P : Params) : Obj := ⟨(.type "tuple"), none, (.seq #[] 0), #[]⟩
noncomputable def x2_337 (P : Params) : Obj := ⟨(.type "StopIteration"), none, (.fields #[(.ref 336), .none, .none, .none, (.bool false), .none]), #[]⟩
noncomputable def x2_338 (P : Params) : Obj := ⟨(.type "tuple_iterator"), none, (.fields #[.none, (.int 2 0)]), #[]⟩
noncomputable def x2_339 (P : Params) : Obj := ⟨(.type "tuple"), none, (.seq #[] 0), #[]⟩
noncomputable def x2_340 (P : Params) : Obj := ⟨(.type "StopIteration"), none, (.fields #[(.ref 339), .none, .none, .none, (.bool false), .none]), #[]⟩
noncomputable def x2_341 (P : Params) : Obj := ⟨(.type "dict"), none, (.dict #[] 0), #[]⟩
noncomputable def x2_342 (P : Params) : Obj := ⟨(.type "tuple"), none, (.seq #[(.int 12 691), (.ref 341)] 0), #[]⟩
noncomputable def x2_343 (P : Params) : Obj := ⟨(.type "tuple"), none, (.seq #[(.int 13 699), (.ref 108)] 0), #[]⟩
noncomputable def x2_344 (P : Params) : Obj := ⟨(.type "tuple_iterator"), none, (.fields #[.none, (.int 2 0)]), #[]⟩
noncomputable def x2_345 (P : Params) : Obj := ⟨(.type "tuple"), none, (.seq #[] 0), #[]⟩
noncomputable def x2_346 (P : Params) : Obj := ⟨(.type "StopIteration"), none, (.fields #[(.ref 345), .none, .none, .none, (.bool false), .none]), #[]⟩
noncomputable def x2_347 (P : Params) : Obj := ⟨(.type "tuple_iterator"), none, (.fields #[.none, (.int 2 0)]), #[]⟩
noncomputable def x2_348 (P : Params) : Obj := ⟨(.type "tuple"), none, (.seq #[] 0), #[]⟩
noncomputable def x2_349 (P : Params) : Obj := ⟨(.type "StopIteration"), none, (.fields #[(.ref 348), .none, .none, .none, (.bool false), .none]), #[]⟩
noncomputable def x2_350 (P : Params) : Obj := ⟨(.type "dict"), none, (.dict #[] 0), #[]⟩
noncomputable def x2_351 (P : Params) : Obj := ⟨(.type "tuple"), none, (.seq #[(.int 13 699), (.ref 350)] 0), #[]⟩
noncomputable def x2_352 (P : Params) : Obj := ⟨(.type "tuple"), none, (.seq #[(.int 14 707), (.ref 109)] 0), #[]⟩
noncomputable def x2_353 (P : Params) : Obj := ⟨(.type "tuple_iterator"), none, (.fields #[.none, (.int 2 0)]), #[]⟩
noncomputable def x2_354 (P : Params) : Obj := ⟨(.type "tuple"), none, (.seq #[] 0), #[]⟩
noncomputable def x2_355 (P : Params) : Obj := ⟨(.type "StopIteration"), none, (.fields #[(.ref 354), .none, .none, .none, (.bool false), .none]), #[]⟩
noncomputable def x2_356 (P : Params) : Obj := ⟨(.type "tuple_iterator"), none, (.fields #[.none, (.int 2 0)]), #[]⟩
noncomputable def x2_357 (P : Params) : Obj := ⟨(.type "tuple"), none, (.seq #[] 0), #[]⟩
noncomputable def x2_358 (P : Params) : Obj := ⟨(.type "StopIteration"), none, (.fields #[(.ref 357), .none, .none, .none, (.bool false), .none]), #[]⟩
noncomputable def x2_359 (P : Params) : Obj := ⟨(.type "dict"), none, (.dict #[] 0), #[]⟩
noncomputable def x2_360 (P : Params) : Obj := ⟨(.type "tuple"), none, (.seq #[(.int 14 707), (.ref 359)] 0), #[]⟩
noncomputable def x2_361 (P : Params) : Obj := ⟨(.type "tuple"), none, (.seq #[(.int 15 715), (.ref 110)] 0), #[]⟩
noncomputable def x2_362 (P : Params) : Obj := ⟨(.type "tuple_iterator"), none, (.fields #[.none, (.int 2 0)]), #[]⟩
noncomputable def x2_363 (P : Params) : Obj := ⟨(.type "tuple"), none, (.seq #[] 0), #[]⟩
noncomputable def x2_364 (P : Params) : Obj := ⟨(.type "StopIteration"), none, (.fields #[(.ref 363), .none, .none, .none, (.bool false), .none]), #[]⟩
noncomputable def x2_365 (P : Params) : Obj := ⟨(.type "tuple_iterator"), none, (.fields #[.none, (.int 2 0)]), #[]⟩
noncomputable def x2_366 (P : Params) : Obj := ⟨(.type "tuple"), none, (.seq #[] 0), #[]⟩
noncomputable def x2_367 (P : Params) : Obj := ⟨(.type "StopIteration"), none, (.fields #[(.ref 366), .none, .none, .none, (.bool false), .none]), #[]⟩
noncomputable def x2_368 (P : Params) : Obj := ⟨(.type "dict"), none, (.dict #[⟨bhash P #[], (.bytes #[] 402), (.int 15 715)⟩] 1), #[]⟩
noncomputable def x2_369 (P : Params) : Obj := ⟨(.type "tuple"), none, (.seq #[(.int 15 715), (.ref 368)] 0), #[]⟩
noncomputable def x2_370 (P : Params) : Obj := ⟨(.type "tuple"), none, (.seq #[(.int 16 723), (.ref 111)] 0), #[]⟩
noncomputable def x2_371 (P : Params) : Obj := ⟨(.type "tuple_iterator"), none, (.fields #[.none, (.int 2 0)]), #[]⟩
noncomputable def x2_372 (P : Params) : Obj := ⟨(.type "tuple"), none, (.seq #[] 0), #[]⟩
noncomputable def x2_373 (P : Params) : Obj := ⟨(.type "StopIteration"), none, (.fields #[(.ref 372), .none, .none, .none, (.bool false), .none]), #[]⟩
noncomputable def x2_374 (P : Params) : Obj := ⟨(.type "tuple_iterator"), none, (.fields #[.none, (.int 2 0)]), #[]⟩
noncomputable def x2_375 (P : Params) : Obj := ⟨(.type "tuple"), none, (.seq #[] 0), #[]⟩
noncomputable def x2_376 (P : Params) : Obj := ⟨(.type "StopIteration"), none, (.fields #[(.ref 375), .none, .none, .none, (.bool false), .none]), #[]⟩
noncomputable def x2_377 (P : Params) : Obj := ⟨(.type "dict"), none, (.dict #[⟨bhash P #[103, 122, 105, 112, 44, 32, 100, 101, 102, 108, 97, 116, 101], (.bytes #[103, 122, 105, 112, 44, 32, 100, 101, 102, 108, 97, 116, 101] 404), (.int 16 723)⟩] 1), #[]⟩
noncomputable def x2_378 (P : Params) : Obj := ⟨(.type "tuple"), none, (.seq #[(.int 16 723), (.ref 377)] 0), #[]⟩
noncomputable def x2_379 (P : Params) : Obj := ⟨(.type "tuple"), none, (.seq #[(.int 17 731), (.ref 112)] 0), #[]⟩
noncomputable def x2_380 (P : Params) : Obj := ⟨(.type "tuple_iterator"), none, (.fields #[.none, (.int 2 0)]), #[]⟩
noncomputable def x2_381 (P : Params) : Obj := ⟨(.type "tuple"), none, (.seq #[] 0), #[]⟩
noncomputable def x2_382 (P : Params) : Obj := ⟨(.type "StopIteration"), none, (.fields #[(.ref 381), .none, .none, .none, (.bool false), .none]), #[]⟩
noncomputable def x2_383 (P : Params) : Obj := ⟨(.type "tuple_iterator"), none, (.fields #[.none, (.int 2 0)]), #[]⟩
noncomputable def x2_384 (P : Params) : Obj := ⟨(.type "tuple"), none, (.seq #[] 0), #[]⟩
noncomputable def x2_385 (P : Params) : Obj := ⟨(.type "StopIteration"), none, (.fields #[(.ref 384), .none, .none, .none, (.bool false), .none]), #[]⟩
noncomputable def x2_386 (P : Params) : Obj := ⟨(.type "dict"), none, (.dict #[⟨bhash P #[], (.bytes #[] 406), (.int 17 731)⟩] 1), #[]⟩
noncomputable def x2_387 (P : Params) : Obj := ⟨(.type "tuple"), none, (.seq #[(.int 17 731), (.ref 386)] 0), #[]⟩
noncomputable def x2_388 (P : Params) : Obj := ⟨(.type "tuple"), none, (.seq #[(.int 18 739), (.ref 113)] 0), #[]⟩
noncomputable def x2_389 (P : Params) : Obj := ⟨(.type "tuple_iterator"), none, (.fields #[.none, (.int 2 0)]), #[]⟩
noncomputable def x2_390 (P : Params) : Obj := ⟨(.type "tuple"), none, (.seq #[] 0), #[]⟩
noncomputable def x2_391 (P : Params) : Obj := ⟨(.type "StopIteration"), none, (.fields #[(.ref 390), .none, .none, .none, (.bool false), .none]), #[]⟩
noncomputable def x2_392 (P : Params) : Obj := ⟨(.type "tuple_iterator"), none, (.fields #[.none, (.int 2 0)]), #[]⟩
noncomputable def x2_393 (P : Params) : Obj := ⟨(.type "tuple"), none, (.seq #[] 0), #[]⟩
noncomputable def x2_394 (P : Params) : Obj := ⟨(.type "StopIteration"), none, (.fields #[(.ref 393), .none, .none, .none, (.bool false), .none]), #[]⟩
noncomputable def x2_395 (P : Params) : Obj := ⟨(.type "dict"), none, (.dict #[⟨bhash P #[], (.bytes #[] 408), (.int 18 739)⟩] 1), #[]⟩
noncomputable def x2_396 (P : Params) : Obj := ⟨(.type "tuple"), none, (.seq #[(.int 18 739), (.ref 395)] 0), #[]⟩
noncomputable def x2_397 (P : Params) : Obj := ⟨(.type "tuple"), none, (.seq #[(.int 19 747), (.ref 114)] 0), #[]⟩
noncomputable def x2_398 (P : Params) : Obj := ⟨(.type "tuple_iterator"), none, (.fields #[.none, (.int 2 0)]), #[]⟩
noncomputable def x2_399 (P : Params) : Obj := ⟨(.type "tuple"), none, (.seq #[] 0), #[]⟩
noncomputable def x2_400 (P : Params) : Obj := ⟨(.type "StopIteration"), none, (.fields #[(.ref 399), .none, .none, .none, (.bool false), .none]), #[]⟩
noncomputable def x2_401 (P : Params) : Obj := ⟨(.type "tuple_iterator"), none, (.fields #[.none, (.int 2 0)]), #[]⟩
noncomputable def x2_402 (P : Params) : Obj := ⟨(.type "tuple"), none, (.seq #[] 0), #[]⟩
noncomputable def x2_403 (P : Params) : Obj := ⟨(.type "StopIteration"), none, (.fields #[(.ref 402), .none, .none, .none, (.bool false), .none]), #[]⟩
noncomputable def x2_404 (P : Params) : Obj := ⟨(.type "dict"), none, (.dict #[⟨bhash P #[], (.bytes #[] 410), (.int 19 747)⟩] 1), #[]⟩
noncomputable def x2_405 (P : Params) : Obj := ⟨(.type "tuple"), none, (.seq #[(.int 19 747), (.ref 404)] 0), #[]⟩
noncomputable def x2_406 (P : Params) : Obj := ⟨(.type "tuple"), none, (.seq #[(.int 20 755), (.ref 115)] 0), #[]⟩
noncomputable def x2_407 (P : Params) : Obj := ⟨(.type "tuple_iterator"), none, (.fields #[.none, (.int 2 0)]), #[]⟩
noncomputable def x2_408 (P : Params) : Obj := ⟨(.type "tuple"), none, (.seq #[] 0), #[]⟩
noncomputable def x2_409 (P : Params) : Obj := ⟨(.type "StopIteration"), none, (.fields #[(.ref 408), .none, .none, .none, (.bool false), .none]), #[]⟩
noncomputable def x2_410 (P : Params) : Obj := ⟨(.type "tuple_iterator"), none, (.fields #[.none, (.int 2 0)]), #[]⟩
noncomputable def x2_411 (P : Params) : Obj := ⟨(.type "tuple"), none, (.seq #[] 0), #[]⟩
noncomputable def x2_412 (P : Params) : Obj := ⟨(.type "StopIteration"), none, (.fields #[(.ref 411), .none, .none, .none, (.bool false), .none]), #[]⟩
noncomputable def x2_413 (P : Params) : Obj := ⟨(.type "dict"), none, (.dict #[⟨bhash P #[], (.bytes #[] 412), (.int 20 755)⟩] 1), #[]⟩
noncomputable def x2_414 (P : Params) : Obj := ⟨(.type "tuple"), none, (.seq #[(.int 20 755), (.ref 413)] 0), #[]⟩
noncomputable def tree2 (P : Params) : BT := (.node (xB_0 P) (.node (xB_1 P) (.node (xK_3 P) (.node (xB_7 P) (.node (xB_15 P) (.node (xB_31 P) (.node (xK_63 P) (.node (xK_127 P) (.node (x1_255 P) .nil .nil) (.node (x2_383 P) .nil .nil)) (.node (xK_191 P) (.node (x1_319 P) .nil .nil) .nil)) (.node (xK_95 P) (.node (xK_159 P) (.node (x1_287 P) .nil .nil) .nil) (.node (xK_223 P) (.node (x2_351 P) .nil .nil) .nil))) (.node (xK_47 P) (.node (xK_79 P) (.node (xK_143 P) (.node (x1_271 P) .nil .nil) (.node (x2_399 P) .nil .nil)) (.node (xK_207 P) (.node (x2_335 P) .nil .nil) .nil)) (.node (xK_111 P) (.node (xK_175 P) (.node (x1_303 P) .nil .nil) .nil) (.node (x1_239 P) (.node (x2_367 P) .nil .nil) .nil)))) (.node (xB_23 P) (.node (xK_39 P) (.node (xK_71 P) (.node (xK_135 P) (.node (x1_263 P) .nil .nil) (.node (x2_391 P) .nil .nil)) (.node (xK_199 P) (.node (x2_327 P) .nil .nil) .nil)) (.node (xK_103 P) (.node (xK_167 P) (.node (x1_295 P) .nil .nil) .nil) (.node (x2_231 P) (.node (x2_359 P) .nil .nil) .nil))) (.node (xK_55 P) (.node (xK_87 P) (.node (xK_151 P) (.node (x1_279 P) .nil .nil) (.node (x2_407 P) .nil .nil)) (.node (xK_215 P) (.node (x2_343 P) .nil .nil) .nil)) (.node (xK_119 P) (.node (xK_183 P) (.node (x1_311 P) .nil .nil) .nil) (.node (x1_247 P) (.node (x2_375 P) .nil .nil) .nil))))) (.node (xB_11 P) (.node (xB_19 P) (.node (xK_35 P) (.node (xK_67 P) (.node (xK_131 P) (.node (x1_259 P) .nil .nil) (.node (x2_387 P) .nil .nil)) (.node (xK_195 P) (.node (x1_323 P) .nil .nil) .nil)) (.node (xK_99 P) (.node (xK_163 P) (.node (x1_291 P) .nil .nil) .nil) (.node (xK_227 P) (.node (x2_355 P) .nil .nil) .nil))) (.node (xK_51 P) (.node (xK_83 P) (.node (xK_147 P) (.node (x1_275 P) .nil .nil) (.node (x2_403 P) .nil .nil)) (.node (xK_211 P) (.node (x2_339 P) .nil .nil) .nil)) (.node (xK_115 P) (.node (xK_179 P) (.node (x1_307 P) .nil .nil) .nil) (.node (x1_243 P) (.node (x2_371 P) .nil .nil) .nil)))) (.node (xB_27 P) (.node (xK_43 P) (.node (xK_75 P) (.node (xK_139 P) (.node (x1_267 P) .nil .nil) (.node (x2_395 P) .nil .nil)) (.node (xK_203 P) (.node (x2_331 P) .nil .nil) .nil)) (.node (xK_107 P) (.node (xK_171 P) (.node (x1_299 P) .nil .nil) .nil) (.node (x1_235 P) (.node (x2_363 P) .nil .nil) .nil))) (.node (xK_59 P) (.node (xK_91 P) (.node (xK_155 P) (.node (x1_283 P) .nil .nil) (.node (x2_411 P) .nil .nil)) (.node (xK_219 P) (.node (x2_347 P) .nil .nil) .nil)) (.node (xK_123 P) (.node (xK_187 P) (.node (x1_315 P) .nil .nil) .nil) (.node (x1_251 P) (.node (x2_379 P) .nil .nil) .nil)))))) (.node (xB_5 P) (.node (xB_9 P) (.node (xB_17 P) (.node (xK_33 P) (.node (xK_65 P) (.node (xK_129 P) (.node (x1_257 P) .nil .nil) (.node (x2_385 P) .nil .nil)) (.node (xK_193 P) (.node (x1_321 P) .nil .nil) .nil)) (.node (xK_97 P) (.node (xK_161 P) (.node (x1_289 P) .nil .nil) .nil) (.node (xK_225 P) (.node (x2_353 P) .nil .nil) .nil))) (.node (xK_49 P) (.node (xK_81 P) (.node (xK_145 P) (.node (x1_273 P) .nil .nil) (.node (x2_401 P) .nil .nil)) (.node (xK_209 P) (.node (x2_337 P) .nil .nil) .nil)) (.node (xK_113 P) (.node (xK_177 P) (.node (x2_305 P) .nil .nil) .nil) (.node (x1_241 P) (.node (x2_369 P) .nil .nil) .nil)))) (.node (xB_25 P) (.node (xK_41 P) (.node (xK_73 P) (.node (xK_137 P) (.node (x1_265 P) .nil .nil) (.node (x2_393 P) .nil .nil)) (.node (xK_201 P) (.node (x2_329 P) .nil .nil) .nil)) (.node (xK_105 P) (.node (xK_169 P) (.node (x1_297 P) .nil .nil) .nil) (.node (x2_233 P) (.node (x2_361 P) .nil .nil) .nil))) (.node (xK_57 P) (.node (xK_89 P) (.node (xK_153 P) (.node (x1_281 P) .nil .nil) (.node (x2_409 P) .nil .nil)) (.node (xK_217 P) (.node (x2_345 P) .nil .nil) .nil)) (.node (xK_121 P) (.node (xK_185 P) (.node (x1_313 P) .nil .nil) .nil) (.node (x1_249 P) (.node (x2_377 P) .nil .nil) .nil))))) (.node (xB_13 P) (.node (xB_21 P) (.node (xK_37 P) (.node (xK_69 P) (.node (xK_133 P) (.node (x1_261 P) .nil .nil) (.node (x2_389 P) .nil .nil)) (.node (xK_197 P) (.node (x2_325 P) .nil .nil) .nil)) (.node (xK_101 P) (.node (xK_165 P) (.node (x1_293 P) .nil .nil) .nil) (.node (xK_229 P) (.node (x2_357 P) .nil .nil) .nil))) (.node (xK_53 P) (.node (xK_85 P) (.node (xK_149 P) (.node (x1_277 P) .nil .nil) (.node (x2_405 P) .nil .nil)) (.node (xK_213 P) (.node (x2_341 P) .nil .nil) .nil)) (.node (xK_117 P) (.node (xK_181 P) (.node (x1_309 P) .nil .nil) .nil) (.node (x1_245 P) (.node (x2_373 P) .nil .nil) .nil)))) (.node (xB_29 P) (.node (xK_45 P) (.node (xK_77 P) (.node (xK_141 P) (.node (x1_269 P) .nil .nil) (.node (x2_397 P) .nil .nil)) (.node (xK_205 P) (.node (x2_333 P) .nil .nil) .nil)) (.node (xK_109 P) (.node (xK_173 P) (.node (x1_301 P) .nil .nil) .nil) (.node (x1_237 P) (.node (x2_365 P) .nil .nil) .nil))) (.node (xK_61 P) (.node (xK_93 P) (.node (xK_157 P) (.node (x1_285 P) .nil .nil) (.node (x2_413 P) .nil .nil)) (.node (xK_221 P) (.node (x2_349 P) .nil .nil) .nil)) (.node (xK_125 P) (.node (xK_189 P) (.node (x1_317 P) .nil .nil) .nil) (.node (x1_253 P) (.node (x2_381 P) .nil .nil) .nil))))))) (.node (xK_2 P) (.node (xB_4 P) (.node (xB_8 P) (.node (xB_16 P) (.node (xB_32 P) (.node (xK_64 P) (.node (xK_128 P) (.node (x1_256 P) .nil .nil) (.node (x2_384 P) .nil .nil)) (.node (xK_192 P) (.node (x1_320 P) .nil .nil) .nil)) (.node (xK_96 P) (.node (xK_160 P) (.node (x1_288 P) .nil .nil) .nil) (.node (xK_224 P) (.node (x2_352 P) .nil .nil) .nil))) (.node (xK_48 P) (.node (xK_80 P) (.node (xK_144 P) (.node (x1_272 P) .nil .nil) (.node (x2_400 P) .nil .nil)) (.node (xK_208 P) (.node (x2_336 P) .nil .nil) .nil)) (.node (xK_112 P) (.node (xK_176 P) (.node (x1_304 P) .nil .nil) .nil) (.node (x1_240 P) (.node (x2_368 P) .nil .nil) .nil)))) (.node (xB_24 P) (.node (xK_40 P) (.node (xK_72 P) (.node (xK_136 P) (.node (x1_264 P) .nil .nil) (.node (x2_392 P) .nil .nil)) (.node (xK_200 P) (.node (x2_328 P) .nil .nil) .nil)) (.node (xK_104 P) (.node (xK_168 P) (.node (x1_296 P) .nil .nil) .nil) (.node (x2_232 P) (.node (x2_360 P) .nil .nil) .nil))) (.node (xK_56 P) (.node (xK_88 P) (.node (xK_152 P) (.node (x1_280 P) .nil .nil) (.node (x2_408 P) .nil .nil)) (.node (xK_216 P) (.node (x2_344 P) .nil .nil) .nil)) (.node (xK_120 P) (.node (xK_184 P) (.node (x1_312 P) .nil .nil) .nil) (.node (x1_248 P) (.node (x2_376 P) .nil .nil) .nil))))) (.node (xB_12 P) (.node (xB_20 P) (.node (xK_36 P) (.node (xK_68 P) (.node (xK_132 P) (.node (x1_260 P) .nil .nil) (.node (x2_388 P) .nil .nil)) (.node (xK_196 P) (.node (x1_324 P) .nil .nil) .nil)) (.node (xK_100 P) (.node (xK_164 P) (.node (x1_292 P) .nil .nil) .nil) (.node (xK_228 P) (.node (x2_356 P) .nil .nil) .nil))) (.node (xK_52 P) (.node (xK_84 P) (.node (xK_148 P) (.node (x1_276 P) .nil .nil) (.node (x2_404 P) .nil .nil)) (.node (xK_212 P) (.node (x2_340 P) .nil .nil) .nil)) (.node (xK_116 P) (.node (xK_180 P) (.node (x1_308 P) .nil .nil) .nil) (.node (x1_244 P) (.node (x2_372 P) .nil .nil) .nil)))) (.node (xB_28 P) (.node (xK_44 P) (.node (xK_76 P) (.node (xK_140 P) (.node (x1_268 P) .nil .nil) (.node (x2_396 P) .nil .nil)) (.node (xK_204 P) (.node (x2_332 P) .nil .nil) .nil)) (.node (xK_108 P) (.node (xK_172 P) (.node (x1_300 P) .nil .nil) .nil) (.node (x1_236 P) (.node (x2_364 P) .nil .nil) .nil))) (.node (xK_60 P) (.node (xK_92 P) (.node (xK_156 P) (.node (x1_284 P) .nil .nil) (.node (x2_412 P) .nil .nil)) (.node (xK_220 P) (.node (x2_348 P) .nil .nil) .nil)) (.node (xK_124 P) (.node (xK_188 P) (.node (x1_316 P) .nil .nil) .nil) (.node (x1_252 P) (.node (x2_380 P) .nil .nil) .nil)))))) (.node (xB_6 P) (.node (xB_10 P) (.node (xB_18 P) (.node (xK_34 P) (.node (xK_66 P) (.node (xK_130 P) (.node (x1_258 P) .nil .nil) (.node (x2_386 P) .nil .nil)) (.node (xK_194 P) (.node (x1_322 P) .nil .nil) .nil)) (.node (xK_98 P) (.node (xK_162 P) (.node (x1_290 P) .nil .nil) .nil) (.node (xK_226 P) (.node (x2_354 P) .nil .nil) .nil))) (.node (xK_50 P) (.node (xK_82 P) (.node (xK_146 P) (.node (x1_274 P) .nil .nil) (.node (x2_402 P) .nil .nil)) (.node (xK_210 P) (.node (x2_338 P) .nil .nil) .nil)) (.node (xK_114 P) (.node (xK_178 P) (.node (x1_306 P) .nil .nil) .nil) (.node (x1_242 P) (.node (x2_370 P) .nil .nil) .nil)))) (.node (xB_26 P) (.node (xK_42 P) (.node (xK_74 P) (.node (xK_138 P) (.node (x1_266 P) .nil .nil) (.node (x2_394 P) .nil .nil)) (.node (xK_202 P) (.node (x2_330 P) .nil .nil) .nil)) (.node (xK_106 P) (.node (xK_170 P) (.node (x1_298 P) .nil .nil) .nil) (.node (x2_234 P) (.node (x2_362 P) .nil .nil) .nil))) (.node (xK_58 P) (.node (xK_90 P) (.node (xK_154 P) (.node (x1_282 P) .nil .nil) (.node (x2_410 P) .nil .nil)) (.node (xK_218 P) (.node (x2_346 P) .nil .nil) .nil)) (.node (xK_122 P) (.node (xK_186 P) (.node (x1_314 P) .nil .nil) .nil) (.node (x1_250 P) (.node (x2_378 P) .nil .nil) .nil))))) (.node (xB_14 P) (.node (xB_22 P) (.node (xK_38 P) (.node (xK_70 P) (.node (xK_134 P) (.node (x1_262 P) .nil .nil) (.node (x2_390 P) .nil .nil)) (.node (xK_198 P) (.node (x2_326 P) .nil .nil) .nil)) (.node (xK_102 P) (.node (xK_166 P) (.node (x1_294 P) .nil .nil) .nil) (.node (xK_230 P) (.node (x2_358 P) .nil .nil) .nil))) (.node (xK_54 P) (.node (xK_86 P) (.node (xK_150 P) (.node (x1_278 P) .nil .nil) (.node (x2_406 P) .nil .nil)) (.node (xK_214 P) (.node (x2_342 P) .nil .nil) .nil)) (.node (xK_118 P) (.node (xK_182 P) (.node (x1_310 P) .nil .nil) .nil) (.node (x1_246 P) (.node (x2_374 P) .nil .nil) .nil)))) (.node (xK_30 P) (.node (xK_46 P) (.node (xK_78 P) (.node (xK_142 P) (.node (x1_270 P) .nil .nil) (.node (x2_398 P) .nil .nil)) (.node (xK_206 P) (.node (x2_334 P) .nil .nil) .nil)) (.node (xK_110 P) (.node (xK_174 P) (.node (x1_302 P) .nil .nil) .nil) (.node (x1_238 P) (.node (x2_366 P) .nil .nil) .nil))) (.node (xK_62 P) (.node (xK_94 P) (.node (xK_158 P) (.node (x1_286 P) .nil .nil) (.node (x2_414 P) .nil .nil)) (.node (xK_222 P) (.node (x2_350 P) .nil .nil) .nil)) (.node (xK_126 P) (.node (xK_190 P) (.node (x1_318 P) .nil .nil) .nil) (.node (x1_254 P) (.node (x2_382 P) .nil .nil) .nil))))))))
noncomputable def x3_231 (P : Params) : Obj := ⟨(.type "frame"), none, (.dict #[⟨PyData.keyHash P ⟨#[115, 116, 97, 116, 105, 99, 95, 116, 97, 98, 108, 101, 95, 109, 97, 112, 112, 105, 110, 103]⟩, (.str ⟨#[115, 116, 97, 116, 105, 99, 95, 116, 97, 98, 108, 101, 95, 109, 97, 112, 112, 105, 110, 103]⟩ 600), (.ref 232)⟩, ⟨PyData.keyHash P ⟨#[105, 110, 100, 101, 120]⟩, (.str ⟨#[105, 110, 100, 101, 120]⟩ 604), (.int 30 835)⟩, ⟨PyData.keyHash P ⟨#[110, 97, 109, 101]⟩, (.str ⟨#[110, 97, 109, 101]⟩ 605), (.bytes #[99, 111, 110, 116, 101, 110, 116, 45, 114, 97, 110, 103, 101] 431)⟩, ⟨PyData.keyHash P ⟨#[118, 97, 108, 117, 101]⟩, (.str ⟨#[118, 97, 108, 117, 101]⟩ 606), (.bytes #[] 432)⟩, ⟨PyData.keyHash P ⟨#[104, 101, 97, 100, 101, 114, 95, 110, 97, 109, 101, 95, 115, 101, 97, 114, 99, 104, 95, 114, 101, 115, 117, 108, 116]⟩, (.str ⟨#[104, 101, 97, 100, 101, 114, 95, 110, 97, 109, 101, 95, 115, 101, 97, 114, 99, 104, 95, 114, 101, 115, 117, 108, 116]⟩ 608), (.ref 504)⟩] 5), #[]⟩
noncomputable def x3_232 (P : Params) : Obj := ⟨(.type "dict"), none, (.dict #[⟨bhash P #[58, 97, 117, 116, 104, 111, 114, 105, 116, 121], (.bytes #[58, 97, 117, 116, 104, 111, 114, 105, 116, 121] 373), (.ref 243)⟩, ⟨bhash P #[58, 109, 101, 116, 104, 111, 100], (.bytes #[58, 109, 101, 116, 104, 111, 100] 375), (.ref 252)⟩, ⟨bhash P #[58, 112, 97, 116, 104], (.bytes #[58, 112, 97, 116, 104] 379), (.ref 270)⟩, ⟨bhash P #[58, 115, 99, 104, 101, 109, 101], (.bytes #[58, 115, 99, 104, 101, 109, 101] 383), (.ref 288)⟩, ⟨bhash P #[58, 115, 116, 97, 116, 117, 115], (.bytes #[58, 115, 116, 97, 116, 117, 115] 387), (.ref 306)⟩, ⟨bhash P #[97, 99, 99, 101, 112, 116, 45, 99, 104, 97, 114, 115, 101, 116], (.bytes #[97, 99, 99, 101, 112, 116, 45, 99, 104, 97, 114, 115, 101, 116] 401), (.ref 369)⟩, ⟨bhash P #[97, 99, 99, 101, 112, 116, 45, 101, 110, 99, 111, 100, 105, 110, 103], (.bytes #[97, 99, 99, 101, 112, 116, 45, 101, 110, 99, 111, 100, 105, 110, 103] 403), (.ref 378)⟩, ⟨bhash P #[97, 99, 99, 101, 112, 116, 45, 108, 97, 110, 103, 117, 97, 103, 101], (.bytes #[97, 99, 99, 101, 112, 116, 45, 108, 97, 110, 103, 117, 97, 103, 101] 405), (.ref 387)⟩, ⟨bhash P #[97, 99, 99, 101, 112, 116, 45, 114, 97, 110, 103, 101, 115], (.bytes #[97, 99, 99, 101, 112, 116, 45, 114, 97, 110, 103, 101, 115] 407), (.ref 396)⟩, ⟨bhash P #[97, 99, 99, 101, 112, 116], (.bytes #[97, 99, 99, 101, 112, 116] 409), (.ref 405)⟩, ⟨bhash P #[97, 99, 99, 101, 115, 115, 45, 99, 111, 110, 116, 114, 111, 108, 45, 97, 108, 108, 111, 119, 45, 111, 114, 105, 103, 105, 110], (.bytes #[97, 99, 99, 101, 115, 115, 45, 99, 111, 110, 116, 114, 111, 108, 45, 97, 108, 108, 111, 119, 45, 111, 114, 105, 103, 105, 110] 411), (.ref 414)⟩, ⟨bhash P #[97, 103, 101], (.bytes #[97, 103, 101] 413), (.ref 423)⟩, ⟨bhash P #[97, 108, 108, 111, 119], (.bytes #[97, 108, 108, 111, 119] 415), (.ref 432)⟩, ⟨bhash P #[97, 117, 116, 104, 111, 114, 105, 122, 97, 116, 105, 111, 110], (.bytes #[97, 117, 116, 104, 111, 114, 105, 122, 97, 116, 105, 111, 110] 417), (.ref 441)⟩, ⟨bhash P #[99, 97, 99, 104, 101, 45, 99, 111, 110, 116, 114, 111, 108], (.bytes #[99, 97, 99, 104, 101, 45, 99, 111, 110, 116, 114, 111, 108] 419), (.ref 450)⟩, ⟨bhash P #[99, 111, 110, 116, 101, 110, 116, 45, 100, 105, 115, 112, 111, 115, 105, 116, 105, 111, 110], (.bytes #[99, 111, 110, 116, 101, 110, 116, 45, 100, 105, 115, 112, 111, 115, 105, 116, 105, 111, 110] 421), (.ref 459)⟩, ⟨bhash P #[99, 111, 110, 116, 101, 110, 116, 45, 101, 110, 99, 111, 100, 105, 110, 103], (.bytes #[99, 111, 110, 116, 101, 110, 116, 45, 101, 110, 99, 111, 100, 105, 110, 103] 423), (.ref 468)⟩, ⟨bhash P #[99, 111, 110, 116, 101, 110, 116, 45, 108, 97, 110, 103, 117, 97, 103, 101], (.bytes #[99, 111, 110, 116, 101, 110, 116, 45, 108, 97, 110, 103, 117, 97, 103, 101] 425), (.ref 477)⟩, ⟨bhash P #[99, 111, 110, 116, 101, 110, 116, 45, 108, 101, 110, 103, 116, 104], (.bytes #[99, 111, 110, 116, 101, 110, 116, 45, 108, 101, 110, 103, 116, 104] 427), (.ref 486)⟩, ⟨bhash P #[99, 111, 110, 116, 101, 110, 116, 45, 108, 111, 99, 97, 116, 105, 111, 110], (.bytes #[99, 111, 110, 116, 101, 110, 116, 45, 108, 111, 99, 97, 116, 105, 111, 110] 429), (.ref 495)⟩, ⟨bhash P #[99, 111, 110, 116, 101, 110, 116, 45, 114, 97, 110, 103, 101], (.bytes #[99, 111, 110, 116, 101, 110, 116, 45, 114, 97, 110, 103, 101] 431), (.ref 504)⟩] 21), #[]⟩
noncomputable def x3_233 (P : Params) : Obj := ⟨(.type "tuple_iterator"), none, (.fields #[(.ref 157), (.int 30 0)]), #[]⟩
noncomputable def x3_234 (P : Params) : Obj := ⟨(.type "enumerate"), none, (.fields #[.none, (.bool false), (.ref 233), (.int 31 0), .none, (.ref 125)]), #[]⟩
noncomputable def x3_415 (P : Params) : Obj := ⟨(.type "tuple"), none, (.seq #[(.int 21 763), (.ref 116)] 0), #[]⟩
noncomputable def x3_416 (P : Params) : Obj := ⟨(.type "tuple_iterator"), none, (.fields #[.none, (.int 2 0)]), #[]⟩
noncomputable def x3_417 (P : Params) : Obj := ⟨(.type "tuple"), none, (.seq #[] 0), #[]⟩
noncomputable def x3_418 (P : Params) : Obj := ⟨(.type "StopIteration"), none, (.fields #[(.ref 417), .none, .none, .none, (.bool false), .none]), #[]⟩
noncomputable def x3_419 (P : Params) : Obj := ⟨(.type "tuple_iterator"), none, (.fields #[.none, (.int 2 0)]), #[]⟩
noncomputable def x3_420 (P : Params) : Obj := ⟨(.type "tuple"), none, (.seq #[] 0), #[]⟩
noncomputable def x3_421 (P : Params) : Obj := ⟨(.type "StopIteration"), none, (.fields #[(.ref 420), .none, .none, .none, (.bool false), .none]), #[]⟩
noncomputable def x3_422 (P : Params) : Obj := ⟨(.type "dict"), none, (.dict #[⟨bhash P #[], (.bytes #[] 414), (.int 21 763)⟩] 1), #[]⟩
noncomputable def x3_423 (P : Params) : Obj := ⟨(.type "tuple"), none, (.seq #[(.int 21 763), (.ref 422)] 0), #[]⟩
noncomputable def x3_424 (P : Params) : Obj := ⟨(.type "tuple"), none, (.seq #[(.int 22 771), (.ref 117)] 0), #[]⟩
noncomputable def x3_425 (P : Params) : Obj := ⟨(.type "tuple_iterator"), none, (.fields #[.none, (.int 2 0)]), #[]⟩
noncomputable def x3_426 (P : Params) : Obj := ⟨(.type "tuple"), none, (.seq #[] 0), #[]⟩
noncomputable def x3_427 (P : Params) : Obj := ⟨(.type "StopIteration"), none, (.fields #[(.ref 426), .none, .none, .none, (.bool false), .none]), #[]⟩
noncomputable def x3_428 (P : Params) : Obj := ⟨(.type "tuple_iterator"), none, (.fields #[.none, (.int 2 0)]), #[]⟩
noncomputable def x3_429 (P : Params) : Obj := ⟨(.type "tuple"), none, (.seq #[] 0), #[]⟩
noncomputable def x3_430 (P : Params) : Obj := ⟨(.type "StopIteration"), none, (.fields #[(.ref 429), .none, .none, .none, (.bool false), .none]), #[]⟩
noncomputable def x3_431 (P : Params) : Obj := ⟨(.type "dict"), none, (.dict #[⟨bhash P #[], (.bytes #[] 416), (.int 22 771)⟩] 1), #[]⟩
noncomputable def x3_432 (P : Params) : Obj := ⟨(.type "tuple"), none, (.seq #[(.int 22 771), (.ref 431)] 0), #[]⟩
noncomputable def x3_433 (P : Params) : Obj := ⟨(.type "tuple"), none, (.seq #[(.int 23 779), (.ref 118)] 0), #[]⟩
noncomputable def x3_434 (P : Params) : Obj := ⟨(.type "tuple_iterator"), none, (.fields #[.none, (.int 2 0)]), #[]⟩
noncomputable def x3_435 (P : Params) : Obj := ⟨(.type "tuple"), none, (.seq #[] 0), #[]⟩
noncomputable def x3_436 (P : Params) : Obj := ⟨(.type "StopIteration"), none, (.fields #[(.ref 435), .none, .none, .none, (.bool false), .none]), #[]⟩
noncomputable def x3_437 (P : Params) : Obj := ⟨(.type "tuple_iterator"), none, (.fields #[.none, (.int 2 0)]), #[]⟩
noncomputable def x3_438 (P : Params) : Obj := ⟨(.type "tuple"), none, (.seq #[] 0), #[]⟩
noncomputable def x3_439 (P : Params) : Obj := ⟨(.type "StopIteration"), none, (.fields #[(.ref 438), .none, .none, .none, (.bool false), .none]), #[]⟩
noncomputable def x3_440 (P : Params) : Obj := ⟨(.type "dict"), none, (.dict #[⟨bhash P #[], (.bytes #[] 418), (.int 23 779)⟩] 1), #[]⟩
noncomputable def x3_441 (P : Params) : Obj := ⟨(.type "tuple"), none, (.seq #[(.int 23 779), (.ref 440)] 0), #[]⟩
noncomputable def x3_442 (P : Params) : Obj := ⟨(.type "tuple"), none, (.seq #[(.int 24 787), (.ref 119)] 0), #[]⟩
noncomputable def x3_443 (P : Params) : Obj := ⟨(.type "tuple_iterator"), none, (.fields #[.none, (.int 2 0)]), #[]⟩
noncomputable def x3_444 (P : Params) : Obj := ⟨(.type "tuple"), none, (.seq #[] 0), #[]⟩
noncomputable def x3_445 (P : Params) : Obj := ⟨(.type "StopIteration"), none, (.fields #[(.ref 444), .none, .none, .none, (.bool false), .none]), #[]⟩
noncomputable def x3_446 (P : Params) : Obj := ⟨(.type "tuple_iterator"), none, (.fields #[.none, (.int 2 0)]), #[]⟩
noncomputable def x3_447 (P : Params) : Obj := ⟨(.type "tuple"), none, (.seq #[] 0), #[]⟩
noncomputable def x3_448 (P : Params) : Obj := ⟨(.type "StopIteration"), none, (.fields #[(.ref 447), .none, .none, .none, (.bool false), .none]), #[]⟩
noncomputable def x3_449 (P : Params) : Obj := ⟨(.type "dict"), none, (.dict #[⟨bhash P #[], (.bytes #[] 420), (.int 24 787)⟩] 1), #[]⟩
noncomputable def x3_450 (P : Params) : Obj := ⟨(.type "tuple"), none, (.seq #[(.int 24 787), (.ref 449)] 0), #[]⟩
noncomputable def x3_451 (P : Params) : Obj := ⟨(.type "tuple"), none, (.seq #[(.int 25 795), (.ref 120)] 0), #[]⟩
noncomputable def x3_452 (P : Params) : Obj := ⟨(.type "tuple_iterator"), none, (.fields #[.none, (.int 2 0)]), #[]⟩
noncomputable def x3_453 (P : Params) : Obj := ⟨(.type "tuple"), none, (.seq #[] 0), #[]⟩
noncomputable def x3_454 (P : Params) : Obj := ⟨(.type "StopIteration"), none, (.fields #[(.ref 453), .none, .none, .none, (.bool false), .none]), #[]⟩
noncomputable def x3_455 (P : Params) : Obj := ⟨(.type "tuple_iterator"), none, (.fields #[.none, (.int 2 0)]), #[]⟩
noncomputable def x3_456 (P : Params) : Obj := ⟨(.type "tuple"), none, (.seq #[] 0), #[]⟩
noncomputable def x3_457 (P : Params) : Obj := ⟨(.type "StopIteration"), none, (.fields #[(.ref 456), .none, .none, .none, (.bool false), .none]), #[]⟩
noncomputable def x3_458 (P : Params) : Obj := ⟨(.type "dict"), none, (.dict #[⟨bhash P #[], (.bytes #[] 422), (.int 25 795)⟩] 1), #[]⟩
noncomputable def x3_459 (P : Params) : Obj := ⟨(.type "tuple"), none, (.seq #[(.int 25 795), (.ref 458)] 0), #[]⟩
noncomputable def x3_460 (P : Params) : Obj := ⟨(.type "tuple"), none, (.seq #[(.int 26 803), (.ref 121)] 0), #[]⟩
noncomputable def x3_461 (P : Params) : Obj := ⟨(.type "tuple_iterator"), none, (.fields #[.none, (.int 2 0)]), #[]⟩
noncomputable def x3_462 (P : Params) : Obj := ⟨(.type "tuple"), none, (.seq #[] 0), #[]⟩
noncomputable def x3_463 (P : Params) : Obj := ⟨(.type "StopIteration"), none, (.fields #[(.ref 462), .none, .none, .none, (.bool false), .none]), #[]⟩
noncomputable def x3_464 (P : Params) : Obj := ⟨(.type "tuple_iterator"), none, (.fields #[.none, (.int 2 0)]), #[]⟩
noncomputable def x3_465 (P : Params) : Obj := ⟨(.type "tuple"), none, (.seq #[] 0), #[]⟩
noncomputable def x3_466 (P : Params) : Obj := ⟨(.type "StopIteration"), none, (.fields #[(.ref 465), .none, .none, .none, (.bool false), .none]), #[]⟩
noncomputable def x3_467 (P : Params) : Obj := ⟨(.type "dict"), none, (.dict #[⟨bhash P #[], (.bytes #[] 424), (.int 26 803)⟩] 1), #[]⟩
noncomputable def x3_468 (P : Params) : Obj := ⟨(.type "tuple"), none, (.seq #[(.int 26 803), (.ref 467)] 0), #[]⟩
noncomputable def x3_469 (P : Params) : Obj := ⟨(.type "tuple"), none, (.seq #[(.int 27 811), (.ref 122)] 0), #[]⟩
noncomputable def x3_470 (P : Params) : Obj := ⟨(.type "tuple_iterator"), none, (.fields #[.none, (.int 2 0)]), #[]⟩
noncomputable def x3_471 (P : Params) : Obj := ⟨(.type "tuple"), none, (.seq #[] 0), #[]⟩
noncomputable def x3_472 (P : Params) : Obj := ⟨(.type "StopIteration"), none, (.fields #[(.ref 471), .none, .none, .none, (.bool false), .none]), #[]⟩
noncomputable def x3_473 (P : Params) : Obj := ⟨(.type "tuple_iterator"), none, (.fields #[.none, (.int 2 0)]), #[]⟩
noncomputable def x3_474 (P : Params) : Obj := ⟨(.type "tuple"), none, (.seq #[] 0), #[]⟩
noncomputable def x3_475 (P : Params) : Obj := ⟨(.type "StopIteration"), none, (.fields #[(.ref 474), .none, .none, .none, (.bool false), .none]), #[]⟩
noncomputable def x3_476 (P : Params) : Obj := ⟨(.type "dict"), none, (.dict #[⟨bhash P #[], (.bytes #[] 426), (.int 27 811)⟩] 1), #[]⟩
noncomputable def x3_477 (P : Params) : Obj := ⟨(.type "tuple"), none, (.seq #[(.int 27 811), (.ref 476)] 0), #[]⟩
noncomputable def x3_478 (P : Params) : Obj := ⟨(.type "tuple"), none, (.seq #[(.int 28 819), (.ref 123)] 0), #[]⟩
noncomputable def x3_479 (P : Params) : Obj := ⟨(.type "tuple_iterator"), none, (.fields #[.none, (.int 2 0)]), #[]⟩
noncomputable def x3_480 (P : Params) : Obj := ⟨(.type "tuple"), none, (.seq #[] 0), #[]⟩
noncomputable def x3_481 (P : Params) : Obj := ⟨(.type "StopIteration"), none, (.fields #[(.ref 480), .none, .none, .none, (.bool false), .none]), #[]⟩
noncomputable def x3_482 (P : Params) : Obj := ⟨(.type "tuple_iterator"), none, (.fields #[.none, (.int 2 0)]), #[]⟩
noncomputable def x3_483 (P : Params) : Obj := ⟨(.type "tuple"), none, (.seq #[] 0), #[]⟩
noncomputable def x3_484 (P : Params) : Obj := ⟨(.type "StopIteration"), none, (.fields #[(.ref 483), .none, .none, .none, (.bool false), .none]), #[]⟩
noncomputable def x3_485 (P : Params) : Obj := ⟨(.type "dict"), none, (.dict #[⟨bhash P #[], (.bytes #[] 428), (.int 28 819)⟩] 1), #[]⟩
noncomputable def x3_486 (P : Params) : Obj := ⟨(.type "tuple"), none, (.seq #[(.int 28 819), (.ref 485)] 0), #[]⟩
noncomputable def x3_487 (P : Params) : Obj := ⟨(.type "tuple"), none, (.seq #[(.int 29 827), (.ref 124)] 0), #[]⟩
noncomputable def x3_488 (P : Params) : Obj := ⟨(.type "tuple_iterator"), none, (.fields #[.none, (.int 2 0)]), #[]⟩
noncomputable def x3_489 (P : Params) : Obj := ⟨(.type "tuple"), none, (.seq #[] 0), #[]⟩
noncomputable def x3_490 (P : Params) : Obj := ⟨(.type "StopIteration"), none, (.fields #[(.ref 489), .none, .none, .none, (.bool false), .none]), #[]⟩
noncomputable def x3_491 (P : Params) : Obj := ⟨(.type "tuple_iterator"), none, (.fields #[.none, (.int 2 0)]), #[]⟩
noncomputable def x3_492 (P : Params) : Obj := ⟨(.type "tuple"), none, (.seq #[] 0), #[]⟩
noncomputable def x3_493 (P : Params) : Obj := ⟨(.type "StopIteration"), none, (.fields #[(.ref 492), .none, .none, .none, (.bool false), .none]), #[]⟩
noncomputable def x3_494 (P : Params) : Obj := ⟨(.type "dict"), none, (.dict #[⟨bhash P #[], (.bytes #[] 430), (.int 29 827)⟩] 1), #[]⟩
noncomputable def x3_495 (P : Params) : Obj := ⟨(.type "tuple"), none, (.seq #[(.int 29 827), (.ref 494)] 0), #[]⟩
noncomputable def x3_496 (P : Params) : Obj := ⟨(.type "tuple"), none, (.seq #[(.int 30 835), (.ref 125)] 0), #[]⟩
noncomputable def x3_497 (P : Params) : Obj := ⟨(.type "tuple_iterator"), none, (.fields #[.none, (.int 2 0)]), #[]⟩
noncomputable def x3_498 (P : Params) : Obj := ⟨(.type "tuple"), none, (.seq #[] 0), #[]⟩
noncomputable def x3_499 (P : Params) : Obj := ⟨(.type "StopIteration"), none, (.fields #[(.ref 498), .none, .none, .none, (.bool false), .none]), #[]⟩
noncomputable def x3_500 (P : Params) : Obj := ⟨(.type "tuple_iterator"), none, (.fields #[.none, (.int 2 0)]), #[]⟩
noncomputable def x3_501 (P : Params) : Obj := ⟨(.type "tuple"), none, (.seq #[] 0), #[]⟩
noncomputable def x3_502 (P : Params) : Obj := ⟨(.type "StopIteration"), none, (.fields #[(.ref 501), .none, .none, .none, (.bool false), .none]), #[]⟩
noncomputable def x3_503 (P : Params) : Obj := ⟨(.type "dict"), none, (.dict #[⟨bhash P #[], (.bytes #[] 432), (.int 30 835)⟩] 1), #[]⟩
noncomputable def x3_504 (P : Params) : Obj := ⟨(.type "tuple"), none, (.seq #[(.int 30 835), (.ref 503)] 0), #[]⟩
noncomputable def tree3 (P : Params) : BT := (.node (xB_0 P) (.node (xB_1 P) (.node (xK_3 P) (.node (xB_7 P) (.node (xB_15 P) (.node (xB_31 P) (.node (xK_63 P) (.node (xK_127 P) (.node (x1_255 P) .nil .nil) (.node (x2_383 P) .nil .nil)) (.node (xK_191 P) (.node (x1_319 P) .nil .nil) (.node (x3_447 P) .nil .nil))) (.node (xK_95 P) (.node (xK_159 P) (.node (x1_287 P) .nil .nil) (.node (x3_415 P) .nil .nil)) (.node (xK_223 P) (.node (x2_351 P) .nil .nil) (.node (x3_479 P) .nil .nil)))) (.node (xK_47 P) (.node (xK_79 P) (.node (xK_143 P) (.node (x1_271 P) .nil .nil) (.node (x2_399 P) .nil .nil)) (.node (xK_207 P) (.node (x2_335 P) .nil .nil) (.node (x3_463 P) .nil .nil))) (.node (xK_111 P) (.node (xK_175 P) (.node (x1_303 P) .nil .nil) (.node (x3_431 P) .nil .nil)) (.node (x1_239 P) (.node (x2_367 P) .nil .nil) (.node (x3_495 P) .nil .nil))))) (.node (xB_23 P) (.node (xK_39 P) (.node (xK_71 P) (.node (xK_135 P) (.node (x1_263 P) .nil .nil) (.node (x2_391 P) .nil .nil)) (.node (xK_199 P) (.node (x2_327 P) .nil .nil) (.node (x3_455 P) .nil .nil))) (.node (xK_103 P) (.node (xK_167 P) (.node (x1_295 P) .nil .nil) (.node (x3_423 P) .nil .nil)) (.node (x3_231 P) (.node (x2_359 P) .nil .nil) (.node (x3_487 P) .nil .nil)))) (.node (xK_55 P) (.node (xK_87 P) (.node (xK_151 P) (.node (x1_279 P) .nil .nil) (.node (x2_407 P) .nil .nil)) (.node (xK_215 P) (.node (x2_343 P) .nil .nil) (.node (x3_471 P) .nil .nil))) (.node (xK_119 P) (.node (xK_183 P) (.node (x1_311 P) .nil .nil) (.node (x3_439 P) .nil .nil)) (.node (x1_247 P) (.node (x2_375 P) .nil .nil) (.node (x3_503 P) .nil .nil)))))) (.node (xB_11 P) (.node (xB_19 P) (.node (xK_35 P) (.node (xK_67 P) (.node (xK_131 P) (.node (x1_259 P) .nil .nil) (.node (x2_387 P) .nil .nil)) (.node (xK_195 P) (.node (x1_323 P) .nil .nil) (.node (x3_451 P) .nil .nil))) (.node (xK_99 P) (.node (xK_163 P) (.node (x1_291 P) .nil .nil) (.node (x3_419 P) .nil .nil)) (.node (xK_227 P) (.node (x2_355 P) .nil .nil) (.node (x3_483 P) .nil .nil)))) (.node (xK_51 P) (.node (xK_83 P) (.node (xK_147 P) (.node (x1_275 P) .nil .nil) (.node (x2_403 P) .nil .nil)) (.node (xK_211 P) (.node (x2_339 P) .nil .nil) (.node (x3_467 P) .nil .nil))) (.node (xK_115 P) (.node (xK_179 P) (.node (x1_307 P) .nil .nil) (.node (x3_435 P) .nil .nil)) (.node (x1_243 P) (.node (x2_371 P) .nil .nil) (.node (x3_499 P) .nil .nil))))) (.node (xB_27 P) (.node (xK_43 P) (.node (xK_75 P) (.node (xK_139 P) (.node (x1_267 P) .nil .nil) (.node (x2_395 P) .nil .nil)) (.node (xK_203 P) (.node (x2_331 P) .nil .nil) (.node (x3_459 P) .nil .nil))) (.node (xK_107 P) (.node (xK_171 P) (.node (x1_299 P) .nil .nil) (.node (x3_427 P) .nil .nil)) (.node (x1_235 P) (.node (x2_363 P) .nil .nil) (.node (x3_491 P) .nil .nil)))) (.node (xK_59 P) (.node (xK_91 P) (.node (xK_155 P) (.node (x1_283 P) .nil .nil) (.node (x2_411 P) .nil .nil)) (.node (xK_219 P) (.node (x2_347 P) .nil .nil) (.node (x3_475 P) .nil .nil))) (.node (xK_123 P) (.node (xK_187 P) (.node (x1_315 P) .nil .nil) (.node (x3_443 P) .nil .nil)) (.node (x1_251 P) (.node (x2_379 P) .nil .nil) .nil)))))) (.node (xB_5 P) (.node (xB_9 P) (.node (xB_17 P) (.node (xK_33 P) (.node (xK_65 P) (.node (xK_129 P) (.node (x1_257 P) .nil .nil) (.node (x2_385 P) .nil .nil)) (.node (xK_193 P) (.node (x1_321 P) .nil .nil) (.node (x3_449 P) .nil .nil))) (.node (xK_97 P) (.node (xK_161 P) (.node (x1_289 P) .nil .nil) (.node (x3_417 P) .nil .nil)) (.node (xK_225 P) (.node (x2_353 P) .nil .nil) (.node (x3_481 P) .nil .nil)))) (.node (xK_49 P) (.node (xK_81 P) (.node (xK_145 P) (.node (x1_273 P) .nil .nil) (.node (x2_401 P) .nil .nil)) (.node (xK_209 P) (.node (x2_337 P) .nil .nil) (.node (x3_465 P) .nil .nil))) (.node (xK_113 P) (.node (xK_177 P) (.node (x2_305 P) .nil .nil) (.node (x3_433 P) .nil .nil)) (.node (x1_241 P) (.node (x2_369 P) .nil .nil) (.node (x3_497 P) .nil .nil))))) (.node (xB_25 P) (.node (xK_41 P) (.node (xK_73 P) (.node (xK_137 P) (.node (x1_265 P) .nil .nil) (.node (x2_393 P) .nil .nil)) (.node (xK_201 P) (.node (x2_329 P) .nil .nil) (.node (x3_457 P) .nil .nil))) (.node (xK_105 P) (.node (xK_169 P) (.node (x1_297 P) .nil .nil) (.node (x3_425 P) .nil .nil)) (.node (x3_233 P) (.node (x2_361 P) .nil .nil) (.node (x3_489 P) .nil .nil)))) (.node (xK_57 P) (.node (xK_89 P) (.node (xK_153 P) (.node (x1_281 P) .nil .nil) (.node (x2_409 P) .nil .nil)) (.node (xK_217 P) (.node (x2_345 P) .nil .nil) (.node (x3_473 P) .nil .nil))) (.node (xK_121 P) (.node (xK_185 P) (.node (x1_313 P) .nil .nil) (.node (x3_441 P) .nil .nil)) (.node (x1_249 P) (.node (x2_377 P) .nil .nil) .nil))))) (.node (xB_13 P) (.node (xB_21 P) (.node (xK_37 P) (.node (xK_69 P) (.node (xK_133 P) (.node (x1_261 P) .nil .nil) (.node (x2_389 P) .nil .nil)) (.node (xK_197 P) (.node (x2_325 P) .nil .nil) (.node (x3_453 P) .nil .nil))) (.node (xK_101 P) (.node (xK_165 P) (.node (x1_293 P) .nil .nil) (.node (x3_421 P) .nil .nil)) (.node (xK_229 P) (.node (x2_357 P) .nil .nil) (.node (x3_485 P) .nil .nil)))) (.node (xK_53 P) (.node (xK_85 P) (.node (xK_149 P) (.node (x1_277 P) .nil .nil) (.node (x2_405 P) .nil .nil)) (.node (xK_213 P) (.node (x2_341 P) .nil .nil) (.node (x3_469 P) .nil .nil))) (.node (xK_117 P) (.node (xK_181 P) (.node (x1_309 P) .nil .nil) (.node (x3_437 P) .nil .nil)) (.node (x1_245 P) (.node (x2_373 P) .nil .nil) (.node (x3_501 P) .nil .nil))))) (.node (xB_29 P) (.node (xK_45 P) (.node (xK_77 P) (.node (xK_141 P) (.node (x1_269 P) .nil .nil) (.node (x2_397 P) .nil .nil)) (.node (xK_205 P) (.node (x2_333 P) .nil .nil) (.node (x3_461 P) .nil .nil))) (.node (xK_109 P) (.node (xK_173 P) (.node (x1_301 P) .nil .nil) (.node (x3_429 P) .nil .nil)) (.node (x1_237 P) (.node (x2_365 P) .nil .nil) (.node (x3_493 P) .nil .nil)))) (.node (xK_61 P) (.node (xK_93 P) (.node (xK_157 P) (.node (x1_285 P) .nil .nil) (.node (x2_413 P) .nil .nil)) (.node (xK_221 P) (.node (x2_349 P) .nil .nil) (.node (x3_477 P) .nil .nil))) (.node (xK_125 P) (.node (xK_189 P) (.node (x1_317 P) .nil .nil) (.node (x3_445 P) .nil .nil)) (.node (x1_253 P) (.node (x2_381 P) .nil .nil) .nil))))))) (.node (xK_2 P) (.node (xB_4 P) (.node (xB_8 P) (.node (xB_16 P) (.node (xB_32 P) (.node (xK_64 P) (.node (xK_128 P) (.node (x1_256 P) .nil .nil) (.node (x2_384 P) .nil .nil)) (.node (xK_192 P) (.node (x1_320 P) .nil .nil) (.node (x3_448 P) .nil .nil))) (.node (xK_96 P) (.node (xK_160 P) (.node (x1_288 P) .nil .nil) (.node (x3_416 P) .nil .nil)) (.node (xK_224 P) (.node (x2_352 P) .nil .nil) (.node (x3_480 P) .nil .nil)))) (.node (xK_48 P) (.node (xK_80 P) (.node (xK_144 P) (.node (x1_272 P) .nil .nil) (.node (x2_400 P) .nil .nil)) (.node (xK_208 P) (.node (x2_336 P) .nil .nil) (.node (x3_464 P) .nil .nil))) (.node (xK_112 P) (.node (xK_176 P) (.node (x1_304 P) .nil .nil) (.node (x3_432 P) .nil .nil)) (.node (x1_240 P) (.node (x2_368 P) .nil .nil) (.node (x3_496 P) .nil .nil))))) (.node (xB_24 P) (.node (xK_40 P) (.node (xK_72 P) (.node (xK_136 P) (.node (x1_264 P) .nil .nil) (.node (x2_392 P) .nil .nil)) (.node (xK_200 P) (.node (x2_328 P) .nil .nil) (.node (x3_456 P) .nil .nil))) (.node (xK_104 P) (.node (xK_168 P) (.node (x1_296 P) .nil .nil) (.node (x3_424 P) .nil .nil)) (.node (x3_232 P) (.node (x2_360 P) .nil .nil) (.node (x3_488 P) .nil .nil)))) (.node (xK_56 P) (.node (xK_88 P) (.node (xK_152 P) (.node (x1_280 P) .nil .nil) (.node (x2_408 P) .nil .nil)) (.node (xK_216 P) (.node (x2_344 P) .nil .nil) (.node (x3_472 P) .nil .nil))) (.node (xK_120 P) (.node (xK_184 P) (.node (x1_312 P) .nil .nil) (.node (x3_440 P) .nil .nil)) (.node (x1_248 P) (.node (x2_376 P) .nil .nil) (.node (x3_504 P) .nil .nil)))))) (.node (xB_12 P) (.node (xB_20 P) (.node (xK_36 P) (.node (xK_68 P) (.node (xK_132 P) (.node (x1_260 P) .nil .nil) (.node (x2_388 P) .nil .nil)) (.node (xK_196 P) (.node (x1_324 P) .nil .nil) (.node (x3_452 P) .nil .nil))) (.node (xK_100 P) (.node (xK_164 P) (.node (x1_292 P) .nil .nil) (.node (x3_420 P) .nil .nil)) (.node (xK_228 P) (.node (x2_356 P) .nil .nil) (.node (x3_484 P) .nil .nil)))) (.node (xK_52 P) (.node (xK_84 P) (.node (xK_148 P) (.node (x1_276 P) .nil .nil) (.node (x2_404 P) .nil .nil)) (.node (xK_212 P) (.node (x2_340 P) .nil .nil) (.node (x3_468 P) .nil .nil))) (.node (xK_116 P) (.node (xK_180 P) (.node (x1_308 P) .nil .nil) (.node (x3_436 P) .nil .nil)) (.node (x1_244 P) (.node (x2_372 P) .nil .nil) (.node (x3_500 P) .nil .nil))))) (.node (xB_28 P) (.node (xK_44 P) (.node (xK_76 P) (.node (xK_140 P) (.node (x1_268 P) .nil .nil) (.node (x2_396 P) .nil .nil)) (.node (xK_204 P) (.node (x2_332 P) .nil .nil) (.node (x3_460 P) .nil .nil))) (.node (xK_108 P) (.node (xK_172 P) (.node (x1_300 P) .nil .nil) (.node (x3_428 P) .nil .nil)) (.node (x1_236 P) (.node (x2_364 P) .nil .nil) (.node (x3_492 P) .nil .nil)))) (.node (xK_60 P) (.node (xK_92 P) (.node (xK_156 P) (.node (x1_284 P) .nil .nil) (.node (x2_412 P) .nil .nil)) (.node (xK_220 P) (.node (x2_348 P) .nil .nil) (.node (x3_476 P) .nil .nil))) (.node (xK_124 P) (.node (xK_188 P) (.node (x1_316 P) .nil .nil) (.node (x3_444 P) .nil .nil)) (.node (x1_252 P) (.node (x2_380 P) .nil .nil) .nil)))))) (.node (xB_6 P) (.node (xB_10 P) (.node (xB_18 P) (.node (xK_34 P) (.node (xK_66 P) (.node (xK_130 P) (.node (x1_258 P) .nil .nil) (.node (x2_386 P) .nil .nil)) (.node (xK_194 P) (.node (x1_322 P) .nil .nil) (.node (x3_450 P) .nil .nil))) (.node (xK_98 P) (.node (xK_162 P) (.node (x1_290 P) .nil .nil) (.node (x3_418 P) .nil .nil)) (.node (xK_226 P) (.node (x2_354 P) .nil .nil) (.node (x3_482 P) .nil .nil)))) (.node (xK_50 P) (.node (xK_82 P) (.node (xK_146 P) (.node (x1_274 P) .nil .nil) (.node (x2_402 P) .nil .nil)) (.node (xK_210 P) (.node (x2_338 P) .nil .nil) (.node (x3_466 P) .nil .nil))) (.node (xK_114 P) (.node (xK_178 P) (.node (x1_306 P) .nil .nil) (.node (x3_434 P) .nil .nil)) (.node (x1_242 P) (.node (x2_370 P) .nil .nil) (.node (x3_498 P) .nil .nil))))) (.node (xB_26 P) (.node (xK_42 P) (.node (xK_74 P) (.node (xK_138 P) (.node (x1_266 P) .nil .nil) (.node (x2_394 P) .nil .nil)) (.node (xK_202 P) (.node (x2_330 P) .nil .nil) (.node (x3_458 P) .nil .nil))) (.node (xK_106 P) (.node (xK_170 P) (.node (x1_298 P) .nil .nil) (.node (x3_426 P) .nil .nil)) (.node (x3_234 P) (.node (x2_362 P) .nil .nil) (.node (x3_490 P) .nil .nil)))) (.node (xK_58 P) (.node (xK_90 P) (.node (xK_154 P) (.node (x1_282 P) .nil .nil) (.node (x2_410 P) .nil .nil)) (.node (xK_218 P) (.node (x2_346 P) .nil .nil) (.node (x3_474 P) .nil .nil))) (.node (xK_122 P) (.node (xK_186 P) (.node (x1_314 P) .nil .nil) (.node (x3_442 P) .nil .nil)) (.node (x1_250 P) (.node (x2_378 P) .nil .nil) .nil))))) (.node (xB_14 P) (.node (xB_22 P) (.node (xK_38 P) (.node (xK_70 P) (.node (xK_134 P) (.node (x1_262 P) .nil .nil) (.node (x2_390 P) .nil .nil)) (.node (xK_198 P) (.node (x2_326 P) .nil .nil) (.node (x3_454 P) .nil .nil))) (.node (xK_102 P) (.node (xK_166 P) (.node (x1_294 P) .nil .nil) (.node (x3_422 P) .nil .nil)) (.node (xK_230 P) (.node (x2_358 P) .nil .nil) (.node (x3_486 P) .nil .nil)))) (.node (xK_54 P) (.node (xK_86 P) (.node (xK_150 P) (.node (x1_278 P) .nil .nil) (.node (x2_406 P) .nil .nil)) (.node (xK_214 P) (.node (x2_342 P) .nil .nil) (.node (x3_470 P) .nil .nil))) (.node (xK_118 P) (.node (xK_182 P) (.node (x1_310 P) .nil .nil) (.node (x3_438 P) .nil .nil)) (.node (x1_246 P) (.node (x2_374 P) .nil .nil) (.node (x3_502 P) .nil .nil))))) (.node (xK_30 P) (.node (xK_46 P) (.node (xK_78 P) (.node (xK_142 P) (.node (x1_270 P) .nil .nil) (.node (x2_398 P) .nil .nil)) (.node (xK_206 P) (.node (x2_334 P) .nil .nil) (.node (x3_462 P) .nil .nil))) (.node (xK_110 P) (.node (xK_174 P) (.node (x1_302 P) .nil .nil) (.node (x3_430 P) .nil .nil)) (.node (x1_238 P) (.node (x2_366 P) .nil .nil) (.node (x3_494 P) .nil .nil)))) (.node (xK_62 P) (.node (xK_94 P) (.node (xK_158 P) (.node (x1_286 P) .nil .nil) (.node (x2_414 P) .nil .nil)) (.node (xK_222 P) (.node (x2_350 P) .nil .nil) (.node (x3_478 P) .nil .nil))) (.node (xK_126 P) (.node (xK_190 P) (.node (x1_318 P) .nil .nil) (.node (x3_446 P) .nil .nil)) (.node (x1_254 P) (.node (x2_382 P) .nil .nil) .nil))))))))
noncomputable def x4_231 (P : Params) : Obj := ⟨(.type "frame"), none, (.dict #[⟨PyData.keyHash P ⟨#[115, 116, 97, 116, 105, 99, 95, 116, 97, 98, 108, 101, 95, 109, 97, 112, 112, 105, 110, 103]⟩, (.str ⟨#[115, 116, 97, 116, 105, 99, 95, 116, 97, 98, 108, 101, 95, 109, 97, 112, 112, 105, 110, 103]⟩ 600), (.ref 232)⟩, ⟨PyData.keyHash P ⟨#[105, 110, 100, 101, 120]⟩, (.str ⟨#[105, 110, 100, 101, 120]⟩ 604), (.int 40 915)⟩, ⟨PyData.keyHash P ⟨#[110, 97, 109, 101]⟩, (.str ⟨#[110, 97, 109, 101]⟩ 605), (.bytes #[105, 102, 45, 109, 111, 100, 105, 102, 105, 101, 100, 45, 115, 105, 110, 99, 101] 451)⟩, ⟨PyData.keyHash P ⟨#[118, 97, 108, 117, 101]⟩, (.str ⟨#[118, 97, 108, 117, 101]⟩ 606), (.bytes #[] 452)⟩, ⟨PyData.keyHash P ⟨#[104, 101, 97, 100, 101, 114, 95, 110, 97, 109, 101, 95, 115, 101, 97, 114, 99, 104, 95, 114, 101, 115, 117, 108, 116]⟩, (.str ⟨#[104, 101, 97, 100, 101, 114, 95, 110, 97, 109, 101, 95, 115, 101, 97, 114, 99, 104, 95, 114, 101, 115, 117, 108, 116]⟩ 608), (.ref 594)⟩] 5), #[]⟩
noncomputable def x4_232 (P : Params) : Obj := ⟨(.type "dict"), none, (.dict #[⟨bhash P #[58, 97, 117, 116, 104, 111, 114, 105, 116, 121], (.bytes #[58, 97, 117, 116, 104, 111, 114, 105, 116, 121] 373), (.ref 243)⟩, ⟨bhash P #[58, 109, 101, 116, 104, 111, 100], (.bytes #[58, 109, 101, 116, 104, 111, 100] 375), (.ref 252)⟩, ⟨bhash P #[58, 112, 97, 116, 104], (.bytes #[58, 112, 97, 116, 104] 379), (.ref 270)⟩, ⟨bhash P #[58, 115, 99, 104, 101, 109, 101], (.bytes #[58, 115, 99, 104, 101, 109, 101] 383), (.ref 288)⟩, ⟨bhash P #[58, 115, 116, 97, 116, 117, 115], (.bytes #[58, 115, 116, 97, 116, 117, 115] 387), (.ref 306)⟩, ⟨bhash P #[97, 99, 99, 101, 112, 116, 45, 99, 104, 97, 114, 115, 101, 116], (.bytes #[97, 99, 99, 101, 112, 116, 45, 99, 104, 97, 114, 115, 101, 116] 401), (.ref 369)⟩, ⟨bhash P #[97, 99, 99, 101, 112, 116, 45, 101, 110, 99, 111, 100, 105, 110, 103], (.bytes #[97, 99, 99, 101, 112, 116, 45, 101, 110, 99, 111, 100, 105, 110, 103] 403), (.ref 378)⟩, ⟨bhash P #[97, 99, 99, 101, 112, 116, 45, 108, 97, 110, 103, 117, 97, 103, 101], (.bytes #[97, 99, 99, 101, 112, 116, 45, 108, 97, 110, 103, 117, 97, 103, 101] 405), (.ref 387)⟩, ⟨bhash P #[97, 99, 99, 101, 112, 116, 45, 114, 97, 110, 103, 101, 115], (.bytes #[97, 99, 99, 101, 112, 116, 45, 114, 97, 110, 103, 101, 115] 407), (.ref 396)⟩, ⟨bhash P #[97, 99, 99, 101, 112, 116], (.bytes #[97, 99, 99, 101, 112, 116] 409), (.ref 405)⟩, ⟨bhash P #[97, 99, 99, 101, 115, 115, 45, 99, 111, 110, 116, 114, 111, 108, 45, 97, 108, 108, 111, 119, 45, 111, 114, 105, 103, 105, 110], (.bytes #[97, 99, 99, 101, 115, 115, 45, 99, 111, 110, 116, 114, 111, 108, 45, 97, 108, 108, 111, 119, 45, 111, 114, 105, 103, 105, 110] 411), (.ref 414)⟩, ⟨bhash P #[97, 103, 101], (.bytes #[97, 103, 101] 413), (.ref 423)⟩, ⟨bhash P #[97, 108, 108, 111, 119], (.bytes #[97, 108, 108, 111, 119] 415), (.ref 432)⟩, ⟨bhash P #[97, 117, 116, 104, 111, 114, 105, 122, 97, 116, 105, 111, 110], (.bytes #[97, 117, 116, 104, 111, 114, 105, 122, 97, 116, 105, 111, 110] 417), (.ref 441)⟩, ⟨bhash P #[99, 97, 99, 104, 101, 45, 99, 111, 110, 116, 114, 111, 108], (.bytes #[99, 97, 99, 104, 101, 45, 99, 111, 110, 116, 114, 111, 108] 419), (.ref 450)⟩, ⟨bhash P #[99, 111, 110, 116, 101, 110, 116, 45, 100, 105, 115, 112, 111, 115, 105, 116, 105, 111, 110], (.bytes #[99, 111, 110, 116, 101, 110, 116, 45, 100, 105, 115, 112, 111, 115, 105, 116, 105, 111, 110] 421), (.ref 459)⟩, ⟨bhash P #[99, 111, 110, 116, 101, 110, 116, 45, 101, 110, 99, 111, 100, 105, 110, 103], (.bytes #[99, 111, 110, 116, 101, 110, 116, 45, 101, 110, 99, 111, 100, 105, 110, 103] 423), (.ref 468)⟩, ⟨bhash P #[99, 111, 110, 116, 101, 110, 116, 45, 108, 97, 110, 103, 117, 97, 103, 101], (.bytes #[99, 111, 110, 116, 101, 110, 116, 45, 108, 97, 110, 103, 117, 97, 103, 101] 425), (.ref 477)⟩, ⟨bhash P #[99, 111, 110, 116, 101, 110, 116, 45, 108, 101, 110, 103, 116, 104], (.bytes #[99, 111, 110, 116, 101, 110, 116, 45, 108, 101, 110, 103, 116, 104] 427), (.ref 486)⟩, ⟨bhash P #[99, 111, 110, 116, 101, 110, 116, 45, 108, 111, 99, 97, 116, 105, 111, 110], (.bytes #[99, 111, 110, 116, 101, 110, 116, 45, 108, 111, 99, 97, 116, 105, 111, 110] 429), (.ref 495)⟩, ⟨bhash P #[99, 111, 110, 116, 101, 110, 116, 45, 114, 97, 110, 103, 101], (.bytes #[99, 111, 110, 116, 101, 110, 116, 45, 114, 97, 110, 103, 101] 431), (.ref 504)⟩, ⟨bhash P #[99, 111, 110, 116, 101, 110, 116, 45, 116, 121, 112, 101], (.bytes #[99, 111, 110, 116, 101, 110, 116, 45, 116, 121, 112, 101] 433), (.ref 513)⟩, ⟨bhash P #[99, 111, 111, 107, 105, 101], (.bytes #[99, 111, 111, 107, 105, 101] 435), (.ref 522)⟩, ⟨bhash P #[100, 97, 116, 101], (.bytes #[100, 97, 116, 101] 437), (.ref 531)⟩, ⟨bhash P #[101, 116, 97, 103], (.bytes #[101, 116, 97, 103] 439), (.ref 540)⟩, ⟨bhash P #[101, 120, 112, 101, 99, 116], (.bytes #[101, 120, 112, 101, 99, 116] 441), (.ref 549)⟩, ⟨bhash P #[101, 120, 112, 105, 114, 101, 115], (.bytes #[101, 120, 112, 105, 114, 101, 115] 443), (.ref 558)⟩, ⟨bhash P #[102, 114, 111, 109], (.bytes #[102, 114, 111, 109] 445), (.ref 567)⟩, ⟨bhash P #[104, 111, 115, 116], (.bytes #[104, 111, 115, 116] 447), (.ref 576)⟩, ⟨bhash P #[105, 102, 45, 109, 97, 116, 99, 104], (.bytes #[105, 102, 45, 109, 97, 116, 99, 104] 449), (.ref 585)⟩, ⟨bhash P #[105, 102, 45, 109, 111, 100, 105, 102, 105, 101, 100, 45, 115, 105, 110, 99, 101], (.bytes #[105, 102, 45, 109, 111, 100, 105, 102, 105, 101, 100, 45, 115, 105, 110, 99, 101] 451), (.ref 594)⟩] 31), #[]⟩
noncomputable def x4_233 (P : Params) : Obj := ⟨(.type "tuple_iterator"), none, (.fields #[(.ref 157), (.int 40 0)]), #[]⟩
noncomputable def x4_234 (P : Params) : Obj := ⟨(.type "enumerate"), none, (.fields #[.none, (.bool false), (.ref 233), (.int 41 0), .none, (.ref 135)]), #[]⟩
noncomputable def x4_505 (P : Params) : Obj := ⟨(.type "tuple"), none, (.seq #[(.int 31 843), (.ref 126)] 0), #[]⟩
noncomputable def x4_506 (P : Params) : Obj := ⟨(.type "tuple_iterator"), none, (.fields #[.none, (.int 2 0)]), #[]⟩
noncomputable def x4_507 (P : Params) : Obj := ⟨(.type "tuple"), none, (.seq #[] 0), #[]⟩
noncomputable def x4_508 (P : Params) : Obj := ⟨(.type "StopIteration"), none, (.fields #[(.ref 507), .none, .none, .none, (.bool false), .none]), #[]⟩
noncomputable def x4_509 (P : Params) : Obj := ⟨(.type "tuple_iterator"), none, (.fields #[.none, (.int 2 0)]), #[]⟩
noncomputable def x4_510 (P : Params) : Obj := ⟨(.type "tuple"), none, (.seq #[] 0), #[]⟩
noncomputable def x4_511 (P : Params) : Obj := ⟨(.type "StopIteration"), none, (.fields #[(.ref 510), .none, .none, .none, (.bool false), .none]), #[]⟩
noncomputable def x4_512 (P : Params) : Obj := ⟨(.type "dict"), none, (.dict #[⟨bhash P #[], (.bytes #[] 434), (.int 31 843)⟩] 1), #[]⟩
noncomputable def x4_513 (P : Params) : Obj := ⟨(.type "tuple"), none, (.seq #[(.int 31 843), (.ref 512)] 0), #[]⟩
noncomputable def x4_514 (P : Params) : Obj := ⟨(.type "tuple"), none, (.seq #[(.int 32 851), (.ref 127)] 0), #[]⟩
noncomputable def x4_515 (P : Params) : Obj := ⟨(.type "tuple_iterator"), none, (.fields #[.none, (.int 2 0)]), #[]⟩
noncomputable def x4_516 (P : Params) : Obj := ⟨(.type "tuple"), none, (.seq #[] 0), #[]⟩
noncomputable def x4_517 (P : Params) : Obj := ⟨(.type "StopIteration"), none, (.fields #[(.ref 516), .none, .none, .none, (.bool false), .none]), #[]⟩
noncomputable def x4_518 (P : Params) : Obj := ⟨(.type "tuple_iterator"), none, (.fields #[.none, (.int 2 0)]), #[]⟩
noncomputable def x4_519 (P : Params) : Obj := ⟨(.type "tuple"), none, (.seq #[] 0), #[]⟩
noncomputable def x4_520 (P : Params) : Obj := ⟨(.type "StopIteration"), none, (.fields #[(.ref 519), .none, .none, .none, (.bool false), .none]), #[]⟩
noncomputable def x4_521 (P : Params) : Obj := ⟨(.type "dict"), none, (.dict #[⟨bhash P #[], (.bytes #[] 436), (.int 32 851)⟩] 1), #[]⟩
noncomputable def x4_522 (P : Params) : Obj := ⟨(.type "tuple"), none, (.seq #[(.int 32 851), (.ref 521)] 0), #[]⟩
noncomputable def x4_523 (P : Params) : Obj := ⟨(.type "tuple"), none, (.seq #[(.int 33 859), (.ref 128)] 0), #[]⟩
noncomputable def x4_524 (P : Params) : Obj := ⟨(.type "tuple_iterator"), none, (.fields #[.none, (.int 2 0)]), #[]⟩
noncomputable def x4_525 (P : Params) : Obj := ⟨(.type "tuple"), none, (.seq #[] 0), #[]⟩
noncomputable def x4_526 (P : Params) : Obj := ⟨(.type "StopIteration"), none, (.fields #[(.ref 525), .none, .none, .none, (.bool false), .none]), #[]⟩
noncomputable def x4_527 (P : Params) : Obj := ⟨(.type "tuple_iterator"), none, (.fields #[.none, (.int 2 0)]), #[]⟩
noncomputable def x4_528 (P : Params) : Obj := ⟨(.type "tuple"), none, (.seq #[] 0), #[]⟩
noncomputable def x4_529 (P : Params) : Obj := ⟨(.type "StopIteration"), none, (.fields #[(.ref 528), .none, .none, .none, (.bool false), .none]), #[]⟩
noncomputable def x4_530 (P : Params) : Obj := ⟨(.type "dict"), none, (.dict #[⟨bhash P #[], (.bytes #[] 438), (.int 33 859)⟩] 1), #[]⟩
noncomputable def x4_531 (P : Params) : Obj := ⟨(.type "tuple"), none, (.seq #[(.int 33 859), (.ref 530)] 0), #[]⟩
noncomputable def x4_532 (P : Params) : Obj := ⟨(.type "tuple"), none, (.seq #[(.int 34 867), (.ref 129)] 0), #[]⟩
noncomputable def x4_533 (P : Params) : Obj := ⟨(.type "tuple_iterator"), none, (.fields #[.none, (.int 2 0)]), #[]⟩
noncomputable def x4_534 (P : Params) : Obj := ⟨(.type "tuple"), none, (.seq #[] 0), #[]⟩
noncomputable def x4_535 (P : Params) : Obj := ⟨(.type "StopIteration"), none, (.fields #[(.ref 534), .none, .none, .none, (.bool false), .none]), #[]⟩
noncomputable def x4_536 (P : Params) : Obj := ⟨(.type "tuple_iterator"), none, (.fields #[.none, (.int 2 0)]), #[]⟩
noncomputable def x4_537 (P : Params) : Obj := ⟨(.type "tuple"), none, (.seq #[] 0), #[]⟩
noncomputable def x4_538 (P : Params) : Obj := ⟨(.type "StopIteration"), none, (.fields #[(.ref 537), .none, .none, .none, (.bool false), .none]), #[]⟩
noncomputable def x4_539 (P : Params) : Obj := ⟨(.type "dict"), none, (.dict #[⟨bhash P #[], (.bytes #[] 440), (.int 34 867)⟩] 1), #[]⟩
noncomputable def x4_540 (P : Params) : Obj := ⟨(.type "tuple"), none, (.seq #[(.int 34 867), (.ref 539)] 0), #[]⟩
noncomputable def x4_541 (P : Params) : Obj := ⟨(.type "tuple"), none, (.seq #[(.int 35 875), (.ref 130)] 0), #[]⟩
noncomputable def x4_542 (P : Params) : Obj := ⟨(.type "tuple_iterator"), none, (.fields #[.none, (.int 2 0)]), #[]⟩
noncomputable def x4_543 (P : Params) : Obj := ⟨(.type "tuple"), none, (.seq #[] 0), #[]⟩
noncomputable def x4_544 (P : Params) : Obj := ⟨(.type "StopIteration"), none, (.fields #[(.ref 543), .none, .none, .none, (.bool false), .none]), #[]⟩
noncomputable def x4_545 (P : Params) : Obj := ⟨(.type "tuple_iterator"), none, (.fields #[.none, (.int 2 0)]), #[]⟩
noncomputable def x4_546 (P : Params) : Obj := ⟨(.type "tuple"), none, (.seq #[] 0), #[]⟩
noncomputable def x4_547 (P : Params) : Obj := ⟨(.type "StopIteration"), none, (.fields #[(.ref 546), .none, .none, .none, (.bool false), .none]), #[]⟩
noncomputable def x4_548 (P : Params) : Obj := ⟨(.type "dict"), none, (.dict #[⟨bhash P #[], (.bytes #[] 442), (.int 35 875)⟩] 1), #[]⟩
noncomputable def x4_549 (P : Params) : Obj := ⟨(.type "tuple"), none, (.seq #[(.int 35 875), (.ref 548)] 0), #[]⟩
noncomputable def x4_550 (P : Params) : Obj := ⟨(.type "tuple"), none, (.seq #[(.int 36 883), (.ref 131)] 0), #[]⟩
noncomputable def x4_551 (P : Params) : Obj := ⟨(.type "tuple_iterator"), none, (.fields #[.none, (.int 2 0)]), #[]⟩
noncomputable def x4_552 (P : Params) : Obj := ⟨(.type "tuple"), none, (.seq #[] 0), #[]⟩
noncomputable def x4_553 (P : Params) : Obj := ⟨(.type "StopIteration"), none, (.fields #[(.ref 552), .none, .none, .none, (.bool false), .none]), #[]⟩
noncomputable def x4_554 (P : Params) : Obj := ⟨(.type "tuple_iterator"), none, (.fields #[.none, (.int 2 0)]), #[]⟩
noncomputable def x4_555 (P : Params) : Obj := ⟨(.type "tuple"), none, (.seq #[] 0), #[]⟩
noncomputable def x4_556 (P : Params) : Obj := ⟨(.type "StopIteration"), none, (.fields #[(.ref 555), .none, .none, .none, (.bool false), .none]), #[]⟩
noncomputable def x4_557 (P : Params) : Obj := ⟨(.type "dict"), none, (.dict #[⟨bhash P #[], (.bytes #[] 444), (.int 36 883)⟩] 1), #[]⟩
noncomputable def x4_558 (P : Params) : Obj := ⟨(.type "tuple"), none, (.seq #[(.int 36 883), (.ref 557)] 0), #[]⟩
noncomputable def x4_559 (P : Params) : Obj := ⟨(.type "tuple"), none, (.seq #[(.int 37 891), (.ref 132)] 0), #[]⟩
noncomputable def x4_560 (P : Params) : Obj := ⟨(.type "tuple_iterator"), none, (.fields #[.none, (.int 2 0)]), #[]⟩
noncomputable def x4_561 (P : Params) : Obj := ⟨(.type "tuple"), none, (.seq #[] 0), #[]⟩
noncomputable def x4_562 (P : Params) : Obj := ⟨(.type "StopIteration"), none, (.fields #[(.ref 561), .none, .none, .none, (.bool false), .none]), #[]⟩
noncomputable def x4_563 (P : Params) : Obj := ⟨(.type "tuple_iterator"), none, (.fields #[.none, (.int 2 0)]), #[]⟩
noncomputable def x4_564 (P : Params) : Obj := ⟨(.type "tuple"), none, (.seq #[] 0), #[]⟩
noncomputable def x4_565 (P : Params) : Obj := ⟨(.type "StopIteration"), none, (.fields #[(.ref 564), .none, .none, .none, (.bool false), .none]), #[]⟩
noncomputable def x4_566 (P : Params) : Obj := ⟨(.type "dict"), none, (.dict #[⟨bhash P #[], (.bytes #[] 446), (.int 37 891)⟩] 1), #[]⟩
noncomputable def x4_567 (P : Params) : Obj := ⟨(.type "tuple"), none, (.seq #[(.int 37 891), (.ref 566)] 0), #[]⟩
noncomputable def x4_568 (P : Params) : Obj := ⟨(.type "tuple"), none, (.seq #[(.int 38 899), (.ref 133)] 0), #[]⟩
noncomputable def x4_569 (P : Params) : Obj := ⟨(.type "tuple_iterator"), none, (.fields #[.none, (.int 2 0)]), #[]⟩
noncomputable def x4_570 (P : Params) : Obj := ⟨(.type "tuple"), none, (.seq #[] 0), #[]⟩
noncomputable def x4_571 (P : Params) : Obj := ⟨(.type "StopIteration"), none, (.fields #[(.ref 570), .none, .none, .none, (.bool false), .none]), #[]⟩
noncomputable def x4_572 (P : Params) : Obj := ⟨(.type "tuple_iterator"), none, (.fields #[.none, (.int 2 0)]), #[]⟩
noncomputable def x4_573 (P : Params) : Obj := ⟨(.type "tuple"), none, (.seq #[] 0), #[]⟩
noncomputable def x4_574 (P : Params) : Obj := ⟨(.type "StopIteration"), none, (.fields #[(.ref 573), .none, .none, .none, (.bool false), .none]), #[]⟩
noncomputable def x4_575 (P : Params) : Obj := ⟨(.type "dict"), none, (.dict #[⟨bhash P #[], (.bytes #[] 448), (.int 38 899)⟩] 1), #[]⟩
noncomputable def x4_576 (P : Params) : Obj := ⟨(.type "tuple"), none, (.seq #[(.int 38 899), (.ref 575)] 0), #[]⟩
noncomputable def x4_577 (P : Params) : Obj := ⟨(.type "tuple"), none, (.seq #[(.int 39 907), (.ref 134)] 0), #[]⟩
noncomputable def x4_578 (P : Params) : Obj := ⟨(.type "tuple_iterator"), none, (.fields #[.none, (.int 2 0)]), #[]⟩
noncomputable def x4_579 (P : Params) : Obj := ⟨(.type "tuple"), none, (.seq #[] 0), #[]⟩
noncomputable def x4_580 (P : Params) : Obj := ⟨(.type "StopIteration"), none, (.fields #[(.ref 579), .none, .none, .none, (.bool false), .none]), #[]⟩
noncomputable def x4_581 (P : Params) : Obj := ⟨(.type "tuple_iterator"), none, (.fields #[.none, (.int 2 0)]), #[]⟩
noncomputable def x4_582 (P : Params) : Obj := ⟨(.type "tuple"), none, (.seq #[] 0), #[]⟩
noncomputable def x4_583 (P : Params) : Obj := ⟨(.type "StopIteration"), none, (.fields #[(.ref 582), .none, .none, .none, (.bool false), .none]), #[]⟩
noncomputable def x4_584 (P : Params) : Obj := ⟨(.type "dict"), none, (.dict #[⟨bhash P #[], (.bytes #[] 450), (.int 39 907)⟩] 1), #[]⟩
noncomputable def x4_585 (P : Params) : Obj := ⟨(.type "tuple"), none, (.seq #[(.int 39 907), (.ref 584)] 0), #[]⟩
noncomputable def x4_586 (P : Params) : Obj := ⟨(.type "tuple"), none, (.seq #[(.int 40 915), (.ref 135)] 0), #[]⟩
noncomputable def x4_587 (P : Params) : Obj := ⟨(.type "tuple_iterator"), none, (.fields #[.none, (.int 2 0)]), #[]⟩
noncomputable def x4_588 (P : Params) : Obj := ⟨(.type "tuple"), none, (.seq #[] 0), #[]⟩
noncomputable def x4_589 (P : Params) : Obj := ⟨(.type "StopIteration"), none, (.fields #[(.ref 588), .none, .none, .none, (.bool false), .none]), #[]⟩
noncomputable def x4_590 (P : Params) : Obj := ⟨(.type "tuple_iterator"), none, (.fields #[.none, (.int 2 0)]), #[]⟩
noncomputable def x4_591 (P : Params) : Obj := ⟨(.type "tuple"), none, (.seq #[] 0), #[]⟩
noncomputable def x4_592 (P : Params) : Obj := ⟨(.type "StopIteration"), none, (.fields #[(.ref 591), .none, .none, .none, (.bool false), .none]), #[]⟩
noncomputable def x4_593 (P : Params) : Obj := ⟨(.type "dict"), none, (.dict #[⟨bhash P #[], (.bytes #[] 452), (.int 40 915)⟩] 1), #[]⟩
noncomputable def x4_594 (P : Params) : Obj := ⟨(.type "tuple"), none, (.seq #[(.int 40 915), (.ref 593)] 0), #[]⟩
noncomputable def tree4 (P : Params) : BT := (.node (xB_0 P) (.node (xB_1 P) (.node (xK_3 P) (.node (xB_7 P) (.node (xB_15 P) (.node (xB_31 P) (.node (xK_63 P) (.node (xK_127 P) (.node (x1_255 P) (.node (x4_511 P) .nil .nil) .nil) (.node (x2_383 P) .nil .nil)) (.node (xK_191 P) (.node (x1_319 P) (.node (x4_575 P) .nil .nil) .nil) (.node (x3_447 P) .nil .nil))) (.node (xK_95 P) (.node (xK_159 P) (.node (x1_287 P) (.node (x4_543 P) .nil .nil) .nil) (.node (x3_415 P) .nil .nil)) (.node (xK_223 P) (.node (x2_351 P) .nil .nil) (.node (x3_479 P) .nil .nil)))) (.node (xK_47 P) (.node (xK_79 P) (.node (xK_143 P) (.node (x1_271 P) (.node (x4_527 P) .nil .nil) .nil) (.node (x2_399 P) .nil .nil)) (.node (xK_207 P) (.node (x2_335 P) (.node (x4_591 P) .nil .nil) .nil) (.node (x3_463 P) .nil .nil))) (.node (xK_111 P) (.node (xK_175 P) (.node (x1_303 P) (.node (x4_559 P) .nil .nil) .nil) (.node (x3_431 P) .nil .nil)) (.node (x1_239 P) (.node (x2_367 P) .nil .nil) (.node (x3_495 P) .nil .nil))))) (.node (xB_23 P) (.node (xK_39 P) (.node (xK_71 P) (.node (xK_135 P) (.node (x1_263 P) (.node (x4_519 P) .nil .nil) .nil) (.node (x2_391 P) .nil .nil)) (.node (xK_199 P) (.node (x2_327 P) (.node (x4_583 P) .nil .nil) .nil) (.node (x3_455 P) .nil .nil))) (.node (xK_103 P) (.node (xK_167 P) (.node (x1_295 P) (.node (x4_551 P) .nil .nil) .nil) (.node (x3_423 P) .nil .nil)) (.node (x4_231 P) (.node (x2_359 P) .nil .nil) (.node (x3_487 P) .nil .nil)))) (.node (xK_55 P) (.node (xK_87 P) (.node (xK_151 P) (.node (x1_279 P) (.node (x4_535 P) .nil .nil) .nil) (.node (x2_407 P) .nil .nil)) (.node (xK_215 P) (.node (x2_343 P) .nil .nil) (.node (x3_471 P) .nil .nil))) (.node (xK_119 P) (.node (xK_183 P) (.node (x1_311 P) (.node (x4_567 P) .nil .nil) .nil) (.node (x3_439 P) .nil .nil)) (.node (x1_247 P) (.node (x2_375 P) .nil .nil) (.node (x3_503 P) .nil .nil)))))) (.node (xB_11 P) (.node (xB_19 P) (.node (xK_35 P) (.node (xK_67 P) (.node (xK_131 P) (.node (x1_259 P) (.node (x4_515 P) .nil .nil) .nil) (.node (x2_387 P) .nil .nil)) (.node (xK_195 P) (.node (x1_323 P) (.node (x4_579 P) .nil .nil) .nil) (.node (x3_451 P) .nil .nil))) (.node (xK_99 P) (.node (xK_163 P) (.node (x1_291 P) (.node (x4_547 P) .nil .nil) .nil) (.node (x3_419 P) .nil .nil)) (.node (xK_227 P) (.node (x2_355 P) .nil .nil) (.node (x3_483 P) .nil .nil)))) (.node (xK_51 P) (.node (xK_83 P) (.node (xK_147 P) (.node (x1_275 P) (.node (x4_531 P) .nil .nil) .nil) (.node (x2_403 P) .nil .nil)) (.node (xK_211 P) (.node (x2_339 P) .nil .nil) (.node (x3_467 P) .nil .nil))) (.node (xK_115 P) (.node (xK_179 P) (.node (x1_307 P) (.node (x4_563 P) .nil .nil) .nil) (.node (x3_435 P) .nil .nil)) (.node (x1_243 P) (.node (x2_371 P) .nil .nil) (.node (x3_499 P) .nil .nil))))) (.node (xB_27 P) (.node (xK_43 P) (.node (xK_75 P) (.node (xK_139 P) (.node (x1_267 P) (.node (x4_523 P) .nil .nil) .nil) (.node (x2_395 P) .nil .nil)) (.node (xK_203 P) (.node (x2_331 P) (.node (x4_587 P) .nil .nil) .nil) (.node (x3_459 P) .nil .nil))) (.node (xK_107 P) (.node (xK_171 P) (.node (x1_299 P) (.node (x4_555 P) .nil .nil) .nil) (.node (x3_427 P) .nil .nil)) (.node (x1_235 P) (.node (x2_363 P) .nil .nil) (.node (x3_491 P) .nil .nil)))) (.node (xK_59 P) (.node (xK_91 P) (.node (xK_155 P) (.node (x1_283 P) (.node (x4_539 P) .nil .nil) .nil) (.node (x2_411 P) .nil .nil)) (.node (xK_219 P) (.node (x2_347 P) .nil .nil) (.node (x3_475 P) .nil .nil))) (.node (xK_123 P) (.node (xK_187 P) (.node (x1_315 P) (.node (x4_571 P) .nil .nil) .nil) (.node (x3_443 P) .nil .nil)) (.node (x1_251 P) (.node (x2_379 P) .nil .nil) (.node (x4_507 P) .nil .nil))))))) (.node (xB_5 P) (.node (xB_9 P) (.node (xB_17 P) (.node (xK_33 P) (.node (xK_65 P) (.node (xK_129 P) (.node (x1_257 P) (.node (x4_513 P) .nil .nil) .nil) (.node (x2_385 P) .nil .nil)) (.node (xK_193 P) (.node (x1_321 P) (.node (x4_577 P) .nil .nil) .nil) (.node (x3_449 P) .nil .nil))) (.node (xK_97 P) (.node (xK_161 P) (.node (x1_289 P) (.node (x4_545 P) .nil .nil) .nil) (.node (x3_417 P) .nil .nil)) (.node (xK_225 P) (.node (x2_353 P) .nil .nil) (.node (x3_481 P) .nil .nil)))) (.node (xK_49 P) (.node (xK_81 P) (.node (xK_145 P) (.node (x1_273 P) (.node (x4_529 P) .nil .nil) .nil) (.node (x2_401 P) .nil .nil)) (.node (xK_209 P) (.node (x2_337 P) (.node (x4_593 P) .nil .nil) .nil) (.node (x3_465 P) .nil .nil))) (.node (xK_113 P) (.node (xK_177 P) (.node (x2_305 P) (.node (x4_561 P) .nil .nil) .nil) (.node (x3_433 P) .nil .nil)) (.node (x1_241 P) (.node (x2_369 P) .nil .nil) (.node (x3_497 P) .nil .nil))))) (.node (xB_25 P) (.node (xK_41 P) (.node (xK_73 P) (.node (xK_137 P) (.node (x1_265 P) (.node (x4_521 P) .nil .nil) .nil) (.node (x2_393 P) .nil .nil)) (.node (xK_201 P) (.node (x2_329 P) (.node (x4_585 P) .nil .nil) .nil) (.node (x3_457 P) .nil .nil))) (.node (xK_105 P) (.node (xK_169 P) (.node (x1_297 P) (.node (x4_553 P) .nil .nil) .nil) (.node (x3_425 P) .nil .nil)) (.node (x4_233 P) (.node (x2_361 P) .nil .nil) (.node (x3_489 P) .nil .nil)))) (.node (xK_57 P) (.node (xK_89 P) (.node (xK_153 P) (.node (x1_281 P) (.node (x4_537 P) .nil .nil) .nil) (.node (x2_409 P) .nil .nil)) (.node (xK_217 P) (.node (x2_345 P) .nil .nil) (.node (x3_473 P) .nil .nil))) (.node (xK_121 P) (.node (xK_185 P) (.node (x1_313 P) (.node (x4_569 P) .nil .nil) .nil) (.node (x3_441 P) .nil .nil)) (.node (x1_249 P) (.node (x2_377 P) .nil .nil) (.node (x4_505 P) .nil .nil)))))) (.node (xB_13 P) (.node (xB_21 P) (.node (xK_37 P) (.node (xK_69 P) (.node (xK_133 P) (.node (x1_261 P) (.node (x4_517 P) .nil .nil) .nil) (.node (x2_389 P) .nil .nil)) (.node (xK_197 P) (.node (x2_325 P) (.node (x4_581 P) .nil .nil) .nil) (.node (x3_453 P) .nil .nil))) (.node (xK_101 P) (.node (xK_165 P) (.node (x1_293 P) (.node (x4_549 P) .nil .nil) .nil) (.node (x3_421 P) .nil .nil)) (.node (xK_229 P) (.node (x2_357 P) .nil .nil) (.node (x3_485 P) .nil .nil)))) (.node (xK_53 P) (.node (xK_85 P) (.node (xK_149 P) (.node (x1_277 P) (.node (x4_533 P) .nil .nil) .nil) (.node (x2_405 P) .nil .nil)) (.node (xK_213 P) (.node (x2_341 P) .nil .nil) (.node (x3_469 P) .nil .nil))) (.node (xK_117 P) (.node (xK_181 P) (.node (x1_309 P) (.node (x4_565 P) .nil .nil) .nil) (.node (x3_437 P) .nil .nil)) (.node (x1_245 P) (.node (x2_373 P) .nil .nil) (.node (x3_501 P) .nil .nil))))) (.node (xB_29 P) (.node (xK_45 P) (.node (xK_77 P) (.node (xK_141 P) (.node (x1_269 P) (.node (x4_525 P) .nil .nil) .nil) (.node (x2_397 P) .nil .nil)) (.node (xK_205 P) (.node (x2_333 P) (.node (x4_589 P) .nil .nil) .nil) (.node (x3_461 P) .nil .nil))) (.node (xK_109 P) (.node (xK_173 P) (.node (x1_301 P) (.node (x4_557 P) .nil .nil) .nil) (.node (x3_429 P) .nil .nil)) (.node (x1_237 P) (.node (x2_365 P) .nil .nil) (.node (x3_493 P) .nil .nil)))) (.node (xK_61 P) (.node (xK_93 P) (.node (xK_157 P) (.node (x1_285 P) (.node (x4_541 P) .nil .nil) .nil) (.node (x2_413 P) .nil .nil)) (.node (xK_221 P) (.node (x2_349 P) .nil .nil) (.node (x3_477 P) .nil .nil))) (.node (xK_125 P) (.node (xK_189 P) (.node (x1_317 P) (.node (x4_573 P) .nil .nil) .nil) (.node (x3_445 P) .nil .nil)) (.node (x1_253 P) (.node (x2_381 P) .nil .nil) (.node (x4_509 P) .nil .nil)))))))) (.node (xK_2 P) (.node (xB_4 P) (.node (xB_8 P) (.node (xB_16 P) (.node (xB_32 P) (.node (xK_64 P) (.node (xK_128 P) (.node (x1_256 P) (.node (x4_512 P) .nil .nil) .nil) (.node (x2_384 P) .nil .nil)) (.node (xK_192 P) (.node (x1_320 P) (.node (x4_576 P) .nil .nil) .nil) (.node (x3_448 P) .nil .nil))) (.node (xK_96 P) (.node (xK_160 P) (.node (x1_288 P) (.node (x4_544 P) .nil .nil) .nil) (.node (x3_416 P) .nil .nil)) (.node (xK_224 P) (.node (x2_352 P) .nil .nil) (.node (x3_480 P) .nil .nil)))) (.node (xK_48 P) (.node (xK_80 P) (.node (xK_144 P) (.node (x1_272 P) (.node (x4_528 P) .nil .nil) .nil) (.node (x2_400 P) .nil .nil)) (.node (xK_208 P) (.node (x2_336 P) (.node (x4_592 P) .nil .nil) .nil) (.node (x3_464 P) .nil .nil))) (.node (xK_112 P) (.node (xK_176 P) (.node (x1_304 P) (.node (x4_560 P) .nil .nil) .nil) (.node (x3_432 P) .nil .nil)) (.node (x1_240 P) (.node (x2_368 P) .nil .nil) (.node (x3_496 P) .nil .nil))))) (.node (xB_24 P) (.node (xK_40 P) (.node (xK_72 P) (.node (xK_136 P) (.node (x1_264 P) (.node (x4_520 P) .nil .nil) .nil) (.node (x2_392 P) .nil .nil)) (.node (xK_200 P) (.node (x2_328 P) (.node (x4_584 P) .nil .nil) .nil) (.node (x3_456 P) .nil .nil))) (.node (xK_104 P) (.node (xK_168 P) (.node (x1_296 P) (.node (x4_552 P) .nil .nil) .nil) (.node (x3_424 P) .nil .nil)) (.node (x4_232 P) (.node (x2_360 P) .nil .nil) (.node (x3_488 P) .nil .nil)))) (.node (xK_56 P) (.node (xK_88 P) (.node (xK_152 P) (.node (x1_280 P) (.node (x4_536 P) .nil .nil) .nil) (.node (x2_408 P) .nil .nil)) (.node (xK_216 P) (.node (x2_344 P) .nil .nil) (.node (x3_472 P) .nil .nil))) (.node (xK_120 P) (.node (xK_184 P) (.node (x1_312 P) (.node (x4_568 P) .nil .nil) .nil) (.node (x3_440 P) .nil .nil)) (.node (x1_248 P) (.node (x2_376 P) .nil .nil) (.node (x3_504 P) .nil .nil)))))) (.node (xB_12 P) (.node (xB_20 P) (.node (xK_36 P) (.node (xK_68 P) (.node (xK_132 P) (.node (x1_260 P) (.node (x4_516 P) .nil .nil) .nil) (.node (x2_388 P) .nil .nil)) (.node (xK_196 P) (.node (x1_324 P) (.node (x4_580 P) .nil .nil) .nil) (.node (x3_452 P) .nil .nil))) (.node (xK_100 P) (.node (xK_164 P) (.node (x1_292 P) (.node (x4_548 P) .nil .nil) .nil) (.node (x3_420 P) .nil .nil)) (.node (xK_228 P) (.node (x2_356 P) .nil .nil) (.node (x3_484 P) .nil .nil)))) (.node (xK_52 P) (.node (xK_84 P) (.node (xK_148 P) (.node (x1_276 P) (.node (x4_532 P) .nil .nil) .nil) (.node (x2_404 P) .nil .nil)) (.node (xK_212 P) (.node (x2_340 P) .nil .nil) (.node (x3_468 P) .nil .nil))) (.node (xK_116 P) (.node (xK_180 P) (.node (x1_308 P) (.node (x4_564 P) .nil .nil) .nil) (.node (x3_436 P) .nil .nil)) (.node (x1_244 P) (.node (x2_372 P) .nil .nil) (.node (x3_500 P) .nil .nil))))) (.node (xB_28 P) (.node (xK_44 P) (.node (xK_76 P) (.node (xK_140 P) (.node (x1_268 P) (.node (x4_524 P) .nil .nil) .nil) (.node (x2_396 P) .nil .nil)) (.node (xK_204 P) (.node (x2_332 P) (.node (x4_588 P) .nil .nil) .nil) (.node (x3_460 P) .nil .nil))) (.node (xK_108 P) (.node (xK_172 P) (.node (x1_300 P) (.node (x4_556 P) .nil .nil) .nil) (.node (x3_428 P) .nil .nil)) (.node (x1_236 P) (.node (x2_364 P) .nil .nil) (.node (x3_492 P) .nil .nil)))) (.node (xK_60 P) (.node (xK_92 P) (.node (xK_156 P) (.node (x1_284 P) (.node (x4_540 P) .nil .nil) .nil) (.node (x2_412 P) .nil .nil)) (.node (xK_220 P) (.node (x2_348 P) .nil .nil) (.node (x3_476 P) .nil .nil))) (.node (xK_124 P) (.node (xK_188 P) (.node (x1_316 P) (.node (x4_572 P) .nil .nil) .nil) (.node (x3_444 P) .nil .nil)) (.node (x1_252 P) (.node (x2_380 P) .nil .nil) (.node (x4_508 P) .nil .nil))))))) (.node (xB_6 P) (.node (xB_10 P) (.node (xB_18 P) (.node (xK_34 P) (.node (xK_66 P) (.node (xK_130 P) (.node (x1_258 P) (.node (x4_514 P) .nil .nil) .nil) (.node (x2_386 P) .nil .nil)) (.node (xK_194 P) (.node (x1_322 P) (.node (x4_578 P) .nil .nil) .nil) (.node (x3_450 P) .nil .nil))) (.node (xK_98 P) (.node (xK_162 P) (.node (x1_290 P) (.node (x4_546 P) .nil .nil) .nil) (.node (x3_418 P) .nil .nil)) (.node (xK_226 P) (.node (x2_354 P) .nil .nil) (.node (x3_482 P) .nil .nil)))) (.node (xK_50 P) (.node (xK_82 P) (.node (xK_146 P) (.node (x1_274 P) (.node (x4_530 P) .nil .nil) .nil) (.node (x2_402 P) .nil .nil)) (.node (xK_210 P) (.node (x2_338 P) (.node (x4_594 P) .nil .nil) .nil) (.node (x3_466 P) .nil .nil))) (.node (xK_114 P) (.node (xK_178 P) (.node (x1_306 P) (.node (x4_562 P) .nil .nil) .nil) (.node (x3_434 P) .nil .nil)) (.node (x1_242 P) (.node (x2_370 P) .nil .nil) (.node (x3_498 P) .nil .nil))))) (.node (xB_26 P) (.node (xK_42 P) (.node (xK_74 P) (.node (xK_138 P) (.node (x1_266 P) (.node (x4_522 P) .nil .nil) .nil) (.node (x2_394 P) .nil .nil)) (.node (xK_202 P) (.node (x2_330 P) (.node (x4_586 P) .nil .nil) .nil) (.node (x3_458 P) .nil .nil))) (.node (xK_106 P) (.node (xK_170 P) (.node (x1_298 P) (.node (x4_554 P) .nil .nil) .nil) (.node (x3_426 P) .nil .nil)) (.node (x4_234 P) (.node (x2_362 P) .nil .nil) (.node (x3_490 P) .nil .nil)))) (.node (xK_58 P) (.node (xK_90 P) (.node (xK_154 P) (.node (x1_282 P) (.node (x4_538 P) .nil .nil) .nil) (.node (x2_410 P) .nil .nil)) (.node (xK_218 P) (.node (x2_346 P) .nil .nil) (.node (x3_474 P) .nil .nil))) (.node (xK_122 P) (.node (xK_186 P) (.node (x1_314 P) (.node (x4_570 P) .nil .nil) .nil) (.node (x3_442 P) .nil .nil)) (.node (x1_250 P) (.node (x2_378 P) .nil .nil) (.node (x4_506 P) .nil .nil)))))) (.node (xB_14 P) (.node (xB_22 P) (.node (xK_38 P) (.node (xK_70 P) (.node (xK_134 P) (.node (x1_262 P) (.node (x4_518 P) .nil .nil) .nil) (.node (x2_390 P) .nil .nil)) (.node (xK_198 P) (.node (x2_326 P) (.node (x4_582 P) .nil .nil) .nil) (.node (x3_454 P) .nil .nil))) (.node (xK_102 P) (.node (xK_166 P) (.node (x1_294 P) (.node (x4_550 P) .nil .nil) .nil) (.node (x3_422 P) .nil .nil)) (.node (xK_230 P) (.node (x2_358 P) .nil .nil) (.node (x3_486 P) .nil .nil)))) (.node (xK_54 P) (.node (xK_86 P) (.node (xK_150 P) (.node (x1_278 P) (.node (x4_534 P) .nil .nil) .nil) (.node (x2_406 P) .nil .nil)) (.node (xK_214 P) (.node (x2_342 P) .nil .nil) (.node (x3_470 P) .nil .nil))) (.node (xK_118 P) (.node (xK_182 P) (.node (x1_310 P) (.node (x4_566 P) .nil .nil) .nil) (.node (x3_438 P) .nil .nil)) (.node (x1_246 P) (.node (x2_374 P) .nil .nil) (.node (x3_502 P) .nil .nil))))) (.node (xK_30 P) (.node (xK_46 P) (.node (xK_78 P) (.node (xK_142 P) (.node (x1_270 P) (.node (x4_526 P) .nil .nil) .nil) (.node (x2_398 P) .nil .nil)) (.node (xK_206 P) (.node (x2_334 P) (.node (x4_590 P) .nil .nil) .nil) (.node (x3_462 P) .nil .nil))) (.node (xK_110 P) (.node (xK_174 P) (.node (x1_302 P) (.node (x4_558 P) .nil .nil) .nil) (.node (x3_430 P) .nil .nil)) (.node (x1_238 P) (.node (x2_366 P) .nil .nil) (.node (x3_494 P) .nil .nil)))) (.node (xK_62 P) (.node (xK_94 P) (.node (xK_158 P) (.node (x1_286 P) (.node (x4_542 P) .nil .nil) .nil) (.node (x2_414 P) .nil .nil)) (.node (xK_222 P) (.node (x2_350 P) .nil .nil) (.node (x3_478 P) .nil .nil))) (.node (xK_126 P) (.node (xK_190 P) (.node (x1_318 P) (.node (x4_574 P) .nil .nil) .nil) (.node (x3_446 P) .nil .nil)) (.node (x1_254 P) (.node (x2_382 P) .nil .nil) (.node (x4_510 P) .nil .nil)))))))))
noncomputable def x5_231 (P : Params) : Obj := ⟨(.type "frame"), none, (.dict #[⟨PyData.keyHash P ⟨#[115, 116, 97, 116, 105, 99, 95, 116, 97, 98, 108, 101, 95, 109, 97, 112, 112, 105, 110, 103]⟩, (.str ⟨#[115, 116, 97, 116, 105, 99, 95, 116, 97, 98, 108, 101, 95, 109, 97, 112, 112, 105, 110, 103]⟩ 600), (.ref 232)⟩, ⟨PyData.keyHash P ⟨#[105, 110, 100, 101, 120]⟩, (.str ⟨#[105, 110, 100, 101, 120]⟩ 604), (.int 50 995)⟩, ⟨PyData.keyHash P ⟨#[110, 97, 109, 101]⟩, (.str ⟨#[110, 97, 109, 101]⟩ 605), (.bytes #[114, 97, 110, 103, 101] 471)⟩, ⟨PyData.keyHash P ⟨#[118, 97, 108, 117, 101]⟩, (.str ⟨#[118, 97, 108, 117, 101]⟩ 606), (.bytes #[] 472)⟩, ⟨PyData.keyHash P ⟨#[104, 101, 97, 100, 101, 114, 95, 110, 97, 109, 101, 95, 115, 101, 97, 114, 99, 104, 95, 114, 101, 115, 117, 108, 116]⟩, (.str ⟨#[104, 101, 97, 100, 101, 114, 95, 110, 97, 109, 101, 95, 115, 101, 97, 114, 99, 104, 95, 114, 101, 115, 117, 108, 116]⟩ 608), (.ref 684)⟩] 5), #[]⟩
noncomputable def x5_232 (P : Params) : Obj := ⟨(.type "dict"), none, (.dict #[⟨bhash P #[58, 97, 117, 116, 104, 111, 114, 105, 116, 121], (.bytes #[58, 97, 117, 116, 104, 111, 114, 105, 116, 121] 373), (.ref 243)⟩, ⟨bhash P #[58, 109, 101, 116, 104, 111, 100], (.bytes #[58, 109, 101, 116, 104, 111, 100] 375), (.ref 252)⟩, ⟨bhash P #[58, 112, 97, 116, 104], (.bytes #[58, 112, 97, 116, 104] 379), (.ref 270)⟩, ⟨bhash P #[58, 115, 99, 104, 101, 109, 101], (.bytes #[58, 115, 99, 104, 101, 109, 101] 383), (.ref 288)⟩, ⟨bhash P #[58, 115, 116, 97, 116, 117, 115], (.bytes #[58, 115, 116, 97, 116, 117, 115] 387), (.ref 306)⟩, ⟨bhash P #[97, 99, 99, 101, 112, 116, 45, 99, 104, 97, 114, 115, 101, 116], (.bytes #[97, 99, 99, 101, 112, 116, 45, 99, 104, 97, 114, 115, 101, 116] 401), (.ref 369)⟩, ⟨bhash P #[97, 99, 99, 101, 112, 116, 45, 101, 110, 99, 111, 100, 105, 110, 103], (.bytes #[97, 99, 99, 101, 112, 116, 45, 101, 110, 99, 111, 100, 105, 110, 103] 403), (.ref 378)⟩, ⟨bhash P #[97, 99, 99, 101, 112, 116, 45, 108, 97, 110, 103, 117, 97, 103, 101], (.bytes #[97, 99, 99, 101, 112, 116, 45, 108, 97, 110, 103, 117, 97, 103, 101] 405), (.ref 387)⟩, ⟨bhash P #[97, 99, 99, 101, 112, 116, 45, 114, 97, 110, 103, 101, 115], (.bytes #[97, 99, 99, 101, 112, 116, 45, 114, 97, 110, 103, 101, 115] 407), (.ref 396)⟩, ⟨bhash P #[97, 99, 99, 101, 112, 116], (.bytes #[97, 99, 99, 101, 112, 116] 409), (.ref 405)⟩, ⟨bhash P #[97, 99, 99, 101, 115, 115, 45, 99, 111, 110, 116, 114, 111, 108, 45, 97, 108, 108, 111, 119, 45, 111, 114, 105, 103, 105, 110], (.bytes #[97, 99, 99, 101, 115, 115, 45, 99, 111, 110, 116, 114, 111, 108, 45, 97, 108, 108, 111, 119, 45, 111, 114, 105, 103, 105, 110] 411), (.ref 414)⟩, ⟨bhash P #[97, 103, 101], (.bytes #[97, 103, 101] 413), (.ref 423)⟩, ⟨bhash P #[97, 108, 108, 111, 119], (.bytes #[97, 108, 108, 111, 119] 415), (.ref 432)⟩, ⟨bhash P #[97, 117, 116, 104, 111, 114, 105, 122, 97, 116, 105, 111, 110], (.bytes #[97, 117, 116, 104, 111, 114, 105, 122, 97, 116, 105, 111, 110] 417), (.ref 441)⟩, ⟨bhash P #[99, 97, 99, 104, 101, 45, 99, 111, 110, 116, 114, 111, 108], (.bytes #[99, 97, 99, 104, 101, 45, 99, 111, 110, 116, 114, 111, 108] 419), (.ref 450)⟩, ⟨bhash P #[99, 111, 110, 116, 101, 110, 116, 45, 100, 105, 115, 112, 111, 115, 105, 116, 105, 111, 110], (.bytes #[99, 111, 110, 116, 101, 110, 116, 45, 100, 105, 115, 112, 111, 115, 105, 116, 105, 111, 110] 421), (.ref 459)⟩, ⟨bhash P #[99, 111, 110, 116, 101, 110, 116, 45, 101, 110, 99, 111, 100, 105, 110, 103], (.bytes #[99, 111, 110, 116, 101, 110, 116, 45, 101, 110, 99, 111, 100, 105, 110, 103] 423), (.ref 468)⟩, ⟨bhash P #[99, 111, 110, 116, 101, 110, 116, 45, 108, 97, 110, 103, 117, 97, 103, 101], (.bytes #[99, 111, 110, 116, 101, 110, 116, 45, 108, 97, 110, 103, 117, 97, 103, 101] 425), (.ref 477)⟩, ⟨bhash P #[99, 111, 110, 116, 101, 110, 116, 45, 108, 101, 110, 103, 116, 104], (.bytes #[99, 111, 110, 116, 101, 110, 116, 45, 108, 101, 110, 103, 116, 104] 427), (.ref 486)⟩, ⟨bhash P #[99, 111, 110, 116, 101, 110, 116, 45, 108, 111, 99, 97, 116, 105, 111, 110], (.bytes #[99, 111, 110, 116, 101, 110, 116, 45, 108, 111, 99, 97, 116, 105, 111, 110] 429), (.ref 495)⟩, ⟨bhash P #[99, 111, 110, 116, 101, 110, 116, 45, 114, 97, 110, 103, 101], (.bytes #[99, 111, 110, 116, 101, 110, 116, 45, 114, 97, 110, 103, 101] 431), (.ref 504)⟩, ⟨bhash P #[99, 111, 110, 116, 101, 110, 116, 45, 116, 121, 112, 101], (.bytes #[99, 111, 110, 116, 101, 110, 116, 45, 116, 121, 112, 101] 433), (.ref 513)⟩, ⟨bhash P #[99, 111, 111, 107, 105, 101], (.bytes #[99, 111, 111, 107, 105, 101] 435), (.ref 522)⟩, ⟨bhash P #[100, 97, 116, 101], (.bytes #[100, 97, 116, 101] 437), (.ref 531)⟩, ⟨bhash P #[101, 116, 97, 103], (.bytes #[101, 116, 97, 103] 439), (.ref 540)⟩, ⟨bhash P #[101, 120, 112, 101, 99, 116], (.bytes #[101, 120, 112, 101, 99, 116] 441), (.ref 549)⟩, ⟨bhash P #[101, 120, 112, 105, 114, 101, 115], (.bytes #[101, 120, 112, 105, 114, 101, 115] 443), (.ref 558)⟩, ⟨bhash P #[102, 114, 111, 109], (.bytes #[102, 114, 111, 109] 445), (.ref 567)⟩, ⟨bhash P #[104, 111, 115, 116], (.bytes #[104, 111, 115, 116] 447), (.ref 576)⟩, ⟨bhash P #[105, 102, 45, 109, 97, 116, 99, 104], (.bytes #[105, 102, 45, 109, 97, 116, 99, 104] 449), (.ref 585)⟩, ⟨bhash P #[105, 102, 45, 109, 111, 100, 105, 102, 105, 101, 100, 45, 115, 105, 110, 99, 101], (.bytes #[105, 102, 45, 109, 111, 100, 105, 102, 105, 101, 100, 45, 115, 105, 110, 99, 101] 451), (.ref 594)⟩, ⟨bhash P #[105, 102, 45, 110, 111, 110, 101, 45, 109, 97, 116, 99, 104], (.bytes #[105, 102, 45, 110, 111, 110, 101, 45, 109, 97, 116, 99, 104] 453), (.ref 603)⟩, ⟨bhash P #[105, 102, 45, 114, 97, 110, 103, 101], (.bytes #[105, 102, 45, 114, 97, 110, 103, 101] 455), (.ref 612)⟩, ⟨bhash P #[105, 102, 45, 117, 110, 109, 111, 100, 105, 102, 105, 101, 100, 45, 115, 105, 110, 99, 101], (.bytes #[105, 102, 45, 117, 110, 109, 111, 100, 105, 102, 105, 101, 100, 45, 115, 105, 110, 99, 101] 457), (.ref 621)⟩, ⟨bhash P #[108, 97, 115, 116, 45, 109, 111, 100, 105, 102, 105, 101, 100], (.bytes #[108, 97, 115, 116, 45, 109, 111, 100, 105, 102, 105, 101, 100] 459), (.ref 630)⟩, ⟨bhash P #[108, 105, 110, 107], (.bytes #[108, 105, 110, 107] 461), (.ref 639)⟩, ⟨bhash P #[108, 111, 99, 97, 116, 105, 111, 110], (.bytes #[108, 111, 99, 97, 116, 105, 111, 110] 463), (.ref 648)⟩, ⟨bhash P #[109, 97, 120, 45, 102, 111, 114, 119, 97, 114, 100, 115], (.bytes #[109, 97, 120, 45, 102, 111, 114, 119, 97, 114, 100, 115] 465), (.ref 657)⟩, ⟨bhash P #[112, 114, 111, 120, 121, 45, 97, 117, 116, 104, 101, 110, 116, 105, 99, 97, 116, 101], (.bytes #[112, 114, 111, 120, 121, 45, 97, 117, 116, 104, 101, 110, 116, 105, 99, 97, 116, 101] 467), (.ref 666)⟩, ⟨bhash P #[112, 114, 111, 120, 121, 45, 97, 117, 116, 104, 111, 114, 105, 122, 97, 116, 105, 111, 110], (.bytes #[112, 114, 111, 120, 121, 45, 97, 117, 116, 104, 111, 114, 105, 122, 97, 116, 105, 111, 110] 469), (.ref 675)⟩, ⟨bhash P #[114, 97, 110, 103, 101], (.bytes #[114, 97, 110, 103, 101] 471), (.ref 684)⟩] 41), #[]⟩
noncomputable def x5_233 (P : Params) : Obj := ⟨(.type "tuple_iterator"), none, (.fields #[(.ref 157), (.int 50 0)]), #[]⟩
noncomputable def x5_234 (P : Params) : Obj := ⟨(.type "enumerate"), none, (.fields #[.none, (.bool false), (.ref 233), (.int 51 0), .none, (.ref 145)]), #[]⟩
noncomputable def x5_595 (P : Params) : Obj := ⟨(.type "tuple"), none, (.seq #[(.int 41 923), (.ref 136)] 0), #[]⟩
noncomputable def x5_596 (P : Params) : Obj := ⟨(.type "tuple_iterator"), none, (.fields #[.none, (.int 2 0)]), #[]⟩
noncomputable def x5_597 (P : Params) : Obj := ⟨(.type "tuple"), none, (.seq #[] 0), #[]⟩
noncomputable def x5_598 (P : Params) : Obj := ⟨(.type "StopIteration"), none, (.fields #[(.ref 597), .none, .none, .none, (.bool false), .none]), #[]⟩
noncomputable def x5_599 (P : Params) : Obj := ⟨(.type "tuple_iterator"), none, (.fields #[.none, (.int 2 0)]), #[]⟩
noncomputable def x5_600 (P : Params) : Obj := ⟨(.type "tuple"), none, (.seq #[] 0), #[]⟩
noncomputable def x5_601 (P : Params) : Obj := ⟨(.type "StopIteration"), none, (.fields #[(.ref 600), .none, .none, .none, (.bool false), .none]), #[]⟩
noncomputable def x5_602 (P : Params) : Obj := ⟨(.type "dict"), none, (.dict #[⟨bhash P #[], (.bytes #[] 454), (.int 41 923)⟩] 1), #[]⟩
noncomputable def x5_603 (P : Params) : Obj := ⟨(.type "tuple"), none, (.seq #[(.int 41 923), (.ref 602)] 0), #[]⟩
noncomputable def x5_604 (P : Params) : Obj := ⟨(.type "tuple"), none, (.seq #[(.int 42 931), (.ref 137)] 0), #[]⟩
noncomputable def x5_605 (P : Params) : Obj := ⟨(.type "tuple_iterator"), none, (.fields #[.none, (.int 2 0)]), #[]⟩
noncomputable def x5_606 (P : Params) : Obj := ⟨(.type "tuple"), none, (.seq #[] 0), #[]⟩
noncomputable def x5_607 (P : Params) : Obj := ⟨(.type "StopIteration"), none, (.fields #[(.ref 606), .none, .none, .none, (.bool false), .none]), #[]⟩
noncomputable def x5_608 (P : Params) : Obj := ⟨(.type "tuple_iterator"), none, (.fields #[.none, (.int 2 0)]), #[]⟩
noncomputable def x5_609 (P : Params) : Obj := ⟨(.type "tuple"), none, (.seq #[] 0), #[]⟩
noncomputable def x5_610 (P : Params) : Obj := ⟨(.type "StopIteration"), none, (.fields #[(.ref 609), .none, .none, .none, (.bool false), .none]), #[]⟩
noncomputable def x5_611 (P : Params) : Obj := ⟨(.type "dict"), none, (.dict #[⟨bhash P #[], (.bytes #[] 456), (.int 42 931)⟩] 1), #[]⟩
noncomputable def x5_612 (P : Params) : Obj := ⟨(.type "tuple"), none, (.seq #[(.int 42 931), (.ref 611)] 0), #[]⟩
noncomputable def x5_613 (P : Params) : Obj := ⟨(.type "tuple"), none, (.seq #[(.int 43 939), (.ref 138)] 0), #[]⟩
noncomputable def x5_614 (P : Params) : Obj := ⟨(.type "tuple_iterator"), none, (.fields #[.none, (.int 2 0)]), #[]⟩
noncomputable def x5_615 (P : Params) : Obj := ⟨(.type "tuple"), none, (.seq #[] 0), #[]⟩
noncomputable def x5_616 (P : Params) : Obj := ⟨(.type "StopIteration"), none, (.fields #[(.ref 615), .none, .none, .none, (.bool false), .none]), #[]⟩
noncomputable def x5_617 (P : Params) : Obj := ⟨(.type "tuple_iterator"), none, (.fields #[.none, (.int 2 0)]), #[]⟩
noncomputable def x5_618 (P : Params) : Obj := ⟨(.type "tuple"), none, (.seq #[] 0), #[]⟩
noncomputable def x5_619 (P : Params) : Obj := ⟨(.type "StopIteration"), none, (.fields #[(.ref 618), .none, .none, .none, (.bool false), .none]), #[]⟩
noncomputable def x5_620 (P : Params) : Obj := ⟨(.type "dict"), none, (.dict #[⟨bhash P #[], (.bytes #[] 458), (.int 43 939)⟩] 1), #[]⟩
noncomputable def x5_621 (P : Params) : Obj := ⟨(.type "tuple"), none, (.seq #[(.int 43 939), (.ref 620)] 0), #[]⟩
noncomputable def x5_622 (P : Params) : Obj := ⟨(.type "tuple"), none, (.seq #[(.int 44 947), (.ref 139)] 0), #[]⟩
noncomputable def x5_623 (P : Params) : Obj := ⟨(.type "tuple_iterator"), none, (.fields #[.none, (.int 2 0)]), #[]⟩
noncomputable def x5_624 (P : Params) : Obj := ⟨(.type "tuple"), none, (.seq #[] 0), #[]⟩
noncomputable def x5_625 (P : Params) : Obj := ⟨(.type "StopIteration"), none, (.fields #[(.ref 624), .none, .none, .none, (.bool false), .none]), #[]⟩
noncomputable def x5_626 (P : Params) : Obj := ⟨(.type "tuple_iterator"), none, (.fields #[.none, (.int 2 0)]), #[]⟩
noncomputable def x5_627 (P : Params) : Obj := ⟨(.type "tuple"), none, (.seq #[] 0), #[]⟩
noncomputable def x5_628 (P : Params) : Obj := ⟨(.type "StopIteration"), none, (.fields #[(.ref 627), .none, .none, .none, (.bool false), .none]), #[]⟩
noncomputable def x5_629 (P : Params) : Obj := ⟨(.type "dict"), none, (.dict #[⟨bhash P #[], (.bytes #[] 460), (.int 44 947)⟩] 1), #[]⟩
noncomputable def x5_630 (P : Params) : Obj := ⟨(.type "tuple"), none, (.seq #[(.int 44 947), (.ref 629)] 0), #[]⟩
noncomputable def x5_631 (P : Params) : Obj := ⟨(.type "tuple"), none, (.seq #[(.int 45 955), (.ref 140)] 0), #[]⟩
noncomputable def x5_632 (P : Params) : Obj := ⟨(.type "tuple_iterator"), none, (.fields #[.none, (.int 2 0)]), #[]⟩
noncomputable def x5_633 (P : Params) : Obj := ⟨(.type "tuple"), none, (.seq #[] 0), #[]⟩
noncomputable def x5_634 (P : Params) : Obj := ⟨(.type "StopIteration"), none, (.fields #[(.ref 633), .none, .none, .none, (.bool false), .none]), #[]⟩
noncomputable def x5_635 (P : Params) : Obj := ⟨(.type "tuple_iterator"), none, (.fields #[.none, (.int 2 0)]), #[]⟩
noncomputable def x5_636 (P : Params) : Obj := ⟨(.type "tuple"), none, (.seq #[] 0), #[]⟩
noncomputable def x5_637 (P : Params) : Obj := ⟨(.type "StopIteration"), none, (.fields #[(.ref 636), .none, .none, .none, (.bool false), .none]), #[]⟩
noncomputable def x5_638 (P : Params) : Obj := ⟨(.type "dict"), none, (.dict #[⟨bhash P #[], (.bytes #[] 462), (.int 45 955)⟩] 1), #[]⟩
noncomputable def x5_639 (P : Params) : Obj := ⟨(.type "tuple"), none, (.seq #[(.int 45 955), (.ref 638)] 0), #[]⟩
noncomputable def x5_640 (P : Params) : Obj := ⟨(.type "tuple"), none, (.seq #[(.int 46 963), (.ref 141)] 0), #[]⟩
noncomputable def x5_641 (P : Params) : Obj := ⟨(.type "tuple_iterator"), none, (.fields #[.none, (.int 2 0)]), #[]⟩
noncomputable def x5_642 (P : Params) : Obj := ⟨(.type "tuple"), none, (.seq #[] 0), #[]⟩
noncomputable def x5_643 (P : Params) : Obj := ⟨(.type "StopIteration"), none, (.fields #[(.ref 642), .none, .none, .none, (.bool false), .none]), #[]⟩
noncomputable def x5_644 (P : Params) : Obj := ⟨(.type "tuple_iterator"), none, (.fields #[.none, (.int 2 0)]), #[]⟩
noncomputable def x5_645 (P : Params) : Obj := ⟨(.type "tuple"), none, (.seq #[] 0), #[]⟩
noncomputable def x5_646 (P : Params) : Obj := ⟨(.type "StopIteration"), none, (.fields #[(.ref 645), .none, .none, .none, (.bool false), .none]), #[]⟩
noncomputable def x5_647 (P : Params) : Obj := ⟨(.type "dict"), none, (.dict #[⟨bhash P #[], (.bytes #[] 464), (.int 46 963)⟩] 1), #[]⟩
noncomputable def x5_648 (P : Params) : Obj := ⟨(.type "tuple"), none, (.seq #[(.int 46 963), (.ref 647)] 0), #[]⟩
noncomputable def x5_649 (P : Params) : Obj := ⟨(.type "tuple"), none, (.seq #[(.int 47 971), (.ref 142)] 0), #[]⟩
noncomputable def x5_650 (P : Params) : Obj := ⟨(.type "tuple_iterator"), none, (.fields #[.none, (.int 2 0)]), #[]⟩
noncomputable def x5_651 (P : Params) : Obj := ⟨(.type "tuple"), none, (.seq #[] 0), #[]⟩
noncomputable def x5_652 (P : Params) : Obj := ⟨(.type "StopIteration"), none, (.fields #[(.ref 651), .none, .none, .none, (.bool false), .none]), #[]⟩
noncomputable def x5_653 (P : Params) : Obj := ⟨(.type "tuple_iterator"), none, (.fields #[.none, (.int 2 0)]), #[]⟩
noncomputable def x5_654 (P : Params) : Obj := ⟨(.type "tuple"), none, (.seq #[] 0), #[]⟩
noncomputable def x5_655 (P : Params) : Obj := ⟨(.type "StopIteration"), none, (.fields #[(.ref 654), .none, .none, .none, (.bool false), .none]), #[]⟩
noncomputable def x5_656 (P : Params) : Obj := ⟨(.type "dict"), none, (.dict #[⟨bhash P #[], (.bytes #[] 466), (.int 47 971)⟩] 1), #[]⟩
noncomputable def x5_657 (P : Params) : Obj := ⟨(.type "tuple"), none, (.seq #[(.int 47 971), (.ref 656)] 0), #[]⟩
noncomputable def x5_658 (P : Params) : Obj := ⟨(.type "tuple"), none, (.seq #[(.int 48 979), (.ref 143)] 0), #[]⟩
noncomputable def x5_659 (P : Params) : Obj := ⟨(.type "tuple_iterator"), none, (.fields #[.none, (.int 2 0)]), #[]⟩
noncomputable def x5_660 (P : Params) : Obj := ⟨(.type "tuple"), none, (.seq #[] 0), #[]⟩
noncomputable def x5_661 (P : Params) : Obj := ⟨(.type "StopIteration"), none, (.fields #[(.ref 660), .none, .none, .none, (.bool false), .none]), #[]⟩
noncomputable def x5_662 (P : Params) : Obj := ⟨(.type "tuple_iterator"), none, (.fields #[.none, (.int 2 0)]), #[]⟩
noncomputable def x5_663 (P : Params) : Obj := ⟨(.type "tuple"), none, (.seq #[] 0), #[]⟩
noncomputable def x5_664 (P : Params) : Obj := ⟨(.type "StopIteration"), none, (.fields #[(.ref 663), .none, .none, .none, (.bool false), .none]), #[]⟩
noncomputable def x5_665 (P : Params) : Obj := ⟨(.type "dict"), none, (.dict #[⟨bhash P #[], (.bytes #[] 468), (.int 48 979)⟩] 1), #[]⟩
noncomputable def x5_666 (P : Params) : Obj := ⟨(.type "tuple"), none, (.seq #[(.int 48 979), (.ref 665)] 0), #[]⟩
noncomputable def x5_667 (P : Params) : Obj := ⟨(.type "tuple"), none, (.seq #[(.int 49 987), (.ref 144)] 0), #[]⟩
noncomputable def x5_668 (P : Params) : Obj := ⟨(.type "tuple_iterator"), none, (.fields #[.none, (.int 2 0)]), #[]⟩
noncomputable def x5_669 (P : Params) : Obj := ⟨(.type "tuple"), none, (.seq #[] 0), #[]⟩
noncomputable def x5_670 (P : Params) : Obj := ⟨(.type "StopIteration"), none, (.fields #[(.ref 669), .none, .none, .none, (.bool false), .none]), #[]⟩
noncomputable def x5_671 (P : Params) : Obj := ⟨(.type "tuple_iterator"), none, (.fields #[.none, (.int 2 0)]), #[]⟩
noncomputable def x5_672 (P : Params) : Obj := ⟨(.type "tuple"), none, (.seq #[] 0), #[]⟩
noncomputable def x5_673 (P : Params) : Obj := ⟨(.type "StopIteration"), none, (.fields #[(.ref 672), .none, .none, .none, (.bool false), .none]), #[]⟩
noncomputable def x5_674 (P : Params) : Obj := ⟨(.type "dict"), none, (.dict #[⟨bhash P #[], (.bytes #[] 470), (.int 49 987)⟩] 1), #[]⟩
noncomputable def x5_675 (P : Params) : Obj := ⟨(.type "tuple"), none, (.seq #[(.int 49 987), (.ref 674)] 0), #[]⟩
noncomputable def x5_676 (P : Params) : Obj := ⟨(.type "tuple"), none, (.seq #[(.int 50 995), (.ref 145)] 0), #[]⟩
noncomputable def x5_677 (P : Params) : Obj := ⟨(.type "tuple_iterator"), none, (.fields #[.none, (.int 2 0)]), #[]⟩
noncomputable def x5_678 (P : Params) : Obj := ⟨(.type "tuple"), none, (.seq #[] 0), #[]⟩
noncomputable def x5_679 (P : Params) : Obj := ⟨(.type "StopIteration"), none, (.fields #[(.ref 678), .none, .none, .none, (.bool false), .none]), #[]⟩
noncomputable def x5_680 (P : Params) : Obj := ⟨(.type "tuple_iterator"), none, (.fields #[.none, (.int 2 0)]), #[]⟩
noncomputable def x5_681 (P : Params) : Obj := ⟨(.type "tuple"), none, (.seq #[] 0), #[]⟩
noncomputable def x5_682 (P : Params) : Obj := ⟨(.type "StopIteration"), none, (.fields #[(.ref 681), .none, .none, .none, (.bool false), .none]), #[]⟩
noncomputable def x5_683 (P : Params) : Obj := ⟨(.type "dict"), none, (.dict #[⟨bhash P #[], (.bytes #[] 472), (.int 50 995)⟩] 1), #[]⟩
noncomputable def x5_684 (P : Params) : Obj := ⟨(.type "tuple"), none, (.seq #[(.int 50 995), (.ref 683)] 0), #[]⟩
noncomputable def tree5 (P : Params) : BT := (.node (xB_0 P) (.node (xB_1 P) (.node (xK_3 P) (.node (xB_7 P) (.node (xB_15 P) (.node (xB_31 P) (.node (xK_63 P) (.node (xK_127 P) (.node (x1_255 P) (.node (x4_511 P) .nil .nil) .nil) (.node (x2_383 P) (.node (x5_639 P) .nil .nil) .nil)) (.node (xK_191 P) (.node (x1_319 P) (.node (x4_575 P) .nil .nil) .nil) (.node (x3_447 P) .nil .nil))) (.node (xK_95 P) (.node (xK_159 P) (.node (x1_287 P) (.node (x4_543 P) .nil .nil) .nil) (.node (x3_415 P) (.node (x5_671 P) .nil .nil) .nil)) (.node (xK_223 P) (.node (x2_351 P) (.node (x5_607 P) .nil .nil) .nil) (.node (x3_479 P) .nil .nil)))) (.node (xK_47 P) (.node (xK_79 P) (.node (xK_143 P) (.node (x1_271 P) (.node (x4_527 P) .nil .nil) .nil) (.node (x2_399 P) (.node (x5_655 P) .nil .nil) .nil)) (.node (xK_207 P) (.node (x2_335 P) (.node (x4_591 P) .nil .nil) .nil) (.node (x3_463 P) .nil .nil))) (.node (xK_111 P) (.node (xK_175 P) (.node (x1_303 P) (.node (x4_559 P) .nil .nil) .nil) (.node (x3_431 P) .nil .nil)) (.node (x1_239 P) (.node (x2_367 P) (.node (x5_623 P) .nil .nil) .nil) (.node (x3_495 P) .nil .nil))))) (.node (xB_23 P) (.node (xK_39 P) (.node (xK_71 P) (.node (xK_135 P) (.node (x1_263 P) (.node (x4_519 P) .nil .nil) .nil) (.node (x2_391 P) (.node (x5_647 P) .nil .nil) .nil)) (.node (xK_199 P) (.node (x2_327 P) (.node (x4_583 P) .nil .nil) .nil) (.node (x3_455 P) .nil .nil))) (.node (xK_103 P) (.node (xK_167 P) (.node (x1_295 P) (.node (x4_551 P) .nil .nil) .nil) (.node (x3_423 P) (.node (x5_679 P) .nil .nil) .nil)) (.node (x5_231 P) (.node (x2_359 P) (.node (x5_615 P) .nil .nil) .nil) (.node (x3_487 P) .nil .nil)))) (.node (xK_55 P) (.node (xK_87 P) (.node (xK_151 P) (.node (x1_279 P) (.node (x4_535 P) .nil .nil) .nil) (.node (x2_407 P) (.node (x5_663 P) .nil .nil) .nil)) (.node (xK_215 P) (.node (x2_343 P) (.node (x5_599 P) .nil .nil) .nil) (.node (x3_471 P) .nil .nil))) (.node (xK_119 P) (.node (xK_183 P) (.node (x1_311 P) (.node (x4_567 P) .nil .nil) .nil) (.node (x3_439 P) .nil .nil)) (.node (x1_247 P) (.node (x2_375 P) (.node (x5_631 P) .nil .nil) .nil) (.node (x3_503 P) .nil .nil)))))) (.node (xB_11 P) (.node (xB_19 P) (.node (xK_35 P) (.node (xK_67 P) (.node (xK_131 P) (.node (x1_259 P) (.node (x4_515 P) .nil .nil) .nil) (.node (x2_387 P) (.node (x5_643 P) .nil .nil) .nil)) (.node (xK_195 P) (.node (x1_323 P) (.node (x4_579 P) .nil .nil) .nil) (.node (x3_451 P) .nil .nil))) (.node (xK_99 P) (.node (xK_163 P) (.node (x1_291 P) (.node (x4_547 P) .nil .nil) .nil) (.node (x3_419 P) (.node (x5_675 P) .nil .nil) .nil)) (.node (xK_227 P) (.node (x2_355 P) (.node (x5_611 P) .nil .nil) .nil) (.node (x3_483 P) .nil .nil)))) (.node (xK_51 P) (.node (xK_83 P) (.node (xK_147 P) (.node (x1_275 P) (.node (x4_531 P) .nil .nil) .nil) (.node (x2_403 P) (.node (x5_659 P) .nil .nil) .nil)) (.node (xK_211 P) (.node (x2_339 P) (.node (x5_595 P) .nil .nil) .nil) (.node (x3_467 P) .nil .nil))) (.node (xK_115 P) (.node (xK_179 P) (.node (x1_307 P) (.node (x4_563 P) .nil .nil) .nil) (.node (x3_435 P) .nil .nil)) (.node (x1_243 P) (.node (x2_371 P) (.node (x5_627 P) .nil .nil) .nil) (.node (x3_499 P) .nil .nil))))) (.node (xB_27 P) (.node (xK_43 P) (.node (xK_75 P) (.node (xK_139 P) (.node (x1_267 P) (.node (x4_523 P) .nil .nil) .nil) (.node (x2_395 P) (.node (x5_651 P) .nil .nil) .nil)) (.node (xK_203 P) (.node (x2_331 P) (.node (x4_587 P) .nil .nil) .nil) (.node (x3_459 P) .nil .nil))) (.node (xK_107 P) (.node (xK_171 P) (.node (x1_299 P) (.node (x4_555 P) .nil .nil) .nil) (.node (x3_427 P) (.node (x5_683 P) .nil .nil) .nil)) (.node (x1_235 P) (.node (x2_363 P) (.node (x5_619 P) .nil .nil) .nil) (.node (x3_491 P) .nil .nil)))) (.node (xK_59 P) (.node (xK_91 P) (.node (xK_155 P) (.node (x1_283 P) (.node (x4_539 P) .nil .nil) .nil) (.node (x2_411 P) (.node (x5_667 P) .nil .nil) .nil)) (.node (xK_219 P) (.node (x2_347 P) (.node (x5_603 P) .nil .nil) .nil) (.node (x3_475 P) .nil .nil))) (.node (xK_123 P) (.node (xK_187 P) (.node (x1_315 P) (.node (x4_571 P) .nil .nil) .nil) (.node (x3_443 P) .nil .nil)) (.node (x1_251 P) (.node (x2_379 P) (.node (x5_635 P) .nil .nil) .nil) (.node (x4_507 P) .nil .nil))))))) (.node (xB_5 P) (.node (xB_9 P) (.node (xB_17 P) (.node (xK_33 P) (.node (xK_65 P) (.node (xK_129 P) (.node (x1_257 P) (.node (x4_513 P) .nil .nil) .nil) (.node (x2_385 P) (.node (x5_641 P) .nil .nil) .nil)) (.node (xK_193 P) (.node (x1_321 P) (.node (x4_577 P) .nil .nil) .nil) (.node (x3_449 P) .nil .nil))) (.node (xK_97 P) (.node (xK_161 P) (.node (x1_289 P) (.node (x4_545 P) .nil .nil) .nil) (.node (x3_417 P) (.node (x5_673 P) .nil .nil) .nil)) (.node (xK_225 P) (.node (x2_353 P) (.node (x5_609 P) .nil .nil) .nil) (.node (x3_481 P) .nil .nil)))) (.node (xK_49 P) (.node (xK_81 P) (.node (xK_145 P) (.node (x1_273 P) (.node (x4_529 P) .nil .nil) .nil) (.node (x2_401 P) (.node (x5_657 P) .nil .nil) .nil)) (.node (xK_209 P) (.node (x2_337 P) (.node (x4_593 P) .nil .nil) .nil) (.node (x3_465 P) .nil .nil))) (.node (xK_113 P) (.node (xK_177 P) (.node (x2_305 P) (.node (x4_561 P) .nil .nil) .nil) (.node (x3_433 P) .nil .nil)) (.node (x1_241 P) (.node (x2_369 P) (.node (x5_625 P) .nil .nil) .nil) (.node (x3_497 P) .nil .nil))))) (.node (xB_25 P) (.node (xK_41 P) (.node (xK_73 P) (.node (xK_137 P) (.node (x1_265 P) (.node (x4_521 P) .nil .nil) .nil) (.node (x2_393 P) (.node (x5_649 P) .nil .nil) .nil)) (.node (xK_201 P) (.node (x2_329 P) (.node (x4_585 P) .nil .nil) .nil) (.node (x3_457 P) .nil .nil))) (.node (xK_105 P) (.node (xK_169 P) (.node (x1_297 P) (.node (x4_553 P) .nil .nil) .nil) (.node (x3_425 P) (.node (x5_681 P) .nil .nil) .nil)) (.node (x5_233 P) (.node (x2_361 P) (.node (x5_617 P) .nil .nil) .nil) (.node (x3_489 P) .nil .nil)))) (.node (xK_57 P) (.node (xK_89 P) (.node (xK_153 P) (.node (x1_281 P) (.node (x4_537 P) .nil .nil) .nil) (.node (x2_409 P) (.node (x5_665 P) .nil .nil) .nil)) (.node (xK_217 P) (.node (x2_345 P) (.node (x5_601 P) .nil .nil) .nil) (.node (x3_473 P) .nil .nil))) (.node (xK_121 P) (.node (xK_185 P) (.node (x1_313 P) (.node (x4_569 P) .nil .nil) .nil) (.node (x3_441 P) .nil .nil)) (.node (x1_249 P) (.node (x2_377 P) (.node (x5_633 P) .nil .nil) .nil) (.node (x4_505 P) .nil .nil)))))) (.node (xB_13 P) (.node (xB_21 P) (.node (xK_37 P) (.node (xK_69 P) (.node (xK_133 P) (.node (x1_261 P) (.node (x4_517 P) .nil .nil) .nil) (.node (x2_389 P) (.node (x5_645 P) .nil .nil) .nil)) (.node (xK_197 P) (.node (x2_325 P) (.node (x4_581 P) .nil .nil) .nil) (.node (x3_453 P) .nil .nil))) (.node (xK_101 P) (.node (xK_165 P) (.node (x1_293 P) (.node (x4_549 P) .nil .nil) .nil) (.node (x3_421 P) (.node (x5_677 P) .nil .nil) .nil)) (.node (xK_229 P) (.node (x2_357 P) (.node (x5_613 P) .nil .nil) .nil) (.node (x3_485 P) .nil .nil)))) (.node (xK_53 P) (.node (xK_85 P) (.node (xK_149 P) (.node (x1_277 P) (.node (x4_533 P) .nil .nil) .nil) (.node (x2_405 P) (.node (x5_661 P) .nil .nil) .nil)) (.node (xK_213 P) (.node (x2_341 P) (.node (x5_597 P) .nil .nil) .nil) (.node (x3_469 P) .nil .nil))) (.node (xK_117 P) (.node (xK_181 P) (.node (x1_309 P) (.node (x4_565 P) .nil .nil) .nil) (.node (x3_437 P) .nil .nil)) (.node (x1_245 P) (.node (x2_373 P) (.node (x5_629 P) .nil .nil) .nil) (.node (x3_501 P) .nil .nil))))) (.node (xB_29 P) (.node (xK_45 P) (.node (xK_77 P) (.node (xK_141 P) (.node (x1_269 P) (.node (x4_525 P) .nil .nil) .nil) (.node (x2_397 P) (.node (x5_653 P) .nil .nil) .nil)) (.node (xK_205 P) (.node (x2_333 P) (.node (x4_589 P) .nil .nil) .nil) (.node (x3_461 P) .nil .nil))) (.node (xK_109 P) (.node (xK_173 P) (.node (x1_301 P) (.node (x4_557 P) .nil .nil) .nil) (.node (x3_429 P) .nil .nil)) (.node (x1_237 P) (.node (x2_365 P) (.node (x5_621 P) .nil .nil) .nil) (.node (x3_493 P) .nil .nil)))) (.node (xK_61 P) (.node (xK_93 P) (.node (xK_157 P) (.node (x1_285 P) (.node (x4_541 P) .nil .nil) .nil) (.node (x2_413 P) (.node (x5_669 P) .nil .nil) .nil)) (.node (xK_221 P) (.node (x2_349 P) (.node (x5_605 P) .nil .nil) .nil) (.node (x3_477 P) .nil .nil))) (.node (xK_125 P) (.node (xK_189 P) (.node (x1_317 P) (.node (x4_573 P) .nil .nil) .nil) (.node (x3_445 P) .nil .nil)) (.node (x1_253 P) (.node (x2_381 P) (.node (x5_637 P) .nil .nil) .nil) (.node (x4_509 P) .nil .nil)))))))) (.node (xK_2 P) (.node (xB_4 P) (.node (xB_8 P) (.node (xB_16 P) (.node (xB_32 P) (.node (xK_64 P) (.node (xK_128 P) (.node (x1_256 P) (.node (x4_512 P) .nil .nil) .nil) (.node (x2_384 P) (.node (x5_640 P) .nil .nil) .nil)) (.node (xK_192 P) (.node (x1_320 P) (.node (x4_576 P) .nil .nil) .nil) (.node (x3_448 P) .nil .nil))) (.node (xK_96 P) (.node (xK_160 P) (.node (x1_288 P) (.node (x4_544 P) .nil .nil) .nil) (.node (x3_416 P) (.node (x5_672 P) .nil .nil) .nil)) (.node (xK_224 P) (.node (x2_352 P) (.node (x5_608 P) .nil .nil) .nil) (.node (x3_480 P) .nil .nil)))) (.node (xK_48 P) (.node (xK_80 P) (.node (xK_144 P) (.node (x1_272 P) (.node (x4_528 P) .nil .nil) .nil) (.node (x2_400 P) (.node (x5_656 P) .nil .nil) .nil)) (.node (xK_208 P) (.node (x2_336 P) (.node (x4_592 P) .nil .nil) .nil) (.node (x3_464 P) .nil .nil))) (.node (xK_112 P) (.node (xK_176 P) (.node (x1_304 P) (.node (x4_560 P) .nil .nil) .nil) (.node (x3_432 P) .nil .nil)) (.node (x1_240 P) (.node (x2_368 P) (.node (x5_624 P) .nil .nil) .nil) (.node (x3_496 P) .nil .nil))))) (.node (xB_24 P) (.node (xK_40 P) (.node (xK_72 P) (.node (xK_136 P) (.node (x1_264 P) (.node (x4_520 P) .nil .nil) .nil) (.node (x2_392 P) (.node (x5_648 P) .nil .nil) .nil)) (.node (xK_200 P) (.node (x2_328 P) (.node (x4_584 P) .nil .nil) .nil) (.node (x3_456 P) .nil .nil))) (.node (xK_104 P) (.node (xK_168 P) (.node (x1_296 P) (.node (x4_552 P) .nil .nil) .nil) (.node (x3_424 P) (.node (x5_680 P) .nil .nil) .nil)) (.node (x5_232 P) (.node (x2_360 P) (.node (x5_616 P) .nil .nil) .nil) (.node (x3_488 P) .nil .nil)))) (.node (xK_56 P) (.node (xK_88 P) (.node (xK_152 P) (.node (x1_280 P) (.node (x4_536 P) .nil .nil) .nil) (.node (x2_408 P) (.node (x5_664 P) .nil .nil) .nil)) (.node (xK_216 P) (.node (x2_344 P) (.node (x5_600 P) .nil .nil) .nil) (.node (x3_472 P) .nil .nil))) (.node (xK_120 P) (.node (xK_184 P) (.node (x1_312 P) (.node (x4_568 P) .nil .nil) .nil) (.node (x3_440 P) .nil .nil)) (.node (x1_248 P) (.node (x2_376 P) (.node (x5_632 P) .nil .nil) .nil) (.node (x3_504 P) .nil .nil)))))) (.node (xB_12 P) (.node (xB_20 P) (.node (xK_36 P) (.node (xK_68 P) (.node (xK_132 P) (.node (x1_260 P) (.node (x4_516 P) .nil .nil) .nil) (.node (x2_388 P) (.node (x5_644 P) .nil .nil) .nil)) (.node (xK_196 P) (.node (x1_324 P) (.node (x4_580 P) .nil .nil) .nil) (.node (x3_452 P) .nil .nil))) (.node (xK_100 P) (.node (xK_164 P) (.node (x1_292 P) (.node (x4_548 P) .nil .nil) .nil) (.node (x3_420 P) (.node (x5_676 P) .nil .nil) .nil)) (.node (xK_228 P) (.node (x2_356 P) (.node (x5_612 P) .nil .nil) .nil) (.node (x3_484 P) .nil .nil)))) (.node (xK_52 P) (.node (xK_84 P) (.node (xK_148 P) (.node (x1_276 P) (.node (x4_532 P) .nil .nil) .nil) (.node (x2_404 P) (.node (x5_660 P) .nil .nil) .nil)) (.node (xK_212 P) (.node (x2_340 P) (.node (x5_596 P) .nil .nil) .nil) (.node (x3_468 P) .nil .nil))) (.node (xK_116 P) (.node (xK_180 P) (.node (x1_308 P) (.node (x4_564 P) .nil .nil) .nil) (.node (x3_436 P) .nil .nil)) (.node (x1_244 P) (.node (x2_372 P) (.node (x5_628 P) .nil .nil) .nil) (.node (x3_500 P) .nil .nil))))) (.node (xB_28 P) (.node (xK_44 P) (.node (xK_76 P) (.node (xK_140 P) (.node (x1_268 P) (.node (x4_524 P) .nil .nil) .nil) (.node (x2_396 P) (.node (x5_652 P) .nil .nil) .nil)) (.node (xK_204 P) (.node (x2_332 P) (.node (x4_588 P) .nil .nil) .nil) (.node (x3_460 P) .nil .nil))) (.node (xK_108 P) (.node (xK_172 P) (.node (x1_300 P) (.node (x4_556 P) .nil .nil) .nil) (.node (x3_428 P) (.node (x5_684 P) .nil .nil) .nil)) (.node (x1_236 P) (.node (x2_364 P) (.node (x5_620 P) .nil .nil) .nil) (.node (x3_492 P) .nil .nil)))) (.node (xK_60 P) (.node (xK_92 P) (.node (xK_156 P) (.node (x1_284 P) (.node (x4_540 P) .nil .nil) .nil) (.node (x2_412 P) (.node (x5_668 P) .nil .nil) .nil)) (.node (xK_220 P) (.node (x2_348 P) (.node (x5_604 P) .nil .nil) .nil) (.node (x3_476 P) .nil .nil))) (.node (xK_124 P) (.node (xK_188 P) (.node (x1_316 P) (.node (x4_572 P) .nil .nil) .nil) (.node (x3_444 P) .nil .nil)) (.node (x1_252 P) (.node (x2_380 P) (.node (x5_636 P) .nil .nil) .nil) (.node (x4_508 P) .nil .nil))))))) (.node (xB_6 P) (.node (xB_10 P) (.node (xB_18 P) (.node (xK_34 P) (.node (xK_66 P) (.node (xK_130 P) (.node (x1_258 P) (.node (x4_514 P) .nil .nil) .nil) (.node (x2_386 P) (.node (x5_642 P) .nil .nil) .nil)) (.node (xK_194 P) (.node (x1_322 P) (.node (x4_578 P) .nil .nil) .nil) (.node (x3_450 P) .nil .nil))) (.node (xK_98 P) (.node (xK_162 P) (.node (x1_290 P) (.node (x4_546 P) .nil .nil) .nil) (.node (x3_418 P) (.node (x5_674 P) .nil .nil) .nil)) (.node (xK_226 P) (.node (x2_354 P) (.node (x5_610 P) .nil .nil) .nil) (.node (x3_482 P) .nil .nil)))) (.node (xK_50 P) (.node (xK_82 P) (.node (xK_146 P) (.node (x1_274 P) (.node (x4_530 P) .nil .nil) .nil) (.node (x2_402 P) (.node (x5_658 P) .nil .nil) .nil)) (.node (xK_210 P) (.node (x2_338 P) (.node (x4_594 P) .nil .nil) .nil) (.node (x3_466 P) .nil .nil))) (.node (xK_114 P) (.node (xK_178 P) (.node (x1_306 P) (.node (x4_562 P) .nil .nil) .nil) (.node (x3_434 P) .nil .nil)) (.node (x1_242 P) (.node (x2_370 P) (.node (x5_626 P) .nil .nil) .nil) (.node (x3_498 P) .nil .nil))))) (.node (xB_26 P) (.node (xK_42 P) (.node (xK_74 P) (.node (xK_138 P) (.node (x1_266 P) (.node (x4_522 P) .nil .nil) .nil) (.node (x2_394 P) (.node (x5_650 P) .nil .nil) .nil)) (.node (xK_202 P) (.node (x2_330 P) (.node (x4_586 P) .nil .nil) .nil) (.node (x3_458 P) .nil .nil))) (.node (xK_106 P) (.node (xK_170 P) (.node (x1_298 P) (.node (x4_554 P) .nil .nil) .nil) (.node (x3_426 P) (.node (x5_682 P) .nil .nil) .nil)) (.node (x5_234 P) (.node (x2_362 P) (.node (x5_618 P) .nil .nil) .nil) (.node (x3_490 P) .nil .nil)))) (.node (xK_58 P) (.node (xK_90 P) (.node (xK_154 P) (.node (x1_282 P) (.node (x4_538 P) .nil .nil) .nil) (.node (x2_410 P) (.node (x5_666 P) .nil .nil) .nil)) (.node (xK_218 P) (.node (x2_346 P) (.node (x5_602 P) .nil .nil) .nil) (.node (x3_474 P) .nil .nil))) (.node (xK_122 P) (.node (xK_186 P) (.node (x1_314 P) (.node (x4_570 P) .nil .nil) .nil) (.node (x3_442 P) .nil .nil)) (.node (x1_250 P) (.node (x2_378 P) (.node (x5_634 P) .nil .nil) .nil) (.node (x4_506 P) .nil .nil)))))) (.node (xB_14 P) (.node (xB_22 P) (.node (xK_38 P) (.node (xK_70 P) (.node (xK_134 P) (.node (x1_262 P) (.node (x4_518 P) .nil .nil) .nil) (.node (x2_390 P) (.node (x5_646 P) .nil .nil) .nil)) (.node (xK_198 P) (.node (x2_326 P) (.node (x4_582 P) .nil .nil) .nil) (.node (x3_454 P) .nil .nil))) (.node (xK_102 P) (.node (xK_166 P) (.node (x1_294 P) (.node (x4_550 P) .nil .nil) .nil) (.node (x3_422 P) (.node (x5_678 P) .nil .nil) .nil)) (.node (xK_230 P) (.node (x2_358 P) (.node (x5_614 P) .nil .nil) .nil) (.node (x3_486 P) .nil .nil)))) (.node (xK_54 P) (.node (xK_86 P) (.node (xK_150 P) (.node (x1_278 P) (.node (x4_534 P) .nil .nil) .nil) (.node (x2_406 P) (.node (x5_662 P) .nil .nil) .nil)) (.node (xK_214 P) (.node (x2_342 P) (.node (x5_598 P) .nil .nil) .nil) (.node (x3_470 P) .nil .nil))) (.node (xK_118 P) (.node (xK_182 P) (.node (x1_310 P) (.node (x4_566 P) .nil .nil) .nil) (.node (x3_438 P) .nil .nil)) (.node (x1_246 P) (.node (x2_374 P) (.node (x5_630 P) .nil .nil) .nil) (.node (x3_502 P) .nil .nil))))) (.node (xK_30 P) (.node (xK_46 P) (.node (xK_78 P) (.node (xK_142 P) (.node (x1_270 P) (.node (x4_526 P) .nil .nil) .nil) (.node (x2_398 P) (.node (x5_654 P) .nil .nil) .nil)) (.node (xK_206 P) (.node (x2_334 P) (.node (x4_590 P) .nil .nil) .nil) (.node (x3_462 P) .nil .nil))) (.node (xK_110 P) (.node (xK_174 P) (.node (x1_302 P) (.node (x4_558 P) .nil .nil) .nil) (.node (x3_430 P) .nil .nil)) (.node (x1_238 P) (.node (x2_366 P) (.node (x5_622 P) .nil .nil) .nil) (.node (x3_494 P) .nil .nil)))) (.node (xK_62 P) (.node (xK_94 P) (.node (xK_158 P) (.node (x1_286 P) (.node (x4_542 P) .nil .nil) .nil) (.node (x2_414 P) (.node (x5_670 P) .nil .nil) .nil)) (.node (xK_222 P) (.node (x2_350 P) (.node (x5_606 P) .nil .nil) .nil) (.node (x3_478 P) .nil .nil))) (.node (xK_126 P) (.node (xK_190 P) (.node (x1_318 P) (.node (x4_574 P) .nil .nil) .nil) (.node (x3_446 P) .nil .nil)) (.node (x1_254 P) (.node (x2_382 P) (.node (x5_638 P) .nil .nil) .nil) (.node (x4_510 P) .nil .nil)))))))))
noncomputable def x6_231 (P : Params) : Obj := ⟨(.type "frame"), none, (.dict #[⟨PyData.keyHash P ⟨#[115, 116, 97, 116, 105, 99, 95, 116, 97, 98, 108, 101, 95, 109, 97, 112, 112, 105, 110, 103]⟩, (.str ⟨#[115, 116, 97, 116, 105, 99, 95, 116, 97, 98, 108, 101, 95, 109, 97, 112, 112, 105, 110, 103]⟩ 600), (.ref 232)⟩, ⟨PyData.keyHash P ⟨#[105, 110, 100, 101, 120]⟩, (.str ⟨#[105, 110, 100, 101, 120]⟩ 604), (.int 60 1075)⟩, ⟨PyData.keyHash P ⟨#[110, 97, 109, 101]⟩, (.str ⟨#[110, 97, 109, 101]⟩ 605), (.bytes #[118, 105, 97] 491)⟩, ⟨PyData.keyHash P ⟨#[118, 97, 108, 117, 101]⟩, (.str ⟨#[118, 97, 108, 117, 101]⟩ 606), (.bytes #[] 492)⟩, ⟨PyData.keyHash P ⟨#[104, 101, 97, 100, 101, 114, 95, 110, 97, 109, 101, 95, 115, 101, 97, 114, 99, 104, 95, 114, 101, 115, 117, 108, 116]⟩, (.str ⟨#[104, 101, 97, 100, 101, 114, 95, 110, 97, 109, 101, 95, 115, 101, 97, 114, 99, 104, 95, 114, 101, 115, 117, 108, 116]⟩ 608), (.ref 774)⟩] 5), #[]⟩
noncomputable def x6_232 (P : Params) : Obj := ⟨(.type "dict"), none, (.dict #[⟨bhash P #[58, 97, 117, 116, 104, 111, 114, 105, 116, 121], (.bytes #[58, 97, 117, 116, 104, 111, 114, 105, 116, 121] 373), (.ref 243)⟩, ⟨bhash P #[58, 109, 101, 116, 104, 111, 100], (.bytes #[58, 109, 101, 116, 104, 111, 100] 375), (.ref 252)⟩, ⟨bhash P #[58, 112, 97, 116, 104], (.bytes #[58, 112, 97, 116, 104] 379), (.ref 270)⟩, ⟨bhash P #[58, 115, 99, 104, 101, 109, 101], (.bytes #[58, 115, 99, 104, 101, 109, 101] 383), (.ref 288)⟩, ⟨bhash P #[58, 115, 116, 97, 116, 117, 115], (.bytes #[58, 115, 116, 97, 116, 117, 115] 387), (.ref 306)⟩, ⟨bhash P #[97, 99, 99, 101, 112, 116, 45, 99, 104, 97, 114, 115, 101, 116], (.bytes #[97, 99, 99, 101, 112, 116, 45, 99, 104, 97, 114, 115, 101, 116] 401), (.ref 369)⟩, ⟨bhash P #[97, 99, 99, 101, 112, 116, 45, 101, 110, 99, 111, 100, 105, 110, 103], (.bytes #[97, 99, 99, 101, 112, 116, 45, 101, 110, 99, 111, 100, 105, 110, 103] 403), (.ref 378)⟩, ⟨bhash P #[97, 99, 99, 101, 112, 116, 45, 108, 97, 110, 103, 117, 97, 103, 101], (.bytes #[97, 99, 99, 101, 112, 116, 45, 108, 97, 110, 103, 117, 97, 103, 101] 405), (.ref 387)⟩, ⟨bhash P #[97, 99, 99, 101, 112, 116, 45, 114, 97, 110, 103, 101, 115], (.bytes #[97, 99, 99, 101, 112, 116, 45, 114, 97, 110, 103, 101, 115] 407), (.ref 396)⟩, ⟨bhash P #[97, 99, 99, 101, 112, 116], (.bytes #[97, 99, 99, 101, 112, 116] 409), (.ref 405)⟩, ⟨bhash P #[97, 99, 99, 101, 115, 115, 45, 99, 111, 110, 116, 114, 111, 108, 45, 97, 108, 108, 111, 119, 45, 111, 114, 105, 103, 105, 110], (.bytes #[97, 99, 99, 101, 115, 115, 45, 99, 111, 110, 116, 114, 111, 108, 45, 97, 108, 108, 111, 119, 45, 111, 114, 105, 103, 105, 110] 411), (.ref 414)⟩, ⟨bhash P #[97, 103, 101], (.bytes #[97, 103, 101] 413), (.ref 423)⟩, ⟨bhash P #[97, 108, 108, 111, 119], (.bytes #[97, 108, 108, 111, 119] 415), (.ref 432)⟩, ⟨bhash P #[97, 117, 116, 104, 111, 114, 105, 122, 97, 116, 105, 111, 110], (.bytes #[97, 117, 116, 104, 111, 114, 105, 122, 97, 116, 105, 111, 110] 417), (.ref 441)⟩, ⟨bhash P #[99, 97, 99, 104, 101, 45, 99, 111, 110, 116, 114, 111, 108], (.bytes #[99, 97, 99, 104, 101, 45, 99, 111, 110, 116, 114, 111, 108] 419), (.ref 450)⟩, ⟨bhash P #[99, 111, 110, 116, 101, 110, 116, 45, 100, 105, 115, 112, 111, 115, 105, 116, 105, 111, 110], (.bytes #[99, 111, 110, 116, 101, 110, 116, 45, 100, 105, 115, 112, 111, 115, 105, 116, 105, 111, 110] 421), (.ref 459)⟩, ⟨bhash P #[99, 111, 110, 116, 101, 110, 116, 45, 101, 110, 99, 111, 100, 105, 110, 103], (.bytes #[99, 111, 110, 116, 101, 110, 116, 45, 101, 110, 99, 111, 100, 105, 110, 103] 423), (.ref 468)⟩, ⟨bhash P #[99, 111, 110, 116, 101, 110, 116, 45, 108, 97, 110, 103, 117, 97, 103, 101], (.bytes #[99, 111, 110, 116, 101, 110, 116, 45, 108, 97, 110, 103, 117, 97, 103, 101] 425), (.ref 477)⟩, ⟨bhash P #[99, 111, 110, 116, 101, 110, 116, 45, 108, 101, 110, 103, 116, 104], (.bytes #[99, 111, 110, 116, 101, 110, 116, 45, 108, 101, 110, 103, 116, 104] 427), (.ref 486)⟩, ⟨bhash P #[99, 111, 110, 116, 101, 110, 116, 45, 108, 111, 99, 97, 116, 105, 111, 110], (.bytes #[99, 111, 110, 116, 101, 110, 116, 45, 108, 111, 99, 97, 116, 105, 111, 110] 429), (.ref 495)⟩, ⟨bhash P #[99, 111, 110, 116, 101, 110, 116, 45, 114, 97, 110, 103, 101], (.bytes #[99, 111, 110, 116, 101, 110, 116, 45, 114, 97, 110, 103, 101] 431), (.ref 504)⟩, ⟨bhash P #[99, 111, 110, 116, 101, 110, 116, 45, 116, 121, 112, 101], (.bytes #[99, 111, 110, 116, 101, 110, 116, 45, 116, 121, 112, 101] 433), (.ref 513)⟩, ⟨bhash P #[99, 111, 111, 107, 105, 101], (.bytes #[99, 111, 111, 107, 105, 101] 435), (.ref 522)⟩, ⟨bhash P #[100, 97, 116, 101], (.bytes #[100, 97, 116, 101] 437), (.ref 531)⟩, ⟨bhash P #[101, 116, 97, 103], (.bytes #[101, 116, 97, 103] 439), (.ref 540)⟩, ⟨bhash P #[101, 120, 112, 101, 99, 116], (.bytes #[101, 120, 112, 101, 99, 116] 441), (.ref 549)⟩, ⟨bhash P #[101, 120, 112, 105, 114, 101, 115], (.bytes #[101, 120, 112, 105, 114, 101, 115] 443), (.ref 558)⟩, ⟨bhash P #[102, 114, 111, 109], (.bytes #[102, 114, 111, 109] 445), (.ref 567)⟩, ⟨bhash P #[104, 111, 115, 116], (.bytes #[104, 111, 115, 116] 447), (.ref 576)⟩, ⟨bhash P #[105, 102, 45, 109, 97, 116, 99, 104], (.bytes #[105, 102, 45, 109, 97, 116, 99, 104] 449), (.ref 585)⟩, ⟨bhash P #[105, 102, 45, 109, 111, 100, 105, 102, 105, 101, 100, 45, 115, 105, 110, 99, 101], (.bytes #[105, 102, 45, 109, 111, 100, 105, 102, 105, 101, 100, 45, 115, 105, 110, 99, 101] 451), (.ref 594)⟩, ⟨bhash P #[105, 102, 45, 110, 111, 110, 101, 45, 109, 97, 116, 99, 104], (.bytes #[105, 102, 45, 110, 111, 110, 101, 45, 109, 97, 116, 99, 104] 453), (.ref 603)⟩, ⟨bhash P #[105, 102, 45, 114, 97, 110, 103, 101], (.bytes #[105, 102, 45, 114, 97, 110, 103, 101] 455), (.ref 612)⟩, ⟨bhash P #[105, 102, 45, 117, 110, 109, 111, 100, 105, 102, 105, 101, 100, 45, 115, 105, 110, 99, 101], (.bytes #[105, 102, 45, 117, 110, 109, 111, 100, 105, 102, 105, 101, 100, 45, 115, 105, 110, 99, 101] 457), (.ref 621)⟩, ⟨bhash P #[108, 97, 115, 116, 45, 109, 111, 100, 105, 102, 105, 101, 100], (.bytes #[108, 97, 115, 116, 45, 109, 111, 100, 105, 102, 105, 101, 100] 459), (.ref 630)⟩, ⟨bhash P #[108, 105, 110, 107], (.bytes #[108, 105, 110, 107] 461), (.ref 639)⟩, ⟨bhash P #[108, 111, 99, 97, 116, 105, 111, 110], (.bytes #[108, 111, 99, 97, 116, 105, 111, 110] 463), (.ref 648)⟩, ⟨bhash P #[109, 97, 120, 45, 102, 111, 114, 119, 97, 114, 100, 115], (.bytes #[109, 97, 120, 45, 102, 111, 114, 119, 97, 114, 100, 115] 465), (.ref 657)⟩, ⟨bhash P #[112, 114, 111, 120, 121, 45, 97, 117, 116, 104, 101, 110, 116, 105, 99, 97, 116, 101], (.bytes #[112, 114, 111, 120, 121, 45, 97, 117, 116, 104, 101, 110, 116, 105, 99, 97, 116, 101] 467), (.ref 666)⟩, ⟨bhash P #[112, 114, 111, 120, 121, 45, 97, 117, 116, 104, 111, 114, 105, 122, 97, 116, 105, 111, 110], (.bytes #[112, 114, 111, 120, 121, 45, 97, 117, 116, 104, 111, 114, 105, 122, 97, 116, 105, 111, 110] 469), (.ref 675)⟩, ⟨bhash P #[114, 97, 110, 103, 101], (.bytes #[114, 97, 110, 103, 101] 471), (.ref 684)⟩, ⟨bhash P #[114, 101, 102, 101, 114, 101, 114], (.bytes #[114, 101, 102, 101, 114, 101, 114] 473), (.ref 693)⟩, ⟨bhash P #[114, 101, 102, 114, 101, 115, 104], (.bytes #[114, 101, 102, 114, 101, 115, 104] 475), (.ref 702)⟩, ⟨bhash P #[114, 101, 116, 114, 121, 45, 97, 102, 116, 101, 114], (.bytes #[114, 101, 116, 114, 121, 45, 97, 102, 116, 101, 114] 477), (.ref 711)⟩, ⟨bhash P #[115, 101, 114, 118, 101, 114], (.bytes #[115, 101, 114, 118, 101, 114] 479), (.ref 720)⟩, ⟨bhash P #[115, 101, 116, 45, 99, 111, 111, 107, 105, 101], (.bytes #[115, 101, 116, 45, 99, 111, 111, 107, 105, 101] 481), (.ref 729)⟩, ⟨bhash P #[115, 116, 114, 105, 99, 116, 45, 116, 114, 97, 110, 115, 112, 111, 114, 116, 45, 115, 101, 99, 117, 114, 105, 116, 121], (.bytes #[115, 116, 114, 105, 99, 116, 45, 116, 114, 97, 110, 115, 112, 111, 114, 116, 45, 115, 101, 99, 117, 114, 105, 116, 121] 483), (.ref 738)⟩, ⟨bhash P #[116, 114, 97, 110, 115, 102, 101, 114, 45, 101, 110, 99, 111, 100, 105, 110, 103], (.bytes #[116, 114, 97, 110, 115, 102, 101, 114, 45, 101, 110, 99, 111, 100, 105, 110, 103] 485), (.ref 747)⟩, ⟨bhash P #[117, 115, 101, 114, 45, 97, 103, 101, 110, 116], (.bytes #[117, 115, 101, 114, 45, 97, 103, 101, 110, 116] 487), (.ref 756)⟩, ⟨bhash P #[118, 97, 114, 121], (.bytes #[118, 97, 114, 121] 489), (.ref 765)⟩, ⟨bhash P #[118, 105, 97], (.bytes #[118, 105, 97] 491), (.ref 774)⟩] 51), #[]⟩
noncomputable def x6_233 (P : Params) : Obj := ⟨(.type "tuple_iterator"), none, (.fields #[(.ref 157), (.int 60 0)]), #[]⟩
noncomputable def x6_234 (P : Params) : Obj := ⟨(.type "enumerate"), none, (.fields #[.none, (.bool false), (.ref 233), (.int 61 0), .none, (.ref 155)]), #[]⟩
noncomputable def x6_685 (P : Params) : Obj := ⟨(.type "tuple"), none, (.seq #[(.int 51 1003), (.ref 146)] 0), #[]⟩
noncomputable def x6_686 (P : Params) : Obj := ⟨(.type "tuple_iterator"), none, (.fields #[.none, (.int 2 0)]), #[]⟩
noncomputable def x6_687 (P : Params) : Obj := ⟨(.type "tuple"), none, (.seq #[] 0), #[]⟩
noncomputable def x6_688 (P : Params) : Obj := ⟨(.type "StopIteration"), none, (.fields #[(.ref 687), .none, .none, .none, (.bool false), .none]), #[]⟩
noncomputable def x6_689 (P : Params) : Obj := ⟨(.type "tuple_iterator"), none, (.fields #[.none, (.int 2 0)]), #[]⟩
noncomputable def x6_690 (P : Params) : Obj := ⟨(.type "tuple"), none, (.seq #[] 0), #[]⟩
noncomputable def x6_691 (P : Params) : Obj := ⟨(.type "StopIteration"), none, (.fields #[(.ref 690), .none, .none, .none, (.bool false), .none]), #[]⟩
noncomputable def x6_692 (P : Params) : Obj := ⟨(.type "dict"), none, (.dict #[⟨bhash P #[], (.bytes #[] 474), (.int 51 1003)⟩] 1), #[]⟩
noncomputable def x6_693 (P : Params) : Obj := ⟨(.type "tuple"), none, (.seq #[(.int 51 1003), (.ref 692)] 0), #[]⟩
noncomputable def x6_694 (P : Params) : Obj := ⟨(.type "tuple"), none, (.seq #[(.int 52 1011), (.ref 147)] 0), #[]⟩
noncomputable def x6_695 (P : Params) : Obj := ⟨(.type "tuple_iterator"), none, (.fields #[.none, (.int 2 0)]), #[]⟩
noncomputable def x6_696 (P : Params) : Obj := ⟨(.type "tuple"), none, (.seq #[] 0), #[]⟩
noncomputable def x6_697 (P : Params) : Obj := ⟨(.type "StopIteration"), none, (.fields #[(.ref 696), .none, .none, .none, (.bool false), .none]), #[]⟩
noncomputable def x6_698 (P : Params) : Obj := ⟨(.type "tuple_iterator"), none, (.fields #[.none, (.int 2 0)]), #[]⟩
noncomputable def x6_699 (P : Params) : Obj := ⟨(.type "tuple"), none, (.seq #[] 0), #[]⟩
noncomputable def x6_700 (P : Params) : Obj := ⟨(.type "StopIteration"), none, (.fields #[(.ref 699), .none, .none, .none, (.bool false), .none]), #[]⟩
noncomputable def x6_701 (P : Params) : Obj := ⟨(.type "dict"), none, (.dict #[⟨bhash P #[], (.bytes #[] 476), (.int 52 1011)⟩] 1), #[]⟩
noncomputable def x6_702 (P : Params) : Obj := ⟨(.type "tuple"), none, (.seq #[(.int 52 1011), (.ref 701)] 0), #[]⟩
noncomputable def x6_703 (P : Params) : Obj := ⟨(.type "tuple"), none, (.seq #[(.int 53 1019), (.ref 148)] 0), #[]⟩
noncomputable def x6_704 (P : Params) : Obj := ⟨(.type "tuple_iterator"), none, (.fields #[.none, (.int 2 0)]), #[]⟩
noncomputable def x6_705 (P : Params) : Obj := ⟨(.type "tuple"), none, (.seq #[] 0), #[]⟩
noncomputable def x6_706 (P : Params) : Obj := ⟨(.type "StopIteration"), none, (.fields #[(.ref 705), .none, .none, .none, (.bool false), .none]), #[]⟩
noncomputable def x6_707 (P : Params) : Obj := ⟨(.type "tuple_iterator"), none, (.fields #[.none, (.int 2 0)]), #[]⟩
noncomputable def x6_708 (P : Params) : Obj := ⟨(.type "tuple"), none, (.seq #[] 0), #[]⟩
noncomputable def x6_709 (P : Params) : Obj := ⟨(.type "StopIteration"), none, (.fields #[(.ref 708), .none, .none, .none, (.bool false), .none]), #[]⟩
noncomputable def x6_710 (P : Params) : Obj := ⟨(.type "dict"), none, (.dict #[⟨bhash P #[], (.bytes #[] 478), (.int 53 1019)⟩] 1), #[]⟩
noncomputable def x6_711 (P : Params) : Obj := ⟨(.type "tuple"), none, (.seq #[(.int 53 1019), (.ref 710)] 0), #[]⟩
noncomputable def x6_712 (P : Params) : Obj := ⟨(.type "tuple"), none, (.seq #[(.int 54 1027), (.ref 149)] 0), #[]⟩
noncomputable def x6_713 (P : Params) : Obj := ⟨(.type "tuple_iterator"), none, (.fields #[.none, (.int 2 0)]), #[]⟩
noncomputable def x6_714 (P : Params) : Obj := ⟨(.type "tuple"), none, (.seq #[] 0), #[]⟩
noncomputable def x6_715 (P : Params) : Obj := ⟨(.type "StopIteration"), none, (.fields #[(.ref 714), .none, .none, .none, (.bool false), .none]), #[]⟩
noncomputable def x6_716 (P : Params) : Obj := ⟨(.type "tuple_iterator"), none, (.fields #[.none, (.int 2 0)]), #[]⟩
noncomputable def x6_717 (P : Params) : Obj := ⟨(.type "tuple"), none, (.seq #[] 0), #[]⟩
noncomputable def x6_718 (P : Params) : Obj := ⟨(.type "StopIteration"), none, (.fields #[(.ref 717), .none, .none, .none, (.bool false), .none]), #[]⟩
noncomputable def x6_719 (P : Params) : Obj := ⟨(.type "dict"), none, (.dict #[⟨bhash P #[], (.bytes #[] 480), (.int 54 1027)⟩] 1), #[]⟩
noncomputable def x6_720 (P : Params) : Obj := ⟨(.type "tuple"), none, (.seq #[(.int 54 1027), (.ref 719)] 0), #[]⟩
noncomputable def x6_721 (P : Params) : Obj := ⟨(.type "tuple"), none, (.seq #[(.int 55 1035), (.ref 150)] 0), #[]⟩
noncomputable def x6_722 (P : Params) : Obj := ⟨(.type "tuple_iterator"), none, (.fields #[.none, (.int 2 0)]), #[]⟩
noncomputable def x6_723 (P : Params) : Obj := ⟨(.type "tuple"), none, (.seq #[] 0), #[]⟩
noncomputable def x6_724 (P : Params) : Obj := ⟨(.type "StopIteration"), none, (.fields #[(.ref 723), .none, .none, .none, (.bool false), .none]), #[]⟩
noncomputable def x6_725 (P : Params) : Obj := ⟨(.type "tuple_iterator"), none, (.fields #[.none, (.int 2 0)]), #[]⟩
noncomputable def x6_726 (P : Params) : Obj := ⟨(.type "tuple"), none, (.seq #[] 0), #[]⟩
noncomputable def x6_727 (P : Params) : Obj := ⟨(.type "StopIteration"), none, (.fields #[(.ref 726), .none, .none, .none, (.bool false), .none]), #[]⟩
noncomputable def x6_728 (P : Params) : Obj := ⟨(.type "dict"), none, (.dict #[⟨bhash P #[], (.bytes #[] 482), (.int 55 1035)⟩] 1), #[]⟩
noncomputable def x6_729 (P : Params) : Obj := ⟨(.type "tuple"), none, (.seq #[(.int 55 1035), (.ref 728)] 0), #[]⟩
noncomputable def x6_730 (P : Params) : Obj := ⟨(.type "tuple"), none, (.seq #[(.int 56 1043), (.ref 151)] 0), #[]⟩
noncomputable def x6_731 (P : Params) : Obj := ⟨(.type "tuple_iterator"), none, (.fields #[.none, (.int 2 0)]), #[]⟩
noncomputable def x6_732 (P : Params) : Obj := ⟨(.type "tuple"), none, (.seq #[] 0), #[]⟩
noncomputable def x6_733 (P : Params) : Obj := ⟨(.type "StopIteration"), none, (.fields #[(.ref 732), .none, .none, .none, (.bool false), .none]), #[]⟩
noncomputable def x6_734 (P : Params) : Obj := ⟨(.type "tuple_iterator"), none, (.fields #[.none, (.int 2 0)]), #[]⟩
noncomputable def x6_735 (P : Params) : Obj := ⟨(.type "tuple"), none, (.seq #[] 0), #[]⟩
noncomputable def x6_736 (P : Params) : Obj := ⟨(.type "StopIteration"), none, (.fields #[(.ref 735), .none, .none, .none, (.bool false), .none]), #[]⟩
noncomputable def x6_737 (P : Params) : Obj := ⟨(.type "dict"), none, (.dict #[⟨bhash P #[], (.bytes #[] 484), (.int 56 1043)⟩] 1), #[]⟩
noncomputable def x6_738 (P : Params) : Obj := ⟨(.type "tuple"), none, (.seq #[(.int 56 1043), (.ref 737)] 0), #[]⟩
noncomputable def x6_739 (P : Params) : Obj := ⟨(.type "tuple"), none, (.seq #[(.int 57 1051), (.ref 152)] 0), #[]⟩
noncomputable def x6_740 (P : Params) : Obj := ⟨(.type "tuple_iterator"), none, (.fields #[.none, (.int 2 0)]), #[]⟩
noncomputable def x6_741 (P : Params) : Obj := ⟨(.type "tuple"), none, (.seq #[] 0), #[]⟩
noncomputable def x6_742 (P : Params) : Obj := ⟨(.type "StopIteration"), none, (.fields #[(.ref 741), .none, .none, .none, (.bool false), .none]), #[]⟩
noncomputable def x6_743 (P : Params) : Obj := ⟨(.type "tuple_iterator"), none, (.fields #[.none, (.int 2 0)]), #[]⟩
noncomputable def x6_744 (P : Params) : Obj := ⟨(.type "tuple"), none, (.seq #[] 0), #[]⟩
noncomputable def x6_745 (P : Params) : Obj := ⟨(.type "StopIteration"), none, (.fields #[(.ref 744), .none, .none, .none, (.bool false), .none]), #[]⟩
noncomputable def x6_746 (P : Params) : Obj := ⟨(.type "dict"), none, (.dict #[⟨bhash P #[], (.bytes #[] 486), (.int 57 1051)⟩] 1), #[]⟩
noncomputable def x6_747 (P : Params) : Obj := ⟨(.type "tuple"), none, (.seq #[(.int 57 1051), (.ref 746)] 0), #[]⟩
noncomputable def x6_748 (P : Params) : Obj := ⟨(.type "tuple"), none, (.seq #[(.int 58 1059), (.ref 153)] 0), #[]⟩
noncomputable def x6_749 (P : Params) : Obj := ⟨(.type "tuple_iterator"), none, (.fields #[.none, (.int 2 0)]), #[]⟩
noncomputable def x6_750 (P : Params) : Obj := ⟨(.type "tuple"), none, (.seq #[] 0), #[]⟩
noncomputable def x6_751 (P : Params) : Obj := ⟨(.type "StopIteration"), none, (.fields #[(.ref 750), .none, .none, .none, (.bool false), .none]), #[]⟩
noncomputable def x6_752 (P : Params) : Obj := ⟨(.type "tuple_iterator"), none, (.fields #[.none, (.int 2 0)]), #[]⟩
noncomputable def x6_753 (P : Params) : Obj := ⟨(.type "tuple"), none, (.seq #[] 0), #[]⟩
noncomputable def x6_754 (P : Params) : Obj := ⟨(.type "StopIteration"), none, (.fields #[(.ref 753), .none, .none, .none, (.bool false), .none]), #[]⟩
noncomputable def x6_755 (P : Params) : Obj := ⟨(.type "dict"), none, (.dict #[⟨bhash P #[], (.bytes #[] 488), (.int 58 1059)⟩] 1), #[]⟩
noncomputable def x6_756 (P : Params) : Obj := ⟨(.type "tuple"), none, (.seq #[(.int 58 1059), (.ref 755)] 0), #[]⟩
noncomputable def x6_757 (P : Params) : Obj := ⟨(.type "tuple"), none, (.seq #[(.int 59 1067), (.ref 154)] 0), #[]⟩
noncomputable def x6_758 (P : Params) : Obj := ⟨(.type "tuple_iterator"), none, (.fields #[.none, (.int 2 0)]), #[]⟩
noncomputable def x6_759 (P : Params) : Obj := ⟨(.type "tuple"), none, (.seq #[] 0), #[]⟩
noncomputable def x6_760 (P : Params) : Obj := ⟨(.type "StopIteration"), none, (.fields #[(.ref 759), .none, .none, .none, (.bool false), .none]), #[]⟩
noncomputable def x6_761 (P : Params) : Obj := ⟨(.type "tuple_iterator"), none, (.fields #[.none, (.int 2 0)]), #[]⟩
noncomputable def x6_762 (P : Params) : Obj := ⟨(.type "tuple"), none, (.seq #[] 0), #[]⟩
noncomputable def x6_763 (P : Params) : Obj := ⟨(.type "StopIteration"), none, (.fields #[(.ref 762), .none, .none, .none, (.bool false), .none]), #[]⟩
noncomputable def x6_764 (P : Params) : Obj := ⟨(.type "dict"), none, (.dict #[⟨bhash P #[], (.bytes #[] 490), (.int 59 1067)⟩] 1), #[]⟩
noncomputable def x6_765 (P : Params) : Obj := ⟨(.type "tuple"), none, (.seq #[(.int 59 1067), (.ref 764)] 0), #[]⟩
noncomputable def x6_766 (P : Params) : Obj := ⟨(.type "tuple"), none, (.seq #[(.int 60 1075), (.ref 155)] 0), #[]⟩
noncomputable def x6_767 (P : Params) : Obj := ⟨(.type "tuple_iterator"), none, (.fields #[.none, (.int 2 0)]), #[]⟩
noncomputable def x6_768 (P : Params) : Obj := ⟨(.type "tuple"), none, (.seq #[] 0), #[]⟩
noncomputable def x6_769 (P : Params) : Obj := ⟨(.type "StopIteration"), none, (.fields #[(.ref 768), .none, .none, .none, (.bool false), .none]), #[]⟩
noncomputable def x6_770 (P : Params) : Obj := ⟨(.type "tuple_iterator"), none, (.fields #[.none, (.int 2 0)]), #[]⟩
noncomputable def x6_771 (P : Params) : Obj := ⟨(.type "tuple"), none, (.seq #[] 0), #[]⟩
noncomputable def x6_772 (P : Params) : Obj := ⟨(.type "StopIteration"), none, (.fields #[(.ref 771), .none, .none, .none, (.bool false), .none]), #[]⟩
noncomputable def x6_773 (P : Params) : Obj := ⟨(.type "dict"), none, (.dict #[⟨bhash P #[], (.bytes #[] 492), (.int 60 1075)⟩] 1), #[]⟩
noncomputable def x6_774 (P : Params) : Obj := ⟨(.type "tuple"), none, (.seq #[(.int 60 1075), (.ref 773)] 0), #[]⟩
noncomputable def tree6 (P : Params) : BT := (.node (xB_0 P) (.node (xB_1 P) (.node (xK_3 P) (.node (xB_7 P) (.node (xB_15 P) (.node (xB_31 P) (.node (xK_63 P) (.node (xK_127 P) (.node (x1_255 P) (.node (x4_511 P) .nil .nil) (.node (x6_767 P) .nil .nil)) (.node (x2_383 P) (.node (x5_639 P) .nil .nil) .nil)) (.node (xK_191 P) (.node (x1_319 P) (.node (x4_575 P) .nil .nil) .nil) (.node (x3_447 P) (.node (x6_703 P) .nil .nil) .nil))) (.node (xK_95 P) (.node (xK_159 P) (.node (x1_287 P) (.node (x4_543 P) .nil .nil) .nil) (.node (x3_415 P) (.node (x5_671 P) .nil .nil) .nil)) (.node (xK_223 P) (.node (x2_351 P) (.node (x5_607 P) .nil .nil) .nil) (.node (x3_479 P) (.node (x6_735 P) .nil .nil) .nil)))) (.node (xK_47 P) (.node (xK_79 P) (.node (xK_143 P) (.node (x1_271 P) (.node (x4_527 P) .nil .nil) .nil) (.node (x2_399 P) (.node (x5_655 P) .nil .nil) .nil)) (.node (xK_207 P) (.node (x2_335 P) (.node (x4_591 P) .nil .nil) .nil) (.node (x3_463 P) (.node (x6_719 P) .nil .nil) .nil))) (.node (xK_111 P) (.node (xK_175 P) (.node (x1_303 P) (.node (x4_559 P) .nil .nil) .nil) (.node (x3_431 P) (.node (x6_687 P) .nil .nil) .nil)) (.node (x1_239 P) (.node (x2_367 P) (.node (x5_623 P) .nil .nil) .nil) (.node (x3_495 P) (.node (x6_751 P) .nil .nil) .nil))))) (.node (xB_23 P) (.node (xK_39 P) (.node (xK_71 P) (.node (xK_135 P) (.node (x1_263 P) (.node (x4_519 P) .nil .nil) .nil) (.node (x2_391 P) (.node (x5_647 P) .nil .nil) .nil)) (.node (xK_199 P) (.node (x2_327 P) (.node (x4_583 P) .nil .nil) .nil) (.node (x3_455 P) (.node (x6_711 P) .nil .nil) .nil))) (.node (xK_103 P) (.node (xK_167 P) (.node (x1_295 P) (.node (x4_551 P) .nil .nil) .nil) (.node (x3_423 P) (.node (x5_679 P) .nil .nil) .nil)) (.node (x6_231 P) (.node (x2_359 P) (.node (x5_615 P) .nil .nil) .nil) (.node (x3_487 P) (.node (x6_743 P) .nil .nil) .nil)))) (.node (xK_55 P) (.node (xK_87 P) (.node (xK_151 P) (.node (x1_279 P) (.node (x4_535 P) .nil .nil) .nil) (.node (x2_407 P) (.node (x5_663 P) .nil .nil) .nil)) (.node (xK_215 P) (.node (x2_343 P) (.node (x5_599 P) .nil .nil) .nil) (.node (x3_471 P) (.node (x6_727 P) .nil .nil) .nil))) (.node (xK_119 P) (.node (xK_183 P) (.node (x1_311 P) (.node (x4_567 P) .nil .nil) .nil) (.node (x3_439 P) (.node (x6_695 P) .nil .nil) .nil)) (.node (x1_247 P) (.node (x2_375 P) (.node (x5_631 P) .nil .nil) .nil) (.node (x3_503 P) (.node (x6_759 P) .nil .nil) .nil)))))) (.node (xB_11 P) (.node (xB_19 P) (.node (xK_35 P) (.node (xK_67 P) (.node (xK_131 P) (.node (x1_259 P) (.node (x4_515 P) .nil .nil) (.node (x6_771 P) .nil .nil)) (.node (x2_387 P) (.node (x5_643 P) .nil .nil) .nil)) (.node (xK_195 P) (.node (x1_323 P) (.node (x4_579 P) .nil .nil) .nil) (.node (x3_451 P) (.node (x6_707 P) .nil .nil) .nil))) (.node (xK_99 P) (.node (xK_163 P) (.node (x1_291 P) (.node (x4_547 P) .nil .nil) .nil) (.node (x3_419 P) (.node (x5_675 P) .nil .nil) .nil)) (.node (xK_227 P) (.node (x2_355 P) (.node (x5_611 P) .nil .nil) .nil) (.node (x3_483 P) (.node (x6_739 P) .nil .nil) .nil)))) (.node (xK_51 P) (.node (xK_83 P) (.node (xK_147 P) (.node (x1_275 P) (.node (x4_531 P) .nil .nil) .nil) (.node (x2_403 P) (.node (x5_659 P) .nil .nil) .nil)) (.node (xK_211 P) (.node (x2_339 P) (.node (x5_595 P) .nil .nil) .nil) (.node (x3_467 P) (.node (x6_723 P) .nil .nil) .nil))) (.node (xK_115 P) (.node (xK_179 P) (.node (x1_307 P) (.node (x4_563 P) .nil .nil) .nil) (.node (x3_435 P) (.node (x6_691 P) .nil .nil) .nil)) (.node (x1_243 P) (.node (x2_371 P) (.node (x5_627 P) .nil .nil) .nil) (.node (x3_499 P) (.node (x6_755 P) .nil .nil) .nil))))) (.node (xB_27 P) (.node (xK_43 P) (.node (xK_75 P) (.node (xK_139 P) (.node (x1_267 P) (.node (x4_523 P) .nil .nil) .nil) (.node (x2_395 P) (.node (x5_651 P) .nil .nil) .nil)) (.node (xK_203 P) (.node (x2_331 P) (.node (x4_587 P) .nil .nil) .nil) (.node (x3_459 P) (.node (x6_715 P) .nil .nil) .nil))) (.node (xK_107 P) (.node (xK_171 P) (.node (x1_299 P) (.node (x4_555 P) .nil .nil) .nil) (.node (x3_427 P) (.node (x5_683 P) .nil .nil) .nil)) (.node (x1_235 P) (.node (x2_363 P) (.node (x5_619 P) .nil .nil) .nil) (.node (x3_491 P) (.node (x6_747 P) .nil .nil) .nil)))) (.node (xK_59 P) (.node (xK_91 P) (.node (xK_155 P) (.node (x1_283 P) (.node (x4_539 P) .nil .nil) .nil) (.node (x2_411 P) (.node (x5_667 P) .nil .nil) .nil)) (.node (xK_219 P) (.node (x2_347 P) (.node (x5_603 P) .nil .nil) .nil) (.node (x3_475 P) (.node (x6_731 P) .nil .nil) .nil))) (.node (xK_123 P) (.node (xK_187 P) (.node (x1_315 P) (.node (x4_571 P) .nil .nil) .nil) (.node (x3_443 P) (.node (x6_699 P) .nil .nil) .nil)) (.node (x1_251 P) (.node (x2_379 P) (.node (x5_635 P) .nil .nil) .nil) (.node (x4_507 P) (.node (x6_763 P) .nil .nil) .nil))))))) (.node (xB_5 P) (.node (xB_9 P) (.node (xB_17 P) (.node (xK_33 P) (.node (xK_65 P) (.node (xK_129 P) (.node (x1_257 P) (.node (x4_513 P) .nil .nil) (.node (x6_769 P) .nil .nil)) (.node (x2_385 P) (.node (x5_641 P) .nil .nil) .nil)) (.node (xK_193 P) (.node (x1_321 P) (.node (x4_577 P) .nil .nil) .nil) (.node (x3_449 P) (.node (x6_705 P) .nil .nil) .nil))) (.node (xK_97 P) (.node (xK_161 P) (.node (x1_289 P) (.node (x4_545 P) .nil .nil) .nil) (.node (x3_417 P) (.node (x5_673 P) .nil .nil) .nil)) (.node (xK_225 P) (.node (x2_353 P) (.node (x5_609 P) .nil .nil) .nil) (.node (x3_481 P) (.node (x6_737 P) .nil .nil) .nil)))) (.node (xK_49 P) (.node (xK_81 P) (.node (xK_145 P) (.node (x1_273 P) (.node (x4_529 P) .nil .nil) .nil) (.node (x2_401 P) (.node (x5_657 P) .nil .nil) .nil)) (.node (xK_209 P) (.node (x2_337 P) (.node (x4_593 P) .nil .nil) .nil) (.node (x3_465 P) (.node (x6_721 P) .nil .nil) .nil))) (.node (xK_113 P) (.node (xK_177 P) (.node (x2_305 P) (.node (x4_561 P) .nil .nil) .nil) (.node (x3_433 P) (.node (x6_689 P) .nil .nil) .nil)) (.node (x1_241 P) (.node (x2_369 P) (.node (x5_625 P) .nil .nil) .nil) (.node (x3_497 P) (.node (x6_753 P) .nil .nil) .nil))))) (.node (xB_25 P) (.node (xK_41 P) (.node (xK_73 P) (.node (xK_137 P) (.node (x1_265 P) (.node (x4_521 P) .nil .nil) .nil) (.node (x2_393 P) (.node (x5_649 P) .nil .nil) .nil)) (.node (xK_201 P) (.node (x2_329 P) (.node (x4_585 P) .nil .nil) .nil) (.node (x3_457 P) (.node (x6_713 P) .nil .nil) .nil))) (.node (xK_105 P) (.node (xK_169 P) (.node (x1_297 P) (.node (x4_553 P) .nil .nil) .nil) (.node (x3_425 P) (.node (x5_681 P) .nil .nil) .nil)) (.node (x6_233 P) (.node (x2_361 P) (.node (x5_617 P) .nil .nil) .nil) (.node (x3_489 P) (.node (x6_745 P) .nil .nil) .nil)))) (.node (xK_57 P) (.node (xK_89 P) (.node (xK_153 P) (.node (x1_281 P) (.node (x4_537 P) .nil .nil) .nil) (.node (x2_409 P) (.node (x5_665 P) .nil .nil) .nil)) (.node (xK_217 P) (.node (x2_345 P) (.node (x5_601 P) .nil .nil) .nil) (.node (x3_473 P) (.node (x6_729 P) .nil .nil) .nil))) (.node (xK_121 P) (.node (xK_185 P) (.node (x1_313 P) (.node (x4_569 P) .nil .nil) .nil) (.node (x3_441 P) (.node (x6_697 P) .nil .nil) .nil)) (.node (x1_249 P) (.node (x2_377 P) (.node (x5_633 P) .nil .nil) .nil) (.node (x4_505 P) (.node (x6_761 P) .nil .nil) .nil)))))) (.node (xB_13 P) (.node (xB_21 P) (.node (xK_37 P) (.node (xK_69 P) (.node (xK_133 P) (.node (x1_261 P) (.node (x4_517 P) .nil .nil) (.node (x6_773 P) .nil .nil)) (.node (x2_389 P) (.node (x5_645 P) .nil .nil) .nil)) (.node (xK_197 P) (.node (x2_325 P) (.node (x4_581 P) .nil .nil) .nil) (.node (x3_453 P) (.node (x6_709 P) .nil .nil) .nil))) (.node (xK_101 P) (.node (xK_165 P) (.node (x1_293 P) (.node (x4_549 P) .nil .nil) .nil) (.node (x3_421 P) (.node (x5_677 P) .nil .nil) .nil)) (.node (xK_229 P) (.node (x2_357 P) (.node (x5_613 P) .nil .nil) .nil) (.node (x3_485 P) (.node (x6_741 P) .nil .nil) .nil)))) (.node (xK_53 P) (.node (xK_85 P) (.node (xK_149 P) (.node (x1_277 P) (.node (x4_533 P) .nil .nil) .nil) (.node (x2_405 P) (.node (x5_661 P) .nil .nil) .nil)) (.node (xK_213 P) (.node (x2_341 P) (.node (x5_597 P) .nil .nil) .nil) (.node (x3_469 P) (.node (x6_725 P) .nil .nil) .nil))) (.node (xK_117 P) (.node (xK_181 P) (.node (x1_309 P) (.node (x4_565 P) .nil .nil) .nil) (.node (x3_437 P) (.node (x6_693 P) .nil .nil) .nil)) (.node (x1_245 P) (.node (x2_373 P) (.node (x5_629 P) .nil .nil) .nil) (.node (x3_501 P) (.node (x6_757 P) .nil .nil) .nil))))) (.node (xB_29 P) (.node (xK_45 P) (.node (xK_77 P) (.node (xK_141 P) (.node (x1_269 P) (.node (x4_525 P) .nil .nil) .nil) (.node (x2_397 P) (.node (x5_653 P) .nil .nil) .nil)) (.node (xK_205 P) (.node (x2_333 P) (.node (x4_589 P) .nil .nil) .nil) (.node (x3_461 P) (.node (x6_717 P) .nil .nil) .nil))) (.node (xK_109 P) (.node (xK_173 P) (.node (x1_301 P) (.node (x4_557 P) .nil .nil) .nil) (.node (x3_429 P) (.node (x6_685 P) .nil .nil) .nil)) (.node (x1_237 P) (.node (x2_365 P) (.node (x5_621 P) .nil .nil) .nil) (.node (x3_493 P) (.node (x6_749 P) .nil .nil) .nil)))) (.node (xK_61 P) (.node (xK_93 P) (.node (xK_157 P) (.node (x1_285 P) (.node (x4_541 P) .nil .nil) .nil) (.node (x2_413 P) (.node (x5_669 P) .nil .nil) .nil)) (.node (xK_221 P) (.node (x2_349 P) (.node (x5_605 P) .nil .nil) .nil) (.node (x3_477 P) (.node (x6_733 P) .nil .nil) .nil))) (.node (xK_125 P) (.node (xK_189 P) (.node (x1_317 P) (.node (x4_573 P) .nil .nil) .nil) (.node (x3_445 P) (.node (x6_701 P) .nil .nil) .nil)) (.node (x1_253 P) (.node (x2_381 P) (.node (x5_637 P) .nil .nil) .nil) (.node (x4_509 P) (.node (x6_765 P) .nil .nil) .nil)))))))) (.node (xK_2 P) (.node (xB_4 P) (.node (xB_8 P) (.node (xB_16 P) (.node (xB_32 P) (.node (xK_64 P) (.node (xK_128 P) (.node (x1_256 P) (.node (x4_512 P) .nil .nil) (.node (x6_768 P) .nil .nil)) (.node (x2_384 P) (.node (x5_640 P) .nil .nil) .nil)) (.node (xK_192 P) (.node (x1_320 P) (.node (x4_576 P) .nil .nil) .nil) (.node (x3_448 P) (.node (x6_704 P) .nil .nil) .nil))) (.node (xK_96 P) (.node (xK_160 P) (.node (x1_288 P) (.node (x4_544 P) .nil .nil) .nil) (.node (x3_416 P) (.node (x5_672 P) .nil .nil) .nil)) (.node (xK_224 P) (.node (x2_352 P) (.node (x5_608 P) .nil .nil) .nil) (.node (x3_480 P) (.node (x6_736 P) .nil .nil) .nil)))) (.node (xK_48 P) (.node (xK_80 P) (.node (xK_144 P) (.node (x1_272 P) (.node (x4_528 P) .nil .nil) .nil) (.node (x2_400 P) (.node (x5_656 P) .nil .nil) .nil)) (.node (xK_208 P) (.node (x2_336 P) (.node (x4_592 P) .nil .nil) .nil) (.node (x3_464 P) (.node (x6_720 P) .nil .nil) .nil))) (.node (xK_112 P) (.node (xK_176 P) (.node (x1_304 P) (.node (x4_560 P) .nil .nil) .nil) (.node (x3_432 P) (.node (x6_688 P) .nil .nil) .nil)) (.node (x1_240 P) (.node (x2_368 P) (.node (x5_624 P) .nil .nil) .nil) (.node (x3_496 P) (.node (x6_752 P) .nil .nil) .nil))))) (.node (xB_24 P) (.node (xK_40 P) (.node (xK_72 P) (.node (xK_136 P) (.node (x1_264 P) (.node (x4_520 P) .nil .nil) .nil) (.node (x2_392 P) (.node (x5_648 P) .nil .nil) .nil)) (.node (xK_200 P) (.node (x2_328 P) (.node (x4_584 P) .nil .nil) .nil) (.node (x3_456 P) (.node (x6_712 P) .nil .nil) .nil))) (.node (xK_104 P) (.node (xK_168 P) (.node (x1_296 P) (.node (x4_552 P) .nil .nil) .nil) (.node (x3_424 P) (.node (x5_680 P) .nil .nil) .nil)) (.node (x6_232 P) (.node (x2_360 P) (.node (x5_616 P) .nil .nil) .nil) (.node (x3_488 P) (.node (x6_744 P) .nil .nil) .nil)))) (.node (xK_56 P) (.node (xK_88 P) (.node (xK_152 P) (.node (x1_280 P) (.node (x4_536 P) .nil .nil) .nil) (.node (x2_408 P) (.node (x5_664 P) .nil .nil) .nil)) (.node (xK_216 P) (.node (x2_344 P) (.node (x5_600 P) .nil .nil) .nil) (.node (x3_472 P) (.node (x6_728 P) .nil .nil) .nil))) (.node (xK_120 P) (.node (xK_184 P) (.node (x1_312 P) (.node (x4_568 P) .nil .nil) .nil) (.node (x3_440 P) (.node (x6_696 P) .nil .nil) .nil)) (.node (x1_248 P) (.node (x2_376 P) (.node (x5_632 P) .nil .nil) .nil) (.node (x3_504 P) (.node (x6_760 P) .nil .nil) .nil)))))) (.node (xB_12 P) (.node (xB_20 P) (.node (xK_36 P) (.node (xK_68 P) (.node (xK_132 P) (.node (x1_260 P) (.node (x4_516 P) .nil .nil) (.node (x6_772 P) .nil .nil)) (.node (x2_388 P) (.node (x5_644 P) .nil .nil) .nil)) (.node (xK_196 P) (.node (x1_324 P) (.node (x4_580 P) .nil .nil) .nil) (.node (x3_452 P) (.node (x6_708 P) .nil .nil) .nil))) (.node (xK_100 P) (.node (xK_164 P) (.node (x1_292 P) (.node (x4_548 P) .nil .nil) .nil) (.node (x3_420 P) (.node (x5_676 P) .nil .nil) .nil)) (.node (xK_228 P) (.node (x2_356 P) (.node (x5_612 P) .nil .nil) .nil) (.node (x3_484 P) (.node (x6_740 P) .nil .nil) .nil)))) (.node (xK_52 P) (.node (xK_84 P) (.node (xK_148 P) (.node (x1_276 P) (.node (x4_532 P) .nil .nil) .nil) (.node (x2_404 P) (.node (x5_660 P) .nil .nil) .nil)) (.node (xK_212 P) (.node (x2_340 P) (.node (x5_596 P) .nil .nil) .nil) (.node (x3_468 P) (.node (x6_724 P) .nil .nil) .nil))) (.node (xK_116 P) (.node (xK_180 P) (.node (x1_308 P) (.node (x4_564 P) .nil .nil) .nil) (.node (x3_436 P) (.node (x6_692 P) .nil .nil) .nil)) (.node (x1_244 P) (.node (x2_372 P) (.node (x5_628 P) .nil .nil) .nil) (.node (x3_500 P) (.node (x6_756 P) .nil .nil) .nil))))) (.node (xB_28 P) (.node (xK_44 P) (.node (xK_76 P) (.node (xK_140 P) (.node (x1_268 P) (.node (x4_524 P) .nil .nil) .nil) (.node (x2_396 P) (.node (x5_652 P) .nil .nil) .nil)) (.node (xK_204 P) (.node (x2_332 P) (.node (x4_588 P) .nil .nil) .nil) (.node (x3_460 P) (.node (x6_716 P) .nil .nil) .nil))) (.node (xK_108 P) (.node (xK_172 P) (.node (x1_300 P) (.node (x4_556 P) .nil .nil) .nil) (.node (x3_428 P) (.node (x5_684 P) .nil .nil) .nil)) (.node (x1_236 P) (.node (x2_364 P) (.node (x5_620 P) .nil .nil) .nil) (.node (x3_492 P) (.node (x6_748 P) .nil .nil) .nil)))) (.node (xK_60 P) (.node (xK_92 P) (.node (xK_156 P) (.node (x1_284 P) (.node (x4_540 P) .nil .nil) .nil) (.node (x2_412 P) (.node (x5_668 P) .nil .nil) .nil)) (.node (xK_220 P) (.node (x2_348 P) (.node (x5_604 P) .nil .nil) .nil) (.node (x3_476 P) (.node (x6_732 P) .nil .nil) .nil))) (.node (xK_124 P) (.node (xK_188 P) (.node (x1_316 P) (.node (x4_572 P) .nil .nil) .nil) (.node (x3_444 P) (.node (x6_700 P) .nil .nil) .nil)) (.node (x1_252 P) (.node (x2_380 P) (.node (x5_636 P) .nil .nil) .nil) (.node (x4_508 P) (.node (x6_764 P) .nil .nil) .nil))))))) (.node (xB_6 P) (.node (xB_10 P) (.node (xB_18 P) (.node (xK_34 P) (.node (xK_66 P) (.node (xK_130 P) (.node (x1_258 P) (.node (x4_514 P) .nil .nil) (.node (x6_770 P) .nil .nil)) (.node (x2_386 P) (.node (x5_642 P) .nil .nil) .nil)) (.node (xK_194 P) (.node (x1_322 P) (.node (x4_578 P) .nil .nil) .nil) (.node (x3_450 P) (.node (x6_706 P) .nil .nil) .nil))) (.node (xK_98 P) (.node (xK_162 P) (.node (x1_290 P) (.node (x4_546 P) .nil .nil) .nil) (.node (x3_418 P) (.node (x5_674 P) .nil .nil) .nil)) (.node (xK_226 P) (.node (x2_354 P) (.node (x5_610 P) .nil .nil) .nil) (.node (x3_482 P) (.node (x6_738 P) .nil .nil) .nil)))) (.node (xK_50 P) (.node (xK_82 P) (.node (xK_146 P) (.node (x1_274 P) (.node (x4_530 P) .nil .nil) .nil) (.node (x2_402 P) (.node (x5_658 P) .nil .nil) .nil)) (.node (xK_210 P) (.node (x2_338 P) (.node (x4_594 P) .nil .nil) .nil) (.node (x3_466 P) (.node (x6_722 P) .nil .nil) .nil))) (.node (xK_114 P) (.node (xK_178 P) (.node (x1_306 P) (.node (x4_562 P) .nil .nil) .nil) (.node (x3_434 P) (.node (x6_690 P) .nil .nil) .nil)) (.node (x1_242 P) (.node (x2_370 P) (.node (x5_626 P) .nil .nil) .nil) (.node (x3_498 P) (.node (x6_754 P) .nil .nil) .nil))))) (.node (xB_26 P) (.node (xK_42 P) (.node (xK_74 P) (.node (xK_138 P) (.node (x1_266 P) (.node (x4_522 P) .nil .nil) .nil) (.node (x2_394 P) (.node (x5_650 P) .nil .nil) .nil)) (.node (xK_202 P) (.node (x2_330 P) (.node (x4_586 P) .nil .nil) .nil) (.node (x3_458 P) (.node (x6_714 P) .nil .nil) .nil))) (.node (xK_106 P) (.node (xK_170 P) (.node (x1_298 P) (.node (x4_554 P) .nil .nil) .nil) (.node (x3_426 P) (.node (x5_682 P) .nil .nil) .nil)) (.node (x6_234 P) (.node (x2_362 P) (.node (x5_618 P) .nil .nil) .nil) (.node (x3_490 P) (.node (x6_746 P) .nil .nil) .nil)))) (.node (xK_58 P) (.node (xK_90 P) (.node (xK_154 P) (.node (x1_282 P) (.node (x4_538 P) .nil .nil) .nil) (.node (x2_410 P) (.node (x5_666 P) .nil .nil) .nil)) (.node (xK_218 P) (.node (x2_346 P) (.node (x5_602 P) .nil .nil) .nil) (.node (x3_474 P) (.node (x6_730 P) .nil .nil) .nil))) (.node (xK_122 P) (.node (xK_186 P) (.node (x1_314 P) (.node (x4_570 P) .nil .nil) .nil) (.node (x3_442 P) (.node (x6_698 P) .nil .nil) .nil)) (.node (x1_250 P) (.node (x2_378 P) (.node (x5_634 P) .nil .nil) .nil) (.node (x4_506 P) (.node (x6_762 P) .nil .nil) .nil)))))) (.node (xB_14 P) (.node (xB_22 P) (.node (xK_38 P) (.node (xK_70 P) (.node (xK_134 P) (.node (x1_262 P) (.node (x4_518 P) .nil .nil) (.node (x6_774 P) .nil .nil)) (.node (x2_390 P) (.node (x5_646 P) .nil .nil) .nil)) (.node (xK_198 P) (.node (x2_326 P) (.node (x4_582 P) .nil .nil) .nil) (.node (x3_454 P) (.node (x6_710 P) .nil .nil) .nil))) (.node (xK_102 P) (.node (xK_166 P) (.node (x1_294 P) (.node (x4_550 P) .nil .nil) .nil) (.node (x3_422 P) (.node (x5_678 P) .nil .nil) .nil)) (.node (xK_230 P) (.node (x2_358 P) (.node (x5_614 P) .nil .nil) .nil) (.node (x3_486 P) (.node (x6_742 P) .nil .nil) .nil)))) (.node (xK_54 P) (.node (xK_86 P) (.node (xK_150 P) (.node (x1_278 P) (.node (x4_534 P) .nil .nil) .nil) (.node (x2_406 P) (.node (x5_662 P) .nil .nil) .nil)) (.node (xK_214 P) (.node (x2_342 P) (.node (x5_598 P) .nil .nil) .nil) (.node (x3_470 P) (.node (x6_726 P) .nil .nil) .nil))) (.node (xK_118 P) (.node (xK_182 P) (.node (x1_310 P) (.node (x4_566 P) .nil .nil) .nil) (.node (x3_438 P) (.node (x6_694 P) .nil .nil) .nil)) (.node (x1_246 P) (.node (x2_374 P) (.node (x5_630 P) .nil .nil) .nil) (.node (x3_502 P) (.node (x6_758 P) .nil .nil) .nil))))) (.node (xK_30 P) (.node (xK_46 P) (.node (xK_78 P) (.node (xK_142 P) (.node (x1_270 P) (.node (x4_526 P) .nil .nil) .nil) (.node (x2_398 P) (.node (x5_654 P) .nil .nil) .nil)) (.node (xK_206 P) (.node (x2_334 P) (.node (x4_590 P) .nil .nil) .nil) (.node (x3_462 P) (.node (x6_718 P) .nil .nil) .nil))) (.node (xK_110 P) (.node (xK_174 P) (.node (x1_302 P) (.node (x4_558 P) .nil .nil) .nil) (.node (x3_430 P) (.node (x6_686 P) .nil .nil) .nil)) (.node (x1_238 P) (.node (x2_366 P) (.node (x5_622 P) .nil .nil) .nil) (.node (x3_494 P) (.node (x6_750 P) .nil .nil) .nil)))) (.node (xK_62 P) (.node (xK_94 P) (.node (xK_158 P) (.node (x1_286 P) (.node (x4_542 P) .nil .nil) .nil) (.node (x2_414 P) (.node (x5_670 P) .nil .nil) .nil)) (.node (xK_222 P) (.node (x2_350 P) (.node (x5_606 P) .nil .nil) .nil) (.node (x3_478 P) (.node (x6_734 P) .nil .nil) .nil))) (.node (xK_126 P) (.node (xK_190 P) (.node (x1_318 P) (.node (x4_574 P) .nil .nil) .nil) (.node (x3_446 P) (.node (x6_702 P) .nil .nil) .nil)) (.node (x1_254 P) (.node (x2_382 P) (.node (x5_638 P) .nil .nil) .nil) (.node (x4_510 P) (.node (x6_766 P) .nil .nil) .nil)))))))))
noncomputable def xM_218 (P : Params) : Obj := ⟨(.type "dict"), none, (.dict #[⟨PyData.keyHash P ⟨#[95, 95, 109, 111, 100, 117, 108, 101, 95, 95]⟩, (.str ⟨#[95, 95, 109, 111, 100, 117, 108, 101, 95, 95]⟩ 366), (.str ⟨#[104, 112, 97, 99, 107, 46, 116, 97, 98, 108, 101]⟩ 349)⟩, ⟨PyData.keyHash P ⟨#[95, 95, 102, 105, 114, 115, 116, 108, 105, 110, 101, 110, 111, 95, 95]⟩, (.str ⟨#[95, 95, 102, 105, 114, 115, 116, 108, 105, 110, 101, 110, 111, 95, 95]⟩ 370), (.int 14 369)⟩, ⟨PyData.keyHash P ⟨#[68, 69, 70, 65, 85, 76, 84, 95, 83, 73, 90, 69]⟩, (.str ⟨#[68, 69, 70, 65, 85, 76, 84, 95, 83, 73, 90, 69]⟩ 372), (.int 4096 371)⟩, ⟨PyData.keyHash P ⟨#[83, 84, 65, 84, 73, 67, 95, 84, 65, 66, 76, 69]⟩, (.str ⟨#[83, 84, 65, 84, 73, 67, 95, 84, 65, 66, 76, 69]⟩ 495), (.ref 157)⟩, ⟨PyData.keyHash P ⟨#[83, 84, 65, 84, 73, 67, 95, 84, 65, 66, 76, 69, 95, 76, 69, 78, 71, 84, 72]⟩, (.str ⟨#[83, 84, 65, 84, 73, 67, 95, 84, 65, 66, 76, 69, 95, 76, 69, 78, 71, 84, 72]⟩ 498), (.int 61 497)⟩, ⟨PyData.keyHash P ⟨#[95, 95, 105, 110, 105, 116, 95, 95]⟩, (.str ⟨#[95, 95, 105, 110, 105, 116, 95, 95]⟩ 505), (.ref 164)⟩, ⟨PyData.keyHash P ⟨#[103, 101, 116, 95, 98, 121, 95, 105, 110, 100, 101, 120]⟩, (.str ⟨#[103, 101, 116, 95, 98, 121, 95, 105, 110, 100, 101, 120]⟩ 514), (.ref 171)⟩, ⟨PyData.keyHash P ⟨#[95, 95, 114, 101, 112, 114, 95, 95]⟩, (.str ⟨#[95, 95, 114, 101, 112, 114, 95, 95]⟩ 521), (.ref 178)⟩, ⟨PyData.keyHash P ⟨#[97, 100, 100]⟩, (.str ⟨#[97, 100, 100]⟩ 531), (.ref 185)⟩, ⟨PyData.keyHash P ⟨#[115, 101, 97, 114, 99, 104]⟩, (.str ⟨#[115, 101, 97, 114, 99, 104]⟩ 547), (.ref 192)⟩, ⟨PyData.keyHash P ⟨#[109, 97, 120, 115, 105, 122, 101]⟩, (.str ⟨#[109, 97, 120, 115, 105, 122, 101]⟩ 555), (.ref 209)⟩, ⟨PyData.keyHash P ⟨#[95, 115, 104, 114, 105, 110, 107]⟩, (.str ⟨#[95, 115, 104, 114, 105, 110, 107]⟩ 576), (.ref 216)⟩, ⟨PyData.keyHash P ⟨#[95, 95, 115, 116, 97, 116, 105, 99, 95, 97, 116, 116, 114, 105, 98, 117, 116, 101, 115, 95, 95]⟩, (.str ⟨#[95, 95, 115, 116, 97, 116, 105, 99, 95, 97, 116, 116, 114, 105, 98, 117, 116, 101, 115, 95, 95]⟩ 581), (.ref 217)⟩, ⟨PyData.keyHash P ⟨#[95, 95, 100, 105, 99, 116, 95, 95]⟩, (.str ⟨#[95, 95, 100, 105, 99, 116, 95, 95]⟩ 583), (.ref 220)⟩, ⟨PyData.keyHash P ⟨#[95, 95, 119, 101, 97, 107, 114, 101, 102, 95, 95]⟩, (.str ⟨#[95, 95, 119, 101, 97, 107, 114, 101, 102, 95, 95]⟩ 585), (.ref 221)⟩, ⟨PyData.keyHash P ⟨#[95, 95, 100, 111, 99, 95, 95]⟩, (.str ⟨#[95, 95, 100, 111, 99, 95, 95]⟩ 586), .none⟩, ⟨PyData.keyHash P ⟨#[83, 84, 65, 84, 73, 67, 95, 84, 65, 66, 76, 69, 95, 77, 65, 80, 80, 73, 78, 71]⟩, (.str ⟨#[83, 84, 65, 84, 73, 67, 95, 84, 65, 66, 76, 69, 95, 77, 65, 80, 80, 73, 78, 71]⟩ 1092), (.ref 232)⟩] 5), #[]⟩
noncomputable def xM_231 (P : Params) : Obj := ⟨(.type "frame"), none, (.dict #[⟨PyData.keyHash P ⟨#[115, 116, 97, 116, 105, 99, 95, 116, 97, 98, 108, 101, 95, 109, 97, 112, 112, 105, 110, 103]⟩, (.str ⟨#[115, 116, 97, 116, 105, 99, 95, 116, 97, 98, 108, 101, 95, 109, 97, 112, 112, 105, 110, 103]⟩ 600), (.ref 232)⟩, ⟨PyData.keyHash P ⟨#[105, 110, 100, 101, 120]⟩, (.str ⟨#[105, 110, 100, 101, 120]⟩ 604), (.int 61 1083)⟩, ⟨PyData.keyHash P ⟨#[110, 97, 109, 101]⟩, (.str ⟨#[110, 97, 109, 101]⟩ 605), (.bytes #[119, 119, 119, 45, 97, 117, 116, 104, 101, 110, 116, 105, 99, 97, 116, 101] 493)⟩, ⟨PyData.keyHash P ⟨#[118, 97, 108, 117, 101]⟩, (.str ⟨#[118, 97, 108, 117, 101]⟩ 606), (.bytes #[] 494)⟩, ⟨PyData.keyHash P ⟨#[104, 101, 97, 100, 101, 114, 95, 110, 97, 109, 101, 95, 115, 101, 97, 114, 99, 104, 95, 114, 101, 115, 117, 108, 116]⟩, (.str ⟨#[104, 101, 97, 100, 101, 114, 95, 110, 97, 109, 101, 95, 115, 101, 97, 114, 99, 104, 95, 114, 101, 115, 117, 108, 116]⟩ 608), (.ref 783)⟩] 5), #[]⟩
noncomputable def xM_232 (P : Params) : Obj := ⟨(.type "dict"), none, (.dict #[⟨bhash P #[58, 97, 117, 116, 104, 111, 114, 105, 116, 121], (.bytes #[58, 97, 117, 116, 104, 111, 114, 105, 116, 121] 373), (.ref 243)⟩, ⟨bhash P #[58, 109, 101, 116, 104, 111, 100], (.bytes #[58, 109, 101, 116, 104, 111, 100] 375), (.ref 252)⟩, ⟨bhash P #[58, 112, 97, 116, 104], (.bytes #[58, 112, 97, 116, 104] 379), (.ref 270)⟩, ⟨bhash P #[58, 115, 99, 104, 101, 109, 101], (.bytes #[58, 115, 99, 104, 101, 109, 101] 383), (.ref 288)⟩, ⟨bhash P #[58, 115, 116, 97, 116, 117, 115], (.bytes #[58, 115, 116, 97, 116, 117, 115] 387), (.ref 306)⟩, ⟨bhash P #[97, 99, 99, 101, 112, 116, 45, 99, 104, 97, 114, 115, 101, 116], (.bytes #[97, 99, 99, 101, 112, 116, 45, 99, 104, 97, 114, 115, 101, 116] 401), (.ref 369)⟩, ⟨bhash P #[97, 99, 99, 101, 112, 116, 45, 101, 110, 99, 111, 100, 105, 110, 103], (.bytes #[97, 99, 99, 101, 112, 116, 45, 101, 110, 99, 111, 100, 105, 110, 103] 403), (.ref 378)⟩, ⟨bhash P #[97, 99, 99, 101, 112, 116, 45, 108, 97, 110, 103, 117, 97, 103, 101], (.bytes #[97, 99, 99, 101, 112, 116, 45, 108, 97, 110, 103, 117, 97, 103, 101] 405), (.ref 387)⟩, ⟨bhash P #[97, 99, 99, 101, 112, 116, 45, 114, 97, 110, 103, 101, 115], (.bytes #[97, 99, 99, 101, 112, 116, 45, 114, 97, 110, 103, 101, 115] 407), (.ref 396)⟩, ⟨bhash P #[97, 99, 99, 101, 112, 116], (.bytes #[97, 99, 99, 101, 112, 116] 409), (.ref 405)⟩, ⟨bhash P #[97, 99, 99, 101, 115, 115, 45, 99, 111, 110, 116, 114, 111, 108, 45, 97, 108, 108, 111, 119, 45, 111, 114, 105, 103, 105, 110], (.bytes #[97, 99, 99, 101, 115, 115, 45, 99, 111, 110, 116, 114, 111, 108, 45, 97, 108, 108, 111, 119, 45, 111, 114, 105, 103, 105, 110] 411), (.ref 414)⟩, ⟨bhash P #[97, 103, 101], (.bytes #[97, 103, 101] 413), (.ref 423)⟩, ⟨bhash P #[97, 108, 108, 111, 119], (.bytes #[97, 108, 108, 111, 119] 415), (.ref 432)⟩, ⟨bhash P #[97, 117, 116, 104, 111, 114, 105, 122, 97, 116, 105, 111, 110], (.bytes #[97, 117, 116, 104, 111, 114, 105, 122, 97, 116, 105, 111, 110] 417), (.ref 441)⟩, ⟨bhash P #[99, 97, 99, 104, 101, 45, 99, 111, 110, 116, 114, 111, 108], (.bytes #[99, 97, 99, 104, 101, 45, 99, 111, 110, 116, 114, 111, 108] 419), (.ref 450)⟩, ⟨bhash P #[99, 111, 110, 116, 101, 110, 116, 45, 100, 105, 115, 112, 111, 115, 105, 116, 105, 111, 110], (.bytes #[99, 111, 110, 116, 101, 110, 116, 45, 100, 105, 115, 112, 111, 115, 105, 116, 105, 111, 110] 421), (.ref 459)⟩, ⟨bhash P #[99, 111, 110, 116, 101, 110, 116, 45, 101, 110, 99, 111, 100, 105, 110, 103], (.bytes #[99, 111, 110, 116, 101, 110, 116, 45, 101, 110, 99, 111, 100, 105, 110, 103] 423), (.ref 468)⟩, ⟨bhash P #[99, 111, 110, 116, 101, 110, 116, 45, 108, 97, 110, 103, 117, 97, 103, 101], (.bytes #[99, 111, 110, 116, 101, 110, 116, 45, 108, 97, 110, 103, 117, 97, 103, 101] 425), (.ref 477)⟩, ⟨bhash P #[99, 111, 110, 116, 101, 110, 116, 45, 108, 101, 110, 103, 116, 104], (.bytes #[99, 111, 110, 116, 101, 110, 116, 45, 108, 101, 110, 103, 116, 104] 427), (.ref 486)⟩, ⟨bhash P #[99, 111, 110, 116, 101, 110, 116, 45, 108, 111, 99, 97, 116, 105, 111, 110], (.bytes #[99, 111, 110, 116, 101, 110, 116, 45, 108, 111, 99, 97, 116, 105, 111, 110] 429), (.ref 495)⟩, ⟨bhash P #[99, 111, 110, 116, 101, 110, 116, 45, 114, 97, 110, 103, 101], (.bytes #[99, 111, 110, 116, 101, 110, 116, 45, 114, 97, 110, 103, 101] 431), (.ref 504)⟩, ⟨bhash P #[99, 111, 110, 116, 101, 110, 116, 45, 116, 121, 112, 101], (.bytes #[99, 111, 110, 116, 101, 110, 116, 45, 116, 121, 112, 101] 433), (.ref 513)⟩, ⟨bhash P #[99, 111, 111, 107, 105, 101], (.bytes #[99, 111, 111, 107, 105, 101] 435), (.ref 522)⟩, ⟨bhash P #[100, 97, 116, 101], (.bytes #[100, 97, 116, 101] 437), (.ref 531)⟩, ⟨bhash P #[101, 116, 97, 103], (.bytes #[101, 116, 97, 103] 439), (.ref 540)⟩, ⟨bhash P #[101, 120, 112, 101, 99, 116], (.bytes #[101, 120, 112, 101, 99, 116] 441), (.ref 549)⟩, ⟨bhash P #[101, 120, 112, 105, 114, 101, 115], (.bytes #[101, 120, 112, 105, 114, 101, 115] 443), (.ref 558)⟩, ⟨bhash P #[102, 114, 111, 109], (.bytes #[102, 114, 111, 109] 445), (.ref 567)⟩, ⟨bhash P #[104, 111, 115, 116], (.bytes #[104, 111, 115, 116] 447), (.ref 576)⟩, ⟨bhash P #[105, 102, 45, 109, 97, 116, 99, 104], (.bytes #[105, 102, 45, 109, 97, 116, 99, 104] 449), (.ref 585)⟩, ⟨bhash P #[105, 102, 45, 109, 111, 100, 105, 102, 105, 101, 100, 45, 115, 105, 110, 99, 101], (.bytes #[105, 102, 45, 109, 111, 100, 105, 102, 105, 101, 100, 45, 115, 105, 110, 99, 101] 451), (.ref 594)⟩, ⟨bhash P #[105, 102, 45, 110, 111, 110, 101, 45, 109, 97, 116, 99, 104], (.bytes #[105, 102, 45, 110, 111, 110, 101, 45, 109, 97, 116, 99, 104] 453), (.ref 603)⟩, ⟨bhash P #[105, 102, 45, 114, 97, 110, 103, 101], (.bytes #[105, 102, 45, 114, 97, 110, 103, 101] 455), (.ref 612)⟩, ⟨bhash P #[105, 102, 45, 117, 110, 109, 111, 100, 105, 102, 105, 101, 100, 45, 115, 105, 110, 99, 101], (.bytes #[105, 102, 45, 117, 110, 109, 111, 100, 105, 102, 105, 101, 100, 45, 115, 105, 110, 99, 101] 457), (.ref 621)⟩, ⟨bhash P #[108, 97, 115, 116, 45, 109, 111, 100, 105, 102, 105, 101, 100], (.bytes #[108, 97, 115, 116, 45, 109, 111, 100, 105, 102, 105, 101, 100] 459), (.ref 630)⟩, ⟨bhash P #[108, 105, 110, 107], (.bytes #[108, 105, 110, 107] 461), (.ref 639)⟩, ⟨bhash P #[108, 111, 99, 97, 116, 105, 111, 110], (.bytes #[108, 111, 99, 97, 116, 105, 111, 110] 463), (.ref 648)⟩, ⟨bhash P #[109, 97, 120, 45, 102, 111, 114, 119, 97, 114, 100, 115], (.bytes #[109, 97, 120, 45, 102, 111, 114, 119, 97, 114, 100, 115] 465), (.ref 657)⟩, ⟨bhash P #[112, 114, 111, 120, 121, 45, 97, 117, 116, 104, 101, 110, 116, 105, 99, 97, 116, 101], (.bytes #[112, 114, 111, 120, 121, 45, 97, 117, 116, 104, 101, 110, 116, 105, 99, 97, 116, 101] 467), (.ref 666)⟩, ⟨bhash P #[112, 114, 111, 120, 121, 45, 97, 117, 116, 104, 111, 114, 105, 122, 97, 116, 105, 111, 110], (.bytes #[112, 114, 111, 120, 121, 45, 97, 117, 116, 104, 111, 114, 105, 122, 97, 116, 105, 111, 110] 469), (.ref 675)⟩, ⟨bhash P #[114, 97, 110, 103, 101], (.bytes #[114, 97, 110, 103, 101] 471), (.ref 684)⟩, ⟨bhash P #[114, 101, 102, 101, 114, 101, 114], (.bytes #[114, 101, 102, 101, 114, 101, 114] 473), (.ref 693)⟩, ⟨bhash P #[114, 101, 102, 114, 101, 115, 104], (.bytes #[114, 101, 102, 114, 101, 115, 104] 475), (.ref 702)⟩, ⟨bhash P #[114, 101, 116, 114, 121, 45, 97, 102, 116, 101, 114], (.bytes #[114, 101, 116, 114, 121, 45, 97, 102, 116, 101, 114] 477), (.ref 711)⟩, ⟨bhash P #[115, 101, 114, 118, 101, 114], (.bytes #[115, 101, 114, 118, 101, 114] 479), (.ref 720)⟩, ⟨bhash P #[115, 101, 116, 45, 99, 111, 111, 107, 105, 101], (.bytes #[115, 101, 116, 45, 99, 111, 111, 107, 105, 101] 481), (.ref 729)⟩, ⟨bhash P #[115, 116, 114, 105, 99, 116, 45, 116, 114, 97, 110, 115, 112, 111, 114, 116, 45, 115, 101, 99, 117, 114, 105, 116, 121], (.bytes #[115, 116, 114, 105, 99, 116, 45, 116, 114, 97, 110, 115, 112, 111, 114, 116, 45, 115, 101, 99, 117, 114, 105, 116, 121] 483), (.ref 738)⟩, ⟨bhash P #[116, 114, 97, 110, 115, 102, 101, 114, 45, 101, 110, 99, 111, 100, 105, 110, 103], (.bytes #[116, 114, 97, 110, 115, 102, 101, 114, 45, 101, 110, 99, 111, 100, 105, 110, 103] 485), (.ref 747)⟩, ⟨bhash P #[117, 115, 101, 114, 45, 97, 103, 101, 110, 116], (.bytes #[117, 115, 101, 114, 45, 97, 103, 101, 110, 116] 487), (.ref 756)⟩, ⟨bhash P #[118, 97, 114, 121], (.bytes #[118, 97, 114, 121] 489), (.ref 765)⟩, ⟨bhash P #[118, 105, 97], (.bytes #[118, 105, 97] 491), (.ref 774)⟩, ⟨bhash P #[119, 119, 119, 45, 97, 117, 116, 104, 101, 110, 116, 105, 99, 97, 116, 101], (.bytes #[119, 119, 119, 45, 97, 117, 116, 104, 101, 110, 116, 105, 99, 97, 116, 101] 493), (.ref 783)⟩] 52), #[]⟩
noncomputable def xM_233 (P : Params) : Obj := ⟨(.type "tuple_iterator"), none, (.fields #[.none, (.int 61 0)]), #[]⟩
noncomputable def xM_234 (P : Params) : Obj := ⟨(.type "enumerate"), none, (.fields #[.none, (.bool false), (.ref 233), (.int 62 0), .none, (.ref 156)]), #[]⟩
noncomputable def xM_775 (P : Params) : Obj := ⟨(.type "tuple"), none, (.seq #[(.int 61 1083), (.ref 156)] 0), #[]⟩
noncomputable def xM_776 (P : Params) : Obj := ⟨(.type "tuple_iterator"), none, (.fields #[.none, (.int 2 0)]), #[]⟩
noncomputable def xM_777 (P : Params) : Obj := ⟨(.type "tuple"), none, (.seq #[] 0), #[]⟩
noncomputable def xM_778 (P : Params) : Obj := ⟨(.type "StopIteration"), none, (.fields #[(.ref 777), .none, .none, .none, (.bool false), .none]), #[]⟩
noncomputable def xM_779 (P : Params) : Obj := ⟨(.type "tuple_iterator"), none, (.fields #[.none, (.int 2 0)]), #[]⟩
noncomputable def xM_780 (P : Params) : Obj := ⟨(.type "tuple"), none, (.seq #[] 0), #[]⟩
noncomputable def xM_781 (P : Params) : Obj := ⟨(.type "StopIteration"), none, (.fields #[(.ref 780), .none, .none, .none, (.bool false), .none]), #[]⟩
noncomputable def xM_782 (P : Params) : Obj := ⟨(.type "dict"), none, (.dict #[⟨bhash P #[], (.bytes #[] 494), (.int 61 1083)⟩] 1), #[]⟩
noncomputable def xM_783 (P : Params) : Obj := ⟨(.type "tuple"), none, (.seq #[(.int 61 1083), (.ref 782)] 0), #[]⟩
noncomputable def xM_784 (P : Params) : Obj := ⟨(.type "tuple"), none, (.seq #[] 0), #[]⟩
noncomputable def xM_785 (P : Params) : Obj := ⟨(.type "StopIteration"), none, (.fields #[(.ref 784), .none, .none, .none, (.bool false), .none]), #[]⟩
noncomputable def treeM (P : Params) : BT := (.node (xB_0 P) (.node (xB_1 P) (.node (xK_3 P) (.node (xB_7 P) (.node (xB_15 P) (.node (xB_31 P) (.node (xK_63 P) (.node (xK_127 P) (.node (x1_255 P) (.node (x4_511 P) .nil .nil) (.node (x6_767 P) .nil .nil)) (.node (x2_383 P) (.node (x5_639 P) .nil .nil) .nil)) (.node (xK_191 P) (.node (x1_319 P) (.node (x4_575 P) .nil .nil) .nil) (.node (x3_447 P) (.node (x6_703 P) .nil .nil) .nil))) (.node (xK_95 P) (.node (xK_159 P) (.node (x1_287 P) (.node (x4_543 P) .nil .nil) .nil) (.node (x3_415 P) (.node (x5_671 P) .nil .nil) .nil)) (.node (xK_223 P) (.node (x2_351 P) (.node (x5_607 P) .nil .nil) .nil) (.node (x3_479 P) (.node (x6_735 P) .nil .nil) .nil)))) (.node (xK_47 P) (.node (xK_79 P) (.node (xK_143 P) (.node (x1_271 P) (.node (x4_527 P) .nil .nil) (.node (xM_783 P) .nil .nil)) (.node (x2_399 P) (.node (x5_655 P) .nil .nil) .nil)) (.node (xK_207 P) (.node (x2_335 P) (.node (x4_591 P) .nil .nil) .nil) (.node (x3_463 P) (.node (x6_719 P) .nil .nil) .nil))) (.node (xK_111 P) (.node (xK_175 P) (.node (x1_303 P) (.node (x4_559 P) .nil .nil) .nil) (.node (x3_431 P) (.node (x6_687 P) .nil .nil) .nil)) (.node (x1_239 P) (.node (x2_367 P) (.node (x5_623 P) .nil .nil) .nil) (.node (x3_495 P) (.node (x6_751 P) .nil .nil) .nil))))) (.node (xB_23 P) (.node (xK_39 P) (.node (xK_71 P) (.node (xK_135 P) (.node (x1_263 P) (.node (x4_519 P) .nil .nil) (.node (xM_775 P) .nil .nil)) (.node (x2_391 P) (.node (x5_647 P) .nil .nil) .nil)) (.node (xK_199 P) (.node (x2_327 P) (.node (x4_583 P) .nil .nil) .nil) (.node (x3_455 P) (.node (x6_711 P) .nil .nil) .nil))) (.node (xK_103 P) (.node (xK_167 P) (.node (x1_295 P) (.node (x4_551 P) .nil .nil) .nil) (.node (x3_423 P) (.node (x5_679 P) .nil .nil) .nil)) (.node (xM_231 P) (.node (x2_359 P) (.node (x5_615 P) .nil .nil) .nil) (.node (x3_487 P) (.node (x6_743 P) .nil .nil) .nil)))) (.node (xK_55 P) (.node (xK_87 P) (.node (xK_151 P) (.node (x1_279 P) (.node (x4_535 P) .nil .nil) .nil) (.node (x2_407 P) (.node (x5_663 P) .nil .nil) .nil)) (.node (xK_215 P) (.node (x2_343 P) (.node (x5_599 P) .nil .nil) .nil) (.node (x3_471 P) (.node (x6_727 P) .nil .nil) .nil))) (.node (xK_119 P) (.node (xK_183 P) (.node (x1_311 P) (.node (x4_567 P) .nil .nil) .nil) (.node (x3_439 P) (.node (x6_695 P) .nil .nil) .nil)) (.node (x1_247 P) (.node (x2_375 P) (.node (x5_631 P) .nil .nil) .nil) (.node (x3_503 P) (.node (x6_759 P) .nil .nil) .nil)))))) (.node (xB_11 P) (.node (xB_19 P) (.node (xK_35 P) (.node (xK_67 P) (.node (xK_131 P) (.node (x1_259 P) (.node (x4_515 P) .nil .nil) (.node (x6_771 P) .nil .nil)) (.node (x2_387 P) (.node (x5_643 P) .nil .nil) .nil)) (.node (xK_195 P) (.node (x1_323 P) (.node (x4_579 P) .nil .nil) .nil) (.node (x3_451 P) (.node (x6_707 P) .nil .nil) .nil))) (.node (xK_99 P) (.node (xK_163 P) (.node (x1_291 P) (.node (x4_547 P) .nil .nil) .nil) (.node (x3_419 P) (.node (x5_675 P) .nil .nil) .nil)) (.node (xK_227 P) (.node (x2_355 P) (.node (x5_611 P) .nil .nil) .nil) (.node (x3_483 P) (.node (x6_739 P) .nil .nil) .nil)))) (.node (xK_51 P) (.node (xK_83 P) (.node (xK_147 P) (.node (x1_275 P) (.node (x4_531 P) .nil .nil) .nil) (.node (x2_403 P) (.node (x5_659 P) .nil .nil) .nil)) (.node (xK_211 P) (.node (x2_339 P) (.node (x5_595 P) .nil .nil) .nil) (.node (x3_467 P) (.node (x6_723 P) .nil .nil) .nil))) (.node (xK_115 P) (.node (xK_179 P) (.node (x1_307 P) (.node (x4_563 P) .nil .nil) .nil) (.node (x3_435 P) (.node (x6_691 P) .nil .nil) .nil)) (.node (x1_243 P) (.node (x2_371 P) (.node (x5_627 P) .nil .nil) .nil) (.node (x3_499 P) (.node (x6_755 P) .nil .nil) .nil))))) (.node (xB_27 P) (.node (xK_43 P) (.node (xK_75 P) (.node (xK_139 P) (.node (x1_267 P) (.node (x4_523 P) .nil .nil) (.node (xM_779 P) .nil .nil)) (.node (x2_395 P) (.node (x5_651 P) .nil .nil) .nil)) (.node (xK_203 P) (.node (x2_331 P) (.node (x4_587 P) .nil .nil) .nil) (.node (x3_459 P) (.node (x6_715 P) .nil .nil) .nil))) (.node (xK_107 P) (.node (xK_171 P) (.node (x1_299 P) (.node (x4_555 P) .nil .nil) .nil) (.node (x3_427 P) (.node (x5_683 P) .nil .nil) .nil)) (.node (x1_235 P) (.node (x2_363 P) (.node (x5_619 P) .nil .nil) .nil) (.node (x3_491 P) (.node (x6_747 P) .nil .nil) .nil)))) (.node (xK_59 P) (.node (xK_91 P) (.node (xK_155 P) (.node (x1_283 P) (.node (x4_539 P) .nil .nil) .nil) (.node (x2_411 P) (.node (x5_667 P) .nil .nil) .nil)) (.node (xK_219 P) (.node (x2_347 P) (.node (x5_603 P) .nil .nil) .nil) (.node (x3_475 P) (.node (x6_731 P) .nil .nil) .nil))) (.node (xK_123 P) (.node (xK_187 P) (.node (x1_315 P) (.node (x4_571 P) .nil .nil) .nil) (.node (x3_443 P) (.node (x6_699 P) .nil .nil) .nil)) (.node (x1_251 P) (.node (x2_379 P) (.node (x5_635 P) .nil .nil) .nil) (.node (x4_507 P) (.node (x6_763 P) .nil .nil) .nil))))))) (.node (xB_5 P) (.node (xB_9 P) (.node (xB_17 P) (.node (xK_33 P) (.node (xK_65 P) (.node (xK_129 P) (.node (x1_257 P) (.node (x4_513 P) .nil .nil) (.node (x6_769 P) .nil .nil)) (.node (x2_385 P) (.node (x5_641 P) .nil .nil) .nil)) (.node (xK_193 P) (.node (x1_321 P) (.node (x4_577 P) .nil .nil) .nil) (.node (x3_449 P) (.node (x6_705 P) .nil .nil) .nil))) (.node (xK_97 P) (.node (xK_161 P) (.node (x1_289 P) (.node (x4_545 P) .nil .nil) .nil) (.node (x3_417 P) (.node (x5_673 P) .nil .nil) .nil)) (.node (xK_225 P) (.node (x2_353 P) (.node (x5_609 P) .nil .nil) .nil) (.node (x3_481 P) (.node (x6_737 P) .nil .nil) .nil)))) (.node (xK_49 P) (.node (xK_81 P) (.node (xK_145 P) (.node (x1_273 P) (.node (x4_529 P) .nil .nil) (.node (xM_785 P) .nil .nil)) (.node (x2_401 P) (.node (x5_657 P) .nil .nil) .nil)) (.node (xK_209 P) (.node (x2_337 P) (.node (x4_593 P) .nil .nil) .nil) (.node (x3_465 P) (.node (x6_721 P) .nil .nil) .nil))) (.node (xK_113 P) (.node (xK_177 P) (.node (x2_305 P) (.node (x4_561 P) .nil .nil) .nil) (.node (x3_433 P) (.node (x6_689 P) .nil .nil) .nil)) (.node (x1_241 P) (.node (x2_369 P) (.node (x5_625 P) .nil .nil) .nil) (.node (x3_497 P) (.node (x6_753 P) .nil .nil) .nil))))) (.node (xB_25 P) (.node (xK_41 P) (.node (xK_73 P) (.node (xK_137 P) (.node (x1_265 P) (.node (x4_521 P) .nil .nil) (.node (xM_777 P) .nil .nil)) (.node (x2_393 P) (.node (x5_649 P) .nil .nil) .nil)) (.node (xK_201 P) (.node (x2_329 P) (.node (x4_585 P) .nil .nil) .nil) (.node (x3_457 P) (.node (x6_713 P) .nil .nil) .nil))) (.node (xK_105 P) (.node (xK_169 P) (.node (x1_297 P) (.node (x4_553 P) .nil .nil) .nil) (.node (x3_425 P) (.node (x5_681 P) .nil .nil) .nil)) (.node (xM_233 P) (.node (x2_361 P) (.node (x5_617 P) .nil .nil) .nil) (.node (x3_489 P) (.node (x6_745 P) .nil .nil) .nil)))) (.node (xK_57 P) (.node (xK_89 P) (.node (xK_153 P) (.node (x1_281 P) (.node (x4_537 P) .nil .nil) .nil) (.node (x2_409 P) (.node (x5_665 P) .nil .nil) .nil)) (.node (xK_217 P) (.node (x2_345 P) (.node (x5_601 P) .nil .nil) .nil) (.node (x3_473 P) (.node (x6_729 P) .nil .nil) .nil))) (.node (xK_121 P) (.node (xK_185 P) (.node (x1_313 P) (.node (x4_569 P) .nil .nil) .nil) (.node (x3_441 P) (.node (x6_697 P) .nil .nil) .nil)) (.node (x1_249 P) (.node (x2_377 P) (.node (x5_633 P) .nil .nil) .nil) (.node (x4_505 P) (.node (x6_761 P) .nil .nil) .nil)))))) (.node (xB_13 P) (.node (xB_21 P) (.node (xK_37 P) (.node (xK_69 P) (.node (xK_133 P) (.node (x1_261 P) (.node (x4_517 P) .nil .nil) (.node (x6_773 P) .nil .nil)) (.node (x2_389 P) (.node (x5_645 P) .nil .nil) .nil)) (.node (xK_197 P) (.node (x2_325 P) (.node (x4_581 P) .nil .nil) .nil) (.node (x3_453 P) (.node (x6_709 P) .nil .nil) .nil))) (.node (xK_101 P) (.node (xK_165 P) (.node (x1_293 P) (.node (x4_549 P) .nil .nil) .nil) (.node (x3_421 P) (.node (x5_677 P) .nil .nil) .nil)) (.node (xK_229 P) (.node (x2_357 P) (.node (x5_613 P) .nil .nil) .nil) (.node (x3_485 P) (.node (x6_741 P) .nil .nil) .nil)))) (.node (xK_53 P) (.node (xK_85 P) (.node (xK_149 P) (.node (x1_277 P) (.node (x4_533 P) .nil .nil) .nil) (.node (x2_405 P) (.node (x5_661 P) .nil .nil) .nil)) (.node (xK_213 P) (.node (x2_341 P) (.node (x5_597 P) .nil .nil) .nil) (.node (x3_469 P) (.node (x6_725 P) .nil .nil) .nil))) (.node (xK_117 P) (.node (xK_181 P) (.node (x1_309 P) (.node (x4_565 P) .nil .nil) .nil) (.node (x3_437 P) (.node (x6_693 P) .nil .nil) .nil)) (.node (x1_245 P) (.node (x2_373 P) (.node (x5_629 P) .nil .nil) .nil) (.node (x3_501 P) (.node (x6_757 P) .nil .nil) .nil))))) (.node (xB_29 P) (.node (xK_45 P) (.node (xK_77 P) (.node (xK_141 P) (.node (x1_269 P) (.node (x4_525 P) .nil .nil) (.node (xM_781 P) .nil .nil)) (.node (x2_397 P) (.node (x5_653 P) .nil .nil) .nil)) (.node (xK_205 P) (.node (x2_333 P) (.node (x4_589 P) .nil .nil) .nil) (.node (x3_461 P) (.node (x6_717 P) .nil .nil) .nil))) (.node (xK_109 P) (.node (xK_173 P) (.node (x1_301 P) (.node (x4_557 P) .nil .nil) .nil) (.node (x3_429 P) (.node (x6_685 P) .nil .nil) .nil)) (.node (x1_237 P) (.node (x2_365 P) (.node (x5_621 P) .nil .nil) .nil) (.node (x3_493 P) (.node (x6_749 P) .nil .nil) .nil)))) (.node (xK_61 P) (.node (xK_93 P) (.node (xK_157 P) (.node (x1_285 P) (.node (x4_541 P) .nil .nil) .nil) (.node (x2_413 P) (.node (x5_669 P) .nil .nil) .nil)) (.node (xK_221 P) (.node (x2_349 P) (.node (x5_605 P) .nil .nil) .nil) (.node (x3_477 P) (.node (x6_733 P) .nil .nil) .nil))) (.node (xK_125 P) (.node (xK_189 P) (.node (x1_317 P) (.node (x4_573 P) .nil .nil) .nil) (.node (x3_445 P) (.node (x6_701 P) .nil .nil) .nil)) (.node (x1_253 P) (.node (x2_381 P) (.node (x5_637 P) .nil .nil) .nil) (.node (x4_509 P) (.node (x6_765 P) .nil .nil) .nil)))))))) (.node (xK_2 P) (.node (xB_4 P) (.node (xB_8 P) (.node (xB_16 P) (.node (xB_32 P) (.node (xK_64 P) (.node (xK_128 P) (.node (x1_256 P) (.node (x4_512 P) .nil .nil) (.node (x6_768 P) .nil .nil)) (.node (x2_384 P) (.node (x5_640 P) .nil .nil) .nil)) (.node (xK_192 P) (.node (x1_320 P) (.node (x4_576 P) .nil .nil) .nil) (.node (x3_448 P) (.node (x6_704 P) .nil .nil) .nil))) (.node (xK_96 P) (.node (xK_160 P) (.node (x1_288 P) (.node (x4_544 P) .nil .nil) .nil) (.node (x3_416 P) (.node (x5_672 P) .nil .nil) .nil)) (.node (xK_224 P) (.node (x2_352 P) (.node (x5_608 P) .nil .nil) .nil) (.node (x3_480 P) (.node (x6_736 P) .nil .nil) .nil)))) (.node (xK_48 P) (.node (xK_80 P) (.node (xK_144 P) (.node (x1_272 P) (.node (x4_528 P) .nil .nil) (.node (xM_784 P) .nil .nil)) (.node (x2_400 P) (.node (x5_656 P) .nil .nil) .nil)) (.node (xK_208 P) (.node (x2_336 P) (.node (x4_592 P) .nil .nil) .nil) (.node (x3_464 P) (.node (x6_720 P) .nil .nil) .nil))) (.node (xK_112 P) (.node (xK_176 P) (.node (x1_304 P) (.node (x4_560 P) .nil .nil) .nil) (.node (x3_432 P) (.node (x6_688 P) .nil .nil) .nil)) (.node (x1_240 P) (.node (x2_368 P) (.node (x5_624 P) .nil .nil) .nil) (.node (x3_496 P) (.node (x6_752 P) .nil .nil) .nil))))) (.node (xB_24 P) (.node (xK_40 P) (.node (xK_72 P) (.node (xK_136 P) (.node (x1_264 P) (.node (x4_520 P) .nil .nil) (.node (xM_776 P) .nil .nil)) (.node (x2_392 P) (.node (x5_648 P) .nil .nil) .nil)) (.node (xK_200 P) (.node (x2_328 P) (.node (x4_584 P) .nil .nil) .nil) (.node (x3_456 P) (.node (x6_712 P) .nil .nil) .nil))) (.node (xK_104 P) (.node (xK_168 P) (.node (x1_296 P) (.node (x4_552 P) .nil .nil) .nil) (.node (x3_424 P) (.node (x5_680 P) .nil .nil) .nil)) (.node (xM_232 P) (.node (x2_360 P) (.node (x5_616 P) .nil .nil) .nil) (.node (x3_488 P) (.node (x6_744 P) .nil .nil) .nil)))) (.node (xK_56 P) (.node (xK_88 P) (.node (xK_152 P) (.node (x1_280 P) (.node (x4_536 P) .nil .nil) .nil) (.node (x2_408 P) (.node (x5_664 P) .nil .nil) .nil)) (.node (xK_216 P) (.node (x2_344 P) (.node (x5_600 P) .nil .nil) .nil) (.node (x3_472 P) (.node (x6_728 P) .nil .nil) .nil))) (.node (xK_120 P) (.node (xK_184 P) (.node (x1_312 P) (.node (x4_568 P) .nil .nil) .nil) (.node (x3_440 P) (.node (x6_696 P) .nil .nil) .nil)) (.node (x1_248 P) (.node (x2_376 P) (.node (x5_632 P) .nil .nil) .nil) (.node (x3_504 P) (.node (x6_760 P) .nil .nil) .nil)))))) (.node (xB_12 P) (.node (xB_20 P) (.node (xK_36 P) (.node (xK_68 P) (.node (xK_132 P) (.node (x1_260 P) (.node (x4_516 P) .nil .nil) (.node (x6_772 P) .nil .nil)) (.node (x2_388 P) (.node (x5_644 P) .nil .nil) .nil)) (.node (xK_196 P) (.node (x1_324 P) (.node (x4_580 P) .nil .nil) .nil) (.node (x3_452 P) (.node (x6_708 P) .nil .nil) .nil))) (.node (xK_100 P) (.node (xK_164 P) (.node (x1_292 P) (.node (x4_548 P) .nil .nil) .nil) (.node (x3_420 P) (.node (x5_676 P) .nil .nil) .nil)) (.node (xK_228 P) (.node (x2_356 P) (.node (x5_612 P) .nil .nil) .nil) (.node (x3_484 P) (.node (x6_740 P) .nil .nil) .nil)))) (.node (xK_52 P) (.node (xK_84 P) (.node (xK_148 P) (.node (x1_276 P) (.node (x4_532 P) .nil .nil) .nil) (.node (x2_404 P) (.node (x5_660 P) .nil .nil) .nil)) (.node (xK_212 P) (.node (x2_340 P) (.node (x5_596 P) .nil .nil) .nil) (.node (x3_468 P) (.node (x6_724 P) .nil .nil) .nil))) (.node (xK_116 P) (.node (xK_180 P) (.node (x1_308 P) (.node (x4_564 P) .nil .nil) .nil) (.node (x3_436 P) (.node (x6_692 P) .nil .nil) .nil)) (.node (x1_244 P) (.node (x2_372 P) (.node (x5_628 P) .nil .nil) .nil) (.node (x3_500 P) (.node (x6_756 P) .nil .nil) .nil))))) (.node (xB_28 P) (.node (xK_44 P) (.node (xK_76 P) (.node (xK_140 P) (.node (x1_268 P) (.node (x4_524 P) .nil .nil) (.node (xM_780 P) .nil .nil)) (.node (x2_396 P) (.node (x5_652 P) .nil .nil) .nil)) (.node (xK_204 P) (.node (x2_332 P) (.node (x4_588 P) .nil .nil) .nil) (.node (x3_460 P) (.node (x6_716 P) .nil .nil) .nil))) (.node (xK_108 P) (.node (xK_172 P) (.node (x1_300 P) (.node (x4_556 P) .nil .nil) .nil) (.node (x3_428 P) (.node (x5_684 P) .nil .nil) .nil)) (.node (x1_236 P) (.node (x2_364 P) (.node (x5_620 P) .nil .nil) .nil) (.node (x3_492 P) (.node (x6_748 P) .nil .nil) .nil)))) (.node (xK_60 P) (.node (xK_92 P) (.node (xK_156 P) (.node (x1_284 P) (.node (x4_540 P) .nil .nil) .nil) (.node (x2_412 P) (.node (x5_668 P) .nil .nil) .nil)) (.node (xK_220 P) (.node (x2_348 P) (.node (x5_604 P) .nil .nil) .nil) (.node (x3_476 P) (.node (x6_732 P) .nil .nil) .nil))) (.node (xK_124 P) (.node (xK_188 P) (.node (x1_316 P) (.node (x4_572 P) .nil .nil) .nil) (.node (x3_444 P) (.node (x6_700 P) .nil .nil) .nil)) (.node (x1_252 P) (.node (x2_380 P) (.node (x5_636 P) .nil .nil) .nil) (.node (x4_508 P) (.node (x6_764 P) .nil .nil) .nil))))))) (.node (xB_6 P) (.node (xB_10 P) (.node (xB_18 P) (.node (xK_34 P) (.node (xK_66 P) (.node (xK_130 P) (.node (x1_258 P) (.node (x4_514 P) .nil .nil) (.node (x6_770 P) .nil .nil)) (.node (x2_386 P) (.node (x5_642 P) .nil .nil) .nil)) (.node (xK_194 P) (.node (x1_322 P) (.node (x4_578 P) .nil .nil) .nil) (.node (x3_450 P) (.node (x6_706 P) .nil .nil) .nil))) (.node (xK_98 P) (.node (xK_162 P) (.node (x1_290 P) (.node (x4_546 P) .nil .nil) .nil) (.node (x3_418 P) (.node (x5_674 P) .nil .nil) .nil)) (.node (xK_226 P) (.node (x2_354 P) (.node (x5_610 P) .nil .nil) .nil) (.node (x3_482 P) (.node (x6_738 P) .nil .nil) .nil)))) (.node (xK_50 P) (.node (xK_82 P) (.node (xK_146 P) (.node (x1_274 P) (.node (x4_530 P) .nil .nil) .nil) (.node (x2_402 P) (.node (x5_658 P) .nil .nil) .nil)) (.node (xK_210 P) (.node (x2_338 P) (.node (x4_594 P) .nil .nil) .nil) (.node (x3_466 P) (.node (x6_722 P) .nil .nil) .nil))) (.node (xK_114 P) (.node (xK_178 P) (.node (x1_306 P) (.node (x4_562 P) .nil .nil) .nil) (.node (x3_434 P) (.node (x6_690 P) .nil .nil) .nil)) (.node (x1_242 P) (.node (x2_370 P) (.node (x5_626 P) .nil .nil) .nil) (.node (x3_498 P) (.node (x6_754 P) .nil .nil) .nil))))) (.node (xB_26 P) (.node (xK_42 P) (.node (xK_74 P) (.node (xK_138 P) (.node (x1_266 P) (.node (x4_522 P) .nil .nil) (.node (xM_778 P) .nil .nil)) (.node (x2_394 P) (.node (x5_650 P) .nil .nil) .nil)) (.node (xK_202 P) (.node (x2_330 P) (.node (x4_586 P) .nil .nil) .nil) (.node (x3_458 P) (.node (x6_714 P) .nil .nil) .nil))) (.node (xK_106 P) (.node (xK_170 P) (.node (x1_298 P) (.node (x4_554 P) .nil .nil) .nil) (.node (x3_426 P) (.node (x5_682 P) .nil .nil) .nil)) (.node (xM_234 P) (.node (x2_362 P) (.node (x5_618 P) .nil .nil) .nil) (.node (x3_490 P) (.node (x6_746 P) .nil .nil) .nil)))) (.node (xK_58 P) (.node (xK_90 P) (.node (xK_154 P) (.node (x1_282 P) (.node (x4_538 P) .nil .nil) .nil) (.node (x2_410 P) (.node (x5_666 P) .nil .nil) .nil)) (.node (xM_218 P) (.node (x2_346 P) (.node (x5_602 P) .nil .nil) .nil) (.node (x3_474 P) (.node (x6_730 P) .nil .nil) .nil))) (.node (xK_122 P) (.node (xK_186 P) (.node (x1_314 P) (.node (x4_570 P) .nil .nil) .nil) (.node (x3_442 P) (.node (x6_698 P) .nil .nil) .nil)) (.node (x1_250 P) (.node (x2_378 P) (.node (x5_634 P) .nil .nil) .nil) (.node (x4_506 P) (.node (x6_762 P) .nil .nil) .nil)))))) (.node (xB_14 P) (.node (xB_22 P) (.node (xK_38 P) (.node (xK_70 P) (.node (xK_134 P) (.node (x1_262 P) (.node (x4_518 P) .nil .nil) (.node (x6_774 P) .nil .nil)) (.node (x2_390 P) (.node (x5_646 P) .nil .nil) .nil)) (.node (xK_198 P) (.node (x2_326 P) (.node (x4_582 P) .nil .nil) .nil) (.node (x3_454 P) (.node (x6_710 P) .nil .nil) .nil))) (.node (xK_102 P) (.node (xK_166 P) (.node (x1_294 P) (.node (x4_550 P) .nil .nil) .nil) (.node (x3_422 P) (.node (x5_678 P) .nil .nil) .nil)) (.node (xK_230 P) (.node (x2_358 P) (.node (x5_614 P) .nil .nil) .nil) (.node (x3_486 P) (.node (x6_742 P) .nil .nil) .nil)))) (.node (xK_54 P) (.node (xK_86 P) (.node (xK_150 P) (.node (x1_278 P) (.node (x4_534 P) .nil .nil) .nil) (.node (x2_406 P) (.node (x5_662 P) .nil .nil) .nil)) (.node (xK_214 P) (.node (x2_342 P) (.node (x5_598 P) .nil .nil) .nil) (.node (x3_470 P) (.node (x6_726 P) .nil .nil) .nil))) (.node (xK_118 P) (.node (xK_182 P) (.node (x1_310 P) (.node (x4_566 P) .nil .nil) .nil) (.node (x3_438 P) (.node (x6_694 P) .nil .nil) .nil)) (.node (x1_246 P) (.node (x2_374 P) (.node (x5_630 P) .nil .nil) .nil) (.node (x3_502 P) (.node (x6_758 P) .nil .nil) .nil))))) (.node (xK_30 P) (.node (xK_46 P) (.node (xK_78 P) (.node (xK_142 P) (.node (x1_270 P) (.node (x4_526 P) .nil .nil) (.node (xM_782 P) .nil .nil)) (.node (x2_398 P) (.node (x5_654 P) .nil .nil) .nil)) (.node (xK_206 P) (.node (x2_334 P) (.node (x4_590 P) .nil .nil) .nil) (.node (x3_462 P) (.node (x6_718 P) .nil .nil) .nil))) (.node (xK_110 P) (.node (xK_174 P) (.node (x1_302 P) (.node (x4_558 P) .nil .nil) .nil) (.node (x3_430 P) (.node (x6_686 P) .nil .nil) .nil)) (.node (x1_238 P) (.node (x2_366 P) (.node (x5_622 P) .nil .nil) .nil) (.node (x3_494 P) (.node (x6_750 P) .nil .nil) .nil)))) (.node (xK_62 P) (.node (xK_94 P) (.node (xK_158 P) (.node (x1_286 P) (.node (x4_542 P) .nil .nil) .nil) (.node (x2_414 P) (.node (x5_670 P) .nil .nil) .nil)) (.node (xK_222 P) (.node (x2_350 P) (.node (x5_606 P) .nil .nil) .nil) (.node (x3_478 P) (.node (x6_734 P) .nil .nil) .nil))) (.node (xK_126 P) (.node (xK_190 P) (.node (x1_318 P) (.node (x4_574 P) .nil .nil) .nil) (.node (x3_446 P) (.node (x6_702 P) .nil .nil) .nil)) (.node (x1_254 P) (.node (x2_382 P) (.node (x5_638 P) .nil .nil) .nil) (.node (x4_510 P) (.node (x6_766 P) .nil .nil) .nil)))))))))
noncomputable def xF_3 (P : Params) : Obj := ⟨(.type "dict"), none, (.dict #[⟨PyData.keyHash P ⟨#[95, 95, 110, 97, 109, 101, 95, 95]⟩, (.str ⟨#[95, 95, 110, 97, 109, 101, 95, 95]⟩ 165), (.str ⟨#[108, 97, 119, 95, 105, 109, 48, 49, 50, 54, 95, 48, 49]⟩ 1093)⟩, ⟨PyData.keyHash P ⟨#[95, 95, 100, 111, 99, 95, 95]⟩, (.str ⟨#[95, 95, 100, 111, 99, 95, 95]⟩ 166), .none⟩, ⟨PyData.keyHash P ⟨#[95, 95, 112, 97, 99, 107, 97, 103, 101, 95, 95]⟩, (.str ⟨#[95, 95, 112, 97, 99, 107, 97, 103, 101, 95, 95]⟩ 167), .none⟩, ⟨PyData.keyHash P ⟨#[95, 95, 108, 111, 97, 100, 101, 114, 95, 95]⟩, (.str ⟨#[95, 95, 108, 111, 97, 100, 101, 114, 95, 95]⟩ 168), (.builtin "__main__.__loader__#opaque")⟩, ⟨PyData.keyHash P ⟨#[95, 95, 115, 112, 101, 99, 95, 95]⟩, (.str ⟨#[95, 95, 115, 112, 101, 99, 95, 95]⟩ 169), .none⟩, ⟨PyData.keyHash P ⟨#[95, 95, 97, 110, 110, 111, 116, 97, 116, 105, 111, 110, 115, 95, 95]⟩, (.str ⟨#[95, 95, 97, 110, 110, 111, 116, 97, 116, 105, 111, 110, 115, 95, 95]⟩ 170), (.ref 6)⟩, ⟨PyData.keyHash P ⟨#[95, 95, 98, 117, 105, 108, 116, 105, 110, 115, 95, 95]⟩, (.str ⟨#[95, 95, 98, 117, 105, 108, 116, 105, 110, 115, 95, 95]⟩ 171), (.ref 4)⟩, ⟨PyData.keyHash P ⟨#[95, 95, 102, 105, 108, 101, 95, 95]⟩, (.str ⟨#[95, 95, 102, 105, 108, 101, 95, 95]⟩ 173), (.str ⟨#[47, 99, 108, 97, 105, 109, 47, 99, 117, 116, 46, 112, 121]⟩ 172)⟩, ⟨PyData.keyHash P ⟨#[95, 95, 99, 97, 99, 104, 101, 100, 95, 95]⟩, (.str ⟨#[95, 95, 99, 97, 99, 104, 101, 100, 95, 95]⟩ 174), .none⟩, ⟨PyData.keyHash P ⟨#[100, 101, 113, 117, 101]⟩, (.str ⟨#[100, 101, 113, 117, 101]⟩ 272), (.type "collections.deque")⟩, ⟨PyData.keyHash P ⟨#[72, 80, 65, 67, 75, 69, 114, 114, 111, 114]⟩, (.str ⟨#[72, 80, 65, 67, 75, 69, 114, 114, 111, 114]⟩ 300), (.ref 42)⟩, ⟨PyData.keyHash P ⟨#[72, 80, 65, 67, 75, 68, 101, 99, 111, 100, 105, 110, 103, 69, 114, 114, 111, 114]⟩, (.str ⟨#[72, 80, 65, 67, 75, 68, 101, 99, 111, 100, 105, 110, 103, 69, 114, 114, 111, 114]⟩ 316), (.ref 55)⟩, ⟨PyData.keyHash P ⟨#[73, 110, 118, 97, 108, 105, 100, 84, 97, 98, 108, 101, 73, 110, 100, 101, 120, 69, 114, 114, 111, 114]⟩, (.str ⟨#[73, 110, 118, 97, 108, 105, 100, 84, 97, 98, 108, 101, 73, 110, 100, 101, 120, 69, 114, 114, 111, 114]⟩ 332), (.ref 67)⟩, ⟨PyData.keyHash P ⟨#[73, 110, 118, 97, 108, 105, 100, 84, 97, 98, 108, 101, 73, 110, 100, 101, 120]⟩, (.str ⟨#[73, 110, 118, 97, 108, 105, 100, 84, 97, 98, 108, 101, 73, 110, 100, 101, 120]⟩ 348), (.ref 79)⟩, ⟨PyData.keyHash P ⟨#[116, 97, 98, 108, 101, 95, 101, 110, 116, 114, 121, 95, 115, 105, 122, 101]⟩, (.str ⟨#[116, 97, 98, 108, 101, 95, 101, 110, 116, 114, 121, 95, 115, 105, 122, 101]⟩ 358), (.ref 88)⟩, ⟨PyData.keyHash P ⟨#[72, 101, 97, 100, 101, 114, 84, 97, 98, 108, 101]⟩, (.str ⟨#[72, 101, 97, 100, 101, 114, 84, 97, 98, 108, 101]⟩ 588), (.ref 219)⟩, ⟨PyData.keyHash P ⟨#[95, 98, 117, 105, 108, 100, 95, 115, 116, 97, 116, 105, 99, 95, 116, 97, 98, 108, 101, 95, 109, 97, 112, 112, 105, 110, 103]⟩, (.str ⟨#[95, 98, 117, 105, 108, 100, 95, 115, 116, 97, 116, 105, 99, 95, 116, 97, 98, 108, 101, 95, 109, 97, 112, 112, 105, 110, 103]⟩ 599), (.ref 230)⟩, ⟨PyData.keyHash P ⟨#[95, 108, 97, 119, 95, 110, 97, 109, 101, 115]⟩, (.str ⟨#[95, 108, 97, 119, 95, 110, 97, 109, 101, 115]⟩ 1100), (.ref 792)⟩, ⟨PyData.keyHash P ⟨#[95, 108, 97, 119, 95, 118, 97, 108, 117, 101, 115]⟩, (.str ⟨#[95, 108, 97, 119, 95, 118, 97, 108, 117, 101, 115]⟩ 1106), (.ref 799)⟩, ⟨PyData.keyHash P ⟨#[95, 108, 97, 119, 95, 102, 111, 117, 110, 100]⟩, (.str ⟨#[95, 108, 97, 119, 95, 102, 111, 117, 110, 100]⟩ 1119), (.ref 806)⟩, ⟨PyData.keyHash P ⟨#[108, 97, 119]⟩, (.str ⟨#[108, 97, 119]⟩ 1125), (.ref 811)⟩] 21), #[]⟩
noncomputable def xF_30 (P : Params) : Obj := ⟨.none, none, (.fields #[(.int 3 0), (.int 0 0), (.ref 38), (.int 5 0), (.int 0 0), (.ref 51), (.int 7 0), (.int 0 0), (.ref 63), (.int 9 0), (.int 0 0), (.ref 75), (.int 12 0), (.int 0 0), (.ref 87), (.int 14 0), (.int 0 0), (.ref 94), (.int 89 0), (.int 0 0), (.ref 229), (.int 97 0), (.int 0 0), (.ref 791), (.int 99 0), (.int 0 0), (.ref 798), (.int 101 0), (.int 0 0), (.ref 805), (.int 108 0), (.int 0 0), (.ref 810)]), #[]⟩
noncomputable def xF_786 (P : Params) : Obj := ⟨(.type "tuple"), none, (.seq #[] 0), #[]⟩
noncomputable def xF_787 (P : Params) : Obj := ⟨.none, none, (.fields #[]), #[]⟩
noncomputable def xF_788 (P : Params) : Obj := ⟨(.type "tuple"), none, (.seq #[] 0), #[]⟩
noncomputable def xF_789 (P : Params) : Obj := ⟨(.type "tuple"), none, (.seq #[] 0), #[]⟩
noncomputable def xF_790 (P : Params) : Obj := ⟨.none, none, (.func { name := ⟨#[95, 108, 97, 119, 95, 110, 97, 109, 101, 115]⟩, qualname := ⟨#[95, 108, 97, 119, 95, 110, 97, 109, 101, 115]⟩, params := fp1 (fdOf 12), body := .stmts (fp2 (fdOf 12)), scope := fp3 (fdOf 12), globals := 0, closure := [], defaults := .none, kwdefaults := .none, doc := .none, pyModule := .none, annotations := none, code := .none, closureTuple := .none, builtins := 0 }), #[]⟩
noncomputable def xF_791 (P : Params) : Obj := ⟨(.type "code"), none, (.fields #[(.str ⟨#[95, 108, 97, 119, 95, 110, 97, 109, 101, 115]⟩ 1095), (.str ⟨#[95, 108, 97, 119, 95, 110, 97, 109, 101, 115]⟩ 1096), (.str ⟨#[47, 99, 108, 97, 105, 109, 47, 99, 117, 116, 46, 112, 121]⟩ 1097), (.int 97 0), (.int 0 0), (.int 0 0), (.int 0 0), (.int 3 0), (.ref 786), (.bool true), (.int 273 0), (.ref 787), .none, (.ref 788), (.ref 789), (.ref 790), (.int 1098 0), (.int 97 0), (.str ⟨#[47, 99, 108, 97, 105, 109, 47, 99, 117, 116, 46, 112, 121]⟩ 1099)]), #[]⟩
noncomputable def xF_792 (P : Params) : Obj := ⟨(.type "function"), none, (.func { name := ⟨#[95, 108, 97, 119, 95, 110, 97, 109, 101, 115]⟩, qualname := ⟨#[95, 108, 97, 119, 95, 110, 97, 109, 101, 115]⟩, params := fp1 (fdOf 12), body := .stmts (fp2 (fdOf 12)), scope := fp3 (fdOf 12), globals := 3, closure := [], defaults := .none, kwdefaults := .none, doc := .none, pyModule := (.str ⟨#[108, 97, 119, 95, 105, 109, 48, 49, 50, 54, 95, 48, 49]⟩ 1093), annotations := none, code := (.ref 791), closureTuple := .none, builtins := 0 }), #[]⟩
noncomputable def xF_793 (P : Params) : Obj := ⟨(.type "tuple"), none, (.seq #[] 0), #[]⟩
noncomputable def xF_794 (P : Params) : Obj := ⟨.none, none, (.fields #[]), #[]⟩
noncomputable def xF_795 (P : Params) : Obj := ⟨(.type "tuple"), none, (.seq #[] 0), #[]⟩
noncomputable def xF_796 (P : Params) : Obj := ⟨(.type "tuple"), none, (.seq #[] 0), #[]⟩
noncomputable def xF_797 (P : Params) : Obj := ⟨.none, none, (.func { name := ⟨#[95, 108, 97, 119, 95, 118, 97, 108, 117, 101, 115]⟩, qualname := ⟨#[95, 108, 97, 119, 95, 118, 97, 108, 117, 101, 115]⟩, params := fp1 (fdOf 13), body := .stmts (fp2 (fdOf 13)), scope := fp3 (fdOf 13), globals := 0, closure := [], defaults := .none, kwdefaults := .none, doc := .none, pyModule := .none, annotations := none, code := .none, closureTuple := .none, builtins := 0 }), #[]⟩
noncomputable def xF_798 (P : Params) : Obj := ⟨(.type "code"), none, (.fields #[(.str ⟨#[95, 108, 97, 119, 95, 118, 97, 108, 117, 101, 115]⟩ 1101), (.str ⟨#[95, 108, 97, 119, 95, 118, 97, 108, 117, 101, 115]⟩ 1102), (.str ⟨#[47, 99, 108, 97, 105, 109, 47, 99, 117, 116, 46, 112, 121]⟩ 1103), (.int 99 0), (.int 0 0), (.int 0 0), (.int 0 0), (.int 3 0), (.ref 793), (.bool true), (.int 273 0), (.ref 794), .none, (.ref 795), (.ref 796), (.ref 797), (.int 1104 0), (.int 99 0), (.str ⟨#[47, 99, 108, 97, 105, 109, 47, 99, 117, 116, 46, 112, 121]⟩ 1105)]), #[]⟩
noncomputable def xF_799 (P : Params) : Obj := ⟨(.type "function"), none, (.func { name := ⟨#[95, 108, 97, 119, 95, 118, 97, 108, 117, 101, 115]⟩, qualname := ⟨#[95, 108, 97, 119, 95, 118, 97, 108, 117, 101, 115]⟩, params := fp1 (fdOf 13), body := .stmts (fp2 (fdOf 13)), scope := fp3 (fdOf 13), globals := 3, closure := [], defaults := .none, kwdefaults := .none, doc := .none, pyModule := (.str ⟨#[108, 97, 119, 95, 105, 109, 48, 49, 50, 54, 95, 48, 49]⟩ 1093), annotations := none, code := (.ref 798), closureTuple := .none, builtins := 0 }), #[]⟩
noncomputable def xF_800 (P : Params) : Obj := ⟨(.type "tuple"), none, (.seq #[] 0), #[]⟩
noncomputable def xF_801 (P : Params) : Obj := ⟨.none, none, (.fields #[]), #[]⟩
noncomputable def xF_802 (P : Params) : Obj := ⟨(.type "tuple"), none, (.seq #[(.str ⟨#[112, 97, 105, 114]⟩ 1110), (.str ⟨#[115, 116, 97, 110, 100, 105, 110, 103]⟩ 1111), (.str ⟨#[108, 97, 115, 116]⟩ 1112), (.str ⟨#[103, 111, 110, 101]⟩ 1113), (.str ⟨#[99, 111, 117, 110, 116]⟩ 1114), (.str ⟨#[107, 101, 121]⟩ 1115), (.str ⟨#[118, 97, 108, 117, 101]⟩ 1116)] 0), #[]⟩
noncomputable def xF_803 (P : Params) : Obj := ⟨(.type "tuple"), none, (.seq #[] 0), #[]⟩
noncomputable def xF_804 (P : Params) : Obj := ⟨.none, none, (.func { name := ⟨#[95, 108, 97, 119, 95, 102, 111, 117, 110, 100]⟩, qualname := ⟨#[95, 108, 97, 119, 95, 102, 111, 117, 110, 100]⟩, params := fp1 (fdOf 14), body := .stmts (fp2 (fdOf 14)), scope := fp3 (fdOf 14), globals := 0, closure := [], defaults := .none, kwdefaults := .none, doc := .none, pyModule := .none, annotations := none, code := .none, closureTuple := .none, builtins := 0 }), #[]⟩
noncomputable def xF_805 (P : Params) : Obj := ⟨(.type "code"), none, (.fields #[(.str ⟨#[95, 108, 97, 119, 95, 102, 111, 117, 110, 100]⟩ 1107), (.str ⟨#[95, 108, 97, 119, 95, 102, 111, 117, 110, 100]⟩ 1108), (.str ⟨#[47, 99, 108, 97, 105, 109, 47, 99, 117, 116, 46, 112, 121]⟩ 1109), (.int 101 0), (.int 5 0), (.int 0 0), (.int 0 0), (.int 3 0), (.ref 800), (.bool true), (.int 273 0), (.ref 801), .none, (.ref 802), (.ref 803), (.ref 804), (.int 1117 0), (.int 101 0), (.str ⟨#[47, 99, 108, 97, 105, 109, 47, 99, 117, 116, 46, 112, 121]⟩ 1118)]), #[]⟩
noncomputable def xF_806 (P : Params) : Obj := ⟨(.type "function"), none, (.func { name := ⟨#[95, 108, 97, 119, 95, 102, 111, 117, 110, 100]⟩, qualname := ⟨#[95, 108, 97, 119, 95, 102, 111, 117, 110, 100]⟩, params := fp1 (fdOf 14), body := .stmts (fp2 (fdOf 14)), scope := fp3 (fdOf 14), globals := 3, closure := [], defaults := .none, kwdefaults := .none, doc := .none, pyModule := (.str ⟨#[108, 97, 119, 95, 105, 109, 48, 49, 50, 54, 95, 48, 49]⟩ 1093), annotations := none, code := (.ref 805), closureTuple := .none, builtins := 0 }), #[]⟩
noncomputable def xF_807 (P : Params) : Obj := ⟨(.type "tuple"), none, (.seq #[] 0), #[]⟩
noncomputable def xF_808 (P : Params) : Obj := ⟨.none, none, (.fields #[]), #[]⟩
noncomputable def xF_809 (P : Params) : Obj := ⟨.none, none, (.func { name := ⟨#[108, 97, 119]⟩, qualname := ⟨#[108, 97, 119]⟩, params := fp1 (fdOf 15), body := .stmts (fp2 (fdOf 15)), scope := fp3 (fdOf 15), globals := 0, closure := [], defaults := .none, kwdefaults := .none, doc := .none, pyModule := .none, annotations := none, code := .none, closureTuple := .none, builtins := 0 }), #[]⟩
noncomputable def xF_810 (P : Params) : Obj := ⟨(.type "code"), none, (.fields #[(.str ⟨#[108, 97, 119]⟩ 1120), (.str ⟨#[108, 97, 119]⟩ 1121), (.str ⟨#[47, 99, 108, 97, 105, 109, 47, 99, 117, 116, 46, 112, 121]⟩ 1122), (.int 108 0), (.int 1 0), (.int 0 0), (.int 0 0), (.int 3 0), (.ref 807), (.bool true), (.int 273 0), (.ref 808), .none, .none, .none, (.ref 809), (.int 1123 0), (.int 108 0), (.str ⟨#[47, 99, 108, 97, 105, 109, 47, 99, 117, 116, 46, 112, 121]⟩ 1124)]), #[]⟩
noncomputable def xF_811 (P : Params) : Obj := ⟨(.type "function"), none, (.func { name := ⟨#[108, 97, 119]⟩, qualname := ⟨#[108, 97, 119]⟩, params := fp1 (fdOf 15), body := .stmts (fp2 (fdOf 15)), scope := fp3 (fdOf 15), globals := 3, closure := [], defaults := .none, kwdefaults := .none, doc := .none, pyModule := (.str ⟨#[108, 97, 119, 95, 105, 109, 48, 49, 50, 54, 95, 48, 49]⟩ 1093), annotations := none, code := (.ref 810), closureTuple := .none, builtins := 0 }), #[]⟩
noncomputable def treeF (P : Params) : BT := (.node (xB_0 P) (.node (xB_1 P) (.node (xF_3 P) (.node (xB_7 P) (.node (xB_15 P) (.node (xB_31 P) (.node (xK_63 P) (.node (xK_127 P) (.node (x1_255 P) (.node (x4_511 P) .nil .nil) (.node (x6_767 P) .nil .nil)) (.node (x2_383 P) (.node (x5_639 P) .nil .nil) .nil)) (.node (xK_191 P) (.node (x1_319 P) (.node (x4_575 P) .nil .nil) .nil) (.node (x3_447 P) (.node (x6_703 P) .nil .nil) .nil))) (.node (xK_95 P) (.node (xK_159 P) (.node (x1_287 P) (.node (x4_543 P) .nil .nil) (.node (xF_799 P) .nil .nil)) (.node (x3_415 P) (.node (x5_671 P) .nil .nil) .nil)) (.node (xK_223 P) (.node (x2_351 P) (.node (x5_607 P) .nil .nil) .nil) (.node (x3_479 P) (.node (x6_735 P) .nil .nil) .nil)))) (.node (xK_47 P) (.node (xK_79 P) (.node (xK_143 P) (.node (x1_271 P) (.node (x4_527 P) .nil .nil) (.node (xM_783 P) .nil .nil)) (.node (x2_399 P) (.node (x5_655 P) .nil .nil) .nil)) (.node (xK_207 P) (.node (x2_335 P) (.node (x4_591 P) .nil .nil) .nil) (.node (x3_463 P) (.node (x6_719 P) .nil .nil) .nil))) (.node (xK_111 P) (.node (xK_175 P) (.node (x1_303 P) (.node (x4_559 P) .nil .nil) .nil) (.node (x3_431 P) (.node (x6_687 P) .nil .nil) .nil)) (.node (x1_239 P) (.node (x2_367 P) (.node (x5_623 P) .nil .nil) .nil) (.node (x3_495 P) (.node (x6_751 P) .nil .nil) .nil))))) (.node (xB_23 P) (.node (xK_39 P) (.node (xK_71 P) (.node (xK_135 P) (.node (x1_263 P) (.node (x4_519 P) .nil .nil) (.node (xM_775 P) .nil .nil)) (.node (x2_391 P) (.node (x5_647 P) .nil .nil) .nil)) (.node (xK_199 P) (.node (x2_327 P) (.node (x4_583 P) .nil .nil) .nil) (.node (x3_455 P) (.node (x6_711 P) .nil .nil) .nil))) (.node (xK_103 P) (.node (xK_167 P) (.node (x1_295 P) (.node (x4_551 P) .nil .nil) (.node (xF_807 P) .nil .nil)) (.node (x3_423 P) (.node (x5_679 P) .nil .nil) .nil)) (.node (xM_231 P) (.node (x2_359 P) (.node (x5_615 P) .nil .nil) .nil) (.node (x3_487 P) (.node (x6_743 P) .nil .nil) .nil)))) (.node (xK_55 P) (.node (xK_87 P) (.node (xK_151 P) (.node (x1_279 P) (.node (x4_535 P) .nil .nil) (.node (xF_791 P) .nil .nil)) (.node (x2_407 P) (.node (x5_663 P) .nil .nil) .nil)) (.node (xK_215 P) (.node (x2_343 P) (.node (x5_599 P) .nil .nil) .nil) (.node (x3_471 P) (.node (x6_727 P) .nil .nil) .nil))) (.node (xK_119 P) (.node (xK_183 P) (.node (x1_311 P) (.node (x4_567 P) .nil .nil) .nil) (.node (x3_439 P) (.node (x6_695 P) .nil .nil) .nil)) (.node (x1_247 P) (.node (x2_375 P) (.node (x5_631 P) .nil .nil) .nil) (.node (x3_503 P) (.node (x6_759 P) .nil .nil) .nil)))))) (.node (xB_11 P) (.node (xB_19 P) (.node (xK_35 P) (.node (xK_67 P) (.node (xK_131 P) (.node (x1_259 P) (.node (x4_515 P) .nil .nil) (.node (x6_771 P) .nil .nil)) (.node (x2_387 P) (.node (x5_643 P) .nil .nil) .nil)) (.node (xK_195 P) (.node (x1_323 P) (.node (x4_579 P) .nil .nil) .nil) (.node (x3_451 P) (.node (x6_707 P) .nil .nil) .nil))) (.node (xK_99 P) (.node (xK_163 P) (.node (x1_291 P) (.node (x4_547 P) .nil .nil) (.node (xF_803 P) .nil .nil)) (.node (x3_419 P) (.node (x5_675 P) .nil .nil) .nil)) (.node (xK_227 P) (.node (x2_355 P) (.node (x5_611 P) .nil .nil) .nil) (.node (x3_483 P) (.node (x6_739 P) .nil .nil) .nil)))) (.node (xK_51 P) (.node (xK_83 P) (.node (xK_147 P) (.node (x1_275 P) (.node (x4_531 P) .nil .nil) (.node (xF_787 P) .nil .nil)) (.node (x2_403 P) (.node (x5_659 P) .nil .nil) .nil)) (.node (xK_211 P) (.node (x2_339 P) (.node (x5_595 P) .nil .nil) .nil) (.node (x3_467 P) (.node (x6_723 P) .nil .nil) .nil))) (.node (xK_115 P) (.node (xK_179 P) (.node (x1_307 P) (.node (x4_563 P) .nil .nil) .nil) (.node (x3_435 P) (.node (x6_691 P) .nil .nil) .nil)) (.node (x1_243 P) (.node (x2_371 P) (.node (x5_627 P) .nil .nil) .nil) (.node (x3_499 P) (.node (x6_755 P) .nil .nil) .nil))))) (.node (xB_27 P) (.node (xK_43 P) (.node (xK_75 P) (.node (xK_139 P) (.node (x1_267 P) (.node (x4_523 P) .nil .nil) (.node (xM_779 P) .nil .nil)) (.node (x2_395 P) (.node (x5_651 P) .nil .nil) .nil)) (.node (xK_203 P) (.node (x2_331 P) (.node (x4_587 P) .nil .nil) .nil) (.node (x3_459 P) (.node (x6_715 P) .nil .nil) .nil))) (.node (xK_107 P) (.node (xK_171 P) (.node (x1_299 P) (.node (x4_555 P) .nil .nil) (.node (xF_811 P) .nil .nil)) (.node (x3_427 P) (.node (x5_683 P) .nil .nil) .nil)) (.node (x1_235 P) (.node (x2_363 P) (.node (x5_619 P) .nil .nil) .nil) (.node (x3_491 P) (.node (x6_747 P) .nil .nil) .nil)))) (.node (xK_59 P) (.node (xK_91 P) (.node (xK_155 P) (.node (x1_283 P) (.node (x4_539 P) .nil .nil) (.node (xF_795 P) .nil .nil)) (.node (x2_411 P) (.node (x5_667 P) .nil .nil) .nil)) (.node (xK_219 P) (.node (x2_347 P) (.node (x5_603 P) .nil .nil) .nil) (.node (x3_475 P) (.node (x6_731 P) .nil .nil) .nil))) (.node (xK_123 P) (.node (xK_187 P) (.node (x1_315 P) (.node (x4_571 P) .nil .nil) .nil) (.node (x3_443 P) (.node (x6_699 P) .nil .nil) .nil)) (.node (x1_251 P) (.node (x2_379 P) (.node (x5_635 P) .nil .nil) .nil) (.node (x4_507 P) (.node (x6_763 P) .nil .nil) .nil))))))) (.node (xB_5 P) (.node (xB_9 P) (.node (xB_17 P) (.node (xK_33 P) (.node (xK_65 P) (.node (xK_129 P) (.node (x1_257 P) (.node (x4_513 P) .nil .nil) (.node (x6_769 P) .nil .nil)) (.node (x2_385 P) (.node (x5_641 P) .nil .nil) .nil)) (.node (xK_193 P) (.node (x1_321 P) (.node (x4_577 P) .nil .nil) .nil) (.node (x3_449 P) (.node (x6_705 P) .nil .nil) .nil))) (.node (xK_97 P) (.node (xK_161 P) (.node (x1_289 P) (.node (x4_545 P) .nil .nil) (.node (xF_801 P) .nil .nil)) (.node (x3_417 P) (.node (x5_673 P) .nil .nil) .nil)) (.node (xK_225 P) (.node (x2_353 P) (.node (x5_609 P) .nil .nil) .nil) (.node (x3_481 P) (.node (x6_737 P) .nil .nil) .nil)))) (.node (xK_49 P) (.node (xK_81 P) (.node (xK_145 P) (.node (x1_273 P) (.node (x4_529 P) .nil .nil) (.node (xM_785 P) .nil .nil)) (.node (x2_401 P) (.node (x5_657 P) .nil .nil) .nil)) (.node (xK_209 P) (.node (x2_337 P) (.node (x4_593 P) .nil .nil) .nil) (.node (x3_465 P) (.node (x6_721 P) .nil .nil) .nil))) (.node (xK_113 P) (.node (xK_177 P) (.node (x2_305 P) (.node (x4_561 P) .nil .nil) .nil) (.node (x3_433 P) (.node (x6_689 P) .nil .nil) .nil)) (.node (x1_241 P) (.node (x2_369 P) (.node (x5_625 P) .nil .nil) .nil) (.node (x3_497 P) (.node (x6_753 P) .nil .nil) .nil))))) (.node (xB_25 P) (.node (xK_41 P) (.node (xK_73 P) (.node (xK_137 P) (.node (x1_265 P) (.node (x4_521 P) .nil .nil) (.node (xM_777 P) .nil .nil)) (.node (x2_393 P) (.node (x5_649 P) .nil .nil) .nil)) (.node (xK_201 P) (.node (x2_329 P) (.node (x4_585 P) .nil .nil) .nil) (.node (x3_457 P) (.node (x6_713 P) .nil .nil) .nil))) (.node (xK_105 P) (.node (xK_169 P) (.node (x1_297 P) (.node (x4_553 P) .nil .nil) (.node (xF_809 P) .nil .nil)) (.node (x3_425 P) (.node (x5_681 P) .nil .nil) .nil)) (.node (xM_233 P) (.node (x2_361 P) (.node (x5_617 P) .nil .nil) .nil) (.node (x3_489 P) (.node (x6_745 P) .nil .nil) .nil)))) (.node (xK_57 P) (.node (xK_89 P) (.node (xK_153 P) (.node (x1_281 P) (.node (x4_537 P) .nil .nil) (.node (xF_793 P) .nil .nil)) (.node (x2_409 P) (.node (x5_665 P) .nil .nil) .nil)) (.node (xK_217 P) (.node (x2_345 P) (.node (x5_601 P) .nil .nil) .nil) (.node (x3_473 P) (.node (x6_729 P) .nil .nil) .nil))) (.node (xK_121 P) (.node (xK_185 P) (.node (x1_313 P) (.node (x4_569 P) .nil .nil) .nil) (.node (x3_441 P) (.node (x6_697 P) .nil .nil) .nil)) (.node (x1_249 P) (.node (x2_377 P) (.node (x5_633 P) .nil .nil) .nil) (.node (x4_505 P) (.node (x6_761 P) .nil .nil) .nil)))))) (.node (xB_13 P) (.node (xB_21 P) (.node (xK_37 P) (.node (xK_69 P) (.node (xK_133 P) (.node (x1_261 P) (.node (x4_517 P) .nil .nil) (.node (x6_773 P) .nil .nil)) (.node (x2_389 P) (.node (x5_645 P) .nil .nil) .nil)) (.node (xK_197 P) (.node (x2_325 P) (.node (x4_581 P) .nil .nil) .nil) (.node (x3_453 P) (.node (x6_709 P) .nil .nil) .nil))) (.node (xK_101 P) (.node (xK_165 P) (.node (x1_293 P) (.node (x4_549 P) .nil .nil) (.node (xF_805 P) .nil .nil)) (.node (x3_421 P) (.node (x5_677 P) .nil .nil) .nil)) (.node (xK_229 P) (.node (x2_357 P) (.node (x5_613 P) .nil .nil) .nil) (.node (x3_485 P) (.node (x6_741 P) .nil .nil) .nil)))) (.node (xK_53 P) (.node (xK_85 P) (.node (xK_149 P) (.node (x1_277 P) (.node (x4_533 P) .nil .nil) (.node (xF_789 P) .nil .nil)) (.node (x2_405 P) (.node (x5_661 P) .nil .nil) .nil)) (.node (xK_213 P) (.node (x2_341 P) (.node (x5_597 P) .nil .nil) .nil) (.node (x3_469 P) (.node (x6_725 P) .nil .nil) .nil))) (.node (xK_117 P) (.node (xK_181 P) (.node (x1_309 P) (.node (x4_565 P) .nil .nil) .nil) (.node (x3_437 P) (.node (x6_693 P) .nil .nil) .nil)) (.node (x1_245 P) (.node (x2_373 P) (.node (x5_629 P) .nil .nil) .nil) (.node (x3_501 P) (.node (x6_757 P) .nil .nil) .nil))))) (.node (xB_29 P) (.node (xK_45 P) (.node (xK_77 P) (.node (xK_141 P) (.node (x1_269 P) (.node (x4_525 P) .nil .nil) (.node (xM_781 P) .nil .nil)) (.node (x2_397 P) (.node (x5_653 P) .nil .nil) .nil)) (.node (xK_205 P) (.node (x2_333 P) (.node (x4_589 P) .nil .nil) .nil) (.node (x3_461 P) (.node (x6_717 P) .nil .nil) .nil))) (.node (xK_109 P) (.node (xK_173 P) (.node (x1_301 P) (.node (x4_557 P) .nil .nil) .nil) (.node (x3_429 P) (.node (x6_685 P) .nil .nil) .nil)) (.node (x1_237 P) (.node (x2_365 P) (.node (x5_621 P) .nil .nil) .nil) (.node (x3_493 P) (.node (x6_749 P) .nil .nil) .nil)))) (.node (xK_61 P) (.node (xK_93 P) (.node (xK_157 P) (.node (x1_285 P) (.node (x4_541 P) .nil .nil) (.node (xF_797 P) .nil .nil)) (.node (x2_413 P) (.node (x5_669 P) .nil .nil) .nil)) (.node (xK_221 P) (.node (x2_349 P) (.node (x5_605 P) .nil .nil) .nil) (.node (x3_477 P) (.node (x6_733 P) .nil .nil) .nil))) (.node (xK_125 P) (.node (xK_189 P) (.node (x1_317 P) (.node (x4_573 P) .nil .nil) .nil) (.node (x3_445 P) (.node (x6_701 P) .nil .nil) .nil)) (.node (x1_253 P) (.node (x2_381 P) (.node (x5_637 P) .nil .nil) .nil) (.node (x4_509 P) (.node (x6_765 P) .nil .nil) .nil)))))))) (.node (xK_2 P) (.node (xB_4 P) (.node (xB_8 P) (.node (xB_16 P) (.node (xB_32 P) (.node (xK_64 P) (.node (xK_128 P) (.node (x1_256 P) (.node (x4_512 P) .nil .nil) (.node (x6_768 P) .nil .nil)) (.node (x2_384 P) (.node (x5_640 P) .nil .nil) .nil)) (.node (xK_192 P) (.node (x1_320 P) (.node (x4_576 P) .nil .nil) .nil) (.node (x3_448 P) (.node (x6_704 P) .nil .nil) .nil))) (.node (xK_96 P) (.node (xK_160 P) (.node (x1_288 P) (.node (x4_544 P) .nil .nil) (.node (xF_800 P) .nil .nil)) (.node (x3_416 P) (.node (x5_672 P) .nil .nil) .nil)) (.node (xK_224 P) (.node (x2_352 P) (.node (x5_608 P) .nil .nil) .nil) (.node (x3_480 P) (.node (x6_736 P) .nil .nil) .nil)))) (.node (xK_48 P) (.node (xK_80 P) (.node (xK_144 P) (.node (x1_272 P) (.node (x4_528 P) .nil .nil) (.node (xM_784 P) .nil .nil)) (.node (x2_400 P) (.node (x5_656 P) .nil .nil) .nil)) (.node (xK_208 P) (.node (x2_336 P) (.node (x4_592 P) .nil .nil) .nil) (.node (x3_464 P) (.node (x6_720 P) .nil .nil) .nil))) (.node (xK_112 P) (.node (xK_176 P) (.node (x1_304 P) (.node (x4_560 P) .nil .nil) .nil) (.node (x3_432 P) (.node (x6_688 P) .nil .nil) .nil)) (.node (x1_240 P) (.node (x2_368 P) (.node (x5_624 P) .nil .nil) .nil) (.node (x3_496 P) (.node (x6_752 P) .nil .nil) .nil))))) (.node (xB_24 P) (.node (xK_40 P) (.node (xK_72 P) (.node (xK_136 P) (.node (x1_264 P) (.node (x4_520 P) .nil .nil) (.node (xM_776 P) .nil .nil)) (.node (x2_392 P) (.node (x5_648 P) .nil .nil) .nil)) (.node (xK_200 P) (.node (x2_328 P) (.node (x4_584 P) .nil .nil) .nil) (.node (x3_456 P) (.node (x6_712 P) .nil .nil) .nil))) (.node (xK_104 P) (.node (xK_168 P) (.node (x1_296 P) (.node (x4_552 P) .nil .nil) (.node (xF_808 P) .nil .nil)) (.node (x3_424 P) (.node (x5_680 P) .nil .nil) .nil)) (.node (xM_232 P) (.node (x2_360 P) (.node (x5_616 P) .nil .nil) .nil) (.node (x3_488 P) (.node (x6_744 P) .nil .nil) .nil)))) (.node (xK_56 P) (.node (xK_88 P) (.node (xK_152 P) (.node (x1_280 P) (.node (x4_536 P) .nil .nil) (.node (xF_792 P) .nil .nil)) (.node (x2_408 P) (.node (x5_664 P) .nil .nil) .nil)) (.node (xK_216 P) (.node (x2_344 P) (.node (x5_600 P) .nil .nil) .nil) (.node (x3_472 P) (.node (x6_728 P) .nil .nil) .nil))) (.node (xK_120 P) (.node (xK_184 P) (.node (x1_312 P) (.node (x4_568 P) .nil .nil) .nil) (.node (x3_440 P) (.node (x6_696 P) .nil .nil) .nil)) (.node (x1_248 P) (.node (x2_376 P) (.node (x5_632 P) .nil .nil) .nil) (.node (x3_504 P) (.node (x6_760 P) .nil .nil) .nil)))))) (.node (xB_12 P) (.node (xB_20 P) (.node (xK_36 P) (.node (xK_68 P) (.node (xK_132 P) (.node (x1_260 P) (.node (x4_516 P) .nil .nil) (.node (x6_772 P) .nil .nil)) (.node (x2_388 P) (.node (x5_644 P) .nil .nil) .nil)) (.node (xK_196 P) (.node (x1_324 P) (.node (x4_580 P) .nil .nil) .nil) (.node (x3_452 P) (.node (x6_708 P) .nil .nil) .nil))) (.node (xK_100 P) (.node (xK_164 P) (.node (x1_292 P) (.node (x4_548 P) .nil .nil) (.node (xF_804 P) .nil .nil)) (.node (x3_420 P) (.node (x5_676 P) .nil .nil) .nil)) (.node (xK_228 P) (.node (x2_356 P) (.node (x5_612 P) .nil .nil) .nil) (.node (x3_484 P) (.node (x6_740 P) .nil .nil) .nil)))) (.node (xK_52 P) (.node (xK_84 P) (.node (xK_148 P) (.node (x1_276 P) (.node (x4_532 P) .nil .nil) (.node (xF_788 P) .nil .nil)) (.node (x2_404 P) (.node (x5_660 P) .nil .nil) .nil)) (.node (xK_212 P) (.node (x2_340 P) (.node (x5_596 P) .nil .nil) .nil) (.node (x3_468 P) (.node (x6_724 P) .nil .nil) .nil))) (.node (xK_116 P) (.node (xK_180 P) (.node (x1_308 P) (.node (x4_564 P) .nil .nil) .nil) (.node (x3_436 P) (.node (x6_692 P) .nil .nil) .nil)) (.node (x1_244 P) (.node (x2_372 P) (.node (x5_628 P) .nil .nil) .nil) (.node (x3_500 P) (.node (x6_756 P) .nil .nil) .nil))))) (.node (xB_28 P) (.node (xK_44 P) (.node (xK_76 P) (.node (xK_140 P) (.node (x1_268 P) (.node (x4_524 P) .nil .nil) (.node (xM_780 P) .nil .nil)) (.node (x2_396 P) (.node (x5_652 P) .nil .nil) .nil)) (.node (xK_204 P) (.node (x2_332 P) (.node (x4_588 P) .nil .nil) .nil) (.node (x3_460 P) (.node (x6_716 P) .nil .nil) .nil))) (.node (xK_108 P) (.node (xK_172 P) (.node (x1_300 P) (.node (x4_556 P) .nil .nil) .nil) (.node (x3_428 P) (.node (x5_684 P) .nil .nil) .nil)) (.node (x1_236 P) (.node (x2_364 P) (.node (x5_620 P) .nil .nil) .nil) (.node (x3_492 P) (.node (x6_748 P) .nil .nil) .nil)))) (.node (xK_60 P) (.node (xK_92 P) (.node (xK_156 P) (.node (x1_284 P) (.node (x4_540 P) .nil .nil) (.node (xF_796 P) .nil .nil)) (.node (x2_412 P) (.node (x5_668 P) .nil .nil) .nil)) (.node (xK_220 P) (.node (x2_348 P) (.node (x5_604 P) .nil .nil) .nil) (.node (x3_476 P) (.node (x6_732 P) .nil .nil) .nil))) (.node (xK_124 P) (.node (xK_188 P) (.node (x1_316 P) (.node (x4_572 P) .nil .nil) .nil) (.node (x3_444 P) (.node (x6_700 P) .nil .nil) .nil)) (.node (x1_252 P) (.node (x2_380 P) (.node (x5_636 P) .nil .nil) .nil) (.node (x4_508 P) (.node (x6_764 P) .nil .nil) .nil))))))) (.node (xB_6 P) (.node (xB_10 P) (.node (xB_18 P) (.node (xK_34 P) (.node (xK_66 P) (.node (xK_130 P) (.node (x1_258 P) (.node (x4_514 P) .nil .nil) (.node (x6_770 P) .nil .nil)) (.node (x2_386 P) (.node (x5_642 P) .nil .nil) .nil)) (.node (xK_194 P) (.node (x1_322 P) (.node (x4_578 P) .nil .nil) .nil) (.node (x3_450 P) (.node (x6_706 P) .nil .nil) .nil))) (.node (xK_98 P) (.node (xK_162 P) (.node (x1_290 P) (.node (x4_546 P) .nil .nil) (.node (xF_802 P) .nil .nil)) (.node (x3_418 P) (.node (x5_674 P) .nil .nil) .nil)) (.node (xK_226 P) (.node (x2_354 P) (.node (x5_610 P) .nil .nil) .nil) (.node (x3_482 P) (.node (x6_738 P) .nil .nil) .nil)))) (.node (xK_50 P) (.node (xK_82 P) (.node (xK_146 P) (.node (x1_274 P) (.node (x4_530 P) .nil .nil) (.node (xF_786 P) .nil .nil)) (.node (x2_402 P) (.node (x5_658 P) .nil .nil) .nil)) (.node (xK_210 P) (.node (x2_338 P) (.node (x4_594 P) .nil .nil) .nil) (.node (x3_466 P) (.node (x6_722 P) .nil .nil) .nil))) (.node (xK_114 P) (.node (xK_178 P) (.node (x1_306 P) (.node (x4_562 P) .nil .nil) .nil) (.node (x3_434 P) (.node (x6_690 P) .nil .nil) .nil)) (.node (x1_242 P) (.node (x2_370 P) (.node (x5_626 P) .nil .nil) .nil) (.node (x3_498 P) (.node (x6_754 P) .nil .nil) .nil))))) (.node (xB_26 P) (.node (xK_42 P) (.node (xK_74 P) (.node (xK_138 P) (.node (x1_266 P) (.node (x4_522 P) .nil .nil) (.node (xM_778 P) .nil .nil)) (.node (x2_394 P) (.node (x5_650 P) .nil .nil) .nil)) (.node (xK_202 P) (.node (x2_330 P) (.node (x4_586 P) .nil .nil) .nil) (.node (x3_458 P) (.node (x6_714 P) .nil .nil) .nil))) (.node (xK_106 P) (.node (xK_170 P) (.node (x1_298 P) (.node (x4_554 P) .nil .nil) (.node (xF_810 P) .nil .nil)) (.node (x3_426 P) (.node (x5_682 P) .nil .nil) .nil)) (.node (xM_234 P) (.node (x2_362 P) (.node (x5_618 P) .nil .nil) .nil) (.node (x3_490 P) (.node (x6_746 P) .nil .nil) .nil)))) (.node (xK_58 P) (.node (xK_90 P) (.node (xK_154 P) (.node (x1_282 P) (.node (x4_538 P) .nil .nil) (.node (xF_794 P) .nil .nil)) (.node (x2_410 P) (.node (x5_666 P) .nil .nil) .nil)) (.node (xM_218 P) (.node (x2_346 P) (.node (x5_602 P) .nil .nil) .nil) (.node (x3_474 P) (.node (x6_730 P) .nil .nil) .nil))) (.node (xK_122 P) (.node (xK_186 P) (.node (x1_314 P) (.node (x4_570 P) .nil .nil) .nil) (.node (x3_442 P) (.node (x6_698 P) .nil .nil) .nil)) (.node (x1_250 P) (.node (x2_378 P) (.node (x5_634 P) .nil .nil) .nil) (.node (x4_506 P) (.node (x6_762 P) .nil .nil) .nil)))))) (.node (xB_14 P) (.node (xB_22 P) (.node (xK_38 P) (.node (xK_70 P) (.node (xK_134 P) (.node (x1_262 P) (.node (x4_518 P) .nil .nil) (.node (x6_774 P) .nil .nil)) (.node (x2_390 P) (.node (x5_646 P) .nil .nil) .nil)) (.node (xK_198 P) (.node (x2_326 P) (.node (x4_582 P) .nil .nil) .nil) (.node (x3_454 P) (.node (x6_710 P) .nil .nil) .nil))) (.node (xK_102 P) (.node (xK_166 P) (.node (x1_294 P) (.node (x4_550 P) .nil .nil) (.node (xF_806 P) .nil .nil)) (.node (x3_422 P) (.node (x5_678 P) .nil .nil) .nil)) (.node (xK_230 P) (.node (x2_358 P) (.node (x5_614 P) .nil .nil) .nil) (.node (x3_486 P) (.node (x6_742 P) .nil .nil) .nil)))) (.node (xK_54 P) (.node (xK_86 P) (.node (xK_150 P) (.node (x1_278 P) (.node (x4_534 P) .nil .nil) (.node (xF_790 P) .nil .nil)) (.node (x2_406 P) (.node (x5_662 P) .nil .nil) .nil)) (.node (xK_214 P) (.node (x2_342 P) (.node (x5_598 P) .nil .nil) .nil) (.node (x3_470 P) (.node (x6_726 P) .nil .nil) .nil))) (.node (xK_118 P) (.node (xK_182 P) (.node (x1_310 P) (.node (x4_566 P) .nil .nil) .nil) (.node (x3_438 P) (.node (x6_694 P) .nil .nil) .nil)) (.node (x1_246 P) (.node (x2_374 P) (.node (x5_630 P) .nil .nil) .nil) (.node (x3_502 P) (.node (x6_758 P) .nil .nil) .nil))))) (.node (xF_30 P) (.node (xK_46 P) (.node (xK_78 P) (.node (xK_142 P) (.node (x1_270 P) (.node (x4_526 P) .nil .nil) (.node (xM_782 P) .nil .nil)) (.node (x2_398 P) (.node (x5_654 P) .nil .nil) .nil)) (.node (xK_206 P) (.node (x2_334 P) (.node (x4_590 P) .nil .nil) .nil) (.node (x3_462 P) (.node (x6_718 P) .nil .nil) .nil))) (.node (xK_110 P) (.node (xK_174 P) (.node (x1_302 P) (.node (x4_558 P) .nil .nil) .nil) (.node (x3_430 P) (.node (x6_686 P) .nil .nil) .nil)) (.node (x1_238 P) (.node (x2_366 P) (.node (x5_622 P) .nil .nil) .nil) (.node (x3_494 P) (.node (x6_750 P) .nil .nil) .nil)))) (.node (xK_62 P) (.node (xK_94 P) (.node (xK_158 P) (.node (x1_286 P) (.node (x4_542 P) .nil .nil) (.node (xF_798 P) .nil .nil)) (.node (x2_414 P) (.node (x5_670 P) .nil .nil) .nil)) (.node (xK_222 P) (.node (x2_350 P) (.node (x5_606 P) .nil .nil) .nil) (.node (x3_478 P) (.node (x6_734 P) .nil .nil) .nil))) (.node (xK_126 P) (.node (xK_190 P) (.node (x1_318 P) (.node (x4_574 P) .nil .nil) .nil) (.node (x3_446 P) (.node (x6_702 P) .nil .nil) .nil)) (.node (x1_254 P) (.node (x2_382 P) (.node (x5_638 P) .nil .nil) .nil) (.node (x4_510 P) (.node (x6_766 P) .nil .nil) .nil)))))))))
noncomputable def objsF (P : Params) : List Obj := [xB_0 P, xB_1 P, xK_2 P, xF_3 P, xB_4 P, xB_5 P, xB_6 P, xB_7 P, xB_8 P, xB_9 P, xB_10 P, xB_11 P, xB_12 P, xB_13 P, xB_14 P, xB_15 P, xB_16 P, xB_17 P, xB_18 P, xB_19 P, xB_20 P, xB_21 P, xB_22 P, xB_23 P, xB_24 P, xB_25 P, xB_26 P, xB_27 P, xB_28 P, xB_29 P, xF_30 P, xB_31 P, xB_32 P, xK_33 P, xK_34 P, xK_35 P, xK_36 P, xK_37 P, xK_38 P, xK_39 P, xK_40 P, xK_41 P, xK_42 P, xK_43 P, xK_44 P, xK_45 P, xK_46 P, xK_47 P, xK_48 P, xK_49 P, xK_50 P, xK_51 P, xK_52 P, xK_53 P, xK_54 P, xK_55 P, xK_56 P, xK_57 P, xK_58 P, xK_59 P, xK_60 P, xK_61 P, xK_62 P, xK_63 P, xK_64 P, xK_65 P, xK_66 P, xK_67 P, xK_68 P, xK_69 P, xK_70 P, xK_71 P, xK_72 P, xK_73 P, xK_74 P, xK_75 P, xK_76 P, xK_77 P, xK_78 P, xK_79 P, xK_80 P, xK_81 P, xK_82 P, xK_83 P, xK_84 P, xK_85 P, xK_86 P, xK_87 P, xK_88 P, xK_89 P, xK_90 P, xK_91 P, xK_92 P, xK_93 P, xK_94 P, xK_95 P, xK_96 P, xK_97 P, xK_98 P, xK_99 P, xK_100 P, xK_101 P, xK_102 P, xK_103 P, xK_104 P, xK_105 P, xK_106 P, xK_107 P, xK_108 P, xK_109 P, xK_110 P, xK_111 P, xK_112 P, xK_113 P, xK_114 P, xK_115 P, xK_116 P, xK_117 P, xK_118 P, xK_119 P, xK_120 P, xK_121 P, xK_122 P, xK_123 P, xK_124 P, xK_125 P, xK_126 P, xK_127 P, xK_128 P, xK_129 P, xK_130 P, xK_131 P, xK_132 P, xK_133 P, xK_134 P, xK_135 P, xK_136 P, xK_137 P, xK_138 P, xK_139 P, xK_140 P, xK_141 P, xK_142 P, xK_143 P, xK_144 P, xK_145 P, xK_146 P, xK_147 P, xK_148 P, xK_149 P, xK_150 P, xK_151 P, xK_152 P, xK_153 P, xK_154 P, xK_155 P, xK_156 P, xK_157 P, xK_158 P, xK_159 P, xK_160 P, xK_161 P, xK_162 P, xK_163 P, xK_164 P, xK_165 P, xK_166 P, xK_167 P, xK_168 P, xK_169 P, xK_170 P, xK_171 P, xK_172 P, xK_173 P, xK_174 P, xK_175 P, xK_176 P, xK_177 P, xK_178 P, xK_179 P, xK_180 P, xK_181 P, xK_182 P, xK_183 P, xK_184 P, xK_185 P, xK_186 P, xK_187 P, xK_188 P, xK_189 P, xK_190 P, xK_191 P, xK_192 P, xK_193 P, xK_194 P, xK_195 P, xK_196 P, xK_197 P, xK_198 P, xK_199 P, xK_200 P, xK_201 P, xK_202 P, xK_203 P, xK_204 P, xK_205 P, xK_206 P, xK_207 P, xK_208 P, xK_209 P, xK_210 P, xK_211 P, xK_212 P, xK_213 P, xK_214 P, xK_215 P, xK_216 P, xK_217 P, xM_218 P, xK_219 P, xK_220 P, xK_221 P, xK_222 P, xK_223 P, xK_224 P, xK_225 P, xK_226 P, xK_227 P, xK_228 P, xK_229 P, xK_230 P, xM_231 P, xM_232 P, xM_233 P, xM_234 P, x1_235 P, x1_236 P, x1_237 P, x1_238 P, x1_239 P, x1_240 P, x1_241 P, x1_242 P, x1_243 P, x1_244 P, x1_245 P, x1_246 P, x1_247 P, x1_248 P, x1_249 P, x1_250 P, x1_251 P, x1_252 P, x1_253 P, x1_254 P, x1_255 P, x1_256 P, x1_257 P, x1_258 P, x1_259 P, x1_260 P, x1_261 P, x1_262 P, x1_263 P, x1_264 P, x1_265 P, x1_266 P, x1_267 P, x1_268 P, x1_269 P, x1_270 P, x1_271 P, x1_272 P, x1_273 P, x1_274 P, x1_275 P, x1_276 P, x1_277 P, x1_278 P, x1_279 P, x1_280 P, x1_281 P, x1_282 P, x1_283 P, x1_284 P, x1_285 P, x1_286 P, x1_287 P, x1_288 P, x1_289 P, x1_290 P, x1_291 P, x1_292 P, x1_293 P, x1_294 P, x1_295 P, x1_296 P, x1_297 P, x1_298 P, x1_299 P, x1_300 P, x1_301 P, x1_302 P, x1_303 P, x1_304 P, x2_305 P, x1_306 P, x1_307 P, x1_308 P, x1_309 P, x1_310 P, x1_311 P, x1_312 P, x1_313 P, x1_314 P, x1_315 P, x1_316 P, x1_317 P, x1_318 P, x1_319 P, x1_320 P, x1_321 P, x1_322 P, x1_323 P, x1_324 P, x2_325 P, x2_326 P, x2_327 P, x2_328 P, x2_329 P, x2_330 P, x2_331 P, x2_332 P, x2_333 P, x2_334 P, x2_335 P, x2_336 P, x2_337 P, x2_338 P, x2_339 P, x2_340 P, x2_341 P, x2_342 P, x2_343 P, x2_344 P, x2_345 P, x2_346 P, x2_347 P, x2_348 P, x2_349 P, x2_350 P, x2_351 P, x2_352 P, x2_353 P, x2_354 P, x2_355 P, x2_356 P, x2_357 P, x2_358 P, x2_359 P, x2_360 P, x2_361 P, x2_362 P, x2_363 P, x2_364 P, x2_365 P, x2_366 P, x2_367 P, x2_368 P, x2_369 P, x2_370 P, x2_371 P, x2_372 P, x2_373 P, x2_374 P, x2_375 P, x2_376 P, x2_377 P, x2_378 P, x2_379 P, x2_380 P, x2_381 P, x2_382 P, x2_383 P, x2_384 P, x2_385 P, x2_386 P, x2_387 P, x2_388 P, x2_389 P, x2_390 P, x2_391 P, x2_392 P, x2_393 P, x2_394 P, x2_395 P, x2_396 P, x2_397 P, x2_398 P, x2_399 P, x2_400 P, x2_401 P, x2_402 P, x2_403 P, x2_404 P, x2_405 P, x2_406 P, x2_407 P, x2_408 P, x2_409 P, x2_410 P, x2_411 P, x2_412 P, x2_413 P, x2_414 P, x3_415 P, x3_416 P, x3_417 P, x3_418 P, x3_419 P, x3_420 P, x3_421 P, x3_422 P, x3_423 P, x3_424 P, x3_425 P, x3_426 P, x3_427 P, x3_428 P, x3_429 P, x3_430 P, x3_431 P, x3_432 P, x3_433 P, x3_434 P, x3_435 P, x3_436 P, x3_437 P, x3_438 P, x3_439 P, x3_440 P, x3_441 P, x3_442 P, x3_443 P, x3_444 P, x3_445 P, x3_446 P, x3_447 P, x3_448 P, x3_449 P, x3_450 P, x3_451 P, x3_452 P, x3_453 P, x3_454 P, x3_455 P, x3_456 P, x3_457 P, x3_458 P, x3_459 P, x3_460 P, x3_461 P, x3_462 P, x3_463 P, x3_464 P, x3_465 P, x3_466 P, x3_467 P, x3_468 P, x3_469 P, x3_470 P, x3_471 P, x3_472 P, x3_473 P, x3_474 P, x3_475 P, x3_476 P, x3_477 P, x3_478 P, x3_479 P, x3_480 P, x3_481 P, x3_482 P, x3_483 P, x3_484 P, x3_485 P, x3_486 P, x3_487 P, x3_488 P, x3_489 P, x3_490 P, x3_491 P, x3_492 P, x3_493 P, x3_494 P, x3_495 P, x3_496 P, x3_497 P, x3_498 P, x3_499 P, x3_500 P, x3_501 P, x3_502 P, x3_503 P, x3_504 P, x4_505 P, x4_506 P, x4_507 P, x4_508 P, x4_509 P, x4_510 P, x4_511 P, x4_512 P, x4_513 P, x4_514 P, x4_515 P, x4_516 P, x4_517 P, x4_518 P, x4_519 P, x4_520 P, x4_521 P, x4_522 P, x4_523 P, x4_524 P, x4_525 P, x4_526 P, x4_527 P, x4_528 P, x4_529 P, x4_530 P, x4_531 P, x4_532 P, x4_533 P, x4_534 P, x4_535 P, x4_536 P, x4_537 P, x4_538 P, x4_539 P, x4_540 P, x4_541 P, x4_542 P, x4_543 P, x4_544 P, x4_545 P, x4_546 P, x4_547 P, x4_548 P, x4_549 P, x4_550 P, x4_551 P, x4_552 P, x4_553 P, x4_554 P, x4_555 P, x4_556 P, x4_557 P, x4_558 P, x4_559 P, x4_560 P, x4_561 P, x4_562 P, x4_563 P, x4_564 P, x4_565 P, x4_566 P, x4_567 P, x4_568 P, x4_569 P, x4_570 P, x4_571 P, x4_572 P, x4_573 P, x4_574 P, x4_575 P, x4_576 P, x4_577 P, x4_578 P, x4_579 P, x4_580 P, x4_581 P, x4_582 P, x4_583 P, x4_584 P, x4_585 P, x4_586 P, x4_587 P, x4_588 P, x4_589 P, x4_590 P, x4_591 P, x4_592 P, x4_593 P, x4_594 P, x5_595 P, x5_596 P, x5_597 P, x5_598 P, x5_599 P, x5_600 P, x5_601 P, x5_602 P, x5_603 P, x5_604 P, x5_605 P, x5_606 P, x5_607 P, x5_608 P, x5_609 P, x5_610 P, x5_611 P, x5_612 P, x5_613 P, x5_614 P, x5_615 P, x5_616 P, x5_617 P, x5_618 P, x5_619 P, x5_620 P, x5_621 P, x5_622 P, x5_623 P, x5_624 P, x5_625 P, x5_626 P, x5_627 P, x5_628 P, x5_629 P, x5_630 P, x5_631 P, x5_632 P, x5_633 P, x5_634 P, x5_635 P, x5_636 P, x5_637 P, x5_638 P, x5_639 P, x5_640 P, x5_641 P, x5_642 P, x5_643 P, x5_644 P, x5_645 P, x5_646 P, x5_647 P, x5_648 P, x5_649 P, x5_650 P, x5_651 P, x5_652 P, x5_653 P, x5_654 P, x5_655 P, x5_656 P, x5_657 P, x5_658 P, x5_659 P, x5_660 P, x5_661 P, x5_662 P, x5_663 P, x5_664 P, x5_665 P, x5_666 P, x5_667 P, x5_668 P, x5_669 P, x5_670 P, x5_671 P, x5_672 P, x5_673 P, x5_674 P, x5_675 P, x5_676 P, x5_677 P, x5_678 P, x5_679 P, x5_680 P, x5_681 P, x5_682 P, x5_683 P, x5_684 P, x6_685 P, x6_686 P, x6_687 P, x6_688 P, x6_689 P, x6_690 P, x6_691 P, x6_692 P, x6_693 P, x6_694 P, x6_695 P, x6_696 P, x6_697 P, x6_698 P, x6_699 P, x6_700 P, x6_701 P, x6_702 P, x6_703 P, x6_704 P, x6_705 P, x6_706 P, x6_707 P, x6_708 P, x6_709 P, x6_710 P, x6_711 P, x6_712 P, x6_713 P, x6_714 P, x6_715 P, x6_716 P, x6_717 P, x6_718 P, x6_719 P, x6_720 P, x6_721 P, x6_722 P, x6_723 P, x6_724 P, x6_725 P, x6_726 P, x6_727 P, x6_728 P, x6_729 P, x6_730 P, x6_731 P, x6_732 P, x6_733 P, x6_734 P, x6_735 P, x6_736 P, x6_737 P, x6_738 P, x6_739 P, x6_740 P, x6_741 P, x6_742 P, x6_743 P, x6_744 P, x6_745 P, x6_746 P, x6_747 P, x6_748 P, x6_749 P, x6_750 P, x6_751 P, x6_752 P, x6_753 P, x6_754 P, x6_755 P, x6_756 P, x6_757 P, x6_758 P, x6_759 P, x6_760 P, x6_761 P, x6_762 P, x6_763 P, x6_764 P, x6_765 P, x6_766 P, x6_767 P, x6_768 P, x6_769 P, x6_770 P, x6_771 P, x6_772 P, x6_773 P, x6_774 P, xM_775 P, xM_776 P, xM_777 P, xM_778 P, xM_779 P, xM_780 P, xM_781 P, xM_782 P, xM_783 P, xM_784 P, xM_785 P, xF_786 P, xF_787 P, xF_788 P, xF_789 P, xF_790 P, xF_791 P, xF_792 P, xF_793 P, xF_794 P, xF_795 P, xF_796 P, xF_797 P, xF_798 P, xF_799 P, xF_800 P, xF_801 P, xF_802 P, xF_803 P, xF_804 P, xF_805 P, xF_806 P, xF_807 P, xF_808 P, xF_809 P, xF_810 P, xF_811 P]
noncomputable def objs0 (P : Params) : List Obj := [xB_0 P, xB_1 P, xB_2 P, xB_3 P, xB_4 P, xB_5 P, xB_6 P, xB_7 P, xB_8 P, xB_9 P, xB_10 P, xB_11 P, xB_12 P, xB_13 P, xB_14 P, xB_15 P, xB_16 P, xB_17 P, xB_18 P, xB_19 P, xB_20 P, xB_21 P, xB_22 P, xB_23 P, xB_24 P, xB_25 P, xB_26 P, xB_27 P, xB_28 P]
noncomputable def e12 (P : Params) : Obj := ⟨(.type "dict"), none, (.dict #[⟨PyData.keyHash P ⟨#[95, 95, 110, 97, 109, 101, 95, 95]⟩, (.str ⟨#[95, 95, 110, 97, 109, 101, 95, 95]⟩ 250), (.str ⟨#[95, 99, 111, 108, 108, 101, 99, 116, 105, 111, 110, 115]⟩ 249)⟩, ⟨PyData.keyHash P ⟨#[95, 95, 100, 111, 99, 95, 95]⟩, (.str ⟨#[95, 95, 100, 111, 99, 95, 95]⟩ 251), (.builtin "_collections.__doc__:str#opaque")⟩, ⟨PyData.keyHash P ⟨#[95, 95, 112, 97, 99, 107, 97, 103, 101, 95, 95]⟩, (.str ⟨#[95, 95, 112, 97, 99, 107, 97, 103, 101, 95, 95]⟩ 253), (.str ⟨#[]⟩ 252)⟩, ⟨PyData.keyHash P ⟨#[95, 95, 108, 111, 97, 100, 101, 114, 95, 95]⟩, (.str ⟨#[95, 95, 108, 111, 97, 100, 101, 114, 95, 95]⟩ 254), (.ref 15)⟩, ⟨PyData.keyHash P ⟨#[95, 95, 115, 112, 101, 99, 95, 95]⟩, (.str ⟨#[95, 95, 115, 112, 101, 99, 95, 95]⟩ 255), (.ref 27)⟩, ⟨PyData.keyHash P ⟨#[95, 99, 111, 117, 110, 116, 95, 101, 108, 101, 109, 101, 110, 116, 115]⟩, (.str ⟨#[95, 99, 111, 117, 110, 116, 95, 101, 108, 101, 109, 101, 110, 116, 115]⟩ 256), (.builtin "_collections._count_elements")⟩, ⟨PyData.keyHash P ⟨#[100, 101, 113, 117, 101]⟩, (.str ⟨#[100, 101, 113, 117, 101]⟩ 257), (.type "collections.deque")⟩, ⟨PyData.keyHash P ⟨#[100, 101, 102, 97, 117, 108, 116, 100, 105, 99, 116]⟩, (.str ⟨#[100, 101, 102, 97, 117, 108, 116, 100, 105, 99, 116]⟩ 258), (.type "collections.defaultdict")⟩, ⟨PyData.keyHash P ⟨#[95, 100, 101, 113, 117, 101, 95, 105, 116, 101, 114, 97, 116, 111, 114]⟩, (.str ⟨#[95, 100, 101, 113, 117, 101, 95, 105, 116, 101, 114, 97, 116, 111, 114]⟩ 259), (.type "collections._deque_iterator")⟩, ⟨PyData.keyHash P ⟨#[95, 100, 101, 113, 117, 101, 95, 114, 101, 118, 101, 114, 115, 101, 95, 105, 116, 101, 114, 97, 116, 111, 114]⟩, (.str ⟨#[95, 100, 101, 113, 117, 101, 95, 114, 101, 118, 101, 114, 115, 101, 95, 105, 116, 101, 114, 97, 116, 111, 114]⟩ 260), (.type "collections._deque_reverse_iterator")⟩, ⟨PyData.keyHash P ⟨#[95, 116, 117, 112, 108, 101, 103, 101, 116, 116, 101, 114]⟩, (.str ⟨#[95, 116, 117, 112, 108, 101, 103, 101, 116, 116, 101, 114]⟩ 261), (.type "collections._tuplegetter")⟩, ⟨PyData.keyHash P ⟨#[79, 114, 100, 101, 114, 101, 100, 68, 105, 99, 116]⟩, (.str ⟨#[79, 114, 100, 101, 114, 101, 100, 68, 105, 99, 116]⟩ 262), (.type "collections.OrderedDict")⟩] 12), #[]⟩
noncomputable def treeO (P : Params) : BT := (.node (xB_0 P) (.node (xB_1 P) (.node (xB_3 P) (.node (xB_7 P) (.node (xB_15 P) .nil .nil) (.node (xB_23 P) .nil .nil)) (.node (xB_11 P) (.node (xB_19 P) .nil .nil) (.node (xB_27 P) .nil .nil))) (.node (xB_5 P) (.node (xB_9 P) (.node (xB_17 P) .nil .nil) (.node (xB_25 P) .nil .nil)) (.node (xB_13 P) (.node (xB_21 P) .nil .nil) .nil))) (.node (xB_2 P) (.node (xB_4 P) (.node (xB_8 P) (.node (xB_16 P) .nil .nil) (.node (xB_24 P) .nil .nil)) (.node (e12 P) (.node (xB_20 P) .nil .nil) (.node (xB_28 P) .nil .nil))) (.node (xB_6 P) (.node (xB_10 P) (.node (xB_18 P) .nil .nil) (.node (xB_26 P) .nil .nil)) (.node (xB_14 P) (.node (xB_22 P) .nil .nil) .nil))))
noncomputable def objsO (P : Params) : List Obj := [xB_0 P, xB_1 P, xB_2 P, xB_3 P, xB_4 P, xB_5 P, xB_6 P, xB_7 P, xB_8 P, xB_9 P, xB_10 P, xB_11 P, e12 P, xB_13 P, xB_14 P, xB_15 P, xB_16 P, xB_17 P, xB_18 P, xB_19 P, xB_20 P, xB_21 P, xB_22 P, xB_23 P, xB_24 P, xB_25 P, xB_26 P, xB_27 P, xB_28 P]

noncomputable def thr0 (p : Program) (w : World) (b : List Stmt) (os : OsState) : Thread := ((hGo p w 29 annA 80 (StT treeK 231 600 w os) (TM b)).map (·.2)).getD (TE b q0)
noncomputable def TS (p : Program) (w : World) (b : List Stmt) (os : OsState) (pos : Pos) : Thread := ⟨Fast.tw11892475500146522536 Fast.tw14364793385576792824 (thr0 p w b os).code, (thr0 p w b os).code, pos, (thr0 p w b os).stack⟩
theorem pcP (p : Program) (w : World) (b : List Stmt) (os : OsState) : hGo p w 29 annA 1854 (StT treeB 33 279 w os) (TP b) = some ((StT treeK 231 600 w os), TE b posK) := by
  kernel_rfl
theorem pc0 (bb : Bool) (p : Program) (w : World) (b : List Stmt) (os : OsState) : hGo p (w.withFollow rowN bb) 29 annA 80 (StT treeK 231 600 (w.withFollow rowN bb) os) (TM b) = some ((StT tree0 235 603 (w.withFollow rowN bb) os), (TS p (w.withFollow rowN bb) b os { line := 91, col := 32, endLine := 91, endCol := 70 })) := by
  cases bb <;> kernel_rfl
theorem pc1 (bb : Bool) (p : Program) (w : World) (b : List Stmt) (os : OsState) : hGo p (w.withFollow rowN bb) 29 annA 2050 (StT tree0 235 603 (w.withFollow rowN bb) os) (TS p (w.withFollow rowN bb) b os { line := 91, col := 32, endLine := 91, endCol := 70 }) = some ((StT tree1 325 683 (w.withFollow rowN bb) os), (TS p (w.withFollow rowN bb) b os { line := 93, col := 8, endLine := 93, endCol := 43 })) := by
  cases bb <;> kernel_rfl
theorem pc2 (bb : Bool) (p : Program) (w : World) (b : List Stmt) (os : OsState) : hGo p (w.withFollow rowN bb) 29 annA 2050 (StT tree1 325 683 (w.withFollow rowN bb) os) (TS p (w.withFollow rowN bb) b os { line := 93, col := 8, endLine := 93, endCol := 43 }) = some ((StT tree2 415 763 (w.withFollow rowN bb) os), (TS p (w.withFollow rowN bb) b os { line := 93, col := 8, endLine := 93, endCol := 43 })) := by
  cases bb <;> kernel_rfl
theorem pc3 (bb : Bool) (p : Program) (w : World) (b : List Stmt) (os : OsState) : hGo p (w.withFollow rowN bb) 29 annA 2050 (StT tree2 415 763 (w.withFollow rowN bb) os) (TS p (w.withFollow rowN bb) b os { line := 93, col := 8, endLine := 93, endCol := 43 }) = some ((StT tree3 505 843 (w.withFollow rowN bb) os), (TS p (w.withFollow rowN bb) b os { line := 93, col := 8, endLine := 93, endCol := 43 })) := by
  cases bb <;> kernel_rfl
theorem pc4 (bb : Bool) (p : Program) (w : World) (b : List Stmt) (os : OsState) : hGo p (w.withFollow rowN bb) 29 annA 2050 (StT tree3 505 843 (w.withFollow rowN bb) os) (TS p (w.withFollow rowN bb) b os { line := 93, col := 8, endLine := 93, endCol := 43 }) = some ((StT tree4 595 923 (w.withFollow rowN bb) os), (TS p (w.withFollow rowN bb) b os { line := 93, col := 8, endLine := 93, endCol := 43 })) := by
  cases bb <;> kernel_rfl
theorem pc5 (bb : Bool) (p : Program) (w : World) (b : List Stmt) (os : OsState) : hGo p (w.withFollow rowN bb) 29 annA 2050 (StT tree4 595 923 (w.withFollow rowN bb) os) (TS p (w.withFollow rowN bb) b os { line := 93, col := 8, endLine := 93, endCol := 43 }) = some ((StT tree5 685 1003 (w.withFollow rowN bb) os), (TS p (w.withFollow rowN bb) b os { line := 93, col := 8, endLine := 93, endCol := 43 })) := by
  cases bb <;> kernel_rfl
theorem pc6 (bb : Bool) (p : Program) (w : World) (b : List Stmt) (os : OsState) : hGo p (w.withFollow rowN bb) 29 annA 2050 (StT tree5 685 1003 (w.withFollow rowN bb) os) (TS p (w.withFollow rowN bb) b os { line := 93, col := 8, endLine := 93, endCol := 43 }) = some ((StT tree6 775 1083 (w.withFollow rowN bb) os), (TS p (w.withFollow rowN bb) b os { line := 93, col := 8, endLine := 93, endCol := 43 })) := by
  cases bb <;> kernel_rfl
theorem pcM (bb : Bool) (p : Program) (w : World) (b : List Stmt) (os : OsState) : hGo p (w.withFollow rowN bb) 29 annA 252 (StT tree6 775 1083 (w.withFollow rowN bb) os) (TS p (w.withFollow rowN bb) b os { line := 93, col := 8, endLine := 93, endCol := 43 }) = some ((StT treeM 786 1093 (w.withFollow rowN bb) os), TE b { line := 95, col := 0, endLine := 95, endCol := 32 }) := by
  cases bb <;> kernel_rfl
theorem pcF (bb : Bool) (p : Program) (w : World) (b : List Stmt) (os : OsState) : hGo p (w.withFollow rowN bb) 29 annA 126 (StT treeM 786 1093 (w.withFollow rowN bb) os) (TF b) = some ((StT treeF 812 1126 (w.withFollow rowN bb) os), TE b { line := 108, col := 0, endLine := 147, endCol := 15 }) := by
  cases bb <;> kernel_rfl
end Mine
end H5xpart
section H6xpart
open PySem PySem.W PyProof.Rows
set_option maxRecDepth 100000
namespace Mine

noncomputable def allBT (f : Obj → Bool) : BT → Bool
  | .nil => true
  | .node v l r => f v && (allBT f l && allBT f r)
theorem allBT_get (f : Obj → Bool) : ∀ (t : BT) (i : Nat) (o : Obj), allBT f t = true → t.get i = some o → f o = true
  | .nil, i, o, _, h => by cases h
  | .node v l r, i, o, ha, h => by
    simp only [allBT, Bool.and_eq_true] at ha
    rw [BT.get_node] at h
    split at h
    · cases h; exact ha.1
    · split at h
      · exact allBT_get f l _ _ ha.2.1 h
      · exact allBT_get f r _ _ ha.2.2 h
theorem hcB (w : World) : HC w.params (treeB w.params) := by
  have h : allBT noB (treeB w.params) = true := by kernel_rfl
  exact fun a o ho => hc_of_noB (allBT_get noB _ a o h ho)
theorem goes_P (p : Program) (w : World) (b : List Stmt) (os : OsState) :
    HC w.params (treeK w.params) ∧ Goes p w 29 annA (600 * 2000) (StT treeB 33 279 w os).abs (TP b) (StT treeK 231 600 w os).abs (TE b posK) := by
  have r := hGo_sound (w := w) (hcB _) (pcP p w b os)
  exact ⟨r.1, r.2.le (by omega)⟩
theorem hc0 (w : World) : HC w.params (treeK w.params) := (goes_P default w [] default).1

section
variable {p : Program} {w : World}
abbrev posM : Pos := { line := 95, col := 0, endLine := 95, endCol := 32 }
abbrev posF : Pos := { line := 108, col := 0, endLine := 147, endCol := 15 }

theorem goes_M' (bb : Bool) (p : Program) (w : World) (b : List Stmt) (os : OsState) :
    HC (w.withFollow rowN bb).params (treeM (w.withFollow rowN bb).params) ∧ Goes p (w.withFollow rowN bb) 29 annA (600 * 20000) (StT treeK 231 600 (w.withFollow rowN bb) os).abs (TM b) (StT treeM 786 1093 (w.withFollow rowN bb) os).abs (TE b posM) := by
  have r0 := hGo_sound (w := w.withFollow rowN bb) (hc0 _) (pc0 bb p w b os)
  have r1 := hGo_sound (w := w.withFollow rowN bb) r0.1 (pc1 bb p w b os)
  have r2 := hGo_sound (w := w.withFollow rowN bb) r1.1 (pc2 bb p w b os)
  have r3 := hGo_sound (w := w.withFollow rowN bb) r2.1 (pc3 bb p w b os)
  have r4 := hGo_sound (w := w.withFollow rowN bb) r3.1 (pc4 bb p w b os)
  have r5 := hGo_sound (w := w.withFollow rowN bb) r4.1 (pc5 bb p w b os)
  have r6 := hGo_sound (w := w.withFollow rowN bb) r5.1 (pc6 bb p w b os)
  have r7 := hGo_sound (w := w.withFollow rowN bb) r6.1 (pcM bb p w b os)
  exact ⟨r7.1, (((((((r0.2.trans r1.2).trans r2.2).trans r3.2).trans r4.2).trans r5.2).trans r6.2).trans r7.2).le (by omega)⟩
theorem goes_F' (bb : Bool) (p : Program) (w : World) (b : List Stmt) (os : OsState) :
    Goes p (w.withFollow rowN bb) 29 annA (600 * 20000) (StT treeM 786 1093 (w.withFollow rowN bb) os).abs (TF b) (StT treeF 812 1126 (w.withFollow rowN bb) os).abs (TE b posF) := by
  have r := hGo_sound (w := w.withFollow rowN bb) (goes_M' bb p w b os).1 (pcF bb p w b os)
  exact r.2.le (by omega)
theorem goes_M (p : Program) (w : World) (b : List Stmt) (os : OsState) : Goes p w 29 annA (600 * 20000) (StT treeK 231 600 w os).abs (TM b) (StT treeM 786 1093 w os).abs (TE b posM) := by
  have k := (goes_M' (w.params.followText rowN) p w b os).2
  rw [World.withFollow_self] at k
  exact k
theorem goes_F (p : Program) (w : World) (b : List Stmt) (os : OsState) : Goes p w 29 annA (600 * 20000) (StT treeM 786 1093 w os).abs (TF b) (StT treeF 812 1126 w os).abs (TE b posF) := by
  have k := goes_F' (w.params.followText rowN) p w b os
  rw [World.withFollow_self] at k
  exact k
theorem seg_of_goes {N : Nat} {s s' : Shared} {t : Thread} {b : List Stmt} {pos : Pos} (h : Goes p w 29 annA N s t s' (TE b pos)) : ∃ n, n ≤ N + 1 ∧ segRun treeTable p w 29 annA 1 n s t = some (.next, s', Code.body b env1, pos) := by
  obtain ⟨n, hn, h⟩ := h
  exact ⟨n + 1, by omega, seg_go h rfl⟩
end

noncomputable def H0 (P : Params) : Heap := ⟨⟨objs0 P⟩, {}⟩
noncomputable def HO (P : Params) : Heap := ⟨⟨objsO P⟩, {}⟩
noncomputable def H1 (P : Params) : Heap := ⟨⟨objsF P⟩, {}⟩
abbrev pw := PySem.Challenge.pw_im0126_01

theorem absF (w : World) (os : OsState) : (StT treeF 812 1126 w os).abs = ⟨H1 w.params, Array.mk [], {}, 1126, os⟩ := by kernel_rfl
abbrev bodyB : List Stmt := behindTheImports pw
theorem pre_go (w : World) (os : OsState) : topGo treeTable pw w 29 annA 12 ⟨H0 w.params, Array.mk [], {}, 273, os⟩ (topStub pw) =
    some ((StT treeB 33 279 w os).abs, ⟨denote treeTable (Code.body bodyB env1), Code.body bodyB env1, q0, [topFrame q0]⟩) := by kernel_rfl
theorem blk (w : World) (os : OsState) : segRun treeTable pw w 29 annA 1 1 (StT treeB 33 279 w os).abs (blockOf bodyB env1 (Code.body bodyB env1) q0 [topFrame q0]) = some (.next, (StT treeB 33 279 w os).abs, Code.body bodyB env1, q0) := by kernel_rfl
theorem body_eq : bodyB = stsP ++ ([stM] ++ (stsF ++ [])) := by kernel_rfl
end Mine
end H6xpart
section H7xpart
open PySem PySem.W PyProof.Rows
set_option maxRecDepth 100000
namespace Mine

theorem fin_go (w : World) (os : OsState) : topRun treeTable pw w 29 annA 2 (StT treeF 812 1126 w os).abs (restOf [] env1 (Code.body bodyB env1) posF [topFrame q0]) = some (StT treeF 812 1126 w os).abs := by kernel_rfl

theorem run_all (w : World) (os : OsState) : topRun treeTable pw w 29 annA 30000000 ⟨H0 w.params, Array.mk [], {}, 273, os⟩ (topStub pw) = some ⟨H1 w.params, Array.mk [], {}, 1126, os⟩ := by
  obtain ⟨n1, l1, h1⟩ := seg_of_goes (goes_M pw w bodyB os)
  obtain ⟨n2, l2, h2⟩ := seg_of_goes (goes_F pw w bodyB os)
  have k3 := piece_app (rest := []) h2 (fin_go w os)
  have k4 := piece_app (rest := stsF ++ []) h1 k3
  obtain ⟨n0, l0, h0⟩ := seg_of_goes (goes_P pw w bodyB os).2
  have k5 := piece_app (rest := [stM] ++ (stsF ++ [])) h0 k4
  rw [← body_eq] at k5
  have k6 := piece_block (blk w os) k5
  have k7 := go_top (pre_go w os) k6
  rw [absF] at k7
  have e := topRun_mono (30000000 - (12 + (1 + (n0 + (n1 + (n2 + 2)))))) _ _ _ _ k7
  have z : 12 + (1 + (n0 + (n1 + (n2 + 2)))) + (30000000 - (12 + (1 + (n0 + (n1 + (n2 + 2)))))) = 30000000 := by
    omega
  rw [z] at e
  exact e

noncomputable def S00 (os : OsState) : SharedT := ⟨.nil, 0, {}, Array.mk [], {}, 1, os⟩
abbrev startS : Shared := (start (opening pw)).1
abbrev startT : Thread := (start (opening pw)).2
theorem start_abs : startS = (S00 startS.os).abs := by kernel_rfl
noncomputable def thrO (w : World) : Thread := ((Fast.tw14789777615569096658 Fast.tw14364793385576792824 (opening pw) w 828 (S00 startS.os) startT).map (·.2)).getD startT
theorem open_go (w : World) : Fast.tw14789777615569096658 Fast.tw14364793385576792824 (opening pw) w 828 (S00 startS.os) startT = some (⟨treeO w.params, 29, {}, Array.mk [], {}, 273, startS.os⟩, thrO w) := by kernel_rfl
end Mine
end H7xpart
section H8xpart
open PySem PySem.W PyProof.Rows
set_option maxRecDepth 100000
namespace Mine

abbrev nTop : Nat := 30000000
theorem open_h (w : World) : importEnds treeTable (opening pw) w (828 + 1) (start (opening pw)).1 (start (opening pw)).2 = some ⟨HO w.params, Array.mk [], {}, 273, (start (opening pw)).1.os⟩ := by
  have g := open_go w
  rw [← Fast.te14789777615569096658, ← Fast.te14364793385576792824] at g
  have g2 := impGo_of g
  rw [← start_abs] at g2
  refine imp_go g2 ?_
  have a : (SharedT.abs ⟨treeO w.params, 29, {}, Array.mk [], {}, 273, startS.os⟩) = ⟨HO w.params, Array.mk [], {}, 273, (start (opening pw)).1.os⟩ := by kernel_rfl
  rw [a]
  kernel_rfl
theorem fence_h (w : World) : (fun os => (fenceModules? pw ⟨HO w.params, Array.mk [], {}, 273, os⟩).map (fun s => (s.heap, s.gens, s.drawn, s.toks))) = fun _ => some (H0 w.params, Array.mk [], {}, 273) := by kernel_rfl
theorem open_all (w : World) : (fencedOpening treeTable pw w nTop).map (fun s => (s.heap, s.gens, s.drawn, s.toks)) = some (H0 w.params, Array.mk [], {}, 273) :=
  open_cut (p := pw) (N := nTop) (M := 828 + 1) open_h (by decide) fence_h w
theorem size_h (w : World) : ((H0 w.params).isNs mainGlobals && (Array.mk [] : Array GenState).size == 0, (H0 w.params).objs.size, (H0 w.params).nsMap mainGlobals "__annotations__") = (true, 29, annA) := by kernel_rfl

noncomputable def kfO86 {a : Arguments} {b : List Stmt} {sc : Scope} (P : Params) (h : fdOf 7 = some (a, b, sc)) : Obj := ⟨.none, none, (.func { name := (Str.ofString "table_entry_size"), qualname := (Str.ofString "table_entry_size"), params := a, body := .stmts (b), scope := sc, globals := 0, closure := [], defaults := .none, kwdefaults := .none, doc := .none, pyModule := .none, annotations := none, code := .none, closureTuple := .none, builtins := 0 }), #[]⟩
noncomputable def kf86 (P : Params) : Obj := kfO86 P (rfl : fdOf 7 = some (_, _, _))
noncomputable def kfO88 {a : Arguments} {b : List Stmt} {sc : Scope} (P : Params) (h : fdOf 7 = some (a, b, sc)) : Obj := ⟨(.type "function"), none, (.func { name := (Str.ofString "table_entry_size"), qualname := (Str.ofString "table_entry_size"), params := a, body := .stmts (b), scope := sc, globals := 3, closure := [], defaults := .none, kwdefaults := .none, doc := .none, pyModule := (.str (Str.ofString "hpack.table") 349), annotations := none, code := (.ref 87), closureTuple := .none, builtins := 0 }), #[]⟩
noncomputable def kf88 (P : Params) : Obj := kfO88 P (rfl : fdOf 7 = some (_, _, _))
noncomputable def kfO162 {a : Arguments} {b : List Stmt} {sc : Scope} (P : Params) (h : mdOf 8 3 = some (a, b, sc)) : Obj := ⟨.none, none, (.func { name := (Str.ofString "__init__"), qualname := (Str.ofString "HeaderTable.__init__"), params := a, body := .stmts (b), scope := sc, globals := 0, closure := [], defaults := .none, kwdefaults := .none, doc := .none, pyModule := .none, annotations := none, code := .none, closureTuple := .none, builtins := 0 }), #[]⟩
noncomputable def kf162 (P : Params) : Obj := kfO162 P (rfl : mdOf 8 3 = some (_, _, _))
noncomputable def kfO164 {a : Arguments} {b : List Stmt} {sc : Scope} (P : Params) (h : mdOf 8 3 = some (a, b, sc)) : Obj := ⟨(.type "function"), none, (.func { name := (Str.ofString "__init__"), qualname := (Str.ofString "HeaderTable.__init__"), params := a, body := .stmts (b), scope := sc, globals := 3, closure := [], defaults := .none, kwdefaults := .none, doc := .none, pyModule := (.str (Str.ofString "hpack.table") 349), annotations := none, code := (.ref 163), closureTuple := .none, builtins := 0 }), #[]⟩
noncomputable def kf164 (P : Params) : Obj := kfO164 P (rfl : mdOf 8 3 = some (_, _, _))
noncomputable def kfO169 {a : Arguments} {b : List Stmt} {sc : Scope} (P : Params) (h : mdOf 8 4 = some (a, b, sc)) : Obj := ⟨.none, none, (.func { name := (Str.ofString "get_by_index"), qualname := (Str.ofString "HeaderTable.get_by_index"), params := a, body := .stmts (b), scope := sc, globals := 0, closure := [], defaults := .none, kwdefaults := .none, doc := .none, pyModule := .none, annotations := none, code := .none, closureTuple := .none, builtins := 0 }), #[]⟩
noncomputable def kf169 (P : Params) : Obj := kfO169 P (rfl : mdOf 8 4 = some (_, _, _))
noncomputable def kfO171 {a : Arguments} {b : List Stmt} {sc : Scope} (P : Params) (h : mdOf 8 4 = some (a, b, sc)) : Obj := ⟨(.type "function"), none, (.func { name := (Str.ofString "get_by_index"), qualname := (Str.ofString "HeaderTable.get_by_index"), params := a, body := .stmts (b), scope := sc, globals := 3, closure := [], defaults := .none, kwdefaults := .none, doc := .none, pyModule := (.str (Str.ofString "hpack.table") 349), annotations := none, code := (.ref 170), closureTuple := .none, builtins := 0 }), #[]⟩
noncomputable def kf171 (P : Params) : Obj := kfO171 P (rfl : mdOf 8 4 = some (_, _, _))
noncomputable def kfO176 {a : Arguments} {b : List Stmt} {sc : Scope} (P : Params) (h : mdOf 8 5 = some (a, b, sc)) : Obj := ⟨.none, none, (.func { name := (Str.ofString "__repr__"), qualname := (Str.ofString "HeaderTable.__repr__"), params := a, body := .stmts (b), scope := sc, globals := 0, closure := [], defaults := .none, kwdefaults := .none, doc := .none, pyModule := .none, annotations := none, code := .none, closureTuple := .none, builtins := 0 }), #[]⟩
noncomputable def kf176 (P : Params) : Obj := kfO176 P (rfl : mdOf 8 5 = some (_, _, _))
noncomputable def kfO178 {a : Arguments} {b : List Stmt} {sc : Scope} (P : Params) (h : mdOf 8 5 = some (a, b, sc)) : Obj := ⟨(.type "function"), none, (.func { name := (Str.ofString "__repr__"), qualname := (Str.ofString "HeaderTable.__repr__"), params := a, body := .stmts (b), scope := sc, globals := 3, closure := [], defaults := .none, kwdefaults := .none, doc := .none, pyModule := (.str (Str.ofString "hpack.table") 349), annotations := none, code := (.ref 177), closureTuple := .none, builtins := 0 }), #[]⟩
noncomputable def kf178 (P : Params) : Obj := kfO178 P (rfl : mdOf 8 5 = some (_, _, _))
noncomputable def kfO183 {a : Arguments} {b : List Stmt} {sc : Scope} (P : Params) (h : mdOf 8 6 = some (a, b, sc)) : Obj := ⟨.none, none, (.func { name := (Str.ofString "add"), qualname := (Str.ofString "HeaderTable.add"), params := a, body := .stmts (b), scope := sc, globals := 0, closure := [], defaults := .none, kwdefaults := .none, doc := .none, pyModule := .none, annotations := none, code := .none, closureTuple := .none, builtins := 0 }), #[]⟩
noncomputable def kf183 (P : Params) : Obj := kfO183 P (rfl : mdOf 8 6 = some (_, _, _))
noncomputable def kfO185 {a : Arguments} {b : List Stmt} {sc : Scope} (P : Params) (h : mdOf 8 6 = some (a, b, sc)) : Obj := ⟨(.type "function"), none, (.func { name := (Str.ofString "add"), qualname := (Str.ofString "HeaderTable.add"), params := a, body := .stmts (b), scope := sc, globals := 3, closure := [], defaults := .none, kwdefaults := .none, doc := .none, pyModule := (.str (Str.ofString "hpack.table") 349), annotations := none, code := (.ref 184), closureTuple := .none, builtins := 0 }), #[]⟩
noncomputable def kf185 (P : Params) : Obj := kfO185 P (rfl : mdOf 8 6 = some (_, _, _))
noncomputable def kfO190 {a : Arguments} {b : List Stmt} {sc : Scope} (P : Params) (h : mdOf 8 7 = some (a, b, sc)) : Obj := ⟨.none, none, (.func { name := (Str.ofString "search"), qualname := (Str.ofString "HeaderTable.search"), params := a, body := .stmts (b), scope := sc, globals := 0, closure := [], defaults := .none, kwdefaults := .none, doc := .none, pyModule := .none, annotations := none, code := .none, closureTuple := .none, builtins := 0 }), #[]⟩
noncomputable def kf190 (P : Params) : Obj := kfO190 P (rfl : mdOf 8 7 = some (_, _, _))
noncomputable def kfO192 {a : Arguments} {b : List Stmt} {sc : Scope} (P : Params) (h : mdOf 8 7 = some (a, b, sc)) : Obj := ⟨(.type "function"), none, (.func { name := (Str.ofString "search"), qualname := (Str.ofString "HeaderTable.search"), params := a, body := .stmts (b), scope := sc, globals := 3, closure := [], defaults := .none, kwdefaults := .none, doc := .none, pyModule := (.str (Str.ofString "hpack.table") 349), annotations := none, code := (.ref 191), closureTuple := .none, builtins := 0 }), #[]⟩
noncomputable def kf192 (P : Params) : Obj := kfO192 P (rfl : mdOf 8 7 = some (_, _, _))
noncomputable def kfO197 {a : Arguments} {b : List Stmt} {sc : Scope} (P : Params) (h : mdOf 8 8 = some (a, b, sc)) : Obj := ⟨.none, none, (.func { name := (Str.ofString "maxsize"), qualname := (Str.ofString "HeaderTable.maxsize"), params := a, body := .stmts (b), scope := sc, globals := 0, closure := [], defaults := .none, kwdefaults := .none, doc := .none, pyModule := .none, annotations := none, code := .none, closureTuple := .none, builtins := 0 }), #[]⟩
noncomputable def kf197 (P : Params) : Obj := kfO197 P (rfl : mdOf 8 8 = some (_, _, _))
noncomputable def kfO199 {a : Arguments} {b : List Stmt} {sc : Scope} (P : Params) (h : mdOf 8 8 = some (a, b, sc)) : Obj := ⟨(.type "function"), none, (.func { name := (Str.ofString "maxsize"), qualname := (Str.ofString "HeaderTable.maxsize"), params := a, body := .stmts (b), scope := sc, globals := 3, closure := [], defaults := .none, kwdefaults := .none, doc := .none, pyModule := (.str (Str.ofString "hpack.table") 349), annotations := none, code := (.ref 198), closureTuple := .none, builtins := 0 }), #[]⟩
noncomputable def kf199 (P : Params) : Obj := kfO199 P (rfl : mdOf 8 8 = some (_, _, _))
noncomputable def kfO206 {a : Arguments} {b : List Stmt} {sc : Scope} (P : Params) (h : mdOf 8 9 = some (a, b, sc)) : Obj := ⟨.none, none, (.func { name := (Str.ofString "maxsize"), qualname := (Str.ofString "HeaderTable.maxsize"), params := a, body := .stmts (b), scope := sc, globals := 0, closure := [], defaults := .none, kwdefaults := .none, doc := .none, pyModule := .none, annotations := none, code := .none, closureTuple := .none, builtins := 0 }), #[]⟩
noncomputable def kf206 (P : Params) : Obj := kfO206 P (rfl : mdOf 8 9 = some (_, _, _))
noncomputable def kfO208 {a : Arguments} {b : List Stmt} {sc : Scope} (P : Params) (h : mdOf 8 9 = some (a, b, sc)) : Obj := ⟨(.type "function"), none, (.func { name := (Str.ofString "maxsize"), qualname := (Str.ofString "HeaderTable.maxsize"), params := a, body := .stmts (b), scope := sc, globals := 3, closure := [], defaults := .none, kwdefaults := .none, doc := .none, pyModule := (.str (Str.ofString "hpack.table") 349), annotations := none, code := (.ref 207), closureTuple := .none, builtins := 0 }), #[]⟩
noncomputable def kf208 (P : Params) : Obj := kfO208 P (rfl : mdOf 8 9 = some (_, _, _))
noncomputable def kfO214 {a : Arguments} {b : List Stmt} {sc : Scope} (P : Params) (h : mdOf 8 10 = some (a, b, sc)) : Obj := ⟨.none, none, (.func { name := (Str.ofString "_shrink"), qualname := (Str.ofString "HeaderTable._shrink"), params := a, body := .stmts (b), scope := sc, globals := 0, closure := [], defaults := .none, kwdefaults := .none, doc := .none, pyModule := .none, annotations := none, code := .none, closureTuple := .none, builtins := 0 }), #[]⟩
noncomputable def kf214 (P : Params) : Obj := kfO214 P (rfl : mdOf 8 10 = some (_, _, _))
noncomputable def kfO216 {a : Arguments} {b : List Stmt} {sc : Scope} (P : Params) (h : mdOf 8 10 = some (a, b, sc)) : Obj := ⟨(.type "function"), none, (.func { name := (Str.ofString "_shrink"), qualname := (Str.ofString "HeaderTable._shrink"), params := a, body := .stmts (b), scope := sc, globals := 3, closure := [], defaults := .none, kwdefaults := .none, doc := .none, pyModule := (.str (Str.ofString "hpack.table") 349), annotations := none, code := (.ref 215), closureTuple := .none, builtins := 0 }), #[]⟩
noncomputable def kf216 (P : Params) : Obj := kfO216 P (rfl : mdOf 8 10 = some (_, _, _))
noncomputable def kfO790 {a : Arguments} {b : List Stmt} {sc : Scope} (P : Params) (h : fdOf 12 = some (a, b, sc)) : Obj := ⟨.none, none, (.func { name := ⟨#[95, 108, 97, 119, 95, 110, 97, 109, 101, 115]⟩, qualname := ⟨#[95, 108, 97, 119, 95, 110, 97, 109, 101, 115]⟩, params := a, body := .stmts (b), scope := sc, globals := 0, closure := [], defaults := .none, kwdefaults := .none, doc := .none, pyModule := .none, annotations := none, code := .none, closureTuple := .none, builtins := 0 }), #[]⟩
noncomputable def kf790 (P : Params) : Obj := kfO790 P (rfl : fdOf 12 = some (_, _, _))
noncomputable def kfO792 {a : Arguments} {b : List Stmt} {sc : Scope} (P : Params) (h : fdOf 12 = some (a, b, sc)) : Obj := ⟨(.type "function"), none, (.func { name := ⟨#[95, 108, 97, 119, 95, 110, 97, 109, 101, 115]⟩, qualname := ⟨#[95, 108, 97, 119, 95, 110, 97, 109, 101, 115]⟩, params := a, body := .stmts (b), scope := sc, globals := 3, closure := [], defaults := .none, kwdefaults := .none, doc := .none, pyModule := (.str ⟨#[108, 97, 119, 95, 105, 109, 48, 49, 50, 54, 95, 48, 49]⟩ 1093), annotations := none, code := (.ref 791), closureTuple := .none, builtins := 0 }), #[]⟩
noncomputable def kf792 (P : Params) : Obj := kfO792 P (rfl : fdOf 12 = some (_, _, _))
noncomputable def kfO797 {a : Arguments} {b : List Stmt} {sc : Scope} (P : Params) (h : fdOf 13 = some (a, b, sc)) : Obj := ⟨.none, none, (.func { name := ⟨#[95, 108, 97, 119, 95, 118, 97, 108, 117, 101, 115]⟩, qualname := ⟨#[95, 108, 97, 119, 95, 118, 97, 108, 117, 101, 115]⟩, params := a, body := .stmts (b), scope := sc, globals := 0, closure := [], defaults := .none, kwdefaults := .none, doc := .none, pyModule := .none, annotations := none, code := .none, closureTuple := .none, builtins := 0 }), #[]⟩
noncomputable def kf797 (P : Params) : Obj := kfO797 P (rfl : fdOf 13 = some (_, _, _))
noncomputable def kfO799 {a : Arguments} {b : List Stmt} {sc : Scope} (P : Params) (h : fdOf 13 = some (a, b, sc)) : Obj := ⟨(.type "function"), none, (.func { name := ⟨#[95, 108, 97, 119, 95, 118, 97, 108, 117, 101, 115]⟩, qualname := ⟨#[95, 108, 97, 119, 95, 118, 97, 108, 117, 101, 115]⟩, params := a, body := .stmts (b), scope := sc, globals := 3, closure := [], defaults := .none, kwdefaults := .none, doc := .none, pyModule := (.str ⟨#[108, 97, 119, 95, 105, 109, 48, 49, 50, 54, 95, 48, 49]⟩ 1093), annotations := none, code := (.ref 798), closureTuple := .none, builtins := 0 }), #[]⟩
noncomputable def kf799 (P : Params) : Obj := kfO799 P (rfl : fdOf 13 = some (_, _, _))
noncomputable def kfO804 {a : Arguments} {b : List Stmt} {sc : Scope} (P : Params) (h : fdOf 14 = some (a, b, sc)) : Obj := ⟨.none, none, (.func { name := ⟨#[95, 108, 97, 119, 95, 102, 111, 117, 110, 100]⟩, qualname := ⟨#[95, 108, 97, 119, 95, 102, 111, 117, 110, 100]⟩, params := a, body := .stmts (b), scope := sc, globals := 0, closure := [], defaults := .none, kwdefaults := .none, doc := .none, pyModule := .none, annotations := none, code := .none, closureTuple := .none, builtins := 0 }), #[]⟩
noncomputable def kf804 (P : Params) : Obj := kfO804 P (rfl : fdOf 14 = some (_, _, _))
noncomputable def kfO806 {a : Arguments} {b : List Stmt} {sc : Scope} (P : Params) (h : fdOf 14 = some (a, b, sc)) : Obj := ⟨(.type "function"), none, (.func { name := ⟨#[95, 108, 97, 119, 95, 102, 111, 117, 110, 100]⟩, qualname := ⟨#[95, 108, 97, 119, 95, 102, 111, 117, 110, 100]⟩, params := a, body := .stmts (b), scope := sc, globals := 3, closure := [], defaults := .none, kwdefaults := .none, doc := .none, pyModule := (.str ⟨#[108, 97, 119, 95, 105, 109, 48, 49, 50, 54, 95, 48, 49]⟩ 1093), annotations := none, code := (.ref 805), closureTuple := .none, builtins := 0 }), #[]⟩
noncomputable def kf806 (P : Params) : Obj := kfO806 P (rfl : fdOf 14 = some (_, _, _))
noncomputable def kfO809 {a : Arguments} {b : List Stmt} {sc : Scope} (P : Params) (h : fdOf 15 = some (a, b, sc)) : Obj := ⟨.none, none, (.func { name := ⟨#[108, 97, 119]⟩, qualname := ⟨#[108, 97, 119]⟩, params := a, body := .stmts (b), scope := sc, globals := 0, closure := [], defaults := .none, kwdefaults := .none, doc := .none, pyModule := .none, annotations := none, code := .none, closureTuple := .none, builtins := 0 }), #[]⟩
noncomputable def kf809 (P : Params) : Obj := kfO809 P (rfl : fdOf 15 = some (_, _, _))
noncomputable def kfO811 {a : Arguments} {b : List Stmt} {sc : Scope} (P : Params) (h : fdOf 15 = some (a, b, sc)) : Obj := ⟨(.type "function"), none, (.func { name := ⟨#[108, 97, 119]⟩, qualname := ⟨#[108, 97, 119]⟩, params := a, body := .stmts (b), scope := sc, globals := 3, closure := [], defaults := .none, kwdefaults := .none, doc := .none, pyModule := (.str ⟨#[108, 97, 119, 95, 105, 109, 48, 49, 50, 54, 95, 48, 49]⟩ 1093), annotations := none, code := (.ref 810), closureTuple := .none, builtins := 0 }), #[]⟩
noncomputable def kf811 (P : Params) : Obj := kfO811 P (rfl : fdOf 15 = some (_, _, _))
noncomputable def KF (P : Params) : Frag := (nat_lit 2, xK_2 P) :: (nat_lit 3, xF_3 P) :: (nat_lit 33, xK_33 P) :: (nat_lit 40, xK_40 P) :: (nat_lit 41, xK_41 P) :: (nat_lit 42, xK_42 P) :: (nat_lit 43, xK_43 P) :: (nat_lit 46, xK_46 P) :: (nat_lit 53, xK_53 P) :: (nat_lit 54, xK_54 P) :: (nat_lit 55, xK_55 P) :: (nat_lit 58, xK_58 P) :: (nat_lit 65, xK_65 P) :: (nat_lit 66, xK_66 P) :: (nat_lit 67, xK_67 P) :: (nat_lit 70, xK_70 P) :: (nat_lit 77, xK_77 P) :: (nat_lit 78, xK_78 P) :: (nat_lit 79, xK_79 P) :: (nat_lit 82, xK_82 P) :: (nat_lit 83, xK_83 P) :: (nat_lit 84, xK_84 P) :: (nat_lit 85, xK_85 P) :: (nat_lit 86, kf86 P) :: (nat_lit 87, xK_87 P) :: (nat_lit 88, kf88 P) :: (nat_lit 96, xK_96 P) :: (nat_lit 97, xK_97 P) :: (nat_lit 98, xK_98 P) :: (nat_lit 99, xK_99 P) :: (nat_lit 100, xK_100 P) :: (nat_lit 101, xK_101 P) :: (nat_lit 102, xK_102 P) :: (nat_lit 103, xK_103 P) :: (nat_lit 104, xK_104 P) :: (nat_lit 105, xK_105 P) :: (nat_lit 106, xK_106 P) :: (nat_lit 107, xK_107 P) :: (nat_lit 108, xK_108 P) :: (nat_lit 109, xK_109 P) :: (nat_lit 110, xK_110 P) :: (nat_lit 111, xK_111 P) :: (nat_lit 112, xK_112 P) :: (nat_lit 113, xK_113 P) :: (nat_lit 114, xK_114 P) :: (nat_lit 115, xK_115 P) :: (nat_lit 116, xK_116 P) :: (nat_lit 117, xK_117 P) :: (nat_lit 118, xK_118 P) :: (nat_lit 119, xK_119 P) :: (nat_lit 120, xK_120 P) :: (nat_lit 121, xK_121 P) :: (nat_lit 122, xK_122 P) :: (nat_lit 123, xK_123 P) :: (nat_lit 124, xK_124 P) :: (nat_lit 125, xK_125 P) :: (nat_lit 126, xK_126 P) :: (nat_lit 127, xK_127 P) :: (nat_lit 128, xK_128 P) :: (nat_lit 129, xK_129 P) :: (nat_lit 130, xK_130 P) :: (nat_lit 131, xK_131 P) :: (nat_lit 132, xK_132 P) :: (nat_lit 133, xK_133 P) :: (nat_lit 134, xK_134 P) :: (nat_lit 135, xK_135 P) :: (nat_lit 136, xK_136 P) :: (nat_lit 137, xK_137 P) :: (nat_lit 138, xK_138 P) :: (nat_lit 139, xK_139 P) :: (nat_lit 140, xK_140 P) :: (nat_lit 141, xK_141 P) :: (nat_lit 142, xK_142 P) :: (nat_lit 143, xK_143 P) :: (nat_lit 144, xK_144 P) :: (nat_lit 145, xK_145 P) :: (nat_lit 146, xK_146 P) :: (nat_lit 147, xK_147 P) :: (nat_lit 148, xK_148 P) :: (nat_lit 149, xK_149 P) :: (nat_lit 150, xK_150 P) :: (nat_lit 151, xK_151 P) :: (nat_lit 152, xK_152 P) :: (nat_lit 153, xK_153 P) :: (nat_lit 154, xK_154 P) :: (nat_lit 155, xK_155 P) :: (nat_lit 156, xK_156 P) :: (nat_lit 157, xK_157 P) :: (nat_lit 158, xK_158 P) :: (nat_lit 159, xK_159 P) :: (nat_lit 160, xK_160 P) :: (nat_lit 161, xK_161 P) :: (nat_lit 162, kf162 P) :: (nat_lit 163, xK_163 P) :: (nat_lit 164, kf164 P) :: (nat_lit 165, xK_165 P) :: (nat_lit 166, xK_166 P) :: (nat_lit 167, xK_167 P) :: (nat_lit 168, xK_168 P) :: (nat_lit 169, kf169 P) :: (nat_lit 170, xK_170 P) :: (nat_lit 171, kf171 P) :: (nat_lit 172, xK_172 P) :: (nat_lit 173, xK_173 P) :: (nat_lit 174, xK_174 P) :: (nat_lit 175, xK_175 P) :: (nat_lit 176, kf176 P) :: (nat_lit 177, xK_177 P) :: (nat_lit 178, kf178 P) :: (nat_lit 179, xK_179 P) :: (nat_lit 180, xK_180 P) :: (nat_lit 181, xK_181 P) :: (nat_lit 182, xK_182 P) :: (nat_lit 183, kf183 P) :: (nat_lit 184, xK_184 P) :: (nat_lit 185, kf185 P) :: (nat_lit 186, xK_186 P) :: (nat_lit 187, xK_187 P) :: (nat_lit 188, xK_188 P) :: (nat_lit 189, xK_189 P) :: (nat_lit 190, kf190 P) :: (nat_lit 191, xK_191 P) :: (nat_lit 192, kf192 P) :: (nat_lit 193, xK_193 P) :: (nat_lit 194, xK_194 P) :: (nat_lit 195, xK_195 P) :: (nat_lit 196, xK_196 P) :: (nat_lit 197, kf197 P) :: (nat_lit 198, xK_198 P) :: (nat_lit 199, kf199 P) :: (nat_lit 202, xK_202 P) :: (nat_lit 203, xK_203 P) :: (nat_lit 204, xK_204 P) :: (nat_lit 205, xK_205 P) :: (nat_lit 206, kf206 P) :: (nat_lit 207, xK_207 P) :: (nat_lit 208, kf208 P) :: (nat_lit 209, xK_209 P) :: (nat_lit 210, xK_210 P) :: (nat_lit 211, xK_211 P) :: (nat_lit 212, xK_212 P) :: (nat_lit 213, xK_213 P) :: (nat_lit 214, kf214 P) :: (nat_lit 215, xK_215 P) :: (nat_lit 216, kf216 P) :: (nat_lit 217, xK_217 P) :: (nat_lit 218, xM_218 P) :: (nat_lit 219, xK_219 P) :: (nat_lit 220, xK_220 P) :: (nat_lit 221, xK_221 P) :: (nat_lit 232, xM_232 P) :: (nat_lit 242, x1_242 P) :: (nat_lit 243, x1_243 P) :: (nat_lit 251, x1_251 P) :: (nat_lit 252, x1_252 P) :: (nat_lit 269, x1_269 P) :: (nat_lit 270, x1_270 P) :: (nat_lit 287, x1_287 P) :: (nat_lit 288, x1_288 P) :: (nat_lit 305, x2_305 P) :: (nat_lit 306, x1_306 P) :: (nat_lit 368, x2_368 P) :: (nat_lit 369, x2_369 P) :: (nat_lit 377, x2_377 P) :: (nat_lit 378, x2_378 P) :: (nat_lit 386, x2_386 P) :: (nat_lit 387, x2_387 P) :: (nat_lit 395, x2_395 P) :: (nat_lit 396, x2_396 P) :: (nat_lit 404, x2_404 P) :: (nat_lit 405, x2_405 P) :: (nat_lit 413, x2_413 P) :: (nat_lit 414, x2_414 P) :: (nat_lit 422, x3_422 P) :: (nat_lit 423, x3_423 P) :: (nat_lit 431, x3_431 P) :: (nat_lit 432, x3_432 P) :: (nat_lit 440, x3_440 P) :: (nat_lit 441, x3_441 P) :: (nat_lit 449, x3_449 P) :: (nat_lit 450, x3_450 P) :: (nat_lit 458, x3_458 P) :: (nat_lit 459, x3_459 P) :: (nat_lit 467, x3_467 P) :: (nat_lit 468, x3_468 P) :: (nat_lit 476, x3_476 P) :: (nat_lit 477, x3_477 P) :: (nat_lit 485, x3_485 P) :: (nat_lit 486, x3_486 P) :: (nat_lit 494, x3_494 P) :: (nat_lit 495, x3_495 P) :: (nat_lit 503, x3_503 P) :: (nat_lit 504, x3_504 P) :: (nat_lit 512, x4_512 P) :: (nat_lit 513, x4_513 P) :: (nat_lit 521, x4_521 P) :: (nat_lit 522, x4_522 P) :: (nat_lit 530, x4_530 P) :: (nat_lit 531, x4_531 P) :: (nat_lit 539, x4_539 P) :: (nat_lit 540, x4_540 P) :: (nat_lit 548, x4_548 P) :: (nat_lit 549, x4_549 P) :: (nat_lit 557, x4_557 P) :: (nat_lit 558, x4_558 P) :: (nat_lit 566, x4_566 P) :: (nat_lit 567, x4_567 P) :: (nat_lit 575, x4_575 P) :: (nat_lit 576, x4_576 P) :: (nat_lit 584, x4_584 P) :: (nat_lit 585, x4_585 P) :: (nat_lit 593, x4_593 P) :: (nat_lit 594, x4_594 P) :: (nat_lit 602, x5_602 P) :: (nat_lit 603, x5_603 P) :: (nat_lit 611, x5_611 P) :: (nat_lit 612, x5_612 P) :: (nat_lit 620, x5_620 P) :: (nat_lit 621, x5_621 P) :: (nat_lit 629, x5_629 P) :: (nat_lit 630, x5_630 P) :: (nat_lit 638, x5_638 P) :: (nat_lit 639, x5_639 P) :: (nat_lit 647, x5_647 P) :: (nat_lit 648, x5_648 P) :: (nat_lit 656, x5_656 P) :: (nat_lit 657, x5_657 P) :: (nat_lit 665, x5_665 P) :: (nat_lit 666, x5_666 P) :: (nat_lit 674, x5_674 P) :: (nat_lit 675, x5_675 P) :: (nat_lit 683, x5_683 P) :: (nat_lit 684, x5_684 P) :: (nat_lit 692, x6_692 P) :: (nat_lit 693, x6_693 P) :: (nat_lit 701, x6_701 P) :: (nat_lit 702, x6_702 P) :: (nat_lit 710, x6_710 P) :: (nat_lit 711, x6_711 P) :: (nat_lit 719, x6_719 P) :: (nat_lit 720, x6_720 P) :: (nat_lit 728, x6_728 P) :: (nat_lit 729, x6_729 P) :: (nat_lit 737, x6_737 P) :: (nat_lit 738, x6_738 P) :: (nat_lit 746, x6_746 P) :: (nat_lit 747, x6_747 P) :: (nat_lit 755, x6_755 P) :: (nat_lit 756, x6_756 P) :: (nat_lit 764, x6_764 P) :: (nat_lit 765, x6_765 P) :: (nat_lit 773, x6_773 P) :: (nat_lit 774, x6_774 P) :: (nat_lit 782, xM_782 P) :: (nat_lit 783, xM_783 P) :: (nat_lit 786, xF_786 P) :: (nat_lit 787, xF_787 P) :: (nat_lit 788, xF_788 P) :: (nat_lit 789, xF_789 P) :: (nat_lit 790, kf790 P) :: (nat_lit 791, xF_791 P) :: (nat_lit 792, kf792 P) :: (nat_lit 793, xF_793 P) :: (nat_lit 794, xF_794 P) :: (nat_lit 795, xF_795 P) :: (nat_lit 796, xF_796 P) :: (nat_lit 797, kf797 P) :: (nat_lit 798, xF_798 P) :: (nat_lit 799, kf799 P) :: (nat_lit 800, xF_800 P) :: (nat_lit 801, xF_801 P) :: (nat_lit 802, xF_802 P) :: (nat_lit 803, xF_803 P) :: (nat_lit 804, kf804 P) :: (nat_lit 805, xF_805 P) :: (nat_lit 806, kf806 P) :: (nat_lit 807, xF_807 P) :: (nat_lit 808, xF_808 P) :: (nat_lit 809, kf809 P) :: (nat_lit 810, xF_810 P) :: (nat_lit 811, kf811 P) :: []
noncomputable def asF : List Addr := nat_lit 2 :: nat_lit 3 :: nat_lit 33 :: nat_lit 40 :: nat_lit 41 :: nat_lit 42 :: nat_lit 43 :: nat_lit 46 :: nat_lit 53 :: nat_lit 54 :: nat_lit 55 :: nat_lit 58 :: nat_lit 65 :: nat_lit 66 :: nat_lit 67 :: nat_lit 70 :: nat_lit 77 :: nat_lit 78 :: nat_lit 79 :: nat_lit 82 :: nat_lit 83 :: nat_lit 84 :: nat_lit 85 :: nat_lit 86 :: nat_lit 87 :: nat_lit 88 :: nat_lit 96 :: nat_lit 97 :: nat_lit 98 :: nat_lit 99 :: nat_lit 100 :: nat_lit 101 :: nat_lit 102 :: nat_lit 103 :: nat_lit 104 :: nat_lit 105 :: nat_lit 106 :: nat_lit 107 :: nat_lit 108 :: nat_lit 109 :: nat_lit 110 :: nat_lit 111 :: nat_lit 112 :: nat_lit 113 :: nat_lit 114 :: nat_lit 115 :: nat_lit 116 :: nat_lit 117 :: nat_lit 118 :: nat_lit 119 :: nat_lit 120 :: nat_lit 121 :: nat_lit 122 :: nat_lit 123 :: nat_lit 124 :: nat_lit 125 :: nat_lit 126 :: nat_lit 127 :: nat_lit 128 :: nat_lit 129 :: nat_lit 130 :: nat_lit 131 :: nat_lit 132 :: nat_lit 133 :: nat_lit 134 :: nat_lit 135 :: nat_lit 136 :: nat_lit 137 :: nat_lit 138 :: nat_lit 139 :: nat_lit 140 :: nat_lit 141 :: nat_lit 142 :: nat_lit 143 :: nat_lit 144 :: nat_lit 145 :: nat_lit 146 :: nat_lit 147 :: nat_lit 148 :: nat_lit 149 :: nat_lit 150 :: nat_lit 151 :: nat_lit 152 :: nat_lit 153 :: nat_lit 154 :: nat_lit 155 :: nat_lit 156 :: nat_lit 157 :: nat_lit 158 :: nat_lit 159 :: nat_lit 160 :: nat_lit 161 :: nat_lit 162 :: nat_lit 163 :: nat_lit 164 :: nat_lit 165 :: nat_lit 166 :: nat_lit 167 :: nat_lit 168 :: nat_lit 169 :: nat_lit 170 :: nat_lit 171 :: nat_lit 172 :: nat_lit 173 :: nat_lit 174 :: nat_lit 175 :: nat_lit 176 :: nat_lit 177 :: nat_lit 178 :: nat_lit 179 :: nat_lit 180 :: nat_lit 181 :: nat_lit 182 :: nat_lit 183 :: nat_lit 184 :: nat_lit 185 :: nat_lit 186 :: nat_lit 187 :: nat_lit 188 :: nat_lit 189 :: nat_lit 190 :: nat_lit 191 :: nat_lit 192 :: nat_lit 193 :: nat_lit 194 :: nat_lit 195 :: nat_lit 196 :: nat_lit 197 :: nat_lit 198 :: nat_lit 199 :: nat_lit 202 :: nat_lit 203 :: nat_lit 204 :: nat_lit 205 :: nat_lit 206 :: nat_lit 207 :: nat_lit 208 :: nat_lit 209 :: nat_lit 210 :: nat_lit 211 :: nat_lit 212 :: nat_lit 213 :: nat_lit 214 :: nat_lit 215 :: nat_lit 216 :: nat_lit 217 :: nat_lit 218 :: nat_lit 219 :: nat_lit 220 :: nat_lit 221 :: nat_lit 232 :: nat_lit 242 :: nat_lit 243 :: nat_lit 251 :: nat_lit 252 :: nat_lit 269 :: nat_lit 270 :: nat_lit 287 :: nat_lit 288 :: nat_lit 305 :: nat_lit 306 :: nat_lit 368 :: nat_lit 369 :: nat_lit 377 :: nat_lit 378 :: nat_lit 386 :: nat_lit 387 :: nat_lit 395 :: nat_lit 396 :: nat_lit 404 :: nat_lit 405 :: nat_lit 413 :: nat_lit 414 :: nat_lit 422 :: nat_lit 423 :: nat_lit 431 :: nat_lit 432 :: nat_lit 440 :: nat_lit 441 :: nat_lit 449 :: nat_lit 450 :: nat_lit 458 :: nat_lit 459 :: nat_lit 467 :: nat_lit 468 :: nat_lit 476 :: nat_lit 477 :: nat_lit 485 :: nat_lit 486 :: nat_lit 494 :: nat_lit 495 :: nat_lit 503 :: nat_lit 504 :: nat_lit 512 :: nat_lit 513 :: nat_lit 521 :: nat_lit 522 :: nat_lit 530 :: nat_lit 531 :: nat_lit 539 :: nat_lit 540 :: nat_lit 548 :: nat_lit 549 :: nat_lit 557 :: nat_lit 558 :: nat_lit 566 :: nat_lit 567 :: nat_lit 575 :: nat_lit 576 :: nat_lit 584 :: nat_lit 585 :: nat_lit 593 :: nat_lit 594 :: nat_lit 602 :: nat_lit 603 :: nat_lit 611 :: nat_lit 612 :: nat_lit 620 :: nat_lit 621 :: nat_lit 629 :: nat_lit 630 :: nat_lit 638 :: nat_lit 639 :: nat_lit 647 :: nat_lit 648 :: nat_lit 656 :: nat_lit 657 :: nat_lit 665 :: nat_lit 666 :: nat_lit 674 :: nat_lit 675 :: nat_lit 683 :: nat_lit 684 :: nat_lit 692 :: nat_lit 693 :: nat_lit 701 :: nat_lit 702 :: nat_lit 710 :: nat_lit 711 :: nat_lit 719 :: nat_lit 720 :: nat_lit 728 :: nat_lit 729 :: nat_lit 737 :: nat_lit 738 :: nat_lit 746 :: nat_lit 747 :: nat_lit 755 :: nat_lit 756 :: nat_lit 764 :: nat_lit 765 :: nat_lit 773 :: nat_lit 774 :: nat_lit 782 :: nat_lit 783 :: nat_lit 786 :: nat_lit 787 :: nat_lit 788 :: nat_lit 789 :: nat_lit 790 :: nat_lit 791 :: nat_lit 792 :: nat_lit 793 :: nat_lit 794 :: nat_lit 795 :: nat_lit 796 :: nat_lit 797 :: nat_lit 798 :: nat_lit 799 :: nat_lit 800 :: nat_lit 801 :: nat_lit 802 :: nat_lit 803 :: nat_lit 804 :: nat_lit 805 :: nat_lit 806 :: nat_lit 807 :: nat_lit 808 :: nat_lit 809 :: nat_lit 810 :: nat_lit 811 :: []

theorem asF_eq (P : Params) : asF = (KF P).map (·.1) := by kernel_rfl
noncomputable def hookF : Hook := kHook KF asF asF_eq
noncomputable def qv : Program := view pw [0, 2, 3, 4, 5, 7, 8, 9, 12, 13, 14, 15]
abbrev lsv : List Str := [Str.ofString "HeaderTable"]
abbrev rowF : OpenRow := PySem.Challenge.rw_im0126_01.row
noncomputable abbrev XtF : Shared → Bool := fun s => xlAt qv [] s && recOk (RowW.records rowF.toRowW) s
theorem look1 (w : World) (os : OsState) : (staticsOk (importedModules pw.main.body) (H0 w.params) (H1 w.params) && namesBound pw (H1 w.params) && gensDone ⟨H1 w.params, Array.mk [], {}, 1126, os⟩ && laidKept (H0 w.params) (H1 w.params)) = true := by kernel_rfl
theorem look3 (w : World) (os : OsState) : hookF.obs ⟨H1 w.params, Array.mk [], {}, 1126, os⟩ = hookF.val w := by kernel_rfl
theorem look2 (w : World) (os : OsState) : openSeen qv lsv (importedModules pw.main.body) XtF true ⟨H1 w.params, Array.mk [], {}, 1126, os⟩ = openGood qv lsv := by
  rw [Fast.te4187177175401517315]
  kernel_rfl
end Mine
end H8xpart
section H9xpart
open PySem PySem.W PyProof.Rows
set_option maxRecDepth 100000
set_option maxHeartbeats 0
namespace Mine
theorem left : LeftO rowF.prog qv lsv XtF hookF.obs hookF.val nTop :=
  LeftO.of_pieces (p := pw) (H₀ := H0) (H₁ := H1) (gs₀ := Array.mk []) (gs₁ := Array.mk []) (d₀ := {}) (d₁ := {}) (k₀ := 273) (k₁ := 1126) (m₀ := 29) (ann := annA) (M := 30000000) open_all size_h run_all (by decide)
    (fun w => funext fun os => looks_pair (look1 w os) (looks_pair (look2 w os) (look3 w os)))

theorem hd {d : DefRec} {kwd : List (Str × Expr)} (hdef : defOf qv rowF.name = some (d, kwd)) (hp : rowF.prog.theDef rowF.name = some (d.params, d.body, d.scope)) (hk : kwWritten? d.params.kwonlyargs d.params.kw_defaults = some kwd)
    (call : WalkO qv lsv (XL qv []) (kHook KF asF asF_eq).says rowF.toRowW d kwd fun f vs => PySem.call f vs) : PySem.Challenge.rw_im0126_01.Holds := by
  w_on
  o_law
  refine holds_open (q := qv) (loose := lsv) (Xt := XtF) (XP := XL qv []) (Yf := Hook.obs hookF) (Ya := Hook.val hookF) (YP := Hook.says hookF) (N := nTop) left (Hook.of hookF) (Hook.keeps hookF) (fun s e => xl_of s (Bool.and_eq_true_iff.mp e).1) XL.keeps hdef hp hk (fun s e => recFacts_of (Bool.and_eq_true_iff.mp e).2) (by rfl) (by assumption) (by decide +kernel) ⟨rfl, rfl, rfl, rfl, rfl, by decide +kernel⟩ ?hw call
  case hw => w_witness2

end Mine
end H9xpart
section Walkpart
open PySem PySem.W PyProof.Rows PySem.Calls
set_option maxRecDepth 100000
set_option maxHeartbeats 8000000
namespace Mine
abbrev dqObj (n : Int) (items : List Value) : Obj := ⟨.type "collections.deque", none, .fields (.none :: .int n 0 :: items).toArray, #[]⟩
namespace DQ
open PySem.F
theorem plainAttrs_dq : PlainAttrs "collections.deque" :=
  ⟨⟨"collections.deque.__getattribute__", by rw [typeLookup_type, builtinLookup_eq_fast]; kernel_rfl, by decide +kernel⟩, by rw [typeLookup_type, builtinLookup_eq_fast]; kernel_rfl⟩
theorem owner_dq : Manifest.owners.lookup (String.ofList ['e','u','q','e','d','.','s','n','o','i','t','c','e','l','l','o','c'].reverse) = some Manifest.sig_collections_deque := by kernel_rfl
theorem slot_appendleft : Slot "collections.deque" "appendleft" "collections.deque.appendleft" :=
  .of (owner := "collections.deque") (n := "appendleft") (by rw [typeLookup_type, builtinLookup_eq_fast]; kernel_rfl) (by decide +kernel) (by decide +kernel) (by decide +kernel)
    (by first | exact .inl (by decide +kernel) | exact .inr (by decide +kernel)) (by rw [isSubtype_type]; kernel_rfl)
theorem type_appendleft : typeOf (.builtin "collections.deque.appendleft") = pure (.type "method_descriptor") := by show builtinType _ = _; rw [builtinType_eq_fast]; kernel_rfl
theorem entry_appendleft : entryFor table "collections.deque.appendleft" = some Builtin.«collections.deque.appendleft» := entryFor_of_tree (by kernel_rfl)
theorem args_appendleft (a b : Value) : argsOk "collections.deque.appendleft" ⟨[a, b], []⟩ := by
  unfold argsOk; rw [signature?_of (id := "collections.deque.appendleft") (n := ['t','f','e','l','d','n','e','p','p','a']) (o := ['e','u','q','e','d','.','s','n','o','i','t','c','e','l','l','o','c']) (by kernel_rfl) owner_dq]; kernel_rfl
theorem slot_pop : Slot "collections.deque" "pop" "collections.deque.pop" :=
  .of (owner := "collections.deque") (n := "pop") (by rw [typeLookup_type, builtinLookup_eq_fast]; kernel_rfl) (by decide +kernel) (by decide +kernel) (by decide +kernel)
    (by first | exact .inl (by decide +kernel) | exact .inr (by decide +kernel)) (by rw [isSubtype_type]; kernel_rfl)
theorem type_pop : typeOf (.builtin "collections.deque.pop") = pure (.type "method_descriptor") := by show builtinType _ = _; rw [builtinType_eq_fast]; kernel_rfl
theorem entry_pop : entryFor table "collections.deque.pop" = some Builtin.«collections.deque.pop» := entryFor_of_tree (by kernel_rfl)
theorem args_pop (a : Value) : argsOk "collections.deque.pop" ⟨[a], []⟩ := by
  unfold argsOk; rw [signature?_of (id := "collections.deque.pop") (n := ['p','o','p']) (o := ['e','u','q','e','d','.','s','n','o','i','t','c','e','l','l','o','c']) (by kernel_rfl) owner_dq]; kernel_rfl
theorem slot_clear : Slot "collections.deque" "clear" "collections.deque.clear" :=
  .of (owner := "collections.deque") (n := "clear") (by rw [typeLookup_type, builtinLookup_eq_fast]; kernel_rfl) (by decide +kernel) (by decide +kernel) (by decide +kernel)
    (by first | exact .inl (by decide +kernel) | exact .inr (by decide +kernel)) (by rw [isSubtype_type]; kernel_rfl)
theorem type_clear : typeOf (.builtin "collections.deque.clear") = pure (.type "method_descriptor") := by show builtinType _ = _; rw [builtinType_eq_fast]; kernel_rfl
theorem entry_clear : entryFor table "collections.deque.clear" = some Builtin.«collections.deque.clear» := entryFor_of_tree (by kernel_rfl)
theorem args_clear (a : Value) : argsOk "collections.deque.clear" ⟨[a], []⟩ := by
  unfold argsOk; rw [signature?_of (id := "collections.deque.clear") (n := ['r','a','e','l','c']) (o := ['e','u','q','e','d','.','s','n','o','i','t','c','e','l','l','o','c']) (by kernel_rfl) owner_dq]; kernel_rfl

section
variable {prog : Program} {w : World} {A : Around} {E : Value → Shared → Prop} {s : Shared} {aD : Addr} {k : Int} {items : List Value}
theorem call_dq {name : Str} {id : String} {B : Builtin} {rest : List Value} {Q : Value → Shared → Prop} (slot : Slot "collections.deque" name id) (entry : entryFor table id = some B) (args : argsOk id ⟨.ref aD :: rest, []⟩)
    (ho : s.heap.get? aD = some (dqObj k items)) (h : wpAny (model prog w) A.in1 (B ⟨.ref aD :: rest, []⟩) (fun fin s' => ∃ v, fin = .done (.ret v) ∧ Q v s') E s) :
    wpAny (model prog w) A (call (.builtin id) (.ref aD :: rest)) Q E s :=
  wpAny_call (codeAny_call_builtin slot.plain entry (slot.check _ _ _ _ _ _ _ _ ⟨_, ho, rfl⟩ args (wpAny_mono h (fun fin s' h' => by obtain ⟨v, rfl, hv⟩ := h'; exact hv) fun _ _ x => x)))

theorem fields_dq {Q : Array Value → Shared → Prop} (ho : s.heap.get? aD = some (dqObj k items)) (h : Q (.none :: .int k 0 :: items).toArray s) : wpAny (model prog w) A (fieldsOf (.ref aD)) Q E s := by
  unfold fieldsOf
  exact wpAny_bind (wpAny_load ho (wpAny_pure h))
theorem field_dq {i : Nat} {x : Value} {Q : Value → Shared → Prop} (ho : s.heap.get? aD = some (dqObj k items)) (hi : (.none :: .int k 0 :: items)[i]? = some x) (h : Q x s) : wpAny (model prog w) A (field (.ref aD) i) Q E s := by
  unfold field
  refine wpAny_bind (fields_dq ho ?_)
  rw [List.getElem?_toArray, hi]
  exact wpAny_pure h
theorem items_dq {Q : Array Value → Shared → Prop} (ho : s.heap.get? aD = some (dqObj k items)) (h : Q items.toArray s) : wpAny (model prog w) A (Builtin.Deque.items (.ref aD)) Q E s := by
  unfold Builtin.Deque.items
  refine wpAny_bind (fields_dq ho (wpAny_pure ?_))
  have : (List.toArray (Value.none :: Value.int k 0 :: items)).extract 2 (List.toArray (Value.none :: Value.int k 0 :: items)).size = items.toArray := by
    simp
  rw [this]; exact h
theorem size_dq {Q : Nat → Shared → Prop} (ho : s.heap.get? aD = some (dqObj k items)) (h : Q items.length s) : wpAny (model prog w) A (Builtin.Deque.size (.ref aD)) Q E s := by
  unfold Builtin.Deque.size
  refine wpAny_bind (fields_dq ho (wpAny_pure ?_))
  simpa using h
theorem maxlen_dq {Q : Option Nat → Shared → Prop} (ho : s.heap.get? aD = some (dqObj k items)) (h : Q none s) : wpAny (model prog w) A (Builtin.Deque.maxlen (.ref aD)) Q E s := by
  unfold Builtin.Deque.maxlen
  exact wpAny_bind (field_dq (x := .none) ho rfl (wpAny_pure h))
theorem state_dq {Q : Int → Shared → Prop} (ho : s.heap.get? aD = some (dqObj k items)) (h : Q k s) : wpAny (model prog w) A (Builtin.Deque.state (.ref aD)) Q E s := by
  unfold Builtin.Deque.state
  exact wpAny_bind (field_dq (x := .int k 0) ho rfl (wpAny_pure h))
theorem change_dq {f : Array Value → Array Value} {items' : List Value} {Q : Unit → Shared → Prop} (ho : s.heap.get? aD = some (dqObj k items)) (hf : f items.toArray = items'.toArray) (hz : items'.length ≤ sizeLine)
    (h : Q () { s with heap := s.heap.update aD (Obj.mapFields fun vs => #[vs.getD 0 .none, rawInt (k + 1)] ++ f (vs.extract 2 vs.size)) }) : wpAny (model prog w) A (Builtin.Deque.change (.ref aD) f) Q E s := by
  unfold Builtin.Deque.change
  refine wpAny_bind (state_dq ho ?_)
  unfold updateFields
  refine wpAny_bind (wpAny_load ho ?_)
  dsimp only
  refine wpAny_bind (wpAny_update ho ?_)
  refine wpAny_lookBehind (o := Obj.mapFields _ (dqObj k items)) (Heap.get?_update_self _ ho rfl) ?_ h
  show (if (#[Value.none, rawInt (k + 1)] ++ f ((List.toArray (Value.none :: Value.int k 0 :: items)).extract 2 (List.toArray (Value.none :: Value.int k 0 :: items)).size)).size > sizeLine + 3 then some "record:memory" else none) = none
  have : (List.toArray (Value.none :: Value.int k 0 :: items)).extract 2 (List.toArray (Value.none :: Value.int k 0 :: items)).size = items.toArray := by simp
  rw [this, hf, if_neg]
  simp only [Array.size_append, List.size_toArray, List.length_cons, List.length_nil]
  omega
theorem mapF (f : Array Value → Array Value) {items' : List Value} (hf : f items.toArray = items'.toArray) : Obj.mapFields (fun vs => #[vs.getD 0 .none, rawInt (k + 1)] ++ f (vs.extract 2 vs.size)) (dqObj k items) = dqObj (k + 1) items' := by
  have : (List.toArray (Value.none :: Value.int k 0 :: items)).extract 2 (List.toArray (Value.none :: Value.int k 0 :: items)).size = items.toArray := by simp
  show Obj.mk _ _ (.fields (#[Value.none, rawInt (k + 1)] ++ f ((List.toArray (Value.none :: Value.int k 0 :: items)).extract 2 (List.toArray (Value.none :: Value.int k 0 :: items)).size))) _ = _
  rw [this, hf]
  congr 2
  simp [rawInt]
end
section
variable {prog : Program} {w : World} {A : Around} {E : Value → Shared → Prop} {s : Shared} {aD : Addr} {k : Int} {items : List Value} {Q : Value → Shared → Prop}
theorem pop_dq {x : Value} (ho : s.heap.get? aD = some (dqObj k (items ++ [x]))) (hz : items.length ≤ sizeLine)
    (h : ∀ f, f (dqObj k (items ++ [x])) = dqObj (k + 1) items → Q x { s with heap := s.heap.update aD f }) : wpAny (model prog w) A (call (.builtin "collections.deque.pop") [.ref aD]) Q E s := by
  refine call_dq slot_pop entry_pop (args_pop _) ho ?_
  show wpAny _ _ (Builtin.Deque.items (.ref aD) >>= fun its => _) _ _ _
  refine wpAny_bind (items_dq ho ?_)
  have hb : (items ++ [x]).toArray.back? = some x := by simp
  rw [hb]
  dsimp only
  have hf : (fun y : Array Value => y.pop) (items ++ [x]).toArray = items.toArray := by simp
  refine wpAny_bind (change_dq (items' := items) ho hf hz ?_)
  exact wpAny_pure ⟨x, rfl, h _ (mapF _ hf)⟩
theorem appendleft_dq {x : Value} (ho : s.heap.get? aD = some (dqObj k items)) (hz : items.length < sizeLine)
    (h : ∀ f, f (dqObj k items) = dqObj (k + 1) (x :: items) → Q .none { s with heap := s.heap.update aD f }) : wpAny (model prog w) A (call (.builtin "collections.deque.appendleft") [.ref aD, x]) Q E s := by
  refine call_dq slot_appendleft entry_appendleft (args_appendleft _ _) ho ?_
  show wpAny _ _ (Builtin.Deque.pushLeft (.ref aD) x >>= fun its => _) _ _ _
  unfold Builtin.Deque.pushLeft
  have hf : (fun xs : Array Value => #[x] ++ xs) items.toArray = (x :: items).toArray := by simp
  refine wpAny_bind (wpAny_bind (change_dq (items' := x :: items) ho hf (by simp; omega) ?_))
  refine wpAny_bind (maxlen_dq (k := k + 1) (items := x :: items) (by
    show (s.heap.update aD _).get? aD = _
    rw [Heap.get?_update_self _ ho (by rw [mapF _ hf]; rfl), mapF _ hf]) ?_)
  exact wpAny_pure (wpAny_pure ⟨.none, rfl, h _ (mapF _ hf)⟩)
theorem letGo_any {l keep : List Value} {Q : Unit → Shared → Prop} (h : Q () s) : wpAny (model prog w) A (letGo l keep) Q E s := by
  induction l with
  | nil => exact wpAny_pure h
  | cons x l ih =>
    show wpAny _ _ (holding (l ++ keep) point >>= fun _ => letGo l keep) _ _ _
    exact wpAny_bind (wpAny_holding (wpAny_point ih))
theorem clear_dq (ho : s.heap.get? aD = some (dqObj k items))
    (h0 : items = [] → Q .none s)
    (h : ∀ f, f (dqObj k items) = dqObj (k + 1) [] → Q .none { s with heap := s.heap.update aD f }) : wpAny (model prog w) A (call (.builtin "collections.deque.clear") [.ref aD]) Q E s := by
  refine call_dq slot_clear entry_clear (args_clear _) ho ?_
  show wpAny _ _ (Builtin.Deque.clear (.ref aD) >>= fun its => _) _ _ _
  unfold Builtin.Deque.clear
  refine wpAny_bind (wpAny_bind (items_dq ho ?_))
  by_cases hs : items.toArray.size > 0
  · rw [if_pos hs]
    have hf : (fun _ : Array Value => (#[] : Array Value)) items.toArray = ([] : List Value).toArray := rfl
    refine wpAny_bind (change_dq (items' := []) ho hf (Nat.zero_le _) ?_)
    exact letGo_any (wpAny_pure ⟨.none, rfl, h _ (mapF (k := k) (items := items) (items' := []) (fun _ : Array Value => (#[] : Array Value)) hf)⟩)
  · rw [if_neg hs]
    have : items = [] := by cases items with | nil => rfl | cons => simp at hs
    exact wpAny_pure (wpAny_pure ⟨.none, rfl, h0 this⟩)
theorem method_dq {name : Str} {id : String} {pl : Sem Bool} {Q : Value × List Value → Shared → Prop} (ho : s.heap.get? aD = some (dqObj k items)) (slot : Slot "collections.deque" name id) (hty : typeOf (.builtin id) = pure (.type "method_descriptor"))
    (h : Q (.builtin id, [.ref aD]) s) : wpAny (model prog w) A (getMethod (.ref aD) name pl) Q E s :=
  getMethod_builtin ⟨_, ho, rfl⟩ plainAttrs_dq slot hty (fun a e => by cases e; exact ⟨_, ho, rfl⟩) h
end
end DQ
local macro_rules | `(tactic| x_close) => `(tactic| solve_by_elim)
theorem deque_new {prog : Program} {w : World} {A : Around} {E : Value → Shared → Prop} {s : Shared} {Q : Value → Shared → Prop}
    (h : ∀ a h' tk, PySem.W.X.Mem s.heap h' [] [(a, dqObj 0 [])] → Q (.ref a) { s with heap := h', toks := tk }) :
    wpAny (model prog w) A (call (.type "collections.deque") [] []) Q E s := by
  obtain ⟨heap, gens, drawn, toks, os⟩ := s
  x_run
abbrev PR : Program := rowF.prog
structure TD where
  h1 : Int
  h2 : Int
  h3 : Int
  h4 : Int
  t1 : Tok
  t2 : Tok
  t3 : Tok
  t4 : Tok
abbrev tdObj (d : TD) (mx : Int) (u1 : Tok) (cs : Int) (u2 : Tok) (rs : Bool) (aD : Addr) : Obj := dictOf [⟨d.h1, .str "_maxsize" d.t1, .int mx u1⟩, ⟨d.h2, .str "_current_size" d.t2, .int cs u2⟩, ⟨d.h3, .str "resized" d.t3, .bool rs⟩, ⟨d.h4, .str "dynamic_entries" d.t4, .ref aD⟩] 4
theorem reg_frag (w : World) : (∃ x, x = rowF) ∧ KF w.params = KF w.params := by
  k_fill
  exact ⟨⟨_, rfl⟩, rfl⟩
structure Ent where
  a : Addr
  nm : Array UInt8
  vl : Array UInt8
  t1 : Tok
  t2 : Tok
abbrev Ent.obj (e : Ent) : Obj := { cls := .type "tuple", data := .seq [Value.bytes e.nm e.t1, Value.bytes e.vl e.t2].toArray }
noncomputable def Ent.size (e : Ent) : Int := 32 + (e.nm.size : Int) + (e.vl.size : Int)
noncomputable def sumE (l : List Ent) : Int := (l.map Ent.size).sum
abbrev refsE (l : List Ent) : List Value := l.map fun e => Value.ref e.a
abbrev AllIn (l : List Ent) (rest : List (Addr × Obj)) : Prop := ∀ e ∈ l, (e.a, e.obj) ∈ rest ∧ e.nm.size ≤ 1000 ∧ e.vl.size ≤ 1000
noncomputable def Shrunk (mx : Int) (ents : List Ent) (n : Nat) : Prop := n ≤ ents.length ∧ sumE (ents.take n) ≤ mx ∧ (n = ents.length ∨ mx < sumE (ents.take (n + 1)))

section
variable {prog : Program} {w : World} {A : Around} {E : Value → Shared → Prop} {s : Shared} {h₀ : Heap} {L aD : Addr} {m : Str → Option Value} {news news' : List (Addr × Obj)} {k : Int} {items : List Value} {Q : Value → Shared → Prop}
theorem upd_news {o o' : Obj} {f : Obj → Obj} (F : Fr h₀ L s.heap m) (N : News h₀ L s.heap news) (U : Upd aD o o' news news') (e : f o = o') (hf : o'.isFreed = false) : Fr h₀ L (s.heap.update aD f) m ∧ News h₀ L (s.heap.update aD f) news' := by
  obtain ⟨pre, post, rfl, rfl, a, b⟩ := U.split
  exact news_upd F N a b e hf
theorem upd_mem {o o' : Obj} (U : Upd aD o o' news news') : (aD, o) ∈ news := by
  obtain ⟨pre, post, rfl, rfl, a, b⟩ := U.split
  exact List.mem_append_right _ (.head _)
theorem pop_K {x : Value} (F : Fr h₀ L s.heap m) (N : News h₀ L s.heap news) (U : Upd aD (dqObj k (items ++ [x])) (dqObj (k + 1) items) news news') (hz : items.length ≤ sizeLine)
    (h : ∀ h', Fr h₀ L h' m → News h₀ L h' news' → Q x { s with heap := h' }) : wpAny (model prog w) A (call (.builtin "collections.deque.pop") [.ref aD]) Q E s :=
  DQ.pop_dq (N.get (upd_mem U)) hz fun f e => have z := upd_news F N U e rfl; h _ z.1 z.2
theorem appendleft_K {x : Value} (F : Fr h₀ L s.heap m) (N : News h₀ L s.heap news) (U : Upd aD (dqObj k items) (dqObj (k + 1) (x :: items)) news news') (hz : items.length < sizeLine)
    (h : ∀ h', Fr h₀ L h' m → News h₀ L h' news' → Q .none { s with heap := h' }) : wpAny (model prog w) A (call (.builtin "collections.deque.appendleft") [.ref aD, x]) Q E s :=
  DQ.appendleft_dq (N.get (upd_mem U)) hz fun f e => have z := upd_news F N U e rfl; h _ z.1 z.2
theorem method_K {name : Str} {id : String} {pl : Sem Bool} {Q : Value × List Value → Shared → Prop} (N : News h₀ L s.heap news) (hm : (aD, dqObj k items) ∈ news) (slot : Slot "collections.deque" name id) (hty : typeOf (.builtin id) = pure (.type "method_descriptor"))
    (h : Q (.builtin id, [.ref aD]) s) : wpAny (model prog w) A (getMethod (.ref aD) name pl) Q E s := DQ.method_dq (N.get hm) slot hty h
end
local macro_rules | `(tactic| k_all) => `(tactic| assumption)
local macro_rules | `(tactic| k_mem) => `(tactic| assumption)
local macro_rules | `(tactic| walk_at "call builtin:len") => `(tactic| (k_here; (with_reducible show wpAny _ _ (call (Value.builtin "len") [Value.bytes _ _]) _ _ _); refine len_bytes (by (first | omega | exact Nat.le_of_ble_eq_true rfl)) ?_))
local macro_rules | `(tactic| walk_at "getMethod ref") => `(tactic| (k_here; (with_reducible show wpAny _ _ (getMethod (Value.ref _) (PySem.Str.ofString "pop") _) _ _ _); k_dflt (refine' method_K ?N ?m DQ.slot_pop DQ.type_pop ?_; (case N => k_asm); (case m => k_mem))))
local macro_rules | `(tactic| walk_at "call builtin:collections.deque.pop") => `(tactic| (k_here; (with_reducible show wpAny _ _ (call (Value.builtin _) [Value.ref _]) _ _ _); k_dflt (refine' pop_K ?F ?N ?U ?z ?_; (case F => k_asm); (case N => k_asm); (case U => k_upd); (case z => assumption); k_whole); intro h' F' N'; (try k_sweep)))

section
variable {w : World} {base h₀ : Heap} {e1 e2 : Env} {L : Addr} {m : Str → Option Value} {s : Shared} {mg mb : Str → Option Value} {mean : ExcName → Option Value} {R : Result → Shared → Prop}

theorem take_refs {ents : List Ent} {n : Nat} (h : n < ents.length) : refsE (ents.take (n + 1)) = refsE (ents.take n) ++ [Value.ref ents[n].a] := by
  rw [List.take_add_one, List.getElem?_eq_getElem h]
  simp only [refsE, List.map_append, Option.toList_some, List.map_cons, List.map_nil]
theorem take_sum {ents : List Ent} {n : Nat} (h : n < ents.length) : sumE (ents.take (n + 1)) = sumE (ents.take n) + ents[n].size := by
  rw [List.take_add_one, List.getElem?_eq_getElem h]
  simp only [sumE, List.map_append, Option.toList_some, List.map_cons, List.map_nil, List.sum_append, List.sum_cons, List.sum_nil, Int.add_zero]

theorem kst_two {a b z : Str} (h : [a, b].contains z = false) : z ≠ a ∧ z ≠ b := by
  simpa using h
theorem shrink_K {aT dT aD : Addr} {d : TD} {mx cs : Int} {u1 u2 : Tok} {rs : Bool} {k : Int} {ents : List Ent} {rest : List (Addr × Obj)}
    (B : Below (callerA.deeper e1) base [e1] h₀) (F : Fr h₀ L s.heap m) (X₀ : (KF w.params).In h₀) (T : Top qv (looseW qv lsv) mean mg mb h₀)
    (N : News h₀ L s.heap ((dT, tdObj d mx u1 cs u2 rs aD) :: (aD, dqObj k (refsE ents)) :: (aT, instObj 219 dT) :: rest))
    (n1 : @Ne Nat dT aD) (n2 : @Ne Nat dT aT) (n3 : @Ne Nat aD aT) (r1 : ∀ p ∈ rest, p.1 ≠ dT) (r2 : ∀ p ∈ rest, p.1 ≠ aD)
    (hin : AllIn ents rest) (hcs : cs = sumE ents) (hmx : 0 ≤ mx) (hlen : ents.length ≤ 1000)
    (hf : e2.frame = some L) (hke : e2.scope.kind = .function)
    (h : ∀ n k' u2' h' tk, Shrunk mx ents n → Fr h₀ L h' m → News h₀ L h' ((dT, tdObj d mx u1 (sumE (ents.take n)) u2' rs aD) :: (aD, dqObj k' (refsE (ents.take n))) :: (aT, instObj 219 dT) :: rest) →
      R (.ok (.ret .none)) { s with heap := h', toks := tk }) :
    codeAny (model PR w) ((callerA.deeper e1).deeper e2) (.call (.ref 216) ⟨[.ref aT], []⟩) R s := by
  w_on
  w_top off
  refine' code_def B F X₀ N T rfl hf hke ?k6 ?k7 ?k8 ?k9 ?kB ?_ ?c2 ?c3 ?c4 ?c5
  case k6 => k_is
  case k7 => k_is
  case k8 => k_room
  case k9 => exact BindsTo.of_eq rfl
  case kB => exact locs rfl
  case c2 => exact rfl
  case c3 => exact rfl
  case c4 => exact rfl
  case c5 => decide
  intro g' L' h' FG' F' N' B' X' T'
  try dsimp only
  try k_fold
  iterate 8 walk1
  refine ksw_while (σ := Nat × Tok × Int) (fun c => (dT, tdObj d mx u1 cs u2 rs aD) :: (aD, dqObj c.2.2 (refsE (ents.take c.1))) :: (aT, instObj 219 dT) :: rest) (fun c => [(Str.ofString "cursize", .int (sumE (ents.take c.1)) c.2.1)]) (fun _ => True) [Str.ofString "name", Str.ofString "value"]
    (fun c => c.1 ≤ ents.length ∧ (c.1 = ents.length ∨ mx < sumE (ents.take (c.1+1)))) (fun c => c.1) (ents.length, u2, k) (by assumption) (by rw [List.take_length]; assumption) trivial ?hk ⟨Nat.le_refl _, .inl rfl⟩ ?turn
  case hk => intro p hp; simp only [List.mem_singleton] at hp; subst hp; simp only [List.take_length, ← hcs]; rfl
  case turn =>
    rintro ⟨n, tc, kc⟩ u hh tkk _ ⟨hn, hmin⟩ FF NN
    dsimp only at FF NN hn hmin ⊢
    by_cases hgt : mx < sumE (ents.take n)
    · obtain ⟨n, rfl⟩ : ∃ n', n = n' + 1 := by
        cases n with
        | zero => simp [sumE] at hgt; omega
        | succ n => exact ⟨n, rfl⟩
      have hlt : n < ents.length := hn
      rw [take_refs hlt] at NN
      obtain ⟨hm, hs1, hs2⟩ := hin ents[n] (List.getElem_mem hlt)
      have hz : (refsE (ents.take n)).length ≤ sizeLine := by rw [sizeLine_eq]; simp [refsE]; omega
      (try k_fold)
      k_steps
      rename News _ _ _ _ => nE'
      rename Fr _ _ _ _ => fE'
      have e : sumE (ents.take (n + 1)) - (32 + (ents[n].nm.size : Int) + (ents[n].vl.size : Int)) = sumE (ents.take n) := by
        rw [take_sum hlt, Ent.size]; omega
      refine ksw_end (n, ?t, kc + 1) fE' nE' (fun p hp => hp) trivial ?hk2 ?hr ?hp ?hm
      case hk2 =>
        refine List.forall_mem_cons.mpr ⟨?_, List.forall_mem_nil _⟩
        exact congrArg (fun z => some (Value.int z _)) e
      case hr => exact fun z h1 h2 => have a1 := h1 _ (.head _); have a2 := kst_two h2; (if_neg a1).trans ((if_neg a2.2).trans ((if_neg a2.1).trans ((if_neg a1).trans (if_neg (fun h => by rw [h2] at h; exact Bool.noConfusion h)))))
      case hp => exact ⟨by dsimp only; omega, .inr hgt⟩
      case hm => dsimp only; omega
    · (try k_fold)
      k_steps
      refine h n kc _ _ _ ⟨hn, by omega, hmin⟩ (by assumption) (by assumption)
end
abbrev KV := Array UInt8 × Array UInt8
noncomputable def kvSize (p : KV) : Int := 32 + (p.1.size : Int) + (p.2.size : Int)
noncomputable def sumKV (l : List KV) : Int := (l.map kvSize).sum
abbrev Ent.kv (e : Ent) : KV := (e.nm, e.vl)
theorem sumE_eq (l : List Ent) : sumE l = sumKV (l.map Ent.kv) := by
  simp only [sumE, sumKV, List.map_map]; rfl
noncomputable def Shr (mx : Int) (l : List KV) (n : Nat) : Prop := n ≤ l.length ∧ sumKV (l.take n) ≤ mx ∧ (n = l.length ∨ mx < sumKV (l.take (n + 1)))
theorem Shr.of {mx : Int} {l : List Ent} {n : Nat} (h : Shrunk mx l n) : Shr mx (l.map Ent.kv) n := by
  obtain ⟨a, b, c⟩ := h
  refine ⟨by simpa using a, ?_, ?_⟩
  · rw [← List.map_take, ← sumE_eq]; exact b
  · rw [List.length_map, ← List.map_take, ← sumE_eq]; exact c

section
variable {prog : Program} {w : World} {A : Around} {E : Value → Shared → Prop} {s : Shared} {h₀ : Heap} {L aD : Addr} {m : Str → Option Value} {news : List (Addr × Obj)} {k : Int} {items : List Value} {Q : Value → Shared → Prop}
theorem clear_K {news' : Int → List (Addr × Obj)} (F : Fr h₀ L s.heap m) (N : News h₀ L s.heap news) (U : ∀ k', Upd aD (dqObj k items) (dqObj k' []) news (news' k'))
    (h : ∀ h' k', Fr h₀ L h' m → News h₀ L h' (news' k') → Q .none { s with heap := h' }) : wpAny (model prog w) A (call (.builtin "collections.deque.clear") [.ref aD]) Q E s := by
  refine DQ.clear_dq (N.get (upd_mem (U k))) (fun e => ?_) fun f e => have z := upd_news F N (U (k + 1)) e rfl; h _ _ z.1 z.2
  subst e
  obtain ⟨pre, post, e1, e2, a, b⟩ := (U k).split
  exact h s.heap k F (by rw [e2, ← e1]; exact N)
end
local macro_rules | `(tactic| walk_at "getMethod ref") => `(tactic| (k_here; (with_reducible show wpAny _ _ (getMethod (Value.ref _) _ _) _ _ _); k_dflt (first
  | (refine' method_K (name := PySem.Str.ofString "pop") ?N ?m DQ.slot_pop DQ.type_pop ?_; (case N => k_asm); (case m => k_mem))
  | (refine' method_K (name := PySem.Str.ofString "appendleft") ?N ?m DQ.slot_appendleft DQ.type_appendleft ?_; (case N => k_asm); (case m => k_mem))
  | (refine' method_K (name := PySem.Str.ofString "clear") ?N ?m DQ.slot_clear DQ.type_clear ?_; (case N => k_asm); (case m => k_mem)))))
local macro_rules | `(tactic| walk_at "call builtin:collections.deque.appendleft") => `(tactic| (k_here; (with_reducible show wpAny _ _ (call (Value.builtin _) [Value.ref _, _]) _ _ _); k_dflt (refine' appendleft_K ?F ?N ?U ?z ?_; (case F => k_asm); (case N => k_asm); (case U => k_upd); (case z => assumption); k_whole); intro h' F' N'; (try k_sweep)))
local macro_rules | `(tactic| walk_at "call builtin:collections.deque.clear") => `(tactic| (k_here; (with_reducible show wpAny _ _ (call (Value.builtin _) [Value.ref _]) _ _ _); k_dflt (refine' clear_K ?F ?N ?U ?_; (case F => k_asm); (case N => k_asm); (case U => (intro k'; k_upd)); k_whole); intro h' k' F' N'; (try k_sweep)))
local macro_rules | `(tactic| walk_at "call ref") => `(tactic| (k_here; (first | (refine' call_meth ?k1 ?k2 ?_; (case k1 => k_asm); (case k2 => k_mem)) | refine wpAny_call ?_); (show codeAny _ _ (.call (.ref 216) _) _ _)))
section
variable {w : World} {base h₀ : Heap} {e1 e2 : Env} {L : Addr} {m : Str → Option Value} {s : Shared} {mg mb : Str → Option Value} {mean : ExcName → Option Value} {R : Result → Shared → Prop}
theorem add_fin {aT dT aD D' : Addr} {d : TD} {mx cs : Int} {u1 u2 : Tok} {rs : Bool} {k : Int} {ents : List Ent} {rest : List (Addr × Obj)} {nm vl : Array UInt8} {t1 t2 : Tok}
    (B : Below (callerA.deeper e1) base [e1] h₀) (F : Fr h₀ L s.heap m) (X₀ : (KF w.params).In h₀) (T : Top qv (looseW qv lsv) mean mg mb h₀)
    (N : News h₀ L s.heap ((D', { cls := .type "tuple", data := .seq [Value.bytes nm t1, Value.bytes vl t2].toArray }) :: (dT, tdObj d mx u1 cs u2 rs aD) :: (aD, dqObj k (.ref D' :: refsE ents)) :: (aT, instObj 219 dT) :: rest))
    (n1 : @Ne Nat dT aD) (n2 : @Ne Nat dT aT) (n3 : @Ne Nat aD aT) (r1 : ∀ p ∈ rest, p.1 ≠ dT) (r2 : ∀ p ∈ rest, p.1 ≠ aD)
    (d1 : @Ne Nat D' dT) (d2 : @Ne Nat D' aD) (d3 : @Ne Nat D' aT)
    (hin : AllIn ents rest) (hcs : cs = sumE ents + (32 + (nm.size : Int) + (vl.size : Int))) (hmx : 0 ≤ mx) (hlen : ents.length ≤ 900) (hn1 : nm.size ≤ 1000) (hv1 : vl.size ≤ 1000)
    (hf : e2.frame = some L) (hke : e2.scope.kind = .function)
    (h : ∀ E' new k' u2' h' tk, E'.map Ent.kv = ((nm, vl) :: ents.map Ent.kv).take E'.length → Shr mx ((nm, vl) :: ents.map Ent.kv) E'.length → AllIn E' (new ++ rest) → (∀ p ∈ new, p.1 ≠ dT ∧ p.1 ≠ aD ∧ p.1 ≠ aT) → Fr h₀ L h' m →
      News h₀ L h' ((dT, tdObj d mx u1 (sumE E') u2' rs aD) :: (aD, dqObj k' (refsE E')) :: (aT, instObj 219 dT) :: (new ++ rest)) →
      R (.ok (.ret .none)) { s with heap := h', toks := tk }) :
    codeAny (model PR w) ((callerA.deeper e1).deeper e2) (.call (.ref 216) ⟨[.ref aT], []⟩) R s := by
  refine shrink_K (d := d) (u1 := u1) (u2 := u2) (rs := rs) (k := k) (cs := cs) (ents := ⟨D', nm, vl, t1, t2⟩ :: ents) (rest := (D', { cls := .type "tuple", data := .seq [Value.bytes nm t1, Value.bytes vl t2].toArray }) :: rest) B F X₀ T
    (News.perm N (by intro p hp; simp only [List.mem_cons] at hp ⊢; rcases hp with h | h | h | h | h <;> simp [h])) n1 n2 n3 ?_ ?_ ?_ ?_ hmx ?_ hf hke ?_
  · intro p hp; rcases List.mem_cons.mp hp with h | h
    · subst h; exact d1
    · exact r1 p h
  · intro p hp; rcases List.mem_cons.mp hp with h | h
    · subst h; exact d2
    · exact r2 p h
  · intro e he; rcases List.mem_cons.mp he with h | h
    · subst h; exact ⟨.head _, hn1, hv1⟩
    · have z := hin e h; exact ⟨.tail _ z.1, z.2⟩
  · subst hcs; simp only [sumE, List.map_cons, List.sum_cons, Ent.size]; omega
  · simp only [List.length_cons]; omega
  · intro n k' u2' h' tk hs F1 N1
    have hl : ((⟨D', nm, vl, t1, t2⟩ :: ents : List Ent).take n).length = n := by rw [List.length_take]; have := hs.1; omega
    refine h ((⟨D', nm, vl, t1, t2⟩ :: ents : List Ent).take n) [(D', { cls := .type "tuple", data := .seq [Value.bytes nm t1, Value.bytes vl t2].toArray })] k' u2' h' tk ?_ ?_ ?_ ?_ F1 N1
    · rw [hl, List.map_take]; rfl
    · rw [hl]; exact Shr.of hs
    · intro e he; rcases List.mem_cons.mp (List.mem_of_mem_take he) with h | h
      · subst h; exact ⟨.head _, hn1, hv1⟩
      · have z := hin e h; exact ⟨.tail _ z.1, z.2⟩
    · intro p hp; rw [List.mem_singleton] at hp; subst hp; exact ⟨d1, d2, d3⟩
theorem add_K {aT dT aD : Addr} {d : TD} {mx cs : Int} {u1 u2 : Tok} {rs : Bool} {k : Int} {ents : List Ent} {rest : List (Addr × Obj)} {nm vl : Array UInt8} {t1 t2 : Tok}
    (B : Below callerA base [] h₀) (F : Fr h₀ L s.heap m) (X₀ : (KF w.params).In h₀) (T : Top qv (looseW qv lsv) mean mg mb h₀)
    (N : News h₀ L s.heap ((dT, tdObj d mx u1 cs u2 rs aD) :: (aD, dqObj k (refsE ents)) :: (aT, instObj 219 dT) :: rest))
    (n1 : @Ne Nat dT aD) (n2 : @Ne Nat dT aT) (n3 : @Ne Nat aD aT) (r1 : ∀ p ∈ rest, p.1 ≠ dT) (r2 : ∀ p ∈ rest, p.1 ≠ aD)
    (hin : AllIn ents rest) (hcs : cs = sumE ents) (hmx : 0 ≤ mx) (hlen : ents.length ≤ 900) (hn1 : nm.size ≤ 1000) (hv1 : vl.size ≤ 1000)
    (hf : e1.frame = some L) (hke : e1.scope.kind = .function)
    (h : ∀ E' new k' u2' h' tk, E'.map Ent.kv = ((nm, vl) :: ents.map Ent.kv).take E'.length → Shr mx ((nm, vl) :: ents.map Ent.kv) E'.length → AllIn E' (new ++ rest) → (∀ p ∈ new, p.1 ≠ dT ∧ p.1 ≠ aD ∧ p.1 ≠ aT) → Fr h₀ L h' m →
      News h₀ L h' ((dT, tdObj d mx u1 (sumE E') u2' rs aD) :: (aD, dqObj k' (refsE E')) :: (aT, instObj 219 dT) :: (new ++ rest)) →
      R (.ok (.ret .none)) { s with heap := h', toks := tk }) :
    codeAny (model PR w) (callerA.deeper e1) (.call (.ref 185) ⟨[.ref aT, .bytes nm t1, .bytes vl t2], []⟩) R s := by
  w_on
  w_top off
  refine' code_def B F X₀ N T rfl hf hke ?k6 ?k7 ?k8 ?k9 ?kB ?_ ?c2 ?c3 ?c4 ?c5
  case k6 => k_is
  case k7 => k_is
  case k8 => k_room
  case k9 => exact BindsTo.of_eq rfl
  case kB => exact locs rfl
  case c2 => exact rfl
  case c3 => exact rfl
  case c4 => exact rfl
  case c5 => decide
  intro g' L' h' FG' F' N' B' X' T'
  have hz : (refsE ents).length < sizeLine := by rw [sizeLine_eq]; simp [refsE]; omega
  try dsimp only
  try k_fold
  k_steps
  · rename News _ _ _ _ => nE
    rename Fr _ _ _ _ => fE
    refine h [] [] _ _ _ _ rfl ⟨Nat.zero_le _, hmx, .inr ?_⟩ (fun e he => nomatch he) (fun p hp => nomatch hp) (by assumption) (by assumption)
    simp only [List.length_nil, Nat.zero_add, List.take_succ_cons, List.take_zero, sumKV, List.map_cons, List.map_nil, List.sum_cons, List.sum_nil, kvSize]
    omega
  · rename News _ _ _ _ => nE
    rename Fr _ _ _ _ => fE
    refine add_fin (by assumption) fE (by assumption) (by assumption) nE n1 n2 n3 r1 r2 (by omega) (by omega) (by omega) hin (by rw [hcs]) hmx hlen hn1 hv1 rfl rfl ?_
    intro E' new k' u2' h' tk a1 a2 a3 a4 F1 N1
    try dsimp only
    try k_fold
    k_steps
    exact h E' new k' u2' _ _ a1 a2 a3 a4 (by assumption) (by assumption)
end
theorem kvSize_pos (p : KV) : 0 < kvSize p := by unfold kvSize; omega
theorem Shr.zero {v : Int} {l : List KV} (h : v ≤ 0) (h0 : 0 ≤ v) : Shr v l 0 := by
  refine ⟨Nat.zero_le _, h0, ?_⟩
  cases l with
  | nil => exact .inl rfl
  | cons p l =>
    right
    have := kvSize_pos p
    simp only [Nat.zero_add, List.take_succ_cons, List.take_zero, sumKV, List.map_cons, List.map_nil, List.sum_cons, List.sum_nil]
    omega
section
variable {w : World} {base h₀ : Heap} {e1 e2 : Env} {L : Addr} {m : Str → Option Value} {s : Shared} {mg mb : Str → Option Value} {mean : ExcName → Option Value} {R : Result → Shared → Prop}
theorem shrink_K2 {aT dT aD : Addr} {d : TD} {mx cs : Int} {u1 u2 : Tok} {rs : Bool} {k : Int} {ents : List Ent} {rest : List (Addr × Obj)}
    (B : Below (callerA.deeper e1).in1.in1 base [e1] h₀) (F : Fr h₀ L s.heap m) (X₀ : (KF w.params).In h₀) (T : Top qv (looseW qv lsv) mean mg mb h₀)
    (N : News h₀ L s.heap ((dT, tdObj d mx u1 cs u2 rs aD) :: (aD, dqObj k (refsE ents)) :: (aT, instObj 219 dT) :: rest))
    (n1 : @Ne Nat dT aD) (n2 : @Ne Nat dT aT) (n3 : @Ne Nat aD aT) (r1 : ∀ p ∈ rest, p.1 ≠ dT) (r2 : ∀ p ∈ rest, p.1 ≠ aD)
    (hin : AllIn ents rest) (hcs : cs = sumE ents) (hmx : 0 ≤ mx) (hlen : ents.length ≤ 1000)
    (hf : e2.frame = some L) (hke : e2.scope.kind = .function)
    (h : ∀ n k' u2' h' tk, Shrunk mx ents n → Fr h₀ L h' m → News h₀ L h' ((dT, tdObj d mx u1 (sumE (ents.take n)) u2' rs aD) :: (aD, dqObj k' (refsE (ents.take n))) :: (aT, instObj 219 dT) :: rest) →
      R (.ok (.ret .none)) { s with heap := h', toks := tk }) :
    codeAny (model PR w) ((callerA.deeper e1).in1.in1.deeper e2) (.call (.ref 216) ⟨[.ref aT], []⟩) R s := by
  w_on
  w_top off
  refine' code_def B F X₀ N T rfl hf hke ?k6 ?k7 ?k8 ?k9 ?kB ?_ ?c2 ?c3 ?c4 ?c5
  case k6 => k_is
  case k7 => k_is
  case k8 => k_room
  case k9 => exact BindsTo.of_eq rfl
  case kB => exact locs rfl
  case c2 => exact rfl
  case c3 => exact rfl
  case c4 => exact rfl
  case c5 => decide
  intro g' L' h' FG' F' N' B' X' T'
  try dsimp only
  try k_fold
  iterate 8 walk1
  refine ksw_while (σ := Nat × Tok × Int) (fun c => (dT, tdObj d mx u1 cs u2 rs aD) :: (aD, dqObj c.2.2 (refsE (ents.take c.1))) :: (aT, instObj 219 dT) :: rest) (fun c => [(Str.ofString "cursize", .int (sumE (ents.take c.1)) c.2.1)]) (fun _ => True) [Str.ofString "name", Str.ofString "value"]
    (fun c => c.1 ≤ ents.length ∧ (c.1 = ents.length ∨ mx < sumE (ents.take (c.1+1)))) (fun c => c.1) (ents.length, u2, k) (by assumption) (by rw [List.take_length]; assumption) trivial ?hk ⟨Nat.le_refl _, .inl rfl⟩ ?turn
  case hk => intro p hp; simp only [List.mem_singleton] at hp; subst hp; simp only [List.take_length, ← hcs]; rfl
  case turn =>
    rintro ⟨n, tc, kc⟩ u hh tkk _ ⟨hn, hmin⟩ FF NN
    dsimp only at FF NN hn hmin ⊢
    by_cases hgt : mx < sumE (ents.take n)
    · obtain ⟨n, rfl⟩ : ∃ n', n = n' + 1 := by
        cases n with
        | zero => simp [sumE] at hgt; omega
        | succ n => exact ⟨n, rfl⟩
      have hlt : n < ents.length := hn
      rw [take_refs hlt] at NN
      obtain ⟨hm, hs1, hs2⟩ := hin ents[n] (List.getElem_mem hlt)
      have hz : (refsE (ents.take n)).length ≤ sizeLine := by rw [sizeLine_eq]; simp [refsE]; omega
      (try k_fold)
      k_steps
      rename News _ _ _ _ => nE'
      rename Fr _ _ _ _ => fE'
      have e : sumE (ents.take (n + 1)) - (32 + (ents[n].nm.size : Int) + (ents[n].vl.size : Int)) = sumE (ents.take n) := by
        rw [take_sum hlt, Ent.size]; omega
      refine ksw_end (n, ?t, kc + 1) fE' nE' (fun p hp => hp) trivial ?hk2 ?hr ?hp ?hm
      case hk2 =>
        refine List.forall_mem_cons.mpr ⟨?_, List.forall_mem_nil _⟩
        exact congrArg (fun z => some (Value.int z _)) e
      case hr => exact fun z h1 h2 => have a1 := h1 _ (.head _); have a2 := kst_two h2; (if_neg a1).trans ((if_neg a2.2).trans ((if_neg a2.1).trans ((if_neg a1).trans (if_neg (fun h => by rw [h2] at h; exact Bool.noConfusion h)))))
      case hp => exact ⟨by dsimp only; omega, .inr hgt⟩
      case hm => dsimp only; omega
    · (try k_fold)
      k_steps
      refine h n kc _ _ _ ⟨hn, by omega, hmin⟩ (by assumption) (by assumption)
end
section
variable {w : World} {base h₀ : Heap} {e1 e2 : Env} {L : Addr} {m : Str → Option Value} {s : Shared} {mg mb : Str → Option Value} {mean : ExcName → Option Value} {R : Result → Shared → Prop}
theorem set_K2 {aT dT aD : Addr} {d : TD} {mx cs v : Int} {u1 u2 tv : Tok} {rs : Bool} {k : Int} {ents : List Ent} {rest : List (Addr × Obj)}
    (B : Below callerA base [] h₀) (F : Fr h₀ L s.heap m) (X₀ : (KF w.params).In h₀) (T : Top qv (looseW qv lsv) mean mg mb h₀)
    (N : News h₀ L s.heap ((dT, tdObj d mx u1 cs u2 rs aD) :: (aD, dqObj k (refsE ents)) :: (aT, instObj 219 dT) :: rest))
    (n1 : @Ne Nat dT aD) (n2 : @Ne Nat dT aT) (n3 : @Ne Nat aD aT) (r1 : ∀ p ∈ rest, p.1 ≠ dT) (r2 : ∀ p ∈ rest, p.1 ≠ aD)
    (hin : AllIn ents rest) (hcs : cs = sumE ents) (hmx : 0 ≤ mx) (hmx2 : mx ≤ 5000) (hlen : ents.length ≤ 900) (hle : cs ≤ mx) (hv : 0 ≤ v) (hv2 : v ≤ 5000)
    (hf : e1.frame = some L) (hke : e1.scope.kind = .function)
    (h : ∀ n k' u1' u2' rs' h' tk, Shr v (ents.map Ent.kv) n → Fr h₀ L h' m →
      News h₀ L h' ((dT, tdObj d v u1' (sumE (ents.take n)) u2' rs' aD) :: (aD, dqObj k' (refsE (ents.take n))) :: (aT, instObj 219 dT) :: rest) →
      R (.ok (.ret .none)) { s with heap := h', toks := tk }) :
    codeAny (model PR w) (callerA.deeper e1).in1.in1 (.call (.ref 208) ⟨[.ref aT, .int v tv], []⟩) R s := by
  w_on
  w_top off
  refine' code_def B F X₀ N T rfl hf hke ?k6 ?k7 ?k8 ?k9 ?kB ?_ ?c2 ?c3 ?c4 ?c5
  case k6 => k_is
  case k7 => k_is
  case k8 => k_room
  case k9 => exact BindsTo.of_eq rfl
  case kB => exact locs rfl
  case c2 => exact rfl
  case c3 => exact rfl
  case c4 => exact rfl
  case c5 => decide
  intro g' L' h' FG' F' N' B' X' T'
  have hz : (refsE ents).length < sizeLine := by rw [sizeLine_eq]; simp [refsE]; omega
  try dsimp only
  try k_fold
  k_steps
  · refine h 0 _ _ _ _ _ _ (Shr.zero (by assumption) hv) (by assumption) (by assumption)
  · rename News _ _ _ _ => nE
    rename Fr _ _ _ _ => fE
    refine shrink_K2 (by assumption) fE (by assumption) (by assumption) nE n1 n2 n3 r1 r2 hin hcs hv (by omega) rfl rfl ?_
    intro n k' u2' h' tk a1 F1 N1
    try dsimp only
    try k_fold
    k_steps
    exact h n k' _ _ _ _ _ (Shr.of a1) (by assumption) (by assumption)
  · rename News _ _ _ _ => nE
    rename Fr _ _ _ _ => fE
    have z := h ents.length
    rw [List.take_length, ← hcs] at z
    refine z _ _ _ _ _ _ ⟨by simp, ?_, .inl (by simp)⟩ (by assumption) (by assumption)
    rw [← List.map_take, List.take_length, ← sumE_eq]; omega
end
namespace DQ
theorem slot_len : Slot "collections.deque" "__len__" "collections.deque.__len__" :=
  .of (owner := "collections.deque") (n := "__len__") (by rw [typeLookup_type, builtinLookup_eq_fast]; kernel_rfl) (by decide +kernel) (by decide +kernel) (by decide +kernel)
    (by first | exact .inl (by decide +kernel) | exact .inr (by decide +kernel)) (by rw [isSubtype_type]; kernel_rfl)
theorem entry_dlen : entryFor table "collections.deque.__len__" = some Builtin.«collections.deque.__len__» := entryFor_of_tree (by kernel_rfl)
theorem args_dlen (a : Value) : argsOk "collections.deque.__len__" ⟨[a], []⟩ := by
  unfold argsOk; rw [signature?_of (id := "collections.deque.__len__") (n := ['_','_','n','e','l','_','_']) (o := ['e','u','q','e','d','.','s','n','o','i','t','c','e','l','l','o','c']) (by kernel_rfl) owner_dq]; kernel_rfl
theorem slot_getitem : Slot "collections.deque" "__getitem__" "collections.deque.__getitem__" :=
  .of (owner := "collections.deque") (n := "__getitem__") (by rw [typeLookup_type, builtinLookup_eq_fast]; kernel_rfl) (by decide +kernel) (by decide +kernel) (by decide +kernel)
    (by first | exact .inl (by decide +kernel) | exact .inr (by decide +kernel)) (by rw [isSubtype_type]; kernel_rfl)
theorem entry_getitem : entryFor table "collections.deque.__getitem__" = some Builtin.«collections.deque.__getitem__» := entryFor_of_tree (by kernel_rfl)
theorem args_getitem (a b : Value) : argsOk "collections.deque.__getitem__" ⟨[a, b], []⟩ := by
  unfold argsOk; rw [signature?_of (id := "collections.deque.__getitem__") (n := ['_','_','m','e','t','i','t','e','g','_','_']) (o := ['e','u','q','e','d','.','s','n','o','i','t','c','e','l','l','o','c']) (by kernel_rfl) owner_dq]; kernel_rfl
theorem entry_pindex : entryFor table "proto.index" = some Builtin.«proto.index» := entryFor_of_tree (by kernel_rfl)
section
variable {prog : Program} {w : World} {A : Around} {E : Value → Shared → Prop} {s : Shared} {aD : Addr} {k : Int} {items : List Value}
theorem len_dq {Q : Value → Shared → Prop} (ho : s.heap.get? aD = some (dqObj k items)) (hz : items.length ≤ 100000)
    (h : Q (.int items.length (s.toks + 1)) { s with toks := s.toks + 1 + 1 }) : wpAny (model prog w) A (call (.builtin "len") [.ref aD]) Q E s := by
  refine call_len_slot (T := "collections.deque") ⟨_, ho, rfl⟩ slot_len (n := items.length) (fun Q' hq => call_dq slot_len entry_dlen (args_dlen _) ho ?_) (by omega) (by omega) h
  show wpAny _ _ (do retInt (← Builtin.Deque.size (.ref aD))) _ _ _
  refine wpAny_bind (size_dq ho ?_)
  exact wpAny_bind (wpAny_mkInt (wpAny_pure ⟨_, rfl, hq⟩))
theorem seqKey_dq {i : Int} {u : Tok} {Q : Value → Shared → Prop} (ho : s.heap.get? aD = some (dqObj k items)) (h0 : 0 ≤ i) (h1 : i < 2 ^ 63)
    (h : Q (.int i s.toks) { s with toks := s.toks + 1 }) : wpAny (model prog w) A (sequenceKey (.ref aD) (.int i u) (Str.ofString "__getitem__")) Q E s := by
  unfold sequenceKey
  refine wpAny_bind (wpAny_typeOf (T := "collections.deque") ⟨_, ho, rfl⟩ ?_)
  show wpAny _ _ (if _ then _ else _) _ _ _
  rw [if_neg (by decide)]
  refine wpAny_bind (wpAny_of_eq (a := some (.builtin "collections.deque.__getitem__")) slot_getitem.lookup ?_)
  show wpAny _ _ (if _ then _ else _) _ _ _
  rw [if_neg (by decide)]
  refine wpAny_bind (wpAny_specialOf (T := "int") (typeIs_int s i u) int_index ?_)
  show wpAny _ _ (if _ then _ else _) _ _ _
  rw [if_neg (by simp)]
  refine wpAny_runValue (codeAny_builtin entry_pindex ?_)
  show wpAny _ _ (asIndex (.int i u) >>= _) _ _ _
  refine wpAny_bind (wpAny_of_eq (a := i) rfl ?_)
  rw [if_neg (by simp only [Bool.or_eq_true, decide_eq_true_eq]; omega)]
  exact wpAny_bind (wpAny_mkInt (wpAny_pure h))
theorem getItem_dq {i : Int} {u : Tok} {x : Value} {Q : Value → Shared → Prop} (ho : s.heap.get? aD = some (dqObj k items)) (h0 : 0 ≤ i) (h1 : i < 2 ^ 63) (hx : items[i.toNat]? = some x)
    (h : Q x { s with toks := s.toks + 1 }) : wpAny (model prog w) A (getItem (.ref aD) (.int i u)) Q E s := by
  unfold getItem
  refine wpAny_holding ?_
  refine wpAny_bind (seqKey_dq ho h0 h1 ?_)
  refine wpAny_bind (wpAny_callSpecial?_slot (name := Str.ofString "__getitem__") (T := "collections.deque") ⟨_, ho, rfl⟩ slot_getitem (call_dq (k := k) (items := items) slot_getitem entry_getitem (args_getitem _ _) ho ?_))
  have hl : i.toNat < items.length := (List.getElem?_eq_some_iff.mp hx).1
  have hsi : seqIndex? i items.length = some i.toNat := PySem.seqIndex_of h0 (by omega)
  show wpAny _ _ ((asIndex (.int i s.toks) >>= _) >>= _) _ _ _
  refine wpAny_bind (wpAny_bind (wpAny_of_eq (a := i) rfl ?_))
  rw [if_neg (by simp only [Bool.or_eq_true, decide_eq_true_eq]; omega)]
  refine wpAny_bind (size_dq (k := k) (items := items) ho ?_)
  rw [hsi]
  refine wpAny_pure ?_
  refine wpAny_bind (items_dq (k := k) (items := items) ho ?_)
  refine wpAny_pure ⟨x, ?_, wpAny_pure h⟩
  rw [Array.getD_eq_getD_getElem?, List.getElem?_toArray, hx]; rfl
theorem item_dq {value slice : Expr} {i : Int} {u : Tok} {x : Value} {Q : Value → Shared → Prop} (ho : s.heap.get? aD = some (dqObj k items)) (h0 : 0 ≤ i) (h1 : i < 2 ^ 63) (hx : items[i.toNat]? = some x)
    (h : Q x { s with toks := s.toks + 1 })
    (hs : subscripted slice false (.ref aD) (.int i u) = operate [.ref aD, .int i u] (getItem (.ref aD) (.int i u)) := by with_unfolding_all rfl) (hg : ∀ r, letTemporaryGo value (.ref aD) r = pure () := by intro _; with_unfolding_all rfl) :
    wpAny (model prog w) A (subscriptTail value slice (.ref aD) (.int i u)) Q E s :=
  subscriptTail_builtin (T := "collections.deque") ⟨_, ho, rfl⟩ slot_getitem.lookup (getItem_dq ho h0 h1 hx h) hs hg
end
end DQ
abbrev stRefs : List Value := (List.range 61).map fun j => .ref (96 + j)
theorem st_look (P : Params) : ∃ n d sl, (KF P).lookup (157 : Addr) = some { cls := .type "tuple", dict := d, data := .seq stRefs.toArray n, slots := sl } := ⟨_, _, _, rfl⟩
section
variable {w : World} {A : Around} {E : Value → Shared → Prop} {s : Shared} {h₀ : Heap} {L aD : Addr} {m : Str → Option Value} {news : List (Addr × Obj)} {k : Int} {items : List Value} {Q : Value → Shared → Prop}
theorem st_item {value slice : Expr} {i : Int} {u : Tok} (F : Fr h₀ L s.heap m) (X₀ : (KF w.params).In h₀) (h0 : 0 ≤ i) (h1 : i < 61) (h : Q (.ref (96 + i.toNat)) s)
    (hs : subscripted slice false (.ref (157 : Addr)) (.int i u) = operate [.ref (157 : Addr), .int i u] (getItem (.ref (157 : Addr)) (.int i u)) := by with_unfolding_all rfl) (hg : ∀ r, letTemporaryGo value (.ref (157 : Addr)) r = pure () := by intro _; with_unfolding_all rfl) :
    wpAny (model PR w) A (subscriptTail value slice (.ref (157 : Addr)) (.int i u)) Q E s := by
  obtain ⟨n, d, sl, e⟩ := st_look w.params
  refine item_tupleL (l := stRefs) (j := i.toNat) (kun_topT F X₀ e) (by omega) (by omega) (PySem.seqIndex_of h0 (by simp; omega)) ?_ h hs hg
  have : i.toNat < 61 := by omega
  simp [List.getElem?_range this]
theorem len_K {Q : Value → Shared → Prop} (N : News h₀ L s.heap news) (hm : (aD, dqObj k items) ∈ news) (hz : items.length ≤ 100000)
    (h : Q (.int items.length (s.toks + 1)) { s with toks := s.toks + 1 + 1 }) : wpAny (model PR w) A (call (.builtin "len") [.ref aD]) Q E s := DQ.len_dq (N.get hm) hz h
theorem item_K {value slice : Expr} {i : Int} {u : Tok} {x : Value} (N : News h₀ L s.heap news) (hm : (aD, dqObj k items) ∈ news) (h0 : 0 ≤ i) (h1 : i < 100000) (hx : items[i.toNat]? = some x)
    (h : Q x { s with toks := s.toks + 1 })
    (hs : subscripted slice false (.ref aD) (.int i u) = operate [.ref aD, .int i u] (getItem (.ref aD) (.int i u)) := by with_unfolding_all rfl) (hg : ∀ r, letTemporaryGo value (.ref aD) r = pure () := by intro _; with_unfolding_all rfl) :
    wpAny (model PR w) A (subscriptTail value slice (.ref aD) (.int i u)) Q E s := DQ.item_dq (N.get hm) h0 (by omega) hx h hs hg
end
local macro_rules | `(tactic| walk_at "call builtin:len") => `(tactic| (k_here; (with_reducible show wpAny _ _ (call (Value.builtin "len") [Value.ref _]) _ _ _); k_dflt (refine' len_K ?N ?m ?z ?_; (case N => k_asm); (case m => k_mem); (case z => omega); k_whole)))
local macro_rules | `(tactic| walk_at "subscriptTail") => `(tactic| (k_here; (with_reducible show wpAny _ _ (subscriptTail _ _ (Value.ref _) (Value.int _ _)) _ _ _); k_dflt (refine' item_K ?N ?m ?a ?b ?c ?_; (case N => k_asm); (case m => k_mem); (case a => omega); (case b => omega); (case c => (first | assumption | (apply_assumption; omega))); k_whole)))
local macro_rules | `(tactic| walk_at "subscriptTail") => `(tactic| (k_here; (show wpAny _ _ (subscriptTail _ _ (Value.ref (157 : Addr)) (Value.int _ _)) _ _ _); k_dflt (refine' st_item ?F ?X ?a ?b ?_; (case F => k_asm); (case X => k_asm); (case a => omega); (case b => omega); k_whole)))
section
variable {w : World} {base h₀ : Heap} {e1 e2 : Env} {L : Addr} {m : Str → Option Value} {s : Shared} {mg mb : Str → Option Value} {mean : ExcName → Option Value} {R : Result → Shared → Prop}
theorem get_K {aT dT aD : Addr} {d : TD} {mx cs v : Int} {u1 u2 tv : Tok} {rs : Bool} {k : Int} {ents : List Ent} {news : List (Addr × Obj)}
    (B : Below callerA base [] h₀) (F : Fr h₀ L s.heap m) (X₀ : (KF w.params).In h₀) (T : Top qv (looseW qv lsv) mean mg mb h₀)
    (N : News h₀ L s.heap news) (m1 : (dT, tdObj d mx u1 cs u2 rs aD) ∈ news) (m2 : (aD, dqObj k (refsE ents)) ∈ news) (m3 : (aT, instObj 219 dT) ∈ news)

    (hlen : ents.length ≤ 900) (hv : 1 ≤ v) (hv2 : v ≤ 61 + ents.length)
    (hf : e1.frame = some L) (hke : e1.scope.kind = .function)
    (h : ∀ h' tk x, ((v ≤ 61 ∧ x = .ref (95 + v.toNat)) ∨ (61 < v ∧ (refsE ents)[(v - 62).toNat]? = some x)) → Fr h₀ L h' m →
      News h₀ L h' news →
      R (.ok (.ret x)) { s with heap := h', toks := tk }) :
    codeAny (model PR w) (callerA.deeper e1) (.call (.ref 171) ⟨[.ref aT, .int v tv], []⟩) R s := by
  w_on
  w_top off
  refine' code_def B F X₀ N T rfl hf hke ?k6 ?k7 ?k8 ?k9 ?kB ?_ ?c2 ?c3 ?c4 ?c5
  case k6 => k_is
  case k7 => k_is
  case k8 => k_room
  case k9 => exact BindsTo.of_eq rfl
  case kB => exact locs rfl
  case c2 => exact rfl
  case c3 => exact rfl
  case c4 => exact rfl
  case c5 => decide
  intro g' L' h' FG' F' N' B' X' T'
  have hz : (refsE ents).length = ents.length := by simp [refsE]
  obtain ⟨x, hx⟩ : ∃ x, 61 < v → (refsE ents)[(v - 1 - 61).toNat]? = some x := by
    by_cases h9 : 61 < v
    · exact ⟨(refsE ents)[(v - 1 - 61).toNat]'(by omega), fun _ => List.getElem?_eq_getElem _⟩
    · exact ⟨.none, fun h => absurd h h9⟩
  try dsimp only
  try k_fold
  k_steps
  · refine h _ _ _ (.inl ⟨by omega, ?_⟩) (by assumption) (by assumption)
    have : 96 + (v - 1).toNat = 95 + v.toNat := by omega
    rw [this]
  · refine h _ _ _ (.inr ⟨by omega, ?_⟩) (by assumption) (by assumption)
    have e : v - 62 = v - 1 - 61 := by omega
    rw [e]; exact hx (by omega)
end
namespace DQ
abbrev dqIter (d : Addr) (k : Int) (n i : Nat) : Obj := { cls := .type "collections._deque_iterator", data := .fields #[.ref d, .int i 0, .int k 0, .int ((n : Int) - i) 0] }
theorem owner_it : Manifest.owners.lookup "collections._deque_iterator" = some Manifest.sig_collections__deque_iterator := by kernel_rfl
theorem slot_iter : Slot "collections.deque" "__iter__" "collections.deque.__iter__" :=
  .of (owner := "collections.deque") (n := "__iter__") (by rw [typeLookup_type, builtinLookup_eq_fast]; kernel_rfl) (by decide +kernel) (by decide +kernel) (by decide +kernel)
    (by first | exact .inl (by decide +kernel) | exact .inr (by decide +kernel)) (by rw [isSubtype_type]; kernel_rfl)
theorem entry_iter : entryFor table "collections.deque.__iter__" = some Builtin.«collections.deque.__iter__» := entryFor_of_tree (by kernel_rfl)
theorem args_iter (a : Value) : argsOk "collections.deque.__iter__" ⟨[a], []⟩ := by
  unfold argsOk; rw [signature?_of (id := "collections.deque.__iter__") (n := ['_','_','r','e','t','i','_','_']) (o := ['e','u','q','e','d','.','s','n','o','i','t','c','e','l','l','o','c']) (by kernel_rfl) owner_dq]; kernel_rfl
theorem slot_next : Slot "collections._deque_iterator" "__next__" "collections._deque_iterator.__next__" :=
  .of (owner := "collections._deque_iterator") (n := "__next__") (by rw [typeLookup_type, builtinLookup_eq_fast]; kernel_rfl) (by decide +kernel) (by decide +kernel) (by decide +kernel)
    (by first | exact .inl (by decide +kernel) | exact .inr (by decide +kernel)) (by rw [isSubtype_type]; kernel_rfl)
theorem entry_next : entryFor table "collections._deque_iterator.__next__" = some Builtin.«collections._deque_iterator.__next__» := entryFor_of_tree (by kernel_rfl)
theorem args_next (a : Value) : argsOk "collections._deque_iterator.__next__" ⟨[a], []⟩ := by
  unfold argsOk; rw [signature?_of (id := "collections._deque_iterator.__next__") (n := ['_','_','t','x','e','n','_','_']) (o := ['r','o','t','a','r','e','t','i','_','e','u','q','e','d','_','.','s','n','o','i','t','c','e','l','l','o','c']) (by kernel_rfl) owner_it]; kernel_rfl
section
variable {prog : Program} {w : World} {A : Around} {E : Value → Shared → Prop} {s : Shared} {aD it : Addr} {k : Int} {items : List Value} {i : Nat}
theorem pyIter_dq {Q : Value → Shared → Prop} (ho : s.heap.get? aD = some (dqObj k items))
    (hQ : Q (.ref s.heap.objs.size) { s with heap := s.heap.push (dqIter aD k items.length 0) }) : wpAny (model prog w) A (pyIter (.ref aD)) Q E s := by
  refine wpAny_pyIter_slot (T := "collections.deque") ⟨_, ho, rfl⟩ slot_iter (call_dq slot_iter entry_iter (args_iter _) ho ?_)
  show wpAny _ _ (Builtin.Deque.state (.ref aD) >>= _) _ _ _
  refine wpAny_bind (state_dq ho ?_)
  refine wpAny_bind (size_dq ho ?_)
  refine wpAny_bind (wpAny_newObj_type ?_)
  have e : (items.length : Int) - ((0 : Nat) : Int) = items.length := by omega
  exact wpAny_pure ⟨_, rfl, "collections._deque_iterator", _, ⟨_, Heap.get?_push_size _ rfl, rfl⟩, slot_next.lookup, by
    have z := hQ
    rw [dqIter, e] at z
    exact z⟩
theorem raw_it {j : Nat} {x : Int} {o : Obj} {vs : Array Value} {Q : Int → Shared → Prop} (ho : s.heap.get? it = some o) (hd : o.data = .fields vs) (hj : vs[j]? = some (.int x 0)) (h : Q x s) : wpAny (model prog w) A (Builtin.DequeIter.raw (.ref it) j) Q E s := by
  unfold Builtin.DequeIter.raw
  exact wpAny_bind (wpAny_field ho hd hj (wpAny_pure h))
theorem next_item {x : Value} {Q : Value → Shared → Prop} (hit : s.heap.get? it = some (dqIter aD k items.length i)) (ho : s.heap.get? aD = some (dqObj k items)) (hx : items[i]? = some x)
    (hQ : ∀ h', h'.get? it = some (dqIter aD k items.length (i + 1)) → Heap.SameBut it s.heap h' → Q x { s with heap := h' }) :
    wpAny (model prog w) A (Builtin.SmallTypes.nextOf (.ref it)) Q E s := by
  unfold Builtin.SmallTypes.nextOf
  have hl : i < items.length := (List.getElem?_eq_some_iff.mp hx).1
  have hT : s.TypeIs (.ref it) "collections._deque_iterator" := ⟨_, hit, rfl⟩
  refine wpAny_bind (wpAny_callSpecial?_slot (name := Str.ofString "__next__") hT slot_next (wpAny_call_entry slot_next hT entry_next ?_ (args_next _)))
  show wpAny _ _ (Builtin.DequeIter.advance (.ref it) 1 >>= _) _ _ _
  refine wpAny_bind ?_
  unfold Builtin.DequeIter.advance
  refine wpAny_bind (wpAny_field hit rfl (x := .ref aD) rfl ?_)
  rw [if_neg (by decide)]
  refine wpAny_bind (state_dq ho ?_)
  refine wpAny_bind (raw_it (x := k) hit rfl rfl ?_)
  rw [if_neg (by simp)]
  refine wpAny_bind (raw_it (x := (items.length : Int) - i) hit rfl rfl ?_)
  rw [if_neg (by simp only [beq_iff_eq]; omega)]
  refine wpAny_bind (raw_it (x := (i : Int)) hit rfl rfl ?_)
  refine wpAny_bind (items_dq ho ?_)
  have e1 : items.toArray[((i : Nat) : Int).toNat]? = some x := by rw [Int.toNat_natCast, List.getElem?_toArray]; exact hx
  rw [e1]
  refine wpAny_bind (wpAny_setField_rec hit (by simp) fun h₁ e₁ s₁ => ?_)
  refine wpAny_bind (wpAny_setField_rec e₁ (by simp) fun h₂ e₂ s₂ => ?_)
  refine wpAny_pure (wpAny_pure ⟨_, rfl, wpAny_pure (hQ h₂ ?_ ?_)⟩)
  · rw [e₂]
    have e3 : (items.length : Int) - i - 1 = (items.length : Int) - ((i + 1 : Nat) : Int) := by omega
    show some ({ cls := .type "collections._deque_iterator", dict := none, data := .fields #[.ref aD, rawInt ((i : Int) + 1), .int k 0, rawInt ((items.length : Int) - i - 1)], slots := #[] } : Obj) = _
    rw [e3]; rfl
  · exact ⟨s₂.1.trans s₁.1, fun b hb => (s₂.2 b hb).trans (s₁.2 b hb)⟩
theorem next_end {Q : Value → Shared → Prop} (hh : A.handled = none) (hit : s.heap.get? it = some (dqIter aD k items.length items.length)) (ho : s.heap.get? aD = some (dqObj k items))
    (hE : ∀ h' e, Heap.ExtBut it s.heap h' → (∃ o, h'.get? e = some o ∧ o.cls = .type "StopIteration") → E (.ref e) { s with heap := h' }) :
    wpAny (model prog w) A (Builtin.SmallTypes.nextOf (.ref it)) Q E s := by
  unfold Builtin.SmallTypes.nextOf
  have hT : s.TypeIs (.ref it) "collections._deque_iterator" := ⟨_, hit, rfl⟩
  refine wpAny_bind (wpAny_callSpecial?_slot (name := Str.ofString "__next__") hT slot_next (wpAny_call_entry slot_next hT entry_next ?_ (args_next _)))
  show wpAny _ _ (Builtin.DequeIter.advance (.ref it) 1 >>= _) _ _ _
  refine wpAny_bind ?_
  unfold Builtin.DequeIter.advance
  refine wpAny_bind (wpAny_field hit rfl (x := .ref aD) rfl ?_)
  rw [if_neg (by decide)]
  refine wpAny_bind (state_dq ho ?_)
  refine wpAny_bind (raw_it (x := k) hit rfl rfl ?_)
  rw [if_neg (by simp)]
  refine wpAny_bind (raw_it (x := (items.length : Int) - (items.length : Nat)) hit rfl rfl ?_)
  rw [if_pos (by simp)]
  refine wpAny_pure ?_
  show wpAny _ _ (newExc (.type "StopIteration") [] >>= _) _ _ _
  refine wpAny_bind ?_
  simp only [newExc, newTuple]
  refine wpAny_bind (wpAny_newObj_type ?_ (by size_fits))
  refine wpAny_bind (m := firstArgMember _ _) (wpAny_of_eq (a := Value.none) (by first | rfl | (simp only [firstArgMember]; rfl)) ?_)
  refine wpAny_newObj_type ?_ (by size_fits)
  simp only [raiseNew]
  refine wpAny_bind (wpAny_handled ?_)
  first | rw [show A.in1.handled = none from hh] | rw [hh]
  refine wpAny_bind (wpAny_pure (wpAny_throw ?_))
  exact hE _ _ (((Heap.SameBut.refl ..).extBut.push _).push _) ⟨_, Heap.get?_push_size _ rfl, rfl⟩
theorem draws_dq (hh : A.handled = none) (it aD : Addr) (hne : aD ≠ it) (k : Int) (items : List Value) :
    Draws prog w A it [it, aD] items.length (fun i v => items[i]? = some v) (fun i h => h.get? it = some (dqIter aD k items.length i) ∧ h.get? aD = some (dqObj k items)) where
  live := fun _ _ st => ⟨_, st.1⟩
  frame := fun _ _ _ st hk => ⟨hk it (by simp) _ st.1, hk aD (by simp) _ st.2⟩
  item := fun i s Q E hi st hQ => by
    refine next_item st.1 st.2 (x := items[i]) (by simp [hi]) fun h' hit' hs' => ?_
    exact hQ _ h' s.toks (by simp [hi]) ⟨hit', (hs'.2 aD hne).trans st.2⟩ hs'
  done := fun s Q E st hE => next_end hh st.1 st.2 hE
theorem meets_enum_dq (aD : Addr) (k : Int) (items : List Value) :
    Meets (Builtin.«enumerate.__new__» ⟨[.type "enumerate", .ref aD], []⟩) (fun _ R s => s.heap.get? aD = some (dqObj k items) ∧
      R (.ok (.ret (.ref (s.heap.push (dqIter aD k items.length 0)).objs.size)))
        { s with heap := (s.heap.push (dqIter aD k items.length 0)).push { cls := .type "enumerate", data := .fields #[.none, .bool false, .ref s.heap.objs.size, rawInt 0, .none, .none] } }) :=
  .of_wp fun prog w A R s h => by
    obtain ⟨hp, g, d, tk, os⟩ := s; obtain ⟨hl, h⟩ := h
    have hsub := sub_enumerate
    wp_walk using AutoSeq1.wpAny_loadPart' hl
    refine wpAny_stack_any fun st => wpAny_pure ?_
    split
    · rename_i c _ _ _ _ _
      cases (c == Value.type "enumerate")
      · wp_walk using AutoSeq1.wpAny_loadPart' hl, pyIter_dq hl
        exact ⟨_, rfl, h⟩
      · wp_walk using AutoSeq1.wpAny_loadPart' hl, pyIter_dq hl
        exact ⟨_, rfl, h⟩
    · wp_walk using AutoSeq1.wpAny_loadPart' hl, pyIter_dq hl
      exact ⟨_, rfl, h⟩
theorem enum_dq {Q : Value → Shared → Prop} (hL : s.heap.get? aD = some (dqObj k items))
    (h : ∀ h', IsEnum h' (s.heap.objs.size + 1) s.heap.objs.size 0 .none → h'.get? s.heap.objs.size = some (dqIter aD k items.length 0) → h'.objs.size = s.heap.objs.size + 2 →
      (∀ b o, s.heap.get? b = some o → h'.get? b = some o) → Q (.ref (s.heap.objs.size + 1)) { s with heap := h' }) :
    wpAny (model prog w) A (call (.type "enumerate") [.ref aD]) Q E s := by
  refine callType_new PySem.F.called_enumerate (by decide) (PySem.F.typeCall_enumerate_1 _) (PySem.F.newCall_enumerate_1 _) (fun obj => PySem.F.args_object_init_2 obj _) PySem.F.entry_enumerate_new
    (meets_enum_dq aD k items) ⟨hL, ?_⟩
  have hz : (s.heap.push (dqIter aD k items.length 0)).objs.size = s.heap.objs.size + 1 := Heap.size_push ..
  show _ ∧ _
  rw [hz]
  have he : IsEnum ((s.heap.push (dqIter aD k items.length 0)).push
      { cls := .type "enumerate", data := .fields #[.none, .bool false, .ref s.heap.objs.size, rawInt 0, .none, .none] }) (s.heap.objs.size + 1) s.heap.objs.size 0 .none := by
    have := Heap.get?_push_size (s.heap.push (dqIter aD k items.length 0))
      (o := { cls := .type "enumerate", data := .fields #[.none, .bool false, .ref s.heap.objs.size, rawInt 0, .none, .none] }) rfl
    rw [hz] at this; exact this
  refine ⟨⟨_, he, rfl⟩, h _ he (Heap.get?_push_of_some _ (Heap.get?_push_size _ rfl)) (by rw [Heap.size_push, hz]) fun b o x => Heap.get?_push_of_some _ (Heap.get?_push_of_some _ x)⟩
end
end DQ
abbrev enumO (it : Addr) (i : Int) (old : Value) : Obj := { cls := .type "enumerate", dict := none, data := .fields #[.none, .bool false, .ref it, rawInt i, .none, old], slots := #[] }
abbrev tupO (l : List Value) : Obj := { cls := .type "tuple", data := .seq l.toArray }
section
variable {prog : Program} {w : World} {A : Around} {E : Value → Shared → Prop} {s : Shared} {h₀ : Heap} {env : Env} {aD e it : Addr} {k : Int} {items : List Value}
noncomputable def EnumEnd {σ : Type} (h₀ : Heap) (L e it aD : Addr) (k : Int) (n : Nat) (s : Shared) (Led : σ → List (Addr × Obj)) (ps : σ → List (Str × Value)) (P : Nat → σ → Prop) (i : Nat) (s₃ : Shared) : Prop :=
  ∃ (c' : σ) (h' : Heap) (tk : Nat) (old : Value) (m' : Str → Option Value), s₃ = { s with heap := h', toks := tk } ∧ Fr h₀ L h' m' ∧
    News h₀ L h' ((e, enumO it ((i : Int) + 1) old) :: (it, DQ.dqIter aD k n (i + 1)) :: Led c') ∧ (∀ p ∈ ps c', m' p.1 = some p.2) ∧ P (i + 1) c'
theorem fr_kst {h : Heap} {L : Addr} {m : Str → Option Value} {ps : List (Str × Value)} (F : Fr h₀ L h m) (hk : ∀ p ∈ ps, m p.1 = some p.2) : Fr h₀ L h (kstB m ps) := by
  rw [show kstB m ps = m from funext fun z => kstB_eq hk fun _ => rfl]; exact F
theorem enum_loop {σ : Type} {elts : List Expr} {cx} {pt : Pos} {body : List Stmt} {R : Result → Shared → Prop} {m : Str → Option Value} (Led : σ → List (Addr × Obj)) (ps : σ → List (Str × Value)) (P : Nat → σ → Prop) (c₀ : σ)
    (hh : A.in1.handled = none) (hei : e ≠ it) (hde : aD ≠ e) (hdi : aD ≠ it)
    (F : Fr h₀ env.locals s.heap m) (N : News h₀ env.locals s.heap ((e, enumO it 0 .none) :: (it, DQ.dqIter aD k items.length 0) :: Led c₀))
    (hk : ∀ p ∈ ps c₀, m p.1 = some p.2) (hd : ∀ c, (aD, dqObj k items) ∈ Led c) (hP : P 0 c₀)
    (hap : ∀ i c h, P i c → News h₀ env.locals h (Led c) → (h.get? e).map Obj.cls = some (.type "enumerate") → (h.get? it).map Obj.cls = some (.type "collections._deque_iterator") → ∀ p ∈ Led c, p.1 ≠ e ∧ p.1 ≠ it)
    (turn : ∀ i c x T t old u h tk, items[i]? = some x → P i c → Fr h₀ env.locals h (kstB u (ps c)) →
      News h₀ env.locals h ((T, tupO [.int i t, x]) :: (e, enumO it ((i : Int) + 1) old) :: (it, DQ.dqIter aD k items.length (i + 1)) :: Led c) →
      wpAny (model prog w) A (assign (.Tuple elts cx pt) env (.ref T)) (fun _ s₂ => wpAny (model prog w) A (execs body env) (fun f s₃ => match f with
        | .next | .cont => EnumEnd h₀ env.locals e it aD k items.length s Led ps P i s₃
        | .brk => R (.ok .next) s₃
        | .ret v => R (.ok (.ret v)) s₃) (notedBy (model prog w) A env fun e s' => R (.error e) s') s₂) (notedBy (model prog w) A env fun e s' => R (.error e) s') { s with heap := h, toks := tk })
    (done : ∀ c u h tk, P items.length c → Fr h₀ env.locals h (kstB u (ps c)) → News h₀ env.locals h (Led c) → R (.ok .next) { s with heap := h, toks := tk }) :
    codeAny (model prog w) A (.forLoop (.Tuple elts cx pt) (.ref e) body [] env) R s := by
  refine codeAny_forLoop_any
    (fun j s' => ∃ (i : Nat) (c : σ) (h' : Heap) (tk : Nat) (old : Value) (m' : Str → Option Value), s' = { s with heap := h', toks := tk } ∧ j = items.length + 1 - i ∧ i ≤ items.length ∧ Fr h₀ env.locals h' m' ∧
      News h₀ env.locals h' ((e, enumO it (i : Int) old) :: (it, DQ.dqIter aD k items.length i) :: Led c) ∧ (∀ p ∈ ps c, m' p.1 = some p.2) ∧ P i c) ?_ (items.length + 1)
    ⟨0, c₀, s.heap, s.toks, .none, m, rfl, rfl, Nat.zero_le _, F, N, hk, hP⟩
  rintro j s' ⟨i, c, h', tk, old, m', rfl, rfl, hi, F', N', hk', hP'⟩
  have he : IsEnum h' e it (i : Int) old := (N' _ (.head _)).1
  have hit : h'.get? it = some (DQ.dqIter aD k items.length i) := (N' _ (.tail _ (.head _))).1
  have NL : News h₀ env.locals h' (Led c) := fun p hp => N' p (.tail _ (.tail _ hp))
  have ho : h'.get? aD = some (dqObj k items) := (NL _ (hd c)).1
  have hap' := hap i c h' hP' NL (by rw [he]; rfl) (by rw [hit]; rfl)
  have n1 := N' _ (.head _)
  have n2 := N' _ (.tail _ (.head _))
  have keepF : ∀ {h₁ : Heap}, (∀ b o, b ≠ e → b ≠ it → h'.get? b = some o → h₁.get? b = some o) → Fr h₀ env.locals h₁ m' := fun {h₁} hk₁ =>
    ⟨F'.ns.at' fun o x => hk₁ _ o (Ne.symm n1.2.1) (Ne.symm n2.2.1) x, fun b o x => hk₁ b o (fun z => by rw [z, n1.2.2] at x; cases x) (fun z => by rw [z, n2.2.2] at x; cases x) (F'.keep b o x), F'.above⟩
  have D := DQ.draws_dq (prog := prog) (w := w) (A := A.in1) hh it aD hdi k items
  by_cases hlt : i < items.length
  · refine wpAny_pyNext_enum_itemD D he ⟨hit, ho⟩ hlt hei (by simp [hei, Ne.symm hde]) fun x h₁ tk₁ hPx ho₁ hs₁ hT hsz hk₁ => ?_
    refine wpAny_letOwnedTupleGo_enum ho₁ fun h₂ he₂ hs₂ => ?_
    replace hs₂ : Heap.SameBut e h₁ h₂ := hs₂
    have helt : e < h'.objs.size := Heap.lt_size he
    have hilt : it < h'.objs.size := Heap.lt_size hit
    have hk₂ : ∀ b o, b ≠ e → b ≠ it → h'.get? b = some o → h₂.get? b = some o := fun b o b1 b2 x => (hs₂.2 b b1).trans (hk₁ b o b1 b2 x)
    have hT₂ : h₂.get? h'.objs.size = some (tupO [.int i tk₁, x]) := (hs₂.2 _ (Nat.ne_of_gt helt)).trans hT
    have F₂ := keepF hk₂
    have N₂ : News h₀ env.locals h₂ ((h'.objs.size, tupO [.int i tk₁, x]) :: (e, enumO it ((i : Int) + 1) x) :: (it, DQ.dqIter aD k items.length (i + 1)) :: Led c) := by
      intro p hp
      rcases List.mem_cons.mp hp with rfl | hp
      · refine ⟨hT₂, Nat.ne_of_gt F'.ns.lt, ?_⟩
        exact Heap.get?_none_of_le (Nat.le_of_lt (Nat.lt_of_le_of_lt F'.above F'.ns.lt))
      rcases List.mem_cons.mp hp with rfl | hp
      · exact ⟨he₂, n1.2⟩
      rcases List.mem_cons.mp hp with rfl | hp
      · exact ⟨(hs₂.2 _ (Ne.symm hei)).trans hs₁.1, n2.2⟩
      · exact ⟨hk₂ _ _ (hap' p hp).1 (hap' p hp).2 (NL p hp).1, (NL p hp).2⟩
    refine wpAny_mono (turn i c x h'.objs.size tk₁ x m' h₂ _ hPx hP' (fr_kst F₂ hk') N₂) (fun _ s₂ q => wpAny_mono q (fun f s₃ q => ?_) fun _ _ x => x) fun _ _ x => x
    have fin : EnumEnd h₀ env.locals e it aD k items.length s Led ps P i s₃ → ∃ m, m < items.length + 1 - i ∧ ∃ (i : Nat) (c : σ) (h' : Heap) (tk : Nat) (old : Value) (m' : Str → Option Value), s₃ = { s with heap := h', toks := tk } ∧ m = items.length + 1 - i ∧ i ≤ items.length ∧ Fr h₀ env.locals h' m' ∧
        News h₀ env.locals h' ((e, enumO it (i : Int) old) :: (it, DQ.dqIter aD k items.length i) :: Led c) ∧ (∀ p ∈ ps c, m' p.1 = some p.2) ∧ P i c := by
      rintro ⟨c', h3, tk3, old3, m3, rfl, F3, N3, hk3, hP3⟩
      exact ⟨items.length + 1 - (i + 1), by omega, i + 1, c', h3, tk3, old3, m3, rfl, rfl, hlt, F3, N3, hk3, hP3⟩
    cases f with
    | next => exact fin q
    | cont => exact fin q
    | brk => exact q
    | ret v => exact q
  · have hi2 : i = items.length := by omega
    subst hi2
    refine wpAny_pyNext_enum_endD D he ⟨hit, ho⟩ fun h₁ hx => wpAny_execs_nil ?_
    exact done c m' h₁ tk hP' (fr_kst (keepF fun b o b1 b2 x => hx b o b2 x) hk') fun p hp => ⟨hx _ _ (hap' p hp).2 (NL p hp).1, (NL p hp).2⟩
noncomputable def EnumPost {σ : Type} (h₀ : Heap) (L e it aD : Addr) (k : Int) (n : Nat) (s : Shared) (Led : σ → List (Addr × Obj)) (ps : σ → List (Str × Value)) (P : Nat → σ → Prop) (i : Nat) (Q : Flow → Shared → Prop) (f : Flow) (s₃ : Shared) : Prop :=
  match f with
  | .ret v => Q (.ret v) s₃
  | .brk => Q .next s₃
  | _ => EnumEnd h₀ L e it aD k n s Led ps P i s₃
theorem enum_loopQ {σ : Type} {elts : List Expr} {cx} {pt : Pos} {body : List Stmt} {Q : Flow → Shared → Prop} {m : Str → Option Value} (Led : σ → List (Addr × Obj)) (ps : σ → List (Str × Value)) (P : Nat → σ → Prop) (c₀ : σ)
    (hh : A.in1.handled = none) (hei : e ≠ it) (hde : aD ≠ e) (hdi : aD ≠ it)
    (F : Fr h₀ env.locals s.heap m) (N : News h₀ env.locals s.heap ((e, enumO it 0 .none) :: (it, DQ.dqIter aD k items.length 0) :: Led c₀))
    (hk : ∀ p ∈ ps c₀, m p.1 = some p.2) (hd : ∀ c, (aD, dqObj k items) ∈ Led c) (hP : P 0 c₀)
    (hap : ∀ i c h, P i c → News h₀ env.locals h (Led c) → (h.get? e).map Obj.cls = some (.type "enumerate") → (h.get? it).map Obj.cls = some (.type "collections._deque_iterator") → ∀ p ∈ Led c, p.1 ≠ e ∧ p.1 ≠ it)
    (turn : ∀ i c x T t old u h tk, items[i]? = some x → P i c → Fr h₀ env.locals h (kstB u (ps c)) →
      News h₀ env.locals h ((T, tupO [.int i t, x]) :: (e, enumO it ((i : Int) + 1) old) :: (it, DQ.dqIter aD k items.length (i + 1)) :: Led c) →
      wpAny (model prog w) A (assign (.Tuple elts cx pt) env (.ref T)) (fun _ s₂ => wpAny (model prog w) A (execs body env) (EnumPost h₀ env.locals e it aD k items.length s Led ps P i Q) E s₂) E { s with heap := h, toks := tk })
    (done : ∀ c u h tk, P items.length c → Fr h₀ env.locals h (kstB u (ps c)) → News h₀ env.locals h (Led c) → Q .next { s with heap := h, toks := tk })
    (hE : PassesOwn (model prog w) A env E := by passes_own) :
    codeAny (model prog w) A (.forLoop (.Tuple elts cx pt) (.ref e) body [] env) (fun r s' => match r with | .ok f => Q f s' | .error e => cameBackBy (model prog w) A env E e s') s := by
  refine enum_loop Led ps P c₀ hh hei hde hdi F N hk hd hP hap (fun i c x T t old u h tk a1 a2 a3 a4 => ?_) done
  refine wpAny_passesOwn hE (wpAny_mono (turn i c x T t old u h tk a1 a2 a3 a4) (fun _ s₂ q => ?_) fun _ _ x => x)
  refine wpAny_passesOwn hE (wpAny_mono q (fun f s₃ q => ?_) fun _ _ x => x)
  cases f <;> exact q
end
structure SE where
  nm : List UInt8
  tn : Tok
  i : Nat
  ti : Tok
  t : Addr
  d : Addr
  kvs : List (List UInt8 × Tok × Nat × Tok)
  n : Nat
abbrev SE.tup (e : SE) : Obj := { cls := .type "tuple", dict := none, data := .seq [Value.int e.i e.ti, Value.ref e.d].toArray 0, slots := #[] }
noncomputable def valEs (P : Params) (kvs : List (List UInt8 × Tok × Nat × Tok)) : List DictEntry := kvs.map fun x => ⟨bhash P x.1.toArray, .bytes x.1.toArray x.2.1, .int x.2.2.1 x.2.2.2⟩
noncomputable def SE.dic (P : Params) (e : SE) : Obj := { cls := .type "dict", dict := none, data := .dict (valEs P e.kvs).toArray e.n, slots := #[] }
noncomputable def mapTab : List SE := [⟨[58, 97, 117, 116, 104, 111, 114, 105, 116, 121], 373, 1, 603, 243, 242, [([], 374, 1, 603)], 1⟩,
  ⟨[58, 109, 101, 116, 104, 111, 100], 375, 2, 611, 252, 251, [([71, 69, 84], 376, 2, 611), ([80, 79, 83, 84], 378, 3, 619)], 2⟩,
  ⟨[58, 112, 97, 116, 104], 379, 4, 627, 270, 269, [([47], 380, 4, 627), ([47, 105, 110, 100, 101, 120, 46, 104, 116, 109, 108], 382, 5, 635)], 2⟩,
  ⟨[58, 115, 99, 104, 101, 109, 101], 383, 6, 643, 288, 287, [([104, 116, 116, 112], 384, 6, 643), ([104, 116, 116, 112, 115], 386, 7, 651)], 2⟩,
  ⟨[58, 115, 116, 97, 116, 117, 115], 387, 8, 659, 306, 305, [([50, 48, 48], 388, 8, 659), ([50, 48, 52], 390, 9, 667), ([50, 48, 54], 392, 10, 675), ([51, 48, 52], 394, 11, 683), ([52, 48, 48], 396, 12, 691), ([52, 48, 52], 398, 13, 699), ([53, 48, 48], 400, 14, 707)], 7⟩,
  ⟨[97, 99, 99, 101, 112, 116, 45, 99, 104, 97, 114, 115, 101, 116], 401, 15, 715, 369, 368, [([], 402, 15, 715)], 1⟩,
  ⟨[97, 99, 99, 101, 112, 116, 45, 101, 110, 99, 111, 100, 105, 110, 103], 403, 16, 723, 378, 377, [([103, 122, 105, 112, 44, 32, 100, 101, 102, 108, 97, 116, 101], 404, 16, 723)], 1⟩,
  ⟨[97, 99, 99, 101, 112, 116, 45, 108, 97, 110, 103, 117, 97, 103, 101], 405, 17, 731, 387, 386, [([], 406, 17, 731)], 1⟩,
  ⟨[97, 99, 99, 101, 112, 116, 45, 114, 97, 110, 103, 101, 115], 407, 18, 739, 396, 395, [([], 408, 18, 739)], 1⟩,
  ⟨[97, 99, 99, 101, 112, 116], 409, 19, 747, 405, 404, [([], 410, 19, 747)], 1⟩,
  ⟨[97, 99, 99, 101, 115, 115, 45, 99, 111, 110, 116, 114, 111, 108, 45, 97, 108, 108, 111, 119, 45, 111, 114, 105, 103, 105, 110], 411, 20, 755, 414, 413, [([], 412, 20, 755)], 1⟩,
  ⟨[97, 103, 101], 413, 21, 763, 423, 422, [([], 414, 21, 763)], 1⟩,
  ⟨[97, 108, 108, 111, 119], 415, 22, 771, 432, 431, [([], 416, 22, 771)], 1⟩,
  ⟨[97, 117, 116, 104, 111, 114, 105, 122, 97, 116, 105, 111, 110], 417, 23, 779, 441, 440, [([], 418, 23, 779)], 1⟩,
  ⟨[99, 97, 99, 104, 101, 45, 99, 111, 110, 116, 114, 111, 108], 419, 24, 787, 450, 449, [([], 420, 24, 787)], 1⟩,
  ⟨[99, 111, 110, 116, 101, 110, 116, 45, 100, 105, 115, 112, 111, 115, 105, 116, 105, 111, 110], 421, 25, 795, 459, 458, [([], 422, 25, 795)], 1⟩,
  ⟨[99, 111, 110, 116, 101, 110, 116, 45, 101, 110, 99, 111, 100, 105, 110, 103], 423, 26, 803, 468, 467, [([], 424, 26, 803)], 1⟩,
  ⟨[99, 111, 110, 116, 101, 110, 116, 45, 108, 97, 110, 103, 117, 97, 103, 101], 425, 27, 811, 477, 476, [([], 426, 27, 811)], 1⟩,
  ⟨[99, 111, 110, 116, 101, 110, 116, 45, 108, 101, 110, 103, 116, 104], 427, 28, 819, 486, 485, [([], 428, 28, 819)], 1⟩,
  ⟨[99, 111, 110, 116, 101, 110, 116, 45, 108, 111, 99, 97, 116, 105, 111, 110], 429, 29, 827, 495, 494, [([], 430, 29, 827)], 1⟩,
  ⟨[99, 111, 110, 116, 101, 110, 116, 45, 114, 97, 110, 103, 101], 431, 30, 835, 504, 503, [([], 432, 30, 835)], 1⟩,
  ⟨[99, 111, 110, 116, 101, 110, 116, 45, 116, 121, 112, 101], 433, 31, 843, 513, 512, [([], 434, 31, 843)], 1⟩,
  ⟨[99, 111, 111, 107, 105, 101], 435, 32, 851, 522, 521, [([], 436, 32, 851)], 1⟩,
  ⟨[100, 97, 116, 101], 437, 33, 859, 531, 530, [([], 438, 33, 859)], 1⟩,
  ⟨[101, 116, 97, 103], 439, 34, 867, 540, 539, [([], 440, 34, 867)], 1⟩,
  ⟨[101, 120, 112, 101, 99, 116], 441, 35, 875, 549, 548, [([], 442, 35, 875)], 1⟩,
  ⟨[101, 120, 112, 105, 114, 101, 115], 443, 36, 883, 558, 557, [([], 444, 36, 883)], 1⟩,
  ⟨[102, 114, 111, 109], 445, 37, 891, 567, 566, [([], 446, 37, 891)], 1⟩,
  ⟨[104, 111, 115, 116], 447, 38, 899, 576, 575, [([], 448, 38, 899)], 1⟩,
  ⟨[105, 102, 45, 109, 97, 116, 99, 104], 449, 39, 907, 585, 584, [([], 450, 39, 907)], 1⟩,
  ⟨[105, 102, 45, 109, 111, 100, 105, 102, 105, 101, 100, 45, 115, 105, 110, 99, 101], 451, 40, 915, 594, 593, [([], 452, 40, 915)], 1⟩,
  ⟨[105, 102, 45, 110, 111, 110, 101, 45, 109, 97, 116, 99, 104], 453, 41, 923, 603, 602, [([], 454, 41, 923)], 1⟩,
  ⟨[105, 102, 45, 114, 97, 110, 103, 101], 455, 42, 931, 612, 611, [([], 456, 42, 931)], 1⟩,
  ⟨[105, 102, 45, 117, 110, 109, 111, 100, 105, 102, 105, 101, 100, 45, 115, 105, 110, 99, 101], 457, 43, 939, 621, 620, [([], 458, 43, 939)], 1⟩,
  ⟨[108, 97, 115, 116, 45, 109, 111, 100, 105, 102, 105, 101, 100], 459, 44, 947, 630, 629, [([], 460, 44, 947)], 1⟩,
  ⟨[108, 105, 110, 107], 461, 45, 955, 639, 638, [([], 462, 45, 955)], 1⟩,
  ⟨[108, 111, 99, 97, 116, 105, 111, 110], 463, 46, 963, 648, 647, [([], 464, 46, 963)], 1⟩,
  ⟨[109, 97, 120, 45, 102, 111, 114, 119, 97, 114, 100, 115], 465, 47, 971, 657, 656, [([], 466, 47, 971)], 1⟩,
  ⟨[112, 114, 111, 120, 121, 45, 97, 117, 116, 104, 101, 110, 116, 105, 99, 97, 116, 101], 467, 48, 979, 666, 665, [([], 468, 48, 979)], 1⟩,
  ⟨[112, 114, 111, 120, 121, 45, 97, 117, 116, 104, 111, 114, 105, 122, 97, 116, 105, 111, 110], 469, 49, 987, 675, 674, [([], 470, 49, 987)], 1⟩,
  ⟨[114, 97, 110, 103, 101], 471, 50, 995, 684, 683, [([], 472, 50, 995)], 1⟩,
  ⟨[114, 101, 102, 101, 114, 101, 114], 473, 51, 1003, 693, 692, [([], 474, 51, 1003)], 1⟩,
  ⟨[114, 101, 102, 114, 101, 115, 104], 475, 52, 1011, 702, 701, [([], 476, 52, 1011)], 1⟩,
  ⟨[114, 101, 116, 114, 121, 45, 97, 102, 116, 101, 114], 477, 53, 1019, 711, 710, [([], 478, 53, 1019)], 1⟩,
  ⟨[115, 101, 114, 118, 101, 114], 479, 54, 1027, 720, 719, [([], 480, 54, 1027)], 1⟩,
  ⟨[115, 101, 116, 45, 99, 111, 111, 107, 105, 101], 481, 55, 1035, 729, 728, [([], 482, 55, 1035)], 1⟩,
  ⟨[115, 116, 114, 105, 99, 116, 45, 116, 114, 97, 110, 115, 112, 111, 114, 116, 45, 115, 101, 99, 117, 114, 105, 116, 121], 483, 56, 1043, 738, 737, [([], 484, 56, 1043)], 1⟩,
  ⟨[116, 114, 97, 110, 115, 102, 101, 114, 45, 101, 110, 99, 111, 100, 105, 110, 103], 485, 57, 1051, 747, 746, [([], 486, 57, 1051)], 1⟩,
  ⟨[117, 115, 101, 114, 45, 97, 103, 101, 110, 116], 487, 58, 1059, 756, 755, [([], 488, 58, 1059)], 1⟩,
  ⟨[118, 97, 114, 121], 489, 59, 1067, 765, 764, [([], 490, 59, 1067)], 1⟩,
  ⟨[118, 105, 97], 491, 60, 1075, 774, 773, [([], 492, 60, 1075)], 1⟩,
  ⟨[119, 119, 119, 45, 97, 117, 116, 104, 101, 110, 116, 105, 99, 97, 116, 101], 493, 61, 1083, 783, 782, [([], 494, 61, 1083)], 1⟩]
noncomputable def mapEs (P : Params) : List DictEntry := mapTab.map fun e => ⟨bhash P e.nm.toArray, .bytes e.nm.toArray e.tn, .ref e.t⟩
noncomputable def mapObj (P : Params) : Obj := { cls := .type "dict", dict := none, data := .dict (mapEs P).toArray 52, slots := #[] }
theorem look_map (P : Params) : (KF P).lookup (232 : Addr) = some (mapObj P) := by with_unfolding_all rfl
theorem look_se (P : Params) : ∀ e ∈ mapTab, (KF P).lookup e.t = some e.tup ∧ (KF P).lookup e.d = some (e.dic P) := by
  refine List.forall_mem_cons.mpr ⟨⟨by with_unfolding_all rfl, by with_unfolding_all rfl⟩, ?_⟩
  repeat (refine List.forall_mem_cons.mpr ⟨⟨by with_unfolding_all rfl, by with_unfolding_all rfl⟩, ?_⟩)
  exact List.forall_mem_nil _
theorem hashW_bytes (P : Params) (k : List UInt8) : hashW P (.bytes k) = bhash P k.toArray := by
  show reduceHash (bhash P k.toArray) = _
  obtain ⟨h1, h2, h3⟩ := bhash_facts P k.toArray
  unfold reduceHash
  rw [if_pos (by simp only [Bool.and_eq_true, decide_eq_true_eq]; exact ⟨h1, h2⟩), if_neg (by simpa using h3)]
theorem isKB (prog : Program) (w : World) (k : List UInt8) (b : List UInt8) (t : Tok) : (bytesKind prog w).is k (.bytes b.toArray t) = decide (b = k) := by
  show (b.toArray.toList == k) = _
  rw [Bool.eq_iff_iff]; simp
theorem isKB' (prog : Program) (w : World) (k : List UInt8) (b : Array UInt8) (t : Tok) (h : b.toList = k) : (bytesKind prog w).is k (.bytes b t) = true := by
  subst h
  show (b.toList == b.toList) = _
  simp
theorem mapOf_list {prog : Program} {w : World} {h : Heap} {a : Addr} {es : List DictEntry} {n : Nat} {f : List UInt8 → Option Value} (ho : h.get? a = some { cls := .type "dict", dict := none, data := .dict es.toArray n, slots := #[] })
    (hk : ∀ e ∈ es, ∃ b t, e.key = .bytes (List.toArray b) t ∧ e.hash = bhash w.params b.toArray) (hf : ∀ k, (es.find? fun e => (bytesKind prog w).is k e.key).map (·.val) = f k) : h.MapOf (bytesKind prog w) a f := by
  refine ⟨_, es.toArray, n, ho, ⟨rfl, rfl, rfl⟩, rfl, ?_, ?_⟩
  · intro e he
    obtain ⟨b, t, e1, e2⟩ := hk e (by simpa using he)
    exact ⟨b, by rw [e1, isKB]; simp, by rw [e2]; exact (hashW_bytes _ _).symm⟩
  · intro k
    rw [← hf k]; unfold findBy; simp
noncomputable def mapFind (k : List UInt8) : Option SE := mapTab.find? fun e => decide (e.nm = k)
noncomputable def valFind (e : SE) (k : List UInt8) : Option (List UInt8 × Tok × Nat × Tok) := e.kvs.find? fun x => decide (x.1 = k)
theorem map_mapOf {prog : Program} {w : World} {h : Heap} (ho : h.get? (232 : Addr) = some (mapObj w.params)) : h.MapOf (bytesKind prog w) (232 : Addr) fun k => (mapFind k).map fun e => Value.ref e.t := by
  refine mapOf_list ho ?_ ?_
  · intro e he
    obtain ⟨x, _, rfl⟩ := List.mem_map.mp he
    exact ⟨x.nm, x.tn, rfl, rfl⟩
  · intro k
    unfold mapEs mapFind
    rw [List.find?_map, Option.map_map]
    have : ((fun e : DictEntry => (bytesKind prog w).is k e.key) ∘ fun e : SE => (⟨bhash w.params e.nm.toArray, .bytes e.nm.toArray e.tn, .ref e.t⟩ : DictEntry)) = fun e => decide (e.nm = k) := by
      funext e; exact isKB prog w k e.nm e.tn
    rw [this]; rfl
theorem val_mapOf {prog : Program} {w : World} {h : Heap} {e : SE} (ho : h.get? e.d = some (e.dic w.params)) : h.MapOf (bytesKind prog w) e.d fun k => (valFind e k).map fun x => Value.int x.2.2.1 x.2.2.2 := by
  refine mapOf_list ho ?_ ?_
  · intro y he
    obtain ⟨x, _, rfl⟩ := List.mem_map.mp he
    exact ⟨x.1, x.2.1, rfl, rfl⟩
  · intro k
    unfold valEs valFind
    rw [List.find?_map, Option.map_map]
    have : ((fun e : DictEntry => (bytesKind prog w).is k e.key) ∘ fun x : List UInt8 × Tok × Nat × Tok => (⟨bhash w.params x.1.toArray, .bytes x.1.toArray x.2.1, .int x.2.2.1 x.2.2.2⟩ : DictEntry)) = fun x => decide (x.1 = k) := by
      funext x; exact isKB prog w k x.1 x.2.1
    rw [this]; rfl
theorem mapFind_mem {k : List UInt8} {e : SE} (h : mapFind k = some e) : e ∈ mapTab := List.mem_of_find?_eq_some h
section
variable {w : World} {A : Around} {E : Value → Shared → Prop} {s : Shared} {h₀ : Heap} {L : Addr} {m : Str → Option Value} {Q : Value → Shared → Prop}
theorem get_map {b : Array UInt8} {t : Tok} {v : Value} (F : Fr h₀ L s.heap m) (X₀ : (KF w.params).In h₀) (hv : ((mapFind b.toList).map fun e => Value.ref e.t).getD .none = v) (h : Q v { s with toks := s.toks + 1 }) :
    wpAny (model PR w) A (call (.builtin "dict.get") [.ref (232 : Addr), .bytes b t]) Q E s := by
  have hm : s.heap.MapOf (bytesKind PR w) (232 : Addr) _ := map_mapOf ((X₀.keeps F.keep) _ _ (look_map _))
  refine call_meetsIn PySem.F.slot_dict_get hm.typeIs PySem.F.entry_dict_get (PySem.F.args_dict_get_2 _ _) (meets_dict_get (bytesKind PR w) (232 : Addr) (isKB' PR w b.toList b t rfl) rfl) ⟨_, hm, ?_⟩
  subst hv; exact h
theorem get_val {e : SE} {b : Array UInt8} {t : Tok} {v : Value} (he : e ∈ mapTab) (F : Fr h₀ L s.heap m) (X₀ : (KF w.params).In h₀) (hv : ((valFind e b.toList).map fun x => Value.int x.2.2.1 x.2.2.2).getD .none = v) (h : Q v { s with toks := s.toks + 1 }) :
    wpAny (model PR w) A (call (.builtin "dict.get") [.ref e.d, .bytes b t]) Q E s := by
  have hm : s.heap.MapOf (bytesKind PR w) e.d _ := val_mapOf ((X₀.keeps F.keep) _ _ (look_se _ e he).2)
  have hd : (e.d == sysModules) = false := by
    have z : ∀ e ∈ mapTab, (e.d == sysModules) = false := by decide
    exact z e he
  refine call_meetsIn PySem.F.slot_dict_get hm.typeIs PySem.F.entry_dict_get (PySem.F.args_dict_get_2 _ _) (meets_dict_get (bytesKind PR w) e.d (isKB' PR w b.toList b t rfl) hd) ⟨_, hm, ?_⟩
  subst hv; exact h
theorem meth_val {e : SE} {pl : Sem Bool} {Q : Value × List Value → Shared → Prop} (he : e ∈ mapTab) (F : Fr h₀ L s.heap m) (X₀ : (KF w.params).In h₀) (h : Q (.builtin "dict.get", [.ref e.d]) s) : wpAny (model PR w) A (getMethod (.ref e.d) "get" pl) Q E s := by
  have hm : s.heap.MapOf (bytesKind PR w) e.d _ := val_mapOf ((X₀.keeps F.keep) _ _ (look_se _ e he).2)
  exact getMethod_builtin hm.typeIs PySem.F.plainAttrs_dict PySem.F.slot_dict_get PySem.F.type_dict_get hm.noDict h
theorem tup_val {e : SE} (he : e ∈ mapTab) (F : Fr h₀ L s.heap m) (X₀ : (KF w.params).In h₀) : IsTup s.heap e.t [Value.int e.i e.ti, Value.ref e.d].toArray := kun_topT F X₀ (look_se _ e he).1
end
section
variable {w : World} {A : Around} {E : Value → Shared → Prop} {s : Shared} {h₀ : Heap} {L aD e it : Addr} {m : Str → Option Value} {news : List (Addr × Obj)} {k : Int} {items : List Value} {Q : Value → Shared → Prop}
theorem enum_K (F : Fr h₀ L s.heap m) (N : News h₀ L s.heap news) (hm : (aD, dqObj k items) ∈ news)
    (h : ∀ h' e it, e ≠ it → aD ≠ e → aD ≠ it → (∀ p ∈ news, p.1 ≠ e ∧ p.1 ≠ it) → Fr h₀ L h' m → News h₀ L h' ((e, enumO it 0 .none) :: (it, DQ.dqIter aD k items.length 0) :: news) → Q (.ref e) { s with heap := h' }) :
    wpAny (model PR w) A (call (.type "enumerate") [.ref aD]) Q E s := by
  have ho := N.get hm
  refine DQ.enum_dq ho fun h' he hi hsz hk => ?_
  have hb : ∀ p ∈ news, p.1 < s.heap.objs.size := fun p hp => Heap.lt_size (N p hp).1
  have hL : h₀.objs.size ≤ s.heap.objs.size := Nat.le_trans F.above (Nat.le_of_lt F.ns.lt)
  have hLs : L < s.heap.objs.size := F.ns.lt
  refine h h' (s.heap.objs.size + 1) s.heap.objs.size (Nat.succ_ne_self _) (Nat.ne_of_lt (Nat.lt_succ_of_lt (hb _ hm))) (Nat.ne_of_lt (hb _ hm)) (fun p hp => ⟨Nat.ne_of_lt (Nat.lt_succ_of_lt (hb p hp)), Nat.ne_of_lt (hb p hp)⟩)
    ⟨F.ns.at' fun o x => hk _ _ x, fun b o x => hk _ _ (F.keep b o x), F.above⟩ ?_
  intro p hp
  rcases List.mem_cons.mp hp with rfl | hp
  · exact ⟨he, Nat.ne_of_gt (Nat.lt_succ_of_lt hLs), Heap.get?_none_of_le (Nat.le_succ_of_le hL)⟩
  rcases List.mem_cons.mp hp with rfl | hp
  · exact ⟨hi, Nat.ne_of_gt hLs, Heap.get?_none_of_le hL⟩
  · exact ⟨hk _ _ (N p hp).1, (N p hp).2⟩
theorem pyIter_K {old : Value} {i : Int} (N : News h₀ L s.heap news) (hm : (e, enumO it i old) ∈ news) (h : Q (.ref e) s) : wpAny (model PR w) A (pyIter (.ref e)) Q E s := wpAny_pyIter_enum (N.get hm) h
theorem meth_map {pl : Sem Bool} {Q : Value × List Value → Shared → Prop} (F : Fr h₀ L s.heap m) (X₀ : (KF w.params).In h₀) (h : Q (.builtin "dict.get", [.ref (232 : Addr)]) s) : wpAny (model PR w) A (getMethod (.ref (232 : Addr)) "get" pl) Q E s := by
  have hm : s.heap.MapOf (bytesKind PR w) (232 : Addr) _ := map_mapOf ((X₀.keeps F.keep) _ _ (look_map _))
  exact getMethod_builtin hm.typeIs PySem.F.plainAttrs_dict PySem.F.slot_dict_get PySem.F.type_dict_get hm.noDict h
theorem truthy_tab {Q : Bool → Shared → Prop} {e : SE} (he : e ∈ mapTab) (F : Fr h₀ L s.heap m) (X₀ : (KF w.params).In h₀) (h : Q true { s with toks := s.toks + 1 + 1 }) : wpAny (model PR w) A (truthy (.ref e.t)) Q E s :=
  truthy_tuple (tup_val he F X₀) (by simp) h
theorem item_tab {value slice : Expr} {e : SE} {i : Int} {u : Tok} {j : Nat} {x : Value} (he : e ∈ mapTab) (F : Fr h₀ L s.heap m) (X₀ : (KF w.params).In h₀) (hlo : -(2 ^ 63) ≤ i) (hhi : i < 2 ^ 63) (hj : seqIndex? i 2 = some j) (hx : [Value.int e.i e.ti, Value.ref e.d][j]? = some x) (h : Q x s)
    (hs : subscripted slice false (.ref e.t) (.int i u) = operate [.ref e.t, .int i u] (getItem (.ref e.t) (.int i u)) := by with_unfolding_all rfl) (hg : ∀ r, letTemporaryGo value (.ref e.t) r = pure () := by intro _; with_unfolding_all rfl) :
    wpAny (model PR w) A (subscriptTail value slice (.ref e.t) (.int i u)) Q E s := item_tupleL (tup_val he F X₀) hlo hhi hj hx h hs hg
end
local macro_rules | `(tactic| walk_at "exec For Tuple Call cons nil") => `(tactic| (refine wpAny_For ?_))
local macro_rules | `(tactic| walk_at "call type:enumerate") => `(tactic| (k_here; (with_reducible show wpAny _ _ (call (Value.type "enumerate") [Value.ref _]) _ _ _); k_dflt (refine' enum_K ?F ?N ?m ?_; (case F => k_asm); (case N => k_asm); (case m => k_mem); k_whole); intro h' e it ne1 ne2 ne3 nap F' N'))
local macro_rules | `(tactic| walk_at "pyIter ref") => `(tactic| (k_here; (with_reducible show wpAny _ _ (pyIter (Value.ref _)) _ _ _); k_dflt (refine' pyIter_K ?N ?m ?_; (case N => k_asm); (case m => k_mem); k_whole)))
local macro_rules | `(tactic| walk_at "call builtin:dict.get") => `(tactic| (k_here; k_dflt (first
  | (refine' get_map ?F ?X ?v ?_; (case F => k_asm); (case X => k_asm); (case v => assumption); k_whole)
  | (refine' get_val ?e ?F ?X ?v ?_; (case e => assumption); (case F => k_asm); (case X => k_asm); (case v => assumption); k_whole))))
local macro_rules | `(tactic| walk_at "getMethod ref") => `(tactic| (k_here; (with_reducible show wpAny _ _ (getMethod (Value.ref (SE.d _)) _ _) _ _ _); k_dflt (refine' meth_val ?e ?F ?X ?_; (case e => assumption); (case F => k_asm); (case X => k_asm); k_whole)))
local macro_rules | `(tactic| walk_at "getMethod ref") => `(tactic| (k_here; (show wpAny _ _ (getMethod (Value.ref (232 : Addr)) _ _) _ _ _); k_dflt (refine' meth_map ?F ?X ?_; (case F => k_asm); (case X => k_asm); k_whole)))
local macro_rules | `(tactic| walk_at "truthy ref") => `(tactic| (k_here; (with_reducible show wpAny _ _ (truthy (Value.ref (SE.t _))) _ _ _); k_dflt (refine' truthy_tab ?e ?F ?X ?_; (case e => assumption); (case F => k_asm); (case X => k_asm); k_whole)))
local macro_rules | `(tactic| walk_at "subscriptTail") => `(tactic| (k_here; (with_reducible show wpAny _ _ (subscriptTail _ _ (Value.ref (SE.t _)) (Value.int _ _)) _ _ _); k_dflt (refine' item_tab ?e ?F ?X ?a ?b ?c ?d ?_; (case e => assumption); (case F => k_asm); (case X => k_asm); (case a => decide); (case b => decide); (case c => rfl); (case d => rfl); k_whole)))
noncomputable def dynS (nm vl : Array UInt8) : Nat → Option Nat → List KV → Option (Nat × Bool)
  | _, p, [] => p.map fun j => (j, false)
  | i, p, kv :: l => if kv.1 = nm then (if kv.2 = vl then some (62 + i, true) else dynS nm vl (i + 1) (some (p.getD (62 + i))) l) else dynS nm vl (i + 1) p l
noncomputable def PRep (p : Option Nat) (nm : Array UInt8) (pv : Value) (ex : List (Addr × Obj)) : Prop := match p with
  | none => pv = .none ∧ ex = []
  | some j => ∃ a t tn, pv = .ref a ∧ ex = [(a, tupO [.int j t, .bytes nm tn, .none])]
noncomputable def RRep (r : Option (Nat × Bool)) (nm vl : Array UInt8) (x : Value) (new : List (Addr × Obj)) : Prop := match r with
  | none => x = .none ∧ new = []
  | some (j, fl) => ∃ a t tn tv, x = .ref a ∧ new = [(a, tupO [.int j t, .bytes nm tn, if fl then .bytes vl tv else .none])]
noncomputable def searchS (nm vl : Array UInt8) (kvs : List KV) : Option (Nat × Bool) := match mapFind nm.toList with
  | some e => match valFind e vl.toList with
    | some x => some (x.2.2.1, true)
    | none => dynS nm vl 0 (some e.i) kvs
  | none => dynS nm vl 0 none kvs
theorem searchS_none {nm vl : Array UInt8} {kvs : List KV} (h : mapFind nm.toList = none) : searchS nm vl kvs = dynS nm vl 0 none kvs := by
  unfold searchS; rw [h]
theorem searchS_part {nm vl : Array UInt8} {kvs : List KV} {e : SE} (h : mapFind nm.toList = some e) (h2 : valFind e vl.toList = none) : searchS nm vl kvs = dynS nm vl 0 (some e.i) kvs := by
  unfold searchS; rw [h]; simp only [h2]
theorem searchS_full {nm vl : Array UInt8} {kvs : List KV} {e : SE} {x} (h : mapFind nm.toList = some e) (h2 : valFind e vl.toList = some x) : searchS nm vl kvs = some (x.2.2.1, true) := by
  unfold searchS; rw [h]; simp only [h2]
theorem arr_eq {a b : Array UInt8} (h : (a.toList == b.toList) = true) : a = b := Array.toList_inj.mp (by simpa using h)
theorem arr_ne {a b : Array UInt8} (h : (a.toList == b.toList) = false) : a ≠ b := fun e => by subst e; simp at h
section
variable {nm vl : Array UInt8} {i : Nat} {p p0 : Option Nat} {ents : List Ent} (hs : dynS nm vl 0 p0 (ents.map Ent.kv) = dynS nm vl i p ((ents.map Ent.kv).drop i)) (hi : i < ents.length)
theorem drop_kv (hi : i < ents.length) : (ents.map Ent.kv).drop i = ents[i].kv :: (ents.map Ent.kv).drop (i + 1) := by
  rw [List.drop_eq_getElem_cons (by simpa using hi), List.getElem_map]
include hs hi
theorem dyn_full (h1 : ents[i].nm = nm) (h2 : ents[i].vl = vl) : dynS nm vl 0 p0 (ents.map Ent.kv) = some (62 + i, true) := by
  rw [hs, drop_kv hi, dynS, if_pos h1, if_pos h2]
theorem dyn_part (h1 : ents[i].nm = nm) (h2 : ents[i].vl ≠ vl) : dynS nm vl 0 p0 (ents.map Ent.kv) = dynS nm vl (i + 1) (some (p.getD (62 + i))) ((ents.map Ent.kv).drop (i + 1)) := by
  rw [hs, drop_kv hi, dynS, if_pos h1, if_neg h2]
theorem dyn_skip (h1 : ents[i].nm ≠ nm) : dynS nm vl 0 p0 (ents.map Ent.kv) = dynS nm vl (i + 1) p ((ents.map Ent.kv).drop (i + 1)) := by
  rw [hs, drop_kv hi, dynS, if_neg h1]
end
section
variable {h₀ h : Heap} {L : Addr} {a b c d e f g : Addr × Obj} {l : List (Addr × Obj)}
theorem news_r1 (N : News h₀ L h (a :: b :: c :: d :: l)) : News h₀ L h (a :: l) := News.perm N (by intro p hp; simp only [List.mem_cons] at hp ⊢; rcases hp with h | h <;> simp [h])
theorem news_r1' (N : News h₀ L h (a :: b :: c :: d :: e :: l)) : News h₀ L h (a :: l) := News.perm N (by intro p hp; simp only [List.mem_cons] at hp ⊢; rcases hp with h | h <;> simp [h])
theorem news_r2 (N : News h₀ L h (a :: b :: c :: d :: l)) : News h₀ L h (c :: d :: a :: l) := News.perm N (by intro p hp; simp only [List.mem_cons] at hp ⊢; rcases hp with h | h | h | h <;> simp [h])
theorem news_r2' (N : News h₀ L h (a :: b :: c :: l)) : News h₀ L h (a :: b :: ([c] ++ l)) := N
end
theorem prep_ne {h₀ h : Heap} {L : Addr} {p : Option Nat} {nm : Array UInt8} {pv : Value} {ex l : List (Addr × Obj)} {e it : Addr} (hp : PRep p nm pv ex) (N : News h₀ L h (ex ++ l)) (h1 : (h.get? e).map Obj.cls = some (.type "enumerate"))
    (h2 : (h.get? it).map Obj.cls = some (.type "collections._deque_iterator")) : ∀ q ∈ ex, q.1 ≠ e ∧ q.1 ≠ it := by
  intro q hq
  have z := (N q (List.mem_append_left _ hq)).1
  cases p with
  | none => obtain ⟨_, rfl⟩ := hp; cases hq
  | some j =>
    obtain ⟨a, t, tn, _, rfl⟩ := hp
    rw [List.mem_singleton] at hq
    subst hq
    refine ⟨fun y => ?_, fun y => ?_⟩
    · subst y; rw [z] at h1; exact absurd h1 (by simp)
    · subst y; rw [z] at h2; exact absurd h2 (by simp)
theorem seq_cast {i j : Nat} (h : j = 62 + i) : ((i : Int) + 62) = (j : Nat) := by omega
local macro_rules | `(tactic| walk_at "EnumPost") => `(tactic| (dsimp only [EnumPost]))
section
variable {w : World} {base h₀ : Heap} {e1 e2 : Env} {L : Addr} {m : Str → Option Value} {s : Shared} {mg mb : Str → Option Value} {mean : ExcName → Option Value} {R : Result → Shared → Prop}
theorem search_K {aT dT aD : Addr} {d : TD} {mx cs : Int} {u1 u2 t1 t2 : Tok} {rs : Bool} {k : Int} {ents : List Ent} {news : List (Addr × Obj)} {nm vl : Array UInt8}
    (B : Below callerA base [] h₀) (F : Fr h₀ L s.heap m) (X₀ : (KF w.params).In h₀) (T : Top qv (looseW qv lsv) mean mg mb h₀)
    (N : News h₀ L s.heap news) (m1 : (dT, tdObj d mx u1 cs u2 rs aD) ∈ news) (m2 : (aD, dqObj k (refsE ents)) ∈ news) (m3 : (aT, instObj 219 dT) ∈ news)

    (hin : AllIn ents news) (hlen : ents.length ≤ 900) (hn1 : nm.size ≤ 1000) (hv1 : vl.size ≤ 1000)
    (hf : e1.frame = some L) (hke : e1.scope.kind = .function)
    (h : ∀ h' tk x new, RRep (searchS nm vl (ents.map Ent.kv)) nm vl x new → Fr h₀ L h' m →
      News h₀ L h' (new ++ news) →
      R (.ok (.ret x)) { s with heap := h', toks := tk }) :
    codeAny (model PR w) (callerA.deeper e1) (.call (.ref 192) ⟨[.ref aT, .bytes nm t1, .bytes vl t2], []⟩) R s := by
  w_on
  w_top off
  refine' code_def B F X₀ N T rfl hf hke ?k6 ?k7 ?k8 ?k9 ?kB ?_ ?c2 ?c3 ?c4 ?c5
  case k6 => k_is
  case k7 => k_is
  case k8 => k_room
  case k9 => exact BindsTo.of_eq rfl
  case kB => exact locs rfl
  case c2 => exact rfl
  case c3 => exact rfl
  case c4 => exact rfl
  case c5 => decide
  intro g' L' h' FG' F' N' B' X' T'
  have hz : (refsE ents).length = ents.length := by simp [refsE]
  try dsimp only
  try k_fold
  cases hM : mapFind nm.toList with
  | none =>
    have hA : ((mapFind nm.toList).map fun e => Value.ref e.t).getD .none = .none := by rw [hM]; rfl
    k_steps
    rename News _ _ _ _ => nE
    rename Fr _ _ _ _ => fE
    refine enum_loopQ (σ := Option Nat × Value × List (Addr × Obj)) (fun c => c.2.2 ++ news)
      (fun c => [(Str.ofString "partial", c.2.1), (Str.ofString "offset", .int 62 ?to), (Str.ofString "name", .bytes nm t1), (Str.ofString "value", .bytes vl t2), (Str.ofString "self", .ref aT)])
      (fun i c => dynS nm vl 0 none (ents.map Ent.kv) = dynS nm vl i c.1 ((ents.map Ent.kv).drop i) ∧ PRep c.1 nm c.2.1 c.2.2) (none, .none, []) (by rfl) ?n1 ?n2 ?n3 fE nE ?hk ?hd ?hP ?hap ?turn ?done
    case n1 => assumption
    case n2 => assumption
    case n3 => assumption
    case hk =>
      repeat (refine List.forall_mem_cons.mpr ⟨by with_unfolding_all rfl, ?_⟩)
      exact List.forall_mem_nil _
    case hd => intro c; exact List.mem_append_right _ m2
    case hP => exact ⟨rfl, rfl, rfl⟩
    case hap =>
      intro i c h q1 q2 q3 q4 p hp
      rename ∀ (p : Addr × Obj), p ∈ _ → p.1 ≠ _ ∧ p.1 ≠ _ => nap
      refine (List.mem_append.mp hp).elim (fun hp => ?_) (fun hp => by first | exact nap p hp | exact nap p (.tail _ hp))
      obtain ⟨cp, cv, cx⟩ := c
      exact prep_ne q1.2 q2 q3 q4 p hp
    case turn =>
      rintro i ⟨p, pv, ex⟩ x T t old u hh tkk hx ⟨hs, hp⟩ FF NN
      have hi : i < ents.length := by have := (List.getElem?_eq_some_iff.mp hx).1; rw [List.length_map] at this; exact this
      have hx2 : x = .ref ents[i].a := by
        rw [List.getElem?_map, List.getElem?_eq_getElem hi] at hx; exact (Option.some.inj hx).symm
      subst hx2
      obtain ⟨hm, hs1, hs2⟩ := hin ents[i] (List.getElem_mem hi)
      cases p with
      | none =>
        obtain ⟨rfl, rfl⟩ := hp
        dsimp only [List.nil_append] at FF NN
        k_steps
        · rename (ents[i].nm.toList == nm.toList) = true => q1
          rename (ents[i].vl.toList == vl.toList) = true => q2
          rename News _ _ _ _ => nE
          have w1 := arr_eq q1
          have w2 := arr_eq q2
          rw [w1, w2, seq_cast (i := i) rfl] at nE
          refine h _ _ _ [_] ?_ (by assumption) (news_r1 nE)
          rw [searchS_none hM, dyn_full hs hi w1 w2]
          exact ⟨_, _, _, _, rfl, rfl⟩
        · rename (ents[i].nm.toList == nm.toList) = true => q1
          rename (ents[i].vl.toList == vl.toList) = false => q2
          rename News _ _ _ _ => nE
          rename Fr _ _ _ _ => fE
          have w1 := arr_eq q1
          have w2 := arr_ne q2
          rw [w1, seq_cast (i := i) rfl] at nE
          refine ⟨(some (62 + i), _, [(_, _)]), _, _, old, _, rfl, fE, news_r2 nE, ?_, dyn_part hs hi w1 w2, _, _, _, rfl, rfl⟩
          repeat (refine List.forall_mem_cons.mpr ⟨by with_unfolding_all rfl, ?_⟩)
          exact List.forall_mem_nil _
        · rename (ents[i].nm.toList == nm.toList) = false => q1
          rename News _ _ _ _ => nE
          rename Fr _ _ _ _ => fE
          refine ⟨(none, .none, []), _, _, old, _, rfl, fE, News.tail' nE, ?_, dyn_skip hs hi (arr_ne q1), rfl, rfl⟩
          repeat (refine List.forall_mem_cons.mpr ⟨by with_unfolding_all rfl, ?_⟩)
          exact List.forall_mem_nil _
      | some j =>
        obtain ⟨a, tt, tn, rfl, rfl⟩ := hp
        dsimp only [List.nil_append, List.cons_append] at FF NN
        k_steps
        · rename (ents[i].nm.toList == nm.toList) = true => q1
          rename (ents[i].vl.toList == vl.toList) = true => q2
          rename News _ _ _ _ => nE
          have w1 := arr_eq q1
          have w2 := arr_eq q2
          rw [w1, w2, seq_cast (i := i) rfl] at nE
          refine h _ _ _ [_] ?_ (by assumption) (news_r1' nE)
          rw [searchS_none hM, dyn_full hs hi w1 w2]
          exact ⟨_, _, _, _, rfl, rfl⟩
        · rename (ents[i].nm.toList == nm.toList) = true => q1
          rename (ents[i].vl.toList == vl.toList) = false => q2
          rename News _ _ _ _ => nE
          rename Fr _ _ _ _ => fE
          refine ⟨(some j, .ref a, [(a, _)]), _, _, old, _, rfl, fE, News.tail' nE, ?_, dyn_part hs hi (arr_eq q1) (arr_ne q2), _, _, _, rfl, rfl⟩
          repeat (refine List.forall_mem_cons.mpr ⟨by with_unfolding_all rfl, ?_⟩)
          exact List.forall_mem_nil _
        · rename (ents[i].nm.toList == nm.toList) = false => q1
          rename News _ _ _ _ => nE
          rename Fr _ _ _ _ => fE
          refine ⟨(some j, .ref a, [(a, _)]), _, _, old, _, rfl, fE, News.tail' nE, ?_, dyn_skip hs hi (arr_ne q1), _, _, _, rfl, rfl⟩
          repeat (refine List.forall_mem_cons.mpr ⟨by with_unfolding_all rfl, ?_⟩)
          exact List.forall_mem_nil _
    case done =>
      rintro ⟨p, pv, ex⟩ u hh tkk ⟨hs, hp⟩ FF NN
      have hs3 : dynS nm vl 0 none (ents.map Ent.kv) = p.map fun j => (j, false) := by
        rw [hs, hz, List.drop_of_length_le (by simp), dynS]
      cases p with
      | none =>
        obtain ⟨rfl, rfl⟩ := hp
        dsimp only [List.nil_append] at FF NN
        k_steps
        refine h _ _ _ [] ?_ (by assumption) (by assumption)
        rw [searchS_none hM, hs3]
        exact ⟨rfl, rfl⟩
      | some j =>
        obtain ⟨a, tt, tn, rfl, rfl⟩ := hp
        dsimp only [List.nil_append, List.cons_append] at FF NN
        k_steps
        refine h _ _ _ [_] ?_ (by assumption) (by assumption)
        rw [searchS_none hM, hs3]
        exact ⟨_, _, _, 0, rfl, rfl⟩
  | some e =>
    have hA : ((mapFind nm.toList).map fun e => Value.ref e.t).getD .none = .ref e.t := by rw [hM]; rfl
    have hE := mapFind_mem hM
    cases hV : valFind e vl.toList with
    | some x =>
      have hB : ((valFind e vl.toList).map fun x => Value.int x.2.2.1 x.2.2.2).getD .none = .int x.2.2.1 x.2.2.2 := by rw [hV]; rfl
      k_steps
      refine h _ _ _ [_] ?_ (by assumption) (by assumption)
      rw [searchS_full hM hV]
      exact ⟨_, _, _, _, rfl, rfl⟩
    | none =>
      have hB : ((valFind e vl.toList).map fun x => Value.int x.2.2.1 x.2.2.2).getD .none = .none := by rw [hV]; rfl
      k_steps
      rename News _ _ _ _ => nE
      rename Fr _ _ _ _ => fE
      replace nE := news_r2' nE
      refine enum_loopQ (σ := Option Nat × Value × List (Addr × Obj)) (fun c => c.2.2 ++ news)
        (fun c => [(Str.ofString "partial", c.2.1), (Str.ofString "offset", .int 62 ?tob), (Str.ofString "name", .bytes nm t1), (Str.ofString "value", .bytes vl t2), (Str.ofString "self", .ref aT)])
        (fun i c => dynS nm vl 0 (some e.i) (ents.map Ent.kv) = dynS nm vl i c.1 ((ents.map Ent.kv).drop i) ∧ PRep c.1 nm c.2.1 c.2.2) ((some e.i), ?pv, [_]) (by rfl) ?n1b ?n2b ?n3b fE nE ?hkb ?hdb ?hPb ?hapb ?turnb ?doneb
      case n1b => assumption
      case n2b => assumption
      case n3b => assumption
      case hkb =>
        repeat (refine List.forall_mem_cons.mpr ⟨by with_unfolding_all rfl, ?_⟩)
        exact List.forall_mem_nil _
      case hdb => intro c; exact List.mem_append_right _ m2
      case hPb => exact ⟨rfl, _, _, _, rfl, rfl⟩
      case hapb =>
        intro i c h q1 q2 q3 q4 p hp
        rename ∀ (p : Addr × Obj), p ∈ _ → p.1 ≠ _ ∧ p.1 ≠ _ => nap
        refine (List.mem_append.mp hp).elim (fun hp => ?_) (fun hp => by first | exact nap p hp | exact nap p (.tail _ hp))
        obtain ⟨cp, cv, cx⟩ := c
        exact prep_ne q1.2 q2 q3 q4 p hp
      case turnb =>
        rintro i ⟨p, pv, ex⟩ x T t old u hh tkk hx ⟨hs, hp⟩ FF NN
        have hi : i < ents.length := by have := (List.getElem?_eq_some_iff.mp hx).1; rw [List.length_map] at this; exact this
        have hx2 : x = .ref ents[i].a := by
          rw [List.getElem?_map, List.getElem?_eq_getElem hi] at hx; exact (Option.some.inj hx).symm
        subst hx2
        obtain ⟨hm, hs1, hs2⟩ := hin ents[i] (List.getElem_mem hi)
        cases p with
        | none =>
          obtain ⟨rfl, rfl⟩ := hp
          dsimp only [List.nil_append] at FF NN
          k_steps
          · rename (ents[i].nm.toList == nm.toList) = true => q1
            rename (ents[i].vl.toList == vl.toList) = true => q2
            rename News _ _ _ _ => nE
            have w1 := arr_eq q1
            have w2 := arr_eq q2
            rw [w1, w2, seq_cast (i := i) rfl] at nE
            refine h _ _ _ [_] ?_ (by assumption) (news_r1 nE)
            rw [searchS_part hM hV, dyn_full hs hi w1 w2]
            exact ⟨_, _, _, _, rfl, rfl⟩
          · rename (ents[i].nm.toList == nm.toList) = true => q1
            rename (ents[i].vl.toList == vl.toList) = false => q2
            rename News _ _ _ _ => nE
            rename Fr _ _ _ _ => fE
            have w1 := arr_eq q1
            have w2 := arr_ne q2
            rw [w1, seq_cast (i := i) rfl] at nE
            refine ⟨(some (62 + i), _, [(_, _)]), _, _, old, _, rfl, fE, news_r2 nE, ?_, dyn_part hs hi w1 w2, _, _, _, rfl, rfl⟩
            repeat (refine List.forall_mem_cons.mpr ⟨by with_unfolding_all rfl, ?_⟩)
            exact List.forall_mem_nil _
          · rename (ents[i].nm.toList == nm.toList) = false => q1
            rename News _ _ _ _ => nE
            rename Fr _ _ _ _ => fE
            refine ⟨(none, .none, []), _, _, old, _, rfl, fE, News.tail' nE, ?_, dyn_skip hs hi (arr_ne q1), rfl, rfl⟩
            repeat (refine List.forall_mem_cons.mpr ⟨by with_unfolding_all rfl, ?_⟩)
            exact List.forall_mem_nil _
        | some j =>
          obtain ⟨a, tt, tn, rfl, rfl⟩ := hp
          dsimp only [List.nil_append, List.cons_append] at FF NN
          k_steps
          · rename (ents[i].nm.toList == nm.toList) = true => q1
            rename (ents[i].vl.toList == vl.toList) = true => q2
            rename News _ _ _ _ => nE
            have w1 := arr_eq q1
            have w2 := arr_eq q2
            rw [w1, w2, seq_cast (i := i) rfl] at nE
            refine h _ _ _ [_] ?_ (by assumption) (news_r1' nE)
            rw [searchS_part hM hV, dyn_full hs hi w1 w2]
            exact ⟨_, _, _, _, rfl, rfl⟩
          · rename (ents[i].nm.toList == nm.toList) = true => q1
            rename (ents[i].vl.toList == vl.toList) = false => q2
            rename News _ _ _ _ => nE
            rename Fr _ _ _ _ => fE
            refine ⟨(some j, .ref a, [(a, _)]), _, _, old, _, rfl, fE, News.tail' nE, ?_, dyn_part hs hi (arr_eq q1) (arr_ne q2), _, _, _, rfl, rfl⟩
            repeat (refine List.forall_mem_cons.mpr ⟨by with_unfolding_all rfl, ?_⟩)
            exact List.forall_mem_nil _
          · rename (ents[i].nm.toList == nm.toList) = false => q1
            rename News _ _ _ _ => nE
            rename Fr _ _ _ _ => fE
            refine ⟨(some j, .ref a, [(a, _)]), _, _, old, _, rfl, fE, News.tail' nE, ?_, dyn_skip hs hi (arr_ne q1), _, _, _, rfl, rfl⟩
            repeat (refine List.forall_mem_cons.mpr ⟨by with_unfolding_all rfl, ?_⟩)
            exact List.forall_mem_nil _
      case doneb =>
        rintro ⟨p, pv, ex⟩ u hh tkk ⟨hs, hp⟩ FF NN
        have hs3 : dynS nm vl 0 (some e.i) (ents.map Ent.kv) = p.map fun j => (j, false) := by
          rw [hs, hz, List.drop_of_length_le (by simp), dynS]
        cases p with
        | none =>
          obtain ⟨rfl, rfl⟩ := hp
          dsimp only [List.nil_append] at FF NN
          k_steps
          refine h _ _ _ [] ?_ (by assumption) (by assumption)
          rw [searchS_part hM hV, hs3]
          exact ⟨rfl, rfl⟩
        | some j =>
          obtain ⟨a, tt, tn, rfl, rfl⟩ := hp
          dsimp only [List.nil_append, List.cons_append] at FF NN
          k_steps
          refine h _ _ _ [_] ?_ (by assumption) (by assumption)
          rw [searchS_part hM hV, hs3]
          exact ⟨_, _, _, 0, rfl, rfl⟩
end
abbrev BK0 (w : World) := bytesKind PR w
abbrev TK (w : World) := tupleKind (bytesKind PR w)
abbrev Key := List (List UInt8)
abbrev Tab := List (Key × Addr × Value)
noncomputable def DO (w : World) (o : Obj) (xs : Tab) : Prop := o.ExactDict ∧ (∃ es ep, o.data = .dict es ep ∧ es.toList = xs.map (entryOfKey (TK w))) ∧ (xs.map (·.1)).Nodup
noncomputable def KeyIn (w : World) (news : List (Addr × Obj)) (k : Key) (a : Addr) : Prop := ∃ ob, TupKeyObj (bytesKind PR w) k ob ∧ ((a, ob) ∈ news ∨ (KF w.params).lookup a = some ob)
abbrev KeysIn (w : World) (news : List (Addr × Obj)) (xs : Tab) : Prop := ∀ x ∈ xs, KeyIn w news x.1 x.2.1
theorem KeyIn.mono {w : World} {news news' : List (Addr × Obj)} {k : Key} {a : Addr} (h : KeyIn w news k a) (hs : ∀ p ∈ news, p ∈ news') : KeyIn w news' k a :=
  let ⟨ob, t, z⟩ := h; ⟨ob, t, z.imp (hs _) id⟩
section
variable {w : World} {A : Around} {E : Value → Shared → Prop} {s : Shared} {h₀ h : Heap} {L d a : Addr} {m : Str → Option Value} {news : List (Addr × Obj)} {k : Key} {xs : Tab} {o : Obj}
theorem KeyIn.at (F : Fr h₀ L h m) (X₀ : (KF w.params).In h₀) (N : News h₀ L h news) (hk : KeyIn w news k a) : IsTupleKey (bytesKind PR w) h k a := by
  obtain ⟨ob, t, z⟩ := hk
  rcases z with z | z
  · exact t.key (N.get z)
  · exact t.key ((X₀.keeps F.keep) _ _ z)
theorem DO.at (D : DO w o xs) (F : Fr h₀ L h m) (X₀ : (KF w.params).In h₀) (N : News h₀ L h news) (hm : (d, o) ∈ news) (hk : KeysIn w news xs) : h.DictOfH (TK w) d xs := by
  obtain ⟨x, ⟨es, ep, hd, he⟩, hn⟩ := D
  exact ⟨o, es, ep, N.get hm, x, hd, he, fun x hx => KeyIn.at F X₀ N (hk x hx), hn⟩
theorem in_TT {Q : Value → Shared → Prop} (hu : A.units + 1 < cLine) (F : Fr h₀ L s.heap m) (X₀ : (KF w.params).In h₀) (N : News h₀ L s.heap news) (hm : (d, o) ∈ news) (D : DO w o xs) (hk : KeysIn w news xs) (ha : KeyIn w news k a)
    (hd : (d == sysModules) = false) (h : Q (.bool (atKey xs k).isSome) { s with toks := s.toks + (k.length + 1) }) : wpAny (model PR w) A (compareOp .In (.ref a) (.ref d)) Q E s :=
  wpAny_in_heap (knd := TK w) (tupleKind_room_in1 hu) (KeyIn.at F X₀ N ha) hd (D.at F X₀ N hm hk) h
theorem item_TT {value slice : Expr} {p : Addr × Value} {Q : Value → Shared → Prop} (hu : A.units + 1 < cLine) (F : Fr h₀ L s.heap m) (X₀ : (KF w.params).In h₀) (N : News h₀ L s.heap news) (hm : (d, o) ∈ news) (D : DO w o xs) (hk : KeysIn w news xs) (ha : KeyIn w news k a)
    (hp : atKey xs k = some p) (h : Q p.2 { s with toks := s.toks + (k.length + 1) })
    (hs : subscripted slice false (.ref d) (.ref a) = operate [.ref d, .ref a] (getItem (.ref d) (.ref a)) := by with_unfolding_all rfl) (hg : ∀ r, letTemporaryGo value (.ref d) r = pure () := by intro _; with_unfolding_all rfl) :
    wpAny (model PR w) A (subscriptTail value slice (.ref d) (.ref a)) Q E s :=
  have z := D.at F X₀ N hm hk
  subscriptTail_builtin z.typeIs slot_dict_getitem.lookup (wpAny_getItem_heap (knd := TK w) (tupleKind_room_in1 hu) (KeyIn.at F X₀ N ha) z hp h) hs hg
theorem set_TT {v : Value} {Q : Unit → Shared → Prop} {news' : Obj → List (Addr × Obj)} (hu : A.units + 1 < cLine) (F : Fr h₀ L s.heap m) (X₀ : (KF w.params).In h₀) (N : News h₀ L s.heap news) (D : DO w o xs) (hk : KeysIn w news xs) (ha : KeyIn w news k a)
    (U : ∀ o', Upd d o o' news (news' o')) (hsz : xs.length ≤ 100000)
    (h : ∀ h' o', DO w o' (storedH xs k a v) → Fr h₀ L h' m → News h₀ L h' (news' o') → Q () { s with heap := h', toks := s.toks + (k.length + 1) }) : wpAny (model PR w) A (setItem (.ref d) (.ref a) v) Q E s := by
  refine wpAny_setItem_heap (knd := TK w) (tupleKind_room_in1 hu) (KeyIn.at F X₀ N ha) (D.at F X₀ N (upd_mem (U o)) hk) (fun h' D' S' => ?_) (by rw [sizeLine_eq]; omega)
  obtain ⟨o', es, ep, ho', x, hd, he, _, hn⟩ := D'
  obtain ⟨pre, post, e1, e2, a1, b1⟩ := (U o').split
  have nd := N (d, o) (upd_mem (U o))
  refine h h' o' ⟨x, ⟨es, ep, hd, he⟩, hn⟩ ⟨F.ns.at' fun q e => (S'.2 _ (Ne.symm nd.2.1)).trans e, fun b q e => (S'.2 b (fun z => by rw [z, nd.2.2] at e; cases e)).trans (F.keep b q e), F.above⟩ ?_
  intro p hp
  rw [e2] at hp
  rcases List.mem_append.mp hp with hp | hp
  · have z := N p (by rw [e1]; exact List.mem_append_left _ hp)
    exact ⟨(S'.2 _ (a1 p hp)).trans z.1, z.2⟩
  rcases List.mem_cons.mp hp with rfl | hp
  · exact ⟨ho', nd.2⟩
  · have z := N p (by rw [e1]; exact List.mem_append_right _ (.tail _ hp))
    exact ⟨(S'.2 _ (b1 p hp)).trans z.1, z.2⟩
end
section
variable {prog : Program} {w : World} {A : Around} {E : Value → Shared → Prop} {s : Shared} {h₀ : Heap} {env : Env} {I : Addr} {fp : List Addr} {n : Nat} {Pv : Nat → Value → Prop} {St : Nat → Heap → Prop} {icls : Value}
noncomputable def WalkEnd {σ : Type} (h₀ : Heap) (L I : Addr) (o : Obj) (s : Shared) (Led : σ → List (Addr × Obj)) (ps : σ → List (Str × Value)) (P : Nat → σ → Prop) (i : Nat) (s₃ : Shared) : Prop :=
  ∃ (c' : σ) (h' : Heap) (tk : Nat) (m' : Str → Option Value), s₃ = { s with heap := h', toks := tk } ∧ Fr h₀ L h' m' ∧
    News h₀ L h' ((I, o) :: Led c') ∧ (∀ p ∈ ps c', m' p.1 = some p.2) ∧ P (i + 1) c'
noncomputable def WalkPost {σ : Type} (h₀ : Heap) (L I : Addr) (o : Obj) (s : Shared) (Led : σ → List (Addr × Obj)) (ps : σ → List (Str × Value)) (P : Nat → σ → Prop) (i : Nat) (Q : Flow → Shared → Prop) (f : Flow) (s₃ : Shared) : Prop :=
  match f with
  | .ret v => Q (.ret v) s₃
  | .brk => Q .next s₃
  | _ => WalkEnd h₀ L I o s Led ps P i s₃
theorem walk_loopQ {σ : Type} {target : Expr} {body : List Stmt} {Q : Flow → Shared → Prop} {m : Str → Option Value} (Led : σ → List (Addr × Obj)) (ps : σ → List (Str × Value)) (P : Nat → σ → Prop) (c₀ : σ)
    (W : Walks prog w A I fp [I] n Pv St) (hcls : ∀ i h, St i h → (h.get? I).map Obj.cls = some icls)
    (hfp : ∀ b ∈ fp, b = I ∨ ∃ o, ∀ c, (b, o) ∈ Led c)
    (hgo : ∀ v (s : Shared) (Q : Unit → Shared → Prop) (E : Value → Shared → Prop), (s.heap.get? I).map Obj.cls = some icls → Q () s → wpAny (model prog w) A (letOwnedTupleGo target (.ref I) v) Q E s)
    (hL : I ≠ env.locals) (hn : h₀.get? I = none) (hst : St 0 s.heap)
    (F : Fr h₀ env.locals s.heap m) (N : News h₀ env.locals s.heap (Led c₀))
    (hk : ∀ p ∈ ps c₀, m p.1 = some p.2) (hP : P 0 c₀)
    (hap : ∀ i c h, i ≤ n → P i c → News h₀ env.locals h (Led c) → (h.get? I).map Obj.cls = some icls → ∀ p ∈ Led c, p.1 ≠ I)
    (turn : ∀ i c v o u h tk, i < n → Pv i v → P i c → Fr h₀ env.locals h (kstB u (ps c)) → News h₀ env.locals h ((I, o) :: Led c) →
      wpAny (model prog w) A (assign target env v) (fun _ s₂ => wpAny (model prog w) A (execs body env) (WalkPost h₀ env.locals I o s Led ps P i Q) E s₂) E { s with heap := h, toks := tk })
    (done : ∀ c u h tk, P n c → Fr h₀ env.locals h (kstB u (ps c)) → News h₀ env.locals h (Led c) → Q .next { s with heap := h, toks := tk })
    (hE : PassesOwn (model prog w) A env E := by passes_own) :
    codeAny (model prog w) A (.forLoop target (.ref I) body [] env) (fun r s' => match r with | .ok f => Q f s' | .error e => cameBackBy (model prog w) A env E e s') s := by
  refine codeAny_forLoop_any
    (fun j s' => ∃ (i : Nat) (c : σ) (h' : Heap) (tk : Nat) (m' : Str → Option Value), s' = { s with heap := h', toks := tk } ∧ j = n + 1 - i ∧ i ≤ n ∧ St i h' ∧ Fr h₀ env.locals h' m' ∧
      News h₀ env.locals h' (Led c) ∧ (∀ p ∈ ps c, m' p.1 = some p.2) ∧ P i c) ?_ (n + 1)
    ⟨0, c₀, s.heap, s.toks, m, rfl, rfl, Nat.zero_le _, hst, F, N, hk, hP⟩
  rintro j s' ⟨i, c, h', tk, m', rfl, rfl, hi, hst', F', N', hk', hP'⟩
  have hap' := hap i c h' hi hP' N' (hcls _ _ hst')
  have keep : ∀ {h₁ : Heap}, (∀ b o, b ∉ [I] → h'.get? b = some o → h₁.get? b = some o) → Fr h₀ env.locals h₁ m' ∧ News h₀ env.locals h₁ (Led c) := fun {h₁} hk₁ =>
    ⟨⟨F'.ns.at' fun o x => hk₁ _ o (fun z => hL (List.mem_singleton.mp z).symm) x, fun b o x => hk₁ b o (fun z => by rw [List.mem_singleton.mp z, hn] at x; cases x) (F'.keep b o x), F'.above⟩,
      fun p hp => ⟨hk₁ _ _ (fun z => hap' p hp (List.mem_singleton.mp z)) (N' p hp).1, (N' p hp).2⟩⟩
  by_cases hlt : i < n
  · refine W.item i _ _ _ hlt hst' fun v h₁ tk₁ hPv hst₁ hk₁ => ?_
    obtain ⟨F₁, N₁⟩ := keep hk₁
    have hc₁ := hcls _ _ hst₁
    obtain ⟨o, ho⟩ : ∃ o, h₁.get? I = some o := by
      cases hq : h₁.get? I with
      | none => rw [hq] at hc₁; cases hc₁
      | some o => exact ⟨o, rfl⟩
    refine hgo v _ _ _ hc₁ ?_
    have N₂ : News h₀ env.locals h₁ ((I, o) :: Led c) := fun p hp => by
      rcases List.mem_cons.mp hp with rfl | hp
      · exact ⟨ho, hL, hn⟩
      · exact N₁ p hp
    refine wpAny_passesOwn hE (wpAny_mono (turn i c v o m' h₁ tk₁ hlt hPv hP' (fr_kst F₁ hk') N₂) (fun _ s₂ q => ?_) fun _ _ x => x)
    refine wpAny_passesOwn hE (wpAny_mono q (fun f s₃ q => ?_) fun _ _ x => x)
    have fin : WalkEnd h₀ env.locals I o s Led ps P i s₃ → ∃ m, m < n + 1 - i ∧ ∃ (i : Nat) (c : σ) (h' : Heap) (tk : Nat) (m' : Str → Option Value), s₃ = { s with heap := h', toks := tk } ∧ m = n + 1 - i ∧ i ≤ n ∧ St i h' ∧ Fr h₀ env.locals h' m' ∧
        News h₀ env.locals h' (Led c) ∧ (∀ p ∈ ps c, m' p.1 = some p.2) ∧ P i c := by
      rintro ⟨c', h3, tk3, m3, rfl, F3, N3, hk3, hP3⟩
      refine ⟨n + 1 - (i + 1), by omega, i + 1, c', h3, tk3, m3, rfl, rfl, hlt, ?_, F3, fun p hp => N3 p (.tail _ hp), hk3, hP3⟩
      refine W.frame _ _ _ hst₁ fun b hb o' ho' => ?_
      rcases hfp b hb with rfl | ⟨ob, hob⟩
      · rw [ho] at ho'; cases ho'
        exact (N3 _ (.head _)).1
      · have z1 := (N₁ _ (hob c)).1
        rw [z1] at ho'; cases ho'
        exact (N3 _ (.tail _ (hob c'))).1
    cases f with
    | next => exact fin q
    | cont => exact fin q
    | brk => exact q
    | ret v => exact q
  · have hi2 : i = n := by omega
    subst hi2
    refine W.done _ _ _ hst' fun h₁ tk₁ hk₁ => wpAny_execs_nil ?_
    obtain ⟨F₁, N₁⟩ := keep hk₁
    exact done c m' h₁ tk₁ hP' (fr_kst F₁ hk') N₁
end
section
variable {prog : Program} {w : World} {A : Around} {E : Value → Shared → Prop} {s : Shared} {h₀ : Heap} {L l I : Addr} {m : Str → Option Value} {news : List (Addr × Obj)}
theorem go_listit (target : Expr) : ∀ v (s : Shared) (Q : Unit → Shared → Prop) (E : Value → Shared → Prop), (s.heap.get? I).map Obj.cls = some (.type "list_iterator") → Q () s → wpAny (model prog w) A (letOwnedTupleGo target (.ref I) v) Q E s := by
  intro v s Q E hc hq
  have key : ∀ {f : Obj → Sem Unit}, (∀ o, o.cls = .type "list_iterator" → wpAny (model prog w) A (f o) Q E s) → wpAny (model prog w) A (load I >>= f) Q E s := by
    intro f hf
    cases ho : s.heap.get? I with
    | none => rw [ho] at hc; cases hc
    | some o =>
      rw [ho] at hc
      exact wpAny_bind (wpAny_load ho (hf o (Option.some.inj hc)))
  unfold letOwnedTupleGo
  split
  all_goals first
    | exact wpAny_pure hq
    | (split
       · rename_i heq; cases heq
         refine key fun o hc' => ?_
         rw [hc']
         cases o.data with
         | fields vs => exact wpAny_of_eq (a := ()) rfl hq
         | _ => exact wpAny_pure hq
       · exact wpAny_pure hq)
theorem listit_cls {i : Nat} {items : Array Value} : ∀ (h : Heap), h.IsListIter I l i ∧ h.IsList l items → (h.get? I).map Obj.cls = some (.type "list_iterator") := by
  rintro h ⟨⟨o, ho, hc, _⟩, _⟩
  rw [ho]; exact congrArg some hc
theorem iter_list_K {items : Array Value} {Q : Value → Shared → Prop} (hl : s.heap.IsList l items) (F : Fr h₀ L s.heap m) (N : News h₀ L s.heap news)
    (h : ∀ h' I, (∀ p ∈ news, p.1 ≠ I) → I ≠ L → h₀.get? I = none → l ≠ I → (h'.IsListIter I l 0 ∧ h'.IsList l items) → Fr h₀ L h' m → News h₀ L h' news → Q (.ref I) { s with heap := h' }) : wpAny (model prog w) A (pyIter (.ref l)) Q E s := by
  refine wpAny_pyIter_list hl ?_
  have hb : ∀ p ∈ news, p.1 < s.heap.objs.size := fun p hp => Heap.lt_size (N p hp).1
  have hL : h₀.objs.size ≤ s.heap.objs.size := Nat.le_trans F.above (Nat.le_of_lt F.ns.lt)
  have hk : ∀ b o, s.heap.get? b = some o → (s.heap.push { cls := .type "list_iterator", data := .fields #[.ref l, .int 0 0] }).get? b = some o := fun b o x => Heap.get?_push_of_some _ x
  obtain ⟨ol, hol, _⟩ := id hl
  refine h _ s.heap.objs.size (fun p hp => Nat.ne_of_lt (hb p hp)) (Nat.ne_of_gt F.ns.lt) (Heap.get?_none_of_le hL) (Nat.ne_of_lt (Heap.lt_size hol)) ⟨⟨_, Heap.get?_push_size _ rfl, rfl, rfl⟩, hl.at fun o e => hk _ _ e⟩
    ⟨F.ns.at' fun o x => hk _ _ x, fun b o x => hk _ _ (F.keep b o x), F.above⟩ fun p hp => ⟨hk _ _ (N p hp).1, (N p hp).2⟩
end
section
variable {prog : Program} {w : World} {A : Around} {E : Value → Shared → Prop} {s : Shared} {h₀ : Heap} {L l I : Addr} {m : Str → Option Value} {news : List (Addr × Obj)}
theorem go_name {x : Str} {px : Pos} {icls : Value} : ∀ v (s : Shared) (Q : Unit → Shared → Prop) (E : Value → Shared → Prop), (s.heap.get? I).map Obj.cls = some icls → Q () s → wpAny (model prog w) A (letOwnedTupleGo (.Name x px) (.ref I) v) Q E s :=
  fun v s Q E _ h => wpAny_pure h
theorem rangeit_cls {x y z : Int} : ∀ (h : Heap), IsRangeIter h I x y z → (h.get? I).map Obj.cls = some (.type "range_iterator") := by
  intro h st
  have st' : h.get? I = some _ := st
  rw [st']; rfl
theorem iter_range_K {r : Addr} {a b c : Int} {n : Nat} {t u v : Tok} {Q : Value → Shared → Prop} (hr : IsRange s.heap r a b c t u v) (hsm : Builtin.Range.small a b c = true) (hn : Builtin.Range.rangeSize a b c = (n : Int)) (F : Fr h₀ L s.heap m) (N : News h₀ L s.heap news)
    (h : ∀ h' I, (∀ p ∈ news, p.1 ≠ I) → I ≠ L → h₀.get? I = none → IsRangeIter h' I (a + ((0 : Nat) : Int) * c) ((n : Int) - ((0 : Nat) : Int)) c → Fr h₀ L h' m → News h₀ L h' news → Q (.ref I) { s with heap := h' }) : wpAny (model prog w) A (pyIter (.ref r)) Q E s := by
  refine wpAny_pyIter_range hr hsm ?_
  have hb : ∀ p ∈ news, p.1 < s.heap.objs.size := fun p hp => Heap.lt_size (N p hp).1
  have hL : h₀.objs.size ≤ s.heap.objs.size := Nat.le_trans F.above (Nat.le_of_lt F.ns.lt)
  have hk : ∀ b' o, s.heap.get? b' = some o → (s.heap.push { cls := .type "range_iterator", data := .fields #[rawInt a, rawInt (Builtin.Range.rangeSize a b c), rawInt c] }).get? b' = some o := fun b o x => Heap.get?_push_of_some _ x
  refine h _ s.heap.objs.size (fun p hp => Nat.ne_of_lt (hb p hp)) (Nat.ne_of_gt F.ns.lt) (Heap.get?_none_of_le hL) ?_
    ⟨F.ns.at' fun o x => hk _ _ x, fun b o x => hk _ _ (F.keep b o x), F.above⟩ fun p hp => ⟨hk _ _ (N p hp).1, (N p hp).2⟩
  rw [hn]
  have e1 : a + ((0 : Nat) : Int) * c = a := by simp
  have e2 : (n : Int) - ((0 : Nat) : Int) = n := by simp
  rw [e1, e2]
  exact Heap.get?_push_size _ rfl
end
noncomputable def SRel (xs : Tab) (sf : Key → Option Nat) : Prop := ∀ k, match atKey xs k with
  | none => sf k = none
  | some p => ∃ (j : Nat) (t : Tok), p.2 = .int j t ∧ sf k = some j
noncomputable def LRel (cst : List (Addr × Obj)) (xs : Tab) (lf : Key → Option (Nat × Int)) : Prop := ∀ k, match atKey xs k with
  | none => lf k = none
  | some p => ∃ (b : Addr) (c : Nat) (ad : Int) (t1 t2 : Tok), p.2 = .ref b ∧ (b, tupO [.int c t1, .int ad t2]) ∈ cst ∧ lf k = some (c, ad)
noncomputable def PairAt (w : World) (news : List (Addr × Obj)) (a : Addr) (nm vl : Array UInt8) : Prop := ∃ t1 t2, (a, tupO [.bytes nm t1, .bytes vl t2]) ∈ news ∨ (KF w.params).lookup a = some (tupO [.bytes nm t1, .bytes vl t2])
noncomputable def tryF (sf : Key → Option Nat) (lf : Key → Option (Nat × Int)) (gone : Int) (count : Nat) (k : Key) (full : Bool) : Option (Int × Bool) :=
  match sf k with
  | some j => some ((j : Int), full)
  | none => match lf k with
    | some p => if gone ≤ p.2 then some (61 + (count : Int) - (p.1 : Int), full) else none
    | none => none
noncomputable def foundS (sf : Key → Option Nat) (lf : Key → Option (Nat × Int)) (gone : Int) (count : Nat) (nm vl : Array UInt8) : Option (Int × Bool) :=
  match tryF sf lf gone count [nm.toList, vl.toList] true with
  | some r => some r
  | none => tryF sf lf gone count [nm.toList] false
noncomputable def RRepI (r : Option (Int × Bool)) (nm vl : Array UInt8) (x : Value) (new : List (Addr × Obj)) : Prop := match r with
  | none => x = .none ∧ new = []
  | some (j, fl) => ∃ a t tn tv, x = .ref a ∧ new = [(a, tupO [.int j t, .bytes nm tn, if fl then .bytes vl tv else .none])]
theorem try_S {sf : Key → Option Nat} {lf : Key → Option (Nat × Int)} {gone : Int} {count : Nat} {k : Key} {full : Bool} {j : Nat} (h : sf k = some j) : tryF sf lf gone count k full = some ((j : Int), full) := by unfold tryF; rw [h]
theorem try_L {sf : Key → Option Nat} {lf : Key → Option (Nat × Int)} {gone : Int} {count : Nat} {k : Key} {full : Bool} {c : Nat} {ad : Int} (h : sf k = none) (h2 : lf k = some (c, ad)) (h3 : gone ≤ ad) : tryF sf lf gone count k full = some (61 + (count : Int) - (c : Int), full) := by
  unfold tryF; rw [h, h2]; exact if_pos h3
theorem try_O {sf : Key → Option Nat} {lf : Key → Option (Nat × Int)} {gone : Int} {count : Nat} {k : Key} {full : Bool} {c : Nat} {ad : Int} (h : sf k = none) (h2 : lf k = some (c, ad)) (h3 : ¬ gone ≤ ad) : tryF sf lf gone count k full = none := by
  unfold tryF; rw [h, h2]; exact if_neg h3
theorem try_N {sf : Key → Option Nat} {lf : Key → Option (Nat × Int)} {gone : Int} {count : Nat} {k : Key} {full : Bool} (h : sf k = none) (h2 : lf k = none) : tryF sf lf gone count k full = none := by
  unfold tryF; rw [h, h2]
theorem found_1 {sf : Key → Option Nat} {lf : Key → Option (Nat × Int)} {gone : Int} {count : Nat} {nm vl : Array UInt8} {r} (h : tryF sf lf gone count [nm.toList, vl.toList] true = some r) : foundS sf lf gone count nm vl = some r := by unfold foundS; rw [h]
theorem found_2 {sf : Key → Option Nat} {lf : Key → Option (Nat × Int)} {gone : Int} {count : Nat} {nm vl : Array UInt8} {r} (h : tryF sf lf gone count [nm.toList, vl.toList] true = none) (h2 : tryF sf lf gone count [nm.toList] false = r) : foundS sf lf gone count nm vl = r := by unfold foundS; rw [h]; exact h2
theorem news_skip {h₀ h : Heap} {L : Addr} {a : Addr × Obj} {l c : List (Addr × Obj)} (N : News h₀ L h (a :: l)) (hs : ∀ p ∈ c, p ∈ l) : News h₀ L h (a :: c) := News.perm N fun p hp => by
  rcases List.mem_cons.mp hp with h | h
  · subst h; exact .head _
  · exact .tail _ (hs p h)
theorem at_some {xs : Tab} {k : Key} {p : Addr × Value} (h : atKey xs k = some p) : (atKey xs k).isSome = true := by rw [h]; rfl
theorem at_none {xs : Tab} {k : Key} (h : atKey xs k = none) : (atKey xs k).isSome = false := by rw [h]; rfl
theorem two_get0 {a b v : Value} (h : #[a, b][0]? = some v) : v = a := by simpa using h.symm
theorem two_get1 {a b v : Value} (h : #[a, b][1]? = some v) : v = b := by simpa using h.symm
theorem KeysIn.mono {w : World} {cst news : List (Addr × Obj)} {xs : Tab} (h : KeysIn w cst xs) (hs : ∀ p ∈ cst, p ∈ news) : KeysIn w news xs := fun x hx => (h x hx).mono hs
theorem isB_arr (w : World) (b : Array UInt8) (t : Tok) : (bytesKind PR w).is b.toList (.bytes b t) = true := isKB' PR w b.toList b t rfl
theorem KeyIn.one {w : World} {news : List (Addr × Obj)} {a : Addr} {nm : Array UInt8} {t : Tok} (h : (a, tupO [.bytes nm t]) ∈ news) : KeyIn w news [nm.toList] a :=
  ⟨_, .made (.cons (isB_arr w nm t) .nil), .inl h⟩
theorem KeyIn.two {w : World} {news : List (Addr × Obj)} {a : Addr} {nm vl : Array UInt8} {t1 t2 : Tok} (h : (a, tupO [.bytes nm t1, .bytes vl t2]) ∈ news) : KeyIn w news [nm.toList, vl.toList] a :=
  ⟨_, .made (.cons (isB_arr w nm t1) (.cons (isB_arr w vl t2) .nil)), .inl h⟩
theorem KeyIn.or2 {w : World} {news : List (Addr × Obj)} {a : Addr} {nm vl : Array UInt8} {t1 t2 : Tok} (h : (a, tupO [.bytes nm t1, .bytes vl t2]) ∈ news ∨ (KF w.params).lookup a = some (tupO [.bytes nm t1, .bytes vl t2])) : KeyIn w news [nm.toList, vl.toList] a :=
  ⟨_, .made (.cons (isB_arr w nm t1) (.cons (isB_arr w vl t2) .nil)), h⟩
theorem KeyIn.twoK {w : World} {news : List (Addr × Obj)} {a : Addr} {nm vl : Array UInt8} {t1 t2 : Tok} (h : (KF w.params).lookup a = some (tupO [.bytes nm t1, .bytes vl t2])) : KeyIn w news [nm.toList, vl.toList] a :=
  ⟨_, .made (.cons (isB_arr w nm t1) (.cons (isB_arr w vl t2) .nil)), .inr h⟩
section
variable {w : World} {A : Around} {E : Value → Shared → Prop} {s : Shared} {h₀ h : Heap} {L d a : Addr} {m : Str → Option Value} {news : List (Addr × Obj)} {k : Key} {xs : Tab} {o : Obj}
theorem item_pair {value slice : Expr} {l : List Value} {i : Int} {u : Tok} {j : Nat} {x : Value} {Q : Value → Shared → Prop} (F : Fr h₀ L s.heap m) (X₀ : (KF w.params).In h₀) (N : News h₀ L s.heap news)
    (ha : (a, tupO l) ∈ news ∨ (KF w.params).lookup a = some (tupO l)) (hlo : -(2 ^ 63) ≤ i) (hhi : i < 2 ^ 63) (hj : seqIndex? i l.length = some j) (hx : l[j]? = some x) (h : Q x s)
    (hs : subscripted slice false (.ref a) (.int i u) = operate [.ref a, .int i u] (getItem (.ref a) (.int i u)) := by with_unfolding_all rfl) (hg : ∀ r, letTemporaryGo value (.ref a) r = pure () := by intro _; with_unfolding_all rfl) :
    wpAny (model PR w) A (subscriptTail value slice (.ref a) (.int i u)) Q E s :=
  item_tupleL (ha.elim (fun z => News.isTup N z) (fun z => kun_topT F X₀ z)) hlo hhi hj hx h hs hg
end
local macro_rules | `(tactic| walk_at "subscriptTail") => `(tactic| (k_here; (with_reducible show wpAny _ _ (subscriptTail _ _ (Value.ref _) (Value.int _ _)) _ _ _); k_dflt (refine' item_pair ?F ?X ?N ?e ?a ?b ?c ?d ?_; (case F => k_asm); (case X => k_asm); (case N => k_asm); (case e => (first | exact Or.inl (by k_mem) | exact Or.inr (by assumption) | (refine Or.imp_left (fun h => ?_) (by assumption); repeat (first | exact h | refine List.Mem.tail _ ?_)))); (case a => decide); (case b => decide); (case c => rfl); (case d => rfl); k_whole)))
theorem in_TT2 {w : World} {A : Around} {E : Value → Shared → Prop} {s : Shared} {h₀ : Heap} {L d a : Addr} {m : Str → Option Value} {news : List (Addr × Obj)} {k : Key} {xs : Tab} {o : Obj} {b : Bool} {Q : Value → Shared → Prop} (hu : A.units + 1 < cLine) (F : Fr h₀ L s.heap m) (X₀ : (KF w.params).In h₀) (N : News h₀ L s.heap news) (hm : (d, o) ∈ news) (D : DO w o xs) (ha : KeyIn w news k a) (hb : (atKey xs k).isSome = b) (hk : KeysIn w news xs)
    (hd : (d == sysModules) = false) (h : Q (.bool b) { s with toks := s.toks + (k.length + 1) }) : wpAny (model PR w) A (compareOp .In (.ref a) (.ref d)) Q E s := in_TT hu F X₀ N hm D hk ha hd (hb ▸ h)
theorem item_TT2 {w : World} {A : Around} {E : Value → Shared → Prop} {s : Shared} {h₀ : Heap} {L d a : Addr} {m : Str → Option Value} {news : List (Addr × Obj)} {k : Key} {xs : Tab} {o : Obj} {value slice : Expr} {pa : Addr} {v : Value} {Q : Value → Shared → Prop} (hu : A.units + 1 < cLine) (F : Fr h₀ L s.heap m) (X₀ : (KF w.params).In h₀) (N : News h₀ L s.heap news) (hm : (d, o) ∈ news) (D : DO w o xs) (ha : KeyIn w news k a) (hp : atKey xs k = some (pa, v)) (hk : KeysIn w news xs)
    (h : Q v { s with toks := s.toks + (k.length + 1) })
    (hs : subscripted slice false (.ref d) (.ref a) = operate [.ref d, .ref a] (getItem (.ref d) (.ref a)) := by with_unfolding_all rfl) (hg : ∀ r, letTemporaryGo value (.ref d) r = pure () := by intro _; with_unfolding_all rfl) :
    wpAny (model PR w) A (subscriptTail value slice (.ref d) (.ref a)) Q E s := item_TT hu F X₀ N hm D hk ha hp h hs hg
theorem ne_sys {h₀ h : Heap} {L d : Addr} {o : Obj} {news : List (Addr × Obj)} (N : News h₀ L h news) (hm : (d, o) ∈ news) (h0 : ∃ o', h₀.get? sysModules = some o') : (d == sysModules) = false := by
  have z := (N _ hm).2.2
  obtain ⟨o', h0⟩ := h0
  cases hq : d == sysModules with
  | false => rfl
  | true => have := eq_of_beq hq; subst this; rw [h0] at z; cases z
local macro_rules | `(tactic| walk_at "compareOp In ref ref") => `(tactic| (k_here; k_dflt (refine' in_TT2 ?u ?F ?X ?N ?m ?D ?a ?b ?k ?d ?_; (case u => (with_unfolding_all exact Nat.le_of_ble_eq_true rfl)); (case F => k_asm); (case X => k_asm); (case N => k_asm); (case m => (repeat (first | assumption | refine List.Mem.tail _ ?_))); (case D => assumption); (case a => (first | exact KeyIn.two (by k_mem) | exact KeyIn.one (by k_mem) | exact KeyIn.twoK (by assumption) | (refine KeyIn.or2 (Or.imp_left (fun h => ?_) (by assumption)); repeat (first | exact h | refine List.Mem.tail _ ?_)))); (case b => (first | exact at_some (by assumption) | exact at_none (by assumption))); (case k => (exact KeysIn.mono (by assumption) (by intro p hp; repeat (first | exact hp | refine List.Mem.tail _ ?_)))); (case d => assumption); k_whole)))
local macro_rules | `(tactic| walk_at "subscriptTail") => `(tactic| (k_here; (with_reducible show wpAny _ _ (subscriptTail _ _ (Value.ref _) (Value.ref _)) _ _ _); k_dflt (refine' item_TT2 ?u ?F ?X ?N ?m ?D ?a ?p ?k ?_; (case u => (with_unfolding_all exact Nat.le_of_ble_eq_true rfl)); (case F => k_asm); (case X => k_asm); (case N => k_asm); (case m => (repeat (first | assumption | refine List.Mem.tail _ ?_))); (case D => assumption); (case a => (first | exact KeyIn.two (by k_mem) | exact KeyIn.one (by k_mem) | exact KeyIn.twoK (by assumption) | (refine KeyIn.or2 (Or.imp_left (fun h => ?_) (by assumption)); repeat (first | exact h | refine List.Mem.tail _ ?_)))); (case p => assumption); (case k => (exact KeysIn.mono (by assumption) (by intro p hp; repeat (first | exact hp | refine List.Mem.tail _ ?_)))); k_whole)))
local macro_rules | `(tactic| walk_at "WalkPost") => `(tactic| (dsimp only [WalkPost]))
local macro_rules | `(tactic| walk_at "exec For Tuple List cons nil") => `(tactic| (with_unfolding_all refine wpAny_For ?_))
local macro_rules | `(tactic| walk_at "pyIter ref") => `(tactic| (k_here; (with_reducible show wpAny _ _ (pyIter (Value.ref _)) _ _ _); k_dflt (refine' iter_list_K ?l ?F ?N ?_; (case l => exact News.isList (by k_asm) (by k_mem)); (case F => k_asm); (case N => k_asm); k_whole); intro h' I nap neL fr neI stI F' N'))
section
variable {w : World} {base h₀ : Heap} {e1 e2 : Env} {L : Addr} {m : Str → Option Value} {s : Shared} {mg mb : Str → Option Value} {mean : ExcName → Option Value} {R : Result → Shared → Prop}
theorem found_K {aP sD lD : Addr} {oS oL : Obj} {xsS xsL : Tab} {sf : Key → Option Nat} {lf : Key → Option (Nat × Int)} {gone : Int} {count : Nat} {tg tc : Tok} {cst : List (Addr × Obj)} {nm vl : Array UInt8}
    (B : Below callerA base [] h₀) (F : Fr h₀ L s.heap m) (X₀ : (KF w.params).In h₀) (T : Top qv (looseW qv lsv) mean mg mb h₀)
    (N : News h₀ L s.heap cst) (mS : (sD, oS) ∈ cst) (mL : (lD, oL) ∈ cst) (hP : PairAt w cst aP nm vl)
    (DS : DO w oS xsS) (DL : DO w oL xsL) (kS : KeysIn w cst xsS) (kL : KeysIn w cst xsL) (rS : SRel xsS sf) (rL : LRel cst xsL lf) (sS : (sD == sysModules) = false) (sL : (lD == sysModules) = false)
    (hf : e1.frame = some L) (hke : e1.scope.kind = .function)
    (h : ∀ h' tk x new, RRepI (foundS sf lf gone count nm vl) nm vl x new → Fr h₀ L h' m → News h₀ L h' (new ++ cst) → R (.ok (.ret x)) { s with heap := h', toks := tk }) :
    codeAny (model PR w) (callerA.deeper e1) (.call (.ref 806) ⟨[.ref aP, .ref sD, .ref lD, .int gone tg, .int count tc], []⟩) R s := by
  w_on
  w_top off
  refine' code_def B F X₀ N T rfl hf hke ?k6 ?k7 ?k8 ?k9 ?kB ?_ ?c2 ?c3 ?c4 ?c5
  case k6 => k_is
  case k7 => k_is
  case k8 => k_room
  case k9 => exact BindsTo.of_eq rfl
  case kB => exact locs rfl
  case c2 => exact rfl
  case c3 => exact rfl
  case c4 => exact rfl
  case c5 => decide
  obtain ⟨t1, t2, hP⟩ := hP
  intro g' L' h' FG' F' N' B' X' T'
  try dsimp only
  try k_fold
  k_steps
  rename News _ _ _ _ => nE
  rename Fr _ _ _ _ => fE
  rename ∀ (p : Addr × Obj), p ∈ _ → p.1 ≠ _ => nap
  rename _ ∧ Heap.IsList _ _ _ => stI
  refine walk_loopQ (σ := Unit) (fun _ => _) (fun _ => [(Str.ofString "pair", .ref aP), (Str.ofString "standing", .ref sD), (Str.ofString "last", .ref lD), (Str.ofString "gone", .int gone tg), (Str.ofString "count", .int count tc)])
    (fun i _ => (1 ≤ i → tryF sf lf gone count [nm.toList, vl.toList] true = none) ∧ (2 ≤ i → tryF sf lf gone count [nm.toList] false = none)) () (Walks.list (by rfl) _ _ (by assumption) _) (icls := .type "list_iterator") (fun i h => listit_cls h) ?hfp (go_listit _) (by assumption) (by assumption) stI fE nE ?hk ?hP ?hap ?turn ?done
  case hfp =>
    intro b hb
    rcases List.mem_cons.mp hb with h | h
    · exact .inl h
    · rw [List.mem_singleton] at h; subst h; exact .inr ⟨_, fun _ => .head _⟩
  case hk =>
    repeat (refine List.forall_mem_cons.mpr ⟨by with_unfolding_all rfl, ?_⟩)
    exact List.forall_mem_nil _
  case hP => exact ⟨fun h => absurd h (by decide), fun h => absurd h (by decide)⟩
  case hap => exact fun _ _ _ _ _ _ _ p hp => nap p hp
  case turn =>
    rintro i ⟨⟩ v o u hh tkk hi hv ⟨q1, q2⟩ FF NN
    have hi2 : i = 0 ∨ i = 1 := by
      have z : i < 2 := hi
      omega
    try dsimp only at FF NN
    rcases hi2 with rfl | rfl
    · obtain rfl := two_get0 hv
      cases hS : atKey xsS [nm.toList, vl.toList] with
      | some p =>
        obtain ⟨pa, pv⟩ := p
        have rs := rS [nm.toList, vl.toList]
        rw [hS] at rs
        obtain ⟨j, t, e, hj⟩ := rs
        dsimp only at e
        subst e
        k_steps
        rename News _ _ _ _ => nE
        refine h _ _ _ [_] ?_ (by assumption) (news_skip nE (by intro p hp; repeat (first | exact hp | refine List.Mem.tail _ ?_)))
        rw [found_1 (try_S hj)]
        exact ⟨_, _, _, _, rfl, rfl⟩
      | none =>
        have rs := rS [nm.toList, vl.toList]
        rw [hS] at rs
        dsimp only at rs
        cases hL : atKey xsL [nm.toList, vl.toList] with
        | some p =>
          obtain ⟨pa, pv⟩ := p
          have rl := rL [nm.toList, vl.toList]
          rw [hL] at rl
          obtain ⟨b, c, ad, ta, tb, e, hb, hj⟩ := rl
          dsimp only at e
          subst e
          k_steps
          · rename News _ _ _ _ => nE
            refine h _ _ _ [_] ?_ (by assumption) (news_skip nE (by intro p hp; repeat (first | exact hp | refine List.Mem.tail _ ?_)))
            rw [found_1 (try_L rs hj (by omega))]
            exact ⟨_, _, _, _, rfl, rfl⟩
          · rename News _ _ _ _ => nE
            rename Fr _ _ _ _ => fE
            refine ⟨(), _, _, _, rfl, fE, nE, ?_, ⟨fun _ => try_O rs hj (by omega), fun h => absurd h (by decide)⟩⟩
            repeat (refine List.forall_mem_cons.mpr ⟨by with_unfolding_all rfl, ?_⟩)
            exact List.forall_mem_nil _
        | none =>
          have rl := rL [nm.toList, vl.toList]
          rw [hL] at rl
          dsimp only at rl
          k_steps
          rename News _ _ _ _ => nE
          rename Fr _ _ _ _ => fE
          refine ⟨(), _, _, _, rfl, fE, nE, ?_, ⟨fun _ => try_N rs rl, fun h => absurd h (by decide)⟩⟩
          repeat (refine List.forall_mem_cons.mpr ⟨by with_unfolding_all rfl, ?_⟩)
          exact List.forall_mem_nil _
    · obtain rfl := two_get1 hv
      cases hS : atKey xsS [nm.toList] with
      | some p =>
        obtain ⟨pa, pv⟩ := p
        have rs := rS [nm.toList]
        rw [hS] at rs
        obtain ⟨j, t, e, hj⟩ := rs
        dsimp only at e
        subst e
        k_steps
        rename News _ _ _ _ => nE
        refine h _ _ _ [_] ?_ (by assumption) (news_skip nE (by intro p hp; repeat (first | exact hp | refine List.Mem.tail _ ?_)))
        rw [found_2 (q1 (by decide)) (try_S hj)]
        exact ⟨_, _, _, 0, rfl, rfl⟩
      | none =>
        have rs := rS [nm.toList]
        rw [hS] at rs
        dsimp only at rs
        cases hL : atKey xsL [nm.toList] with
        | some p =>
          obtain ⟨pa, pv⟩ := p
          have rl := rL [nm.toList]
          rw [hL] at rl
          obtain ⟨b, c, ad, ta, tb, e, hb, hj⟩ := rl
          dsimp only at e
          subst e
          k_steps
          · rename News _ _ _ _ => nE
            refine h _ _ _ [_] ?_ (by assumption) (news_skip nE (by intro p hp; repeat (first | exact hp | refine List.Mem.tail _ ?_)))
            rw [found_2 (q1 (by decide)) (try_L rs hj (by omega))]
            exact ⟨_, _, _, 0, rfl, rfl⟩
          · rename News _ _ _ _ => nE
            rename Fr _ _ _ _ => fE
            refine ⟨(), _, _, _, rfl, fE, nE, ?_, ⟨fun _ => q1 (by decide), fun _ => try_O rs hj (by omega)⟩⟩
            repeat (refine List.forall_mem_cons.mpr ⟨by with_unfolding_all rfl, ?_⟩)
            exact List.forall_mem_nil _
        | none =>
          have rl := rL [nm.toList]
          rw [hL] at rl
          dsimp only at rl
          k_steps
          rename News _ _ _ _ => nE
          rename Fr _ _ _ _ => fE
          refine ⟨(), _, _, _, rfl, fE, nE, ?_, ⟨fun _ => q1 (by decide), fun _ => try_N rs rl⟩⟩
          repeat (refine List.forall_mem_cons.mpr ⟨by with_unfolding_all rfl, ?_⟩)
          exact List.forall_mem_nil _
  case done =>
    rintro ⟨⟩ u hh tkk ⟨q1, q2⟩ FF NN
    have w1 := q1 (by simp)
    have w2 := q2 (by simp)
    try dsimp only at FF NN
    k_steps
    refine h _ _ _ [] ?_ (by assumption) (News.perm (by assumption) (by intro p hp; repeat (first | exact hp | refine List.Mem.tail _ ?_)))
    rw [found_2 w1 w2]
    exact ⟨rfl, rfl⟩
end
noncomputable def hit (e : KV) (k : Key) : Bool := decide (k = [e.1.toList, e.2.toList]) || decide (k = [e.1.toList])
noncomputable def lastF : List KV → Key → Option (Nat × Int)
  | [], _ => none
  | e :: H, k => if hit e k then some (H.length, sumKV H) else lastF H k
noncomputable def statF : List (Nat × KV) → Key → Option Nat
  | [], _ => none
  | e :: l, k => if hit e.2 k then some e.1 else statF l k
noncomputable def firstI (q : KV → Bool) : List KV → Option Nat
  | [] => none
  | e :: l => if q e then some 0 else (firstI q l).map (· + 1)
theorem hit_two (e : KV) (nm vl : Array UInt8) : hit e [nm.toList, vl.toList] = decide (e.1 = nm ∧ e.2 = vl) := by
  unfold hit
  rw [Bool.eq_iff_iff]
  simp only [List.cons.injEq, and_true, reduceCtorEq, and_false, decide_false, Bool.or_false, decide_eq_true_eq, Array.toList_inj]
  exact ⟨fun h => ⟨h.1.symm, h.2.symm⟩, fun h => ⟨h.1.symm, h.2.symm⟩⟩
theorem hit_one (e : KV) (nm : Array UInt8) : hit e [nm.toList] = decide (e.1 = nm) := by
  unfold hit
  rw [Bool.eq_iff_iff]
  simp only [List.cons.injEq, and_true, reduceCtorEq, and_false, decide_false, Bool.false_or, decide_eq_true_eq, Array.toList_inj]
  exact eq_comm
theorem dynS_eq {nm vl : Array UInt8} : ∀ (l : List KV) (i : Nat) (p : Option Nat), dynS nm vl i p l = match firstI (fun e => decide (e.1 = nm ∧ e.2 = vl)) l with
    | some j => some (62 + i + j, true)
    | none => match p with
      | some q => some (q, false)
      | none => (firstI (fun e => decide (e.1 = nm)) l).map fun j => (62 + i + j, false)
  | [], i, p => by cases p <;> rfl
  | e :: l, i, p => by
    unfold dynS firstI
    by_cases h1 : e.1 = nm
    · by_cases h2 : e.2 = vl
      · simp [h1, h2]
      · rw [if_pos h1, if_neg h2, dynS_eq l (i + 1)]
        simp only [h1, h2, and_false, decide_false, Bool.false_eq_true, if_false, decide_true, if_true]
        cases firstI (fun e => decide (e.1 = nm ∧ e.2 = vl)) l with
        | some j => simp; omega
        | none => cases p <;> simp
    · rw [if_neg h1, dynS_eq l (i + 1)]
      simp only [h1, false_and, decide_false, Bool.false_eq_true, if_false]
      cases firstI (fun e => decide (e.1 = nm ∧ e.2 = vl)) l with
      | some j => simp; omega
      | none => cases p with
        | some q => simp
        | none => cases firstI (fun e => decide (e.1 = nm)) l with
          | none => rfl
          | some j => simp; omega
theorem firstI_take (q : KV → Bool) : ∀ (H : List KV) (n : Nat), firstI q (H.take n) = match firstI q H with
    | some j => if j < n then some j else none
    | none => none
  | [], n => by simp [firstI]
  | e :: H, 0 => by
    simp only [List.take_zero, firstI]
    by_cases h : q e = true
    · simp [h]
    · simp only [h, if_false]
      cases firstI q H <;> simp
  | e :: H, n + 1 => by
    simp only [List.take_succ_cons, firstI]
    by_cases h : q e = true
    · simp [h]
    · simp only [h, if_false, firstI_take q H n]
      cases firstI q H with
      | none => simp
      | some j => by_cases hj : j < n <;> simp [hj]
theorem firstI_get (q : KV → Bool) : ∀ (H : List KV) {j : Nat}, firstI q H = some j → ∃ e, H[j]? = some e ∧ q e = true
  | [], j, h => by simp [firstI] at h
  | e :: H, j, h => by
    unfold firstI at h
    by_cases h1 : q e = true
    · rw [if_pos h1] at h; cases h; exact ⟨e, rfl, h1⟩
    · rw [if_neg h1] at h
      cases h2 : firstI q H with
      | none => rw [h2] at h; cases h
      | some i =>
        rw [h2] at h; cases h
        obtain ⟨e', a, b⟩ := firstI_get q H h2
        exact ⟨e', by simpa using a, b⟩
theorem firstI_lt (q : KV → Bool) {H : List KV} {j : Nat} (h : firstI q H = some j) : j < H.length := by
  obtain ⟨e, a, _⟩ := firstI_get q H h
  exact (List.getElem?_eq_some_iff.mp a).1
theorem lastF_eq : ∀ (H : List KV) (k : Key), lastF H k = (firstI (fun e => hit e k) H).map fun j => (H.length - 1 - j, sumKV (H.drop (j + 1)))
  | [], k => rfl
  | e :: H, k => by
    unfold lastF firstI
    by_cases h : hit e k = true
    · simp [h]
    · simp only [h, if_false]
      rw [lastF_eq H k]
      cases firstI (fun e => hit e k) H with
      | none => simp
      | some j =>
        simp only [Option.map_some, List.length_cons, List.drop_succ_cons]
        have z : H.length - 1 - j = H.length + 1 - 1 - (j + 1) := by omega
        rw [z]; rfl
structure Inv (H : List KV) (n : Nat) (gone : Int) : Prop where
  le : n ≤ H.length
  top : gone ≤ sumKV H
  iff : ∀ i, i < H.length → (i < n ↔ gone ≤ sumKV (H.drop (i + 1)))
theorem sumKV_nil : sumKV [] = 0 := rfl
theorem sumKV_cons (e : KV) (l : List KV) : sumKV (e :: l) = kvSize e + sumKV l := by simp [sumKV]
theorem kvSize_32 (e : KV) : 32 ≤ kvSize e := by unfold kvSize; omega
theorem sumKV_pos : ∀ l : List KV, 0 ≤ sumKV l
  | [] => by simp [sumKV_nil]
  | e :: l => by have := sumKV_pos l; have := kvSize_32 e; rw [sumKV_cons]; omega
theorem sumKV_split (l : List KV) (n : Nat) : sumKV l = sumKV (l.take n) + sumKV (l.drop n) := by
  unfold sumKV
  rw [← List.sum_append, ← List.map_append, List.take_append_drop]
theorem sumKV_mono (l : List KV) {i j : Nat} (h : i ≤ j) : sumKV (l.take i) ≤ sumKV (l.take j) := by
  have e := sumKV_split (l.take j) i
  rw [List.take_take, Nat.min_eq_left h] at e
  have := sumKV_pos ((l.take j).drop i)
  omega
theorem sumKV_le (l : List KV) (i : Nat) : sumKV (l.drop i) ≤ sumKV l := by
  have := sumKV_split l i
  have := sumKV_pos (l.take i)
  omega
theorem Inv.nil {gone : Int} (h : gone ≤ 0) : Inv [] 0 gone := ⟨Nat.le_refl _, by rw [sumKV_nil]; exact h, fun i hi => absurd hi (Nat.not_lt_zero i)⟩
theorem Inv.push {H : List KV} {n : Nat} {gone : Int} (I : Inv H n gone) (e : KV) : Inv (e :: H) (n + 1) gone := by
  refine ⟨by have := I.le; simp only [List.length_cons]; omega, by have := I.top; have := kvSize_32 e; rw [sumKV_cons]; omega, ?_⟩
  intro i hi
  simp only [List.drop_succ_cons]
  cases i with
  | zero => simp only [List.drop_zero]; exact ⟨fun _ => I.top, fun _ => by omega⟩
  | succ i =>
    have := I.iff i (by simpa using hi)
    rw [← this]; omega
theorem Inv.cut {H : List KV} {n n' : Nat} {gone v : Int} (I : Inv H n gone) (hv : 0 ≤ v) (S : Shr v (H.take n) n') : Inv H n' (max gone (sumKV H - v)) := by
  obtain ⟨s1, s2, s3⟩ := S
  have hn := I.le
  have ln : (H.take n).length = n := by rw [List.length_take]; omega
  rw [ln] at s1 s3
  rw [List.take_take, Nat.min_eq_left s1] at s2
  refine ⟨by omega, by have := I.top; omega, ?_⟩
  intro i hi
  have e := sumKV_split H (i + 1)
  constructor
  · intro h
    have a := (I.iff i hi).mp (by omega)
    have b := sumKV_mono H (show i + 1 ≤ n' by omega)
    omega
  · intro h
    have a := (I.iff i hi).mpr (by omega)
    rcases s3 with s3 | s3
    · omega
    · by_cases c : i < n'
      · exact c
      · rw [List.take_take, Nat.min_eq_left (by omega)] at s3
        have b := sumKV_mono H (show n' + 1 ≤ i + 1 by omega)
        omega
theorem Inv.add {H : List KV} {n n' : Nat} {gone v : Int} (I : Inv H n gone) (hv : 0 ≤ v) (e : KV) (S : Shr v (e :: H.take n) n') : Inv (e :: H) n' (max gone (sumKV (e :: H) - v)) :=
  (I.push e).cut hv (by rw [List.take_succ_cons]; exact S)
noncomputable def rowsOf (e : SE) : List (Nat × KV) := e.kvs.map fun x => (x.2.2.1, (e.nm.toArray, x.1.toArray))
noncomputable def statT : List (Nat × KV) := mapTab.flatMap rowsOf
theorem statF_append (k : Key) : ∀ l1 l2 : List (Nat × KV), statF (l1 ++ l2) k = match statF l1 k with | some j => some j | none => statF l2 k
  | [], l2 => rfl
  | e :: l1, l2 => by
    simp only [List.cons_append, statF]
    by_cases h : hit e.2 k = true
    · simp [h]
    · simp only [h, if_false]; exact statF_append k l1 l2
theorem rows_one (nm : Array UInt8) (e : SE) : ∀ (l : List (List UInt8 × Tok × Nat × Tok)), statF (l.map fun x => (x.2.2.1, (e.nm.toArray, x.1.toArray))) [nm.toList] = if e.nm = nm.toList then l.head?.map fun x => x.2.2.1 else none
  | [] => by simp [statF]
  | x :: l => by
    simp only [List.map_cons, statF, hit_one]
    by_cases h : e.nm = nm.toList
    · simp [h]
    · have h' : ¬ e.nm.toArray = nm := fun z => h (by rw [← z])
      simp only [h', decide_false, Bool.false_eq_true, if_false, rows_one nm e l, h]
theorem rows_two (nm vl : Array UInt8) (e : SE) : ∀ (l : List (List UInt8 × Tok × Nat × Tok)), statF (l.map fun x => (x.2.2.1, (e.nm.toArray, x.1.toArray))) [nm.toList, vl.toList] = if e.nm = nm.toList then (l.find? fun x => decide (x.1 = vl.toList)).map fun x => x.2.2.1 else none
  | [] => by simp [statF]
  | x :: l => by
    simp only [List.map_cons, statF, hit_two]
    by_cases h : e.nm = nm.toList
    · have h' : e.nm.toArray = nm := by rw [h]
      by_cases h2 : x.1 = vl.toList
      · simp [h, h2]
      · have h2' : ¬ x.1.toArray = vl := fun z => h2 (by rw [← z])
        simp only [h2', and_false, decide_false, Bool.false_eq_true, if_false, rows_two nm vl e l]
        simp [h, h2]
    · have h' : ¬ e.nm.toArray = nm := fun z => h (by rw [← z])
      simp only [h', false_and, decide_false, Bool.false_eq_true, if_false, rows_two nm vl e l, h]
theorem stat_one (nm : Array UInt8) : ∀ M : List SE, (∀ e ∈ M, (e.kvs.head?.map fun x => x.2.2.1) = some e.i) → statF (M.flatMap rowsOf) [nm.toList] = (M.find? fun e => decide (e.nm = nm.toList)).map fun e => e.i
  | [], _ => rfl
  | e :: M, h => by
    rw [List.flatMap_cons, statF_append, rowsOf, rows_one]
    by_cases h1 : e.nm = nm.toList
    · simp only [h1, if_true, h e (.head _)]
      simp [h1]
    · simp only [h1, if_false, stat_one nm M fun x hx => h x (.tail _ hx)]
      simp [h1]
theorem stat_absent (nm vl : Array UInt8) : ∀ M : List SE, (∀ e ∈ M, e.nm ≠ nm.toList) → statF (M.flatMap rowsOf) [nm.toList, vl.toList] = none
  | [], _ => rfl
  | e :: M, h => by
    rw [List.flatMap_cons, statF_append, rowsOf, rows_two, if_neg (h e (.head _))]
    exact stat_absent nm vl M fun x hx => h x (.tail _ hx)
theorem stat_two (nm vl : Array UInt8) : ∀ M : List SE, (M.map fun e => e.nm).Nodup → statF (M.flatMap rowsOf) [nm.toList, vl.toList] = (M.find? fun e => decide (e.nm = nm.toList)).bind fun e => (valFind e vl.toList).map fun x => x.2.2.1
  | [], _ => rfl
  | e :: M, h => by
    rw [List.map_cons, List.nodup_cons] at h
    rw [List.flatMap_cons, statF_append, rowsOf, rows_two]
    by_cases h1 : e.nm = nm.toList
    · simp only [h1, if_true]
      have z := stat_absent nm vl M fun x hx q => h.1 (List.mem_map.mpr ⟨x, hx, q.trans h1.symm⟩)
      rw [z]
      simp only [h1, decide_true, List.find?_cons, Option.bind_some, valFind]
      cases e.kvs.find? (fun x => decide (x.1 = vl.toList)) <;> rfl
    · simp only [h1, if_false, stat_two nm vl M h.2]
      simp [h1]
theorem mapTab_heads : ∀ e ∈ mapTab, (e.kvs.head?.map fun x => x.2.2.1) = some e.i := by decide +kernel
theorem mapTab_nodup : (mapTab.map fun e => e.nm).Nodup := by decide +kernel
theorem statT_places : statT.map (·.1) = List.range' 1 61 := by decide +kernel
theorem statT_sizes : ∀ x ∈ statT, x.2.1.size ≤ 100 ∧ x.2.2.size ≤ 100 := by decide +kernel
theorem law_eq {H : List KV} {n : Nat} {gone : Int} (I : Inv H n gone) (nm vl : Array UInt8) :
    (searchS nm vl (H.take n)).map (fun p => ((p.1 : Int), p.2)) = foundS (statF statT) (lastF H) gone H.length nm vl := by
  have lst : ∀ (sf : Key → Option Nat) (q : KV → Bool) (k : Key), (∀ e, hit e k = q e) → ∀ full : Bool, sf k = none → tryF sf (lastF H) gone H.length k full = (firstI q (H.take n)).map fun j => (((62 + j : Nat) : Int), full) := by
    intro sf q k hq full hsf
    have : (fun e => hit e k) = q := funext hq
    unfold tryF
    rw [hsf, lastF_eq, this, firstI_take]
    cases hf : firstI q H with
    | none => rfl
    | some j =>
      have hj := firstI_lt q hf
      have z := I.iff j hj
      simp only [Option.map_some]
      by_cases hn : j < n
      · rw [if_pos (z.mp hn), if_pos hn]
        simp only [Option.map_some, Option.some.injEq, Prod.mk.injEq, and_true]
        omega
      · rw [if_neg (fun g => hn (z.mpr g)), if_neg hn]; rfl
  have l2 := lst (statF statT) (fun e => decide (e.1 = nm ∧ e.2 = vl)) [nm.toList, vl.toList] (fun e => hit_two e nm vl) true
  have l1 := lst (statF statT) (fun e => decide (e.1 = nm)) [nm.toList] (fun e => hit_one e nm) false
  have s1 : statF statT [nm.toList] = (mapFind nm.toList).map fun e => e.i := stat_one nm mapTab mapTab_heads
  have s2 : statF statT [nm.toList, vl.toList] = (mapFind nm.toList).bind fun e => (valFind e vl.toList).map fun x => x.2.2.1 := stat_two nm vl mapTab mapTab_nodup
  unfold foundS
  cases hm : mapFind nm.toList with
  | none =>
    rw [hm] at s1 s2
    rw [searchS_none hm, dynS_eq, l2 s2, l1 s1]
    cases firstI (fun e => decide (e.1 = nm ∧ e.2 = vl)) (H.take n) with
    | some j => simp
    | none => cases firstI (fun e => decide (e.1 = nm)) (H.take n) <;> simp
  | some e =>
    rw [hm] at s1 s2
    cases hv : valFind e vl.toList with
    | some x =>
      have s2 : statF statT [nm.toList, vl.toList] = some x.2.2.1 := by rw [s2, Option.bind_some, hv]; rfl
      rw [searchS_full hm hv, try_S s2]; rfl
    | none =>
      have s2 : statF statT [nm.toList, vl.toList] = none := by rw [s2, Option.bind_some, hv]; rfl
      rw [searchS_part hm hv, dynS_eq, l2 s2, try_S s1]
      cases firstI (fun e => decide (e.1 = nm ∧ e.2 = vl)) (H.take n) with
      | some j => simp
      | none => simp
theorem look_row (P : Params) : ∀ x ∈ statT, ∃ t1 t2, (KF P).lookup (95 + x.1) = some (tupO [.bytes x.2.1 t1, .bytes x.2.2 t2]) := by
  have e : statT = mapTab.flatMap rowsOf := rfl
  refine List.forall_mem_cons.mpr ⟨⟨_, _, by with_unfolding_all rfl⟩, ?_⟩
  repeat (refine List.forall_mem_cons.mpr ⟨⟨_, _, by with_unfolding_all rfl⟩, ?_⟩)
  exact List.forall_mem_nil _
theorem stat_get {j : Nat} (h : j < 61) : ∃ nm vl, statT[j]? = some (j + 1, (nm, vl)) ∧ nm.size ≤ 100 ∧ vl.size ≤ 100 ∧ ∀ P, ∃ t1 t2, (KF P).lookup (96 + j) = some (tupO [.bytes nm t1, .bytes vl t2]) := by
  have hl : statT.length = 61 := by rw [← List.length_map (f := (·.1)), statT_places]; rfl
  have hg : statT[j]? = some statT[j] := List.getElem?_eq_getElem (by omega)
  have hm : statT[j] ∈ statT := List.getElem_mem _
  have hp : statT[j].1 = j + 1 := by
    have z : (statT.map (·.1))[j]? = some statT[j].1 := by rw [List.getElem?_map, hg]; rfl
    rw [statT_places, List.getElem?_range' (by omega)] at z
    have := Option.some.inj z
    omega
  have hs := statT_sizes _ hm
  refine ⟨statT[j].2.1, statT[j].2.2, ?_, hs.1, hs.2, fun P => ?_⟩
  · rw [hg]; congr 1; exact Prod.ext hp rfl
  · obtain ⟨t1, t2, z⟩ := look_row P _ hm
    rw [hp] at z
    have q : (95 + (j + 1) : Nat) = 96 + j := by omega
    exact ⟨t1, t2, q ▸ z⟩
theorem rows_mem {e : SE} {x} (he : e ∈ mapTab) (hx : x ∈ e.kvs) : (x.2.2.1, (e.nm.toArray, x.1.toArray)) ∈ statT :=
  List.mem_flatMap.mpr ⟨e, he, List.mem_map.mpr ⟨x, hx, rfl⟩⟩
theorem places_le {x : Nat × KV} (h : x ∈ statT) : 1 ≤ x.1 ∧ x.1 ≤ 61 := by
  have z : x.1 ∈ statT.map (·.1) := List.mem_map.mpr ⟨x, h, rfl⟩
  rw [statT_places, List.mem_range'] at z
  obtain ⟨i, a, b⟩ := z
  omega
theorem told_ok (P : Params) {nm vl : Array UInt8} {kvs : List KV} {j : Nat} {fl : Bool} (h : searchS nm vl kvs = some (j, fl)) :
    (1 ≤ j ∧ j ≤ 61 ∧ ∃ vl' t1 t2, (KF P).lookup (95 + j) = some (tupO [.bytes nm t1, .bytes vl' t2]) ∧ (fl = true → vl' = vl)) ∨
    (61 < j ∧ j ≤ 61 + kvs.length ∧ ∃ vl', kvs[j - 62]? = some (nm, vl') ∧ (fl = true → vl' = vl)) := by
  have dyn : ∀ (q : KV → Bool) {i : Nat}, firstI q kvs = some i → 61 < 62 + i ∧ 62 + i ≤ 61 + kvs.length ∧ ∃ e, kvs[62 + i - 62]? = some e ∧ q e = true := by
    intro q i hi
    have a := firstI_lt q hi
    obtain ⟨e, b, c⟩ := firstI_get q kvs hi
    exact ⟨by omega, by omega, e, by rw [Nat.add_sub_cancel_left]; exact b, c⟩
  have d2 : ∀ {i : Nat}, firstI (fun e => decide (e.1 = nm ∧ e.2 = vl)) kvs = some i → (61 < 62 + i ∧ 62 + i ≤ 61 + kvs.length ∧ ∃ vl', kvs[62 + i - 62]? = some (nm, vl') ∧ (true = true → vl' = vl)) := by
    intro i hi
    obtain ⟨a, b, e, c, d⟩ := dyn _ hi
    have d := of_decide_eq_true d
    refine ⟨a, b, vl, ?_, fun _ => rfl⟩
    rw [c]; congr 1; exact Prod.ext d.1 d.2
  have fullS : ∀ {e : SE} {x}, e ∈ mapTab → x ∈ e.kvs → e.nm = nm.toList → (1 ≤ x.2.2.1 ∧ x.2.2.1 ≤ 61 ∧ ∃ t1 t2, (KF P).lookup (95 + x.2.2.1) = some (tupO [.bytes nm t1, .bytes x.1.toArray t2])) := by
    intro e x he hx hn
    have hm := rows_mem he hx
    obtain ⟨t1, t2, z⟩ := look_row P _ hm
    have q := places_le hm
    have w : e.nm.toArray = nm := by rw [hn]
    dsimp only at z q
    rw [w] at z
    exact ⟨q.1, q.2, t1, t2, z⟩
  cases hm : mapFind nm.toList with
  | none =>
    rw [searchS_none hm, dynS_eq] at h
    right
    cases h2 : firstI (fun e => decide (e.1 = nm ∧ e.2 = vl)) kvs with
    | some i =>
      rw [h2] at h
      dsimp only at h
      cases h
      exact d2 h2
    | none =>
      rw [h2] at h
      dsimp only at h
      cases h1 : firstI (fun e => decide (e.1 = nm)) kvs with
      | none => rw [h1] at h; cases h
      | some i =>
        rw [h1] at h; cases h
        obtain ⟨a, b, e, c, d⟩ := dyn _ h1
        have d := of_decide_eq_true d
        refine ⟨a, b, e.2, ?_, fun z => nomatch z⟩
        rw [show (62 + 0 + i - 62) = 62 + i - 62 by omega, c]; congr 1; exact Prod.ext d rfl
  | some e =>
    have he := mapFind_mem hm
    have hn : e.nm = nm.toList := by
      have := List.find?_some hm
      simpa using this
    cases hv : valFind e vl.toList with
    | some x =>
      rw [searchS_full hm hv] at h
      cases h
      obtain ⟨a, b, t1, t2, c⟩ := fullS he (List.mem_of_find?_eq_some hv) hn
      have hx : x.1 = vl.toList := by
        have := List.find?_some hv
        simpa using this
      exact .inl ⟨a, b, _, t1, t2, c, fun _ => by rw [hx]⟩
    | none =>
      rw [searchS_part hm hv, dynS_eq] at h
      cases h2 : firstI (fun e => decide (e.1 = nm ∧ e.2 = vl)) kvs with
      | some i =>
        rw [h2] at h
        dsimp only at h
        cases h
        exact .inr (d2 h2)
      | none =>
        rw [h2] at h
        dsimp only at h
        cases h
        have hh := mapTab_heads e he
        cases hk : e.kvs with
        | nil => rw [hk] at hh; cases hh
        | cons x l =>
          rw [hk] at hh
          have hi : x.2.2.1 = e.i := Option.some.inj hh
          obtain ⟨a, b, t1, t2, c⟩ := fullS (x := x) he (by rw [hk]; exact .head _) hn
          rw [hi] at a b c
          exact .inl ⟨a, b, _, t1, t2, c, fun z => nomatch z⟩
theorem atKey_cons (x : Key × Addr × Value) (xs : Tab) (k : Key) : atKey (x :: xs) k = if x.1 = k then some x.2 else atKey xs k := by
  unfold atKey
  by_cases h : x.1 = k <;> simp [h]
theorem atKey_append (k : Key) (y : Key × Addr × Value) : ∀ xs : Tab, atKey (xs ++ [y]) k = match atKey xs k with | some p => some p | none => atKey [y] k
  | [] => rfl
  | x :: xs => by
    rw [List.cons_append, atKey_cons, atKey_cons]
    by_cases h : x.1 = k
    · simp [h]
    · simp only [h, if_false]; exact atKey_append k y xs
theorem atKey_put (k k' : Key) (v : Value) : ∀ xs : Tab, atKey (xs.map (putAt k v)) k' = if k' = k then (atKey xs k').map (fun p => (p.1, v)) else atKey xs k'
  | [] => by unfold atKey; simp
  | x :: xs => by
    rw [List.map_cons, atKey_cons, atKey_cons, atKey_put k k' v xs]
    unfold putAt
    by_cases h : x.1 = k
    · by_cases h2 : k' = k
      · simp [h, h2]
      · have h3 : ¬ k = k' := fun z => h2 z.symm
        simp [h, h2, h3]
    · simp only [h, if_false]
      by_cases h2 : k' = k
      · subst h2; simp [h]
      · simp [h2]
theorem at_stored_ne {k k' : Key} (h : k' ≠ k) (xs : Tab) (a : Addr) (v : Value) : atKey (storedH xs k a v) k' = atKey xs k' := by
  unfold storedH
  by_cases hs : (atKey xs k).isSome
  · rw [if_pos hs, atKey_put, if_neg h]
  · rw [if_neg hs, atKey_append]
    cases atKey xs k' with
    | some p => rfl
    | none => rw [atKey_cons, if_neg (fun z => h z.symm)]; rfl
theorem at_stored_eq (k : Key) (xs : Tab) (a : Addr) (v : Value) : ∃ a', atKey (storedH xs k a v) k = some (a', v) := by
  unfold storedH
  cases hs : atKey xs k with
  | some p => exact ⟨p.1, by rw [if_pos (by simp), atKey_put, if_pos rfl, hs]; rfl⟩
  | none => exact ⟨a, by rw [if_neg (by simp), atKey_append, hs, atKey_cons, if_pos rfl]⟩
theorem SRel.nil : SRel [] fun _ => none := fun k => by rfl
theorem SRel.store {xs : Tab} {sf : Key → Option Nat} (R : SRel xs sf) (k : Key) (a : Addr) (j : Nat) (t : Tok) : SRel (storedH xs k a (.int j t)) fun k' => if k' = k then some j else sf k' := by
  intro k'
  by_cases h : k' = k
  · subst h
    obtain ⟨a', e⟩ := at_stored_eq k' xs a (.int j t)
    rw [e]
    exact ⟨j, t, rfl, by simp⟩
  · rw [at_stored_ne h]
    have := R k'
    cases hk : atKey xs k' with
    | none => rw [hk] at this; simpa [h] using this
    | some p => rw [hk] at this; simpa [h] using this
theorem SRel.congr {xs : Tab} {sf sf' : Key → Option Nat} (R : SRel xs sf) (h : ∀ k, sf k = sf' k) : SRel xs sf' := by
  have : sf = sf' := funext h
  exact this ▸ R
theorem SRel.row {xs : Tab} {l : List (Nat × KV)} {j : Nat} {e : KV} (R : SRel xs (statF l)) (a1 a2 : Addr) (t1 t2 : Tok) :
    SRel (storedH (storedH xs [e.1.toList, e.2.toList] a1 (.int j t1)) [e.1.toList] a2 (.int j t2)) (statF ((j, e) :: l)) := by
  refine ((R.store _ a1 j t1).store _ a2 j t2).congr fun k => ?_
  rw [statF]
  unfold hit
  by_cases h1 : k = [e.1.toList]
  · simp [h1]
  · by_cases h2 : k = [e.1.toList, e.2.toList] <;> simp [h1, h2]
theorem LRel.nil {cst : List (Addr × Obj)} : LRel cst [] fun _ => none := fun k => by rfl
theorem LRel.mono {cst cst' : List (Addr × Obj)} {xs : Tab} {lf} (R : LRel cst xs lf) (h : ∀ p ∈ cst, p ∈ cst') : LRel cst' xs lf := by
  intro k
  have := R k
  cases hk : atKey xs k with
  | none => rw [hk] at this; exact this
  | some p =>
    rw [hk] at this
    obtain ⟨b, c, ad, t1, t2, e1, e2, e3⟩ := this
    exact ⟨b, c, ad, t1, t2, e1, h _ e2, e3⟩
theorem LRel.store {cst : List (Addr × Obj)} {xs : Tab} {lf : Key → Option (Nat × Int)} (R : LRel cst xs lf) (k : Key) (a b : Addr) (c : Nat) (ad : Int) (t1 t2 : Tok) (hb : (b, tupO [.int c t1, .int ad t2]) ∈ cst) :
    LRel cst (storedH xs k a (.ref b)) fun k' => if k' = k then some (c, ad) else lf k' := by
  intro k'
  by_cases h : k' = k
  · subst h
    obtain ⟨a', e⟩ := at_stored_eq k' xs a (.ref b)
    rw [e]
    exact ⟨b, c, ad, t1, t2, rfl, hb, by simp⟩
  · rw [at_stored_ne h]
    have := R k'
    cases hk : atKey xs k' with
    | none => rw [hk] at this; simpa [h] using this
    | some p => rw [hk] at this; simpa [h] using this
theorem LRel.congr {cst : List (Addr × Obj)} {xs : Tab} {lf lf' : Key → Option (Nat × Int)} (R : LRel cst xs lf) (h : ∀ k, lf k = lf' k) : LRel cst xs lf' := by
  have : lf = lf' := funext h
  exact this ▸ R
theorem LRel.push {cst : List (Addr × Obj)} {xs : Tab} {H : List KV} {e : KV} (R : LRel cst xs (lastF H)) (a1 a2 b1 b2 : Addr) (t1 t2 t3 t4 : Tok)
    (h1 : (b1, tupO [.int H.length t1, .int (sumKV H) t2]) ∈ cst) (h2 : (b2, tupO [.int H.length t3, .int (sumKV H) t4]) ∈ cst) :
    LRel cst (storedH (storedH xs [e.1.toList, e.2.toList] a1 (.ref b1)) [e.1.toList] a2 (.ref b2)) (lastF (e :: H)) := by
  refine ((R.store _ a1 b1 _ _ t1 t2 h1).store _ a2 b2 _ _ t3 t4 h2).congr fun k => ?_
  rw [lastF]
  unfold hit
  by_cases z1 : k = [e.1.toList]
  · simp [z1]
  · by_cases z2 : k = [e.1.toList, e.2.toList] <;> simp [z1, z2]
theorem KeysIn.store {w : World} {news : List (Addr × Obj)} {xs : Tab} {k : Key} {a : Addr} {v : Value} (h : KeysIn w news xs) (ha : KeyIn w news k a) : KeysIn w news (storedH xs k a v) := by
  intro x hx
  unfold storedH at hx
  by_cases hs : (atKey xs k).isSome
  · rw [if_pos hs] at hx
    obtain ⟨y, hy, rfl⟩ := List.mem_map.mp hx
    have z := h y hy
    unfold putAt
    by_cases hk : y.1 = k
    · rw [if_pos hk]; exact z
    · rw [if_neg hk]; exact z
  · rw [if_neg hs] at hx
    rcases List.mem_append.mp hx with hx | hx
    · exact h x hx
    · rw [List.mem_singleton.mp hx]; exact ha
theorem storedH_len (xs : Tab) (k : Key) (a : Addr) (v : Value) : (storedH xs k a v).length ≤ xs.length + 1 := by
  unfold storedH
  by_cases hs : (atKey xs k).isSome
  · rw [if_pos hs]; simp
  · rw [if_neg hs]; simp
section
variable {prog : Program} {w : World} {A : Around} {E : Value → Shared → Prop} {s : Shared} {h₀ : Heap} {L a1 a2 : Addr} {m : Str → Option Value} {news : List (Addr × Obj)}
theorem EqAt_bytes (b c : Array UInt8) (t u : Tok) : SeqAt.EqAt A s (.bytes b t) (.bytes c u) (decide (b.toList = c.toList)) := fun prog w E Q h =>
  (bytesKind prog w).eqBool (isKB' prog w b.toList b t rfl) (isKB' prog w c.toList c u rfl) h
theorem none_same : SeqAt.EqAt A s .none .none true := SeqAt.EqAt.same _
theorem bytes_same (b : Array UInt8) (t u : Tok) : SeqAt.EqAt A s (.bytes b t) (.bytes b u) true := (decide_eq_true (rfl : b.toList = b.toList)) ▸ EqAt_bytes (A := A) (s := s) b b t u
theorem ne_told {j : Int} {t1 t2 u1 u2 : Tok} {nm : Array UInt8} {x1 x2 : Value} {Q : Value → Shared → Prop} (hu : A.units + 1 < cLine) (N : News h₀ L s.heap news)
    (m1 : (a1, tupO [.int j t1, .bytes nm u1, x1]) ∈ news) (m2 : (a2, tupO [.int j t2, .bytes nm u2, x2]) ∈ news) (hx : SeqAt.EqAt A.in1 s x1 x2 true) (h : Q (.bool false) s) :
    wpAny (model prog w) A (compareOp .NotEq (.ref a1) (.ref a2)) Q E s := by
  have z := SeqAt.RcNeAt.tuples (A := A) (s := s) (l := a1) (b := a2) (items := [.int j t1, .bytes nm u1, x1].toArray) (items2 := [.int j t2, .bytes nm u2, x2].toArray) (e := fun _ => true)
    (News.isTup N m1) (News.isTup N m2) (by omega) (by
      intro i h1 h2
      match i, h1, h2 with
      | 0, _, _ => exact (beq_self_eq_true j) ▸ SeqAt.EqAt.int_int (A := A.in1) (s := s) j t1 j t2
      | 1, _, _ => exact bytes_same nm u1 u2
      | 2, _, _ => exact hx
      | i + 3, h1, _ => (exfalso; simp at h1; omega))
  exact z prog w E Q h
theorem ne_reps {r : Option (Nat × Bool)} {r' : Option (Int × Bool)} {nm vl : Array UInt8} {x y : Value} {n1 n2 : List (Addr × Obj)} {Q : Value → Shared → Prop} (hu : A.units + 1 < cLine) (N : News h₀ L s.heap news)
    (R1 : RRep r nm vl x n1) (R2 : RRepI r' nm vl y n2) (e : r.map (fun p => ((p.1 : Int), p.2)) = r') (s1 : ∀ p ∈ n1, p ∈ news) (s2 : ∀ p ∈ n2, p ∈ news) (h : Q (.bool false) s) :
    wpAny (model prog w) A (compareOp .NotEq x y) Q E s := by
  subst e
  match r, R1, R2 with
  | none, R1, R2 =>
    rw [R1.1, R2.1]
    exact SeqAt.RcNeAt.none_none prog w E Q h
  | some (j, fl), R1, R2 =>
    obtain ⟨a, t, tn, tv, rfl, rfl⟩ := R1
    obtain ⟨b, t', tn', tv', rfl, rfl⟩ := R2
    refine ne_told hu N (s1 _ (.head _)) (s2 _ (.head _)) ?_ h
    cases fl with
    | true => exact bytes_same vl tv tv'
    | false => exact none_same
end
theorem sub_cons {α : Type} {a : α} {l l' : List α} (h1 : a ∈ l') (h2 : ∀ p ∈ l, p ∈ l') : ∀ p ∈ a :: l, p ∈ l' := fun p hp => by
  rcases List.mem_cons.mp hp with h | h
  · exact h ▸ h1
  · exact h2 p h
theorem off_cls {h₀ h : Heap} {L I : Addr} {l : List (Addr × Obj)} {c : Value} {p : Addr × Obj} (N : News h₀ L h l) (hc : (h.get? I).map Obj.cls = some c) (hp : p ∈ l) (hne : p.2.cls ≠ c) : p.1 ≠ I := by
  intro e
  have z := (N p hp).1
  rw [e] at z; rw [z] at hc
  exact hne (Option.some.inj hc)
theorem off_obj {h₀ h : Heap} {L : Addr} {l : List (Addr × Obj)} {a : Addr} {o : Obj} {p : Addr × Obj} (N : News h₀ L h l) (hm : (a, o) ∈ l) (hp : p ∈ l) (hne : p.2.cls ≠ o.cls) : p.1 ≠ a := by
  intro e
  have z : h.get? a = some p.2 := e ▸ (N p hp).1
  have y : h.get? a = some o := (N _ hm).1
  rw [y] at z
  exact hne (by rw [Option.some.inj z])
structure SL where
  o : Obj
  xs : Tab
  X : List (Addr × Obj)
noncomputable def AllTup (X : List (Addr × Obj)) : Prop := ∀ p ∈ X, p.2.cls = .type "tuple"
theorem AllTup.cons {X : List (Addr × Obj)} {a : Addr} {o : Obj} (h : AllTup X) (e : o.cls = .type "tuple") : AllTup ((a, o) :: X) := by
  intro p hp
  rcases List.mem_cons.mp hp with h1 | h1
  · subst h1; exact e
  · exact h p h1
noncomputable def stdP (w : World) (i : Nat) (c : SL) : Prop := DO w c.o c.xs ∧ KeysIn w c.X c.xs ∧ SRel c.xs (statF (statT.drop (61 - i))) ∧ c.xs.length ≤ 2 * i ∧ AllTup c.X
theorem statT_len : statT.length = 61 := by rw [← List.length_map (f := (·.1)), statT_places]; rfl
theorem statT_step {i : Nat} (h : i < 61) {nm vl : Array UInt8} (hg : statT[60 - i]? = some (60 - i + 1, (nm, vl))) : statT.drop (61 - (i + 1)) = (61 - i, (nm, vl)) :: statT.drop (61 - i) := by
  have z : 60 - i < statT.length := by rw [statT_len]; omega
  have e := List.drop_eq_getElem_cons z
  have q : 61 - (i + 1) = 60 - i := by omega
  have q2 : 60 - i + 1 = 61 - i := by omega
  rw [q, e, q2]
  rw [List.getElem?_eq_getElem z, q2] at hg
  rw [Option.some.inj hg]
theorem stdP.zero {w : World} {o : Obj} (D : DO w o []) : stdP w 0 ⟨o, [], []⟩ :=
  ⟨D, (fun x hx => nomatch hx), by
    have z : statT.drop (61 - 0) = [] := List.drop_of_length_le (by rw [statT_len]; omega)
    rw [z]; exact SRel.nil, Nat.zero_le _, (fun p hp => nomatch hp)⟩
theorem DO.empty {w : World} {o : Obj} {kn : KeyKind PR w Str} (h : o.IsDictOf kn []) : DO w o [] := by
  obtain ⟨es, ep, x, hd, _, pr, _⟩ := h
  have e : es.toList = [] := by
    generalize es.toList = q at pr
    cases q with
    | nil => rfl
    | cons y q => cases pr
  exact ⟨x, ⟨es, ep, hd, e⟩, List.nodup_nil⟩
abbrev stdLed (sD D aD aT dT cA : Addr) (oD x y z o' : Obj) (c : SL) : List (Addr × Obj) := (sD, c.o) :: (D, oD) :: (aD, x) :: (aT, y) :: (dT, z) :: (cA, o') :: c.X
theorem std_loop {w : World} {A : Around} {E : Value → Shared → Prop} {s : Shared} {h₀ : Heap} {env : Env} {I : Addr} {target : Expr} {body : List Stmt} {Q : Flow → Shared → Prop} {m : Str → Option Value} {sD D aD aT dT cA : Addr} {o0 oD x y z o' : Obj} (psl : List (Str × Value))
    (hh : A.handled = none) (F : Fr h₀ env.locals s.heap m) (N : News h₀ env.locals s.heap ((sD, o0) :: (D, oD) :: ([(aD, x), (aT, y), (dT, z)] ++ [(cA, o')]))) (D0 : DO w o0 []) (nap : ∀ p ∈ ((sD, o0) :: (D, oD) :: ([(aD, x), (aT, y), (dT, z)] ++ [(cA, o')]) : List (Addr × Obj)), p.1 ≠ I)
    (hL : I ≠ env.locals) (hn : h₀.get? I = none) (hst : IsRangeIter s.heap I (61 + ((0 : Nat) : Int) * (-1)) (((61 : Nat) : Int) - ((0 : Nat) : Int)) (-1))
    (hgo : ∀ v (s : Shared) (Q : Unit → Shared → Prop) (E : Value → Shared → Prop), (s.heap.get? I).map Obj.cls = some (.type "range_iterator") → Q () s → wpAny (model PR w) A (letOwnedTupleGo target (.ref I) v) Q E s)
    (hk : ∀ p ∈ psl, m p.1 = some p.2)
    (turn : ∀ i o xs X ob t u h tk, i < 61 → stdP w i ⟨o, xs, X⟩ → Fr h₀ env.locals h (kstB u psl) → News h₀ env.locals h ((I, ob) :: (sD, o) :: (D, oD) :: (aD, x) :: (aT, y) :: (dT, z) :: (cA, o') :: X) →
      wpAny (model PR w) A (assign target env (.int (61 + (i : Int) * (-1)) t)) (fun _ s₂ => wpAny (model PR w) A (execs body env) (WalkPost h₀ env.locals I ob s (stdLed sD D aD aT dT cA oD x y z o') (fun _ => psl) (stdP w) i Q) E s₂) E { s with heap := h, toks := tk })
    (done : ∀ o xs X u h tk, stdP w 61 ⟨o, xs, X⟩ → Fr h₀ env.locals h (kstB u psl) → News h₀ env.locals h ((sD, o) :: (D, oD) :: (aD, x) :: (aT, y) :: (dT, z) :: (cA, o') :: X) → Q .next { s with heap := h, toks := tk })
    (hE : PassesOwn (model PR w) A env E := by passes_own) :
    codeAny (model PR w) A (.forLoop target (.ref I) body [] env) (fun r s' => match r with | .ok f => Q f s' | .error e => cameBackBy (model PR w) A env E e s') s := by
  refine walk_loopQ (σ := SL) (stdLed sD D aD aT dT cA oD x y z o') (fun _ => psl) (stdP w) ⟨o0, [], []⟩ (Walks.range hh I 61 (-1) 61) (icls := .type "range_iterator") (fun i h => rangeit_cls h) ?hfp hgo hL hn hst F (News.perm N fun p hp => hp) hk (stdP.zero D0) ?hap ?turn ?done hE
  case hfp =>
    intro b hb
    rw [List.mem_singleton] at hb
    exact .inl hb
  case hap =>
    intro i c h _ hP N hc p hp
    rcases List.mem_cons.mp hp with h1 | h1
    · subst h1; exact nap (sD, o0) (.head _)
    repeat (rcases List.mem_cons.mp h1 with h1 | h1; (· subst h1; exact nap _ (by simp)))
    exact off_cls N hc hp (by rw [hP.2.2.2.2 p h1]; decide)
  case turn =>
    rintro i ⟨o, xs, X⟩ v ob u h tk hi ⟨t, rfl⟩ hP FF NN
    exact turn i o xs X ob t u h tk hi hP FF NN
  case done =>
    rintro ⟨o, xs, X⟩ u h tk hP FF NN
    exact done o xs X u h tk hP FF NN
theorem std_all {w : World} {h₀ h : Heap} {L I sD D aD aT dT cA : Addr} {ob o oD x y z o' : Obj} {X : List (Addr × Obj)} {xs : Tab} (N : News h₀ L h ((I, ob) :: (sD, o) :: (D, oD) :: (aD, x) :: (aT, y) :: (dT, z) :: (cA, o') :: X)) (dO : DO w o xs) (hX : AllTup X)
    (ns : ∀ p ∈ ((D, oD) :: ([(aD, x), (aT, y), (dT, z)] ++ [(cA, o')]) : List (Addr × Obj)), p.1 ≠ sD) : ∀ p ∈ ((D, oD) :: (aD, x) :: (aT, y) :: (dT, z) :: (cA, o') :: X : List (Addr × Obj)), p.1 ≠ sD := by
  intro p hp
  have h1 := hp
  repeat (rcases List.mem_cons.mp h1 with h1 | h1; (· subst h1; exact ns _ (by simp)))
  exact off_obj N (.tail _ (.head _)) (.tail _ (.tail _ hp)) (by rw [hX p h1, show o.cls = .type "dict" from dO.1.1]; decide)
theorem std_end {w : World} {h₀ h' : Heap} {L I sD D aD aT dT cA a : Addr} {s : Shared} {tk : Nat} {ob o oD x y z o' : Obj} {X : List (Addr × Obj)} {xs : Tab} {i : Nat} {nm vl : Array UInt8} {t t1 t2 t3 : Tok} {psl : List (Str × Value)} {m' : Str → Option Value}
    (hi : i < 61) (kI : KeysIn w X xs) (sR : SRel xs (statF (statT.drop (61 - i)))) (hlen : xs.length ≤ 2 * i) (hX : AllTup X) (hg : statT[60 - i]? = some (60 - i + 1, (nm, vl))) (hlk : (KF w.params).lookup (96 + (60 - i)) = some (tupO [.bytes nm t1, .bytes vl t2]))
    (fE : Fr h₀ L h' m') (nE : News h₀ L h' ((a, tupO [.bytes nm t3]) :: (I, ob) :: (sD, o) :: (D, oD) :: (aD, x) :: (aT, y) :: (dT, z) :: (cA, o') :: X))
    (dE : DO w o (storedH (storedH xs [nm.toList, vl.toList] (96 + (60 - i)) (.int (61 + (i : Int) * (-1)) t)) [nm.toList] a (.int (61 + (i : Int) * (-1)) t)))
    (hk : ∀ p ∈ psl, m' p.1 = some p.2) :
    WalkEnd h₀ L I ob s (stdLed sD D aD aT dT cA oD x y z o') (fun _ => psl) (stdP w) i { s with heap := h', toks := tk } := by
  have e : (61 + (i : Int) * (-1)) = ((61 - i : Nat) : Int) := by omega
  rw [e] at dE
  refine ⟨⟨o, _, (a, tupO [.bytes nm t3]) :: X⟩, h', tk, m', rfl, fE, News.perm nE ?_, hk, dE, ?_, ?_, ?_, hX.cons rfl⟩
  · (repeat (refine sub_cons (by repeat (first | exact .head _ | refine .tail _ ?_)) ?_)); exact fun p hp => by repeat (first | exact hp | refine List.Mem.tail _ ?_)
  · exact (KeysIn.store (kI.mono fun p hp => .tail _ hp) (KeyIn.twoK hlk)).store (KeyIn.one (.head _))
  · have z := sR.row (j := 61 - i) (e := (nm, vl)) (96 + (60 - i)) a t t
    rw [← statT_step hi hg] at z
    exact z
  · have z1 := storedH_len xs [nm.toList, vl.toList] (96 + (60 - i)) (.int ((61 - i : Nat) : Int) t)
    have z2 := storedH_len (storedH xs [nm.toList, vl.toList] (96 + (60 - i)) (.int ((61 - i : Nat) : Int) t)) [nm.toList] a (.int ((61 - i : Nat) : Int) t)
    show (storedH _ _ _ _).length ≤ _
    omega
structure ML where
  ents : List Ent
  k : Int
  mx : Int
  u1 : Tok
  u2 : Tok
  rs : Bool
  oL : Obj
  xsL : Tab
  H : List KV
  gone : Int
  X : List (Addr × Obj)
  tc : Tok
  ta : Tok
  tg : Tok
  ts : Tok
noncomputable abbrev mLed (dT aD aT lD S sD D cA : Addr) (d : TD) (oW oS oD oC : Obj) (c : ML) : List (Addr × Obj) :=
  (dT, tdObj d c.mx c.u1 (sumE c.ents) c.u2 c.rs aD) :: (aD, dqObj c.k (refsE c.ents)) :: (aT, instObj 219 dT) :: (lD, c.oL) :: (S, oW) :: (sD, oS) :: (D, oD) :: (cA, oC) :: c.X
noncomputable abbrev mPs (sD D lD : Addr) (c : ML) : List (Str × Value) :=
  [(Str.ofString "rows", .ref D), (Str.ofString "standing", .ref sD), (Str.ofString "last", .ref lD), (Str.ofString "count", .int c.H.length c.tc), (Str.ofString "added", .int (sumKV c.H) c.ta), (Str.ofString "gone", .int c.gone c.tg), (Str.ofString "size", .int c.mx c.ts)]
structure mP (w : World) (XS : List (Addr × Obj)) (i : Nat) (c : ML) : Prop where
  kv : c.ents.map Ent.kv = c.H.take c.ents.length
  inv : Inv c.H c.ents.length c.gone
  le : sumE c.ents ≤ c.mx
  mx0 : 0 ≤ c.mx
  mx1 : c.mx ≤ 5000
  hin : AllIn c.ents c.X
  hH : c.H.length ≤ i
  dL : DO w c.oL c.xsL
  kL : KeysIn w c.X c.xsL
  rL : LRel c.X c.xsL (lastF c.H)
  len : c.xsL.length ≤ 2 * i
  tup : AllTup c.X
  sub : ∀ p ∈ XS, p ∈ c.X
theorem main_loop {w : World} {A : Around} {E : Value → Shared → Prop} {s : Shared} {h₀ : Heap} {env : Env} {I : Addr} {target : Expr} {body : List Stmt} {Q : Flow → Shared → Prop} {m : Str → Option Value} {dT aD aT lD S sD D cA : Addr} {d : TD} {oW oS oD oC : Obj} {XS : List (Addr × Obj)} {items : Array Value}
    (c₀ : ML) (hh : A.handled = none) (F : Fr h₀ env.locals s.heap m) (N : News h₀ env.locals s.heap (mLed dT aD aT lD S sD D cA d oW oS oD oC c₀)) (hP : mP w XS 0 c₀)
    (nap : ∀ p ∈ mLed dT aD aT lD S sD D cA d oW oS oD oC c₀, p.1 ≠ I) (neS : S ≠ I)
    (hL : I ≠ env.locals) (hn : h₀.get? I = none) (hst : s.heap.IsListIter I S 0 ∧ s.heap.IsList S items)
    (hgo : ∀ v (s : Shared) (Q : Unit → Shared → Prop) (E : Value → Shared → Prop), (s.heap.get? I).map Obj.cls = some (.type "list_iterator") → Q () s → wpAny (model PR w) A (letOwnedTupleGo target (.ref I) v) Q E s)
    (hk : ∀ p ∈ mPs sD D lD c₀, m p.1 = some p.2)
    (turn : ∀ i c v ob u h tk, i < items.size → items[i]? = some v → mP w XS i c → Fr h₀ env.locals h (kstB u (mPs sD D lD c)) → News h₀ env.locals h ((I, ob) :: mLed dT aD aT lD S sD D cA d oW oS oD oC c) →
      wpAny (model PR w) A (assign target env v) (fun _ s₂ => wpAny (model PR w) A (execs body env) (WalkPost h₀ env.locals I ob s (mLed dT aD aT lD S sD D cA d oW oS oD oC) (mPs sD D lD) (mP w XS) i Q) E s₂) E { s with heap := h, toks := tk })
    (done : ∀ c u h tk, mP w XS items.size c → Fr h₀ env.locals h (kstB u (mPs sD D lD c)) → News h₀ env.locals h (mLed dT aD aT lD S sD D cA d oW oS oD oC c) → Q .next { s with heap := h, toks := tk })
    (hE : PassesOwn (model PR w) A env E := by passes_own) :
    codeAny (model PR w) A (.forLoop target (.ref I) body [] env) (fun r s' => match r with | .ok f => Q f s' | .error e => cameBackBy (model PR w) A env E e s') s := by
  refine walk_loopQ (σ := ML) (mLed dT aD aT lD S sD D cA d oW oS oD oC) (mPs sD D lD) (mP w XS) c₀ (Walks.list hh I S neS items) (icls := .type "list_iterator") (fun i h => listit_cls h) ?hfp hgo hL hn hst F N hk hP ?hap ?turn ?done hE
  case hfp =>
    intro b hb
    rcases List.mem_cons.mp hb with h | h
    · exact .inl h
    · rw [List.mem_singleton] at h; subst h
      exact .inr ⟨oW, fun c => .tail _ (.tail _ (.tail _ (.tail _ (.head _))))⟩
  case hap =>
    intro i c h _ hP N hc p hp
    have f : ∀ a, (∃ o, (a, o) ∈ mLed dT aD aT lD S sD D cA d oW oS oD oC c₀) → a ≠ I := fun a ⟨o, ho⟩ => nap (a, o) ho
    have h1 := hp
    repeat (rcases List.mem_cons.mp h1 with h1 | h1; (· subst h1; exact f _ ⟨_, by repeat (first | exact .head _ | refine .tail _ ?_)⟩))
    exact off_cls N hc hp (by rw [hP.tup p h1]; decide)
  case turn =>
    intro i c v ob u h tk hi hv hP FF NN
    exact turn i c v ob u h tk hi hv hP FF NN
  case done =>
    intro c u h tk hP FF NN
    exact done c u h tk hP FF NN
noncomputable def Mid {σ : Type} (h₀ : Heap) (L : Addr) (s : Shared) (led : σ → List (Addr × Obj)) (ps : σ → List (Str × Value)) (P : σ → Prop) (f : Flow) (s' : Shared) : Prop :=
  f = .next ∧ ∃ (c : σ) (h : Heap) (tk : Nat) (m' : Str → Option Value), s' = { s with heap := h, toks := tk } ∧ Fr h₀ L h m' ∧ News h₀ L h (led c) ∧ (∀ p ∈ ps c, m' p.1 = some p.2) ∧ P c
theorem cut_K {σ : Type} {M : Model} {A : Around} {E : Value → Shared → Prop} {s : Shared} {h₀ : Heap} {L : Addr} {x : Sem Flow} {Q : Flow → Shared → Prop} (led : σ → List (Addr × Obj)) (ps : σ → List (Str × Value)) (P : σ → Prop)
    (h1 : wpAny M A x (Mid h₀ L s led ps P) E s) (h2 : ∀ c h tk u, P c → Fr h₀ L h (kstB u (ps c)) → News h₀ L h (led c) → Q .next { s with heap := h, toks := tk }) : wpAny M A x Q E s := by
  refine wpAny_mono h1 (fun f s' q => ?_) fun _ _ x => x
  obtain ⟨rfl, c, h, tk, m', rfl, F, N, hk, hP⟩ := q
  exact h2 c h tk m' hP (fr_kst F hk) N
theorem mP_zero {w : World} {oL : Obj} {XS : List (Addr × Obj)} {k : Int} {u1 u2 tc ta tg ts : Tok} {rs : Bool} (D0 : DO w oL []) (hX : AllTup XS) : mP w XS 0 ⟨[], k, 4096, u1, u2, rs, oL, [], [], 0, XS, tc, ta, tg, ts⟩ where
  kv := rfl
  inv := Inv.nil (Int.le_refl 0)
  le := (by show sumE [] ≤ 4096; simp [sumE])
  mx0 := (by show (0 : Int) ≤ 4096; decide)
  mx1 := (by show (4096 : Int) ≤ 5000; decide)
  hin := fun e he => nomatch he
  hH := Nat.le_refl _
  dL := D0
  kL := fun x hx => nomatch hx
  rL := LRel.nil
  len := Nat.le_refl _
  tup := hX
  sub := fun p hp => hp
theorem main_loop0 {w : World} {A : Around} {E : Value → Shared → Prop} {s : Shared} {h₀ : Heap} {env : Env} {I : Addr} {target : Expr} {body : List Stmt} {Q : Flow → Shared → Prop} {m : Str → Option Value} {dT aD aT lD S sD D cA : Addr} {d : TD} {oW oS oD oC oL : Obj} {XS : List (Addr × Obj)} {items : Array Value}
    {k0 : Int} {u1 u2 tc ta tg ts : Tok} {rs : Bool} (hh : A.handled = none) (F : Fr h₀ env.locals s.heap m)
    (N : News h₀ env.locals s.heap ((S, oW) :: (lD, oL) :: (sD, oS) :: (D, oD) :: (aD, dqObj k0 []) :: (aT, instObj 219 dT) :: (dT, tdObj d 4096 u1 0 u2 rs aD) :: (cA, oC) :: XS)) (D0 : DO w oL []) (hX : AllTup XS)
    (nap : ∀ p ∈ ((S, oW) :: (lD, oL) :: (sD, oS) :: (D, oD) :: (aD, dqObj k0 []) :: (aT, instObj 219 dT) :: (dT, tdObj d 4096 u1 0 u2 rs aD) :: (cA, oC) :: XS : List (Addr × Obj)), p.1 ≠ I) (neS : S ≠ I)
    (hL : I ≠ env.locals) (hn : h₀.get? I = none) (hst : s.heap.IsListIter I S 0 ∧ s.heap.IsList S items)
    (hgo : ∀ v (s : Shared) (Q : Unit → Shared → Prop) (E : Value → Shared → Prop), (s.heap.get? I).map Obj.cls = some (.type "list_iterator") → Q () s → wpAny (model PR w) A (letOwnedTupleGo target (.ref I) v) Q E s)
    (hk : ∀ p ∈ mPs sD D lD ⟨[], k0, 4096, u1, u2, rs, oL, [], [], 0, XS, tc, ta, tg, ts⟩, m p.1 = some p.2)
    (turn : ∀ i c v ob u h tk, i < items.size → items[i]? = some v → mP w XS i c → Fr h₀ env.locals h (kstB u (mPs sD D lD c)) → News h₀ env.locals h ((I, ob) :: mLed dT aD aT lD S sD D cA d oW oS oD oC c) →
      wpAny (model PR w) A (assign target env v) (fun _ s₂ => wpAny (model PR w) A (execs body env) (WalkPost h₀ env.locals I ob s (mLed dT aD aT lD S sD D cA d oW oS oD oC) (mPs sD D lD) (mP w XS) i Q) E s₂) E { s with heap := h, toks := tk })
    (done : ∀ c u h tk, mP w XS items.size c → Fr h₀ env.locals h (kstB u (mPs sD D lD c)) → News h₀ env.locals h (mLed dT aD aT lD S sD D cA d oW oS oD oC c) → Q .next { s with heap := h, toks := tk })
    (hE : PassesOwn (model PR w) A env E := by passes_own) :
    codeAny (model PR w) A (.forLoop target (.ref I) body [] env) (fun r s' => match r with | .ok f => Q f s' | .error e => cameBackBy (model PR w) A env E e s') s :=
  main_loop ⟨[], k0, 4096, u1, u2, rs, oL, [], [], 0, XS, tc, ta, tg, ts⟩ hh F
    (News.perm N (by (repeat (refine sub_cons (by repeat (first | exact .head _ | refine .tail _ ?_)) ?_)); exact fun p hp => by repeat (first | exact hp | refine List.Mem.tail _ ?_)))
    (mP_zero D0 hX)
    (fun p hp => nap p (by simp only [List.mem_cons] at hp ⊢; rcases hp with h | h | h | h | h | h | h | h | h <;> simp [h, sumE]))
    neS hL hn hst hgo hk turn done hE
theorem item_listB {w : World} {A : Around} {E : Value → Shared → Prop} {s : Shared} {h₀ : Heap} {L : Addr} {news : List (Addr × Obj)} {value slice : Expr} {a : Addr} {ys : List Value} {n : Nat} {k : Int} {u : Tok} {Q : Value → Shared → Prop} (N : News h₀ L s.heap news) (hm : (a, W.listOf ys.toArray n) ∈ news)
    (h0 : 0 ≤ k) (h1 : k < (ys.length : Int)) (hsz : ys.length ≤ 1000) (hb : ∀ y ∈ ys, ∃ b t, y = .bytes b t ∧ b.size ≤ 100) (h : ∀ b t, b.size ≤ 100 → Q (.bytes b t) s)
    (hs : subscripted slice false (.ref a) (.int k u) = operate [.ref a, .int k u] (getItem (.ref a) (.int k u)) := by with_unfolding_all rfl) (hg : ∀ r, letTemporaryGo value (.ref a) r = pure () := by intro _; with_unfolding_all rfl) :
    wpAny (model PR w) A (subscriptTail value slice (.ref a) (.int k u)) Q E s := by
  have hk : k.toNat < ys.length := by omega
  obtain ⟨b, t, e, hz⟩ := hb _ (List.getElem_mem hk)
  exact item_listL (News.isList N hm) h0 (by omega) (by rw [List.getElem?_eq_getElem hk, e]) (h b t hz) hs hg
theorem fmod_pos (a : Int) {b : Int} (hb : 0 < b) : 0 ≤ a.fmod b ∧ a.fmod b < b := by
  rw [Int.fmod_eq_emod_of_nonneg _ (by omega)]
  exact ⟨Int.emod_nonneg _ (by omega), Int.emod_lt_of_pos _ hb⟩
theorem item_rowsF {w : World} {A : Around} {E : Value → Shared → Prop} {s : Shared} {h₀ : Heap} {L : Addr} {news : List (Addr × Obj)} {value slice : Expr} {a : Addr} {k : Int} {u : Tok} {Q : Value → Shared → Prop} (N : News h₀ L s.heap news) (hm : (a, LCg.lst ((List.range 61).map fun j => Value.ref (96 + j))) ∈ news)
    (h0 : 0 ≤ k) (h1 : k < 61) (h : ∀ (j : Nat) nm vl t1 t2, (KF w.params).lookup (96 + j) = some (tupO [.bytes nm t1, .bytes vl t2]) → nm.size ≤ 100 → vl.size ≤ 100 → Q (.ref (96 + j)) s)
    (hs : subscripted slice false (.ref a) (.int k u) = operate [.ref a, .int k u] (getItem (.ref a) (.int k u)) := by with_unfolding_all rfl) (hg : ∀ r, letTemporaryGo value (.ref a) r = pure () := by intro _; with_unfolding_all rfl) :
    wpAny (model PR w) A (subscriptTail value slice (.ref a) (.int k u)) Q E s := by
  have hk : k.toNat < 61 := by omega
  obtain ⟨nm, vl, _, h1, h2, hl⟩ := stat_get hk
  obtain ⟨t1, t2, hl⟩ := hl w.params
  exact item_listL (News.isList N hm) h0 (by omega) (by simp [hk]) (h _ nm vl t1 t2 hl h1 h2) hs hg
structure PS where
  a : Addr
  nm : Array UInt8
  vl : Array UInt8
  t1 : Tok
  t2 : Tok
abbrev PS.obj (p : PS) : Obj := tupO [.bytes p.nm p.t1, .bytes p.vl p.t2]
abbrev MidP (h₀ : Heap) (L : Addr) (s : Shared) (I : Addr) (ob : Obj) (led : List (Addr × Obj)) (psl : List (Str × Value)) (v1 v2 : Value) (f : Flow) (s' : Shared) : Prop :=
  Mid h₀ L s (fun p : PS => (p.a, p.obj) :: (I, ob) :: led) (fun p => (Str.ofString "number", v1) :: (Str.ofString "more", v2) :: (Str.ofString "pair", .ref p.a) :: psl) (fun p => p.nm.size ≤ 100 ∧ p.vl.size ≤ 100) f s'
theorem cut_pair {M : Model} {A : Around} {E : Value → Shared → Prop} {s : Shared} {h₀ hO : Heap} {L I : Addr} {x : Sem Flow} {Q : Flow → Shared → Prop} {ob : Obj} {led : List (Addr × Obj)} {psl : List (Str × Value)} {u m : Str → Option Value} {v1 v2 : Value}
    (FO : Fr h₀ L hO (kstB u psl)) (NO : News h₀ L hO ((I, ob) :: led)) (F : Fr h₀ L s.heap m) (hk : ∀ p ∈ [(Str.ofString "number", v1), (Str.ofString "more", v2)], m p.1 = some p.2)
    (h1 : wpAny M A x (MidP h₀ L s I ob led psl v1 v2) E s)
    (h2 : ∀ a nm vl t1 t2 h tk u, nm.size ≤ 100 → vl.size ≤ 100 → Fr h₀ L h (kstB u ((Str.ofString "number", v1) :: (Str.ofString "more", v2) :: (Str.ofString "pair", .ref a) :: psl)) → News h₀ L h ((a, tupO [.bytes nm t1, .bytes vl t2]) :: (I, ob) :: led) → Q .next { s with heap := h, toks := tk }) : wpAny M A x Q E s :=
  cut_K _ _ _ h1 fun c h tk u hP F N => h2 c.a c.nm c.vl c.t1 c.t2 h tk u hP.1 hP.2 F N
theorem mid_pair {s : Shared} {h₀ h' : Heap} {L I a : Addr} {ob : Obj} {led rest : List (Addr × Obj)} {psl : List (Str × Value)} {m' : Str → Option Value} {v1 v2 : Value} {nm vl : Array UInt8} {t1 t2 : Tok} {tk : Nat}
    (F : Fr h₀ L h' m') (N : News h₀ L h' ((a, tupO [.bytes nm t1, .bytes vl t2]) :: rest)) (hs : ∀ p ∈ (I, ob) :: led, p ∈ rest) (h1 : nm.size ≤ 100) (h2 : vl.size ≤ 100)
    (hk : ∀ p ∈ ((Str.ofString "number", v1) :: (Str.ofString "more", v2) :: (Str.ofString "pair", .ref a) :: psl), m' p.1 = some p.2) : MidP h₀ L s I ob led psl v1 v2 .next { s with heap := h', toks := tk } :=
  ⟨rfl, ⟨a, nm, vl, t1, t2⟩, h', tk, m', rfl, F, news_skip N hs, hk, h1, h2⟩
structure mQ (w : World) (XS : List (Addr × Obj)) (i : Nat) (c : ML) : Prop where
  kv : c.ents.map Ent.kv = c.H.take c.ents.length
  inv : Inv c.H c.ents.length (max c.gone (sumKV c.H - c.mx))
  le : sumE c.ents ≤ c.mx
  mx0 : 0 ≤ c.mx
  mx1 : c.mx ≤ 5000
  hin : AllIn c.ents c.X
  hH : c.H.length ≤ i + 1
  dL : DO w c.oL c.xsL
  kL : KeysIn w c.X c.xsL
  rL : LRel c.X c.xsL (lastF c.H)
  len : c.xsL.length ≤ 2 * (i + 1)
  tup : AllTup c.X
  sub : ∀ p ∈ XS, p ∈ c.X
abbrev MidQ (w : World) (h₀ : Heap) (L : Addr) (s : Shared) (XS : List (Addr × Obj)) (i : Nat) (a : Addr) (nm vl : Array UInt8) (t1 t2 : Tok) (I : Addr) (ob : Obj) (dT aD aT lD S sD D cA : Addr) (d : TD) (oW oS oD oC : Obj) (v2 : Value) (f : Flow) (s' : Shared) : Prop :=
  Mid h₀ L s (fun c : ML => (a, tupO [.bytes nm t1, .bytes vl t2]) :: (I, ob) :: mLed dT aD aT lD S sD D cA d oW oS oD oC c) (fun c => (Str.ofString "more", v2) :: (Str.ofString "pair", .ref a) :: mPs sD D lD c) (mQ w XS i) f s'
theorem cut_deed {w : World} {M : Model} {A : Around} {E : Value → Shared → Prop} {s : Shared} {h₀ : Heap} {L I : Addr} {x : Sem Flow} {Q : Flow → Shared → Prop} {ob : Obj} {m : Str → Option Value} {v2 : Value} {XS : List (Addr × Obj)} {i : Nat} {a : Addr} {nm vl : Array UInt8} {t1 t2 : Tok} {dT aD aT lD S sD D cA : Addr} {d : TD} {oW oS oD oC : Obj} {c : ML}
    (hP : mP w XS i c) (N : News h₀ L s.heap ((a, tupO [.bytes nm t1, .bytes vl t2]) :: (I, ob) :: mLed dT aD aT lD S sD D cA d oW oS oD oC c)) (F : Fr h₀ L s.heap m) (hk : ∀ p ∈ [(Str.ofString "more", v2)], m p.1 = some p.2)
    (h1 : wpAny M A x (MidQ w h₀ L s XS i a nm vl t1 t2 I ob dT aD aT lD S sD D cA d oW oS oD oC v2) E s)
    (h2 : ∀ c h tk u, mQ w XS i c → Fr h₀ L h (kstB u ((Str.ofString "more", v2) :: (Str.ofString "pair", .ref a) :: mPs sD D lD c)) → News h₀ L h ((a, tupO [.bytes nm t1, .bytes vl t2]) :: (I, ob) :: mLed dT aD aT lD S sD D cA d oW oS oD oC c) → Q .next { s with heap := h, toks := tk }) : wpAny M A x Q E s :=
  cut_K _ _ _ h1 fun c h tk u hP F N => h2 c h tk u hP F N
structure Dis (dT aD aT lD sD cA I : Addr) : Prop where
  n1 : @Ne Nat dT aD
  n2 : @Ne Nat dT aT
  n3 : @Ne Nat aD aT
  n4 : @Ne Nat lD dT
  n5 : @Ne Nat sD dT
  n6 : @Ne Nat cA dT
  n7 : @Ne Nat cA aD
  n8 : @Ne Nat sD lD
  n9 : @Ne Nat cA lD
  n10 : @Ne Nat I dT
  n11 : @Ne Nat I aD
  n12 : @Ne Nat I lD
theorem Dis.of {dT aD aT lD S sD D cA I : Addr} {oS oD x y z oC oW oL oc0 : Obj} {X : List (Addr × Obj)} (nl : ∀ p ∈ ((sD, oS) :: (D, oD) :: (aD, x) :: (aT, y) :: (dT, z) :: (cA, oC) :: X : List (Addr × Obj)), p.1 ≠ lD)
    (nI : ∀ p ∈ ((S, oW) :: (lD, oL) :: (sD, oS) :: (D, oD) :: (aD, x) :: (aT, y) :: (dT, z) :: (cA, oC) :: X : List (Addr × Obj)), p.1 ≠ I)
    (ns : ∀ p ∈ ((D, oD) :: ([(aD, x), (aT, y), (dT, z)] ++ [(cA, oC)]) : List (Addr × Obj)), p.1 ≠ sD) (ne1 : @Ne Nat aT aD) (ne2 : @Ne Nat dT aD) (l2 : @LT.lt Nat _ dT aT) (l1 : @LT.lt Nat _ cA dT) (na : ∀ p ∈ ([(cA, oc0)] : List (Addr × Obj)), p.1 ≠ aD) : Dis dT aD aT lD sD cA I where
  n1 := ne2
  n2 := Nat.ne_of_lt l2
  n3 := ne1.symm
  n4 := (nl (dT, z) (by simp)).symm
  n5 := (ns (dT, z) (by simp)).symm
  n6 := Nat.ne_of_lt l1
  n7 := na (cA, oc0) (.head _)
  n8 := nl (sD, oS) (by simp)
  n9 := nl (cA, oC) (by simp)
  n10 := (nI (dT, z) (by simp)).symm
  n11 := (nI (aD, x) (by simp)).symm
  n12 := (nI (lD, oL) (by simp)).symm
abbrev mRest (lD S sD D cA : Addr) (oW oS oD oC oL : Obj) (X : List (Addr × Obj)) : List (Addr × Obj) := (lD, oL) :: (S, oW) :: (sD, oS) :: (D, oD) :: (cA, oC) :: X
section
variable {w : World} {h₀ h : Heap} {L I : Addr} {a dT aD aT lD S sD D cA : Addr} {d : TD} {ob oW oS oD oC : Obj} {c : ML} {nm vl : Array UInt8} {t1 t2 : Tok} {XS : List (Addr × Obj)} {i : Nat} {xsS : Tab}
theorem deed_news (N : News h₀ L h ((a, tupO [.bytes nm t1, .bytes vl t2]) :: (I, ob) :: mLed dT aD aT lD S sD D cA d oW oS oD oC c)) :
    News h₀ L h ((dT, tdObj d c.mx c.u1 (sumE c.ents) c.u2 c.rs aD) :: (aD, dqObj c.k (refsE c.ents)) :: (aT, instObj 219 dT) :: ((a, tupO [.bytes nm t1, .bytes vl t2]) :: (I, ob) :: mRest lD S sD D cA oW oS oD oC c.oL c.X)) :=
  News.perm N (by (repeat (refine sub_cons (by repeat (first | exact .head _ | refine .tail _ ?_)) ?_)); exact fun p hp => by repeat (first | exact hp | refine List.Mem.tail _ ?_))
theorem rest_ne1 (hD : Dis dT aD aT lD sD cA I) (N : News h₀ L h ((a, tupO [.bytes nm t1, .bytes vl t2]) :: (I, ob) :: mLed dT aD aT lD S sD D cA d oW oS oD oC c)) (hX : AllTup c.X) (hW : oW.cls = .type "list") (hDl : oD.cls = .type "list") :
    ∀ p ∈ ((a, tupO [.bytes nm t1, .bytes vl t2]) :: (I, ob) :: mRest lD S sD D cA oW oS oD oC c.oL c.X), p.1 ≠ dT := by
  have N2 := deed_news N
  have off : ∀ p ∈ ((a, tupO [.bytes nm t1, .bytes vl t2]) :: (I, ob) :: mRest lD S sD D cA oW oS oD oC c.oL c.X), p.2.cls ≠ .type "dict" → p.1 ≠ dT := fun p hp hne => off_obj N2 (.head _) (.tail _ (.tail _ (.tail _ hp))) hne
  intro p hp
  have h1 := hp
  simp only [List.mem_cons] at h1
  rcases h1 with h | h | h | h | h | h | h | h
  · subst h; exact off _ hp (by show (Value.type "tuple" : Value) ≠ _; decide)
  · subst h; exact hD.n10
  · subst h; exact hD.n4
  · subst h; exact off _ hp (by show oW.cls ≠ _; rw [hW]; decide)
  · subst h; exact hD.n5
  · subst h; exact off _ hp (by show oD.cls ≠ _; rw [hDl]; decide)
  · subst h; exact hD.n6
  · exact off _ hp (by rw [hX p h]; decide)
theorem rest_ne2 (hD : Dis dT aD aT lD sD cA I) (N : News h₀ L h ((a, tupO [.bytes nm t1, .bytes vl t2]) :: (I, ob) :: mLed dT aD aT lD S sD D cA d oW oS oD oC c)) (hX : AllTup c.X) (hW : oW.cls = .type "list") (hDl : oD.cls = .type "list") (hL : c.oL.cls = .type "dict") (hS : oS.cls = .type "dict") :
    ∀ p ∈ ((a, tupO [.bytes nm t1, .bytes vl t2]) :: (I, ob) :: mRest lD S sD D cA oW oS oD oC c.oL c.X), p.1 ≠ aD := by
  have N2 := deed_news N
  have off : ∀ p ∈ ((a, tupO [.bytes nm t1, .bytes vl t2]) :: (I, ob) :: mRest lD S sD D cA oW oS oD oC c.oL c.X), p.2.cls ≠ .type "collections.deque" → p.1 ≠ aD := fun p hp hne => off_obj N2 (.tail _ (.head _)) (.tail _ (.tail _ (.tail _ hp))) hne
  intro p hp
  have h1 := hp
  simp only [List.mem_cons] at h1
  rcases h1 with h | h | h | h | h | h | h | h
  · subst h; exact off _ hp (by show (Value.type "tuple" : Value) ≠ _; decide)
  · subst h; exact hD.n11
  · subst h; exact off _ hp (by show c.oL.cls ≠ _; rw [hL]; decide)
  · subst h; exact off _ hp (by show oW.cls ≠ _; rw [hW]; decide)
  · subst h; exact off _ hp (by show oS.cls ≠ _; rw [hS]; decide)
  · subst h; exact off _ hp (by show oD.cls ≠ _; rw [hDl]; decide)
  · subst h; exact hD.n7
  · exact off _ hp (by rw [hX p h]; decide)
end
noncomputable def tupOf (l : List (Addr × Obj)) : List (Addr × Obj) := l.filter fun p => decide (p.2.cls = .type "tuple")
theorem tupOf_all (l : List (Addr × Obj)) : AllTup (tupOf l) := fun p hp => by
  have z := (List.mem_filter.mp hp).2
  simpa using z
theorem tupOf_mem {l : List (Addr × Obj)} {p : Addr × Obj} (h : p ∈ l) (e : p.2.cls = .type "tuple") : p ∈ tupOf l := List.mem_filter.mpr ⟨h, by simpa using e⟩
theorem tupOf_sub {l : List (Addr × Obj)} {p : Addr × Obj} (h : p ∈ tupOf l) : p ∈ l := (List.mem_filter.mp h).1
theorem tupOf_in {E' : List Ent} {l : List (Addr × Obj)} (h : AllIn E' l) : AllIn E' (tupOf l) := fun e he => ⟨tupOf_mem (h e he).1 rfl, (h e he).2⟩
theorem AllIn.mono {E' : List Ent} {l l' : List (Addr × Obj)} (h : AllIn E' l) (hs : ∀ p ∈ l, p ∈ l') : AllIn E' l' := fun e he => ⟨hs _ (h e he).1, (h e he).2⟩
section
variable {w : World} {XS X X' : List (Addr × Obj)} {i n : Nat} {ents E' : List Ent} {k k' mx v : Int} {u1 u2 u1' u2' : Tok} {rs rs' : Bool} {oL oL' : Obj} {xsL : Tab} {H : List KV} {gone : Int} {tc ta tg ts tc' ta' ts' : Tok} {nm vl : Array UInt8} {a a2 b1 b2 : Addr} {t1 t2 t3 t4 : Tok}
theorem mQ_set (hP : mP w XS i ⟨ents, k, mx, u1, u2, rs, oL, xsL, H, gone, X, tc, ta, tg, ts⟩) (hv : 0 ≤ v) (hv2 : v ≤ 5000) (hS : Shr v (ents.map Ent.kv) n) :
    mQ w XS i ⟨ents.take n, k', v, u1', u2', rs', oL, xsL, H, gone, X, tc, ta, tg, ts'⟩ := by
  have hkv := hP.kv
  have hle : n ≤ ents.length := by have := hS.1; simpa using this
  have hlen : (ents.take n).length = n := by rw [List.length_take]; omega
  dsimp only at hkv
  refine ⟨?_, ?_, ?_, hv, hv2, fun e he => hP.hin e (List.mem_of_mem_take he), Nat.le_succ_of_le hP.hH, hP.dL, hP.kL, hP.rL, ?_, hP.tup, hP.sub⟩
  · dsimp only
    rw [hlen, List.map_take, hkv, List.take_take, Nat.min_eq_left hle]
  · dsimp only
    rw [hlen]
    rw [hkv] at hS
    exact hP.inv.cut hv hS
  · have z := hS.2.1
    show sumE (ents.take n) ≤ v
    rw [sumE_eq, List.map_take]; exact z
  · have := hP.len
    dsimp only at this ⊢
    omega
theorem mQ_add (hP : mP w XS i ⟨ents, k, mx, u1, u2, rs, oL, xsL, H, gone, X, tc, ta, tg, ts⟩) (hE : E'.map Ent.kv = ((nm, vl) :: ents.map Ent.kv).take E'.length) (hS : Shr mx ((nm, vl) :: ents.map Ent.kv) E'.length) (hin : AllIn E' X') (htup : AllTup X') (hsub : ∀ p ∈ X, p ∈ X')
    (dL : DO w oL' (storedH (storedH xsL [nm.toList, vl.toList] a (.ref b1)) [nm.toList] a2 (.ref b2))) (hb1 : (b1, tupO [.int H.length t1, .int (sumKV H) t2]) ∈ X') (hb2 : (b2, tupO [.int H.length t3, .int (sumKV H) t4]) ∈ X')
    (hk1 : KeyIn w X' [nm.toList, vl.toList] a) (hk2 : KeyIn w X' [nm.toList] a2) :
    mQ w XS i ⟨E', k', mx, u1', u2', rs', oL', storedH (storedH xsL [nm.toList, vl.toList] a (.ref b1)) [nm.toList] a2 (.ref b2), (nm, vl) :: H, gone, X', tc', ta', tg, ts'⟩ := by
  have hkv := hP.kv
  dsimp only at hkv
  have hi := hP.inv.le
  dsimp only at hi
  have hle := hS.1
  rw [List.length_cons, List.length_map] at hle
  refine ⟨?_, ?_, ?_, hP.mx0, hP.mx1, hin, Nat.succ_le_succ hP.hH, dL, ((hP.kL.mono hsub).store hk1).store hk2, ?_, ?_, htup, fun p hp => hsub p (hP.sub p hp)⟩
  · dsimp only
    rw [hE, hkv, ← List.take_succ_cons, List.take_take, Nat.min_eq_left hle]
  · dsimp only
    rw [hkv] at hS
    exact hP.inv.add hP.mx0 (nm, vl) hS
  · have z := hS.2.1
    show sumE E' ≤ mx
    rw [sumE_eq, hE]; exact z
  · exact (hP.rL.mono hsub).push (e := (nm, vl)) a a2 b1 b2 t1 t2 t3 t4 hb1 hb2
  · have z1 := storedH_len xsL [nm.toList, vl.toList] a (.ref b1)
    have z2 := storedH_len (storedH xsL [nm.toList, vl.toList] a (.ref b1)) [nm.toList] a2 (.ref b2)
    have := hP.len
    dsimp only at this ⊢
    omega
end
theorem main_loop1 {w : World} {A : Around} {E : Value → Shared → Prop} {s : Shared} {h₀ : Heap} {env : Env} {I : Addr} {target : Expr} {body : List Stmt} {Q : Flow → Shared → Prop} {m : Str → Option Value} {dT aD aT lD S sD D cA : Addr} {d : TD} {oW oS oD oC oL : Obj} {XS : List (Addr × Obj)} {items : Array Value}
    {k0 : Int} {u1 u2 tc ta tg ts : Tok} {rs : Bool} (hh : A.handled = none) (F : Fr h₀ env.locals s.heap m)
    (N : News h₀ env.locals s.heap ((S, oW) :: (lD, oL) :: (sD, oS) :: (D, oD) :: (aD, dqObj k0 []) :: (aT, instObj 219 dT) :: (dT, tdObj d 4096 u1 0 u2 rs aD) :: (cA, oC) :: XS)) (D0 : DO w oL []) (hX : AllTup XS)
    (nap : ∀ p ∈ ((S, oW) :: (lD, oL) :: (sD, oS) :: (D, oD) :: (aD, dqObj k0 []) :: (aT, instObj 219 dT) :: (dT, tdObj d 4096 u1 0 u2 rs aD) :: (cA, oC) :: XS : List (Addr × Obj)), p.1 ≠ I) (neS : S ≠ I)
    (hL : I ≠ env.locals) (hn : h₀.get? I = none) (hst : s.heap.IsListIter I S 0 ∧ s.heap.IsList S items)
    (hgo : ∀ v (s : Shared) (Q : Unit → Shared → Prop) (E : Value → Shared → Prop), (s.heap.get? I).map Obj.cls = some (.type "list_iterator") → Q () s → wpAny (model PR w) A (letOwnedTupleGo target (.ref I) v) Q E s)
    (hk : ∀ p ∈ mPs sD D lD ⟨[], k0, 4096, u1, u2, rs, oL, [], [], 0, XS, tc, ta, tg, ts⟩, m p.1 = some p.2)
    (hDis : Dis dT aD aT lD sD cA I) (sS : (sD == sysModules) = false) (sL : (lD == sysModules) = false) (hW : oW.cls = .type "list")
    (turn : ∀ (d : TD) (lD S sD : Addr) (oW : Obj), oW.cls = .type "list" → Dis dT aD aT lD sD cA I → (sD == sysModules) = false → (lD == sysModules) = false → ∀ (s : Shared) i c v ob u h tk, i < items.size → items[i]? = some v → mP w XS i c → Fr h₀ env.locals h (kstB u (mPs sD D lD c)) → News h₀ env.locals h ((I, ob) :: mLed dT aD aT lD S sD D cA d oW oS oD oC c) →
      wpAny (model PR w) A (assign target env v) (fun _ s₂ => wpAny (model PR w) A (execs body env) (WalkPost h₀ env.locals I ob s (mLed dT aD aT lD S sD D cA d oW oS oD oC) (mPs sD D lD) (mP w XS) i Q) E s₂) E { s with heap := h, toks := tk })
    (done : ∀ (d : TD) (lD S sD : Addr) (oW : Obj), oW.cls = .type "list" → Dis dT aD aT lD sD cA I → (sD == sysModules) = false → (lD == sysModules) = false → ∀ c u h tk, mP w XS items.size c → Fr h₀ env.locals h (kstB u (mPs sD D lD c)) → News h₀ env.locals h (mLed dT aD aT lD S sD D cA d oW oS oD oC c) → Q .next { s with heap := h, toks := tk })
    (hE : PassesOwn (model PR w) A env E := by passes_own) :
    codeAny (model PR w) A (.forLoop target (.ref I) body [] env) (fun r s' => match r with | .ok f => Q f s' | .error e => cameBackBy (model PR w) A env E e s') s :=
  main_loop0 hh F N D0 hX nap neS hL hn hst hgo hk (turn d lD S sD oW hW hDis sS sL s) (done d lD S sD oW hW hDis sS sL) hE
theorem ints_at : ∀ {vs : List Value} {ns : List Int}, IntsAre vs ns → ∀ {i : Nat} {v : Value}, vs[i]? = some v → ∃ n t, v = .int n t
  | _, _, .nil, i, v, h => by simp at h
  | _, _, .cons n t r, 0, v, h => ⟨n, t, by simpa using h.symm⟩
  | _, _, .cons n t r, i + 1, v, h => ints_at r (by simpa using h)
section
variable {w : World} {h₀ h' : Heap} {L I : Addr} {s : Shared} {a dT aD aT lD S sD D cA : Addr} {d : TD} {ob oW oS oD oC oL oL' : Obj} {nm vl : Array UInt8} {t1 t2 : Tok} {XS X X' : List (Addr × Obj)} {i n tk : Nat} {m' : Str → Option Value} {v2 : Value}
  {ents E' : List Ent} {k k' mx v cs : Int} {u1 u2 u1' u2' : Tok} {rs rs' : Bool} {xsL : Tab} {H : List KV} {gone : Int} {tc ta tg ts tc' ta' ts' : Tok}
theorem mid_set (hP : mP w XS i ⟨ents, k, mx, u1, u2, rs, oL, xsL, H, gone, X, tc, ta, tg, ts⟩) (hv : 0 ≤ v) (hv2 : v ≤ 5000) (hS : Shr v (ents.map Ent.kv) n) (F : Fr h₀ L h' m')
    (N : News h₀ L h' ((dT, tdObj d v u1' (sumE (ents.take n)) u2' rs' aD) :: (aD, dqObj k' (refsE (ents.take n))) :: (aT, instObj 219 dT) :: ((a, tupO [.bytes nm t1, .bytes vl t2]) :: (I, ob) :: mRest lD S sD D cA oW oS oD oC oL X)))
    (hk : ∀ p ∈ (Str.ofString "more", v2) :: (Str.ofString "pair", .ref a) :: mPs sD D lD ⟨ents.take n, k', v, u1', u2', rs', oL, xsL, H, gone, X, tc, ta, tg, ts'⟩, m' p.1 = some p.2) :
    MidQ w h₀ L s XS i a nm vl t1 t2 I ob dT aD aT lD S sD D cA d oW oS oD oC v2 .next { s with heap := h', toks := tk } :=
  ⟨rfl, ⟨ents.take n, k', v, u1', u2', rs', oL, xsL, H, gone, X, tc, ta, tg, ts'⟩, h', tk, m', rfl, F,
    News.perm N (by (repeat (refine sub_cons (by repeat (first | exact .head _ | refine .tail _ ?_)) ?_)); exact fun p hp => by repeat (first | exact hp | refine List.Mem.tail _ ?_)), hk, mQ_set hP hv hv2 hS⟩
theorem add_news {new : List (Addr × Obj)} (N : News h₀ L h' ((dT, tdObj d mx u1 cs u2 rs aD) :: (aD, dqObj k (refsE E')) :: (aT, instObj 219 dT) :: (new ++ ((a, tupO [.bytes nm t1, .bytes vl t2]) :: (I, ob) :: mRest lD S sD D cA oW oS oD oC oL X))))
    (hin : AllIn E' (new ++ ((a, tupO [.bytes nm t1, .bytes vl t2]) :: (I, ob) :: mRest lD S sD D cA oW oS oD oC oL X))) (hX : AllTup X) :
    ∃ X', AllTup X' ∧ AllIn E' X' ∧ (∀ p ∈ X, p ∈ X') ∧ (a, tupO [.bytes nm t1, .bytes vl t2]) ∈ X' ∧
      News h₀ L h' ((a, tupO [.bytes nm t1, .bytes vl t2]) :: (I, ob) :: (dT, tdObj d mx u1 cs u2 rs aD) :: (aD, dqObj k (refsE E')) :: (aT, instObj 219 dT) :: mRest lD S sD D cA oW oS oD oC oL X') := by
  refine ⟨tupOf (new ++ ((a, tupO [.bytes nm t1, .bytes vl t2]) :: (I, ob) :: mRest lD S sD D cA oW oS oD oC oL X)), tupOf_all _, tupOf_in hin, fun p hp => tupOf_mem ?_ (hX p hp), tupOf_mem ?_ rfl, News.perm N ?_⟩
  · exact List.mem_append_right _ (by simp [hp])
  · exact List.mem_append_right _ (.head _)
  · intro p hp
    simp only [List.mem_cons] at hp
    rcases hp with h | h | h | h | h | h | h | h | h | h | h
    iterate 10 (subst h; simp)
    have z := tupOf_sub h
    exact .tail _ (.tail _ (.tail _ z))
theorem last_ne (hD : Dis dT aD aT lD sD cA I) (N : News h₀ L h' ((a, tupO [.bytes nm t1, .bytes vl t2]) :: (I, ob) :: (dT, tdObj d mx u1 cs u2 rs aD) :: (aD, dqObj k (refsE E')) :: (aT, instObj 219 dT) :: mRest lD S sD D cA oW oS oD oC oL X')) (hX : AllTup X') (hW : oW.cls = .type "list") (hDl : oD.cls = .type "list") (hL : oL.cls = .type "dict") :
    (∀ p ∈ ((S, oW) :: (sD, oS) :: (D, oD) :: (cA, oC) :: X' : List (Addr × Obj)), p.1 ≠ lD) ∧ @Ne Nat a lD ∧ @Ne Nat I lD ∧ @Ne Nat dT lD ∧ @Ne Nat aD lD ∧ @Ne Nat aT lD := by
  have hm : (lD, oL) ∈ ((a, tupO [.bytes nm t1, .bytes vl t2]) :: (I, ob) :: (dT, tdObj d mx u1 cs u2 rs aD) :: (aD, dqObj k (refsE E')) :: (aT, instObj 219 dT) :: mRest lD S sD D cA oW oS oD oC oL X') := by simp
  have off : ∀ p ∈ ((a, tupO [.bytes nm t1, .bytes vl t2]) :: (I, ob) :: (dT, tdObj d mx u1 cs u2 rs aD) :: (aD, dqObj k (refsE E')) :: (aT, instObj 219 dT) :: mRest lD S sD D cA oW oS oD oC oL X'), p.2.cls ≠ .type "dict" → p.1 ≠ lD := fun p hp hne => off_obj N hm hp (by rw [hL]; exact hne)
  refine ⟨?_, ?_, hD.n12, hD.n4.symm, ?_, ?_⟩
  · intro p hp
    have h1 := hp
    have hp2 : p ∈ ((a, tupO [.bytes nm t1, .bytes vl t2]) :: (I, ob) :: (dT, tdObj d mx u1 cs u2 rs aD) :: (aD, dqObj k (refsE E')) :: (aT, instObj 219 dT) :: mRest lD S sD D cA oW oS oD oC oL X') := .tail _ (.tail _ (.tail _ (.tail _ (.tail _ (.tail _ hp)))))
    simp only [List.mem_cons] at h1
    rcases h1 with h | h | h | h | h
    · subst h; exact off _ hp2 (by show oW.cls ≠ _; rw [hW]; decide)
    · subst h; exact hD.n8
    · subst h; exact off _ hp2 (by show oD.cls ≠ _; rw [hDl]; decide)
    · subst h; exact hD.n9
    · exact off _ hp2 (by rw [hX p h]; decide)
  · exact off (a, _) (.head _) (by show (Value.type "tuple" : Value) ≠ _; decide)
  · exact off (aD, dqObj k (refsE E')) (by simp) (by show (Value.type "collections.deque" : Value) ≠ _; decide)
  · exact off (aT, instObj 219 dT) (by simp) (by show (Value.ref 219 : Value) ≠ _; decide)
theorem mid_add {b1 b2 b3 : Addr} {q1 q2 q3 q4 q5 tcN taN : Tok} {c1 a1 : Int} (hP : mP w XS i ⟨ents, k, mx, u1, u2, rs, oL, xsL, H, gone, X, tc, ta, tg, ts⟩) (hE : E'.map Ent.kv = ((nm, vl) :: ents.map Ent.kv).take E'.length) (hS : Shr mx ((nm, vl) :: ents.map Ent.kv) E'.length) (hin : AllIn E' X') (htup : AllTup X') (hsub : ∀ p ∈ X, p ∈ X')
    (F : Fr h₀ L h' m') (N : News h₀ L h' ((b3, tupO [.bytes nm q1]) :: (b2, tupO [.int H.length q2, .int (sumKV H) q3]) :: (b1, tupO [.int H.length q4, .int (sumKV H) q5]) :: (a, tupO [.bytes nm t1, .bytes vl t2]) :: (I, ob) :: (dT, tdObj d mx u1' (sumE E') u2' rs' aD) :: (aD, dqObj k' (refsE E')) :: (aT, instObj 219 dT) :: mRest lD S sD D cA oW oS oD oC oL' X'))
    (dL : DO w oL' (storedH (storedH xsL [nm.toList, vl.toList] a (.ref b1)) [nm.toList] b3 (.ref b2))) (ha : (a, tupO [.bytes nm t1, .bytes vl t2]) ∈ X')
    (e1 : c1 = (H.length : Int) + 1) (e2 : a1 = sumKV H + (32 + (nm.size : Int) + (vl.size : Int)))
    (hk : ∀ p ∈ [(Str.ofString "more", v2), (Str.ofString "pair", .ref a), (Str.ofString "rows", .ref D), (Str.ofString "standing", .ref sD), (Str.ofString "last", .ref lD), (Str.ofString "count", .int c1 tcN), (Str.ofString "added", .int a1 taN), (Str.ofString "gone", .int gone tg), (Str.ofString "size", .int mx ts)], m' p.1 = some p.2) :
    MidQ w h₀ L s XS i a nm vl t1 t2 I ob dT aD aT lD S sD D cA d oW oS oD oC v2 .next { s with heap := h', toks := tk } := by
  have eC : c1 = (((nm, vl) :: H).length : Int) := by rw [e1]; simp
  have eA : a1 = sumKV ((nm, vl) :: H) := by rw [e2, sumKV_cons]; simp only [kvSize]; omega
  subst eC
  subst eA
  refine ⟨rfl, ⟨E', k', mx, u1', u2', rs', oL', storedH (storedH xsL [nm.toList, vl.toList] a (.ref b1)) [nm.toList] b3 (.ref b2), (nm, vl) :: H, gone, (b3, tupO [.bytes nm q1]) :: (b2, tupO [.int H.length q2, .int (sumKV H) q3]) :: (b1, tupO [.int H.length q4, .int (sumKV H) q5]) :: X', tcN, taN, tg, ts⟩, h', tk, m', rfl, F, ?_, hk, ?_⟩
  · exact News.perm N (by (repeat (refine sub_cons (by repeat (first | exact .head _ | refine .tail _ ?_)) ?_)); exact fun p hp => by repeat (first | exact hp | refine List.Mem.tail _ ?_))
  · refine mQ_add (t1 := q4) (t2 := q5) (t3 := q2) (t4 := q3) hP hE hS (hin.mono fun p hp => .tail _ (.tail _ (.tail _ hp))) (((htup.cons rfl).cons rfl).cons rfl) (fun p hp => .tail _ (.tail _ (.tail _ (hsub p hp)))) dL (.tail _ (.tail _ (.head _))) (.tail _ (.head _)) (KeyIn.two (.tail _ (.tail _ (.tail _ ha)))) (KeyIn.one (.head _))
end
theorem mP_of_mQ {w : World} {XS X : List (Addr × Obj)} {i : Nat} {ents : List Ent} {k mx gone g' : Int} {u1 u2 : Tok} {rs : Bool} {oL : Obj} {xsL : Tab} {H : List KV} {tc ta tg ts tg' : Tok} (hQ : mQ w XS i ⟨ents, k, mx, u1, u2, rs, oL, xsL, H, gone, X, tc, ta, tg, ts⟩) (hg : g' = if sumKV H - mx > gone then sumKV H - mx else gone) :
    mP w XS (i + 1) ⟨ents, k, mx, u1, u2, rs, oL, xsL, H, g', X, tc, ta, tg', ts⟩ := by
  have e : max gone (sumKV H - mx) = g' := by
    rw [hg]
    by_cases h : sumKV H - mx > gone
    · rw [if_pos h]; omega
    · rw [if_neg h]; omega
  refine ⟨hQ.kv, ?_, hQ.le, hQ.mx0, hQ.mx1, hQ.hin, hQ.hH, hQ.dL, hQ.kL, hQ.rL, hQ.len, hQ.tup, hQ.sub⟩
  have z := hQ.inv
  dsimp only at z ⊢
  rw [e] at z
  exact z
theorem inner_loop {w : World} {A : Around} {E : Value → Shared → Prop} {s : Shared} {h₀ : Heap} {env : Env} {I l2 : Addr} {target : Expr} {body : List Stmt} {Q : Flow → Shared → Prop} {m : Str → Option Value} {l : List Value} {n : Nat} {led : List (Addr × Obj)} (psl : List (Str × Value))
    (hh : A.handled = none) (F : Fr h₀ env.locals s.heap m) (N : News h₀ env.locals s.heap ((l2, W.listOf l.toArray n) :: led))
    (nap : ∀ p ∈ ((l2, W.listOf l.toArray n) :: led), p.1 ≠ I) (neS : l2 ≠ I)
    (hL : I ≠ env.locals) (hn : h₀.get? I = none) (hst : s.heap.IsListIter I l2 0 ∧ s.heap.IsList l2 l.toArray)
    (hgo : ∀ v (s : Shared) (Q : Unit → Shared → Prop) (E : Value → Shared → Prop), (s.heap.get? I).map Obj.cls = some (.type "list_iterator") → Q () s → wpAny (model PR w) A (letOwnedTupleGo target (.ref I) v) Q E s)
    (hk : ∀ p ∈ psl, m p.1 = some p.2)
    (hit : ∀ v ∈ l, ∃ a nm vl t1 t2, v = .ref a ∧ nm.size ≤ 100 ∧ vl.size ≤ 100 ∧ ((a, tupO [.bytes nm t1, .bytes vl t2]) ∈ led ∨ (KF w.params).lookup a = some (tupO [.bytes nm t1, .bytes vl t2])))
    (turn : ∀ i a nm vl t1 t2 ob u h tk, nm.size ≤ 100 → vl.size ≤ 100 → ((a, tupO [.bytes nm t1, .bytes vl t2]) ∈ led ∨ (KF w.params).lookup a = some (tupO [.bytes nm t1, .bytes vl t2])) → Fr h₀ env.locals h (kstB u psl) → News h₀ env.locals h ((I, ob) :: (l2, W.listOf l.toArray n) :: led) →
      wpAny (model PR w) A (assign target env (.ref a)) (fun _ s₂ => wpAny (model PR w) A (execs body env) (WalkPost h₀ env.locals I ob s (fun _ : Unit => (l2, W.listOf l.toArray n) :: led) (fun _ => psl) (fun _ _ => True) i Q) E s₂) E { s with heap := h, toks := tk })
    (done : ∀ u h tk, Fr h₀ env.locals h (kstB u psl) → News h₀ env.locals h ((l2, W.listOf l.toArray n) :: led) → Q .next { s with heap := h, toks := tk })
    (hE : PassesOwn (model PR w) A env E := by passes_own) :
    codeAny (model PR w) A (.forLoop target (.ref I) body [] env) (fun r s' => match r with | .ok f => Q f s' | .error e => cameBackBy (model PR w) A env E e s') s := by
  refine walk_loopQ (σ := Unit) (fun _ => (l2, W.listOf l.toArray n) :: led) (fun _ => psl) (fun _ _ => True) () (Walks.list hh I l2 neS l.toArray) (icls := .type "list_iterator") (fun i h => listit_cls h) ?hfp hgo hL hn hst F N hk trivial ?hap ?turn ?done hE
  case hfp =>
    intro b hb
    rcases List.mem_cons.mp hb with h | h
    · exact .inl h
    · rw [List.mem_singleton] at h; subst h
      exact .inr ⟨_, fun c => .head _⟩
  case hap => exact fun _ _ _ _ _ _ _ p hp => nap p hp
  case turn =>
    rintro i ⟨⟩ v ob u h tk hi hv _ FF NN
    have hm : v ∈ l := by
      have z : l[i]? = some v := by simpa using hv
      exact List.mem_of_getElem? z
    obtain ⟨a, nm, vl, t1, t2, rfl, h1, h2, h3⟩ := hit v hm
    exact turn i a nm vl t1 t2 ob u h tk h1 h2 h3 FF NN
  case done =>
    rintro ⟨⟩ u h tk _ FF NN
    exact done u h tk FF NN
theorem inner_end {h₀ h' : Heap} {L I : Addr} {ob : Obj} {s : Shared} {led rest : List (Addr × Obj)} {psl : List (Str × Value)} {m' : Str → Option Value} {i tk : Nat}
    (F : Fr h₀ L h' m') (N : News h₀ L h' rest) (hs : ∀ p ∈ (I, ob) :: led, p ∈ rest) (hk : ∀ p ∈ psl, m' p.1 = some p.2) : WalkEnd h₀ L I ob s (fun _ : Unit => led) (fun _ => psl) (fun _ _ => True) i { s with heap := h', toks := tk } :=
  ⟨(), h', tk, m', rfl, F, News.perm N hs, hk, trivial⟩
theorem law_eq2 {w : World} {XS X : List (Addr × Obj)} {i : Nat} {ents : List Ent} {k mx gone : Int} {u1 u2 : Tok} {rs : Bool} {oL : Obj} {xsL : Tab} {H : List KV} {tc ta tg ts : Tok} (hP : mP w XS i ⟨ents, k, mx, u1, u2, rs, oL, xsL, H, gone, X, tc, ta, tg, ts⟩) (nm vl : Array UInt8) :
    (searchS nm vl (ents.map Ent.kv)).map (fun p => ((p.1 : Int), p.2)) = foundS (statF statT) (lastF H) gone H.length nm vl := by
  have z := hP.kv
  dsimp only at z
  rw [z]
  exact law_eq hP.inv nm vl
theorem bytes_loop {w : World} {A : Around} {E : Value → Shared → Prop} {s : Shared} {h₀ : Heap} {env : Env} {I l2 : Addr} {target : Expr} {body : List Stmt} {Q : Flow → Shared → Prop} {m : Str → Option Value} {l : List Value} {n : Nat} {led : List (Addr × Obj)} (psl : List (Str × Value))
    (hh : A.handled = none) (F : Fr h₀ env.locals s.heap m) (N : News h₀ env.locals s.heap ((l2, W.listOf l.toArray n) :: led))
    (nap : ∀ p ∈ ((l2, W.listOf l.toArray n) :: led), p.1 ≠ I) (neS : l2 ≠ I)
    (hL : I ≠ env.locals) (hn : h₀.get? I = none) (hst : s.heap.IsListIter I l2 0 ∧ s.heap.IsList l2 l.toArray)
    (hgo : ∀ v (s : Shared) (Q : Unit → Shared → Prop) (E : Value → Shared → Prop), (s.heap.get? I).map Obj.cls = some (.type "list_iterator") → Q () s → wpAny (model PR w) A (letOwnedTupleGo target (.ref I) v) Q E s)
    (hk : ∀ p ∈ psl, m p.1 = some p.2)
    (hit : ∀ v ∈ l, ∃ b t, v = .bytes b t ∧ b.size ≤ 100)
    (turn : ∀ i b t ob u h tk, b.size ≤ 100 → Fr h₀ env.locals h (kstB u psl) → News h₀ env.locals h ((I, ob) :: (l2, W.listOf l.toArray n) :: led) →
      wpAny (model PR w) A (assign target env (.bytes b t)) (fun _ s₂ => wpAny (model PR w) A (execs body env) (WalkPost h₀ env.locals I ob s (fun _ : Unit => (l2, W.listOf l.toArray n) :: led) (fun _ => psl) (fun _ _ => True) i Q) E s₂) E { s with heap := h, toks := tk })
    (done : ∀ u h tk, Fr h₀ env.locals h (kstB u psl) → News h₀ env.locals h ((l2, W.listOf l.toArray n) :: led) → Q .next { s with heap := h, toks := tk })
    (hE : PassesOwn (model PR w) A env E := by passes_own) :
    codeAny (model PR w) A (.forLoop target (.ref I) body [] env) (fun r s' => match r with | .ok f => Q f s' | .error e => cameBackBy (model PR w) A env E e s') s := by
  refine walk_loopQ (σ := Unit) (fun _ => (l2, W.listOf l.toArray n) :: led) (fun _ => psl) (fun _ _ => True) () (Walks.list hh I l2 neS l.toArray) (icls := .type "list_iterator") (fun i h => listit_cls h) ?hfp hgo hL hn hst F N hk trivial ?hap ?turn ?done hE
  case hfp =>
    intro b hb
    rcases List.mem_cons.mp hb with h | h
    · exact .inl h
    · rw [List.mem_singleton] at h; subst h
      exact .inr ⟨_, fun c => .head _⟩
  case hap => exact fun _ _ _ _ _ _ _ p hp => nap p hp
  case turn =>
    rintro i ⟨⟩ v ob u h tk hi hv _ FF NN
    have hm : v ∈ l := by
      have z : l[i]? = some v := by simpa using hv
      exact List.mem_of_getElem? z
    obtain ⟨b, t, rfl, h1⟩ := hit v hm
    exact turn i b t ob u h tk h1 FF NN
  case done =>
    rintro ⟨⟩ u h tk _ FF NN
    exact done u h tk FF NN
theorem ne_bytes_same {prog : Program} {w : World} {A : Around} {E : Value → Shared → Prop} {s : Shared} {b : Array UInt8} {t u : Tok} {Q : Value → Shared → Prop} (h : Q (.bool false) s) : wpAny (model prog w) A (compareOp .NotEq (.bytes b t) (.bytes b u)) Q E s := by
  refine ne_bytes ?_
  have e : (b.toList != b.toList) = false := by simp
  rw [e]; exact h
theorem RRep_none {nm vl : Array UInt8} {x : Value} {new : List (Addr × Obj)} (h : RRep none nm vl x new) : x = .none ∧ new = [] := h
theorem RRep_true {nm vl : Array UInt8} {j : Nat} {x : Value} {new : List (Addr × Obj)} (h : RRep (some (j, true)) nm vl x new) : ∃ a t tn tv, x = .ref a ∧ new = [(a, tupO [.int j t, .bytes nm tn, .bytes vl tv])] := h
theorem RRep_false {nm vl : Array UInt8} {j : Nat} {x : Value} {new : List (Addr × Obj)} (h : RRep (some (j, false)) nm vl x new) : ∃ a t tn, x = .ref a ∧ new = [(a, tupO [.int j t, .bytes nm tn, .none])] :=
  let ⟨a, t, tn, _, e1, e2⟩ := h; ⟨a, t, tn, e1, e2⟩
theorem told_rng (P : Params) {nm vl : Array UInt8} {ents : List Ent} {j : Nat} {fl : Bool} (h : searchS nm vl (ents.map Ent.kv) = some (j, fl)) : 1 ≤ (j : Int) ∧ (j : Int) ≤ 61 + ents.length := by
  rcases told_ok P h with ⟨a, b, _⟩ | ⟨a, b, _⟩
  · omega
  · rw [List.length_map] at b; omega
theorem row_ok (P : Params) {nm vl : Array UInt8} {ents : List Ent} {X : List (Addr × Obj)} {j : Nat} {fl : Bool} {x : Value} (hin : AllIn ents X) (h : searchS nm vl (ents.map Ent.kv) = some (j, fl))
    (hx : ((j : Int) ≤ 61 ∧ x = .ref (95 + (j : Int).toNat)) ∨ (61 < (j : Int) ∧ (refsE ents)[((j : Int) - 62).toNat]? = some x)) :
    ∃ ar vl' t1 t2, x = .ref ar ∧ ((ar, tupO [.bytes nm t1, .bytes vl' t2]) ∈ X ∨ (KF P).lookup ar = some (tupO [.bytes nm t1, .bytes vl' t2])) ∧ (fl = true → vl' = vl) := by
  rcases told_ok P h with ⟨a, b, vl', t1, t2, hl, hf⟩ | ⟨a, b, vl', hg, hf⟩
  · rcases hx with ⟨_, e⟩ | ⟨q, _⟩
    · exact ⟨95 + j, vl', t1, t2, by rw [e]; simp, .inr hl, hf⟩
    · omega
  · rcases hx with ⟨q, _⟩ | ⟨_, e⟩
    · omega
    · have z : ((j : Int) - 62).toNat = j - 62 := by omega
      rw [z] at e
      rw [List.getElem?_map] at hg e
      cases he : ents[j - 62]? with
      | none => rw [he] at hg; cases hg
      | some en =>
        rw [he] at hg e
        have e1 : (en.nm, en.vl) = (nm, vl') := Option.some.inj hg
        have e2 : Value.ref en.a = x := Option.some.inj e
        obtain ⟨e3, e4⟩ := Prod.mk.inj e1
        have hm := (hin en (List.mem_of_getElem? he)).1
        refine ⟨en.a, vl', en.t1, en.t2, e2.symm, .inl ?_, hf⟩
        rw [← e3, ← e4]
        exact hm
theorem ws_le {ws : List Value} {ns : List Int} (h : IntsAre ws (List.take 10 ns)) : ws.toArray.size ≤ 10 := by
  rw [List.size_toArray, h.length]; exact List.length_take_le _ _
theorem RRep_some {nm vl : Array UInt8} {j : Nat} {fl : Bool} {x : Value} {new : List (Addr × Obj)} (h : RRep (some (j, fl)) nm vl x new) :
    ∃ a t tn y, x = .ref a ∧ new = [(a, tupO [.int j t, .bytes nm tn, y])] ∧ ((y = .none ∧ fl = false) ∨ ∃ tv, y = .bytes vl tv ∧ fl = true) := by
  obtain ⟨a, t, tn, tv, e1, e2⟩ := h
  cases fl with
  | true => exact ⟨a, t, tn, .bytes vl tv, e1, e2, .inr ⟨tv, rfl, rfl⟩⟩
  | false => exact ⟨a, t, tn, .none, e1, e2, .inl ⟨rfl, rfl⟩⟩
section
variable {w : World} {A : Around} {E : Value → Shared → Prop} {s : Shared} {h₀ : Heap} {L : Addr} {m : Str → Option Value}
theorem deque_K {d0 x0 : Addr} {o1 o2 : Obj} {rest : List (Addr × Obj)} {Q : Value → Shared → Prop} (F : Fr h₀ L s.heap m) (N : News h₀ L s.heap ((d0, o1) :: (x0, o2) :: rest))
    (h : ∀ a h' tk, @Ne Nat d0 a → @Ne Nat x0 a → (∀ p ∈ rest, p.1 ≠ a) → Fr h₀ L h' m → News h₀ L h' ((a, dqObj 0 []) :: (d0, o1) :: (x0, o2) :: rest) → Q (.ref a) { s with heap := h', toks := tk }) :
    wpAny (model PR w) A (call (.type "collections.deque") [] []) Q E s := by
  refine deque_new fun a h' tk M => ?_
  have hk : ∀ b o, s.heap.get? b = some o → h'.get? b = some o := fun b o e => M.keep b o e (by simp [X.away])
  have ha := M.nw (a, dqObj 0 []) (.head _)
  have ne : ∀ b o, s.heap.get? b = some o → b ≠ a := fun b o e z => by rw [z, ha.2] at e; cases e
  obtain ⟨oL, hoL⟩ : ∃ o, s.heap.get? L = some o := by obtain ⟨o, _, _, ho, _⟩ := F.ns; exact ⟨o, ho⟩
  refine h a h' tk (ne _ _ (N _ (.head _)).1) (ne _ _ (N _ (.tail _ (.head _))).1) (fun p hp => ne _ _ (N p (.tail _ (.tail _ hp))).1) ⟨F.ns.at' fun o e => hk _ _ e, fun b o e => hk _ _ (F.keep b o e), F.above⟩ fun p hp => ?_
  rcases List.mem_cons.mp hp with rfl | hp
  · refine ⟨ha.1, fun z => ne _ _ hoL z.symm, ?_⟩
    cases hq : h₀.get? a with
    | none => rfl
    | some o => have := F.keep _ _ hq; rw [ha.2] at this; cases this
  · exact ⟨hk _ _ (N p hp).1, (N p hp).2⟩
end
structure Both (P Q : Prop) : Prop where
  l : P
  r : Q
structure Seal (P : Prop) : Prop where
  get : P
noncomputable def Hold (P : Prop) : Prop := P
theorem Hold.intro {P : Prop} (h : Hold P) : P := h
abbrev stR (i : Nat) : List Value := (List.range i).map fun j => .ref (96 + j)
theorem stR_get {n j : Nat} (h : j < n) : (stR n)[j]? = some (.ref (96 + j)) := by simp [stR, h]
theorem item_rows {w : World} {A : Around} {E : Value → Shared → Prop} {s : Shared} {h₀ : Heap} {L : Addr} {news : List (Addr × Obj)} {value slice : Expr} {a : Addr} {ys : List Value} {k : Int} {u : Tok} {x : Value} {Q : Value → Shared → Prop} (N : News h₀ L s.heap news) (hm : (a, LCg.lst ys) ∈ news)
    (h0 : 0 ≤ k) (hfit : k < 2 ^ 63) (hx : ys[k.toNat]? = some x) (h : Q x s)
    (hs : subscripted slice false (.ref a) (.int k u) = operate [.ref a, .int k u] (getItem (.ref a) (.int k u)) := by with_unfolding_all rfl) (hg : ∀ r, letTemporaryGo value (.ref a) r = pure () := by intro _; with_unfolding_all rfl) :
    wpAny (model PR w) A (subscriptTail value slice (.ref a) (.int k u)) Q E s := item_listL (News.isList N hm) h0 hfit hx h hs hg
theorem set_TT2 {w : World} {A : Around} {E : Value → Shared → Prop} {s : Shared} {h₀ : Heap} {L d a : Addr} {m : Str → Option Value} {news : List (Addr × Obj)} {k : Key} {xs : Tab} {o : Obj} {v : Value} {Q : Unit → Shared → Prop} {news' : Obj → List (Addr × Obj)} (hu : A.units + 1 < cLine) (F : Fr h₀ L s.heap m) (X₀ : (KF w.params).In h₀) (N : News h₀ L s.heap news) (U : ∀ o', Upd d o o' news (news' o')) (D : DO w o xs) (ha : KeyIn w news k a) (hk : KeysIn w news xs)
    (hsz : xs.length ≤ 100000)
    (h : ∀ h' o', DO w o' (storedH xs k a v) → Fr h₀ L h' m → News h₀ L h' (news' o') → Q () { s with heap := h', toks := s.toks + (k.length + 1) }) : wpAny (model PR w) A (setItem (.ref d) (.ref a) v) Q E s := set_TT hu F X₀ N D hk ha U hsz h
local macro_rules | `(tactic| walk_at "call type:collections.deque") => `(tactic| (k_here; k_dflt (refine' deque_K ?F ?N ?_; (case F => k_asm); (case N => k_asm); k_whole); intro a h' tk ne1 ne2 nap F' N'; (try k_sweep)))
local macro_rules | `(tactic| walk_at "call ref") => `(tactic| (k_here; (first | (refine' call_meth ?k1 ?k2 ?_; (case k1 => k_asm); (case k2 => k_mem)) | refine wpAny_call ?_); (first | (show codeAny _ _ (.call (.ref 171) _) _ _) | (show codeAny _ _ (.call (.ref 185) _) _ _) | (show codeAny _ _ (.call (.ref 192) _) _ _) | (show codeAny _ _ (.call (.ref 806) _) _ _) | (show codeAny _ _ (.call (.ref 208) _) _ _))))
local macro_rules | `(tactic| walk_at "CompSrc") => `(tactic| (refine Hold.intro ?_))
local macro_rules | `(tactic| walk_at "exec For Name Call cons nil") => `(tactic| (with_unfolding_all refine wpAny_For ?_))
local macro_rules | `(tactic| walk_at "pyIter ref") => `(tactic| (refine Hold.intro ?_))
local macro_rules | `(tactic| walk_at "subscriptTail") => `(tactic| (k_here; (with_reducible show wpAny _ _ (subscriptTail _ _ (Value.ref _) (Value.int _ _)) _ _ _); k_dflt (refine' item_rows ?N ?m ?a ?b ?x ?_; (case N => k_asm); (case m => k_mem); (case a => omega); (case b => omega); (case x => assumption); k_whole)))
local macro_rules | `(tactic| walk_at "subscriptTail") => `(tactic| (k_here; (with_reducible show wpAny _ _ (subscriptTail _ _ (Value.ref _) (Value.int _ _)) _ _ _); k_dflt (refine' item_pair ?F ?X ?N ?e ?a ?b ?c ?d ?_; (case F => k_asm); (case X => k_asm); (case N => k_asm); (case e => (first | exact Or.inl (by k_mem) | exact Or.inr (by assumption))); (case a => decide); (case b => decide); (case c => rfl); (case d => rfl); k_whole)))
local macro_rules | `(tactic| walk_at "setItem ref ref") => `(tactic| (k_here; k_dflt (refine' set_TT2 ?u ?F ?X ?N ?U ?D ?a ?k ?z ?_; (case u => (with_unfolding_all exact Nat.le_of_ble_eq_true rfl)); (case F => k_asm); (case X => k_asm); (case N => k_asm); (case U => (intro k'; k_upd)); (case D => assumption); (case a => (first | exact KeyIn.twoK (by assumption) | exact KeyIn.two (by k_mem) | exact KeyIn.one (by k_mem))); (case k => (first | (refine KeysIn.mono (by assumption) (fun p hp => ?_); repeat (first | exact hp | refine List.Mem.tail _ ?_)) | (refine KeysIn.store (KeysIn.mono (by assumption) (fun p hp => ?_)) (by (first | exact KeyIn.twoK (by assumption) | exact KeyIn.two (by k_mem))); repeat (first | exact hp | refine List.Mem.tail _ ?_)))); (case z => (first | omega | (refine Nat.le_trans (storedH_len _ _ _ _) ?_; omega))); k_whole); intro h' o' D' F' N'; (try k_sweep)))
local macro_rules | `(tactic| walk_at "exec For Name Subscript cons nil") => `(tactic| (with_unfolding_all refine wpAny_For ?_))
local macro_rules | `(tactic| walk_at "subscriptTail") => `(tactic| (k_here; (with_reducible show wpAny _ _ (subscriptTail _ _ (Value.ref _) (Value.int (Int.fmod _ _) _)) _ _ _); k_dflt (refine' item_rowsF ?N ?m ?a ?b ?_; (case N => k_asm); (case m => k_mem); (case a => exact (fmod_pos _ (by decide)).1); (case b => exact (fmod_pos _ (by decide)).2); k_whole); intro j' nm' vl' t1' t2' hl' hn' hv'))
local macro_rules | `(tactic| walk_at "subscriptTail") => `(tactic| (k_here; (with_reducible show wpAny _ _ (subscriptTail _ _ (Value.ref _) (Value.int (Int.fmod _ _) _)) _ _ _); k_dflt (refine' item_listB ?N ?m ?a ?b ?z ?c ?_; (case N => k_asm); (case m => k_mem); (case a => exact (fmod_pos _ (by decide)).1); (case b => exact (fmod_pos _ (by decide)).2); (case z => exact Nat.le_of_ble_eq_true rfl); (case c => ((repeat (refine List.forall_mem_cons.mpr ⟨⟨_, _, rfl, by decide⟩, ?_⟩)); exact List.forall_mem_nil _)); k_whole); intro nm' tn' hn'))
local macro_rules | `(tactic| walk_at "exec If Compare cons nil") => `(tactic| (k_here; (show wpAny _ _ (exec (Stmt.If _ _ _ { line := 123, col := _, endLine := _, endCol := _ }) _) _ _ _); (fail_if_success (show wpAny _ _ _ (Mid _ _ _ _ _ _) _ _)); refine Hold.intro ?_))
local macro_rules | `(tactic| walk_at "exec If Compare cons cons") => `(tactic| (k_here; (show wpAny _ _ (exec (Stmt.If _ _ _ { line := 125, col := _, endLine := _, endCol := _ }) _) _ _ _); (fail_if_success (show wpAny _ _ _ (Mid _ _ _ _ _ _) _ _)); refine Hold.intro ?_))
local macro_rules | `(tactic| walk_at "setAttr ref") => `(tactic| (k_here; (show wpAny _ _ (setAttr (Value.ref _) (Str.ofString "maxsize") _) _ _ _); k_dflt (refine' set_prop ?k1 ?k2 ?k3 ?k4 ?k5 ?k6 ?k7 ?k8 ?_; (case k1 => k_asm); (case k2 => k_asm); (case k3 => k_inst); (case k4 => k_is); (case k5 => k_is); (case k6 => k_is); (case k7 => k_is); (case k8 => k_is); k_whole; refine Hold.intro ?_)))
local macro_rules | `(tactic| walk_at "exec For Name List cons nil") => `(tactic| (with_unfolding_all refine wpAny_For ?_))

local macro_rules | `(tactic| walk_at "subscriptTail") => `(tactic| (k_here; (with_reducible show wpAny _ _ (subscriptTail _ _ (Value.ref _) (Value.int _ _)) _ _ _); k_dflt (refine' item_pair ?F ?X ?N ?e ?a ?b ?c ?d ?_; (case F => k_asm); (case X => k_asm); (case N => k_asm); (case e => (refine Or.imp_left (fun h => ?_) (by assumption); repeat (first | exact h | refine List.Mem.tail _ ?_))); (case a => decide); (case b => decide); (case c => rfl); (case d => rfl); k_whole)))
local macro_rules | `(tactic| walk_at "compareOp NotEq bytes bytes") => `(tactic| (k_here; k_dflt (refine ne_bytes_same ?_)))
noncomputable def SA : PSigma (fun P : Prop => Seal P → PySem.Challenge.rw_im0126_01.Holds) := by
  refine' ⟨_, fun goalP => ?mainSA⟩
  case mainSA =>
    w_on
    w_top off
    refine hd rfl rfl rfl ?_
    w_strict (k_go0; (all_goals try k_fold); k_steps
              rename News _ _ _ _ => nE
              rename Fr _ _ _ _ => fE
              rename IsRange _ _ _ _ _ _ _ _ => hR
              (show LCg.CompSrc _ _ _ _ _ _ _ _ _ _ _ _ _ _)
              refine LCg.CompSrc.range (n := 61) (by rfl) fE nE hR (by decide) (by decide) (by rw [sizeLine_eq]; omega) ?_
              intro g
              suffices H : ∀ k i, k + i = 61 → LCg.CompRest _ _ _ _ _ _ _ _ _ _ _ _ _ _ _ k i (stR i) _ from H 61 0 rfl
              intro k
              induction k with
              | zero =>
                intro i hi
                obtain rfl : i = 61 := by omega
                refine LCg.CompRest.zero ?_
                intro D h tk fR nR oR
                k_steps
                rename_i yy1 yy2 yy3 yy4 yy5 yy6 yy7 yy8 yy9 yy10 yy11 yy12 yy13 yy14 yy15 yy16 yy17 yy18 yy19 yy20 yy21 yy22 yy23 yy24 yy25 yy26 yy27 yy28 yy29 yy30 yy31 yy32 yy33 yy34 yy35 yy36 yy37 yy38 yy39 yy40 yy41 yy42 hI yy44 yy45 yy46 yy47 yy48 yy49 yy50 w yy52 X0 yy54 yy55 yy56 yy57 yy58 yy59 yy60 yy61 yy62 yy63 yy64 yy65 yy66 yy67 yy68 yy69 yy70 yy71 yy72 yy73 yy74 yy75 yy76 yy77 yy78 yy79 yy80 yy81 yy82 yy83 yy84 yy85 yy86 yy87 yy88 yy89 yy90 yy91 yy92 yy93 yy94 yy95 yy96 yy97 yy98 yy99 yy100 yy101 yy102 yy103 yy104 yy105 yy106 yy107 yy108 yy109 yy110 yy111 yy112 yy113 yy114 yy115 yy116
                revert yy1 yy2 yy3 yy4 yy5 yy6 yy7 yy8 yy9 yy10 yy11 yy12 yy13 yy14 yy15 yy16 yy17 yy18 yy19 yy20 yy21 yy22 yy23 yy24 yy25 yy26 yy27 yy28 yy29 yy30 yy31 yy32 yy33 yy34 yy35 yy36 yy37 yy38 yy39 yy40 yy41 yy42 hI yy44 yy45 yy46 yy47 yy48 yy49 yy50 w yy52 X0 yy54 yy55 yy56 yy57 yy58 yy59 yy60 yy61 yy62 yy63 yy64 yy65 yy66 yy67 yy68 yy69 yy70 yy71 lifted qk ek yy72 yy73 yy74 yy75 yy76 yy77 yy78 yy79 yy80 yy81 yy82 yy83 yy84 yy85 yy86 yy87 yy88 yy89 yy90 yy91 yy92 yy93 yy94 yy95 hR yy96 g hi D h tk oR yy97 yy98 yy99 yy100 yy101 yy102 yy103 yy104 yy105 yy106 yy107 yy108 yy109 yy110 yy111 yy112 yy113 yy114 yy115 yy116
                exact goalP.get
              | succ k ih =>
                intro i hki
                refine LCg.CompRest.succ ?_
                intro v I oI C oC D m₂ h tk E' P1 P2 P3 P4 P5 P6 P7
                k_steps
                obtain ⟨tv, rfl⟩ := P1
                refine' get_K (ents := []) (d := ⟨_, _, _, _, _, _, _, _⟩) (by assumption) P4 (by assumption) (by assumption) P5 ?m1 ?m2 ?m3 (by decide) (by omega) (by simp; omega) (by rfl) (by rfl) ?_
                case m1 => repeat (first | exact .head _ | refine .tail _ ?_)
                case m2 => repeat (first | exact .head _ | refine .tail _ ?_)
                case m3 => repeat (first | exact .head _ | refine .tail _ ?_)
                intro h' tk' x hx F1 N1
                try dsimp only
                try k_fold
                k_steps
                have hxv : x = .ref (96 + i) := by
                  rcases hx with ⟨_, e⟩ | ⟨q, _⟩
                  · have q : 95 + (1 + (i : Int)).toNat = 96 + i := by omega
                    rw [e, q]
                  · omega
                subst hxv
                refine LCg.CompEnd.intro (by assumption) (by assumption) _ (fun p hp => hp) P6 trivial ?_
                have e9 : stR (i + 1) = stR i ++ [.ref (96 + i)] := by simp [stR, List.range_succ]
                have z := ih (i + 1) (by omega)
                rw [e9] at z
                exact z)
noncomputable def SB : PSigma (fun P : Prop => Seal P → SA.1) := by
  refine' ⟨_, fun goalP => ?mainSB⟩
  case mainSB =>
    w_on
    w_top off
    intro
    intros
    rename News _ _ _ _ => nE
    rename Fr _ _ _ _ => fE
    rename IsRange _ _ _ _ _ _ _ _ => hR
    rename Obj.IsDictOf (PySem.strKind _ _) _ _ => hD
    rename ∀ (p : Addr × Obj), p ∈ _ → p.1 ≠ _ => nsD
    rename (KF _).In _ => X0
    rename World => w
    have dE := DO.empty hD
    refine Hold.intro ?_
    refine iter_range_K hR (by decide) (n := 61) (by rfl) fE nE ?_
    intro h' I nap neL hIn stI F' N'
    refine' std_loop [(Str.ofString "script", _), (Str.ofString "rows", _), (Str.ofString "standing", _)] (by rfl) F' N' dE nap neL hIn stI go_name ?hkc1 ?turnc1 ?donec1
    case hkc1 =>
      repeat (refine List.forall_mem_cons.mpr ⟨by with_unfolding_all rfl, ?_⟩)
      exact List.forall_mem_nil _
    case turnc1 =>
      rintro i o xs X ob t u h tk hi ⟨dO, kI, sR, hlen, hX⟩ FF NN
      obtain ⟨nm, vl, hg, hn1, hv1, hlk⟩ := stat_get (j := 60 - i) (by omega)
      obtain ⟨t1, t2, hlk⟩ := hlk w.params
      have hrow : (stR 61)[(61 + (i : Int) * (-1) - 1).toNat]? = some (.ref (96 + (60 - i))) := by
        have q : (61 + (i : Int) * (-1) - 1).toNat = 60 - i := by omega
        rw [q]
        exact stR_get (by omega)
      dsimp only at dO kI sR hlen hX
      dsimp only [kstB] at FF
      have hAll := std_all NN dO hX nsD
      have neI := Ne.symm (nap _ (.head _))
      k_steps
      rename News _ _ _ _ => nE
      rename Fr _ _ _ _ => fE
      rename DO _ _ _ => dE2
      refine std_end hi kI sR hlen hX hg hlk fE nE dE2 ?_
      repeat (refine List.forall_mem_cons.mpr ⟨by with_unfolding_all rfl, ?_⟩)
      exact List.forall_mem_nil _
    case donec1 =>
      rintro o xs X u h tk ⟨dO, kI, sR, hlen, hX⟩ FF NN
      dsimp only at dO kI sR hlen hX
      dsimp only [kstB] at FF
      k_steps
      rename_i yy1 yy2 yy3 yy4 yy5 yy6 yy7 yy8 yy9 yy10 yy11 yy12 yy13 yy14 yy15 yy16 yy17 yy18 yy19 yy20 yy21 yy22 yy23 yy24 yy25 yy26 yy27 yy28 yy29 yy30 yy31 yy32 yy33 yy34 yy35 yy36 yy37 yy38 yy39 yy40 yy41 hI yy43 yy44 yy45 yy46 yy47 yy48 yy49 yy50 yy51 yy52 yy53 yy54 yy55 yy56 yy57 yy58 yy59 yy60 yy61 yy62 yy63 yy64 yy65 yy66 yy67 yy68 yy69 yy70 yy71 yy72 yy73 yy74 yy75 yy76 yy77 yy78 yy79 yy80 yy81 yy82 yy83 yy84 yy85 yy86 yy87 yy88 yy89 yy90 yy91 yy92 yy93 yy94 yy95 yy96 yy97 yy98 yy99 yy100 yy101 yy102 yy103 yy104 yy105 yy106 yy107 yy108 yy109 yy110 yy111 yy112 yy113 yy114 yy115 yy116 yy117 yy118 yy119 yy120 yy121 yy122 yy123 yy124 yy125 yy126 yy127 yy128 yy129 yy130 yy131 yy132 yy133 yy134 yy135 yy136 yy137 yy138 yy139 yy140 yy141
      revert w yy1 yy2 yy3 yy4 yy5 yy6 yy7 yy8 yy9 yy10 yy11 yy12 yy13 yy14 yy15 yy16 yy17 yy18 yy19 yy20 yy21 yy22 yy23 yy24 yy25 yy26 yy27 yy28 yy29 yy30 yy31 yy32 yy33 yy34 yy35 yy36 yy37 yy38 yy39 yy40 yy41 hI yy43 yy44 yy45 yy46 yy47 yy48 yy49 yy50 yy51 yy52 yy53 yy54 yy55 yy56 yy57 yy58 yy59 yy60 yy61 yy62 yy63 yy64 yy65 yy66 yy67 yy68 yy69 yy70 yy71 yy72 yy73 yy74 yy75 yy76 yy77 yy78 yy79 yy80 yy81 yy82 yy83 yy84 yy85 yy86 yy87 X0 yy88 yy89 yy90 yy91 yy92 yy93 yy94 yy95 yy96 yy97 yy98 yy99 yy100 yy101 yy102 yy103 yy104 yy105 yy106 yy107 hD yy108 yy109 yy110 nsD yy111 yy112 yy113 yy114 yy115 yy116 hR yy117 dE h' I nap neL hIn stI o xs X u h tk dO kI sR hlen hX FF NN yy118 yy119 yy120 yy121 yy122 yy123 yy124 yy125 yy126 yy127 yy128 yy129 yy130 yy131 yy132 yy133 yy134 yy135 yy136 yy137 yy138 yy139 yy140 yy141
      exact goalP.get
noncomputable def SC : PSigma (fun P : Prop => PSigma (fun Q : Prop => Seal P → Seal Q → SB.1)) := by
  refine' ⟨_, _, fun goalP goalQ => ?mainSC⟩
  case mainSC =>
    w_on
    w_top off
    intro
    intros
    rename World => w
    rename News _ _ _ _ => nE
    rename Fr _ _ _ _ => fE
    rename Obj.IsDictOf (PySem.strKind _ _) _ _ => hD
    rename DO _ _ _ => dS
    rename KeysIn _ _ _ => kS
    rename SRel _ _ => rS
    rename AllTup _ => tS
    rename IntsAre _ (List.take 10 _) => hI
    rename (KF _).In _ => X0
    rename ∀ (p : Addr × Obj), p ∈ _ → p.1 ≠ _ => hnl
    have dE := DO.empty hD
    repeat (rename PyProof.V.FlatPairs _ _ _ => fpX; clear fpX)
    refine Hold.intro ?_
    refine iter_list_K (News.isList nE (.head _)) fE nE ?_
    intro h' I nap neL hIn neS stI F' N'
    have hws := ws_le hI
    have hDis := Dis.of hnl nap (by assumption) (by assumption) (by assumption) (by assumption) (by assumption) (by assumption)
    refine' main_loop1 (d := ⟨_, _, _, _, _, _, _, _⟩) (by rfl) F' N' dE tS nap neS neL hIn stI go_name ?hkc2 hDis (by assumption) (by assumption) rfl ?turnc2 ?donec2
    case hkc2 =>
      repeat (refine List.forall_mem_cons.mpr ⟨by with_unfolding_all rfl, ?_⟩)
      exact List.forall_mem_nil _
    case turnc2 =>
      rintro dV lV SV sV oWV hWc hDisV sSV sLV stV i ⟨ents, k, mx, u1, u2, rs, oL, xsL, H, gone, X, tc, ta, tg, ts⟩ v ob u h tk hi hv hP FO NO
      have dL := hP.dL
      have kL := hP.kL
      dsimp only at dL kL
      have FF := FO
      have NN := NO
      have FNO := Both.mk FO NO
      dsimp only [kstB] at FF
      obtain ⟨nn, tn, rfl⟩ : ∃ nn tn, v = .int nn tn := ints_at hI (by simpa using hv)
      have hi10 : i < 10 := Nat.lt_of_lt_of_le hi (by rw [List.size_toArray, hI.length]; exact List.length_take_le _ _)
      k_steps
      rename_i yy1 yy2 yy3 yy4 yy5 yy6 yy7 yy8 yy9 yy10 yy11 yy12 yy13 yy14 yy15 yy16 yy17 yy18 yy19 yy20 yy21 yy22 yy23 yy24 yy25 yy26 yy27 yy28 yy29 yy30 yy31 yy32 yy33 yy34 yy35 yy36 yy37 yy38 yy39 yy40 yy41 yy42 yy43 yy44 yy45 yy46 yy47 yy48 yy49 yy50 yy51 yy52 yy53 yy54 yy55 yy56 yy57 yy58 yy59 yy60 yy61 yy62 yy63 yy64 yy65 yy66 yy67 yy68 yy69 yy70 yy71 yy72 yy73 yy74 yy75 yy76 yy77 yy78 yy79 yy80 yy81 yy82 yy83 yy84 yy85 yy86 yy87 yy88 yy89 yy90 yy91 yy92 yy93 yy94 yy95 yy96 yy97 yy98 yy99 yy100 yy101 yy102 yy103 yy104 yy105 yy106 yy107 yy108 yy109 yy110 yy111 yy112 yy113 yy114 yy115 yy116 yy117 yy118 yy119 yy120 yy121 yy122 yy123 yy124 yy125 yy126 yy127 yy128 yy129 yy130 yy131 yy132 yy133 yy134 yy135 yy136 yy137 yy138 yy139 yy140 yy141 yy142 yy143 yy144 yy145 yy146 yy147 yy148 yy149 yy150 yy151 yy152 yy153 yy154 yy155 yy156 yy157 yy158 yy159 yy160 yy161 yy162 yy163 yy164 yy165 yy166 yy167 yy168 yy169 yy170 yy171 yy172 yy173 yy174 yy175 yy176 yy177 yy178 yy179 yy180 yy181 yy182 yy183 yy184 yy185 yy186 yy187 yy188 yy189 yy190 yy191 yy192 yy193 yy194 yy195 yy196 yy197 yy198 yy199 yy200 yy201 yy202 yy203 yy204 yy205 yy206 yy207
      revert w yy1 yy2 yy3 yy4 yy5 yy6 yy7 yy8 yy9 yy10 yy11 yy12 yy13 yy14 yy15 yy16 yy17 yy18 yy19 yy20 yy21 yy22 yy23 yy24 yy25 yy26 yy27 yy28 yy29 yy30 yy31 yy32 yy33 yy34 yy35 yy36 yy37 yy38 yy39 yy40 yy41 yy42 yy43 yy44 yy45 yy46 yy47 yy48 yy49 yy50 yy51 yy52 yy53 yy54 yy55 yy56 yy57 yy58 yy59 yy60 yy61 yy62 yy63 yy64 yy65 yy66 yy67 yy68 yy69 yy70 yy71 yy72 yy73 yy74 yy75 yy76 yy77 yy78 yy79 yy80 yy81 yy82 yy83 yy84 yy85 yy86 yy87 X0 yy88 yy89 yy90 yy91 yy92 yy93 yy94 yy95 yy96 yy97 yy98 yy99 yy100 yy101 yy102 yy103 yy104 yy105 yy106 yy107 yy108 yy109 yy110 yy111 yy112 yy113 yy114 yy115 yy116 yy117 yy118 yy119 yy120 yy121 yy122 yy123 yy124 yy125 yy126 yy127 yy128 yy129 yy130 yy131 dS kS rS yy132 tS yy133 yy134 yy135 yy136 yy137 yy138 yy139 hD yy140 hnl yy141 yy142 yy143 yy144 yy145 yy146 yy147 yy148 hI yy149 yy150 yy151 dE h' I nap neL hIn neS stI hws hDis dV lV SV sV oWV hWc hDisV sSV sLV stV i ents k mx u1 u2 rs oL xsL H gone X tc ta tg ts ob u h yy152 hi hP FO NO dL kL FF NN FNO nn tn hv hi10 yy153 yy154 yy155 yy156 yy157 yy158 yy159 yy160 yy161 yy162 yy163 yy164 yy165 yy166 yy167 yy168 yy169 yy170 yy171 yy172 yy173 yy174 yy175 yy176 yy177 yy178 yy179 yy180 yy181 yy182 yy183 yy184 yy185 yy186 yy187 yy188 yy189 yy190 lifted qk ek yy191 yy192 yy193 yy194 yy195 yy196 yy197 yy198 yy199 yy200 yy201 yy202 yy203 yy204 yy205 yy206 yy207 tk
      exact goalP.get
    case donec2 =>
      rintro dV lV SV sV oWV hWc hDisV sSV sLV ⟨ents2, k2, mx2, v12, v22, rs2, oL2, xsL2, H2, gone2, X2, tc2, ta2, tg2, ts2⟩ h2 tk2 u2x hP FO2 NO2
      have FF := FO2
      have NN := NO2
      dsimp only [kstB] at FF
      have hlenE2 : ents2.length ≤ 900 := by
        have z1 := hP.inv.le
        have z2 := hP.hH
        dsimp only at z1 z2
        omega
      rename_i yy1 yy2 yy3 yy4 yy5 yy6 yy7 yy8 yy9 yy10 yy11 yy12 yy13 yy14 yy15 yy16 yy17 yy18 yy19 yy20 yy21 yy22 yy23 yy24 yy25 yy26 yy27 yy28 yy29 yy30 yy31 yy32 yy33 yy34 yy35 yy36 yy37 yy38 yy39 yy40 yy41 yy42 yy43 yy44 yy45 yy46 yy47 yy48 yy49 yy50 yy51 yy52 yy53 yy54 yy55 yy56 yy57 yy58 yy59 yy60 yy61 yy62 yy63 yy64 yy65 yy66 yy67 yy68 yy69 yy70 yy71 yy72 yy73 yy74 yy75 yy76 yy77 yy78 yy79 yy80 yy81 yy82 yy83 yy84 yy85 yy86 yy87 yy88 yy89 yy90 yy91 yy92 yy93 yy94 yy95 yy96 yy97 yy98 yy99 yy100 yy101 yy102 yy103 yy104 yy105 yy106 yy107 yy108 yy109 yy110 yy111 yy112 yy113 yy114 yy115 yy116 yy117 yy118 yy119 yy120 yy121 yy122 yy123 yy124 yy125 yy126 yy127 yy128 yy129 yy130 yy131 yy132 yy133 yy134 yy135 yy136 yy137 yy138 yy139 yy140 yy141 yy142 yy143 yy144 yy145 yy146 yy147 yy148 yy149 yy150 yy151
      revert w yy1 yy2 yy3 yy4 yy5 yy6 yy7 yy8 yy9 yy10 yy11 yy12 yy13 yy14 yy15 yy16 yy17 yy18 yy19 yy20 yy21 yy22 yy23 yy24 yy25 yy26 yy27 yy28 yy29 yy30 yy31 yy32 yy33 yy34 yy35 yy36 yy37 yy38 yy39 yy40 yy41 yy42 yy43 yy44 yy45 yy46 yy47 yy48 yy49 yy50 yy51 yy52 yy53 yy54 yy55 yy56 yy57 yy58 yy59 yy60 yy61 yy62 yy63 yy64 yy65 yy66 yy67 yy68 yy69 yy70 yy71 yy72 yy73 yy74 yy75 yy76 yy77 yy78 yy79 yy80 yy81 yy82 yy83 yy84 yy85 yy86 yy87 X0 yy88 yy89 yy90 yy91 yy92 yy93 yy94 yy95 yy96 yy97 yy98 yy99 yy100 yy101 yy102 yy103 yy104 yy105 yy106 yy107 yy108 yy109 yy110 yy111 yy112 yy113 yy114 yy115 yy116 yy117 yy118 yy119 yy120 yy121 yy122 yy123 yy124 yy125 yy126 yy127 yy128 yy129 yy130 yy131 dS kS rS yy132 tS yy133 yy134 yy135 yy136 yy137 yy138 yy139 hD yy140 hnl yy141 yy142 yy143 yy144 yy145 yy146 yy147 yy148 fE nE hI yy149 yy150 yy151 dE h' I nap neL hIn neS stI F' N' hws hDis dV lV SV sV oWV hWc hDisV sSV sLV ents2 k2 mx2 v12 v22 rs2 oL2 xsL2 H2 gone2 X2 tc2 ta2 tg2 ts2 h2 tk2 u2x hP FO2 NO2 FF NN hlenE2
      exact goalQ.get
noncomputable def SD : PSigma (fun P : Prop => PSigma (fun Q : Prop => Seal P → Seal Q → SC.1)) := by
  refine' ⟨_, _, fun goalP goalQ => ?mainSD⟩
  case mainSD =>
    w_on
    w_top off
    intro
    intros
    rename Both _ _ => FNO
    rename mP _ _ _ _ => hP
    k_steps
    rename Fr _ _ _ _ => fE
    refine Hold.intro ?_
    refine' cut_pair FNO.l FNO.r fE ?hkc3 ?h1c3 ?h2c3
    case hkc3 =>
      repeat (refine List.forall_mem_cons.mpr ⟨by with_unfolding_all rfl, ?_⟩)
      exact List.forall_mem_nil _
    case h1c3 =>
      k_steps
      all_goals
        rename News _ _ _ _ => nE
        rename Fr _ _ _ _ => fE
        refine mid_pair fE nE (by intro p hp; repeat (first | exact hp | refine List.Mem.tail _ ?_)) (by assumption) (by assumption) ?_
        repeat (refine List.forall_mem_cons.mpr ⟨by with_unfolding_all rfl, ?_⟩)
        exact List.forall_mem_nil _
    case h2c3 =>
      intro aP nm vl t1 t2 h tk u hn1 hv1 FF NN
      dsimp only [kstB] at FF
      k_steps
      rename Fr _ _ _ _ => fE
      rename News _ _ _ _ => nE
      refine Hold.intro ?_
      refine' cut_deed hP nE fE ?hk2c3 ?h12c3 ?h22c3
      case hk2c3 =>
        repeat (refine List.forall_mem_cons.mpr ⟨by with_unfolding_all rfl, ?_⟩)
        exact List.forall_mem_nil _
      case h12c3 =>
        rename_i yy1 yy2 yy3 yy4 yy5 yy6 yy7 yy8 yy9 yy10 yy11 yy12 yy13 yy14 yy15 yy16 yy17 yy18 yy19 yy20 yy21 yy22 yy23 yy24 yy25 yy26 yy27 yy28 yy29 yy30 yy31 yy32 yy33 yy34 yy35 yy36 yy37 yy38 yy39 yy40 yy41 yy42 yy43 yy44 yy45 yy46 yy47 yy48 yy49 yy50 w yy52 yy53 yy54 yy55 yy56 yy57 yy58 yy59 yy60 yy61 yy62 yy63 yy64 yy65 yy66 yy67 yy68 yy69 yy70 yy71 yy72 yy73 yy74 yy75 yy76 yy77 yy78 yy79 yy80 yy81 yy82 yy83 yy84 yy85 yy86 yy87 yy88 X0 yy90 yy91 yy92 yy93 yy94 yy95 yy96 yy97 yy98 yy99 yy100 yy101 yy102 yy103 yy104 yy105 yy106 yy107 yy108 yy109 yy110 yy111 yy112 yy113 yy114 yy115 yy116 yy117 yy118 yy119 yy120 yy121 yy122 yy123 yy124 yy125 yy126 yy127 yy128 yy129 yy130 yy131 yy132 yy133 dS kS rS yy137 yy138 yy139 yy140 yy141 yy142 yy143 yy144 yy145 yy146 yy147 yy148 yy149 yy150 yy151 yy152 yy153 yy154 yy155 yy156 hI yy158 yy159 yy160 yy161 yy162 yy163 yy164 yy165 yy166 yy167 yy168 hws yy170 yy171 yy172 yy173 yy174 yy175 hWc hDisV yy178 yy179 yy180 yy181 ents yy183 yy184 yy185 yy186 yy187 yy188 yy189 yy190 yy191 yy192 yy193 yy194 yy195 yy196 yy197 yy198 yy199 yy200 yy201 yy202 yy203 yy204 yy205 yy206 yy207 yy208 yy209 yy210 hi10 yy212 yy213 yy214 yy215 yy216 yy217 yy218 yy219 yy220 yy221 yy222 yy223 yy224 yy225 yy226 yy227 yy228 yy229 yy230 yy231 yy232 yy233 yy234 yy235 yy236 yy237 yy238 yy239 yy240 yy241 yy242 yy243 yy244 yy245 yy246 yy247 yy248 yy249 yy250 yy251 yy252 yy253 yy254 yy255 yy256 yy257 yy258 yy259 yy260 yy261 yy262 yy263 yy264 yy265 yy266 yy267 yy268 yy269 yy270
        revert yy1 yy2 yy3 yy4 yy5 yy6 yy7 yy8 yy9 yy10 yy11 yy12 yy13 yy14 yy15 yy16 yy17 yy18 yy19 yy20 yy21 yy22 yy23 yy24 yy25 yy26 yy27 yy28 yy29 yy30 yy31 yy32 yy33 yy34 yy35 yy36 yy37 yy38 yy39 yy40 yy41 yy42 yy43 yy44 yy45 yy46 yy47 yy48 yy49 yy50 w yy52 yy53 yy54 yy55 yy56 yy57 yy58 yy59 yy60 yy61 yy62 yy63 yy64 yy65 yy66 yy67 yy68 yy69 yy70 yy71 yy72 yy73 yy74 yy75 yy76 yy77 yy78 yy79 yy80 yy81 yy82 yy83 yy84 yy85 yy86 yy87 yy88 X0 yy90 yy91 yy92 yy93 yy94 yy95 yy96 yy97 yy98 yy99 yy100 yy101 yy102 yy103 yy104 yy105 yy106 yy107 yy108 yy109 yy110 yy111 yy112 yy113 yy114 yy115 yy116 yy117 yy118 yy119 yy120 yy121 yy122 yy123 yy124 yy125 yy126 yy127 yy128 yy129 yy130 yy131 yy132 yy133 dS kS rS yy137 yy138 yy139 yy140 yy141 yy142 yy143 yy144 yy145 yy146 yy147 yy148 yy149 yy150 yy151 yy152 yy153 yy154 yy155 yy156 hI yy158 yy159 yy160 yy161 yy162 yy163 yy164 yy165 yy166 yy167 yy168 hws yy170 yy171 yy172 yy173 yy174 yy175 hWc hDisV yy178 yy179 yy180 yy181 ents yy183 yy184 yy185 yy186 yy187 yy188 yy189 yy190 yy191 yy192 yy193 yy194 yy195 yy196 yy197 yy198 yy199 yy200 yy201 hP yy202 yy203 yy204 yy205 yy206 yy207 FNO yy208 yy209 yy210 hi10 yy212 yy213 yy214 yy215 yy216 yy217 yy218 yy219 yy220 yy221 yy222 yy223 yy224 yy225 yy226 yy227 yy228 yy229 yy230 yy231 yy232 yy233 yy234 yy235 yy236 yy237 yy238 yy239 yy240 yy241 yy242 yy243 yy244 yy245 yy246 yy247 yy248 yy249 yy250 yy251 yy252 yy253 yy254 yy255 yy256 yy257 yy258 yy259 yy260 yy261 yy262 yy263 yy264 yy265 yy266 yy267 yy268 yy269 yy270 aP nm vl t1 t2 h tk u hn1 hv1 fE nE
        exact goalP.get
      case h22c3 =>
        rintro ⟨ents2, k2, mx2, v12, v22, rs2, oL2, xsL2, H2, gone2, X2, tc2, ta2, tg2, ts2⟩ h2 tk2 u2x hQ FO2 NO2
        have FF := FO2
        have NN := NO2
        dsimp only [kstB] at FF
        rename_i yy1 yy2 yy3 yy4 yy5 yy6 yy7 yy8 yy9 yy10 yy11 yy12 yy13 yy14 yy15 yy16 yy17 yy18 yy19 yy20 yy21 yy22 yy23 yy24 yy25 yy26 yy27 yy28 yy29 yy30 yy31 yy32 yy33 yy34 yy35 yy36 yy37 yy38 yy39 yy40 yy41 yy42 yy43 yy44 yy45 yy46 yy47 yy48 yy49 yy50 w yy52 yy53 yy54 yy55 yy56 yy57 yy58 yy59 yy60 yy61 yy62 yy63 yy64 yy65 yy66 yy67 yy68 yy69 yy70 yy71 yy72 yy73 yy74 yy75 yy76 yy77 yy78 yy79 yy80 yy81 yy82 yy83 yy84 yy85 yy86 yy87 yy88 X0 yy90 yy91 yy92 yy93 yy94 yy95 yy96 yy97 yy98 yy99 yy100 yy101 yy102 yy103 yy104 yy105 yy106 yy107 yy108 yy109 yy110 yy111 yy112 yy113 yy114 yy115 yy116 yy117 yy118 yy119 yy120 yy121 yy122 yy123 yy124 yy125 yy126 yy127 yy128 yy129 yy130 yy131 yy132 yy133 dS kS rS yy137 yy138 yy139 yy140 yy141 yy142 yy143 yy144 yy145 yy146 yy147 yy148 yy149 yy150 yy151 yy152 yy153 yy154 yy155 yy156 hI yy158 yy159 yy160 yy161 yy162 yy163 yy164 yy165 yy166 yy167 yy168 hws yy170 yy171 yy172 yy173 yy174 yy175 hWc hDisV yy178 yy179 yy180 yy181 ents yy183 yy184 yy185 yy186 yy187 yy188 yy189 yy190 yy191 yy192 yy193 yy194 yy195 yy196 yy197 yy198 yy199 yy200 yy201 yy202 yy203 yy204 yy205 yy206 yy207 yy208 yy209 yy210 hi10 yy212 yy213 yy214 yy215 yy216 yy217 yy218 yy219 yy220 yy221 yy222 yy223 yy224 yy225 yy226 yy227 yy228 yy229 yy230 yy231 yy232 yy233 yy234 yy235 yy236 yy237 yy238 yy239 yy240 yy241 yy242 yy243 yy244 yy245 yy246 yy247 yy248 yy249 yy250 yy251 yy252 yy253 yy254 yy255 yy256 yy257 yy258 yy259 yy260 yy261 yy262 yy263 yy264 yy265 yy266 yy267 yy268 yy269 yy270
        revert yy1 yy2 yy3 yy4 yy5 yy6 yy7 yy8 yy9 yy10 yy11 yy12 yy13 yy14 yy15 yy16 yy17 yy18 yy19 yy20 yy21 yy22 yy23 yy24 yy25 yy26 yy27 yy28 yy29 yy30 yy31 yy32 yy33 yy34 yy35 yy36 yy37 yy38 yy39 yy40 yy41 yy42 yy43 yy44 yy45 yy46 yy47 yy48 yy49 yy50 w yy52 yy53 yy54 yy55 yy56 yy57 yy58 yy59 yy60 yy61 yy62 yy63 yy64 yy65 yy66 yy67 yy68 yy69 yy70 yy71 yy72 yy73 yy74 yy75 yy76 yy77 yy78 yy79 yy80 yy81 yy82 yy83 yy84 yy85 yy86 yy87 yy88 X0 yy90 yy91 yy92 yy93 yy94 yy95 yy96 yy97 yy98 yy99 yy100 yy101 yy102 yy103 yy104 yy105 yy106 yy107 yy108 yy109 yy110 yy111 yy112 yy113 yy114 yy115 yy116 yy117 yy118 yy119 yy120 yy121 yy122 yy123 yy124 yy125 yy126 yy127 yy128 yy129 yy130 yy131 yy132 yy133 dS kS rS yy137 yy138 yy139 yy140 yy141 yy142 yy143 yy144 yy145 yy146 yy147 yy148 yy149 yy150 yy151 yy152 yy153 yy154 yy155 yy156 hI yy158 yy159 yy160 yy161 yy162 yy163 yy164 yy165 yy166 yy167 yy168 hws yy170 yy171 yy172 yy173 yy174 yy175 hWc hDisV yy178 yy179 yy180 yy181 ents yy183 yy184 yy185 yy186 yy187 yy188 yy189 yy190 yy191 yy192 yy193 yy194 yy195 yy196 yy197 yy198 yy199 yy200 yy201 hP yy202 yy203 yy204 yy205 yy206 yy207 FNO yy208 yy209 yy210 hi10 yy212 yy213 yy214 yy215 yy216 yy217 yy218 yy219 yy220 yy221 yy222 yy223 yy224 yy225 yy226 yy227 yy228 yy229 yy230 yy231 yy232 yy233 yy234 yy235 yy236 yy237 yy238 yy239 yy240 yy241 yy242 yy243 yy244 yy245 yy246 yy247 yy248 yy249 yy250 yy251 yy252 yy253 yy254 yy255 yy256 yy257 yy258 yy259 yy260 yy261 yy262 yy263 yy264 yy265 yy266 yy267 yy268 yy269 yy270 aP nm vl t1 t2 h tk u hn1 hv1 fE nE ents2 k2 mx2 v12 v22 rs2 oL2 xsL2 H2 gone2 X2 tc2 ta2 tg2 ts2 h2 tk2 u2x hQ FO2 NO2 FF NN
        exact goalQ.get
theorem rest4 : SD.1 := by
  w_on
  w_top off
  unhygienic (intro; intros)
  have hlenE : ents.length ≤ 900 := by
    have z1 := hP.inv.le
    have z2 := hP.hH
    dsimp only at z1 z2
    omega
  have hlenL := hP.len
  dsimp only at hlenL
  k_steps
  · rename News _ _ _ _ => nE
    rename Fr _ _ _ _ => fE
    refine Hold.intro ?_
    refine' set_K2 (by assumption) fE (by assumption) (by assumption) (deed_news nE) hDisV.n1 hDisV.n2 hDisV.n3 (rest_ne1 hDisV nE hP.tup hWc rfl) (rest_ne2 hDisV nE hP.tup hWc rfl hP.dL.1.1 dS.1.1) ?hinc4 rfl hP.mx0 hP.mx1 hlenE hP.le (fmod_pos _ (by decide)).1 (Int.le_trans (Int.le_of_lt (fmod_pos _ (by decide)).2) (by decide)) rfl rfl ?_
    case hinc4 => exact AllIn.mono hP.hin (by intro p hp; repeat (first | exact hp | refine List.Mem.tail _ ?_))
    intro n k' u1' u2' rs' h' tk hS F1 N1
    try dsimp only
    try k_fold
    k_steps
    rename News _ _ _ _ => nE
    rename Fr _ _ _ _ => fE
    refine' mid_set hP (fmod_pos _ (by decide)).1 (Int.le_trans (Int.le_of_lt (fmod_pos _ (by decide)).2) (by decide)) hS fE nE ?hkc4
    case hkc4 =>
      repeat (refine List.forall_mem_cons.mpr ⟨by with_unfolding_all rfl, ?_⟩)
      exact List.forall_mem_nil _
  · rename News _ _ _ _ => nE
    rename Fr _ _ _ _ => fE
    refine' add_K (by assumption) fE (by assumption) (by assumption) (deed_news nE) hDisV.n1 hDisV.n2 hDisV.n3 (rest_ne1 hDisV nE hP.tup hWc rfl) (rest_ne2 hDisV nE hP.tup hWc rfl hP.dL.1.1 dS.1.1) ?hin2c4 rfl hP.mx0 hlenE (by omega) (by omega) rfl rfl ?_
    case hin2c4 => exact AllIn.mono hP.hin (by intro p hp; repeat (first | exact hp | refine List.Mem.tail _ ?_))
    intro E' new k' u2' h' tk hE hS hin' hnew F1 N1
    obtain ⟨X', hX', hXin, hXsub, hXa, N2⟩ := add_news N1 hin' hP.tup
    clear N1
    obtain ⟨hAllL, c1, c2, c3, c4, c5⟩ := last_ne hDisV N2 hX' hWc rfl hP.dL.1.1
    have kL' := hP.kL.mono hXsub
    try dsimp only
    try k_fold
    k_steps
    rename News _ _ _ _ => nE
    rename Fr _ _ _ _ => fE
    rename DO _ _ (storedH _ _ _ _) => dE2
    refine' mid_add hP hE hS hXin hX' hXsub fE nE dE2 hXa ?e1c4 ?e2c4 ?hk2c4
    case hk2c4 =>
      repeat (refine List.forall_mem_cons.mpr ⟨by with_unfolding_all rfl, ?_⟩)
      exact List.forall_mem_nil _
    case e1c4 => rfl
    case e2c4 => rfl
theorem rest5 : SD.2.1 := by
  w_on
  w_top off
  unhygienic (intro; intros)
  have hlenE2 : ents2.length ≤ 900 := by
    have z1 := hQ.inv.le
    have z2 := hQ.hH
    dsimp only at z1 z2
    omega
  k_steps
  rename News _ _ _ _ => nE
  rename Fr _ _ _ _ => fE
  refine Hold.intro ?_
  refine iter_list_K (News.isList nE (.head _)) fE nE ?_
  intro hp2 I2 nap2 neL2 hIn2 neS2 stI2 F2 N2
  refine' inner_loop (mPs _ _ _ ⟨ents2, k2, mx2, v12, v22, rs2, oL2, xsL2, H2, (if sumKV H2 - mx2 > gone2 then sumKV H2 - mx2 else gone2), X2, tc2, ta2, _, ts2⟩) (by rfl) F2 N2 nap2 neS2 neL2 hIn2 stI2 go_name ?hk3c5 ?hitc5 ?turn3c5 ?done3c5
  case hk3c5 =>
    repeat (refine List.forall_mem_cons.mpr ⟨by with_unfolding_all rfl, ?_⟩)
    exact List.forall_mem_nil _
  case hitc5 =>
    refine List.forall_mem_cons.mpr ⟨⟨_, nm, vl, _, _, rfl, hn1, hv1, .inl (.tail _ (.head _))⟩, List.forall_mem_cons.mpr ⟨⟨_, nm, _, _, _, rfl, hn1, ?_, .inl (.head _)⟩, List.forall_mem_cons.mpr ⟨⟨_, _, _, _, _, rfl, ?_, ?_, .inr (by assumption)⟩, List.forall_mem_nil _⟩⟩⟩
    · decide
    · assumption
    · assumption
  case turn3c5 =>
    intro i3 a3 nm3 vl3 q1 q2 ob3 u3 h3 tk3 hn3 hv3 hm3 FF3 NN3
    dsimp only [kstB] at FF3
    k_steps
    rename News _ _ _ _ => nE
    rename Fr _ _ _ _ => fE
    refine' search_K (by assumption) fE (by assumption) (by assumption) nE ?m1c5 ?m2c5 ?m3c5 ?hinc5 hlenE2 (by omega) (by omega) rfl rfl ?_
    case m1c5 => repeat (first | exact .head _ | refine .tail _ ?_)
    case m2c5 => repeat (first | exact .head _ | refine .tail _ ?_)
    case m3c5 => repeat (first | exact .head _ | refine .tail _ ?_)
    case hinc5 => exact AllIn.mono hQ.hin (by intro p hp; repeat (first | exact hp | refine List.Mem.tail _ ?_))
    intro hs1 tks1 x1 new1 hR1 F5 N5
    try dsimp only
    try k_fold
    k_steps
    rename News _ _ _ _ => nE
    rename Fr _ _ _ _ => fE
    refine' found_K (sf := statF statT) (by assumption) fE (by assumption) (by assumption) nE ?mSc5 ?mLc5 ⟨q1, q2, ?hpc5⟩ dS hQ.dL ?kSc5 ?kLc5 rS ?rLc5 (by assumption) (by assumption) rfl rfl ?_
    case mSc5 => refine List.mem_append_right _ ?_; repeat (first | exact .head _ | refine .tail _ ?_)
    case mLc5 => refine List.mem_append_right _ ?_; repeat (first | exact .head _ | refine .tail _ ?_)
    case hpc5 => refine Or.imp_left (fun h => List.mem_append_right _ ?_) hm3; repeat (first | exact h | refine List.Mem.tail _ ?_)
    case kSc5 => exact KeysIn.mono kS (by intro p hp; have z := hQ.sub p hp; refine List.mem_append_right _ ?_; repeat (first | exact z | refine List.Mem.tail _ ?_))
    case kLc5 => exact KeysIn.mono hQ.kL (by intro p hp; refine List.mem_append_right _ ?_; repeat (first | exact hp | refine List.Mem.tail _ ?_))
    case rLc5 => exact LRel.mono hQ.rL (by intro p hp; refine List.mem_append_right _ ?_; repeat (first | exact hp | refine List.Mem.tail _ ?_))
    intro hs2 tks2 x2 new2 hR2 F6 N6
    try dsimp only
    try k_fold
    k_steps
    refine ne_reps (by with_unfolding_all exact Nat.le_of_ble_eq_true rfl) N6 hR1 hR2 (law_eq2 (mP_of_mQ (tg' := 0) hQ rfl) nm3 vl3) (fun p hp => List.mem_append_right _ (List.mem_append_left _ hp)) (fun p hp => List.mem_append_left _ hp) ?_
    k_steps
    rename News _ _ _ _ => nE
    rename Fr _ _ _ _ => fE
    refine inner_end fE nE (fun p hp => List.mem_append_right _ (List.mem_append_right _ hp)) ?_
    repeat (refine List.forall_mem_cons.mpr ⟨by with_unfolding_all rfl, ?_⟩)
    exact List.forall_mem_nil _
  case done3c5 =>
    intro u3 h3 tk3 FF3 NN3
    dsimp only [kstB] at FF3
    k_steps
    rename News _ _ _ _ => nE
    rename Fr _ _ _ _ => fE
    refine' ⟨⟨ents2, k2, mx2, v12, v22, rs2, oL2, xsL2, H2, (if sumKV H2 - mx2 > gone2 then sumKV H2 - mx2 else gone2), X2, tc2, ta2, _, ts2⟩, _, _, _, rfl, fE, News.perm nE ?sub3c5, ?hke3c5, mP_of_mQ hQ rfl⟩
    case sub3c5 => intro p hp; repeat (first | exact hp | refine List.Mem.tail _ ?_)
    case hke3c5 =>
      repeat (refine List.forall_mem_cons.mpr ⟨by with_unfolding_all rfl, ?_⟩)
      exact List.forall_mem_nil _
theorem rest6 : SC.2.1 := by
  w_on
  w_top off
  unhygienic (intro; intros)
  k_steps
  rename News _ _ _ _ => nE
  rename Fr _ _ _ _ => fE
  refine Hold.intro ?_
  refine iter_list_K (News.isList nE (.head _)) fE nE ?_
  intro hpA IA napA neLA hInA neSA stIA FA NA
  refine' bytes_loop [(Str.ofString "standing", _), (Str.ofString "last", _), (Str.ofString "gone", _), (Str.ofString "count", _)] (by rfl) FA NA napA neSA neLA hInA stIA go_name ?hkAc6 ?hitAc6 ?turnAc6 ?doneAc6
  case hkAc6 =>
    repeat (refine List.forall_mem_cons.mpr ⟨by with_unfolding_all rfl, ?_⟩)
    exact List.forall_mem_nil _
  case hitAc6 => (repeat (refine List.forall_mem_cons.mpr ⟨⟨_, _, rfl, by decide⟩, ?_⟩)); exact List.forall_mem_nil _
  case turnAc6 =>
    intro iA nm tA obA uA hA tkA hnA FFA NNA
    dsimp only [kstB] at FFA
    k_steps
    rename News _ _ _ _ => nE
    rename Fr _ _ _ _ => fE
    refine Hold.intro ?_
    refine iter_list_K (News.isList nE (.head _)) fE nE ?_
    intro hpB IB napB neLB hInB neSB stIB FB NB
    refine' bytes_loop [(Str.ofString "standing", _), (Str.ofString "last", _), (Str.ofString "gone", _), (Str.ofString "count", _), (Str.ofString "name", _)] (by rfl) FB NB napB neSB neLB hInB stIB go_name ?hkBc6 ?hitBc6 ?turnBc6 ?doneBc6
    case hkBc6 =>
      repeat (refine List.forall_mem_cons.mpr ⟨by with_unfolding_all rfl, ?_⟩)
      exact List.forall_mem_nil _
    case hitBc6 => (repeat (refine List.forall_mem_cons.mpr ⟨⟨_, _, rfl, by decide⟩, ?_⟩)); exact List.forall_mem_nil _
    case turnBc6 =>
      intro iB vl tB obB uB hB tkB hnB FFB NNB
      dsimp only [kstB] at FFB
      k_steps
      rename News _ _ _ _ => nE
      rename Fr _ _ _ _ => fE
      refine' search_K (by assumption) fE (by assumption) (by assumption) nE ?m1Bc6 ?m2Bc6 ?m3Bc6 ?hinBc6 hlenE2 (by omega) (by omega) rfl rfl ?_
      case m1Bc6 => repeat (first | exact .head _ | refine .tail _ ?_)
      case m2Bc6 => repeat (first | exact .head _ | refine .tail _ ?_)
      case m3Bc6 => repeat (first | exact .head _ | refine .tail _ ?_)
      case hinBc6 => exact AllIn.mono hP.hin (by intro p hp; repeat (first | exact hp | refine List.Mem.tail _ ?_))
      intro hs1 tks1 x1 new1 hR1 F5 N5
      try dsimp only
      try k_fold
      k_steps
      rename News _ _ _ _ => nE
      rename Fr _ _ _ _ => fE
      refine' found_K (sf := statF statT) (by assumption) fE (by assumption) (by assumption) nE ?mS6c6 ?mL6c6 ⟨_, _, .inl (.head _)⟩ dS hP.dL ?kS6c6 ?kL6c6 rS ?rL6c6 (by assumption) (by assumption) rfl rfl ?_
      case mS6c6 => refine .tail _ (List.mem_append_right _ ?_); repeat (first | exact .head _ | refine .tail _ ?_)
      case mL6c6 => refine .tail _ (List.mem_append_right _ ?_); repeat (first | exact .head _ | refine .tail _ ?_)
      case kS6c6 => exact KeysIn.mono kS (by intro p hp; have z := hP.sub p hp; refine .tail _ (List.mem_append_right _ ?_); repeat (first | exact z | refine List.Mem.tail _ ?_))
      case kL6c6 => exact KeysIn.mono hP.kL (by intro p hp; refine .tail _ (List.mem_append_right _ ?_); repeat (first | exact hp | refine List.Mem.tail _ ?_))
      case rL6c6 => exact LRel.mono hP.rL (by intro p hp; refine .tail _ (List.mem_append_right _ ?_); repeat (first | exact hp | refine List.Mem.tail _ ?_))
      intro hs2 tks2 x2 new2 hR2 F6 N6
      try dsimp only
      try k_fold
      k_steps
      refine ne_reps (by with_unfolding_all exact Nat.le_of_ble_eq_true rfl) N6 hR1 hR2 (law_eq2 hP nm vl) (fun p hp => List.mem_append_right _ (.tail _ (List.mem_append_left _ hp))) (fun p hp => List.mem_append_left _ hp) ?_
      have N7 := News.perm N6 (fun p hp => List.mem_append_right _ (.tail _ hp))
      clear N6
      k_steps
      rcases hr : searchS nm vl (ents2.map Ent.kv) with _ | ⟨j, fl⟩
      all_goals rw [hr] at hR1
      · obtain ⟨rfl, rfl⟩ := RRep_none hR1
        rw [List.nil_append] at N7
        k_steps
        rename News _ _ _ _ => nE
        rename Fr _ _ _ _ => fE
        refine inner_end fE nE (by intro p hp; repeat (first | exact hp | refine List.Mem.tail _ ?_)) ?_
        repeat (refine List.forall_mem_cons.mpr ⟨by with_unfolding_all rfl, ?_⟩)
        exact List.forall_mem_nil _
      · obtain ⟨aT1, tj, tn1, y1, rfl, rfl, hy⟩ := RRep_some hR1
        simp only [List.cons_append, List.nil_append] at N7
        k_steps
        rename News _ _ _ _ => nE
        rename Fr _ _ _ _ => fE
        refine' get_K (by assumption) fE (by assumption) (by assumption) nE ?n16c6 ?n26c6 ?n36c6 hlenE2 (told_rng w.params hr).1 (told_rng w.params hr).2 rfl rfl ?_
        case n16c6 => repeat (first | exact .head _ | refine .tail _ ?_)
        case n26c6 => repeat (first | exact .head _ | refine .tail _ ?_)
        case n36c6 => repeat (first | exact .head _ | refine .tail _ ?_)
        intro hs3 tks3 x3 hx3 F8 N8
        obtain ⟨ar, vl', q1, q2, rfl, hrow, hfl⟩ := row_ok w.params hP.hin hr hx3
        try dsimp only
        try k_fold
        k_steps
        rcases hy with ⟨rfl, rfl⟩ | ⟨tv1, rfl, rfl⟩
        · clear hfl
          k_steps
          rename News _ _ _ _ => nE
          rename Fr _ _ _ _ => fE
          refine inner_end fE nE (by intro p hp; repeat (first | exact hp | refine List.Mem.tail _ ?_)) ?_
          repeat (refine List.forall_mem_cons.mpr ⟨by with_unfolding_all rfl, ?_⟩)
          exact List.forall_mem_nil _
        · obtain rfl := hfl rfl
          k_steps
          rename News _ _ _ _ => nE
          rename Fr _ _ _ _ => fE
          refine inner_end fE nE (by intro p hp; repeat (first | exact hp | refine List.Mem.tail _ ?_)) ?_
          repeat (refine List.forall_mem_cons.mpr ⟨by with_unfolding_all rfl, ?_⟩)
          exact List.forall_mem_nil _
    case doneBc6 =>
      intro uB2 hB2 tkB2 FFB2 NNB2
      dsimp only [kstB] at FFB2
      k_steps
      rename News _ _ _ _ => nE
      rename Fr _ _ _ _ => fE
      refine inner_end fE nE (by intro p hp; repeat (first | exact hp | refine List.Mem.tail _ ?_)) ?_
      repeat (refine List.forall_mem_cons.mpr ⟨by with_unfolding_all rfl, ?_⟩)
      exact List.forall_mem_nil _
  case doneAc6 =>
    intro uA2 hA2 tkA2 FFA2 NNA2
    dsimp only [kstB] at FFA2
    k_steps
theorem law_holds : PySem.Challenge.rw_im0126_01.Holds := SA.2 ⟨SB.2 ⟨SC.2.2 ⟨SD.2.2 ⟨rest4⟩ ⟨rest5⟩⟩ ⟨rest6⟩⟩⟩
end Mine
end Walkpart
theorem PySem.Challenge.cw_im0126_01_holds : PySem.Challenge.rw_im0126_01.Holds := by
  exact Mine.law_holds
