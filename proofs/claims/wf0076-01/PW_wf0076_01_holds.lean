import PyProof.Rows.All
import Wide.All
import OpenK.AllK
import Wide.FinOn
import KE.KxBytes
import KE.KBytesWalk
import KE.KBytesCut
import KE.KRevSl
import KE.KSortAsk
import KE.KSortTup
import PySem.Challenge.RW_wf0076_01
set_option Elab.async false
set_option linter.unusedVariables false
section
set_option maxRecDepth 100000
set_option Elab.async false
namespace Mine
open PySem PySem.W PySem.Calls PyProof.Rows
/-- the state of the straight runner: the tree of the heap, its size, the tokens, the steps done -/
structure ST where
  tree : BT
  n : Nat
  toks : Nat
  cnt : Nat
noncomputable def bump {β : Type} (t : Nat) (k : Nat → β) : β := @Nat.rec (fun _ => β) (k 1) (fun n _ => k (n + 2)) t
theorem bump_eq {β : Type} (t : Nat) (k : Nat → β) : bump t k = k (t + 1) := by cases t <;> rfl
/-- a dict's entries laid out anew, one by one -/
noncomputable def normL {β : Type} (l : List DictEntry) (k : List DictEntry → β) : β :=
  @List.rec DictEntry (fun _ => (List DictEntry → β) → β) (fun k => k []) (fun e _ ih k => ih fun r' => k (e :: r')) l k
theorem normL_eq {β : Type} : ∀ (l : List DictEntry) (k : List DictEntry → β), normL l k = k l
  | [], _ => rfl
  | e :: r, k => normL_eq r fun r' => k (e :: r')
noncomputable def normN {β : Type} (t : Nat) (k : Nat → β) : β := @Nat.rec (fun _ => β) (k 0) (fun n _ => k (n + 1)) t
theorem normN_eq {β : Type} (t : Nat) (k : Nat → β) : normN t k = k t := by cases t <;> rfl
noncomputable def normO {β : Type} (o : Obj) (k : Obj → β) : β := match o with
  | ⟨c, d, .dict ⟨l⟩ n, sl⟩ => normL l fun l' => normN n fun n' => k ⟨c, d, .dict ⟨l'⟩ n', sl⟩
  | o => k o
theorem normO_eq {β : Type} (o : Obj) (k : Obj → β) : normO o k = k o := by
  unfold normO
  split
  · rw [normL_eq, normN_eq]
  · rfl
theorem set_const (f : Obj → Obj) : ∀ (t : BT) (a : Nat) (o : Obj), t.get a = some o → t.set a f = t.set a fun _ => f o
  | .nil, _, _, h => by cases h
  | .node v l r, a, o, h => by
    rw [BT.get_node] at h
    rw [BT.set_node, BT.set_node]
    by_cases h0 : a = 0
    · rw [if_pos h0] at h; cases h; rw [if_pos h0, if_pos h0]
    · rw [if_neg h0] at h; rw [if_neg h0, if_neg h0]
      by_cases h1 : a % 2 = 1
      · rw [if_pos h1] at h; rw [if_pos h1, if_pos h1, set_const f l _ o h]
      · rw [if_neg h1] at h; rw [if_neg h1, if_neg h1, set_const f r _ o h]
abbrev Out (α : Type) := Option (Except Value α × ST)
noncomputable def evS (C : Code → ST → Out Flow) (S : Setting) (okA : Addr → Bool) {α : Type} (m : Sem α) : ST → Out α :=
  @Sem.rec α (fun _ => ST → Out α)
    (fun a s => some (.ok a, s))
    (fun e s => some (.error e, s))
    (fun _ _ => none)
    (fun _ _ => none)
    (fun _ _ ih s => bump s.cnt fun c => ih () ⟨s.tree, s.n, s.toks, c⟩)
    (fun _ _ ih s => bump s.cnt fun c => ih () ⟨s.tree, s.n, s.toks, c⟩)
    (fun a _ _ ih s => bump s.cnt fun c => match Nat.blt a s.n with
      | true => match s.tree.get a with
        | some o => match alive o with
          | some o' => ih o' ⟨s.tree, s.n, s.toks, c⟩
          | none => none
        | none => none
      | false => none)
    (fun a _ f _ ih s => bump s.cnt fun c => match okA a && Nat.blt a s.n with
      | true => match s.tree.get a with
        | some o => match alive o with
          | some _ => normO (f o) fun o' => ih () ⟨s.tree.set a fun _ => o', s.n, s.toks, c⟩
          | none => none
        | none => none
      | false => none)
    (fun o _ ih s => bump s.cnt fun c => match ((s.tree.ins s.n o).get s.n).isSome with
      | true => bump s.n fun n' => ih s.n ⟨s.tree.ins s.n o, n', s.toks, c⟩
      | false => none)
    (fun a _ ih s => bump s.cnt fun c => match Nat.blt a s.n with
      | true => match s.tree.get a with
        | some o => ih (alive o) ⟨s.tree, s.n, s.toks, c⟩
        | none => none
      | false => ih none ⟨s.tree, s.n, s.toks, c⟩)
    (fun _ _ ih s => bump s.cnt fun c => ih () ⟨s.tree, s.n, s.toks, c⟩)
    (fun _ _ _ _ => none)
    (fun _ ih s => bump s.cnt fun c => bump s.toks fun t => ih s.toks ⟨s.tree, s.n, t, c⟩)
    (fun _ ih s => bump s.cnt fun c => ih S ⟨s.tree, s.n, s.toks, c⟩)
    (fun _ _ _ _ _ => none)
    (fun _ _ _ _ _ => none)
    (fun c _ _ _ _ ih s => bump s.cnt fun ct => match C c ⟨s.tree, s.n, s.toks, ct⟩ with
      | some (.ok f, s') => ih (.ok f) s'
      | some (.error e, s') => ih (.error e) s'
      | none => none)
    (fun _ _ _ _ => none)
    (fun _ _ _ _ => none)
    (fun _ _ _ _ => none)
    (fun _ _ _ _ _ _ => none)
    (fun _ _ _ _ _ _ => none)
    (fun _ _ _ => none)
    (fun _ _ _ _ => none)
    (fun _ ih s => bump s.cnt fun c => ih 0 ⟨s.tree, s.n, s.toks, c⟩)
    (fun _ _ _ _ _ _ _ => none) m
/-- a code that the runner takes up: none of the collector's -/
noncomputable def plainCode : Code → Bool
  | .builtin id _ => !id.startsWith "lifetime."
  | _ => true
noncomputable def evC (den : Code → Sem Fin) (S : Setting) (okA : Addr → Bool) (fuel : Nat) : Code → ST → Out Flow :=
  @Nat.rec (fun _ => Code → ST → Out Flow) (fun _ _ => none)
    (fun _ ih c s => match plainCode c with
      | true => match evS ih S okA (den c) s with
        | some (.ok fin, s') => @PySem.Fin.rec (fun _ => Out Flow) (fun f => bump s'.cnt fun ct => some (Except.ok f, ⟨s'.tree, s'.n, s'.toks, ct⟩)) (fun c' => bump s'.cnt fun ct => ih c' ⟨s'.tree, s'.n, s'.toks, ct⟩) fin
        | some (.error e, s') => bump s'.cnt fun ct => some (.error e, ⟨s'.tree, s'.n, s'.toks, ct⟩)
        | none => none
      | false => none) fuel
section
variable {tb : String → Option Builtin} {p : Program} {w : World} {n₀ : Nat} {ann : Option Value}
/-- from (s, t) the top's run gets to (s', t') in c steps -/
noncomputable def Goes (tb : String → Option Builtin) (p : Program) (w : World) (n₀ : Nat) (ann : Option Value) (c : Nat) (s : Shared) (t : Thread) (s' : Shared) (t' : Thread) : Prop :=
  ∀ N r, topRun tb p w n₀ ann N s' t' = some r → topRun tb p w n₀ ann (c + N) s t = some r
theorem Goes.refl {s : Shared} {t : Thread} : Goes tb p w n₀ ann 0 s t s t := fun N r h => by rw [Nat.zero_add]; exact h
theorem Goes.trans {a b : Nat} {s s' s'' : Shared} {t t' t'' : Thread} (h : Goes tb p w n₀ ann a s t s' t') (k : Goes tb p w n₀ ann b s' t' s'' t'') : Goes tb p w n₀ ann (a + b) s t s'' t'' :=
  fun N r q => by rw [Nat.add_assoc]; exact h _ r (k N r q)
theorem Goes.cast {a b : Nat} {s s' : Shared} {t t' : Thread} (h : Goes tb p w n₀ ann a s t s' t') (e : a = b) : Goes tb p w n₀ ann b s t s' t' := e ▸ h
theorem Goes.one {s s' : Shared} {t t' : Thread} (h1 : through t = false) (h2 : stepOk n₀ ann t = true) (h3 : step (denote tb) p w s t = .go s' t') : Goes tb p w n₀ ann 1 s t s' t' :=
  fun N r q => by
    rw [Nat.add_comm]; unfold topRun; rw [h1, h2, h3]; exact q
variable {life : Life} {gens : Array GenState} {drawn : Drawn} {os : OsState}
noncomputable def full (life : Life) (gens : Array GenState) (drawn : Drawn) (os : OsState) (x : ST) : Shared := ⟨absHeap x.tree x.n life, gens, drawn, x.toks, os⟩
noncomputable def fork {α β : Type} (K : α → β) (H : Value → β) : Except Value α → β
  | .ok a => K a
  | .error e => H e
/-- a code, run from s, hands r on to whatever frame waits -/
noncomputable def CodeGoes (tb : String → Option Builtin) (p : Program) (w : World) (n₀ : Nat) (ann : Option Value) (life : Life) (gens : Array GenState) (drawn : Drawn) (os : OsState) (c : Code) (s : ST) (r : Except Value Flow) (s' : ST) : Prop :=
  ∀ (k : Result → Sem Fin) (h : Option Value) (g : Bool) (l : List Value) (code : Code) (pos q : Pos) (kept : List Value) (stk : List Frame),
    ∃ c', s'.cnt = s.cnt + c' ∧ Goes tb p w n₀ ann c' (full life gens drawn os s) ⟨denote tb c, c, pos, .ret k h g l code q kept :: stk⟩ (full life gens drawn os s') ⟨k (fork .ok .error r), code, q, stk⟩
noncomputable def TreeGoes (tb : String → Option Builtin) (p : Program) (w : World) (n₀ : Nat) (ann : Option Value) (life : Life) (gens : Array GenState) (drawn : Drawn) (os : OsState) {α : Type} (m : Sem α) (s : ST) (r : Except Value α) (s' : ST) : Prop :=
  ∀ (K : α → Sem Fin) (H : Value → Sem Fin) (gd : Bool → Bool) (lv : List Value → List Value) (code : Code) (pos : Pos) (stk : List Frame),
    ∃ c' pos', s'.cnt = s.cnt + c' ∧ Goes tb p w n₀ ann c' (full life gens drawn os s) ⟨m.wrap K H gd lv, code, pos, stk⟩ (full life gens drawn os s') ⟨fork K H r, code, pos', stk⟩
theorem TreeGoes.step {α : Type} {m m' : Sem α} {s s₁ s' : ST} {r : Except Value α} (hc : s₁.cnt = s.cnt + 1)
    (h : ∀ (K : α → Sem Fin) (H : Value → Sem Fin) (gd : Bool → Bool) (lv : List Value → List Value) (code : Code) (pos : Pos) (stk : List Frame),
      ∃ pos', Goes tb p w n₀ ann 1 (full life gens drawn os s) ⟨m.wrap K H gd lv, code, pos, stk⟩ (full life gens drawn os s₁) ⟨m'.wrap K H gd lv, code, pos', stk⟩)
    (k : TreeGoes tb p w n₀ ann life gens drawn os m' s₁ r s') : TreeGoes tb p w n₀ ann life gens drawn os m s r s' := by
  intro K H gd lv code pos stk
  obtain ⟨p1, g1⟩ := h K H gd lv code pos stk
  obtain ⟨c', p2, e, g2⟩ := k K H gd lv code p1 stk
  exact ⟨1 + c', p2, by omega, g1.trans g2⟩
noncomputable def okAddr (n₀ : Nat) (ann : Option Value) (a : Addr) : Bool := Nat.ble n₀ a || a == mainNs || a == cStatics || ann == some (.ref a)
theorem evS_goes {C : Code → ST → Out Flow} (hC : ∀ c s r s', C c s = some (r, s') → CodeGoes tb p w n₀ ann life gens drawn os c s r s') {α : Type} (m : Sem α) :
    ∀ (s : ST) (r : Except Value α) (s' : ST), evS C ⟨p, w.params⟩ (okAddr n₀ ann) m s = some (r, s') → TreeGoes tb p w n₀ ann life gens drawn os m s r s' := by
  induction m with
  | pure a => intro s r s' h; obtain ⟨rfl, rfl⟩ : .ok a = r ∧ s = s' := by simpa [evS] using h
              intro K H gd lv code pos stk; exact ⟨0, pos, rfl, Goes.refl⟩
  | raise e => intro s r s' h; obtain ⟨rfl, rfl⟩ : .error e = r ∧ s = s' := by simpa [evS] using h
               intro K H gd lv code pos stk; exact ⟨0, pos, rfl, Goes.refl⟩
  | unsupported | finish | register | choose | os | handled | newGen | genState | resume | «yield» | stack | fork | await => intro s r s' h; simp [evS] at h
  | rule t k ih =>
    intro s r s' h
    replace h : evS C ⟨p, w.params⟩ (okAddr n₀ ann) (k ()) ⟨s.tree, s.n, s.toks, s.cnt + 1⟩ = some (r, s') := by rw [← bump_eq (β := Out α) s.cnt fun c => evS C ⟨p, w.params⟩ (okAddr n₀ ann) (k ()) ⟨s.tree, s.n, s.toks, c⟩]; exact h
    exact TreeGoes.step (m' := k ()) (s₁ := ⟨s.tree, s.n, s.toks, s.cnt + 1⟩) rfl (fun K H gd lv code pos stk => ⟨pos, Goes.one (by simp [through, Sem.wrap]) (by simp [stepOk, Thread.calm, Thread.atCollectorCode, Thread.yieldsInsideHandler, Sem.wrap]) rfl⟩) (ih () _ r s' h)
  | «at» q k ih =>
    intro s r s' h
    replace h : evS C ⟨p, w.params⟩ (okAddr n₀ ann) (k ()) ⟨s.tree, s.n, s.toks, s.cnt + 1⟩ = some (r, s') := by rw [← bump_eq (β := Out α) s.cnt fun c => evS C ⟨p, w.params⟩ (okAddr n₀ ann) (k ()) ⟨s.tree, s.n, s.toks, c⟩]; exact h
    exact TreeGoes.step (m' := k ()) (s₁ := ⟨s.tree, s.n, s.toks, s.cnt + 1⟩) rfl (fun K H gd lv code pos stk => ⟨q, Goes.one (by simp [through, Sem.wrap]) (by simp [stepOk, Thread.calm, Thread.atCollectorCode, Thread.yieldsInsideHandler, Sem.wrap]) rfl⟩) (ih () _ r s' h)
  | point l k ih =>
    intro s r s' h
    replace h : evS C ⟨p, w.params⟩ (okAddr n₀ ann) (k ()) ⟨s.tree, s.n, s.toks, s.cnt + 1⟩ = some (r, s') := by rw [← bump_eq (β := Out α) s.cnt fun c => evS C ⟨p, w.params⟩ (okAddr n₀ ann) (k ()) ⟨s.tree, s.n, s.toks, c⟩]; exact h
    exact TreeGoes.step (m' := k ()) (s₁ := ⟨s.tree, s.n, s.toks, s.cnt + 1⟩) rfl (fun K H gd lv code pos stk => ⟨pos, Goes.one (by simp [through, Sem.wrap]) (by simp [stepOk, Thread.calm, Thread.atCollectorCode, Thread.yieldsInsideHandler, Sem.wrap]) rfl⟩) (ih () _ r s' h)
  | thread k ih =>
    intro s r s' h
    replace h : evS C ⟨p, w.params⟩ (okAddr n₀ ann) (k 0) ⟨s.tree, s.n, s.toks, s.cnt + 1⟩ = some (r, s') := by rw [← bump_eq (β := Out α) s.cnt fun c => evS C ⟨p, w.params⟩ (okAddr n₀ ann) (k 0) ⟨s.tree, s.n, s.toks, c⟩]; exact h
    exact TreeGoes.step (m' := k 0) (s₁ := ⟨s.tree, s.n, s.toks, s.cnt + 1⟩) rfl (fun K H gd lv code pos stk => ⟨pos, Goes.one (by simp [through, Sem.wrap]) (by simp [stepOk, Thread.calm, Thread.atCollectorCode, Thread.yieldsInsideHandler, Sem.wrap]) rfl⟩) (ih 0 _ r s' h)
  | ask k ih =>
    intro s r s' h
    replace h : evS C ⟨p, w.params⟩ (okAddr n₀ ann) (k ⟨p, w.params⟩) ⟨s.tree, s.n, s.toks, s.cnt + 1⟩ = some (r, s') := by rw [← bump_eq (β := Out α) s.cnt fun c => evS C ⟨p, w.params⟩ (okAddr n₀ ann) (k ⟨p, w.params⟩) ⟨s.tree, s.n, s.toks, c⟩]; exact h
    exact TreeGoes.step (m' := k ⟨p, w.params⟩) (s₁ := ⟨s.tree, s.n, s.toks, s.cnt + 1⟩) rfl (fun K H gd lv code pos stk => ⟨pos, Goes.one (by simp [through, Sem.wrap]) (by simp [stepOk, Thread.calm, Thread.atCollectorCode, Thread.yieldsInsideHandler, Sem.wrap]) rfl⟩) (ih _ _ r s' h)
  | fresh k ih =>
    intro s r s' h
    replace h : evS C ⟨p, w.params⟩ (okAddr n₀ ann) (k s.toks) ⟨s.tree, s.n, s.toks + 1, s.cnt + 1⟩ = some (r, s') := by
      rw [← bump_eq (β := Out α) s.toks fun t => evS C ⟨p, w.params⟩ (okAddr n₀ ann) (k s.toks) ⟨s.tree, s.n, t, s.cnt + 1⟩, ← bump_eq (β := Out α) s.cnt fun c => bump s.toks fun t => evS C ⟨p, w.params⟩ (okAddr n₀ ann) (k s.toks) ⟨s.tree, s.n, t, c⟩]; exact h
    exact TreeGoes.step (m' := k s.toks) rfl (fun K H gd lv code pos stk => ⟨pos, Goes.one (by simp [through, Sem.wrap]) (by simp [stepOk, Thread.calm, Thread.atCollectorCode, Thread.yieldsInsideHandler, Sem.wrap]) rfl⟩) (ih _ _ r s' h)
  | load a q k ih =>
    intro s r s' h
    replace h : (match Nat.blt a s.n with
      | true => match s.tree.get a with
        | some o => match alive o with
          | some o' => evS C ⟨p, w.params⟩ (okAddr n₀ ann) (k o') ⟨s.tree, s.n, s.toks, s.cnt + 1⟩
          | none => none
        | none => none
      | false => none) = some (r, s') := by
        rw [← bump_eq (β := Out α) s.cnt fun c => match Nat.blt a s.n with
          | true => match s.tree.get a with
            | some o => match alive o with
              | some o' => evS C ⟨p, w.params⟩ (okAddr n₀ ann) (k o') ⟨s.tree, s.n, s.toks, c⟩
              | none => none
            | none => none
          | false => none]; exact h
    cases e : Nat.blt a s.n with
    | false => rw [e] at h; cases h
    | true =>
      have lt : a < s.n := Nat.le_of_ble_eq_true e
      cases g : s.tree.get a with
      | none => rw [e, g] at h; cases h
      | some o =>
        cases al : alive o with
        | none => rw [e, g] at h; dsimp only at h; rw [al] at h; cases h
        | some o' =>
          rw [e, g] at h; dsimp only at h; rw [al] at h
          refine TreeGoes.step (m' := k o') rfl (fun K H gd lv code pos stk => ⟨pos, Goes.one (by simp [through, Sem.wrap]) (by simp [stepOk, Thread.calm, Thread.atCollectorCode, Thread.yieldsInsideHandler, Sem.wrap]) ?_⟩) (ih _ _ r s' h)
          show step _ p w ⟨absHeap s.tree s.n life, gens, drawn, s.toks, os⟩ ⟨.load a q _, code, pos, stk⟩ = _
          simp only [step, abs_get lt g, al]
          rfl
  | loadIfAlive a k ih =>
    intro s r s' h
    replace h : (match Nat.blt a s.n with
      | true => match s.tree.get a with
        | some o => evS C ⟨p, w.params⟩ (okAddr n₀ ann) (k (alive o)) ⟨s.tree, s.n, s.toks, s.cnt + 1⟩
        | none => none
      | false => evS C ⟨p, w.params⟩ (okAddr n₀ ann) (k none) ⟨s.tree, s.n, s.toks, s.cnt + 1⟩) = some (r, s') := by
        rw [← bump_eq (β := Out α) s.cnt fun c => match Nat.blt a s.n with
          | true => match s.tree.get a with
            | some o => evS C ⟨p, w.params⟩ (okAddr n₀ ann) (k (alive o)) ⟨s.tree, s.n, s.toks, c⟩
            | none => none
          | false => evS C ⟨p, w.params⟩ (okAddr n₀ ann) (k none) ⟨s.tree, s.n, s.toks, c⟩]; exact h
    cases e : Nat.blt a s.n with
    | false =>
      rw [e] at h
      have lt : ¬ a < s.n := fun q => by rw [show Nat.blt a s.n = true from Nat.ble_eq_true_of_le q] at e; cases e
      refine TreeGoes.step (m' := k none) rfl (fun K H gd lv code pos stk => ⟨pos, Goes.one (by simp [through, Sem.wrap]) (by simp [stepOk, Thread.calm, Thread.atCollectorCode, Thread.yieldsInsideHandler, Sem.wrap]) ?_⟩) (ih _ _ r s' h)
      show step _ p w ⟨absHeap s.tree s.n life, gens, drawn, s.toks, os⟩ ⟨.loadIfAlive a _, code, pos, stk⟩ = _
      simp only [step, abs_get_none lt]
      rfl
    | true =>
      have lt : a < s.n := Nat.le_of_ble_eq_true e
      cases g : s.tree.get a with
      | none => rw [e, g] at h; cases h
      | some o =>
        rw [e, g] at h
        refine TreeGoes.step (m' := k (alive o)) rfl (fun K H gd lv code pos stk => ⟨pos, Goes.one (by simp [through, Sem.wrap]) (by simp [stepOk, Thread.calm, Thread.atCollectorCode, Thread.yieldsInsideHandler, Sem.wrap]) ?_⟩) (ih _ _ r s' h)
        show step _ p w ⟨absHeap s.tree s.n life, gens, drawn, s.toks, os⟩ ⟨.loadIfAlive a _, code, pos, stk⟩ = _
        simp only [step, abs_get lt g]
        rfl
  | update a q f k ih =>
    intro s r s' h
    replace h : bump s.cnt (fun c => match okAddr n₀ ann a && Nat.blt a s.n with
      | true => match s.tree.get a with
        | some o => match alive o with
          | some _ => normO (f o) fun o' => evS C ⟨p, w.params⟩ (okAddr n₀ ann) (k ()) ⟨s.tree.set a fun _ => o', s.n, s.toks, c⟩
          | none => none
        | none => none
      | false => none) = some (r, s') := h
    rw [bump_eq] at h
    cases e : okAddr n₀ ann a && Nat.blt a s.n with
    | false => rw [e] at h; cases h
    | true =>
      obtain ⟨e1, e2⟩ := Bool.and_eq_true_iff.mp e
      have lt : a < s.n := Nat.le_of_ble_eq_true e2
      cases g : s.tree.get a with
      | none => rw [e, g] at h; cases h
      | some o =>
        cases al : alive o with
        | none => rw [e, g] at h; dsimp only at h; rw [al] at h; cases h
        | some o' =>
          rw [e, g] at h; dsimp only at h; rw [al] at h; dsimp only at h
          rw [normO_eq, ← set_const f _ _ _ g] at h
          refine TreeGoes.step (m' := k ()) rfl (fun K H gd lv code pos stk => ⟨pos, Goes.one (by simp [through, Sem.wrap]) ?_ ?_⟩) (ih _ _ r s' h)
          · simp only [stepOk, Thread.calm, Thread.atCollectorCode, Thread.yieldsInsideHandler, Sem.wrap]
            exact e1
          · show step _ p w ⟨absHeap s.tree s.n life, gens, drawn, s.toks, os⟩ ⟨.update a q f _, code, pos, stk⟩ = .go ⟨absHeap (s.tree.set a f) s.n life, gens, drawn, s.toks, os⟩ _
            rw [absHeap_set g]
            simp only [step, abs_get lt g, al, Option.isSome_some, if_true]
  | alloc o k ih =>
    intro s r s' h
    replace h : (match ((s.tree.ins s.n o).get s.n).isSome with
      | true => evS C ⟨p, w.params⟩ (okAddr n₀ ann) (k s.n) ⟨s.tree.ins s.n o, s.n + 1, s.toks, s.cnt + 1⟩
      | false => none) = some (r, s') := by
        rw [← bump_eq (β := Out α) s.n fun n' => evS C ⟨p, w.params⟩ (okAddr n₀ ann) (k s.n) ⟨s.tree.ins s.n o, n', s.toks, s.cnt + 1⟩,
          ← bump_eq (β := Out α) s.cnt fun c => match ((s.tree.ins s.n o).get s.n).isSome with
            | true => bump s.n fun n' => evS C ⟨p, w.params⟩ (okAddr n₀ ann) (k s.n) ⟨s.tree.ins s.n o, n', s.toks, c⟩
            | false => none]; exact h
    cases e : ((s.tree.ins s.n o).get s.n).isSome with
    | false => rw [e] at h; cases h
    | true =>
      rw [e] at h
      refine TreeGoes.step (m' := k s.n) rfl (fun K H gd lv code pos stk => ⟨pos, Goes.one (by simp [through, Sem.wrap]) (by simp [stepOk, Thread.calm, Thread.atCollectorCode, Thread.yieldsInsideHandler, Sem.wrap]) ?_⟩) (ih _ _ r s' h)
      show step _ p w ⟨absHeap s.tree s.n life, gens, drawn, s.toks, os⟩ ⟨.alloc o _, code, pos, stk⟩ = .go ⟨absHeap (s.tree.ins s.n o) (s.n + 1) life, gens, drawn, s.toks, os⟩ _
      rw [absHeap_ins e]
      simp only [step, absHeap_size]
  | call c hd g l k ih =>
    intro s r s' h
    replace h : (match C c ⟨s.tree, s.n, s.toks, s.cnt + 1⟩ with
      | some (.ok f, s') => evS C ⟨p, w.params⟩ (okAddr n₀ ann) (k (.ok f)) s'
      | some (.error e, s') => evS C ⟨p, w.params⟩ (okAddr n₀ ann) (k (.error e)) s'
      | none => none) = some (r, s') := by
        rw [← bump_eq (β := Out α) s.cnt fun ct => match C c ⟨s.tree, s.n, s.toks, ct⟩ with
          | some (.ok f, s') => evS C ⟨p, w.params⟩ (okAddr n₀ ann) (k (.ok f)) s'
          | some (.error e, s') => evS C ⟨p, w.params⟩ (okAddr n₀ ann) (k (.error e)) s'
          | none => none]; exact h
    cases e : C c ⟨s.tree, s.n, s.toks, s.cnt + 1⟩ with
    | none => rw [e] at h; cases h
    | some x =>
      obtain ⟨x, s₁⟩ := x
      rw [e] at h
      have hc := hC c _ x s₁ e
      have key : TreeGoes tb p w n₀ ann life gens drawn os (k (fork .ok .error x)) s₁ r s' := by
        cases x with
        | ok f => exact ih _ _ r s' h
        | error f => exact ih _ _ r s' h
      intro K H gd lv code pos stk
      obtain ⟨kept, hk⟩ : ∃ kept, step (denote tb) p w (full life gens drawn os s) ⟨(Sem.call c hd g l k).wrap K H gd lv, code, pos, stk⟩ = .go (full life gens drawn os s) ⟨denote tb c, c, pos, .ret (fun x => (k x).wrap K H gd lv) hd (gd g) (lv l) code pos kept :: stk⟩ := ⟨_, rfl⟩
      obtain ⟨c1, e1, g1⟩ := hc (fun x => (k x).wrap K H gd lv) hd (gd g) (lv l) code pos pos kept stk
      obtain ⟨c2, p2, e2, g2⟩ := key K H gd lv code pos stk
      have g0 : Goes tb p w n₀ ann 1 (full life gens drawn os s) ⟨(Sem.call c hd g l k).wrap K H gd lv, code, pos, stk⟩ (full life gens drawn os ⟨s.tree, s.n, s.toks, s.cnt + 1⟩) ⟨denote tb c, c, pos, .ret (fun x => (k x).wrap K H gd lv) hd (gd g) (lv l) code pos kept :: stk⟩ :=
        Goes.one (by simp [through, Sem.wrap]) (by simp [stepOk, Thread.calm, Thread.atCollectorCode, Thread.yieldsInsideHandler, Sem.wrap]) hk
      exact ⟨1 + c1 + c2, p2, by simp only at e1; omega, (g0.trans g1).trans g2⟩
theorem wrap_self {α : Type} (m : Sem α) : m.wrap .pure .raise id id = m := by
  induction m <;> simp only [Sem.wrap, id, *]
theorem evC_goes : ∀ (fuel : Nat) (c : Code) (s : ST) (r : Except Value Flow) (s' : ST), evC (denote tb) ⟨p, w.params⟩ (okAddr n₀ ann) fuel c s = some (r, s') → CodeGoes tb p w n₀ ann life gens drawn os c s r s'
  | 0, _, _, _, _, h => by cases h
  | fuel + 1, c, s, r, s', h => by
    replace h : (match plainCode c with
      | true => match evS (evC (denote tb) ⟨p, w.params⟩ (okAddr n₀ ann) fuel) ⟨p, w.params⟩ (okAddr n₀ ann) (denote tb c) s with
        | some (.ok fin, s') => @PySem.Fin.rec (fun _ => Out Flow) (fun f => bump s'.cnt fun ct => some (Except.ok f, ⟨s'.tree, s'.n, s'.toks, ct⟩)) (fun c' => bump s'.cnt fun ct => evC (denote tb) ⟨p, w.params⟩ (okAddr n₀ ann) fuel c' ⟨s'.tree, s'.n, s'.toks, ct⟩) fin
        | some (.error e, s') => bump s'.cnt fun ct => some (.error e, ⟨s'.tree, s'.n, s'.toks, ct⟩)
        | none => none
      | false => none) = some (r, s') := h
    cases hp : plainCode c with
    | false => rw [hp] at h; cases h
    | true =>
      rw [hp] at h
      cases he : evS (evC (denote tb) ⟨p, w.params⟩ (okAddr n₀ ann) fuel) ⟨p, w.params⟩ (okAddr n₀ ann) (denote tb c) s with
      | none => rw [he] at h; cases h
      | some x =>
        obtain ⟨x, s₁⟩ := x
        rw [he] at h
        have T := evS_goes (tb := tb) (p := p) (w := w) (n₀ := n₀) (ann := ann) (life := life) (gens := gens) (drawn := drawn) (os := os) (evC_goes fuel) _ s x s₁ he
        cases x with
        | error e =>
          dsimp only at h
          rw [bump_eq] at h
          obtain ⟨rfl, rfl⟩ : .error e = r ∧ _ = s' := by simpa using h
          intro k h g l code pos q kept stk
          obtain ⟨c1, p1, e1, g1⟩ := T .pure .raise id id c pos (.ret k h g l code q kept :: stk)
          rw [wrap_self] at g1
          exact ⟨c1 + 1, by simp only; omega, g1.trans (Goes.one (by simp [through]) (by simp [stepOk, Thread.calm, Thread.atCollectorCode, Thread.yieldsInsideHandler, fork]) rfl)⟩
        | ok fin =>
          cases fin with
          | done f =>
            dsimp only at h
            rw [bump_eq] at h
            obtain ⟨rfl, rfl⟩ : .ok f = r ∧ _ = s' := by simpa using h
            intro k h g l code pos q kept stk
            obtain ⟨c1, p1, e1, g1⟩ := T .pure .raise id id c pos (.ret k h g l code q kept :: stk)
            rw [wrap_self] at g1
            exact ⟨c1 + 1, by simp only; omega, g1.trans (Goes.one (by simp [through]) (by simp [stepOk, Thread.calm, Thread.atCollectorCode, Thread.yieldsInsideHandler, fork]) rfl)⟩
          | again c₂ =>
            dsimp only at h
            rw [bump_eq] at h
            have hp2 : plainCode c₂ = true := by
              cases fuel with
              | zero => cases h
              | succ fuel =>
                replace h : (match plainCode c₂ with
                  | true => _
                  | false => none) = some (r, s') := h
                cases hq : plainCode c₂ with
                | true => rfl
                | false => rw [hq] at h; cases h
            have R := evC_goes fuel c₂ _ r s' h
            intro k h g l code pos q kept stk
            obtain ⟨c1, p1, e1, g1⟩ := T .pure .raise id id c pos (.ret k h g l code q kept :: stk)
            rw [wrap_self] at g1
            obtain ⟨c2, e2, g2⟩ := R k h g l code p1 q (keptBy c c₂ l kept) stk
            refine ⟨c1 + 1 + c2, by simp only at e2; omega, (g1.trans (Goes.one (by simp [through]) ?_ ?_)).trans g2⟩
            · cases c₂ with
              | builtin id args =>
                have : id.startsWith "lifetime." = false := by simpa [plainCode] using hp2
                simp [stepOk, Thread.calm, Thread.atCollectorCode, Thread.yieldsInsideHandler, fork, this]
              | _ => simp [stepOk, Thread.calm, Thread.atCollectorCode, Thread.yieldsInsideHandler, fork]
            · exact step_again
end
end Mine
end
section
set_option maxRecDepth 100000
set_option Elab.async false
set_option linter.unusedVariables false
namespace Mine
open PySem PySem.W PySem.Calls PyProof.Rows
abbrev pw : Program := PySem.Challenge.pw_wf0076_01
noncomputable def nthS : List Stmt → Nat → Stmt
  | [], _ => .Pass ⟨0, 0, 0, 0⟩
  | s :: _, 0 => s
  | _ :: r, n + 1 => nthS r n
noncomputable def stAt (i : Nat) : Stmt := nthS pw.main.body i
noncomputable def ek (P : Params) (x : Str) (t : Nat) (v : Value) : DictEntry := ⟨PyData.keyHash P x, .str x t, v⟩
noncomputable def fnP : Stmt → Arguments
  | .FunctionDef _ a _ _ _ _ _ _ _ _ => a
  | _ => ⟨[], [], none, [], [], none, []⟩
noncomputable def fnB : Stmt → List Stmt
  | .FunctionDef _ _ b _ _ _ _ _ _ _ => b
  | _ => []
noncomputable def fnSc : Stmt → Scope
  | .FunctionDef _ _ _ _ _ _ s _ _ _ => s
  | _ => pw.main.scope
noncomputable def fnD (i : Nat) (name qual : Str) (g : Addr) (pm cd : Value) (b : Addr) : FuncData :=
  { name := name, qualname := qual, params := fnP (stAt i), body := .stmts (fnB (stAt i)), scope := fnSc (stAt i), globals := g, closure := [], defaults := .none, kwdefaults := .none, doc := .none, pyModule := pm, annotations := none, code := cd, closureTuple := .none, builtins := b }
noncomputable def dn : Code → Sem Fin := Fast.tw11892475500146522536 Fast.tw14364793385576792824
theorem dn_eq : denote treeTable = dn := by
  rw [Fast.te11892475500146522536, Fast.te14364793385576792824]; rfl
noncomputable def envT : Env := { scope := pw.main.scope, locals := mainNs, globals := mainNs, cells := [], code := .ref 13, frame := some 14 }
noncomputable def okT : Addr → Bool := okAddr 11 (some (.ref 6))
noncomputable def evT (P : Params) (fuel : Nat) {α : Type} (m : Sem α) (s : ST) : Out α := evS (evC dn ⟨pw, P⟩ okT fuel) ⟨pw, P⟩ okT m s
noncomputable def tS0 (P : Params) : BT := (.node (PySem.W.boot_o_0 P) (.node (PySem.W.boot_o_1 P) (.node (PySem.W.boot_o_3 P) (.node (PySem.W.boot_o_7 P) .nil .nil) .nil) (.node (PySem.W.boot_o_5 P) (.node (PySem.W.boot_o_9 P) .nil .nil) .nil)) (.node (PySem.W.boot_o_2 P) (.node (PySem.W.boot_o_4 P) (.node (PySem.W.boot_o_8 P) .nil .nil) .nil) (.node (PySem.W.boot_o_6 P) (.node (PySem.W.boot_o_10 P) .nil .nil) .nil)))
noncomputable def o11_0 (P : Params) : Obj := ⟨(.type "tuple"), none, (.seq [].toArray 0), #[]⟩
noncomputable def o12_0 (P : Params) : Obj := ⟨.none, none, (.fields [].toArray), #[]⟩
noncomputable def o13_0 (P : Params) : Obj := ⟨(.type "code"), none, (.fields [(.str (.ofString "<module>") 182), (.str (.ofString "<module>") 183), (.str (.ofString "/claim/cut.py") 184), (.int 1 0), (.int 0 0), (.int 0 0), (.int 0 0), (.int 0 0), (.ref 11), (.bool false), (.int 181 0), (.ref 12), .none, .none, .none, .none, (.int 185 0), (.int 1 0), (.str (.ofString "/claim/cut.py") 186)].toArray), #[]⟩
noncomputable def o14_0 (P : Params) : Obj := ⟨(.type "frame"), none, .plain, [some (.ref 13), some (.ref 3), some (.ref 3), none, some (.str (.ofString "__main__") 164), none, some (.ref 0)].toArray⟩
noncomputable def tSa (P : Params) : BT := (.node (PySem.W.boot_o_0 P) (.node (PySem.W.boot_o_1 P) (.node (PySem.W.boot_o_3 P) (.node (PySem.W.boot_o_7 P) .nil .nil) (.node (o11_0 P) .nil .nil)) (.node (PySem.W.boot_o_5 P) (.node (PySem.W.boot_o_9 P) .nil .nil) (.node (o13_0 P) .nil .nil))) (.node (PySem.W.boot_o_2 P) (.node (PySem.W.boot_o_4 P) (.node (PySem.W.boot_o_8 P) .nil .nil) (.node (o12_0 P) .nil .nil)) (.node (PySem.W.boot_o_6 P) (.node (PySem.W.boot_o_10 P) .nil .nil) (.node (o14_0 P) .nil .nil))))
noncomputable def tSb (P : Params) : BT := (.node (PySem.W.boot_o_0 P) (.node (PySem.W.boot_o_1 P) (.node (PySem.W.boot_o_3 P) (.node (PySem.W.boot_o_7 P) .nil .nil) (.node (o11_0 P) .nil .nil)) (.node (PySem.W.boot_o_5 P) (.node (PySem.W.boot_o_9 P) .nil .nil) (.node (o13_0 P) .nil .nil))) (.node (PySem.W.boot_o_2 P) (.node (PySem.W.boot_o_4 P) (.node (PySem.W.boot_o_8 P) .nil .nil) (.node (o12_0 P) .nil .nil)) (.node (PySem.W.boot_o_6 P) (.node (PySem.W.boot_o_10 P) .nil .nil) (.node (o14_0 P) .nil .nil))))
noncomputable def o3_2 (P : Params) : Obj := ⟨(.type "dict"), none, (.dict [ek P (.ofString "__name__") 165 (.str (.ofString "cpy313.stringprep") 199), ek P (.ofString "__doc__") 166 .none, ek P (.ofString "__package__") 167 .none, ek P (.ofString "__loader__") 168 (.builtin "__main__.__loader__#opaque"), ek P (.ofString "__spec__") 169 .none, ek P (.ofString "__annotations__") 170 (.ref 6), ek P (.ofString "__builtins__") 171 (.ref 4), ek P (.ofString "__file__") 173 (.str (.ofString "/claim/cut.py") 172), ek P (.ofString "__cached__") 174 .none, ek P (.ofString "Int2AP") 198 (.ref 21)].toArray 10), #[]⟩
noncomputable def o12_2 (P : Params) : Obj := ⟨.none, none, (.fields [(.int 2 0), (.int 0 0), (.ref 20)].toArray), #[]⟩
noncomputable def o15_2 (P : Params) : Obj := ⟨(.type "tuple"), none, (.seq [].toArray 0), #[]⟩
noncomputable def o16_2 (P : Params) : Obj := ⟨.none, none, (.fields [].toArray), #[]⟩
noncomputable def o17_2 (P : Params) : Obj := ⟨(.type "tuple"), none, (.seq [(.str (.ofString "num") 192), (.str (.ofString "val") 193), (.str (.ofString "AP") 194), (.str (.ofString "mod") 195)].toArray 0), #[]⟩
noncomputable def o18_2 (P : Params) : Obj := ⟨(.type "tuple"), none, (.seq [].toArray 0), #[]⟩
noncomputable def o19_2 (P : Params) : Obj := ⟨.none, none, (.func (fnD 1 (.ofString "Int2AP") (.ofString "Int2AP") 0 .none .none 0)), #[]⟩
noncomputable def o20_2 (P : Params) : Obj := ⟨(.type "code"), none, (.fields [(.str (.ofString "Int2AP") 189), (.str (.ofString "Int2AP") 190), (.str (.ofString "/claim/cut.py") 191), (.int 2 0), (.int 1 0), (.int 0 0), (.int 0 0), (.int 3 0), (.ref 15), (.bool true), (.int 181 0), (.ref 16), .none, (.ref 17), (.ref 18), (.ref 19), (.int 196 0), (.int 2 0), (.str (.ofString "/claim/cut.py") 197)].toArray), #[]⟩
noncomputable def o21_2 (P : Params) : Obj := ⟨(.type "function"), none, (.func (fnD 1 (.ofString "Int2AP") (.ofString "Int2AP") 3 (.str (.ofString "cpy313.imaplib") 187) (.ref 20) 0)), #[]⟩
noncomputable def tS2 (P : Params) : BT := (.node (PySem.W.boot_o_0 P) (.node (PySem.W.boot_o_1 P) (.node (o3_2 P) (.node (PySem.W.boot_o_7 P) (.node (o15_2 P) .nil .nil) .nil) (.node (o11_0 P) (.node (o19_2 P) .nil .nil) .nil)) (.node (PySem.W.boot_o_5 P) (.node (PySem.W.boot_o_9 P) (.node (o17_2 P) .nil .nil) .nil) (.node (o13_0 P) (.node (o21_2 P) .nil .nil) .nil))) (.node (PySem.W.boot_o_2 P) (.node (PySem.W.boot_o_4 P) (.node (PySem.W.boot_o_8 P) (.node (o16_2 P) .nil .nil) .nil) (.node (o12_2 P) (.node (o20_2 P) .nil .nil) .nil)) (.node (PySem.W.boot_o_6 P) (.node (PySem.W.boot_o_10 P) (.node (o18_2 P) .nil .nil) .nil) (.node (o14_0 P) .nil .nil))))
noncomputable def o3_3 (P : Params) : Obj := ⟨(.type "dict"), none, (.dict [ek P (.ofString "__name__") 165 (.str (.ofString "cpy313.stringprep") 199), ek P (.ofString "__doc__") 166 .none, ek P (.ofString "__package__") 167 .none, ek P (.ofString "__loader__") 168 (.builtin "__main__.__loader__#opaque"), ek P (.ofString "__spec__") 169 .none, ek P (.ofString "__annotations__") 170 (.ref 6), ek P (.ofString "__builtins__") 171 (.ref 4), ek P (.ofString "__file__") 173 (.str (.ofString "/claim/cut.py") 172), ek P (.ofString "__cached__") 174 .none, ek P (.ofString "Int2AP") 198 (.ref 21), ek P (.ofString "b1_set") 260 (.ref 29)].toArray 11), #[]⟩
noncomputable def o22_3 (P : Params) : Obj := ⟨(.type "list"), none, (.seq [(.int 173 201), (.int 847 202), (.int 6150 203), (.int 6155 204), (.int 6156 205), (.int 6157 206), (.int 8203 207), (.int 8204 208), (.int 8205 209), (.int 8288 210), (.int 65279 211)].toArray 0), #[]⟩
noncomputable def o23_3 (P : Params) : Obj := ⟨(.type "range"), none, (.fields [(.int 65024 212), (.int 65040 213), (.int 1 214)].toArray), #[]⟩
noncomputable def o24_3 (P : Params) : Obj := ⟨(.type "list"), none, (.seq [(.int 65024 217), (.int 65025 218), (.int 65026 219), (.int 65027 220), (.int 65028 221), (.int 65029 222), (.int 65030 223), (.int 65031 224), (.int 65032 225), (.int 65033 226), (.int 65034 227), (.int 65035 228), (.int 65036 229), (.int 65037 230), (.int 65038 231), (.int 65039 232)].toArray 18), #[]⟩
noncomputable def o25_3 (P : Params) : Obj := ⟨(.type "range_iterator"), none, (.fields [(.int 65040 0), (.int 0 0), (.int 1 0)].toArray), #[]⟩
noncomputable def o26_3 (P : Params) : Obj := ⟨(.type "tuple"), none, (.seq [].toArray 0), #[]⟩
noncomputable def o27_3 (P : Params) : Obj := ⟨(.type "StopIteration"), none, (.fields [(.ref 26), .none, .none, .none, (.bool false), .none].toArray), #[]⟩
noncomputable def o28_3 (P : Params) : Obj := ⟨(.type "list"), none, (.seq [(.int 173 201), (.int 847 202), (.int 6150 203), (.int 6155 204), (.int 6156 205), (.int 6157 206), (.int 8203 207), (.int 8204 208), (.int 8205 209), (.int 8288 210), (.int 65279 211), (.int 65024 217), (.int 65025 218), (.int 65026 219), (.int 65027 220), (.int 65028 221), (.int 65029 222), (.int 65030 223), (.int 65031 224), (.int 65032 225), (.int 65033 226), (.int 65034 227), (.int 65035 228), (.int 65036 229), (.int 65037 230), (.int 65038 231), (.int 65039 232)].toArray 0), #[]⟩
noncomputable def o29_3 (P : Params) : Obj := ⟨(.type "set"), none, (.set [(65024, (.int 65024 217)), (65025, (.int 65025 218)), (65026, (.int 65026 219)), (65027, (.int 65027 220)), (65028, (.int 65028 221)), (65029, (.int 65029 222)), (6150, (.int 6150 203)), (65030, (.int 65030 223)), (65031, (.int 65031 224)), (65032, (.int 65032 225)), (65033, (.int 65033 226)), (6155, (.int 6155 204)), (6156, (.int 6156 205)), (6157, (.int 6157 206)), (8203, (.int 8203 207)), (8204, (.int 8204 208)), (8205, (.int 8205 209)), (65034, (.int 65034 227)), (65035, (.int 65035 228)), (65036, (.int 65036 229)), (65037, (.int 65037 230)), (65038, (.int 65038 231)), (65039, (.int 65039 232)), (173, (.int 173 201)), (847, (.int 847 202)), (8288, (.int 8288 210)), (65279, (.int 65279 211))].toArray 29 ⟨127, #[0, 1, 2, 3, 4, 5, 6, 7, 8, 9, 10, 11, 12, 13, 14, 15, 16, 17, 18, 19, 20, 21, 22, 45, 79, 96, 127], #[], 0, !P.followText "set-order", 2, true⟩), #[]⟩
noncomputable def o30_3 (P : Params) : Obj := ⟨(.type "list_iterator"), none, (.fields [.none, (.int 27 0)].toArray), #[]⟩
noncomputable def o31_3 (P : Params) : Obj := ⟨(.type "tuple"), none, (.seq [].toArray 0), #[]⟩
noncomputable def o32_3 (P : Params) : Obj := ⟨(.type "StopIteration"), none, (.fields [(.ref 31), .none, .none, .none, (.bool false), .none].toArray), #[]⟩
noncomputable def tS3 (P : Params) : BT := (.node (PySem.W.boot_o_0 P) (.node (PySem.W.boot_o_1 P) (.node (o3_3 P) (.node (PySem.W.boot_o_7 P) (.node (o15_2 P) (.node (o31_3 P) .nil .nil) .nil) (.node (o23_3 P) .nil .nil)) (.node (o11_0 P) (.node (o19_2 P) .nil .nil) (.node (o27_3 P) .nil .nil))) (.node (PySem.W.boot_o_5 P) (.node (PySem.W.boot_o_9 P) (.node (o17_2 P) .nil .nil) (.node (o25_3 P) .nil .nil)) (.node (o13_0 P) (.node (o21_2 P) .nil .nil) (.node (o29_3 P) .nil .nil)))) (.node (PySem.W.boot_o_2 P) (.node (PySem.W.boot_o_4 P) (.node (PySem.W.boot_o_8 P) (.node (o16_2 P) (.node (o32_3 P) .nil .nil) .nil) (.node (o24_3 P) .nil .nil)) (.node (o12_2 P) (.node (o20_2 P) .nil .nil) (.node (o28_3 P) .nil .nil))) (.node (PySem.W.boot_o_6 P) (.node (PySem.W.boot_o_10 P) (.node (o18_2 P) .nil .nil) (.node (o26_3 P) .nil .nil)) (.node (o14_0 P) (.node (o22_3 P) .nil .nil) (.node (o30_3 P) .nil .nil)))))
noncomputable def o3_4 (P : Params) : Obj := ⟨(.type "dict"), none, (.dict [ek P (.ofString "__name__") 165 (.str (.ofString "cpy313.stringprep") 199), ek P (.ofString "__doc__") 166 .none, ek P (.ofString "__package__") 167 .none, ek P (.ofString "__loader__") 168 (.builtin "__main__.__loader__#opaque"), ek P (.ofString "__spec__") 169 .none, ek P (.ofString "__annotations__") 170 (.ref 6), ek P (.ofString "__builtins__") 171 (.ref 4), ek P (.ofString "__file__") 173 (.str (.ofString "/claim/cut.py") 172), ek P (.ofString "__cached__") 174 .none, ek P (.ofString "Int2AP") 198 (.ref 21), ek P (.ofString "b1_set") 260 (.ref 29), ek P (.ofString "in_table_b1") 267 (.ref 39)].toArray 12), #[]⟩
noncomputable def o12_4 (P : Params) : Obj := ⟨.none, none, (.fields [(.int 2 0), (.int 0 0), (.ref 20), (.int 12 0), (.int 0 0), (.ref 38)].toArray), #[]⟩
noncomputable def o33_4 (P : Params) : Obj := ⟨(.type "tuple"), none, (.seq [].toArray 0), #[]⟩
noncomputable def o34_4 (P : Params) : Obj := ⟨.none, none, (.fields [].toArray), #[]⟩
noncomputable def o35_4 (P : Params) : Obj := ⟨(.type "tuple"), none, (.seq [(.str (.ofString "code") 264)].toArray 0), #[]⟩
noncomputable def o36_4 (P : Params) : Obj := ⟨(.type "tuple"), none, (.seq [].toArray 0), #[]⟩
noncomputable def o37_4 (P : Params) : Obj := ⟨.none, none, (.func (fnD 4 (.ofString "in_table_b1") (.ofString "in_table_b1") 0 .none .none 0)), #[]⟩
noncomputable def o38_4 (P : Params) : Obj := ⟨(.type "code"), none, (.fields [(.str (.ofString "in_table_b1") 261), (.str (.ofString "in_table_b1") 262), (.str (.ofString "/claim/cut.py") 263), (.int 12 0), (.int 1 0), (.int 0 0), (.int 0 0), (.int 3 0), (.ref 33), (.bool true), (.int 181 0), (.ref 34), .none, (.ref 35), (.ref 36), (.ref 37), (.int 265 0), (.int 12 0), (.str (.ofString "/claim/cut.py") 266)].toArray), #[]⟩
noncomputable def o39_4 (P : Params) : Obj := ⟨(.type "function"), none, (.func (fnD 4 (.ofString "in_table_b1") (.ofString "in_table_b1") 3 (.str (.ofString "cpy313.stringprep") 199) (.ref 38) 0)), #[]⟩
noncomputable def tS4 (P : Params) : BT := (.node (PySem.W.boot_o_0 P) (.node (PySem.W.boot_o_1 P) (.node (o3_4 P) (.node (PySem.W.boot_o_7 P) (.node (o15_2 P) (.node (o31_3 P) .nil .nil) .nil) (.node (o23_3 P) (.node (o39_4 P) .nil .nil) .nil)) (.node (o11_0 P) (.node (o19_2 P) (.node (o35_4 P) .nil .nil) .nil) (.node (o27_3 P) .nil .nil))) (.node (PySem.W.boot_o_5 P) (.node (PySem.W.boot_o_9 P) (.node (o17_2 P) (.node (o33_4 P) .nil .nil) .nil) (.node (o25_3 P) .nil .nil)) (.node (o13_0 P) (.node (o21_2 P) (.node (o37_4 P) .nil .nil) .nil) (.node (o29_3 P) .nil .nil)))) (.node (PySem.W.boot_o_2 P) (.node (PySem.W.boot_o_4 P) (.node (PySem.W.boot_o_8 P) (.node (o16_2 P) (.node (o32_3 P) .nil .nil) .nil) (.node (o24_3 P) .nil .nil)) (.node (o12_4 P) (.node (o20_2 P) (.node (o36_4 P) .nil .nil) .nil) (.node (o28_3 P) .nil .nil))) (.node (PySem.W.boot_o_6 P) (.node (PySem.W.boot_o_10 P) (.node (o18_2 P) (.node (o34_4 P) .nil .nil) .nil) (.node (o26_3 P) .nil .nil)) (.node (o14_0 P) (.node (o22_3 P) (.node (o38_4 P) .nil .nil) .nil) (.node (o30_3 P) .nil .nil)))))
noncomputable def o3_5 (P : Params) : Obj := ⟨(.type "dict"), none, (.dict [ek P (.ofString "__name__") 165 (.str (.ofString "cpy313.stringprep") 199), ek P (.ofString "__doc__") 166 .none, ek P (.ofString "__package__") 167 .none, ek P (.ofString "__loader__") 168 (.builtin "__main__.__loader__#opaque"), ek P (.ofString "__spec__") 169 .none, ek P (.ofString "__annotations__") 170 (.ref 6), ek P (.ofString "__builtins__") 171 (.ref 4), ek P (.ofString "__file__") 173 (.str (.ofString "/claim/cut.py") 172), ek P (.ofString "__cached__") 174 .none, ek P (.ofString "Int2AP") 198 (.ref 21), ek P (.ofString "b1_set") 260 (.ref 29), ek P (.ofString "in_table_b1") 267 (.ref 39), ek P (.ofString "b3_exceptions") 2218 (.ref 40)].toArray 13), #[]⟩
noncomputable def o40_5 (P : Params) : Obj := ⟨(.type "dict"), none, (.dict [⟨181, (.int 181 268), (.str (.ofString "μ") 269)⟩, ⟨223, (.int 223 271), (.str (.ofString "ss") 272)⟩, ⟨304, (.int 304 274), (.str (.ofString "i̇") 275)⟩, ⟨329, (.int 329 277), (.str (.ofString "ʼn") 278)⟩, ⟨383, (.int 383 280), (.str (.ofString "s") 281)⟩, ⟨496, (.int 496 283), (.str (.ofString "ǰ") 284)⟩, ⟨837, (.int 837 286), (.str (.ofString "ι") 287)⟩, ⟨890, (.int 890 289), (.str (.ofString " ι") 290)⟩, ⟨912, (.int 912 292), (.str (.ofString "ΐ") 293)⟩, ⟨944, (.int 944 295), (.str (.ofString "ΰ") 296)⟩, ⟨962, (.int 962 298), (.str (.ofString "σ") 299)⟩, ⟨976, (.int 976 301), (.str (.ofString "β") 302)⟩, ⟨977, (.int 977 304), (.str (.ofString "θ") 305)⟩, ⟨978, (.int 978 307), (.str (.ofString "υ") 308)⟩, ⟨979, (.int 979 310), (.str (.ofString "ύ") 311)⟩, ⟨980, (.int 980 313), (.str (.ofString "ϋ") 314)⟩, ⟨981, (.int 981 316), (.str (.ofString "φ") 317)⟩, ⟨982, (.int 982 319), (.str (.ofString "π") 320)⟩, ⟨1008, (.int 1008 322), (.str (.ofString "κ") 323)⟩, ⟨1009, (.int 1009 325), (.str (.ofString "ρ") 326)⟩, ⟨1010, (.int 1010 328), (.str (.ofString "σ") 329)⟩, ⟨1013, (.int 1013 331), (.str (.ofString "ε") 332)⟩, ⟨1415, (.int 1415 334), (.str (.ofString "եւ") 335)⟩, ⟨7830, (.int 7830 337), (.str (.ofString "ẖ") 338)⟩, ⟨7831, (.int 7831 340), (.str (.ofString "ẗ") 341)⟩, ⟨7832, (.int 7832 343), (.str (.ofString "ẘ") 344)⟩, ⟨7833, (.int 7833 346), (.str (.ofString "ẙ") 347)⟩, ⟨7834, (.int 7834 349), (.str (.ofString "aʾ") 350)⟩, ⟨7835, (.int 7835 352), (.str (.ofString "ṡ") 353)⟩, ⟨8016, (.int 8016 355), (.str (.ofString "ὐ") 356)⟩, ⟨8018, (.int 8018 358), (.str (.ofString "ὒ") 359)⟩, ⟨8020, (.int 8020 361), (.str (.ofString "ὔ") 362)⟩, ⟨8022, (.int 8022 364), (.str (.ofString "ὖ") 365)⟩, ⟨8064, (.int 8064 367), (.str (.ofString "ἀι") 368)⟩, ⟨8065, (.int 8065 370), (.str (.ofString "ἁι") 371)⟩, ⟨8066, (.int 8066 373), (.str (.ofString "ἂι") 374)⟩, ⟨8067, (.int 8067 376), (.str (.ofString "ἃι") 377)⟩, ⟨8068, (.int 8068 379), (.str (.ofString "ἄι") 380)⟩, ⟨8069, (.int 8069 382), (.str (.ofString "ἅι") 383)⟩, ⟨8070, (.int 8070 385), (.str (.ofString "ἆι") 386)⟩, ⟨8071, (.int 8071 388), (.str (.ofString "ἇι") 389)⟩, ⟨8072, (.int 8072 391), (.str (.ofString "ἀι") 392)⟩, ⟨8073, (.int 8073 394), (.str (.ofString "ἁι") 395)⟩, ⟨8074, (.int 8074 397), (.str (.ofString "ἂι") 398)⟩, ⟨8075, (.int 8075 400), (.str (.ofString "ἃι") 401)⟩, ⟨8076, (.int 8076 403), (.str (.ofString "ἄι") 404)⟩, ⟨8077, (.int 8077 406), (.str (.ofString "ἅι") 407)⟩, ⟨8078, (.int 8078 409), (.str (.ofString "ἆι") 410)⟩, ⟨8079, (.int 8079 412), (.str (.ofString "ἇι") 413)⟩, ⟨8080, (.int 8080 415), (.str (.ofString "ἠι") 416)⟩, ⟨8081, (.int 8081 418), (.str (.ofString "ἡι") 419)⟩, ⟨8082, (.int 8082 421), (.str (.ofString "ἢι") 422)⟩, ⟨8083, (.int 8083 424), (.str (.ofString "ἣι") 425)⟩, ⟨8084, (.int 8084 427), (.str (.ofString "ἤι") 428)⟩, ⟨8085, (.int 8085 430), (.str (.ofString "ἥι") 431)⟩, ⟨8086, (.int 8086 433), (.str (.ofString "ἦι") 434)⟩, ⟨8087, (.int 8087 436), (.str (.ofString "ἧι") 437)⟩, ⟨8088, (.int 8088 439), (.str (.ofString "ἠι") 440)⟩, ⟨8089, (.int 8089 442), (.str (.ofString "ἡι") 443)⟩, ⟨8090, (.int 8090 445), (.str (.ofString "ἢι") 446)⟩, ⟨8091, (.int 8091 448), (.str (.ofString "ἣι") 449)⟩, ⟨8092, (.int 8092 451), (.str (.ofString "ἤι") 452)⟩, ⟨8093, (.int 8093 454), (.str (.ofString "ἥι") 455)⟩, ⟨8094, (.int 8094 457), (.str (.ofString "ἦι") 458)⟩, ⟨8095, (.int 8095 460), (.str (.ofString "ἧι") 461)⟩, ⟨8096, (.int 8096 463), (.str (.ofString "ὠι") 464)⟩, ⟨8097, (.int 8097 466), (.str (.ofString "ὡι") 467)⟩, ⟨8098, (.int 8098 469), (.str (.ofString "ὢι") 470)⟩, ⟨8099, (.int 8099 472), (.str (.ofString "ὣι") 473)⟩, ⟨8100, (.int 8100 475), (.str (.ofString "ὤι") 476)⟩, ⟨8101, (.int 8101 478), (.str (.ofString "ὥι") 479)⟩, ⟨8102, (.int 8102 481), (.str (.ofString "ὦι") 482)⟩, ⟨8103, (.int 8103 484), (.str (.ofString "ὧι") 485)⟩, ⟨8104, (.int 8104 487), (.str (.ofString "ὠι") 488)⟩, ⟨8105, (.int 8105 490), (.str (.ofString "ὡι") 491)⟩, ⟨8106, (.int 8106 493), (.str (.ofString "ὢι") 494)⟩, ⟨8107, (.int 8107 496), (.str (.ofString "ὣι") 497)⟩, ⟨8108, (.int 8108 499), (.str (.ofString "ὤι") 500)⟩, ⟨8109, (.int 8109 502), (.str (.ofString "ὥι") 503)⟩, ⟨8110, (.int 8110 505), (.str (.ofString "ὦι") 506)⟩, ⟨8111, (.int 8111 508), (.str (.ofString "ὧι") 509)⟩, ⟨8114, (.int 8114 511), (.str (.ofString "ὰι") 512)⟩, ⟨8115, (.int 8115 514), (.str (.ofString "αι") 515)⟩, ⟨8116, (.int 8116 517), (.str (.ofString "άι") 518)⟩, ⟨8118, (.int 8118 520), (.str (.ofString "ᾶ") 521)⟩, ⟨8119, (.int 8119 523), (.str (.ofString "ᾶι") 524)⟩, ⟨8124, (.int 8124 526), (.str (.ofString "αι") 527)⟩, ⟨8126, (.int 8126 529), (.str (.ofString "ι") 530)⟩, ⟨8130, (.int 8130 532), (.str (.ofString "ὴι") 533)⟩, ⟨8131, (.int 8131 535), (.str (.ofString "ηι") 536)⟩, ⟨8132, (.int 8132 538), (.str (.ofString "ήι") 539)⟩, ⟨8134, (.int 8134 541), (.str (.ofString "ῆ") 542)⟩, ⟨8135, (.int 8135 544), (.str (.ofString "ῆι") 545)⟩, ⟨8140, (.int 8140 547), (.str (.ofString "ηι") 548)⟩, ⟨8146, (.int 8146 550), (.str (.ofString "ῒ") 551)⟩, ⟨8147, (.int 8147 553), (.str (.ofString "ΐ") 554)⟩, ⟨8150, (.int 8150 556), (.str (.ofString "ῖ") 557)⟩, ⟨8151, (.int 8151 559), (.str (.ofString "ῗ") 560)⟩, ⟨8162, (.int 8162 562), (.str (.ofString "ῢ") 563)⟩, ⟨8163, (.int 8163 565), (.str (.ofString "ΰ") 566)⟩, ⟨8164, (.int 8164 568), (.str (.ofString "ῤ") 569)⟩, ⟨8166, (.int 8166 571), (.str (.ofString "ῦ") 572)⟩, ⟨8167, (.int 8167 574), (.str (.ofString "ῧ") 575)⟩, ⟨8178, (.int 8178 577), (.str (.ofString "ὼι") 578)⟩, ⟨8179, (.int 8179 580), (.str (.ofString "ωι") 581)⟩, ⟨8180, (.int 8180 583), (.str (.ofString "ώι") 584)⟩, ⟨8182, (.int 8182 586), (.str (.ofString "ῶ") 587)⟩, ⟨8183, (.int 8183 589), (.str (.ofString "ῶι") 590)⟩, ⟨8188, (.int 8188 592), (.str (.ofString "ωι") 593)⟩, ⟨8360, (.int 8360 595), (.str (.ofString "rs") 596)⟩, ⟨8450, (.int 8450 598), (.str (.ofString "c") 599)⟩, ⟨8451, (.int 8451 601), (.str (.ofString "°c") 602)⟩, ⟨8455, (.int 8455 604), (.str (.ofString "ɛ") 605)⟩, ⟨8457, (.int 8457 607), (.str (.ofString "°f") 608)⟩, ⟨8459, (.int 8459 610), (.str (.ofString "h") 611)⟩, ⟨8460, (.int 8460 613), (.str (.ofString "h") 614)⟩, ⟨8461, (.int 8461 616), (.str (.ofString "h") 617)⟩, ⟨8464, (.int 8464 619), (.str (.ofString "i") 620)⟩, ⟨8465, (.int 8465 622), (.str (.ofString "i") 623)⟩, ⟨8466, (.int 8466 625), (.str (.ofString "l") 626)⟩, ⟨8469, (.int 8469 628), (.str (.ofString "n") 629)⟩, ⟨8470, (.int 8470 631), (.str (.ofString "no") 632)⟩, ⟨8473, (.int 8473 634), (.str (.ofString "p") 635)⟩, ⟨8474, (.int 8474 637), (.str (.ofString "q") 638)⟩, ⟨8475, (.int 8475 640), (.str (.ofString "r") 641)⟩, ⟨8476, (.int 8476 643), (.str (.ofString "r") 644)⟩, ⟨8477, (.int 8477 646), (.str (.ofString "r") 647)⟩, ⟨8480, (.int 8480 649), (.str (.ofString "sm") 650)⟩, ⟨8481, (.int 8481 652), (.str (.ofString "tel") 653)⟩, ⟨8482, (.int 8482 655), (.str (.ofString "tm") 656)⟩, ⟨8484, (.int 8484 658), (.str (.ofString "z") 659)⟩, ⟨8488, (.int 8488 661), (.str (.ofString "z") 662)⟩, ⟨8492, (.int 8492 664), (.str (.ofString "b") 665)⟩, ⟨8493, (.int 8493 667), (.str (.ofString "c") 668)⟩, ⟨8496, (.int 8496 670), (.str (.ofString "e") 671)⟩, ⟨8497, (.int 8497 673), (.str (.ofString "f") 674)⟩, ⟨8499, (.int 8499 676), (.str (.ofString "m") 677)⟩, ⟨8510, (.int 8510 679), (.str (.ofString "γ") 680)⟩, ⟨8511, (.int 8511 682), (.str (.ofString "π") 683)⟩, ⟨8517, (.int 8517 685), (.str (.ofString "d") 686)⟩, ⟨13169, (.int 13169 688), (.str (.ofString "hpa") 689)⟩, ⟨13171, (.int 13171 691), (.str (.ofString "au") 692)⟩, ⟨13173, (.int 13173 694), (.str (.ofString "ov") 695)⟩, ⟨13184, (.int 13184 697), (.str (.ofString "pa") 698)⟩, ⟨13185, (.int 13185 700), (.str (.ofString "na") 701)⟩, ⟨13186, (.int 13186 703), (.str (.ofString "μa") 704)⟩, ⟨13187, (.int 13187 706), (.str (.ofString "ma") 707)⟩, ⟨13188, (.int 13188 709), (.str (.ofString "ka") 710)⟩, ⟨13189, (.int 13189 712), (.str (.ofString "kb") 713)⟩, ⟨13190, (.int 13190 715), (.str (.ofString "mb") 716)⟩, ⟨13191, (.int 13191 718), (.str (.ofString "gb") 719)⟩, ⟨13194, (.int 13194 721), (.str (.ofString "pf") 722)⟩, ⟨13195, (.int 13195 724), (.str (.ofString "nf") 725)⟩, ⟨13196, (.int 13196 727), (.str (.ofString "μf") 728)⟩, ⟨13200, (.int 13200 730), (.str (.ofString "hz") 731)⟩, ⟨13201, (.int 13201 733), (.str (.ofString "khz") 734)⟩, ⟨13202, (.int 13202 736), (.str (.ofString "mhz") 737)⟩, ⟨13203, (.int 13203 739), (.str (.ofString "ghz") 740)⟩, ⟨13204, (.int 13204 742), (.str (.ofString "thz") 743)⟩, ⟨13225, (.int 13225 745), (.str (.ofString "pa") 746)⟩, ⟨13226, (.int 13226 748), (.str (.ofString "kpa") 749)⟩, ⟨13227, (.int 13227 751), (.str (.ofString "mpa") 752)⟩, ⟨13228, (.int 13228 754), (.str (.ofString "gpa") 755)⟩, ⟨13236, (.int 13236 757), (.str (.ofString "pv") 758)⟩, ⟨13237, (.int 13237 760), (.str (.ofString "nv") 761)⟩, ⟨13238, (.int 13238 763), (.str (.ofString "μv") 764)⟩, ⟨13239, (.int 13239 766), (.str (.ofString "mv") 767)⟩, ⟨13240, (.int 13240 769), (.str (.ofString "kv") 770)⟩, ⟨13241, (.int 13241 772), (.str (.ofString "mv") 773)⟩, ⟨13242, (.int 13242 775), (.str (.ofString "pw") 776)⟩, ⟨13243, (.int 13243 778), (.str (.ofString "nw") 779)⟩, ⟨13244, (.int 13244 781), (.str (.ofString "μw") 782)⟩, ⟨13245, (.int 13245 784), (.str (.ofString "mw") 785)⟩, ⟨13246, (.int 13246 787), (.str (.ofString "kw") 788)⟩, ⟨13247, (.int 13247 790), (.str (.ofString "mw") 791)⟩, ⟨13248, (.int 13248 793), (.str (.ofString "kω") 794)⟩, ⟨13249, (.int 13249 796), (.str (.ofString "mω") 797)⟩, ⟨13251, (.int 13251 799), (.str (.ofString "bq") 800)⟩, ⟨13254, (.int 13254 802), (.str (.ofString "c∕kg") 803)⟩, ⟨13255, (.int 13255 805), (.str (.ofString "co.") 806)⟩, ⟨13256, (.int 13256 808), (.str (.ofString "db") 809)⟩, ⟨13257, (.int 13257 811), (.str (.ofString "gy") 812)⟩, ⟨13259, (.int 13259 814), (.str (.ofString "hp") 815)⟩, ⟨13261, (.int 13261 817), (.str (.ofString "kk") 818)⟩, ⟨13262, (.int 13262 820), (.str (.ofString "km") 821)⟩, ⟨13271, (.int 13271 823), (.str (.ofString "ph") 824)⟩, ⟨13273, (.int 13273 826), (.str (.ofString "ppm") 827)⟩, ⟨13274, (.int 13274 829), (.str (.ofString "pr") 830)⟩, ⟨13276, (.int 13276 832), (.str (.ofString "sv") 833)⟩, ⟨13277, (.int 13277 835), (.str (.ofString "wb") 836)⟩, ⟨64256, (.int 64256 838), (.str (.ofString "ff") 839)⟩, ⟨64257, (.int 64257 841), (.str (.ofString "fi") 842)⟩, ⟨64258, (.int 64258 844), (.str (.ofString "fl") 845)⟩, ⟨64259, (.int 64259 847), (.str (.ofString "ffi") 848)⟩, ⟨64260, (.int 64260 850), (.str (.ofString "ffl") 851)⟩, ⟨64261, (.int 64261 853), (.str (.ofString "st") 854)⟩, ⟨64262, (.int 64262 856), (.str (.ofString "st") 857)⟩, ⟨64275, (.int 64275 859), (.str (.ofString "մն") 860)⟩, ⟨64276, (.int 64276 862), (.str (.ofString "մե") 863)⟩, ⟨64277, (.int 64277 865), (.str (.ofString "մի") 866)⟩, ⟨64278, (.int 64278 868), (.str (.ofString "վն") 869)⟩, ⟨64279, (.int 64279 871), (.str (.ofString "մխ") 872)⟩, ⟨119808, (.int 119808 874), (.str (.ofString "a") 875)⟩, ⟨119809, (.int 119809 877), (.str (.ofString "b") 878)⟩, ⟨119810, (.int 119810 880), (.str (.ofString "c") 881)⟩, ⟨119811, (.int 119811 883), (.str (.ofString "d") 884)⟩, ⟨119812, (.int 119812 886), (.str (.ofString "e") 887)⟩, ⟨119813, (.int 119813 889), (.str (.ofString "f") 890)⟩, ⟨119814, (.int 119814 892), (.str (.ofString "g") 893)⟩, ⟨119815, (.int 119815 895), (.str (.ofString "h") 896)⟩, ⟨119816, (.int 119816 898), (.str (.ofString "i") 899)⟩, ⟨119817, (.int 119817 901), (.str (.ofString "j") 902)⟩, ⟨119818, (.int 119818 904), (.str (.ofString "k") 905)⟩, ⟨119819, (.int 119819 907), (.str (.ofString "l") 908)⟩, ⟨119820, (.int 119820 910), (.str (.ofString "m") 911)⟩, ⟨119821, (.int 119821 913), (.str (.ofString "n") 914)⟩, ⟨119822, (.int 119822 916), (.str (.ofString "o") 917)⟩, ⟨119823, (.int 119823 919), (.str (.ofString "p") 920)⟩, ⟨119824, (.int 119824 922), (.str (.ofString "q") 923)⟩, ⟨119825, (.int 119825 925), (.str (.ofString "r") 926)⟩, ⟨119826, (.int 119826 928), (.str (.ofString "s") 929)⟩, ⟨119827, (.int 119827 931), (.str (.ofString "t") 932)⟩, ⟨119828, (.int 119828 934), (.str (.ofString "u") 935)⟩, ⟨119829, (.int 119829 937), (.str (.ofString "v") 938)⟩, ⟨119830, (.int 119830 940), (.str (.ofString "w") 941)⟩, ⟨119831, (.int 119831 943), (.str (.ofString "x") 944)⟩, ⟨119832, (.int 119832 946), (.str (.ofString "y") 947)⟩, ⟨119833, (.int 119833 949), (.str (.ofString "z") 950)⟩, ⟨119860, (.int 119860 952), (.str (.ofString "a") 953)⟩, ⟨119861, (.int 119861 955), (.str (.ofString "b") 956)⟩, ⟨119862, (.int 119862 958), (.str (.ofString "c") 959)⟩, ⟨119863, (.int 119863 961), (.str (.ofString "d") 962)⟩, ⟨119864, (.int 119864 964), (.str (.ofString "e") 965)⟩, ⟨119865, (.int 119865 967), (.str (.ofString "f") 968)⟩, ⟨119866, (.int 119866 970), (.str (.ofString "g") 971)⟩, ⟨119867, (.int 119867 973), (.str (.ofString "h") 974)⟩, ⟨119868, (.int 119868 976), (.str (.ofString "i") 977)⟩, ⟨119869, (.int 119869 979), (.str (.ofString "j") 980)⟩, ⟨119870, (.int 119870 982), (.str (.ofString "k") 983)⟩, ⟨119871, (.int 119871 985), (.str (.ofString "l") 986)⟩, ⟨119872, (.int 119872 988), (.str (.ofString "m") 989)⟩, ⟨119873, (.int 119873 991), (.str (.ofString "n") 992)⟩, ⟨119874, (.int 119874 994), (.str (.ofString "o") 995)⟩, ⟨119875, (.int 119875 997), (.str (.ofString "p") 998)⟩, ⟨119876, (.int 119876 1000), (.str (.ofString "q") 1001)⟩, ⟨119877, (.int 119877 1003), (.str (.ofString "r") 1004)⟩, ⟨119878, (.int 119878 1006), (.str (.ofString "s") 1007)⟩, ⟨119879, (.int 119879 1009), (.str (.ofString "t") 1010)⟩, ⟨119880, (.int 119880 1012), (.str (.ofString "u") 1013)⟩, ⟨119881, (.int 119881 1015), (.str (.ofString "v") 1016)⟩, ⟨119882, (.int 119882 1018), (.str (.ofString "w") 1019)⟩, ⟨119883, (.int 119883 1021), (.str (.ofString "x") 1022)⟩, ⟨119884, (.int 119884 1024), (.str (.ofString "y") 1025)⟩, ⟨119885, (.int 119885 1027), (.str (.ofString "z") 1028)⟩, ⟨119912, (.int 119912 1030), (.str (.ofString "a") 1031)⟩, ⟨119913, (.int 119913 1033), (.str (.ofString "b") 1034)⟩, ⟨119914, (.int 119914 1036), (.str (.ofString "c") 1037)⟩, ⟨119915, (.int 119915 1039), (.str (.ofString "d") 1040)⟩, ⟨119916, (.int 119916 1042), (.str (.ofString "e") 1043)⟩, ⟨119917, (.int 119917 1045), (.str (.ofString "f") 1046)⟩, ⟨119918, (.int 119918 1048), (.str (.ofString "g") 1049)⟩, ⟨119919, (.int 119919 1051), (.str (.ofString "h") 1052)⟩, ⟨119920, (.int 119920 1054), (.str (.ofString "i") 1055)⟩, ⟨119921, (.int 119921 1057), (.str (.ofString "j") 1058)⟩, ⟨119922, (.int 119922 1060), (.str (.ofString "k") 1061)⟩, ⟨119923, (.int 119923 1063), (.str (.ofString "l") 1064)⟩, ⟨119924, (.int 119924 1066), (.str (.ofString "m") 1067)⟩, ⟨119925, (.int 119925 1069), (.str (.ofString "n") 1070)⟩, ⟨119926, (.int 119926 1072), (.str (.ofString "o") 1073)⟩, ⟨119927, (.int 119927 1075), (.str (.ofString "p") 1076)⟩, ⟨119928, (.int 119928 1078), (.str (.ofString "q") 1079)⟩, ⟨119929, (.int 119929 1081), (.str (.ofString "r") 1082)⟩, ⟨119930, (.int 119930 1084), (.str (.ofString "s") 1085)⟩, ⟨119931, (.int 119931 1087), (.str (.ofString "t") 1088)⟩, ⟨119932, (.int 119932 1090), (.str (.ofString "u") 1091)⟩, ⟨119933, (.int 119933 1093), (.str (.ofString "v") 1094)⟩, ⟨119934, (.int 119934 1096), (.str (.ofString "w") 1097)⟩, ⟨119935, (.int 119935 1099), (.str (.ofString "x") 1100)⟩, ⟨119936, (.int 119936 1102), (.str (.ofString "y") 1103)⟩, ⟨119937, (.int 119937 1105), (.str (.ofString "z") 1106)⟩, ⟨119964, (.int 119964 1108), (.str (.ofString "a") 1109)⟩, ⟨119966, (.int 119966 1111), (.str (.ofString "c") 1112)⟩, ⟨119967, (.int 119967 1114), (.str (.ofString "d") 1115)⟩, ⟨119970, (.int 119970 1117), (.str (.ofString "g") 1118)⟩, ⟨119973, (.int 119973 1120), (.str (.ofString "j") 1121)⟩, ⟨119974, (.int 119974 1123), (.str (.ofString "k") 1124)⟩, ⟨119977, (.int 119977 1126), (.str (.ofString "n") 1127)⟩, ⟨119978, (.int 119978 1129), (.str (.ofString "o") 1130)⟩, ⟨119979, (.int 119979 1132), (.str (.ofString "p") 1133)⟩, ⟨119980, (.int 119980 1135), (.str (.ofString "q") 1136)⟩, ⟨119982, (.int 119982 1138), (.str (.ofString "s") 1139)⟩, ⟨119983, (.int 119983 1141), (.str (.ofString "t") 1142)⟩, ⟨119984, (.int 119984 1144), (.str (.ofString "u") 1145)⟩, ⟨119985, (.int 119985 1147), (.str (.ofString "v") 1148)⟩, ⟨119986, (.int 119986 1150), (.str (.ofString "w") 1151)⟩, ⟨119987, (.int 119987 1153), (.str (.ofString "x") 1154)⟩, ⟨119988, (.int 119988 1156), (.str (.ofString "y") 1157)⟩, ⟨119989, (.int 119989 1159), (.str (.ofString "z") 1160)⟩, ⟨120016, (.int 120016 1162), (.str (.ofString "a") 1163)⟩, ⟨120017, (.int 120017 1165), (.str (.ofString "b") 1166)⟩, ⟨120018, (.int 120018 1168), (.str (.ofString "c") 1169)⟩, ⟨120019, (.int 120019 1171), (.str (.ofString "d") 1172)⟩, ⟨120020, (.int 120020 1174), (.str (.ofString "e") 1175)⟩, ⟨120021, (.int 120021 1177), (.str (.ofString "f") 1178)⟩, ⟨120022, (.int 120022 1180), (.str (.ofString "g") 1181)⟩, ⟨120023, (.int 120023 1183), (.str (.ofString "h") 1184)⟩, ⟨120024, (.int 120024 1186), (.str (.ofString "i") 1187)⟩, ⟨120025, (.int 120025 1189), (.str (.ofString "j") 1190)⟩, ⟨120026, (.int 120026 1192), (.str (.ofString "k") 1193)⟩, ⟨120027, (.int 120027 1195), (.str (.ofString "l") 1196)⟩, ⟨120028, (.int 120028 1198), (.str (.ofString "m") 1199)⟩, ⟨120029, (.int 120029 1201), (.str (.ofString "n") 1202)⟩, ⟨120030, (.int 120030 1204), (.str (.ofString "o") 1205)⟩, ⟨120031, (.int 120031 1207), (.str (.ofString "p") 1208)⟩, ⟨120032, (.int 120032 1210), (.str (.ofString "q") 1211)⟩, ⟨120033, (.int 120033 1213), (.str (.ofString "r") 1214)⟩, ⟨120034, (.int 120034 1216), (.str (.ofString "s") 1217)⟩, ⟨120035, (.int 120035 1219), (.str (.ofString "t") 1220)⟩, ⟨120036, (.int 120036 1222), (.str (.ofString "u") 1223)⟩, ⟨120037, (.int 120037 1225), (.str (.ofString "v") 1226)⟩, ⟨120038, (.int 120038 1228), (.str (.ofString "w") 1229)⟩, ⟨120039, (.int 120039 1231), (.str (.ofString "x") 1232)⟩, ⟨120040, (.int 120040 1234), (.str (.ofString "y") 1235)⟩, ⟨120041, (.int 120041 1237), (.str (.ofString "z") 1238)⟩, ⟨120068, (.int 120068 1240), (.str (.ofString "a") 1241)⟩, ⟨120069, (.int 120069 1243), (.str (.ofString "b") 1244)⟩, ⟨120071, (.int 120071 1246), (.str (.ofString "d") 1247)⟩, ⟨120072, (.int 120072 1249), (.str (.ofString "e") 1250)⟩, ⟨120073, (.int 120073 1252), (.str (.ofString "f") 1253)⟩, ⟨120074, (.int 120074 1255), (.str (.ofString "g") 1256)⟩, ⟨120077, (.int 120077 1258), (.str (.ofString "j") 1259)⟩, ⟨120078, (.int 120078 1261), (.str (.ofString "k") 1262)⟩, ⟨120079, (.int 120079 1264), (.str (.ofString "l") 1265)⟩, ⟨120080, (.int 120080 1267), (.str (.ofString "m") 1268)⟩, ⟨120081, (.int 120081 1270), (.str (.ofString "n") 1271)⟩, ⟨120082, (.int 120082 1273), (.str (.ofString "o") 1274)⟩, ⟨120083, (.int 120083 1276), (.str (.ofString "p") 1277)⟩, ⟨120084, (.int 120084 1279), (.str (.ofString "q") 1280)⟩, ⟨120086, (.int 120086 1282), (.str (.ofString "s") 1283)⟩, ⟨120087, (.int 120087 1285), (.str (.ofString "t") 1286)⟩, ⟨120088, (.int 120088 1288), (.str (.ofString "u") 1289)⟩, ⟨120089, (.int 120089 1291), (.str (.ofString "v") 1292)⟩, ⟨120090, (.int 120090 1294), (.str (.ofString "w") 1295)⟩, ⟨120091, (.int 120091 1297), (.str (.ofString "x") 1298)⟩, ⟨120092, (.int 120092 1300), (.str (.ofString "y") 1301)⟩, ⟨120120, (.int 120120 1303), (.str (.ofString "a") 1304)⟩, ⟨120121, (.int 120121 1306), (.str (.ofString "b") 1307)⟩, ⟨120123, (.int 120123 1309), (.str (.ofString "d") 1310)⟩, ⟨120124, (.int 120124 1312), (.str (.ofString "e") 1313)⟩, ⟨120125, (.int 120125 1315), (.str (.ofString "f") 1316)⟩, ⟨120126, (.int 120126 1318), (.str (.ofString "g") 1319)⟩, ⟨120128, (.int 120128 1321), (.str (.ofString "i") 1322)⟩, ⟨120129, (.int 120129 1324), (.str (.ofString "j") 1325)⟩, ⟨120130, (.int 120130 1327), (.str (.ofString "k") 1328)⟩, ⟨120131, (.int 120131 1330), (.str (.ofString "l") 1331)⟩, ⟨120132, (.int 120132 1333), (.str (.ofString "m") 1334)⟩, ⟨120134, (.int 120134 1336), (.str (.ofString "o") 1337)⟩, ⟨120138, (.int 120138 1339), (.str (.ofString "s") 1340)⟩, ⟨120139, (.int 120139 1342), (.str (.ofString "t") 1343)⟩, ⟨120140, (.int 120140 1345), (.str (.ofString "u") 1346)⟩, ⟨120141, (.int 120141 1348), (.str (.ofString "v") 1349)⟩, ⟨120142, (.int 120142 1351), (.str (.ofString "w") 1352)⟩, ⟨120143, (.int 120143 1354), (.str (.ofString "x") 1355)⟩, ⟨120144, (.int 120144 1357), (.str (.ofString "y") 1358)⟩, ⟨120172, (.int 120172 1360), (.str (.ofString "a") 1361)⟩, ⟨120173, (.int 120173 1363), (.str (.ofString "b") 1364)⟩, ⟨120174, (.int 120174 1366), (.str (.ofString "c") 1367)⟩, ⟨120175, (.int 120175 1369), (.str (.ofString "d") 1370)⟩, ⟨120176, (.int 120176 1372), (.str (.ofString "e") 1373)⟩, ⟨120177, (.int 120177 1375), (.str (.ofString "f") 1376)⟩, ⟨120178, (.int 120178 1378), (.str (.ofString "g") 1379)⟩, ⟨120179, (.int 120179 1381), (.str (.ofString "h") 1382)⟩, ⟨120180, (.int 120180 1384), (.str (.ofString "i") 1385)⟩, ⟨120181, (.int 120181 1387), (.str (.ofString "j") 1388)⟩, ⟨120182, (.int 120182 1390), (.str (.ofString "k") 1391)⟩, ⟨120183, (.int 120183 1393), (.str (.ofString "l") 1394)⟩, ⟨120184, (.int 120184 1396), (.str (.ofString "m") 1397)⟩, ⟨120185, (.int 120185 1399), (.str (.ofString "n") 1400)⟩, ⟨120186, (.int 120186 1402), (.str (.ofString "o") 1403)⟩, ⟨120187, (.int 120187 1405), (.str (.ofString "p") 1406)⟩, ⟨120188, (.int 120188 1408), (.str (.ofString "q") 1409)⟩, ⟨120189, (.int 120189 1411), (.str (.ofString "r") 1412)⟩, ⟨120190, (.int 120190 1414), (.str (.ofString "s") 1415)⟩, ⟨120191, (.int 120191 1417), (.str (.ofString "t") 1418)⟩, ⟨120192, (.int 120192 1420), (.str (.ofString "u") 1421)⟩, ⟨120193, (.int 120193 1423), (.str (.ofString "v") 1424)⟩, ⟨120194, (.int 120194 1426), (.str (.ofString "w") 1427)⟩, ⟨120195, (.int 120195 1429), (.str (.ofString "x") 1430)⟩, ⟨120196, (.int 120196 1432), (.str (.ofString "y") 1433)⟩, ⟨120197, (.int 120197 1435), (.str (.ofString "z") 1436)⟩, ⟨120224, (.int 120224 1438), (.str (.ofString "a") 1439)⟩, ⟨120225, (.int 120225 1441), (.str (.ofString "b") 1442)⟩, ⟨120226, (.int 120226 1444), (.str (.ofString "c") 1445)⟩, ⟨120227, (.int 120227 1447), (.str (.ofString "d") 1448)⟩, ⟨120228, (.int 120228 1450), (.str (.ofString "e") 1451)⟩, ⟨120229, (.int 120229 1453), (.str (.ofString "f") 1454)⟩, ⟨120230, (.int 120230 1456), (.str (.ofString "g") 1457)⟩, ⟨120231, (.int 120231 1459), (.str (.ofString "h") 1460)⟩, ⟨120232, (.int 120232 1462), (.str (.ofString "i") 1463)⟩, ⟨120233, (.int 120233 1465), (.str (.ofString "j") 1466)⟩, ⟨120234, (.int 120234 1468), (.str (.ofString "k") 1469)⟩, ⟨120235, (.int 120235 1471), (.str (.ofString "l") 1472)⟩, ⟨120236, (.int 120236 1474), (.str (.ofString "m") 1475)⟩, ⟨120237, (.int 120237 1477), (.str (.ofString "n") 1478)⟩, ⟨120238, (.int 120238 1480), (.str (.ofString "o") 1481)⟩, ⟨120239, (.int 120239 1483), (.str (.ofString "p") 1484)⟩, ⟨120240, (.int 120240 1486), (.str (.ofString "q") 1487)⟩, ⟨120241, (.int 120241 1489), (.str (.ofString "r") 1490)⟩, ⟨120242, (.int 120242 1492), (.str (.ofString "s") 1493)⟩, ⟨120243, (.int 120243 1495), (.str (.ofString "t") 1496)⟩, ⟨120244, (.int 120244 1498), (.str (.ofString "u") 1499)⟩, ⟨120245, (.int 120245 1501), (.str (.ofString "v") 1502)⟩, ⟨120246, (.int 120246 1504), (.str (.ofString "w") 1505)⟩, ⟨120247, (.int 120247 1507), (.str (.ofString "x") 1508)⟩, ⟨120248, (.int 120248 1510), (.str (.ofString "y") 1511)⟩, ⟨120249, (.int 120249 1513), (.str (.ofString "z") 1514)⟩, ⟨120276, (.int 120276 1516), (.str (.ofString "a") 1517)⟩, ⟨120277, (.int 120277 1519), (.str (.ofString "b") 1520)⟩, ⟨120278, (.int 120278 1522), (.str (.ofString "c") 1523)⟩, ⟨120279, (.int 120279 1525), (.str (.ofString "d") 1526)⟩, ⟨120280, (.int 120280 1528), (.str (.ofString "e") 1529)⟩, ⟨120281, (.int 120281 1531), (.str (.ofString "f") 1532)⟩, ⟨120282, (.int 120282 1534), (.str (.ofString "g") 1535)⟩, ⟨120283, (.int 120283 1537), (.str (.ofString "h") 1538)⟩, ⟨120284, (.int 120284 1540), (.str (.ofString "i") 1541)⟩, ⟨120285, (.int 120285 1543), (.str (.ofString "j") 1544)⟩, ⟨120286, (.int 120286 1546), (.str (.ofString "k") 1547)⟩, ⟨120287, (.int 120287 1549), (.str (.ofString "l") 1550)⟩, ⟨120288, (.int 120288 1552), (.str (.ofString "m") 1553)⟩, ⟨120289, (.int 120289 1555), (.str (.ofString "n") 1556)⟩, ⟨120290, (.int 120290 1558), (.str (.ofString "o") 1559)⟩, ⟨120291, (.int 120291 1561), (.str (.ofString "p") 1562)⟩, ⟨120292, (.int 120292 1564), (.str (.ofString "q") 1565)⟩, ⟨120293, (.int 120293 1567), (.str (.ofString "r") 1568)⟩, ⟨120294, (.int 120294 1570), (.str (.ofString "s") 1571)⟩, ⟨120295, (.int 120295 1573), (.str (.ofString "t") 1574)⟩, ⟨120296, (.int 120296 1576), (.str (.ofString "u") 1577)⟩, ⟨120297, (.int 120297 1579), (.str (.ofString "v") 1580)⟩, ⟨120298, (.int 120298 1582), (.str (.ofString "w") 1583)⟩, ⟨120299, (.int 120299 1585), (.str (.ofString "x") 1586)⟩, ⟨120300, (.int 120300 1588), (.str (.ofString "y") 1589)⟩, ⟨120301, (.int 120301 1591), (.str (.ofString "z") 1592)⟩, ⟨120328, (.int 120328 1594), (.str (.ofString "a") 1595)⟩, ⟨120329, (.int 120329 1597), (.str (.ofString "b") 1598)⟩, ⟨120330, (.int 120330 1600), (.str (.ofString "c") 1601)⟩, ⟨120331, (.int 120331 1603), (.str (.ofString "d") 1604)⟩, ⟨120332, (.int 120332 1606), (.str (.ofString "e") 1607)⟩, ⟨120333, (.int 120333 1609), (.str (.ofString "f") 1610)⟩, ⟨120334, (.int 120334 1612), (.str (.ofString "g") 1613)⟩, ⟨120335, (.int 120335 1615), (.str (.ofString "h") 1616)⟩, ⟨120336, (.int 120336 1618), (.str (.ofString "i") 1619)⟩, ⟨120337, (.int 120337 1621), (.str (.ofString "j") 1622)⟩, ⟨120338, (.int 120338 1624), (.str (.ofString "k") 1625)⟩, ⟨120339, (.int 120339 1627), (.str (.ofString "l") 1628)⟩, ⟨120340, (.int 120340 1630), (.str (.ofString "m") 1631)⟩, ⟨120341, (.int 120341 1633), (.str (.ofString "n") 1634)⟩, ⟨120342, (.int 120342 1636), (.str (.ofString "o") 1637)⟩, ⟨120343, (.int 120343 1639), (.str (.ofString "p") 1640)⟩, ⟨120344, (.int 120344 1642), (.str (.ofString "q") 1643)⟩, ⟨120345, (.int 120345 1645), (.str (.ofString "r") 1646)⟩, ⟨120346, (.int 120346 1648), (.str (.ofString "s") 1649)⟩, ⟨120347, (.int 120347 1651), (.str (.ofString "t") 1652)⟩, ⟨120348, (.int 120348 1654), (.str (.ofString "u") 1655)⟩, ⟨120349, (.int 120349 1657), (.str (.ofString "v") 1658)⟩, ⟨120350, (.int 120350 1660), (.str (.ofString "w") 1661)⟩, ⟨120351, (.int 120351 1663), (.str (.ofString "x") 1664)⟩, ⟨120352, (.int 120352 1666), (.str (.ofString "y") 1667)⟩, ⟨120353, (.int 120353 1669), (.str (.ofString "z") 1670)⟩, ⟨120380, (.int 120380 1672), (.str (.ofString "a") 1673)⟩, ⟨120381, (.int 120381 1675), (.str (.ofString "b") 1676)⟩, ⟨120382, (.int 120382 1678), (.str (.ofString "c") 1679)⟩, ⟨120383, (.int 120383 1681), (.str (.ofString "d") 1682)⟩, ⟨120384, (.int 120384 1684), (.str (.ofString "e") 1685)⟩, ⟨120385, (.int 120385 1687), (.str (.ofString "f") 1688)⟩, ⟨120386, (.int 120386 1690), (.str (.ofString "g") 1691)⟩, ⟨120387, (.int 120387 1693), (.str (.ofString "h") 1694)⟩, ⟨120388, (.int 120388 1696), (.str (.ofString "i") 1697)⟩, ⟨120389, (.int 120389 1699), (.str (.ofString "j") 1700)⟩, ⟨120390, (.int 120390 1702), (.str (.ofString "k") 1703)⟩, ⟨120391, (.int 120391 1705), (.str (.ofString "l") 1706)⟩, ⟨120392, (.int 120392 1708), (.str (.ofString "m") 1709)⟩, ⟨120393, (.int 120393 1711), (.str (.ofString "n") 1712)⟩, ⟨120394, (.int 120394 1714), (.str (.ofString "o") 1715)⟩, ⟨120395, (.int 120395 1717), (.str (.ofString "p") 1718)⟩, ⟨120396, (.int 120396 1720), (.str (.ofString "q") 1721)⟩, ⟨120397, (.int 120397 1723), (.str (.ofString "r") 1724)⟩, ⟨120398, (.int 120398 1726), (.str (.ofString "s") 1727)⟩, ⟨120399, (.int 120399 1729), (.str (.ofString "t") 1730)⟩, ⟨120400, (.int 120400 1732), (.str (.ofString "u") 1733)⟩, ⟨120401, (.int 120401 1735), (.str (.ofString "v") 1736)⟩, ⟨120402, (.int 120402 1738), (.str (.ofString "w") 1739)⟩, ⟨120403, (.int 120403 1741), (.str (.ofString "x") 1742)⟩, ⟨120404, (.int 120404 1744), (.str (.ofString "y") 1745)⟩, ⟨120405, (.int 120405 1747), (.str (.ofString "z") 1748)⟩, ⟨120432, (.int 120432 1750), (.str (.ofString "a") 1751)⟩, ⟨120433, (.int 120433 1753), (.str (.ofString "b") 1754)⟩, ⟨120434, (.int 120434 1756), (.str (.ofString "c") 1757)⟩, ⟨120435, (.int 120435 1759), (.str (.ofString "d") 1760)⟩, ⟨120436, (.int 120436 1762), (.str (.ofString "e") 1763)⟩, ⟨120437, (.int 120437 1765), (.str (.ofString "f") 1766)⟩, ⟨120438, (.int 120438 1768), (.str (.ofString "g") 1769)⟩, ⟨120439, (.int 120439 1771), (.str (.ofString "h") 1772)⟩, ⟨120440, (.int 120440 1774), (.str (.ofString "i") 1775)⟩, ⟨120441, (.int 120441 1777), (.str (.ofString "j") 1778)⟩, ⟨120442, (.int 120442 1780), (.str (.ofString "k") 1781)⟩, ⟨120443, (.int 120443 1783), (.str (.ofString "l") 1784)⟩, ⟨120444, (.int 120444 1786), (.str (.ofString "m") 1787)⟩, ⟨120445, (.int 120445 1789), (.str (.ofString "n") 1790)⟩, ⟨120446, (.int 120446 1792), (.str (.ofString "o") 1793)⟩, ⟨120447, (.int 120447 1795), (.str (.ofString "p") 1796)⟩, ⟨120448, (.int 120448 1798), (.str (.ofString "q") 1799)⟩, ⟨120449, (.int 120449 1801), (.str (.ofString "r") 1802)⟩, ⟨120450, (.int 120450 1804), (.str (.ofString "s") 1805)⟩, ⟨120451, (.int 120451 1807), (.str (.ofString "t") 1808)⟩, ⟨120452, (.int 120452 1810), (.str (.ofString "u") 1811)⟩, ⟨120453, (.int 120453 1813), (.str (.ofString "v") 1814)⟩, ⟨120454, (.int 120454 1816), (.str (.ofString "w") 1817)⟩, ⟨120455, (.int 120455 1819), (.str (.ofString "x") 1820)⟩, ⟨120456, (.int 120456 1822), (.str (.ofString "y") 1823)⟩, ⟨120457, (.int 120457 1825), (.str (.ofString "z") 1826)⟩, ⟨120488, (.int 120488 1828), (.str (.ofString "α") 1829)⟩, ⟨120489, (.int 120489 1831), (.str (.ofString "β") 1832)⟩, ⟨120490, (.int 120490 1834), (.str (.ofString "γ") 1835)⟩, ⟨120491, (.int 120491 1837), (.str (.ofString "δ") 1838)⟩, ⟨120492, (.int 120492 1840), (.str (.ofString "ε") 1841)⟩, ⟨120493, (.int 120493 1843), (.str (.ofString "ζ") 1844)⟩, ⟨120494, (.int 120494 1846), (.str (.ofString "η") 1847)⟩, ⟨120495, (.int 120495 1849), (.str (.ofString "θ") 1850)⟩, ⟨120496, (.int 120496 1852), (.str (.ofString "ι") 1853)⟩, ⟨120497, (.int 120497 1855), (.str (.ofString "κ") 1856)⟩, ⟨120498, (.int 120498 1858), (.str (.ofString "λ") 1859)⟩, ⟨120499, (.int 120499 1861), (.str (.ofString "μ") 1862)⟩, ⟨120500, (.int 120500 1864), (.str (.ofString "ν") 1865)⟩, ⟨120501, (.int 120501 1867), (.str (.ofString "ξ") 1868)⟩, ⟨120502, (.int 120502 1870), (.str (.ofString "ο") 1871)⟩, ⟨120503, (.int 120503 1873), (.str (.ofString "π") 1874)⟩, ⟨120504, (.int 120504 1876), (.str (.ofString "ρ") 1877)⟩, ⟨120505, (.int 120505 1879), (.str (.ofString "θ") 1880)⟩, ⟨120506, (.int 120506 1882), (.str (.ofString "σ") 1883)⟩, ⟨120507, (.int 120507 1885), (.str (.ofString "τ") 1886)⟩, ⟨120508, (.int 120508 1888), (.str (.ofString "υ") 1889)⟩, ⟨120509, (.int 120509 1891), (.str (.ofString "φ") 1892)⟩, ⟨120510, (.int 120510 1894), (.str (.ofString "χ") 1895)⟩, ⟨120511, (.int 120511 1897), (.str (.ofString "ψ") 1898)⟩, ⟨120512, (.int 120512 1900), (.str (.ofString "ω") 1901)⟩, ⟨120531, (.int 120531 1903), (.str (.ofString "σ") 1904)⟩, ⟨120546, (.int 120546 1906), (.str (.ofString "α") 1907)⟩, ⟨120547, (.int 120547 1909), (.str (.ofString "β") 1910)⟩, ⟨120548, (.int 120548 1912), (.str (.ofString "γ") 1913)⟩, ⟨120549, (.int 120549 1915), (.str (.ofString "δ") 1916)⟩, ⟨120550, (.int 120550 1918), (.str (.ofString "ε") 1919)⟩, ⟨120551, (.int 120551 1921), (.str (.ofString "ζ") 1922)⟩, ⟨120552, (.int 120552 1924), (.str (.ofString "η") 1925)⟩, ⟨120553, (.int 120553 1927), (.str (.ofString "θ") 1928)⟩, ⟨120554, (.int 120554 1930), (.str (.ofString "ι") 1931)⟩, ⟨120555, (.int 120555 1933), (.str (.ofString "κ") 1934)⟩, ⟨120556, (.int 120556 1936), (.str (.ofString "λ") 1937)⟩, ⟨120557, (.int 120557 1939), (.str (.ofString "μ") 1940)⟩, ⟨120558, (.int 120558 1942), (.str (.ofString "ν") 1943)⟩, ⟨120559, (.int 120559 1945), (.str (.ofString "ξ") 1946)⟩, ⟨120560, (.int 120560 1948), (.str (.ofString "ο") 1949)⟩, ⟨120561, (.int 120561 1951), (.str (.ofString "π") 1952)⟩, ⟨120562, (.int 120562 1954), (.str (.ofString "ρ") 1955)⟩, ⟨120563, (.int 120563 1957), (.str (.ofString "θ") 1958)⟩, ⟨120564, (.int 120564 1960), (.str (.ofString "σ") 1961)⟩, ⟨120565, (.int 120565 1963), (.str (.ofString "τ") 1964)⟩, ⟨120566, (.int 120566 1966), (.str (.ofString "υ") 1967)⟩, ⟨120567, (.int 120567 1969), (.str (.ofString "φ") 1970)⟩, ⟨120568, (.int 120568 1972), (.str (.ofString "χ") 1973)⟩, ⟨120569, (.int 120569 1975), (.str (.ofString "ψ") 1976)⟩, ⟨120570, (.int 120570 1978), (.str (.ofString "ω") 1979)⟩, ⟨120589, (.int 120589 1981), (.str (.ofString "σ") 1982)⟩, ⟨120604, (.int 120604 1984), (.str (.ofString "α") 1985)⟩, ⟨120605, (.int 120605 1987), (.str (.ofString "β") 1988)⟩, ⟨120606, (.int 120606 1990), (.str (.ofString "γ") 1991)⟩, ⟨120607, (.int 120607 1993), (.str (.ofString "δ") 1994)⟩, ⟨120608, (.int 120608 1996), (.str (.ofString "ε") 1997)⟩, ⟨120609, (.int 120609 1999), (.str (.ofString "ζ") 2000)⟩, ⟨120610, (.int 120610 2002), (.str (.ofString "η") 2003)⟩, ⟨120611, (.int 120611 2005), (.str (.ofString "θ") 2006)⟩, ⟨120612, (.int 120612 2008), (.str (.ofString "ι") 2009)⟩, ⟨120613, (.int 120613 2011), (.str (.ofString "κ") 2012)⟩, ⟨120614, (.int 120614 2014), (.str (.ofString "λ") 2015)⟩, ⟨120615, (.int 120615 2017), (.str (.ofString "μ") 2018)⟩, ⟨120616, (.int 120616 2020), (.str (.ofString "ν") 2021)⟩, ⟨120617, (.int 120617 2023), (.str (.ofString "ξ") 2024)⟩, ⟨120618, (.int 120618 2026), (.str (.ofString "ο") 2027)⟩, ⟨120619, (.int 120619 2029), (.str (.ofString "π") 2030)⟩, ⟨120620, (.int 120620 2032), (.str (.ofString "ρ") 2033)⟩, ⟨120621, (.int 120621 2035), (.str (.ofString "θ") 2036)⟩, ⟨120622, (.int 120622 2038), (.str (.ofString "σ") 2039)⟩, ⟨120623, (.int 120623 2041), (.str (.ofString "τ") 2042)⟩, ⟨120624, (.int 120624 2044), (.str (.ofString "υ") 2045)⟩, ⟨120625, (.int 120625 2047), (.str (.ofString "φ") 2048)⟩, ⟨120626, (.int 120626 2050), (.str (.ofString "χ") 2051)⟩, ⟨120627, (.int 120627 2053), (.str (.ofString "ψ") 2054)⟩, ⟨120628, (.int 120628 2056), (.str (.ofString "ω") 2057)⟩, ⟨120647, (.int 120647 2059), (.str (.ofString "σ") 2060)⟩, ⟨120662, (.int 120662 2062), (.str (.ofString "α") 2063)⟩, ⟨120663, (.int 120663 2065), (.str (.ofString "β") 2066)⟩, ⟨120664, (.int 120664 2068), (.str (.ofString "γ") 2069)⟩, ⟨120665, (.int 120665 2071), (.str (.ofString "δ") 2072)⟩, ⟨120666, (.int 120666 2074), (.str (.ofString "ε") 2075)⟩, ⟨120667, (.int 120667 2077), (.str (.ofString "ζ") 2078)⟩, ⟨120668, (.int 120668 2080), (.str (.ofString "η") 2081)⟩, ⟨120669, (.int 120669 2083), (.str (.ofString "θ") 2084)⟩, ⟨120670, (.int 120670 2086), (.str (.ofString "ι") 2087)⟩, ⟨120671, (.int 120671 2089), (.str (.ofString "κ") 2090)⟩, ⟨120672, (.int 120672 2092), (.str (.ofString "λ") 2093)⟩, ⟨120673, (.int 120673 2095), (.str (.ofString "μ") 2096)⟩, ⟨120674, (.int 120674 2098), (.str (.ofString "ν") 2099)⟩, ⟨120675, (.int 120675 2101), (.str (.ofString "ξ") 2102)⟩, ⟨120676, (.int 120676 2104), (.str (.ofString "ο") 2105)⟩, ⟨120677, (.int 120677 2107), (.str (.ofString "π") 2108)⟩, ⟨120678, (.int 120678 2110), (.str (.ofString "ρ") 2111)⟩, ⟨120679, (.int 120679 2113), (.str (.ofString "θ") 2114)⟩, ⟨120680, (.int 120680 2116), (.str (.ofString "σ") 2117)⟩, ⟨120681, (.int 120681 2119), (.str (.ofString "τ") 2120)⟩, ⟨120682, (.int 120682 2122), (.str (.ofString "υ") 2123)⟩, ⟨120683, (.int 120683 2125), (.str (.ofString "φ") 2126)⟩, ⟨120684, (.int 120684 2128), (.str (.ofString "χ") 2129)⟩, ⟨120685, (.int 120685 2131), (.str (.ofString "ψ") 2132)⟩, ⟨120686, (.int 120686 2134), (.str (.ofString "ω") 2135)⟩, ⟨120705, (.int 120705 2137), (.str (.ofString "σ") 2138)⟩, ⟨120720, (.int 120720 2140), (.str (.ofString "α") 2141)⟩, ⟨120721, (.int 120721 2143), (.str (.ofString "β") 2144)⟩, ⟨120722, (.int 120722 2146), (.str (.ofString "γ") 2147)⟩, ⟨120723, (.int 120723 2149), (.str (.ofString "δ") 2150)⟩, ⟨120724, (.int 120724 2152), (.str (.ofString "ε") 2153)⟩, ⟨120725, (.int 120725 2155), (.str (.ofString "ζ") 2156)⟩, ⟨120726, (.int 120726 2158), (.str (.ofString "η") 2159)⟩, ⟨120727, (.int 120727 2161), (.str (.ofString "θ") 2162)⟩, ⟨120728, (.int 120728 2164), (.str (.ofString "ι") 2165)⟩, ⟨120729, (.int 120729 2167), (.str (.ofString "κ") 2168)⟩, ⟨120730, (.int 120730 2170), (.str (.ofString "λ") 2171)⟩, ⟨120731, (.int 120731 2173), (.str (.ofString "μ") 2174)⟩, ⟨120732, (.int 120732 2176), (.str (.ofString "ν") 2177)⟩, ⟨120733, (.int 120733 2179), (.str (.ofString "ξ") 2180)⟩, ⟨120734, (.int 120734 2182), (.str (.ofString "ο") 2183)⟩, ⟨120735, (.int 120735 2185), (.str (.ofString "π") 2186)⟩, ⟨120736, (.int 120736 2188), (.str (.ofString "ρ") 2189)⟩, ⟨120737, (.int 120737 2191), (.str (.ofString "θ") 2192)⟩, ⟨120738, (.int 120738 2194), (.str (.ofString "σ") 2195)⟩, ⟨120739, (.int 120739 2197), (.str (.ofString "τ") 2198)⟩, ⟨120740, (.int 120740 2200), (.str (.ofString "υ") 2201)⟩, ⟨120741, (.int 120741 2203), (.str (.ofString "φ") 2204)⟩, ⟨120742, (.int 120742 2206), (.str (.ofString "χ") 2207)⟩, ⟨120743, (.int 120743 2208), (.str (.ofString "ψ") 2209)⟩, ⟨120744, (.int 120744 2210), (.str (.ofString "ω") 2211)⟩, ⟨120763, (.int 120763 2212), (.str (.ofString "σ") 2213)⟩].toArray 650), #[]⟩
noncomputable def o41_5 (P : Params) : Obj := ⟨(.type "dict"), none, (.dict [⟨982, (.int 982 319), (.str (.ofString "π") 320)⟩, ⟨1008, (.int 1008 322), (.str (.ofString "κ") 323)⟩, ⟨1009, (.int 1009 325), (.str (.ofString "ρ") 326)⟩, ⟨1010, (.int 1010 328), (.str (.ofString "σ") 329)⟩, ⟨1013, (.int 1013 331), (.str (.ofString "ε") 332)⟩, ⟨1415, (.int 1415 334), (.str (.ofString "եւ") 335)⟩, ⟨7830, (.int 7830 337), (.str (.ofString "ẖ") 338)⟩, ⟨7831, (.int 7831 340), (.str (.ofString "ẗ") 341)⟩, ⟨7832, (.int 7832 343), (.str (.ofString "ẘ") 344)⟩, ⟨7833, (.int 7833 346), (.str (.ofString "ẙ") 347)⟩, ⟨7834, (.int 7834 349), (.str (.ofString "aʾ") 350)⟩, ⟨7835, (.int 7835 352), (.str (.ofString "ṡ") 353)⟩, ⟨8016, (.int 8016 355), (.str (.ofString "ὐ") 356)⟩, ⟨8018, (.int 8018 358), (.str (.ofString "ὒ") 359)⟩, ⟨8020, (.int 8020 361), (.str (.ofString "ὔ") 362)⟩, ⟨8022, (.int 8022 364), (.str (.ofString "ὖ") 365)⟩, ⟨8064, (.int 8064 367), (.str (.ofString "ἀι") 368)⟩].toArray 17), #[]⟩
noncomputable def o42_5 (P : Params) : Obj := ⟨(.type "dict"), none, (.dict [⟨8065, (.int 8065 370), (.str (.ofString "ἁι") 371)⟩, ⟨8066, (.int 8066 373), (.str (.ofString "ἂι") 374)⟩, ⟨8067, (.int 8067 376), (.str (.ofString "ἃι") 377)⟩, ⟨8068, (.int 8068 379), (.str (.ofString "ἄι") 380)⟩, ⟨8069, (.int 8069 382), (.str (.ofString "ἅι") 383)⟩, ⟨8070, (.int 8070 385), (.str (.ofString "ἆι") 386)⟩, ⟨8071, (.int 8071 388), (.str (.ofString "ἇι") 389)⟩, ⟨8072, (.int 8072 391), (.str (.ofString "ἀι") 392)⟩, ⟨8073, (.int 8073 394), (.str (.ofString "ἁι") 395)⟩, ⟨8074, (.int 8074 397), (.str (.ofString "ἂι") 398)⟩, ⟨8075, (.int 8075 400), (.str (.ofString "ἃι") 401)⟩, ⟨8076, (.int 8076 403), (.str (.ofString "ἄι") 404)⟩, ⟨8077, (.int 8077 406), (.str (.ofString "ἅι") 407)⟩, ⟨8078, (.int 8078 409), (.str (.ofString "ἆι") 410)⟩, ⟨8079, (.int 8079 412), (.str (.ofString "ἇι") 413)⟩, ⟨8080, (.int 8080 415), (.str (.ofString "ἠι") 416)⟩, ⟨8081, (.int 8081 418), (.str (.ofString "ἡι") 419)⟩].toArray 17), #[]⟩
noncomputable def o43_5 (P : Params) : Obj := ⟨(.type "dict"), none, (.dict [⟨8082, (.int 8082 421), (.str (.ofString "ἢι") 422)⟩, ⟨8083, (.int 8083 424), (.str (.ofString "ἣι") 425)⟩, ⟨8084, (.int 8084 427), (.str (.ofString "ἤι") 428)⟩, ⟨8085, (.int 8085 430), (.str (.ofString "ἥι") 431)⟩, ⟨8086, (.int 8086 433), (.str (.ofString "ἦι") 434)⟩, ⟨8087, (.int 8087 436), (.str (.ofString "ἧι") 437)⟩, ⟨8088, (.int 8088 439), (.str (.ofString "ἠι") 440)⟩, ⟨8089, (.int 8089 442), (.str (.ofString "ἡι") 443)⟩, ⟨8090, (.int 8090 445), (.str (.ofString "ἢι") 446)⟩, ⟨8091, (.int 8091 448), (.str (.ofString "ἣι") 449)⟩, ⟨8092, (.int 8092 451), (.str (.ofString "ἤι") 452)⟩, ⟨8093, (.int 8093 454), (.str (.ofString "ἥι") 455)⟩, ⟨8094, (.int 8094 457), (.str (.ofString "ἦι") 458)⟩, ⟨8095, (.int 8095 460), (.str (.ofString "ἧι") 461)⟩, ⟨8096, (.int 8096 463), (.str (.ofString "ὠι") 464)⟩, ⟨8097, (.int 8097 466), (.str (.ofString "ὡι") 467)⟩, ⟨8098, (.int 8098 469), (.str (.ofString "ὢι") 470)⟩].toArray 17), #[]⟩
noncomputable def o44_5 (P : Params) : Obj := ⟨(.type "dict"), none, (.dict [⟨8099, (.int 8099 472), (.str (.ofString "ὣι") 473)⟩, ⟨8100, (.int 8100 475), (.str (.ofString "ὤι") 476)⟩, ⟨8101, (.int 8101 478), (.str (.ofString "ὥι") 479)⟩, ⟨8102, (.int 8102 481), (.str (.ofString "ὦι") 482)⟩, ⟨8103, (.int 8103 484), (.str (.ofString "ὧι") 485)⟩, ⟨8104, (.int 8104 487), (.str (.ofString "ὠι") 488)⟩, ⟨8105, (.int 8105 490), (.str (.ofString "ὡι") 491)⟩, ⟨8106, (.int 8106 493), (.str (.ofString "ὢι") 494)⟩, ⟨8107, (.int 8107 496), (.str (.ofString "ὣι") 497)⟩, ⟨8108, (.int 8108 499), (.str (.ofString "ὤι") 500)⟩, ⟨8109, (.int 8109 502), (.str (.ofString "ὥι") 503)⟩, ⟨8110, (.int 8110 505), (.str (.ofString "ὦι") 506)⟩, ⟨8111, (.int 8111 508), (.str (.ofString "ὧι") 509)⟩, ⟨8114, (.int 8114 511), (.str (.ofString "ὰι") 512)⟩, ⟨8115, (.int 8115 514), (.str (.ofString "αι") 515)⟩, ⟨8116, (.int 8116 517), (.str (.ofString "άι") 518)⟩, ⟨8118, (.int 8118 520), (.str (.ofString "ᾶ") 521)⟩].toArray 17), #[]⟩
noncomputable def o45_5 (P : Params) : Obj := ⟨(.type "dict"), none, (.dict [⟨8119, (.int 8119 523), (.str (.ofString "ᾶι") 524)⟩, ⟨8124, (.int 8124 526), (.str (.ofString "αι") 527)⟩, ⟨8126, (.int 8126 529), (.str (.ofString "ι") 530)⟩, ⟨8130, (.int 8130 532), (.str (.ofString "ὴι") 533)⟩, ⟨8131, (.int 8131 535), (.str (.ofString "ηι") 536)⟩, ⟨8132, (.int 8132 538), (.str (.ofString "ήι") 539)⟩, ⟨8134, (.int 8134 541), (.str (.ofString "ῆ") 542)⟩, ⟨8135, (.int 8135 544), (.str (.ofString "ῆι") 545)⟩, ⟨8140, (.int 8140 547), (.str (.ofString "ηι") 548)⟩, ⟨8146, (.int 8146 550), (.str (.ofString "ῒ") 551)⟩, ⟨8147, (.int 8147 553), (.str (.ofString "ΐ") 554)⟩, ⟨8150, (.int 8150 556), (.str (.ofString "ῖ") 557)⟩, ⟨8151, (.int 8151 559), (.str (.ofString "ῗ") 560)⟩, ⟨8162, (.int 8162 562), (.str (.ofString "ῢ") 563)⟩, ⟨8163, (.int 8163 565), (.str (.ofString "ΰ") 566)⟩, ⟨8164, (.int 8164 568), (.str (.ofString "ῤ") 569)⟩, ⟨8166, (.int 8166 571), (.str (.ofString "ῦ") 572)⟩].toArray 17), #[]⟩
noncomputable def o46_5 (P : Params) : Obj := ⟨(.type "dict"), none, (.dict [⟨8167, (.int 8167 574), (.str (.ofString "ῧ") 575)⟩, ⟨8178, (.int 8178 577), (.str (.ofString "ὼι") 578)⟩, ⟨8179, (.int 8179 580), (.str (.ofString "ωι") 581)⟩, ⟨8180, (.int 8180 583), (.str (.ofString "ώι") 584)⟩, ⟨8182, (.int 8182 586), (.str (.ofString "ῶ") 587)⟩, ⟨8183, (.int 8183 589), (.str (.ofString "ῶι") 590)⟩, ⟨8188, (.int 8188 592), (.str (.ofString "ωι") 593)⟩, ⟨8360, (.int 8360 595), (.str (.ofString "rs") 596)⟩, ⟨8450, (.int 8450 598), (.str (.ofString "c") 599)⟩, ⟨8451, (.int 8451 601), (.str (.ofString "°c") 602)⟩, ⟨8455, (.int 8455 604), (.str (.ofString "ɛ") 605)⟩, ⟨8457, (.int 8457 607), (.str (.ofString "°f") 608)⟩, ⟨8459, (.int 8459 610), (.str (.ofString "h") 611)⟩, ⟨8460, (.int 8460 613), (.str (.ofString "h") 614)⟩, ⟨8461, (.int 8461 616), (.str (.ofString "h") 617)⟩, ⟨8464, (.int 8464 619), (.str (.ofString "i") 620)⟩, ⟨8465, (.int 8465 622), (.str (.ofString "i") 623)⟩].toArray 17), #[]⟩
noncomputable def o47_5 (P : Params) : Obj := ⟨(.type "dict"), none, (.dict [⟨8466, (.int 8466 625), (.str (.ofString "l") 626)⟩, ⟨8469, (.int 8469 628), (.str (.ofString "n") 629)⟩, ⟨8470, (.int 8470 631), (.str (.ofString "no") 632)⟩, ⟨8473, (.int 8473 634), (.str (.ofString "p") 635)⟩, ⟨8474, (.int 8474 637), (.str (.ofString "q") 638)⟩, ⟨8475, (.int 8475 640), (.str (.ofString "r") 641)⟩, ⟨8476, (.int 8476 643), (.str (.ofString "r") 644)⟩, ⟨8477, (.int 8477 646), (.str (.ofString "r") 647)⟩, ⟨8480, (.int 8480 649), (.str (.ofString "sm") 650)⟩, ⟨8481, (.int 8481 652), (.str (.ofString "tel") 653)⟩, ⟨8482, (.int 8482 655), (.str (.ofString "tm") 656)⟩, ⟨8484, (.int 8484 658), (.str (.ofString "z") 659)⟩, ⟨8488, (.int 8488 661), (.str (.ofString "z") 662)⟩, ⟨8492, (.int 8492 664), (.str (.ofString "b") 665)⟩, ⟨8493, (.int 8493 667), (.str (.ofString "c") 668)⟩, ⟨8496, (.int 8496 670), (.str (.ofString "e") 671)⟩, ⟨8497, (.int 8497 673), (.str (.ofString "f") 674)⟩].toArray 17), #[]⟩
noncomputable def o48_5 (P : Params) : Obj := ⟨(.type "dict"), none, (.dict [⟨8499, (.int 8499 676), (.str (.ofString "m") 677)⟩, ⟨8510, (.int 8510 679), (.str (.ofString "γ") 680)⟩, ⟨8511, (.int 8511 682), (.str (.ofString "π") 683)⟩, ⟨8517, (.int 8517 685), (.str (.ofString "d") 686)⟩, ⟨13169, (.int 13169 688), (.str (.ofString "hpa") 689)⟩, ⟨13171, (.int 13171 691), (.str (.ofString "au") 692)⟩, ⟨13173, (.int 13173 694), (.str (.ofString "ov") 695)⟩, ⟨13184, (.int 13184 697), (.str (.ofString "pa") 698)⟩, ⟨13185, (.int 13185 700), (.str (.ofString "na") 701)⟩, ⟨13186, (.int 13186 703), (.str (.ofString "μa") 704)⟩, ⟨13187, (.int 13187 706), (.str (.ofString "ma") 707)⟩, ⟨13188, (.int 13188 709), (.str (.ofString "ka") 710)⟩, ⟨13189, (.int 13189 712), (.str (.ofString "kb") 713)⟩, ⟨13190, (.int 13190 715), (.str (.ofString "mb") 716)⟩, ⟨13191, (.int 13191 718), (.str (.ofString "gb") 719)⟩, ⟨13194, (.int 13194 721), (.str (.ofString "pf") 722)⟩, ⟨13195, (.int 13195 724), (.str (.ofString "nf") 725)⟩].toArray 17), #[]⟩
noncomputable def o49_5 (P : Params) : Obj := ⟨(.type "dict"), none, (.dict [⟨13196, (.int 13196 727), (.str (.ofString "μf") 728)⟩, ⟨13200, (.int 13200 730), (.str (.ofString "hz") 731)⟩, ⟨13201, (.int 13201 733), (.str (.ofString "khz") 734)⟩, ⟨13202, (.int 13202 736), (.str (.ofString "mhz") 737)⟩, ⟨13203, (.int 13203 739), (.str (.ofString "ghz") 740)⟩, ⟨13204, (.int 13204 742), (.str (.ofString "thz") 743)⟩, ⟨13225, (.int 13225 745), (.str (.ofString "pa") 746)⟩, ⟨13226, (.int 13226 748), (.str (.ofString "kpa") 749)⟩, ⟨13227, (.int 13227 751), (.str (.ofString "mpa") 752)⟩, ⟨13228, (.int 13228 754), (.str (.ofString "gpa") 755)⟩, ⟨13236, (.int 13236 757), (.str (.ofString "pv") 758)⟩, ⟨13237, (.int 13237 760), (.str (.ofString "nv") 761)⟩, ⟨13238, (.int 13238 763), (.str (.ofString "μv") 764)⟩, ⟨13239, (.int 13239 766), (.str (.ofString "mv") 767)⟩, ⟨13240, (.int 13240 769), (.str (.ofString "kv") 770)⟩, ⟨13241, (.int 13241 772), (.str (.ofString "mv") 773)⟩, ⟨13242, (.int 13242 775), (.str (.ofString "pw") 776)⟩].toArray 17), #[]⟩
noncomputable def o50_5 (P : Params) : Obj := ⟨(.type "dict"), none, (.dict [⟨13243, (.int 13243 778), (.str (.ofString "nw") 779)⟩, ⟨13244, (.int 13244 781), (.str (.ofString "μw") 782)⟩, ⟨13245, (.int 13245 784), (.str (.ofString "mw") 785)⟩, ⟨13246, (.int 13246 787), (.str (.ofString "kw") 788)⟩, ⟨13247, (.int 13247 790), (.str (.ofString "mw") 791)⟩, ⟨13248, (.int 13248 793), (.str (.ofString "kω") 794)⟩, ⟨13249, (.int 13249 796), (.str (.ofString "mω") 797)⟩, ⟨13251, (.int 13251 799), (.str (.ofString "bq") 800)⟩, ⟨13254, (.int 13254 802), (.str (.ofString "c∕kg") 803)⟩, ⟨13255, (.int 13255 805), (.str (.ofString "co.") 806)⟩, ⟨13256, (.int 13256 808), (.str (.ofString "db") 809)⟩, ⟨13257, (.int 13257 811), (.str (.ofString "gy") 812)⟩, ⟨13259, (.int 13259 814), (.str (.ofString "hp") 815)⟩, ⟨13261, (.int 13261 817), (.str (.ofString "kk") 818)⟩, ⟨13262, (.int 13262 820), (.str (.ofString "km") 821)⟩, ⟨13271, (.int 13271 823), (.str (.ofString "ph") 824)⟩, ⟨13273, (.int 13273 826), (.str (.ofString "ppm") 827)⟩].toArray 17), #[]⟩
noncomputable def o51_5 (P : Params) : Obj := ⟨(.type "dict"), none, (.dict [⟨13274, (.int 13274 829), (.str (.ofString "pr") 830)⟩, ⟨13276, (.int 13276 832), (.str (.ofString "sv") 833)⟩, ⟨13277, (.int 13277 835), (.str (.ofString "wb") 836)⟩, ⟨64256, (.int 64256 838), (.str (.ofString "ff") 839)⟩, ⟨64257, (.int 64257 841), (.str (.ofString "fi") 842)⟩, ⟨64258, (.int 64258 844), (.str (.ofString "fl") 845)⟩, ⟨64259, (.int 64259 847), (.str (.ofString "ffi") 848)⟩, ⟨64260, (.int 64260 850), (.str (.ofString "ffl") 851)⟩, ⟨64261, (.int 64261 853), (.str (.ofString "st") 854)⟩, ⟨64262, (.int 64262 856), (.str (.ofString "st") 857)⟩, ⟨64275, (.int 64275 859), (.str (.ofString "մն") 860)⟩, ⟨64276, (.int 64276 862), (.str (.ofString "մե") 863)⟩, ⟨64277, (.int 64277 865), (.str (.ofString "մի") 866)⟩, ⟨64278, (.int 64278 868), (.str (.ofString "վն") 869)⟩, ⟨64279, (.int 64279 871), (.str (.ofString "մխ") 872)⟩, ⟨119808, (.int 119808 874), (.str (.ofString "a") 875)⟩, ⟨119809, (.int 119809 877), (.str (.ofString "b") 878)⟩].toArray 17), #[]⟩
noncomputable def o52_5 (P : Params) : Obj := ⟨(.type "dict"), none, (.dict [⟨119810, (.int 119810 880), (.str (.ofString "c") 881)⟩, ⟨119811, (.int 119811 883), (.str (.ofString "d") 884)⟩, ⟨119812, (.int 119812 886), (.str (.ofString "e") 887)⟩, ⟨119813, (.int 119813 889), (.str (.ofString "f") 890)⟩, ⟨119814, (.int 119814 892), (.str (.ofString "g") 893)⟩, ⟨119815, (.int 119815 895), (.str (.ofString "h") 896)⟩, ⟨119816, (.int 119816 898), (.str (.ofString "i") 899)⟩, ⟨119817, (.int 119817 901), (.str (.ofString "j") 902)⟩, ⟨119818, (.int 119818 904), (.str (.ofString "k") 905)⟩, ⟨119819, (.int 119819 907), (.str (.ofString "l") 908)⟩, ⟨119820, (.int 119820 910), (.str (.ofString "m") 911)⟩, ⟨119821, (.int 119821 913), (.str (.ofString "n") 914)⟩, ⟨119822, (.int 119822 916), (.str (.ofString "o") 917)⟩, ⟨119823, (.int 119823 919), (.str (.ofString "p") 920)⟩, ⟨119824, (.int 119824 922), (.str (.ofString "q") 923)⟩, ⟨119825, (.int 119825 925), (.str (.ofString "r") 926)⟩, ⟨119826, (.int 119826 928), (.str (.ofString "s") 929)⟩].toArray 17), #[]⟩
noncomputable def o53_5 (P : Params) : Obj := ⟨(.type "dict"), none, (.dict [⟨119827, (.int 119827 931), (.str (.ofString "t") 932)⟩, ⟨119828, (.int 119828 934), (.str (.ofString "u") 935)⟩, ⟨119829, (.int 119829 937), (.str (.ofString "v") 938)⟩, ⟨119830, (.int 119830 940), (.str (.ofString "w") 941)⟩, ⟨119831, (.int 119831 943), (.str (.ofString "x") 944)⟩, ⟨119832, (.int 119832 946), (.str (.ofString "y") 947)⟩, ⟨119833, (.int 119833 949), (.str (.ofString "z") 950)⟩, ⟨119860, (.int 119860 952), (.str (.ofString "a") 953)⟩, ⟨119861, (.int 119861 955), (.str (.ofString "b") 956)⟩, ⟨119862, (.int 119862 958), (.str (.ofString "c") 959)⟩, ⟨119863, (.int 119863 961), (.str (.ofString "d") 962)⟩, ⟨119864, (.int 119864 964), (.str (.ofString "e") 965)⟩, ⟨119865, (.int 119865 967), (.str (.ofString "f") 968)⟩, ⟨119866, (.int 119866 970), (.str (.ofString "g") 971)⟩, ⟨119867, (.int 119867 973), (.str (.ofString "h") 974)⟩, ⟨119868, (.int 119868 976), (.str (.ofString "i") 977)⟩, ⟨119869, (.int 119869 979), (.str (.ofString "j") 980)⟩].toArray 17), #[]⟩
noncomputable def o54_5 (P : Params) : Obj := ⟨(.type "dict"), none, (.dict [⟨119870, (.int 119870 982), (.str (.ofString "k") 983)⟩, ⟨119871, (.int 119871 985), (.str (.ofString "l") 986)⟩, ⟨119872, (.int 119872 988), (.str (.ofString "m") 989)⟩, ⟨119873, (.int 119873 991), (.str (.ofString "n") 992)⟩, ⟨119874, (.int 119874 994), (.str (.ofString "o") 995)⟩, ⟨119875, (.int 119875 997), (.str (.ofString "p") 998)⟩, ⟨119876, (.int 119876 1000), (.str (.ofString "q") 1001)⟩, ⟨119877, (.int 119877 1003), (.str (.ofString "r") 1004)⟩, ⟨119878, (.int 119878 1006), (.str (.ofString "s") 1007)⟩, ⟨119879, (.int 119879 1009), (.str (.ofString "t") 1010)⟩, ⟨119880, (.int 119880 1012), (.str (.ofString "u") 1013)⟩, ⟨119881, (.int 119881 1015), (.str (.ofString "v") 1016)⟩, ⟨119882, (.int 119882 1018), (.str (.ofString "w") 1019)⟩, ⟨119883, (.int 119883 1021), (.str (.ofString "x") 1022)⟩, ⟨119884, (.int 119884 1024), (.str (.ofString "y") 1025)⟩, ⟨119885, (.int 119885 1027), (.str (.ofString "z") 1028)⟩, ⟨119912, (.int 119912 1030), (.str (.ofString "a") 1031)⟩].toArray 17), #[]⟩
noncomputable def o55_5 (P : Params) : Obj := ⟨(.type "dict"), none, (.dict [⟨119913, (.int 119913 1033), (.str (.ofString "b") 1034)⟩, ⟨119914, (.int 119914 1036), (.str (.ofString "c") 1037)⟩, ⟨119915, (.int 119915 1039), (.str (.ofString "d") 1040)⟩, ⟨119916, (.int 119916 1042), (.str (.ofString "e") 1043)⟩, ⟨119917, (.int 119917 1045), (.str (.ofString "f") 1046)⟩, ⟨119918, (.int 119918 1048), (.str (.ofString "g") 1049)⟩, ⟨119919, (.int 119919 1051), (.str (.ofString "h") 1052)⟩, ⟨119920, (.int 119920 1054), (.str (.ofString "i") 1055)⟩, ⟨119921, (.int 119921 1057), (.str (.ofString "j") 1058)⟩, ⟨119922, (.int 119922 1060), (.str (.ofString "k") 1061)⟩, ⟨119923, (.int 119923 1063), (.str (.ofString "l") 1064)⟩, ⟨119924, (.int 119924 1066), (.str (.ofString "m") 1067)⟩, ⟨119925, (.int 119925 1069), (.str (.ofString "n") 1070)⟩, ⟨119926, (.int 119926 1072), (.str (.ofString "o") 1073)⟩, ⟨119927, (.int 119927 1075), (.str (.ofString "p") 1076)⟩, ⟨119928, (.int 119928 1078), (.str (.ofString "q") 1079)⟩, ⟨119929, (.int 119929 1081), (.str (.ofString "r") 1082)⟩].toArray 17), #[]⟩
noncomputable def o56_5 (P : Params) : Obj := ⟨(.type "dict"), none, (.dict [⟨119930, (.int 119930 1084), (.str (.ofString "s") 1085)⟩, ⟨119931, (.int 119931 1087), (.str (.ofString "t") 1088)⟩, ⟨119932, (.int 119932 1090), (.str (.ofString "u") 1091)⟩, ⟨119933, (.int 119933 1093), (.str (.ofString "v") 1094)⟩, ⟨119934, (.int 119934 1096), (.str (.ofString "w") 1097)⟩, ⟨119935, (.int 119935 1099), (.str (.ofString "x") 1100)⟩, ⟨119936, (.int 119936 1102), (.str (.ofString "y") 1103)⟩, ⟨119937, (.int 119937 1105), (.str (.ofString "z") 1106)⟩, ⟨119964, (.int 119964 1108), (.str (.ofString "a") 1109)⟩, ⟨119966, (.int 119966 1111), (.str (.ofString "c") 1112)⟩, ⟨119967, (.int 119967 1114), (.str (.ofString "d") 1115)⟩, ⟨119970, (.int 119970 1117), (.str (.ofString "g") 1118)⟩, ⟨119973, (.int 119973 1120), (.str (.ofString "j") 1121)⟩, ⟨119974, (.int 119974 1123), (.str (.ofString "k") 1124)⟩, ⟨119977, (.int 119977 1126), (.str (.ofString "n") 1127)⟩, ⟨119978, (.int 119978 1129), (.str (.ofString "o") 1130)⟩, ⟨119979, (.int 119979 1132), (.str (.ofString "p") 1133)⟩].toArray 17), #[]⟩
noncomputable def o57_5 (P : Params) : Obj := ⟨(.type "dict"), none, (.dict [⟨119980, (.int 119980 1135), (.str (.ofString "q") 1136)⟩, ⟨119982, (.int 119982 1138), (.str (.ofString "s") 1139)⟩, ⟨119983, (.int 119983 1141), (.str (.ofString "t") 1142)⟩, ⟨119984, (.int 119984 1144), (.str (.ofString "u") 1145)⟩, ⟨119985, (.int 119985 1147), (.str (.ofString "v") 1148)⟩, ⟨119986, (.int 119986 1150), (.str (.ofString "w") 1151)⟩, ⟨119987, (.int 119987 1153), (.str (.ofString "x") 1154)⟩, ⟨119988, (.int 119988 1156), (.str (.ofString "y") 1157)⟩, ⟨119989, (.int 119989 1159), (.str (.ofString "z") 1160)⟩, ⟨120016, (.int 120016 1162), (.str (.ofString "a") 1163)⟩, ⟨120017, (.int 120017 1165), (.str (.ofString "b") 1166)⟩, ⟨120018, (.int 120018 1168), (.str (.ofString "c") 1169)⟩, ⟨120019, (.int 120019 1171), (.str (.ofString "d") 1172)⟩, ⟨120020, (.int 120020 1174), (.str (.ofString "e") 1175)⟩, ⟨120021, (.int 120021 1177), (.str (.ofString "f") 1178)⟩, ⟨120022, (.int 120022 1180), (.str (.ofString "g") 1181)⟩, ⟨120023, (.int 120023 1183), (.str (.ofString "h") 1184)⟩].toArray 17), #[]⟩
noncomputable def o58_5 (P : Params) : Obj := ⟨(.type "dict"), none, (.dict [⟨120024, (.int 120024 1186), (.str (.ofString "i") 1187)⟩, ⟨120025, (.int 120025 1189), (.str (.ofString "j") 1190)⟩, ⟨120026, (.int 120026 1192), (.str (.ofString "k") 1193)⟩, ⟨120027, (.int 120027 1195), (.str (.ofString "l") 1196)⟩, ⟨120028, (.int 120028 1198), (.str (.ofString "m") 1199)⟩, ⟨120029, (.int 120029 1201), (.str (.ofString "n") 1202)⟩, ⟨120030, (.int 120030 1204), (.str (.ofString "o") 1205)⟩, ⟨120031, (.int 120031 1207), (.str (.ofString "p") 1208)⟩, ⟨120032, (.int 120032 1210), (.str (.ofString "q") 1211)⟩, ⟨120033, (.int 120033 1213), (.str (.ofString "r") 1214)⟩, ⟨120034, (.int 120034 1216), (.str (.ofString "s") 1217)⟩, ⟨120035, (.int 120035 1219), (.str (.ofString "t") 1220)⟩, ⟨120036, (.int 120036 1222), (.str (.ofString "u") 1223)⟩, ⟨120037, (.int 120037 1225), (.str (.ofString "v") 1226)⟩, ⟨120038, (.int 120038 1228), (.str (.ofString "w") 1229)⟩, ⟨120039, (.int 120039 1231), (.str (.ofString "x") 1232)⟩, ⟨120040, (.int 120040 1234), (.str (.ofString "y") 1235)⟩].toArray 17), #[]⟩
noncomputable def o59_5 (P : Params) : Obj := ⟨(.type "dict"), none, (.dict [⟨120041, (.int 120041 1237), (.str (.ofString "z") 1238)⟩, ⟨120068, (.int 120068 1240), (.str (.ofString "a") 1241)⟩, ⟨120069, (.int 120069 1243), (.str (.ofString "b") 1244)⟩, ⟨120071, (.int 120071 1246), (.str (.ofString "d") 1247)⟩, ⟨120072, (.int 120072 1249), (.str (.ofString "e") 1250)⟩, ⟨120073, (.int 120073 1252), (.str (.ofString "f") 1253)⟩, ⟨120074, (.int 120074 1255), (.str (.ofString "g") 1256)⟩, ⟨120077, (.int 120077 1258), (.str (.ofString "j") 1259)⟩, ⟨120078, (.int 120078 1261), (.str (.ofString "k") 1262)⟩, ⟨120079, (.int 120079 1264), (.str (.ofString "l") 1265)⟩, ⟨120080, (.int 120080 1267), (.str (.ofString "m") 1268)⟩, ⟨120081, (.int 120081 1270), (.str (.ofString "n") 1271)⟩, ⟨120082, (.int 120082 1273), (.str (.ofString "o") 1274)⟩, ⟨120083, (.int 120083 1276), (.str (.ofString "p") 1277)⟩, ⟨120084, (.int 120084 1279), (.str (.ofString "q") 1280)⟩, ⟨120086, (.int 120086 1282), (.str (.ofString "s") 1283)⟩, ⟨120087, (.int 120087 1285), (.str (.ofString "t") 1286)⟩].toArray 17), #[]⟩
noncomputable def o60_5 (P : Params) : Obj := ⟨(.type "dict"), none, (.dict [⟨120088, (.int 120088 1288), (.str (.ofString "u") 1289)⟩, ⟨120089, (.int 120089 1291), (.str (.ofString "v") 1292)⟩, ⟨120090, (.int 120090 1294), (.str (.ofString "w") 1295)⟩, ⟨120091, (.int 120091 1297), (.str (.ofString "x") 1298)⟩, ⟨120092, (.int 120092 1300), (.str (.ofString "y") 1301)⟩, ⟨120120, (.int 120120 1303), (.str (.ofString "a") 1304)⟩, ⟨120121, (.int 120121 1306), (.str (.ofString "b") 1307)⟩, ⟨120123, (.int 120123 1309), (.str (.ofString "d") 1310)⟩, ⟨120124, (.int 120124 1312), (.str (.ofString "e") 1313)⟩, ⟨120125, (.int 120125 1315), (.str (.ofString "f") 1316)⟩, ⟨120126, (.int 120126 1318), (.str (.ofString "g") 1319)⟩, ⟨120128, (.int 120128 1321), (.str (.ofString "i") 1322)⟩, ⟨120129, (.int 120129 1324), (.str (.ofString "j") 1325)⟩, ⟨120130, (.int 120130 1327), (.str (.ofString "k") 1328)⟩, ⟨120131, (.int 120131 1330), (.str (.ofString "l") 1331)⟩, ⟨120132, (.int 120132 1333), (.str (.ofString "m") 1334)⟩, ⟨120134, (.int 120134 1336), (.str (.ofString "o") 1337)⟩].toArray 17), #[]⟩
noncomputable def o61_5 (P : Params) : Obj := ⟨(.type "dict"), none, (.dict [⟨120138, (.int 120138 1339), (.str (.ofString "s") 1340)⟩, ⟨120139, (.int 120139 1342), (.str (.ofString "t") 1343)⟩, ⟨120140, (.int 120140 1345), (.str (.ofString "u") 1346)⟩, ⟨120141, (.int 120141 1348), (.str (.ofString "v") 1349)⟩, ⟨120142, (.int 120142 1351), (.str (.ofString "w") 1352)⟩, ⟨120143, (.int 120143 1354), (.str (.ofString "x") 1355)⟩, ⟨120144, (.int 120144 1357), (.str (.ofString "y") 1358)⟩, ⟨120172, (.int 120172 1360), (.str (.ofString "a") 1361)⟩, ⟨120173, (.int 120173 1363), (.str (.ofString "b") 1364)⟩, ⟨120174, (.int 120174 1366), (.str (.ofString "c") 1367)⟩, ⟨120175, (.int 120175 1369), (.str (.ofString "d") 1370)⟩, ⟨120176, (.int 120176 1372), (.str (.ofString "e") 1373)⟩, ⟨120177, (.int 120177 1375), (.str (.ofString "f") 1376)⟩, ⟨120178, (.int 120178 1378), (.str (.ofString "g") 1379)⟩, ⟨120179, (.int 120179 1381), (.str (.ofString "h") 1382)⟩, ⟨120180, (.int 120180 1384), (.str (.ofString "i") 1385)⟩, ⟨120181, (.int 120181 1387), (.str (.ofString "j") 1388)⟩].toArray 17), #[]⟩
noncomputable def o62_5 (P : Params) : Obj := ⟨(.type "dict"), none, (.dict [⟨120182, (.int 120182 1390), (.str (.ofString "k") 1391)⟩, ⟨120183, (.int 120183 1393), (.str (.ofString "l") 1394)⟩, ⟨120184, (.int 120184 1396), (.str (.ofString "m") 1397)⟩, ⟨120185, (.int 120185 1399), (.str (.ofString "n") 1400)⟩, ⟨120186, (.int 120186 1402), (.str (.ofString "o") 1403)⟩, ⟨120187, (.int 120187 1405), (.str (.ofString "p") 1406)⟩, ⟨120188, (.int 120188 1408), (.str (.ofString "q") 1409)⟩, ⟨120189, (.int 120189 1411), (.str (.ofString "r") 1412)⟩, ⟨120190, (.int 120190 1414), (.str (.ofString "s") 1415)⟩, ⟨120191, (.int 120191 1417), (.str (.ofString "t") 1418)⟩, ⟨120192, (.int 120192 1420), (.str (.ofString "u") 1421)⟩, ⟨120193, (.int 120193 1423), (.str (.ofString "v") 1424)⟩, ⟨120194, (.int 120194 1426), (.str (.ofString "w") 1427)⟩, ⟨120195, (.int 120195 1429), (.str (.ofString "x") 1430)⟩, ⟨120196, (.int 120196 1432), (.str (.ofString "y") 1433)⟩, ⟨120197, (.int 120197 1435), (.str (.ofString "z") 1436)⟩, ⟨120224, (.int 120224 1438), (.str (.ofString "a") 1439)⟩].toArray 17), #[]⟩
noncomputable def o63_5 (P : Params) : Obj := ⟨(.type "dict"), none, (.dict [⟨120225, (.int 120225 1441), (.str (.ofString "b") 1442)⟩, ⟨120226, (.int 120226 1444), (.str (.ofString "c") 1445)⟩, ⟨120227, (.int 120227 1447), (.str (.ofString "d") 1448)⟩, ⟨120228, (.int 120228 1450), (.str (.ofString "e") 1451)⟩, ⟨120229, (.int 120229 1453), (.str (.ofString "f") 1454)⟩, ⟨120230, (.int 120230 1456), (.str (.ofString "g") 1457)⟩, ⟨120231, (.int 120231 1459), (.str (.ofString "h") 1460)⟩, ⟨120232, (.int 120232 1462), (.str (.ofString "i") 1463)⟩, ⟨120233, (.int 120233 1465), (.str (.ofString "j") 1466)⟩, ⟨120234, (.int 120234 1468), (.str (.ofString "k") 1469)⟩, ⟨120235, (.int 120235 1471), (.str (.ofString "l") 1472)⟩, ⟨120236, (.int 120236 1474), (.str (.ofString "m") 1475)⟩, ⟨120237, (.int 120237 1477), (.str (.ofString "n") 1478)⟩, ⟨120238, (.int 120238 1480), (.str (.ofString "o") 1481)⟩, ⟨120239, (.int 120239 1483), (.str (.ofString "p") 1484)⟩, ⟨120240, (.int 120240 1486), (.str (.ofString "q") 1487)⟩, ⟨120241, (.int 120241 1489), (.str (.ofString "r") 1490)⟩].toArray 17), #[]⟩
noncomputable def o64_5 (P : Params) : Obj := ⟨(.type "dict"), none, (.dict [⟨120242, (.int 120242 1492), (.str (.ofString "s") 1493)⟩, ⟨120243, (.int 120243 1495), (.str (.ofString "t") 1496)⟩, ⟨120244, (.int 120244 1498), (.str (.ofString "u") 1499)⟩, ⟨120245, (.int 120245 1501), (.str (.ofString "v") 1502)⟩, ⟨120246, (.int 120246 1504), (.str (.ofString "w") 1505)⟩, ⟨120247, (.int 120247 1507), (.str (.ofString "x") 1508)⟩, ⟨120248, (.int 120248 1510), (.str (.ofString "y") 1511)⟩, ⟨120249, (.int 120249 1513), (.str (.ofString "z") 1514)⟩, ⟨120276, (.int 120276 1516), (.str (.ofString "a") 1517)⟩, ⟨120277, (.int 120277 1519), (.str (.ofString "b") 1520)⟩, ⟨120278, (.int 120278 1522), (.str (.ofString "c") 1523)⟩, ⟨120279, (.int 120279 1525), (.str (.ofString "d") 1526)⟩, ⟨120280, (.int 120280 1528), (.str (.ofString "e") 1529)⟩, ⟨120281, (.int 120281 1531), (.str (.ofString "f") 1532)⟩, ⟨120282, (.int 120282 1534), (.str (.ofString "g") 1535)⟩, ⟨120283, (.int 120283 1537), (.str (.ofString "h") 1538)⟩, ⟨120284, (.int 120284 1540), (.str (.ofString "i") 1541)⟩].toArray 17), #[]⟩
noncomputable def o65_5 (P : Params) : Obj := ⟨(.type "dict"), none, (.dict [⟨120285, (.int 120285 1543), (.str (.ofString "j") 1544)⟩, ⟨120286, (.int 120286 1546), (.str (.ofString "k") 1547)⟩, ⟨120287, (.int 120287 1549), (.str (.ofString "l") 1550)⟩, ⟨120288, (.int 120288 1552), (.str (.ofString "m") 1553)⟩, ⟨120289, (.int 120289 1555), (.str (.ofString "n") 1556)⟩, ⟨120290, (.int 120290 1558), (.str (.ofString "o") 1559)⟩, ⟨120291, (.int 120291 1561), (.str (.ofString "p") 1562)⟩, ⟨120292, (.int 120292 1564), (.str (.ofString "q") 1565)⟩, ⟨120293, (.int 120293 1567), (.str (.ofString "r") 1568)⟩, ⟨120294, (.int 120294 1570), (.str (.ofString "s") 1571)⟩, ⟨120295, (.int 120295 1573), (.str (.ofString "t") 1574)⟩, ⟨120296, (.int 120296 1576), (.str (.ofString "u") 1577)⟩, ⟨120297, (.int 120297 1579), (.str (.ofString "v") 1580)⟩, ⟨120298, (.int 120298 1582), (.str (.ofString "w") 1583)⟩, ⟨120299, (.int 120299 1585), (.str (.ofString "x") 1586)⟩, ⟨120300, (.int 120300 1588), (.str (.ofString "y") 1589)⟩, ⟨120301, (.int 120301 1591), (.str (.ofString "z") 1592)⟩].toArray 17), #[]⟩
noncomputable def o66_5 (P : Params) : Obj := ⟨(.type "dict"), none, (.dict [⟨120328, (.int 120328 1594), (.str (.ofString "a") 1595)⟩, ⟨120329, (.int 120329 1597), (.str (.ofString "b") 1598)⟩, ⟨120330, (.int 120330 1600), (.str (.ofString "c") 1601)⟩, ⟨120331, (.int 120331 1603), (.str (.ofString "d") 1604)⟩, ⟨120332, (.int 120332 1606), (.str (.ofString "e") 1607)⟩, ⟨120333, (.int 120333 1609), (.str (.ofString "f") 1610)⟩, ⟨120334, (.int 120334 1612), (.str (.ofString "g") 1613)⟩, ⟨120335, (.int 120335 1615), (.str (.ofString "h") 1616)⟩, ⟨120336, (.int 120336 1618), (.str (.ofString "i") 1619)⟩, ⟨120337, (.int 120337 1621), (.str (.ofString "j") 1622)⟩, ⟨120338, (.int 120338 1624), (.str (.ofString "k") 1625)⟩, ⟨120339, (.int 120339 1627), (.str (.ofString "l") 1628)⟩, ⟨120340, (.int 120340 1630), (.str (.ofString "m") 1631)⟩, ⟨120341, (.int 120341 1633), (.str (.ofString "n") 1634)⟩, ⟨120342, (.int 120342 1636), (.str (.ofString "o") 1637)⟩, ⟨120343, (.int 120343 1639), (.str (.ofString "p") 1640)⟩, ⟨120344, (.int 120344 1642), (.str (.ofString "q") 1643)⟩].toArray 17), #[]⟩
noncomputable def o67_5 (P : Params) : Obj := ⟨(.type "dict"), none, (.dict [⟨120345, (.int 120345 1645), (.str (.ofString "r") 1646)⟩, ⟨120346, (.int 120346 1648), (.str (.ofString "s") 1649)⟩, ⟨120347, (.int 120347 1651), (.str (.ofString "t") 1652)⟩, ⟨120348, (.int 120348 1654), (.str (.ofString "u") 1655)⟩, ⟨120349, (.int 120349 1657), (.str (.ofString "v") 1658)⟩, ⟨120350, (.int 120350 1660), (.str (.ofString "w") 1661)⟩, ⟨120351, (.int 120351 1663), (.str (.ofString "x") 1664)⟩, ⟨120352, (.int 120352 1666), (.str (.ofString "y") 1667)⟩, ⟨120353, (.int 120353 1669), (.str (.ofString "z") 1670)⟩, ⟨120380, (.int 120380 1672), (.str (.ofString "a") 1673)⟩, ⟨120381, (.int 120381 1675), (.str (.ofString "b") 1676)⟩, ⟨120382, (.int 120382 1678), (.str (.ofString "c") 1679)⟩, ⟨120383, (.int 120383 1681), (.str (.ofString "d") 1682)⟩, ⟨120384, (.int 120384 1684), (.str (.ofString "e") 1685)⟩, ⟨120385, (.int 120385 1687), (.str (.ofString "f") 1688)⟩, ⟨120386, (.int 120386 1690), (.str (.ofString "g") 1691)⟩, ⟨120387, (.int 120387 1693), (.str (.ofString "h") 1694)⟩].toArray 17), #[]⟩
noncomputable def o68_5 (P : Params) : Obj := ⟨(.type "dict"), none, (.dict [⟨120388, (.int 120388 1696), (.str (.ofString "i") 1697)⟩, ⟨120389, (.int 120389 1699), (.str (.ofString "j") 1700)⟩, ⟨120390, (.int 120390 1702), (.str (.ofString "k") 1703)⟩, ⟨120391, (.int 120391 1705), (.str (.ofString "l") 1706)⟩, ⟨120392, (.int 120392 1708), (.str (.ofString "m") 1709)⟩, ⟨120393, (.int 120393 1711), (.str (.ofString "n") 1712)⟩, ⟨120394, (.int 120394 1714), (.str (.ofString "o") 1715)⟩, ⟨120395, (.int 120395 1717), (.str (.ofString "p") 1718)⟩, ⟨120396, (.int 120396 1720), (.str (.ofString "q") 1721)⟩, ⟨120397, (.int 120397 1723), (.str (.ofString "r") 1724)⟩, ⟨120398, (.int 120398 1726), (.str (.ofString "s") 1727)⟩, ⟨120399, (.int 120399 1729), (.str (.ofString "t") 1730)⟩, ⟨120400, (.int 120400 1732), (.str (.ofString "u") 1733)⟩, ⟨120401, (.int 120401 1735), (.str (.ofString "v") 1736)⟩, ⟨120402, (.int 120402 1738), (.str (.ofString "w") 1739)⟩, ⟨120403, (.int 120403 1741), (.str (.ofString "x") 1742)⟩, ⟨120404, (.int 120404 1744), (.str (.ofString "y") 1745)⟩].toArray 17), #[]⟩
noncomputable def o69_5 (P : Params) : Obj := ⟨(.type "dict"), none, (.dict [⟨120405, (.int 120405 1747), (.str (.ofString "z") 1748)⟩, ⟨120432, (.int 120432 1750), (.str (.ofString "a") 1751)⟩, ⟨120433, (.int 120433 1753), (.str (.ofString "b") 1754)⟩, ⟨120434, (.int 120434 1756), (.str (.ofString "c") 1757)⟩, ⟨120435, (.int 120435 1759), (.str (.ofString "d") 1760)⟩, ⟨120436, (.int 120436 1762), (.str (.ofString "e") 1763)⟩, ⟨120437, (.int 120437 1765), (.str (.ofString "f") 1766)⟩, ⟨120438, (.int 120438 1768), (.str (.ofString "g") 1769)⟩, ⟨120439, (.int 120439 1771), (.str (.ofString "h") 1772)⟩, ⟨120440, (.int 120440 1774), (.str (.ofString "i") 1775)⟩, ⟨120441, (.int 120441 1777), (.str (.ofString "j") 1778)⟩, ⟨120442, (.int 120442 1780), (.str (.ofString "k") 1781)⟩, ⟨120443, (.int 120443 1783), (.str (.ofString "l") 1784)⟩, ⟨120444, (.int 120444 1786), (.str (.ofString "m") 1787)⟩, ⟨120445, (.int 120445 1789), (.str (.ofString "n") 1790)⟩, ⟨120446, (.int 120446 1792), (.str (.ofString "o") 1793)⟩, ⟨120447, (.int 120447 1795), (.str (.ofString "p") 1796)⟩].toArray 17), #[]⟩
noncomputable def o70_5 (P : Params) : Obj := ⟨(.type "dict"), none, (.dict [⟨120448, (.int 120448 1798), (.str (.ofString "q") 1799)⟩, ⟨120449, (.int 120449 1801), (.str (.ofString "r") 1802)⟩, ⟨120450, (.int 120450 1804), (.str (.ofString "s") 1805)⟩, ⟨120451, (.int 120451 1807), (.str (.ofString "t") 1808)⟩, ⟨120452, (.int 120452 1810), (.str (.ofString "u") 1811)⟩, ⟨120453, (.int 120453 1813), (.str (.ofString "v") 1814)⟩, ⟨120454, (.int 120454 1816), (.str (.ofString "w") 1817)⟩, ⟨120455, (.int 120455 1819), (.str (.ofString "x") 1820)⟩, ⟨120456, (.int 120456 1822), (.str (.ofString "y") 1823)⟩, ⟨120457, (.int 120457 1825), (.str (.ofString "z") 1826)⟩, ⟨120488, (.int 120488 1828), (.str (.ofString "α") 1829)⟩, ⟨120489, (.int 120489 1831), (.str (.ofString "β") 1832)⟩, ⟨120490, (.int 120490 1834), (.str (.ofString "γ") 1835)⟩, ⟨120491, (.int 120491 1837), (.str (.ofString "δ") 1838)⟩, ⟨120492, (.int 120492 1840), (.str (.ofString "ε") 1841)⟩, ⟨120493, (.int 120493 1843), (.str (.ofString "ζ") 1844)⟩, ⟨120494, (.int 120494 1846), (.str (.ofString "η") 1847)⟩].toArray 17), #[]⟩
noncomputable def o71_5 (P : Params) : Obj := ⟨(.type "dict"), none, (.dict [⟨120495, (.int 120495 1849), (.str (.ofString "θ") 1850)⟩, ⟨120496, (.int 120496 1852), (.str (.ofString "ι") 1853)⟩, ⟨120497, (.int 120497 1855), (.str (.ofString "κ") 1856)⟩, ⟨120498, (.int 120498 1858), (.str (.ofString "λ") 1859)⟩, ⟨120499, (.int 120499 1861), (.str (.ofString "μ") 1862)⟩, ⟨120500, (.int 120500 1864), (.str (.ofString "ν") 1865)⟩, ⟨120501, (.int 120501 1867), (.str (.ofString "ξ") 1868)⟩, ⟨120502, (.int 120502 1870), (.str (.ofString "ο") 1871)⟩, ⟨120503, (.int 120503 1873), (.str (.ofString "π") 1874)⟩, ⟨120504, (.int 120504 1876), (.str (.ofString "ρ") 1877)⟩, ⟨120505, (.int 120505 1879), (.str (.ofString "θ") 1880)⟩, ⟨120506, (.int 120506 1882), (.str (.ofString "σ") 1883)⟩, ⟨120507, (.int 120507 1885), (.str (.ofString "τ") 1886)⟩, ⟨120508, (.int 120508 1888), (.str (.ofString "υ") 1889)⟩, ⟨120509, (.int 120509 1891), (.str (.ofString "φ") 1892)⟩, ⟨120510, (.int 120510 1894), (.str (.ofString "χ") 1895)⟩, ⟨120511, (.int 120511 1897), (.str (.ofString "ψ") 1898)⟩].toArray 17), #[]⟩
noncomputable def o72_5 (P : Params) : Obj := ⟨(.type "dict"), none, (.dict [⟨120512, (.int 120512 1900), (.str (.ofString "ω") 1901)⟩, ⟨120531, (.int 120531 1903), (.str (.ofString "σ") 1904)⟩, ⟨120546, (.int 120546 1906), (.str (.ofString "α") 1907)⟩, ⟨120547, (.int 120547 1909), (.str (.ofString "β") 1910)⟩, ⟨120548, (.int 120548 1912), (.str (.ofString "γ") 1913)⟩, ⟨120549, (.int 120549 1915), (.str (.ofString "δ") 1916)⟩, ⟨120550, (.int 120550 1918), (.str (.ofString "ε") 1919)⟩, ⟨120551, (.int 120551 1921), (.str (.ofString "ζ") 1922)⟩, ⟨120552, (.int 120552 1924), (.str (.ofString "η") 1925)⟩, ⟨120553, (.int 120553 1927), (.str (.ofString "θ") 1928)⟩, ⟨120554, (.int 120554 1930), (.str (.ofString "ι") 1931)⟩, ⟨120555, (.int 120555 1933), (.str (.ofString "κ") 1934)⟩, ⟨120556, (.int 120556 1936), (.str (.ofString "λ") 1937)⟩, ⟨120557, (.int 120557 1939), (.str (.ofString "μ") 1940)⟩, ⟨120558, (.int 120558 1942), (.str (.ofString "ν") 1943)⟩, ⟨120559, (.int 120559 1945), (.str (.ofString "ξ") 1946)⟩, ⟨120560, (.int 120560 1948), (.str (.ofString "ο") 1949)⟩].toArray 17), #[]⟩
noncomputable def o73_5 (P : Params) : Obj := ⟨(.type "dict"), none, (.dict [⟨120561, (.int 120561 1951), (.str (.ofString "π") 1952)⟩, ⟨120562, (.int 120562 1954), (.str (.ofString "ρ") 1955)⟩, ⟨120563, (.int 120563 1957), (.str (.ofString "θ") 1958)⟩, ⟨120564, (.int 120564 1960), (.str (.ofString "σ") 1961)⟩, ⟨120565, (.int 120565 1963), (.str (.ofString "τ") 1964)⟩, ⟨120566, (.int 120566 1966), (.str (.ofString "υ") 1967)⟩, ⟨120567, (.int 120567 1969), (.str (.ofString "φ") 1970)⟩, ⟨120568, (.int 120568 1972), (.str (.ofString "χ") 1973)⟩, ⟨120569, (.int 120569 1975), (.str (.ofString "ψ") 1976)⟩, ⟨120570, (.int 120570 1978), (.str (.ofString "ω") 1979)⟩, ⟨120589, (.int 120589 1981), (.str (.ofString "σ") 1982)⟩, ⟨120604, (.int 120604 1984), (.str (.ofString "α") 1985)⟩, ⟨120605, (.int 120605 1987), (.str (.ofString "β") 1988)⟩, ⟨120606, (.int 120606 1990), (.str (.ofString "γ") 1991)⟩, ⟨120607, (.int 120607 1993), (.str (.ofString "δ") 1994)⟩, ⟨120608, (.int 120608 1996), (.str (.ofString "ε") 1997)⟩, ⟨120609, (.int 120609 1999), (.str (.ofString "ζ") 2000)⟩].toArray 17), #[]⟩
noncomputable def o74_5 (P : Params) : Obj := ⟨(.type "dict"), none, (.dict [⟨120610, (.int 120610 2002), (.str (.ofString "η") 2003)⟩, ⟨120611, (.int 120611 2005), (.str (.ofString "θ") 2006)⟩, ⟨120612, (.int 120612 2008), (.str (.ofString "ι") 2009)⟩, ⟨120613, (.int 120613 2011), (.str (.ofString "κ") 2012)⟩, ⟨120614, (.int 120614 2014), (.str (.ofString "λ") 2015)⟩, ⟨120615, (.int 120615 2017), (.str (.ofString "μ") 2018)⟩, ⟨120616, (.int 120616 2020), (.str (.ofString "ν") 2021)⟩, ⟨120617, (.int 120617 2023), (.str (.ofString "ξ") 2024)⟩, ⟨120618, (.int 120618 2026), (.str (.ofString "ο") 2027)⟩, ⟨120619, (.int 120619 2029), (.str (.ofString "π") 2030)⟩, ⟨120620, (.int 120620 2032), (.str (.ofString "ρ") 2033)⟩, ⟨120621, (.int 120621 2035), (.str (.ofString "θ") 2036)⟩, ⟨120622, (.int 120622 2038), (.str (.ofString "σ") 2039)⟩, ⟨120623, (.int 120623 2041), (.str (.ofString "τ") 2042)⟩, ⟨120624, (.int 120624 2044), (.str (.ofString "υ") 2045)⟩, ⟨120625, (.int 120625 2047), (.str (.ofString "φ") 2048)⟩, ⟨120626, (.int 120626 2050), (.str (.ofString "χ") 2051)⟩].toArray 17), #[]⟩
noncomputable def o75_5 (P : Params) : Obj := ⟨(.type "dict"), none, (.dict [⟨120627, (.int 120627 2053), (.str (.ofString "ψ") 2054)⟩, ⟨120628, (.int 120628 2056), (.str (.ofString "ω") 2057)⟩, ⟨120647, (.int 120647 2059), (.str (.ofString "σ") 2060)⟩, ⟨120662, (.int 120662 2062), (.str (.ofString "α") 2063)⟩, ⟨120663, (.int 120663 2065), (.str (.ofString "β") 2066)⟩, ⟨120664, (.int 120664 2068), (.str (.ofString "γ") 2069)⟩, ⟨120665, (.int 120665 2071), (.str (.ofString "δ") 2072)⟩, ⟨120666, (.int 120666 2074), (.str (.ofString "ε") 2075)⟩, ⟨120667, (.int 120667 2077), (.str (.ofString "ζ") 2078)⟩, ⟨120668, (.int 120668 2080), (.str (.ofString "η") 2081)⟩, ⟨120669, (.int 120669 2083), (.str (.ofString "θ") 2084)⟩, ⟨120670, (.int 120670 2086), (.str (.ofString "ι") 2087)⟩, ⟨120671, (.int 120671 2089), (.str (.ofString "κ") 2090)⟩, ⟨120672, (.int 120672 2092), (.str (.ofString "λ") 2093)⟩, ⟨120673, (.int 120673 2095), (.str (.ofString "μ") 2096)⟩, ⟨120674, (.int 120674 2098), (.str (.ofString "ν") 2099)⟩, ⟨120675, (.int 120675 2101), (.str (.ofString "ξ") 2102)⟩].toArray 17), #[]⟩
noncomputable def o76_5 (P : Params) : Obj := ⟨(.type "dict"), none, (.dict [⟨120676, (.int 120676 2104), (.str (.ofString "ο") 2105)⟩, ⟨120677, (.int 120677 2107), (.str (.ofString "π") 2108)⟩, ⟨120678, (.int 120678 2110), (.str (.ofString "ρ") 2111)⟩, ⟨120679, (.int 120679 2113), (.str (.ofString "θ") 2114)⟩, ⟨120680, (.int 120680 2116), (.str (.ofString "σ") 2117)⟩, ⟨120681, (.int 120681 2119), (.str (.ofString "τ") 2120)⟩, ⟨120682, (.int 120682 2122), (.str (.ofString "υ") 2123)⟩, ⟨120683, (.int 120683 2125), (.str (.ofString "φ") 2126)⟩, ⟨120684, (.int 120684 2128), (.str (.ofString "χ") 2129)⟩, ⟨120685, (.int 120685 2131), (.str (.ofString "ψ") 2132)⟩, ⟨120686, (.int 120686 2134), (.str (.ofString "ω") 2135)⟩, ⟨120705, (.int 120705 2137), (.str (.ofString "σ") 2138)⟩, ⟨120720, (.int 120720 2140), (.str (.ofString "α") 2141)⟩, ⟨120721, (.int 120721 2143), (.str (.ofString "β") 2144)⟩, ⟨120722, (.int 120722 2146), (.str (.ofString "γ") 2147)⟩, ⟨120723, (.int 120723 2149), (.str (.ofString "δ") 2150)⟩, ⟨120724, (.int 120724 2152), (.str (.ofString "ε") 2153)⟩].toArray 17), #[]⟩
noncomputable def o77_5 (P : Params) : Obj := ⟨(.type "dict"), none, (.dict [⟨120725, (.int 120725 2155), (.str (.ofString "ζ") 2156)⟩, ⟨120726, (.int 120726 2158), (.str (.ofString "η") 2159)⟩, ⟨120727, (.int 120727 2161), (.str (.ofString "θ") 2162)⟩, ⟨120728, (.int 120728 2164), (.str (.ofString "ι") 2165)⟩, ⟨120729, (.int 120729 2167), (.str (.ofString "κ") 2168)⟩, ⟨120730, (.int 120730 2170), (.str (.ofString "λ") 2171)⟩, ⟨120731, (.int 120731 2173), (.str (.ofString "μ") 2174)⟩, ⟨120732, (.int 120732 2176), (.str (.ofString "ν") 2177)⟩, ⟨120733, (.int 120733 2179), (.str (.ofString "ξ") 2180)⟩, ⟨120734, (.int 120734 2182), (.str (.ofString "ο") 2183)⟩, ⟨120735, (.int 120735 2185), (.str (.ofString "π") 2186)⟩, ⟨120736, (.int 120736 2188), (.str (.ofString "ρ") 2189)⟩, ⟨120737, (.int 120737 2191), (.str (.ofString "θ") 2192)⟩, ⟨120738, (.int 120738 2194), (.str (.ofString "σ") 2195)⟩, ⟨120739, (.int 120739 2197), (.str (.ofString "τ") 2198)⟩, ⟨120740, (.int 120740 2200), (.str (.ofString "υ") 2201)⟩, ⟨120741, (.int 120741 2203), (.str (.ofString "φ") 2204)⟩].toArray 17), #[]⟩
noncomputable def o78_5 (P : Params) : Obj := ⟨(.type "dict"), none, (.dict [⟨120742, (.int 120742 2206), (.str (.ofString "χ") 2207)⟩, ⟨120743, (.int 120743 2208), (.str (.ofString "ψ") 2209)⟩, ⟨120744, (.int 120744 2210), (.str (.ofString "ω") 2211)⟩, ⟨120763, (.int 120763 2212), (.str (.ofString "σ") 2213)⟩].toArray 4), #[]⟩
noncomputable def tS5 (P : Params) : BT := (.node (PySem.W.boot_o_0 P) (.node (PySem.W.boot_o_1 P) (.node (o3_5 P) (.node (PySem.W.boot_o_7 P) (.node (o15_2 P) (.node (o31_3 P) (.node (o63_5 P) .nil .nil) .nil) (.node (o47_5 P) .nil .nil)) (.node (o23_3 P) (.node (o39_4 P) (.node (o71_5 P) .nil .nil) .nil) (.node (o55_5 P) .nil .nil))) (.node (o11_0 P) (.node (o19_2 P) (.node (o35_4 P) (.node (o67_5 P) .nil .nil) .nil) (.node (o51_5 P) .nil .nil)) (.node (o27_3 P) (.node (o43_5 P) (.node (o75_5 P) .nil .nil) .nil) (.node (o59_5 P) .nil .nil)))) (.node (PySem.W.boot_o_5 P) (.node (PySem.W.boot_o_9 P) (.node (o17_2 P) (.node (o33_4 P) (.node (o65_5 P) .nil .nil) .nil) (.node (o49_5 P) .nil .nil)) (.node (o25_3 P) (.node (o41_5 P) (.node (o73_5 P) .nil .nil) .nil) (.node (o57_5 P) .nil .nil))) (.node (o13_0 P) (.node (o21_2 P) (.node (o37_4 P) (.node (o69_5 P) .nil .nil) .nil) (.node (o53_5 P) .nil .nil)) (.node (o29_3 P) (.node (o45_5 P) (.node (o77_5 P) .nil .nil) .nil) (.node (o61_5 P) .nil .nil))))) (.node (PySem.W.boot_o_2 P) (.node (PySem.W.boot_o_4 P) (.node (PySem.W.boot_o_8 P) (.node (o16_2 P) (.node (o32_3 P) (.node (o64_5 P) .nil .nil) .nil) (.node (o48_5 P) .nil .nil)) (.node (o24_3 P) (.node (o40_5 P) (.node (o72_5 P) .nil .nil) .nil) (.node (o56_5 P) .nil .nil))) (.node (o12_4 P) (.node (o20_2 P) (.node (o36_4 P) (.node (o68_5 P) .nil .nil) .nil) (.node (o52_5 P) .nil .nil)) (.node (o28_3 P) (.node (o44_5 P) (.node (o76_5 P) .nil .nil) .nil) (.node (o60_5 P) .nil .nil)))) (.node (PySem.W.boot_o_6 P) (.node (PySem.W.boot_o_10 P) (.node (o18_2 P) (.node (o34_4 P) (.node (o66_5 P) .nil .nil) .nil) (.node (o50_5 P) .nil .nil)) (.node (o26_3 P) (.node (o42_5 P) (.node (o74_5 P) .nil .nil) .nil) (.node (o58_5 P) .nil .nil))) (.node (o14_0 P) (.node (o22_3 P) (.node (o38_4 P) (.node (o70_5 P) .nil .nil) .nil) (.node (o54_5 P) .nil .nil)) (.node (o30_3 P) (.node (o46_5 P) (.node (o78_5 P) .nil .nil) .nil) (.node (o62_5 P) .nil .nil))))))
noncomputable def o3_6 (P : Params) : Obj := ⟨(.type "dict"), none, (.dict [ek P (.ofString "__name__") 165 (.str (.ofString "cpy313.token") 2227), ek P (.ofString "__doc__") 166 .none, ek P (.ofString "__package__") 167 .none, ek P (.ofString "__loader__") 168 (.builtin "__main__.__loader__#opaque"), ek P (.ofString "__spec__") 169 .none, ek P (.ofString "__annotations__") 170 (.ref 6), ek P (.ofString "__builtins__") 171 (.ref 4), ek P (.ofString "__file__") 173 (.str (.ofString "/claim/cut.py") 172), ek P (.ofString "__cached__") 174 .none, ek P (.ofString "Int2AP") 198 (.ref 21), ek P (.ofString "b1_set") 260 (.ref 29), ek P (.ofString "in_table_b1") 267 (.ref 39), ek P (.ofString "b3_exceptions") 2218 (.ref 40), ek P (.ofString "map_table_b3") 2226 (.ref 85), ek P (.ofString "ENDMARKER") 2230 (.int 0 2229), ek P (.ofString "LPAR") 2232 (.int 7 2231), ek P (.ofString "RPAR") 2234 (.int 8 2233), ek P (.ofString "LSQB") 2236 (.int 9 2235), ek P (.ofString "RSQB") 2238 (.int 10 2237), ek P (.ofString "COLON") 2240 (.int 11 2239), ek P (.ofString "COMMA") 2242 (.int 12 2241), ek P (.ofString "SEMI") 2244 (.int 13 2243), ek P (.ofString "PLUS") 2246 (.int 14 2245), ek P (.ofString "MINUS") 2248 (.int 15 2247), ek P (.ofString "STAR") 2250 (.int 16 2249), ek P (.ofString "SLASH") 2252 (.int 17 2251), ek P (.ofString "VBAR") 2254 (.int 18 2253), ek P (.ofString "AMPER") 2256 (.int 19 2255), ek P (.ofString "LESS") 2258 (.int 20 2257), ek P (.ofString "GREATER") 2260 (.int 21 2259), ek P (.ofString "EQUAL") 2262 (.int 22 2261), ek P (.ofString "DOT") 2264 (.int 23 2263), ek P (.ofString "PERCENT") 2266 (.int 24 2265), ek P (.ofString "LBRACE") 2268 (.int 25 2267), ek P (.ofString "RBRACE") 2270 (.int 26 2269), ek P (.ofString "EQEQUAL") 2272 (.int 27 2271), ek P (.ofString "NOTEQUAL") 2274 (.int 28 2273)].toArray 37), #[]⟩
noncomputable def o12_6 (P : Params) : Obj := ⟨.none, none, (.fields [(.int 2 0), (.int 0 0), (.ref 20), (.int 12 0), (.int 0 0), (.ref 38), (.int 15 0), (.int 0 0), (.ref 84)].toArray), #[]⟩
noncomputable def o79_6 (P : Params) : Obj := ⟨(.type "tuple"), none, (.seq [].toArray 0), #[]⟩
noncomputable def o80_6 (P : Params) : Obj := ⟨.none, none, (.fields [].toArray), #[]⟩
noncomputable def o81_6 (P : Params) : Obj := ⟨(.type "tuple"), none, (.seq [(.str (.ofString "code") 2222), (.str (.ofString "r") 2223)].toArray 0), #[]⟩
noncomputable def o82_6 (P : Params) : Obj := ⟨(.type "tuple"), none, (.seq [].toArray 0), #[]⟩
noncomputable def o83_6 (P : Params) : Obj := ⟨.none, none, (.func (fnD 6 (.ofString "map_table_b3") (.ofString "map_table_b3") 0 .none .none 0)), #[]⟩
noncomputable def o84_6 (P : Params) : Obj := ⟨(.type "code"), none, (.fields [(.str (.ofString "map_table_b3") 2219), (.str (.ofString "map_table_b3") 2220), (.str (.ofString "/claim/cut.py") 2221), (.int 15 0), (.int 1 0), (.int 0 0), (.int 0 0), (.int 3 0), (.ref 79), (.bool true), (.int 181 0), (.ref 80), .none, (.ref 81), (.ref 82), (.ref 83), (.int 2224 0), (.int 15 0), (.str (.ofString "/claim/cut.py") 2225)].toArray), #[]⟩
noncomputable def o85_6 (P : Params) : Obj := ⟨(.type "function"), none, (.func (fnD 6 (.ofString "map_table_b3") (.ofString "map_table_b3") 3 (.str (.ofString "cpy313.stringprep") 199) (.ref 84) 0)), #[]⟩
noncomputable def tS30 (P : Params) : BT := (.node (PySem.W.boot_o_0 P) (.node (PySem.W.boot_o_1 P) (.node (o3_6 P) (.node (PySem.W.boot_o_7 P) (.node (o15_2 P) (.node (o31_3 P) (.node (o63_5 P) .nil .nil) .nil) (.node (o47_5 P) (.node (o79_6 P) .nil .nil) .nil)) (.node (o23_3 P) (.node (o39_4 P) (.node (o71_5 P) .nil .nil) .nil) (.node (o55_5 P) .nil .nil))) (.node (o11_0 P) (.node (o19_2 P) (.node (o35_4 P) (.node (o67_5 P) .nil .nil) .nil) (.node (o51_5 P) (.node (o83_6 P) .nil .nil) .nil)) (.node (o27_3 P) (.node (o43_5 P) (.node (o75_5 P) .nil .nil) .nil) (.node (o59_5 P) .nil .nil)))) (.node (PySem.W.boot_o_5 P) (.node (PySem.W.boot_o_9 P) (.node (o17_2 P) (.node (o33_4 P) (.node (o65_5 P) .nil .nil) .nil) (.node (o49_5 P) (.node (o81_6 P) .nil .nil) .nil)) (.node (o25_3 P) (.node (o41_5 P) (.node (o73_5 P) .nil .nil) .nil) (.node (o57_5 P) .nil .nil))) (.node (o13_0 P) (.node (o21_2 P) (.node (o37_4 P) (.node (o69_5 P) .nil .nil) .nil) (.node (o53_5 P) (.node (o85_6 P) .nil .nil) .nil)) (.node (o29_3 P) (.node (o45_5 P) (.node (o77_5 P) .nil .nil) .nil) (.node (o61_5 P) .nil .nil))))) (.node (PySem.W.boot_o_2 P) (.node (PySem.W.boot_o_4 P) (.node (PySem.W.boot_o_8 P) (.node (o16_2 P) (.node (o32_3 P) (.node (o64_5 P) .nil .nil) .nil) (.node (o48_5 P) (.node (o80_6 P) .nil .nil) .nil)) (.node (o24_3 P) (.node (o40_5 P) (.node (o72_5 P) .nil .nil) .nil) (.node (o56_5 P) .nil .nil))) (.node (o12_6 P) (.node (o20_2 P) (.node (o36_4 P) (.node (o68_5 P) .nil .nil) .nil) (.node (o52_5 P) (.node (o84_6 P) .nil .nil) .nil)) (.node (o28_3 P) (.node (o44_5 P) (.node (o76_5 P) .nil .nil) .nil) (.node (o60_5 P) .nil .nil)))) (.node (PySem.W.boot_o_6 P) (.node (PySem.W.boot_o_10 P) (.node (o18_2 P) (.node (o34_4 P) (.node (o66_5 P) .nil .nil) .nil) (.node (o50_5 P) (.node (o82_6 P) .nil .nil) .nil)) (.node (o26_3 P) (.node (o42_5 P) (.node (o74_5 P) .nil .nil) .nil) (.node (o58_5 P) .nil .nil))) (.node (o14_0 P) (.node (o22_3 P) (.node (o38_4 P) (.node (o70_5 P) .nil .nil) .nil) (.node (o54_5 P) .nil .nil)) (.node (o30_3 P) (.node (o46_5 P) (.node (o78_5 P) .nil .nil) .nil) (.node (o62_5 P) .nil .nil))))))
noncomputable def o3_7 (P : Params) : Obj := ⟨(.type "dict"), none, (.dict [ek P (.ofString "__name__") 165 (.str (.ofString "cpy313.token") 2227), ek P (.ofString "__doc__") 166 .none, ek P (.ofString "__package__") 167 .none, ek P (.ofString "__loader__") 168 (.builtin "__main__.__loader__#opaque"), ek P (.ofString "__spec__") 169 .none, ek P (.ofString "__annotations__") 170 (.ref 6), ek P (.ofString "__builtins__") 171 (.ref 4), ek P (.ofString "__file__") 173 (.str (.ofString "/claim/cut.py") 172), ek P (.ofString "__cached__") 174 .none, ek P (.ofString "Int2AP") 198 (.ref 21), ek P (.ofString "b1_set") 260 (.ref 29), ek P (.ofString "in_table_b1") 267 (.ref 39), ek P (.ofString "b3_exceptions") 2218 (.ref 40), ek P (.ofString "map_table_b3") 2226 (.ref 85), ek P (.ofString "ENDMARKER") 2230 (.int 0 2229), ek P (.ofString "LPAR") 2232 (.int 7 2231), ek P (.ofString "RPAR") 2234 (.int 8 2233), ek P (.ofString "LSQB") 2236 (.int 9 2235), ek P (.ofString "RSQB") 2238 (.int 10 2237), ek P (.ofString "COLON") 2240 (.int 11 2239), ek P (.ofString "COMMA") 2242 (.int 12 2241), ek P (.ofString "SEMI") 2244 (.int 13 2243), ek P (.ofString "PLUS") 2246 (.int 14 2245), ek P (.ofString "MINUS") 2248 (.int 15 2247), ek P (.ofString "STAR") 2250 (.int 16 2249), ek P (.ofString "SLASH") 2252 (.int 17 2251), ek P (.ofString "VBAR") 2254 (.int 18 2253), ek P (.ofString "AMPER") 2256 (.int 19 2255), ek P (.ofString "LESS") 2258 (.int 20 2257), ek P (.ofString "GREATER") 2260 (.int 21 2259), ek P (.ofString "EQUAL") 2262 (.int 22 2261), ek P (.ofString "DOT") 2264 (.int 23 2263), ek P (.ofString "PERCENT") 2266 (.int 24 2265), ek P (.ofString "LBRACE") 2268 (.int 25 2267), ek P (.ofString "RBRACE") 2270 (.int 26 2269), ek P (.ofString "EQEQUAL") 2272 (.int 27 2271), ek P (.ofString "NOTEQUAL") 2274 (.int 28 2273), ek P (.ofString "LESSEQUAL") 2276 (.int 29 2275), ek P (.ofString "GREATEREQUAL") 2278 (.int 30 2277), ek P (.ofString "TILDE") 2280 (.int 31 2279), ek P (.ofString "CIRCUMFLEX") 2282 (.int 32 2281), ek P (.ofString "LEFTSHIFT") 2284 (.int 33 2283), ek P (.ofString "RIGHTSHIFT") 2286 (.int 34 2285), ek P (.ofString "DOUBLESTAR") 2288 (.int 35 2287), ek P (.ofString "PLUSEQUAL") 2290 (.int 36 2289), ek P (.ofString "MINEQUAL") 2292 (.int 37 2291), ek P (.ofString "STAREQUAL") 2294 (.int 38 2293), ek P (.ofString "SLASHEQUAL") 2296 (.int 39 2295), ek P (.ofString "PERCENTEQUAL") 2298 (.int 40 2297), ek P (.ofString "AMPEREQUAL") 2300 (.int 41 2299), ek P (.ofString "VBAREQUAL") 2302 (.int 42 2301), ek P (.ofString "CIRCUMFLEXEQUAL") 2304 (.int 43 2303), ek P (.ofString "LEFTSHIFTEQUAL") 2306 (.int 44 2305), ek P (.ofString "RIGHTSHIFTEQUAL") 2308 (.int 45 2307), ek P (.ofString "DOUBLESTAREQUAL") 2310 (.int 46 2309), ek P (.ofString "DOUBLESLASH") 2312 (.int 47 2311), ek P (.ofString "DOUBLESLASHEQUAL") 2314 (.int 48 2313), ek P (.ofString "AT") 2316 (.int 49 2315), ek P (.ofString "ATEQUAL") 2318 (.int 50 2317), ek P (.ofString "RARROW") 2320 (.int 51 2319), ek P (.ofString "ELLIPSIS") 2322 (.int 52 2321), ek P (.ofString "COLONEQUAL") 2324 (.int 53 2323), ek P (.ofString "EXCLAMATION") 2326 (.int 54 2325)].toArray 63), #[]⟩
noncomputable def tS56 (P : Params) : BT := (.node (PySem.W.boot_o_0 P) (.node (PySem.W.boot_o_1 P) (.node (o3_7 P) (.node (PySem.W.boot_o_7 P) (.node (o15_2 P) (.node (o31_3 P) (.node (o63_5 P) .nil .nil) .nil) (.node (o47_5 P) (.node (o79_6 P) .nil .nil) .nil)) (.node (o23_3 P) (.node (o39_4 P) (.node (o71_5 P) .nil .nil) .nil) (.node (o55_5 P) .nil .nil))) (.node (o11_0 P) (.node (o19_2 P) (.node (o35_4 P) (.node (o67_5 P) .nil .nil) .nil) (.node (o51_5 P) (.node (o83_6 P) .nil .nil) .nil)) (.node (o27_3 P) (.node (o43_5 P) (.node (o75_5 P) .nil .nil) .nil) (.node (o59_5 P) .nil .nil)))) (.node (PySem.W.boot_o_5 P) (.node (PySem.W.boot_o_9 P) (.node (o17_2 P) (.node (o33_4 P) (.node (o65_5 P) .nil .nil) .nil) (.node (o49_5 P) (.node (o81_6 P) .nil .nil) .nil)) (.node (o25_3 P) (.node (o41_5 P) (.node (o73_5 P) .nil .nil) .nil) (.node (o57_5 P) .nil .nil))) (.node (o13_0 P) (.node (o21_2 P) (.node (o37_4 P) (.node (o69_5 P) .nil .nil) .nil) (.node (o53_5 P) (.node (o85_6 P) .nil .nil) .nil)) (.node (o29_3 P) (.node (o45_5 P) (.node (o77_5 P) .nil .nil) .nil) (.node (o61_5 P) .nil .nil))))) (.node (PySem.W.boot_o_2 P) (.node (PySem.W.boot_o_4 P) (.node (PySem.W.boot_o_8 P) (.node (o16_2 P) (.node (o32_3 P) (.node (o64_5 P) .nil .nil) .nil) (.node (o48_5 P) (.node (o80_6 P) .nil .nil) .nil)) (.node (o24_3 P) (.node (o40_5 P) (.node (o72_5 P) .nil .nil) .nil) (.node (o56_5 P) .nil .nil))) (.node (o12_6 P) (.node (o20_2 P) (.node (o36_4 P) (.node (o68_5 P) .nil .nil) .nil) (.node (o52_5 P) (.node (o84_6 P) .nil .nil) .nil)) (.node (o28_3 P) (.node (o44_5 P) (.node (o76_5 P) .nil .nil) .nil) (.node (o60_5 P) .nil .nil)))) (.node (PySem.W.boot_o_6 P) (.node (PySem.W.boot_o_10 P) (.node (o18_2 P) (.node (o34_4 P) (.node (o66_5 P) .nil .nil) .nil) (.node (o50_5 P) (.node (o82_6 P) .nil .nil) .nil)) (.node (o26_3 P) (.node (o42_5 P) (.node (o74_5 P) .nil .nil) .nil) (.node (o58_5 P) .nil .nil))) (.node (o14_0 P) (.node (o22_3 P) (.node (o38_4 P) (.node (o70_5 P) .nil .nil) .nil) (.node (o54_5 P) .nil .nil)) (.node (o30_3 P) (.node (o46_5 P) (.node (o78_5 P) .nil .nil) .nil) (.node (o62_5 P) .nil .nil))))))
noncomputable def o3_8 (P : Params) : Obj := ⟨(.type "dict"), none, (.dict [ek P (.ofString "__name__") 165 (.str (.ofString "cpy313.token") 2227), ek P (.ofString "__doc__") 166 .none, ek P (.ofString "__package__") 167 .none, ek P (.ofString "__loader__") 168 (.builtin "__main__.__loader__#opaque"), ek P (.ofString "__spec__") 169 .none, ek P (.ofString "__annotations__") 170 (.ref 6), ek P (.ofString "__builtins__") 171 (.ref 4), ek P (.ofString "__file__") 173 (.str (.ofString "/claim/cut.py") 172), ek P (.ofString "__cached__") 174 .none, ek P (.ofString "Int2AP") 198 (.ref 21), ek P (.ofString "b1_set") 260 (.ref 29), ek P (.ofString "in_table_b1") 267 (.ref 39), ek P (.ofString "b3_exceptions") 2218 (.ref 40), ek P (.ofString "map_table_b3") 2226 (.ref 85), ek P (.ofString "ENDMARKER") 2230 (.int 0 2229), ek P (.ofString "LPAR") 2232 (.int 7 2231), ek P (.ofString "RPAR") 2234 (.int 8 2233), ek P (.ofString "LSQB") 2236 (.int 9 2235), ek P (.ofString "RSQB") 2238 (.int 10 2237), ek P (.ofString "COLON") 2240 (.int 11 2239), ek P (.ofString "COMMA") 2242 (.int 12 2241), ek P (.ofString "SEMI") 2244 (.int 13 2243), ek P (.ofString "PLUS") 2246 (.int 14 2245), ek P (.ofString "MINUS") 2248 (.int 15 2247), ek P (.ofString "STAR") 2250 (.int 16 2249), ek P (.ofString "SLASH") 2252 (.int 17 2251), ek P (.ofString "VBAR") 2254 (.int 18 2253), ek P (.ofString "AMPER") 2256 (.int 19 2255), ek P (.ofString "LESS") 2258 (.int 20 2257), ek P (.ofString "GREATER") 2260 (.int 21 2259), ek P (.ofString "EQUAL") 2262 (.int 22 2261), ek P (.ofString "DOT") 2264 (.int 23 2263), ek P (.ofString "PERCENT") 2266 (.int 24 2265), ek P (.ofString "LBRACE") 2268 (.int 25 2267), ek P (.ofString "RBRACE") 2270 (.int 26 2269), ek P (.ofString "EQEQUAL") 2272 (.int 27 2271), ek P (.ofString "NOTEQUAL") 2274 (.int 28 2273), ek P (.ofString "LESSEQUAL") 2276 (.int 29 2275), ek P (.ofString "GREATEREQUAL") 2278 (.int 30 2277), ek P (.ofString "TILDE") 2280 (.int 31 2279), ek P (.ofString "CIRCUMFLEX") 2282 (.int 32 2281), ek P (.ofString "LEFTSHIFT") 2284 (.int 33 2283), ek P (.ofString "RIGHTSHIFT") 2286 (.int 34 2285), ek P (.ofString "DOUBLESTAR") 2288 (.int 35 2287), ek P (.ofString "PLUSEQUAL") 2290 (.int 36 2289), ek P (.ofString "MINEQUAL") 2292 (.int 37 2291), ek P (.ofString "STAREQUAL") 2294 (.int 38 2293), ek P (.ofString "SLASHEQUAL") 2296 (.int 39 2295), ek P (.ofString "PERCENTEQUAL") 2298 (.int 40 2297), ek P (.ofString "AMPEREQUAL") 2300 (.int 41 2299), ek P (.ofString "VBAREQUAL") 2302 (.int 42 2301), ek P (.ofString "CIRCUMFLEXEQUAL") 2304 (.int 43 2303), ek P (.ofString "LEFTSHIFTEQUAL") 2306 (.int 44 2305), ek P (.ofString "RIGHTSHIFTEQUAL") 2308 (.int 45 2307), ek P (.ofString "DOUBLESTAREQUAL") 2310 (.int 46 2309), ek P (.ofString "DOUBLESLASH") 2312 (.int 47 2311), ek P (.ofString "DOUBLESLASHEQUAL") 2314 (.int 48 2313), ek P (.ofString "AT") 2316 (.int 49 2315), ek P (.ofString "ATEQUAL") 2318 (.int 50 2317), ek P (.ofString "RARROW") 2320 (.int 51 2319), ek P (.ofString "ELLIPSIS") 2322 (.int 52 2321), ek P (.ofString "COLONEQUAL") 2324 (.int 53 2323), ek P (.ofString "EXCLAMATION") 2326 (.int 54 2325), ek P (.ofString "EXACT_TOKEN_TYPES") 2423 (.ref 86)].toArray 64), #[]⟩
noncomputable def o86_8 (P : Params) : Obj := ⟨(.type "dict"), none, (.dict [ek P (.ofString "!") 2327 (.int 54 2325), ek P (.ofString "!=") 2329 (.int 28 2273), ek P (.ofString "%") 2331 (.int 24 2265), ek P (.ofString "%=") 2333 (.int 40 2297), ek P (.ofString "&") 2335 (.int 19 2255), ek P (.ofString "&=") 2337 (.int 41 2299), ek P (.ofString "(") 2339 (.int 7 2231), ek P (.ofString ")") 2341 (.int 8 2233), ek P (.ofString "*") 2343 (.int 16 2249), ek P (.ofString "**") 2345 (.int 35 2287), ek P (.ofString "**=") 2347 (.int 46 2309), ek P (.ofString "*=") 2349 (.int 38 2293), ek P (.ofString "+") 2351 (.int 14 2245), ek P (.ofString "+=") 2353 (.int 36 2289), ek P (.ofString ",") 2355 (.int 12 2241), ek P (.ofString "-") 2357 (.int 15 2247), ek P (.ofString "-=") 2359 (.int 37 2291), ek P (.ofString "->") 2361 (.int 51 2319), ek P (.ofString ".") 2363 (.int 23 2263), ek P (.ofString "...") 2365 (.int 52 2321), ek P (.ofString "/") 2367 (.int 17 2251), ek P (.ofString "//") 2369 (.int 47 2311), ek P (.ofString "//=") 2371 (.int 48 2313), ek P (.ofString "/=") 2373 (.int 39 2295), ek P (.ofString ":") 2375 (.int 11 2239), ek P (.ofString ":=") 2377 (.int 53 2323), ek P (.ofString ";") 2379 (.int 13 2243), ek P (.ofString "<") 2381 (.int 20 2257), ek P (.ofString "<<") 2383 (.int 33 2283), ek P (.ofString "<<=") 2385 (.int 44 2305), ek P (.ofString "<=") 2387 (.int 29 2275), ek P (.ofString "=") 2389 (.int 22 2261), ek P (.ofString "==") 2391 (.int 27 2271), ek P (.ofString ">") 2393 (.int 21 2259), ek P (.ofString ">=") 2395 (.int 30 2277), ek P (.ofString ">>") 2396 (.int 34 2285), ek P (.ofString ">>=") 2397 (.int 45 2307), ek P (.ofString "@") 2398 (.int 49 2315), ek P (.ofString "@=") 2399 (.int 50 2317), ek P (.ofString "[") 2400 (.int 9 2235), ek P (.ofString "]") 2401 (.int 10 2237), ek P (.ofString "^") 2402 (.int 32 2281), ek P (.ofString "^=") 2403 (.int 43 2303), ek P (.ofString "{") 2404 (.int 25 2267), ek P (.ofString "|") 2405 (.int 18 2253), ek P (.ofString "|=") 2406 (.int 42 2301), ek P (.ofString "}") 2407 (.int 26 2269), ek P (.ofString "~") 2408 (.int 31 2279)].toArray 48), #[]⟩
noncomputable def o87_8 (P : Params) : Obj := ⟨(.type "dict"), none, (.dict [ek P (.ofString "->") 2361 (.int 51 2319), ek P (.ofString ".") 2363 (.int 23 2263), ek P (.ofString "...") 2365 (.int 52 2321), ek P (.ofString "/") 2367 (.int 17 2251), ek P (.ofString "//") 2369 (.int 47 2311), ek P (.ofString "//=") 2371 (.int 48 2313), ek P (.ofString "/=") 2373 (.int 39 2295), ek P (.ofString ":") 2375 (.int 11 2239), ek P (.ofString ":=") 2377 (.int 53 2323), ek P (.ofString ";") 2379 (.int 13 2243), ek P (.ofString "<") 2381 (.int 20 2257), ek P (.ofString "<<") 2383 (.int 33 2283), ek P (.ofString "<<=") 2385 (.int 44 2305), ek P (.ofString "<=") 2387 (.int 29 2275), ek P (.ofString "=") 2389 (.int 22 2261), ek P (.ofString "==") 2391 (.int 27 2271), ek P (.ofString ">") 2393 (.int 21 2259)].toArray 17), #[]⟩
noncomputable def o88_8 (P : Params) : Obj := ⟨(.type "dict"), none, (.dict [ek P (.ofString ">=") 2395 (.int 30 2277), ek P (.ofString ">>") 2396 (.int 34 2285), ek P (.ofString ">>=") 2397 (.int 45 2307), ek P (.ofString "@") 2398 (.int 49 2315), ek P (.ofString "@=") 2399 (.int 50 2317), ek P (.ofString "[") 2400 (.int 9 2235), ek P (.ofString "]") 2401 (.int 10 2237), ek P (.ofString "^") 2402 (.int 32 2281), ek P (.ofString "^=") 2403 (.int 43 2303), ek P (.ofString "{") 2404 (.int 25 2267), ek P (.ofString "|") 2405 (.int 18 2253), ek P (.ofString "|=") 2406 (.int 42 2301), ek P (.ofString "}") 2407 (.int 26 2269), ek P (.ofString "~") 2408 (.int 31 2279)].toArray 14), #[]⟩
noncomputable def tS57 (P : Params) : BT := (.node (PySem.W.boot_o_0 P) (.node (PySem.W.boot_o_1 P) (.node (o3_8 P) (.node (PySem.W.boot_o_7 P) (.node (o15_2 P) (.node (o31_3 P) (.node (o63_5 P) .nil .nil) .nil) (.node (o47_5 P) (.node (o79_6 P) .nil .nil) .nil)) (.node (o23_3 P) (.node (o39_4 P) (.node (o71_5 P) .nil .nil) .nil) (.node (o55_5 P) (.node (o87_8 P) .nil .nil) .nil))) (.node (o11_0 P) (.node (o19_2 P) (.node (o35_4 P) (.node (o67_5 P) .nil .nil) .nil) (.node (o51_5 P) (.node (o83_6 P) .nil .nil) .nil)) (.node (o27_3 P) (.node (o43_5 P) (.node (o75_5 P) .nil .nil) .nil) (.node (o59_5 P) .nil .nil)))) (.node (PySem.W.boot_o_5 P) (.node (PySem.W.boot_o_9 P) (.node (o17_2 P) (.node (o33_4 P) (.node (o65_5 P) .nil .nil) .nil) (.node (o49_5 P) (.node (o81_6 P) .nil .nil) .nil)) (.node (o25_3 P) (.node (o41_5 P) (.node (o73_5 P) .nil .nil) .nil) (.node (o57_5 P) .nil .nil))) (.node (o13_0 P) (.node (o21_2 P) (.node (o37_4 P) (.node (o69_5 P) .nil .nil) .nil) (.node (o53_5 P) (.node (o85_6 P) .nil .nil) .nil)) (.node (o29_3 P) (.node (o45_5 P) (.node (o77_5 P) .nil .nil) .nil) (.node (o61_5 P) .nil .nil))))) (.node (PySem.W.boot_o_2 P) (.node (PySem.W.boot_o_4 P) (.node (PySem.W.boot_o_8 P) (.node (o16_2 P) (.node (o32_3 P) (.node (o64_5 P) .nil .nil) .nil) (.node (o48_5 P) (.node (o80_6 P) .nil .nil) .nil)) (.node (o24_3 P) (.node (o40_5 P) (.node (o72_5 P) .nil .nil) .nil) (.node (o56_5 P) (.node (o88_8 P) .nil .nil) .nil))) (.node (o12_6 P) (.node (o20_2 P) (.node (o36_4 P) (.node (o68_5 P) .nil .nil) .nil) (.node (o52_5 P) (.node (o84_6 P) .nil .nil) .nil)) (.node (o28_3 P) (.node (o44_5 P) (.node (o76_5 P) .nil .nil) .nil) (.node (o60_5 P) .nil .nil)))) (.node (PySem.W.boot_o_6 P) (.node (PySem.W.boot_o_10 P) (.node (o18_2 P) (.node (o34_4 P) (.node (o66_5 P) .nil .nil) .nil) (.node (o50_5 P) (.node (o82_6 P) .nil .nil) .nil)) (.node (o26_3 P) (.node (o42_5 P) (.node (o74_5 P) .nil .nil) .nil) (.node (o58_5 P) .nil .nil))) (.node (o14_0 P) (.node (o22_3 P) (.node (o38_4 P) (.node (o70_5 P) .nil .nil) .nil) (.node (o54_5 P) (.node (o86_8 P) .nil .nil) .nil)) (.node (o30_3 P) (.node (o46_5 P) (.node (o78_5 P) .nil .nil) .nil) (.node (o62_5 P) .nil .nil))))))
noncomputable def o3_9 (P : Params) : Obj := ⟨(.type "dict"), none, (.dict [ek P (.ofString "__name__") 165 (.str (.ofString "law_wf0076_01") 2431), ek P (.ofString "__doc__") 166 .none, ek P (.ofString "__package__") 167 .none, ek P (.ofString "__loader__") 168 (.builtin "__main__.__loader__#opaque"), ek P (.ofString "__spec__") 169 .none, ek P (.ofString "__annotations__") 170 (.ref 6), ek P (.ofString "__builtins__") 171 (.ref 4), ek P (.ofString "__file__") 173 (.str (.ofString "/claim/cut.py") 172), ek P (.ofString "__cached__") 174 .none, ek P (.ofString "Int2AP") 198 (.ref 21), ek P (.ofString "b1_set") 260 (.ref 29), ek P (.ofString "in_table_b1") 267 (.ref 39), ek P (.ofString "b3_exceptions") 2218 (.ref 40), ek P (.ofString "map_table_b3") 2226 (.ref 85), ek P (.ofString "ENDMARKER") 2230 (.int 0 2229), ek P (.ofString "LPAR") 2232 (.int 7 2231), ek P (.ofString "RPAR") 2234 (.int 8 2233), ek P (.ofString "LSQB") 2236 (.int 9 2235), ek P (.ofString "RSQB") 2238 (.int 10 2237), ek P (.ofString "COLON") 2240 (.int 11 2239), ek P (.ofString "COMMA") 2242 (.int 12 2241), ek P (.ofString "SEMI") 2244 (.int 13 2243), ek P (.ofString "PLUS") 2246 (.int 14 2245), ek P (.ofString "MINUS") 2248 (.int 15 2247), ek P (.ofString "STAR") 2250 (.int 16 2249), ek P (.ofString "SLASH") 2252 (.int 17 2251), ek P (.ofString "VBAR") 2254 (.int 18 2253), ek P (.ofString "AMPER") 2256 (.int 19 2255), ek P (.ofString "LESS") 2258 (.int 20 2257), ek P (.ofString "GREATER") 2260 (.int 21 2259), ek P (.ofString "EQUAL") 2262 (.int 22 2261), ek P (.ofString "DOT") 2264 (.int 23 2263), ek P (.ofString "PERCENT") 2266 (.int 24 2265), ek P (.ofString "LBRACE") 2268 (.int 25 2267), ek P (.ofString "RBRACE") 2270 (.int 26 2269), ek P (.ofString "EQEQUAL") 2272 (.int 27 2271), ek P (.ofString "NOTEQUAL") 2274 (.int 28 2273), ek P (.ofString "LESSEQUAL") 2276 (.int 29 2275), ek P (.ofString "GREATEREQUAL") 2278 (.int 30 2277), ek P (.ofString "TILDE") 2280 (.int 31 2279), ek P (.ofString "CIRCUMFLEX") 2282 (.int 32 2281), ek P (.ofString "LEFTSHIFT") 2284 (.int 33 2283), ek P (.ofString "RIGHTSHIFT") 2286 (.int 34 2285), ek P (.ofString "DOUBLESTAR") 2288 (.int 35 2287), ek P (.ofString "PLUSEQUAL") 2290 (.int 36 2289), ek P (.ofString "MINEQUAL") 2292 (.int 37 2291), ek P (.ofString "STAREQUAL") 2294 (.int 38 2293), ek P (.ofString "SLASHEQUAL") 2296 (.int 39 2295), ek P (.ofString "PERCENTEQUAL") 2298 (.int 40 2297), ek P (.ofString "AMPEREQUAL") 2300 (.int 41 2299), ek P (.ofString "VBAREQUAL") 2302 (.int 42 2301), ek P (.ofString "CIRCUMFLEXEQUAL") 2304 (.int 43 2303), ek P (.ofString "LEFTSHIFTEQUAL") 2306 (.int 44 2305), ek P (.ofString "RIGHTSHIFTEQUAL") 2308 (.int 45 2307), ek P (.ofString "DOUBLESTAREQUAL") 2310 (.int 46 2309), ek P (.ofString "DOUBLESLASH") 2312 (.int 47 2311), ek P (.ofString "DOUBLESLASHEQUAL") 2314 (.int 48 2313), ek P (.ofString "AT") 2316 (.int 49 2315), ek P (.ofString "ATEQUAL") 2318 (.int 50 2317), ek P (.ofString "RARROW") 2320 (.int 51 2319), ek P (.ofString "ELLIPSIS") 2322 (.int 52 2321), ek P (.ofString "COLONEQUAL") 2324 (.int 53 2323), ek P (.ofString "EXCLAMATION") 2326 (.int 54 2325), ek P (.ofString "EXACT_TOKEN_TYPES") 2423 (.ref 86), ek P (.ofString "ISEOF") 2430 (.ref 95), ek P (.ofString "_law_draw") 2438 (.ref 100), ek P (.ofString "_law_spelled") 2450 (.ref 107), ek P (.ofString "_law_written") 2463 (.ref 114), ek P (.ofString "_law_read") 2474 (.ref 121), ek P (.ofString "_law_last") 2480 (.ref 126), ek P (.ofString "_law_reckoned") 2486 (.ref 131), ek P (.ofString "_law_back") 2496 (.ref 138), ek P (.ofString "_law_found") 2512 (.ref 145), ek P (.ofString "_law_figures") 2518 (.ref 150), ek P (.ofString "_law_due") 2524 (.ref 155), ek P (.ofString "law") 2530 (.ref 160)].toArray 76), #[]⟩
noncomputable def o12_9 (P : Params) : Obj := ⟨.none, none, (.fields [(.int 2 0), (.int 0 0), (.ref 20), (.int 12 0), (.int 0 0), (.ref 38), (.int 15 0), (.int 0 0), (.ref 84), (.int 71 0), (.int 0 0), (.ref 94), (.int 74 0), (.int 0 0), (.ref 99), (.int 79 0), (.int 0 0), (.ref 106), (.int 90 0), (.int 0 0), (.ref 113), (.int 95 0), (.int 0 0), (.ref 120), (.int 109 0), (.int 0 0), (.ref 125), (.int 115 0), (.int 0 0), (.ref 130), (.int 117 0), (.int 0 0), (.ref 137), (.int 123 0), (.int 0 0), (.ref 144), (.int 134 0), (.int 0 0), (.ref 149), (.int 136 0), (.int 0 0), (.ref 154), (.int 147 0), (.int 0 0), (.ref 159)].toArray), #[]⟩
noncomputable def o89_9 (P : Params) : Obj := ⟨(.type "tuple"), none, (.seq [].toArray 0), #[]⟩
noncomputable def o90_9 (P : Params) : Obj := ⟨.none, none, (.fields [].toArray), #[]⟩
noncomputable def o91_9 (P : Params) : Obj := ⟨(.type "tuple"), none, (.seq [(.str (.ofString "x") 2427)].toArray 0), #[]⟩
noncomputable def o92_9 (P : Params) : Obj := ⟨(.type "tuple"), none, (.seq [].toArray 0), #[]⟩
noncomputable def o93_9 (P : Params) : Obj := ⟨.none, none, (.func (fnD 58 (.ofString "ISEOF") (.ofString "ISEOF") 0 .none .none 0)), #[]⟩
noncomputable def o94_9 (P : Params) : Obj := ⟨(.type "code"), none, (.fields [(.str (.ofString "ISEOF") 2424), (.str (.ofString "ISEOF") 2425), (.str (.ofString "/claim/cut.py") 2426), (.int 71 0), (.int 1 0), (.int 0 0), (.int 0 0), (.int 3 0), (.ref 89), (.bool true), (.int 181 0), (.ref 90), .none, (.ref 91), (.ref 92), (.ref 93), (.int 2428 0), (.int 71 0), (.str (.ofString "/claim/cut.py") 2429)].toArray), #[]⟩
noncomputable def o95_9 (P : Params) : Obj := ⟨(.type "function"), none, (.func (fnD 58 (.ofString "ISEOF") (.ofString "ISEOF") 3 (.str (.ofString "cpy313.token") 2227) (.ref 94) 0)), #[]⟩
noncomputable def o96_9 (P : Params) : Obj := ⟨(.type "tuple"), none, (.seq [].toArray 0), #[]⟩
noncomputable def o97_9 (P : Params) : Obj := ⟨.none, none, (.fields [].toArray), #[]⟩
noncomputable def o98_9 (P : Params) : Obj := ⟨.none, none, (.func (fnD 60 (.ofString "_law_draw") (.ofString "_law_draw") 0 .none .none 0)), #[]⟩
noncomputable def o99_9 (P : Params) : Obj := ⟨(.type "code"), none, (.fields [(.str (.ofString "_law_draw") 2433), (.str (.ofString "_law_draw") 2434), (.str (.ofString "/claim/cut.py") 2435), (.int 74 0), (.int 1 0), (.int 0 0), (.int 0 0), (.int 3 0), (.ref 96), (.bool true), (.int 181 0), (.ref 97), .none, .none, .none, (.ref 98), (.int 2436 0), (.int 74 0), (.str (.ofString "/claim/cut.py") 2437)].toArray), #[]⟩
noncomputable def o100_9 (P : Params) : Obj := ⟨(.type "function"), none, (.func (fnD 60 (.ofString "_law_draw") (.ofString "_law_draw") 3 (.str (.ofString "law_wf0076_01") 2431) (.ref 99) 0)), #[]⟩
noncomputable def o101_9 (P : Params) : Obj := ⟨(.type "tuple"), none, (.seq [].toArray 0), #[]⟩
noncomputable def o102_9 (P : Params) : Obj := ⟨.none, none, (.fields [].toArray), #[]⟩
noncomputable def o103_9 (P : Params) : Obj := ⟨(.type "tuple"), none, (.seq [(.str (.ofString "word") 2442), (.str (.ofString "dress") 2443), (.str (.ofString "text") 2444), (.str (.ofString "octet") 2445), (.str (.ofString "form") 2446), (.str (.ofString "unseen") 2447)].toArray 0), #[]⟩
noncomputable def o104_9 (P : Params) : Obj := ⟨(.type "tuple"), none, (.seq [].toArray 0), #[]⟩
noncomputable def o105_9 (P : Params) : Obj := ⟨.none, none, (.func (fnD 61 (.ofString "_law_spelled") (.ofString "_law_spelled") 0 .none .none 0)), #[]⟩
noncomputable def o106_9 (P : Params) : Obj := ⟨(.type "code"), none, (.fields [(.str (.ofString "_law_spelled") 2439), (.str (.ofString "_law_spelled") 2440), (.str (.ofString "/claim/cut.py") 2441), (.int 79 0), (.int 2 0), (.int 0 0), (.int 0 0), (.int 3 0), (.ref 101), (.bool true), (.int 181 0), (.ref 102), .none, (.ref 103), (.ref 104), (.ref 105), (.int 2448 0), (.int 79 0), (.str (.ofString "/claim/cut.py") 2449)].toArray), #[]⟩
noncomputable def o107_9 (P : Params) : Obj := ⟨(.type "function"), none, (.func (fnD 61 (.ofString "_law_spelled") (.ofString "_law_spelled") 3 (.str (.ofString "law_wf0076_01") 2431) (.ref 106) 0)), #[]⟩
noncomputable def o108_9 (P : Params) : Obj := ⟨(.type "tuple"), none, (.seq [].toArray 0), #[]⟩
noncomputable def o109_9 (P : Params) : Obj := ⟨.none, none, (.fields [].toArray), #[]⟩
noncomputable def o110_9 (P : Params) : Obj := ⟨(.type "tuple"), none, (.seq [(.str (.ofString "drawn") 2454), (.str (.ofString "text") 2455), (.str (.ofString "first") 2456), (.str (.ofString "sign") 2457), (.str (.ofString "second") 2458), (.str (.ofString "sought") 2459), (.str (.ofString "dress") 2460)].toArray 0), #[]⟩
noncomputable def o111_9 (P : Params) : Obj := ⟨(.type "tuple"), none, (.seq [].toArray 0), #[]⟩
noncomputable def o112_9 (P : Params) : Obj := ⟨.none, none, (.func (fnD 62 (.ofString "_law_written") (.ofString "_law_written") 0 .none .none 0)), #[]⟩
noncomputable def o113_9 (P : Params) : Obj := ⟨(.type "code"), none, (.fields [(.str (.ofString "_law_written") 2451), (.str (.ofString "_law_written") 2452), (.str (.ofString "/claim/cut.py") 2453), (.int 90 0), (.int 1 0), (.int 0 0), (.int 0 0), (.int 3 0), (.ref 108), (.bool true), (.int 181 0), (.ref 109), .none, (.ref 110), (.ref 111), (.ref 112), (.int 2461 0), (.int 90 0), (.str (.ofString "/claim/cut.py") 2462)].toArray), #[]⟩
noncomputable def o114_9 (P : Params) : Obj := ⟨(.type "function"), none, (.func (fnD 62 (.ofString "_law_written") (.ofString "_law_written") 3 (.str (.ofString "law_wf0076_01") 2431) (.ref 113) 0)), #[]⟩
noncomputable def o115_9 (P : Params) : Obj := ⟨(.type "tuple"), none, (.seq [].toArray 0), #[]⟩
noncomputable def o116_9 (P : Params) : Obj := ⟨.none, none, (.fields [].toArray), #[]⟩
noncomputable def o117_9 (P : Params) : Obj := ⟨(.type "tuple"), none, (.seq [(.str (.ofString "text") 2467), (.str (.ofString "rings") 2468), (.str (.ofString "line") 2469), (.str (.ofString "sign") 2470), (.str (.ofString "plain") 2471)].toArray 0), #[]⟩
noncomputable def o118_9 (P : Params) : Obj := ⟨(.type "tuple"), none, (.seq [].toArray 0), #[]⟩
noncomputable def o119_9 (P : Params) : Obj := ⟨.none, none, (.func (fnD 63 (.ofString "_law_read") (.ofString "_law_read") 0 .none .none 0)), #[]⟩
noncomputable def o120_9 (P : Params) : Obj := ⟨(.type "code"), none, (.fields [(.str (.ofString "_law_read") 2464), (.str (.ofString "_law_read") 2465), (.str (.ofString "/claim/cut.py") 2466), (.int 95 0), (.int 1 0), (.int 0 0), (.int 0 0), (.int 3 0), (.ref 115), (.bool true), (.int 181 0), (.ref 116), .none, (.ref 117), (.ref 118), (.ref 119), (.int 2472 0), (.int 95 0), (.str (.ofString "/claim/cut.py") 2473)].toArray), #[]⟩
noncomputable def o121_9 (P : Params) : Obj := ⟨(.type "function"), none, (.func (fnD 63 (.ofString "_law_read") (.ofString "_law_read") 3 (.str (.ofString "law_wf0076_01") 2431) (.ref 120) 0)), #[]⟩
noncomputable def o122_9 (P : Params) : Obj := ⟨(.type "tuple"), none, (.seq [].toArray 0), #[]⟩
noncomputable def o123_9 (P : Params) : Obj := ⟨.none, none, (.fields [].toArray), #[]⟩
noncomputable def o124_9 (P : Params) : Obj := ⟨.none, none, (.func (fnD 64 (.ofString "_law_last") (.ofString "_law_last") 0 .none .none 0)), #[]⟩
noncomputable def o125_9 (P : Params) : Obj := ⟨(.type "code"), none, (.fields [(.str (.ofString "_law_last") 2475), (.str (.ofString "_law_last") 2476), (.str (.ofString "/claim/cut.py") 2477), (.int 109 0), (.int 1 0), (.int 0 0), (.int 0 0), (.int 3 0), (.ref 122), (.bool true), (.int 181 0), (.ref 123), .none, .none, .none, (.ref 124), (.int 2478 0), (.int 109 0), (.str (.ofString "/claim/cut.py") 2479)].toArray), #[]⟩
noncomputable def o126_9 (P : Params) : Obj := ⟨(.type "function"), none, (.func (fnD 64 (.ofString "_law_last") (.ofString "_law_last") 3 (.str (.ofString "law_wf0076_01") 2431) (.ref 125) 0)), #[]⟩
noncomputable def o127_9 (P : Params) : Obj := ⟨(.type "tuple"), none, (.seq [].toArray 0), #[]⟩
noncomputable def o128_9 (P : Params) : Obj := ⟨.none, none, (.fields [].toArray), #[]⟩
noncomputable def o129_9 (P : Params) : Obj := ⟨.none, none, (.func (fnD 65 (.ofString "_law_reckoned") (.ofString "_law_reckoned") 0 .none .none 0)), #[]⟩
noncomputable def o130_9 (P : Params) : Obj := ⟨(.type "code"), none, (.fields [(.str (.ofString "_law_reckoned") 2481), (.str (.ofString "_law_reckoned") 2482), (.str (.ofString "/claim/cut.py") 2483), (.int 115 0), (.int 3 0), (.int 0 0), (.int 0 0), (.int 3 0), (.ref 127), (.bool true), (.int 181 0), (.ref 128), .none, .none, .none, (.ref 129), (.int 2484 0), (.int 115 0), (.str (.ofString "/claim/cut.py") 2485)].toArray), #[]⟩
noncomputable def o131_9 (P : Params) : Obj := ⟨(.type "function"), none, (.func (fnD 65 (.ofString "_law_reckoned") (.ofString "_law_reckoned") 3 (.str (.ofString "law_wf0076_01") 2431) (.ref 130) 0)), #[]⟩
noncomputable def o132_9 (P : Params) : Obj := ⟨(.type "tuple"), none, (.seq [].toArray 0), #[]⟩
noncomputable def o133_9 (P : Params) : Obj := ⟨.none, none, (.fields [].toArray), #[]⟩
noncomputable def o134_9 (P : Params) : Obj := ⟨(.type "tuple"), none, (.seq [(.str (.ofString "last") 2490), (.str (.ofString "steps") 2491), (.str (.ofString "place") 2492), (.str (.ofString "ahead") 2493)].toArray 0), #[]⟩
noncomputable def o135_9 (P : Params) : Obj := ⟨(.type "tuple"), none, (.seq [].toArray 0), #[]⟩
noncomputable def o136_9 (P : Params) : Obj := ⟨.none, none, (.func (fnD 66 (.ofString "_law_back") (.ofString "_law_back") 0 .none .none 0)), #[]⟩
noncomputable def o137_9 (P : Params) : Obj := ⟨(.type "code"), none, (.fields [(.str (.ofString "_law_back") 2487), (.str (.ofString "_law_back") 2488), (.str (.ofString "/claim/cut.py") 2489), (.int 117 0), (.int 3 0), (.int 0 0), (.int 0 0), (.int 3 0), (.ref 132), (.bool true), (.int 181 0), (.ref 133), .none, (.ref 134), (.ref 135), (.ref 136), (.int 2494 0), (.int 117 0), (.str (.ofString "/claim/cut.py") 2495)].toArray), #[]⟩
noncomputable def o138_9 (P : Params) : Obj := ⟨(.type "function"), none, (.func (fnD 66 (.ofString "_law_back") (.ofString "_law_back") 3 (.str (.ofString "law_wf0076_01") 2431) (.ref 137) 0)), #[]⟩
noncomputable def o139_9 (P : Params) : Obj := ⟨(.type "tuple"), none, (.seq [].toArray 0), #[]⟩
noncomputable def o140_9 (P : Params) : Obj := ⟨.none, none, (.fields [].toArray), #[]⟩
noncomputable def o141_9 (P : Params) : Obj := ⟨(.type "tuple"), none, (.seq [(.str (.ofString "last") 2500), (.str (.ofString "steps") 2501), (.str (.ofString "word") 2502), (.str (.ofString "low") 2503), (.str (.ofString "high") 2504), (.str (.ofString "octet") 2505), (.str (.ofString "found") 2506), (.str (.ofString "place") 2507), (.str (.ofString "line") 2508), (.str (.ofString "ahead") 2509)].toArray 0), #[]⟩
noncomputable def o142_9 (P : Params) : Obj := ⟨(.type "tuple"), none, (.seq [].toArray 0), #[]⟩
noncomputable def o143_9 (P : Params) : Obj := ⟨.none, none, (.func (fnD 67 (.ofString "_law_found") (.ofString "_law_found") 0 .none .none 0)), #[]⟩
noncomputable def o144_9 (P : Params) : Obj := ⟨(.type "code"), none, (.fields [(.str (.ofString "_law_found") 2497), (.str (.ofString "_law_found") 2498), (.str (.ofString "/claim/cut.py") 2499), (.int 123 0), (.int 3 0), (.int 0 0), (.int 0 0), (.int 3 0), (.ref 139), (.bool true), (.int 181 0), (.ref 140), .none, (.ref 141), (.ref 142), (.ref 143), (.int 2510 0), (.int 123 0), (.str (.ofString "/claim/cut.py") 2511)].toArray), #[]⟩
noncomputable def o145_9 (P : Params) : Obj := ⟨(.type "function"), none, (.func (fnD 67 (.ofString "_law_found") (.ofString "_law_found") 3 (.str (.ofString "law_wf0076_01") 2431) (.ref 144) 0)), #[]⟩
noncomputable def o146_9 (P : Params) : Obj := ⟨(.type "tuple"), none, (.seq [].toArray 0), #[]⟩
noncomputable def o147_9 (P : Params) : Obj := ⟨.none, none, (.fields [].toArray), #[]⟩
noncomputable def o148_9 (P : Params) : Obj := ⟨.none, none, (.func (fnD 68 (.ofString "_law_figures") (.ofString "_law_figures") 0 .none .none 0)), #[]⟩
noncomputable def o149_9 (P : Params) : Obj := ⟨(.type "code"), none, (.fields [(.str (.ofString "_law_figures") 2513), (.str (.ofString "_law_figures") 2514), (.str (.ofString "/claim/cut.py") 2515), (.int 134 0), (.int 1 0), (.int 0 0), (.int 0 0), (.int 3 0), (.ref 146), (.bool true), (.int 181 0), (.ref 147), .none, .none, .none, (.ref 148), (.int 2516 0), (.int 134 0), (.str (.ofString "/claim/cut.py") 2517)].toArray), #[]⟩
noncomputable def o150_9 (P : Params) : Obj := ⟨(.type "function"), none, (.func (fnD 68 (.ofString "_law_figures") (.ofString "_law_figures") 3 (.str (.ofString "law_wf0076_01") 2431) (.ref 149) 0)), #[]⟩
noncomputable def o151_9 (P : Params) : Obj := ⟨(.type "tuple"), none, (.seq [].toArray 0), #[]⟩
noncomputable def o152_9 (P : Params) : Obj := ⟨.none, none, (.fields [].toArray), #[]⟩
noncomputable def o153_9 (P : Params) : Obj := ⟨.none, none, (.func (fnD 69 (.ofString "_law_due") (.ofString "_law_due") 0 .none .none 0)), #[]⟩
noncomputable def o154_9 (P : Params) : Obj := ⟨(.type "code"), none, (.fields [(.str (.ofString "_law_due") 2519), (.str (.ofString "_law_due") 2520), (.str (.ofString "/claim/cut.py") 2521), (.int 136 0), (.int 1 0), (.int 0 0), (.int 0 0), (.int 3 0), (.ref 151), (.bool true), (.int 181 0), (.ref 152), .none, .none, .none, (.ref 153), (.int 2522 0), (.int 136 0), (.str (.ofString "/claim/cut.py") 2523)].toArray), #[]⟩
noncomputable def o155_9 (P : Params) : Obj := ⟨(.type "function"), none, (.func (fnD 69 (.ofString "_law_due") (.ofString "_law_due") 3 (.str (.ofString "law_wf0076_01") 2431) (.ref 154) 0)), #[]⟩
noncomputable def o156_9 (P : Params) : Obj := ⟨(.type "tuple"), none, (.seq [].toArray 0), #[]⟩
noncomputable def o157_9 (P : Params) : Obj := ⟨.none, none, (.fields [].toArray), #[]⟩
noncomputable def o158_9 (P : Params) : Obj := ⟨.none, none, (.func (fnD 70 (.ofString "law") (.ofString "law") 0 .none .none 0)), #[]⟩
noncomputable def o159_9 (P : Params) : Obj := ⟨(.type "code"), none, (.fields [(.str (.ofString "law") 2525), (.str (.ofString "law") 2526), (.str (.ofString "/claim/cut.py") 2527), (.int 147 0), (.int 1 0), (.int 0 0), (.int 0 0), (.int 3 0), (.ref 156), (.bool true), (.int 181 0), (.ref 157), .none, .none, .none, (.ref 158), (.int 2528 0), (.int 147 0), (.str (.ofString "/claim/cut.py") 2529)].toArray), #[]⟩
noncomputable def o160_9 (P : Params) : Obj := ⟨(.type "function"), none, (.func (fnD 70 (.ofString "law") (.ofString "law") 3 (.str (.ofString "law_wf0076_01") 2431) (.ref 159) 0)), #[]⟩
noncomputable def tS70 (P : Params) : BT := (.node (PySem.W.boot_o_0 P) (.node (PySem.W.boot_o_1 P) (.node (o3_9 P) (.node (PySem.W.boot_o_7 P) (.node (o15_2 P) (.node (o31_3 P) (.node (o63_5 P) (.node (o127_9 P) .nil .nil) .nil) (.node (o95_9 P) (.node (o159_9 P) .nil .nil) .nil)) (.node (o47_5 P) (.node (o79_6 P) (.node (o143_9 P) .nil .nil) .nil) (.node (o111_9 P) .nil .nil))) (.node (o23_3 P) (.node (o39_4 P) (.node (o71_5 P) (.node (o135_9 P) .nil .nil) .nil) (.node (o103_9 P) .nil .nil)) (.node (o55_5 P) (.node (o87_8 P) (.node (o151_9 P) .nil .nil) .nil) (.node (o119_9 P) .nil .nil)))) (.node (o11_0 P) (.node (o19_2 P) (.node (o35_4 P) (.node (o67_5 P) (.node (o131_9 P) .nil .nil) .nil) (.node (o99_9 P) .nil .nil)) (.node (o51_5 P) (.node (o83_6 P) (.node (o147_9 P) .nil .nil) .nil) (.node (o115_9 P) .nil .nil))) (.node (o27_3 P) (.node (o43_5 P) (.node (o75_5 P) (.node (o139_9 P) .nil .nil) .nil) (.node (o107_9 P) .nil .nil)) (.node (o59_5 P) (.node (o91_9 P) (.node (o155_9 P) .nil .nil) .nil) (.node (o123_9 P) .nil .nil))))) (.node (PySem.W.boot_o_5 P) (.node (PySem.W.boot_o_9 P) (.node (o17_2 P) (.node (o33_4 P) (.node (o65_5 P) (.node (o129_9 P) .nil .nil) .nil) (.node (o97_9 P) .nil .nil)) (.node (o49_5 P) (.node (o81_6 P) (.node (o145_9 P) .nil .nil) .nil) (.node (o113_9 P) .nil .nil))) (.node (o25_3 P) (.node (o41_5 P) (.node (o73_5 P) (.node (o137_9 P) .nil .nil) .nil) (.node (o105_9 P) .nil .nil)) (.node (o57_5 P) (.node (o89_9 P) (.node (o153_9 P) .nil .nil) .nil) (.node (o121_9 P) .nil .nil)))) (.node (o13_0 P) (.node (o21_2 P) (.node (o37_4 P) (.node (o69_5 P) (.node (o133_9 P) .nil .nil) .nil) (.node (o101_9 P) .nil .nil)) (.node (o53_5 P) (.node (o85_6 P) (.node (o149_9 P) .nil .nil) .nil) (.node (o117_9 P) .nil .nil))) (.node (o29_3 P) (.node (o45_5 P) (.node (o77_5 P) (.node (o141_9 P) .nil .nil) .nil) (.node (o109_9 P) .nil .nil)) (.node (o61_5 P) (.node (o93_9 P) (.node (o157_9 P) .nil .nil) .nil) (.node (o125_9 P) .nil .nil)))))) (.node (PySem.W.boot_o_2 P) (.node (PySem.W.boot_o_4 P) (.node (PySem.W.boot_o_8 P) (.node (o16_2 P) (.node (o32_3 P) (.node (o64_5 P) (.node (o128_9 P) .nil .nil) .nil) (.node (o96_9 P) (.node (o160_9 P) .nil .nil) .nil)) (.node (o48_5 P) (.node (o80_6 P) (.node (o144_9 P) .nil .nil) .nil) (.node (o112_9 P) .nil .nil))) (.node (o24_3 P) (.node (o40_5 P) (.node (o72_5 P) (.node (o136_9 P) .nil .nil) .nil) (.node (o104_9 P) .nil .nil)) (.node (o56_5 P) (.node (o88_8 P) (.node (o152_9 P) .nil .nil) .nil) (.node (o120_9 P) .nil .nil)))) (.node (o12_9 P) (.node (o20_2 P) (.node (o36_4 P) (.node (o68_5 P) (.node (o132_9 P) .nil .nil) .nil) (.node (o100_9 P) .nil .nil)) (.node (o52_5 P) (.node (o84_6 P) (.node (o148_9 P) .nil .nil) .nil) (.node (o116_9 P) .nil .nil))) (.node (o28_3 P) (.node (o44_5 P) (.node (o76_5 P) (.node (o140_9 P) .nil .nil) .nil) (.node (o108_9 P) .nil .nil)) (.node (o60_5 P) (.node (o92_9 P) (.node (o156_9 P) .nil .nil) .nil) (.node (o124_9 P) .nil .nil))))) (.node (PySem.W.boot_o_6 P) (.node (PySem.W.boot_o_10 P) (.node (o18_2 P) (.node (o34_4 P) (.node (o66_5 P) (.node (o130_9 P) .nil .nil) .nil) (.node (o98_9 P) .nil .nil)) (.node (o50_5 P) (.node (o82_6 P) (.node (o146_9 P) .nil .nil) .nil) (.node (o114_9 P) .nil .nil))) (.node (o26_3 P) (.node (o42_5 P) (.node (o74_5 P) (.node (o138_9 P) .nil .nil) .nil) (.node (o106_9 P) .nil .nil)) (.node (o58_5 P) (.node (o90_9 P) (.node (o154_9 P) .nil .nil) .nil) (.node (o122_9 P) .nil .nil)))) (.node (o14_0 P) (.node (o22_3 P) (.node (o38_4 P) (.node (o70_5 P) (.node (o134_9 P) .nil .nil) .nil) (.node (o102_9 P) .nil .nil)) (.node (o54_5 P) (.node (o86_8 P) (.node (o150_9 P) .nil .nil) .nil) (.node (o118_9 P) .nil .nil))) (.node (o30_3 P) (.node (o46_5 P) (.node (o78_5 P) (.node (o142_9 P) .nil .nil) .nil) (.node (o110_9 P) .nil .nil)) (.node (o62_5 P) (.node (o94_9 P) (.node (o158_9 P) .nil .nil) .nil) (.node (o126_9 P) .nil .nil)))))))
theorem g2 (w : World) : evT w.params 50 (Fast.tw12563942051412417395 [stAt 0, stAt 1, stAt 2] envT) ⟨tSb w.params, 15, 187, 0⟩ = some (.ok .next, ⟨tS2 w.params, 22, 201, 50⟩) := by
  kernel_rfl
theorem g4 (w : World) : evT w.params 50 (Fast.tw12563942051412417395 [stAt 4] envT) ⟨tS3 w.params, 33, 261, 0⟩ = some (.ok .next, ⟨tS4 w.params, 40, 268, 29⟩) := by
  kernel_rfl
theorem g30 (w : World) : evT w.params 50 (Fast.tw12563942051412417395 [stAt 6, stAt 7, stAt 8, stAt 9, stAt 10, stAt 11, stAt 12, stAt 13, stAt 14, stAt 15, stAt 16, stAt 17, stAt 18, stAt 19, stAt 20, stAt 21, stAt 22, stAt 23, stAt 24, stAt 25, stAt 26, stAt 27, stAt 28, stAt 29, stAt 30] envT) ⟨tS5 w.params, 79, 2219, 0⟩ = some (.ok .next, ⟨tS30 w.params, 86, 2275, 246⟩) := by
  kernel_rfl
theorem g56 (w : World) : evT w.params 50 (Fast.tw12563942051412417395 [stAt 31, stAt 32, stAt 33, stAt 34, stAt 35, stAt 36, stAt 37, stAt 38, stAt 39, stAt 40, stAt 41, stAt 42, stAt 43, stAt 44, stAt 45, stAt 46, stAt 47, stAt 48, stAt 49, stAt 50, stAt 51, stAt 52, stAt 53, stAt 54, stAt 55, stAt 56] envT) ⟨tS30 w.params, 86, 2275, 0⟩ = some (.ok .next, ⟨tS56 w.params, 86, 2327, 234⟩) := by
  kernel_rfl
theorem g57_0 (w : World) : evT (w.withFollow "special-get-raises" false).params 50 (Fast.tw12563942051412417395 [stAt 57] envT) ⟨tS56 (w.withFollow "special-get-raises" false).params, 86, 2327, 0⟩ = some (.ok .next, ⟨tS57 (w.withFollow "special-get-raises" false).params, 89, 2424, 978⟩) := by
  kernel_rfl
theorem g57_1 (w : World) : evT (w.withFollow "special-get-raises" true).params 50 (Fast.tw12563942051412417395 [stAt 57] envT) ⟨tS56 (w.withFollow "special-get-raises" true).params, 86, 2327, 0⟩ = some (.ok .next, ⟨tS57 (w.withFollow "special-get-raises" true).params, 89, 2424, 978⟩) := by
  kernel_rfl
theorem g70 (w : World) : evT w.params 50 (Fast.tw12563942051412417395 [stAt 58, stAt 59, stAt 60, stAt 61, stAt 62, stAt 63, stAt 64, stAt 65, stAt 66, stAt 67, stAt 68, stAt 69, stAt 70] envT) ⟨tS57 w.params, 89, 2424, 0⟩ = some (.ok .next, ⟨tS70 w.params, 161, 2531, 366⟩) := by
  kernel_rfl
end Mine
end
section
set_option maxRecDepth 100000
set_option Elab.async false
set_option linter.unusedVariables false
namespace Mine
open PySem PySem.W PySem.Calls PyProof.Rows
section
variable {C : Code → ST → Out Flow} {S : Setting} {ok : Addr → Bool} {α β : Type}
theorem evS_rule (t : String) (k : Unit → Sem α) (s : ST) : evS C S ok (.rule t k) s = evS C S ok (k ()) ⟨s.tree, s.n, s.toks, s.cnt + 1⟩ := bump_eq (β := Out α) s.cnt fun c => evS C S ok (k ()) ⟨s.tree, s.n, s.toks, c⟩
theorem evS_at (t : Pos) (k : Unit → Sem α) (s : ST) : evS C S ok (.at t k) s = evS C S ok (k ()) ⟨s.tree, s.n, s.toks, s.cnt + 1⟩ := bump_eq (β := Out α) s.cnt fun c => evS C S ok (k ()) ⟨s.tree, s.n, s.toks, c⟩
theorem evS_point (t : List Value) (k : Unit → Sem α) (s : ST) : evS C S ok (.point t k) s = evS C S ok (k ()) ⟨s.tree, s.n, s.toks, s.cnt + 1⟩ := bump_eq (β := Out α) s.cnt fun c => evS C S ok (k ()) ⟨s.tree, s.n, s.toks, c⟩
theorem evS_thread (k : Nat → Sem α) (s : ST) : evS C S ok (.thread k) s = evS C S ok (k 0) ⟨s.tree, s.n, s.toks, s.cnt + 1⟩ := bump_eq (β := Out α) s.cnt fun c => evS C S ok (k 0) ⟨s.tree, s.n, s.toks, c⟩
theorem evS_ask (k : Setting → Sem α) (s : ST) : evS C S ok (.ask k) s = evS C S ok (k S) ⟨s.tree, s.n, s.toks, s.cnt + 1⟩ := bump_eq (β := Out α) s.cnt fun c => evS C S ok (k S) ⟨s.tree, s.n, s.toks, c⟩
theorem evS_fresh (k : Tok → Sem α) (s : ST) : evS C S ok (.fresh k) s = evS C S ok (k s.toks) ⟨s.tree, s.n, s.toks + 1, s.cnt + 1⟩ :=
  (bump_eq (β := Out α) s.cnt fun c => bump s.toks fun t => evS C S ok (k s.toks) ⟨s.tree, s.n, t, c⟩).trans (bump_eq (β := Out α) s.toks fun t => evS C S ok (k s.toks) ⟨s.tree, s.n, t, s.cnt + 1⟩)
theorem evS_load (a : Addr) (q : Option Value) (k : Obj → Sem α) (s : ST) : evS C S ok (.load a q k) s = (match Nat.blt a s.n with
      | true => match s.tree.get a with
        | some o => match alive o with
          | some o' => evS C S ok (k o') ⟨s.tree, s.n, s.toks, s.cnt + 1⟩
          | none => none
        | none => none
      | false => none) := bump_eq (β := Out α) s.cnt fun c => match Nat.blt a s.n with
      | true => match s.tree.get a with
        | some o => match alive o with
          | some o' => evS C S ok (k o') ⟨s.tree, s.n, s.toks, c⟩
          | none => none
        | none => none
      | false => none
theorem evS_loadIfAlive (a : Addr) (k : Option Obj → Sem α) (s : ST) : evS C S ok (.loadIfAlive a k) s = (match Nat.blt a s.n with
      | true => match s.tree.get a with
        | some o => evS C S ok (k (alive o)) ⟨s.tree, s.n, s.toks, s.cnt + 1⟩
        | none => none
      | false => evS C S ok (k none) ⟨s.tree, s.n, s.toks, s.cnt + 1⟩) := bump_eq (β := Out α) s.cnt fun c => match Nat.blt a s.n with
      | true => match s.tree.get a with
        | some o => evS C S ok (k (alive o)) ⟨s.tree, s.n, s.toks, c⟩
        | none => none
      | false => evS C S ok (k none) ⟨s.tree, s.n, s.toks, c⟩
theorem evS_update (a : Addr) (q : Option Value) (f : Obj → Obj) (k : Unit → Sem α) (s : ST) : evS C S ok (.update a q f k) s = (match ok a && Nat.blt a s.n with
      | true => match s.tree.get a with
        | some o => match alive o with
          | some _ => evS C S ok (k ()) ⟨s.tree.set a fun _ => f o, s.n, s.toks, s.cnt + 1⟩
          | none => none
        | none => none
      | false => none) := by
  refine (bump_eq (β := Out α) s.cnt fun c => match ok a && Nat.blt a s.n with
      | true => match s.tree.get a with
        | some o => match alive o with
          | some _ => normO (f o) fun o' => evS C S ok (k ()) ⟨s.tree.set a fun _ => o', s.n, s.toks, c⟩
          | none => none
        | none => none
      | false => none).trans ?_
  simp only [normO_eq]
theorem evS_alloc (o : Obj) (k : Addr → Sem α) (s : ST) : evS C S ok (.alloc o k) s = (match ((s.tree.ins s.n o).get s.n).isSome with
      | true => evS C S ok (k s.n) ⟨s.tree.ins s.n o, s.n + 1, s.toks, s.cnt + 1⟩
      | false => none) := by
  refine (bump_eq (β := Out α) s.cnt fun c => match ((s.tree.ins s.n o).get s.n).isSome with
      | true => bump s.n fun n' => evS C S ok (k s.n) ⟨s.tree.ins s.n o, n', s.toks, c⟩
      | false => none).trans ?_
  rw [bump_eq]
theorem evS_call (c : Code) (h : Option Value) (g : Bool) (l : List Value) (k : Result → Sem α) (s : ST) : evS C S ok (.call c h g l k) s = (match C c ⟨s.tree, s.n, s.toks, s.cnt + 1⟩ with
      | some (.ok f', s') => evS C S ok (k (.ok f')) s'
      | some (.error e, s') => evS C S ok (k (.error e)) s'
      | none => none) := bump_eq (β := Out α) s.cnt fun ct => match C c ⟨s.tree, s.n, s.toks, ct⟩ with
      | some (.ok f', s') => evS C S ok (k (.ok f')) s'
      | some (.error e, s') => evS C S ok (k (.error e)) s'
      | none => none
theorem evS_bind (m : Sem α) (f : α → Sem β) : ∀ s, evS C S ok (m.bind f) s = (match evS C S ok m s with
    | some (.ok a, s') => evS C S ok (f a) s'
    | some (.error e, s') => some (.error e, s')
    | none => none) := by
  induction m with
  | pure a => intro s; rfl
  | raise e => intro s; rfl
  | unsupported | finish | register | choose | os | handled | newGen | genState | resume | «yield» | stack | fork | await => intro s; rfl
  | rule t k ih => intro s; rw [evS_rule]; exact (evS_rule ..).trans (ih () _)
  | «at» t k ih => intro s; rw [evS_at]; exact (evS_at ..).trans (ih () _)
  | point t k ih => intro s; rw [evS_point]; exact (evS_point ..).trans (ih () _)
  | thread k ih => intro s; rw [evS_thread]; exact (evS_thread ..).trans (ih 0 _)
  | ask k ih => intro s; rw [evS_ask]; exact (evS_ask ..).trans (ih S _)
  | fresh k ih => intro s; rw [evS_fresh]; exact (evS_fresh ..).trans (ih _ _)
  | load a q k ih =>
    intro s; rw [evS_load]; refine (evS_load ..).trans ?_
    cases Nat.blt a s.n with
    | false => rfl
    | true => cases s.tree.get a with
      | none => rfl
      | some o => dsimp only; cases alive o with
        | none => rfl
        | some o' => exact ih _ _
  | loadIfAlive a k ih =>
    intro s; rw [evS_loadIfAlive]; refine (evS_loadIfAlive ..).trans ?_
    cases Nat.blt a s.n with
    | false => exact ih _ _
    | true => cases s.tree.get a with
      | none => rfl
      | some o => exact ih _ _
  | update a q g k ih =>
    intro s; rw [evS_update]; refine (evS_update ..).trans ?_
    cases ok a && Nat.blt a s.n with
    | false => rfl
    | true => cases s.tree.get a with
      | none => rfl
      | some o => dsimp only; cases alive o with
        | none => rfl
        | some o' => exact ih _ _
  | alloc o k ih =>
    intro s; rw [evS_alloc]; refine (evS_alloc ..).trans ?_
    cases ((s.tree.ins s.n o).get s.n).isSome with
    | false => rfl
    | true => exact ih _ _
  | call c h g l k ih =>
    intro s; rw [evS_call]; refine (evS_call ..).trans ?_
    cases C c ⟨s.tree, s.n, s.toks, s.cnt + 1⟩ with
    | none => rfl
    | some x => obtain ⟨x, s₁⟩ := x; cases x with
      | ok f' => exact ih _ _
      | error e => exact ih _ _
end
theorem evS_bind_ok {C : Code → ST → Out Flow} {S : Setting} {ok : Addr → Bool} {α β : Type} {m : Sem α} {f : α → Sem β} {s s' : ST} {a : α} {r : Out β} (h : evS C S ok m s = some (.ok a, s')) (k : evS C S ok (f a) s' = r) : evS C S ok (m.bind f) s = r := by
  rw [evS_bind, h]; exact k
abbrev PairV := Option (Sem Value) × Sem Value
abbrev DdS := Option Addr × List (Sem Value × Sem Value)
noncomputable abbrev mT : Monad Sem := Fast.tw12456147031677567982
theorem mT_bind {α β : Type} (m : Sem α) (f : α → Sem β) : @bind Sem mT.toBind α β m f = m.bind f := by
  show R.bindR m f = _
  rw [← R.bindR_eq]
noncomputable abbrev forT (items : List PairV) (i : DdS) (b : PairV → DdS → Sem (ForInStep DdS)) : Sem DdS :=
  @forIn Sem (List PairV) PairV (@instForInOfForIn' Sem (List PairV) PairV inferInstance (@List.instForIn'InferInstanceMembershipOfMonad Sem PairV mT)) DdS items i b
/-! the search of a dict's places, one walk over its entries -/
noncomputable def iEq (a b : Int) : Bool := @Int.rec (fun _ => Bool) (fun m => @Int.rec (fun _ => Bool) (fun n => Nat.beq m n) (fun _ => false) b) (fun m => @Int.rec (fun _ => Bool) (fun _ => false) (fun n => Nat.beq m n) b) a
theorem iEq_eq (a b : Int) : iEq a b = (a == b) := by
  cases a with
  | ofNat m => cases b with
    | ofNat n =>
      show Nat.beq m n = _
      rw [BT.beq_eq]
      by_cases h : m = n
      · subst h; simp
      · rw [decide_eq_false h]; exact (beq_eq_false_iff_ne.mpr fun q => h (Int.ofNat.inj q)).symm
    | negSucc n => rfl
  | negSucc m => cases b with
    | ofNat n => rfl
    | negSucc n => show Nat.beq m n = _; rw [BT.beq_eq]; by_cases h : m = n <;> simp [h]
noncomputable def plF (h : Int) (l : List DictEntry) : Nat → List Nat :=
  @List.rec DictEntry (fun _ => Nat → List Nat) (fun _ => []) (fun e _ ih i => @Bool.rec (fun _ => List Nat) (ih (i + 1)) (i :: ih (i + 1)) (iEq e.hash h)) l
theorem plF_cons (h : Int) (e : DictEntry) (l : List DictEntry) (i : Nat) : plF h (e :: l) i = if (e.hash == h) = true then i :: plF h l (i + 1) else plF h l (i + 1) := by
  show @Bool.rec (fun _ => List Nat) (plF h l (i + 1)) (i :: plF h l (i + 1)) (iEq e.hash h) = _
  rw [iEq_eq]
  cases e.hash == h <;> rfl
theorem plF_go (h : Int) : ∀ (l pre : List DictEntry) (es : Array DictEntry), es.toList = pre ++ l → Fast.placesFrom (fun i => Option.map (fun x => x.hash) es[i]?) h l.length pre.length = plF h l pre.length
  | [], _, _, _ => rfl
  | e :: l, pre, es, q => by
    have h1 : es[pre.length]? = some e := by rw [← Array.getElem?_toList, q]; simp
    have ih := plF_go h l (pre ++ [e]) es (by rw [q]; simp)
    rw [List.length_append, List.length_singleton] at ih
    rw [plF_cons, List.length_cons, Fast.placesFrom, h1, ih]
    simp
theorem places_fast (es : Array DictEntry) (h : Int) : Fast.tw2965532104302071907 es.size (fun i => Option.map (fun x => x.hash) es[i]?) h = plF h es.toList 0 := by
  rw [← Fast.te2965532104302071907, PySem.Fast.places_eq]
  have := plF_go h es.toList [] es rfl
  simpa using this
noncomputable def dfSh : { f // Fast.tw7228091826238408665 = f } := ⟨_, by delta Fast.tw7228091826238408665; simp only [places_fast]; exact rfl⟩
noncomputable def dpSh : { f // Fast.tw9652029157277244616 = f } := ⟨_, by delta Fast.tw9652029157277244616; simp only [dfSh.2]; exact rfl⟩
noncomputable def mmSh : { f // Fast.tw8596071696976842438 = f } := ⟨_, by delta Fast.tw8596071696976842438; simp only [dfSh.2, dpSh.2]; exact rfl⟩
structure Sh (F : List PairV → Sem Value) where
  b : PairV → DdS → Sem (ForInStep DdS)
  f : DdS → Sem Value
  h : ∀ items, F items = @bind Sem (@Monad.toBind Sem mT) DdS Value (forT items (none, []) b) f
noncomputable def ddSh : Sh Fast.tw11216187645035866516 := ⟨_, _, fun items => by delta Fast.tw11216187645035866516; simp only [mmSh.2]; exact rfl⟩
noncomputable def evFor (ev : Sem (ForInStep DdS) → ST → Out (ForInStep DdS)) (b : PairV → DdS → Sem (ForInStep DdS)) (l : List PairV) : DdS → ST → Out DdS :=
  @List.rec PairV (fun _ => DdS → ST → Out DdS) (fun i s => some (.ok i, s)) (fun x _ ih i s => match ev (b x i) s with
    | some (.ok (.yield i'), s') => ih i' s'
    | _ => none) l
theorem evFor_app {ev : Sem (ForInStep DdS) → ST → Out (ForInStep DdS)} {b : PairV → DdS → Sem (ForInStep DdS)} {r : List PairV} {R : Out DdS} : ∀ {l : List PairV} {i i' : DdS} {s s' : ST}, evFor ev b l i s = some (.ok i', s') → evFor ev b r i' s' = R → evFor ev b (l ++ r) i s = R
  | [], i, i', s, s', h, k => by
    obtain ⟨rfl, rfl⟩ : i = i' ∧ s = s' := by simpa [evFor] using h
    exact k
  | x :: l, i, i', s, s', h, k => by
    replace h : (match ev (b x i) s with
      | some (.ok (.yield i'), s') => evFor ev b l i' s'
      | _ => none) = some (.ok i', s') := h
    show (match ev (b x i) s with
      | some (.ok (.yield i'), s') => evFor ev b (l ++ r) i' s'
      | _ => none) = R
    split at h
    · exact evFor_app h k
    · cases h
theorem forT_nil (i : DdS) (b) : forT [] i b = Sem.pure i := rfl
theorem forT_cons (x : PairV) (l : List PairV) (i : DdS) (b) : forT (x :: l) i b = @bind Sem mT.toBind _ _ (b x i) (fun r => match r with | .done b' => @pure Sem mT.toApplicative.toPure DdS b' | .yield b' => forT l b' b) := by
  refine (@List.forIn_cons Sem PairV DdS mT b x l i).trans ?_
  exact congrArg (@bind Sem mT.toBind _ _ (b x i)) (funext fun r => by cases r <;> rfl)
theorem evFor_forT {C : Code → ST → Out Flow} {S : Setting} {ok : Addr → Bool} {b : PairV → DdS → Sem (ForInStep DdS)} : ∀ {l : List PairV} {i i' : DdS} {s s' : ST}, evFor (evS C S ok) b l i s = some (.ok i', s') → evS C S ok (forT l i b) s = some (.ok i', s')
  | [], i, i', s, s', h => by rw [forT_nil]; exact h
  | x :: l, i, i', s, s', h => by
    replace h : (match evS C S ok (b x i) s with
      | some (.ok (.yield i'), s') => evFor (evS C S ok) b l i' s'
      | _ => none) = some (.ok i', s') := h
    rw [forT_cons, mT_bind]
    split at h
    · rename_i i₁ s₁ e
      exact evS_bind_ok e (evFor_forT h)
    · cases h
end Mine
end
section
set_option maxRecDepth 100000
set_option Elab.async false
set_option linter.unusedVariables false
namespace Mine
open PySem PySem.W PySem.Calls PyProof.Rows
noncomputable def c0 : List DictEntry := [⟨181, (.int 181 268), (.str (.ofString "μ") 269)⟩, ⟨223, (.int 223 271), (.str (.ofString "ss") 272)⟩, ⟨304, (.int 304 274), (.str (.ofString "i̇") 275)⟩, ⟨329, (.int 329 277), (.str (.ofString "ʼn") 278)⟩, ⟨383, (.int 383 280), (.str (.ofString "s") 281)⟩, ⟨496, (.int 496 283), (.str (.ofString "ǰ") 284)⟩, ⟨837, (.int 837 286), (.str (.ofString "ι") 287)⟩, ⟨890, (.int 890 289), (.str (.ofString " ι") 290)⟩, ⟨912, (.int 912 292), (.str (.ofString "ΐ") 293)⟩, ⟨944, (.int 944 295), (.str (.ofString "ΰ") 296)⟩, ⟨962, (.int 962 298), (.str (.ofString "σ") 299)⟩, ⟨976, (.int 976 301), (.str (.ofString "β") 302)⟩, ⟨977, (.int 977 304), (.str (.ofString "θ") 305)⟩, ⟨978, (.int 978 307), (.str (.ofString "υ") 308)⟩, ⟨979, (.int 979 310), (.str (.ofString "ύ") 311)⟩, ⟨980, (.int 980 313), (.str (.ofString "ϋ") 314)⟩, ⟨981, (.int 981 316), (.str (.ofString "φ") 317)⟩]
noncomputable def c1 : List DictEntry := [⟨982, (.int 982 319), (.str (.ofString "π") 320)⟩, ⟨1008, (.int 1008 322), (.str (.ofString "κ") 323)⟩, ⟨1009, (.int 1009 325), (.str (.ofString "ρ") 326)⟩, ⟨1010, (.int 1010 328), (.str (.ofString "σ") 329)⟩, ⟨1013, (.int 1013 331), (.str (.ofString "ε") 332)⟩, ⟨1415, (.int 1415 334), (.str (.ofString "եւ") 335)⟩, ⟨7830, (.int 7830 337), (.str (.ofString "ẖ") 338)⟩, ⟨7831, (.int 7831 340), (.str (.ofString "ẗ") 341)⟩, ⟨7832, (.int 7832 343), (.str (.ofString "ẘ") 344)⟩, ⟨7833, (.int 7833 346), (.str (.ofString "ẙ") 347)⟩, ⟨7834, (.int 7834 349), (.str (.ofString "aʾ") 350)⟩, ⟨7835, (.int 7835 352), (.str (.ofString "ṡ") 353)⟩, ⟨8016, (.int 8016 355), (.str (.ofString "ὐ") 356)⟩, ⟨8018, (.int 8018 358), (.str (.ofString "ὒ") 359)⟩, ⟨8020, (.int 8020 361), (.str (.ofString "ὔ") 362)⟩, ⟨8022, (.int 8022 364), (.str (.ofString "ὖ") 365)⟩, ⟨8064, (.int 8064 367), (.str (.ofString "ἀι") 368)⟩]
noncomputable def c2 : List DictEntry := [⟨8065, (.int 8065 370), (.str (.ofString "ἁι") 371)⟩, ⟨8066, (.int 8066 373), (.str (.ofString "ἂι") 374)⟩, ⟨8067, (.int 8067 376), (.str (.ofString "ἃι") 377)⟩, ⟨8068, (.int 8068 379), (.str (.ofString "ἄι") 380)⟩, ⟨8069, (.int 8069 382), (.str (.ofString "ἅι") 383)⟩, ⟨8070, (.int 8070 385), (.str (.ofString "ἆι") 386)⟩, ⟨8071, (.int 8071 388), (.str (.ofString "ἇι") 389)⟩, ⟨8072, (.int 8072 391), (.str (.ofString "ἀι") 392)⟩, ⟨8073, (.int 8073 394), (.str (.ofString "ἁι") 395)⟩, ⟨8074, (.int 8074 397), (.str (.ofString "ἂι") 398)⟩, ⟨8075, (.int 8075 400), (.str (.ofString "ἃι") 401)⟩, ⟨8076, (.int 8076 403), (.str (.ofString "ἄι") 404)⟩, ⟨8077, (.int 8077 406), (.str (.ofString "ἅι") 407)⟩, ⟨8078, (.int 8078 409), (.str (.ofString "ἆι") 410)⟩, ⟨8079, (.int 8079 412), (.str (.ofString "ἇι") 413)⟩, ⟨8080, (.int 8080 415), (.str (.ofString "ἠι") 416)⟩, ⟨8081, (.int 8081 418), (.str (.ofString "ἡι") 419)⟩]
noncomputable def c3 : List DictEntry := [⟨8082, (.int 8082 421), (.str (.ofString "ἢι") 422)⟩, ⟨8083, (.int 8083 424), (.str (.ofString "ἣι") 425)⟩, ⟨8084, (.int 8084 427), (.str (.ofString "ἤι") 428)⟩, ⟨8085, (.int 8085 430), (.str (.ofString "ἥι") 431)⟩, ⟨8086, (.int 8086 433), (.str (.ofString "ἦι") 434)⟩, ⟨8087, (.int 8087 436), (.str (.ofString "ἧι") 437)⟩, ⟨8088, (.int 8088 439), (.str (.ofString "ἠι") 440)⟩, ⟨8089, (.int 8089 442), (.str (.ofString "ἡι") 443)⟩, ⟨8090, (.int 8090 445), (.str (.ofString "ἢι") 446)⟩, ⟨8091, (.int 8091 448), (.str (.ofString "ἣι") 449)⟩, ⟨8092, (.int 8092 451), (.str (.ofString "ἤι") 452)⟩, ⟨8093, (.int 8093 454), (.str (.ofString "ἥι") 455)⟩, ⟨8094, (.int 8094 457), (.str (.ofString "ἦι") 458)⟩, ⟨8095, (.int 8095 460), (.str (.ofString "ἧι") 461)⟩, ⟨8096, (.int 8096 463), (.str (.ofString "ὠι") 464)⟩, ⟨8097, (.int 8097 466), (.str (.ofString "ὡι") 467)⟩, ⟨8098, (.int 8098 469), (.str (.ofString "ὢι") 470)⟩]
noncomputable def c4 : List DictEntry := [⟨8099, (.int 8099 472), (.str (.ofString "ὣι") 473)⟩, ⟨8100, (.int 8100 475), (.str (.ofString "ὤι") 476)⟩, ⟨8101, (.int 8101 478), (.str (.ofString "ὥι") 479)⟩, ⟨8102, (.int 8102 481), (.str (.ofString "ὦι") 482)⟩, ⟨8103, (.int 8103 484), (.str (.ofString "ὧι") 485)⟩, ⟨8104, (.int 8104 487), (.str (.ofString "ὠι") 488)⟩, ⟨8105, (.int 8105 490), (.str (.ofString "ὡι") 491)⟩, ⟨8106, (.int 8106 493), (.str (.ofString "ὢι") 494)⟩, ⟨8107, (.int 8107 496), (.str (.ofString "ὣι") 497)⟩, ⟨8108, (.int 8108 499), (.str (.ofString "ὤι") 500)⟩, ⟨8109, (.int 8109 502), (.str (.ofString "ὥι") 503)⟩, ⟨8110, (.int 8110 505), (.str (.ofString "ὦι") 506)⟩, ⟨8111, (.int 8111 508), (.str (.ofString "ὧι") 509)⟩, ⟨8114, (.int 8114 511), (.str (.ofString "ὰι") 512)⟩, ⟨8115, (.int 8115 514), (.str (.ofString "αι") 515)⟩, ⟨8116, (.int 8116 517), (.str (.ofString "άι") 518)⟩, ⟨8118, (.int 8118 520), (.str (.ofString "ᾶ") 521)⟩]
noncomputable def c5 : List DictEntry := [⟨8119, (.int 8119 523), (.str (.ofString "ᾶι") 524)⟩, ⟨8124, (.int 8124 526), (.str (.ofString "αι") 527)⟩, ⟨8126, (.int 8126 529), (.str (.ofString "ι") 530)⟩, ⟨8130, (.int 8130 532), (.str (.ofString "ὴι") 533)⟩, ⟨8131, (.int 8131 535), (.str (.ofString "ηι") 536)⟩, ⟨8132, (.int 8132 538), (.str (.ofString "ήι") 539)⟩, ⟨8134, (.int 8134 541), (.str (.ofString "ῆ") 542)⟩, ⟨8135, (.int 8135 544), (.str (.ofString "ῆι") 545)⟩, ⟨8140, (.int 8140 547), (.str (.ofString "ηι") 548)⟩, ⟨8146, (.int 8146 550), (.str (.ofString "ῒ") 551)⟩, ⟨8147, (.int 8147 553), (.str (.ofString "ΐ") 554)⟩, ⟨8150, (.int 8150 556), (.str (.ofString "ῖ") 557)⟩, ⟨8151, (.int 8151 559), (.str (.ofString "ῗ") 560)⟩, ⟨8162, (.int 8162 562), (.str (.ofString "ῢ") 563)⟩, ⟨8163, (.int 8163 565), (.str (.ofString "ΰ") 566)⟩, ⟨8164, (.int 8164 568), (.str (.ofString "ῤ") 569)⟩, ⟨8166, (.int 8166 571), (.str (.ofString "ῦ") 572)⟩]
noncomputable def c6 : List DictEntry := [⟨8167, (.int 8167 574), (.str (.ofString "ῧ") 575)⟩, ⟨8178, (.int 8178 577), (.str (.ofString "ὼι") 578)⟩, ⟨8179, (.int 8179 580), (.str (.ofString "ωι") 581)⟩, ⟨8180, (.int 8180 583), (.str (.ofString "ώι") 584)⟩, ⟨8182, (.int 8182 586), (.str (.ofString "ῶ") 587)⟩, ⟨8183, (.int 8183 589), (.str (.ofString "ῶι") 590)⟩, ⟨8188, (.int 8188 592), (.str (.ofString "ωι") 593)⟩, ⟨8360, (.int 8360 595), (.str (.ofString "rs") 596)⟩, ⟨8450, (.int 8450 598), (.str (.ofString "c") 599)⟩, ⟨8451, (.int 8451 601), (.str (.ofString "°c") 602)⟩, ⟨8455, (.int 8455 604), (.str (.ofString "ɛ") 605)⟩, ⟨8457, (.int 8457 607), (.str (.ofString "°f") 608)⟩, ⟨8459, (.int 8459 610), (.str (.ofString "h") 611)⟩, ⟨8460, (.int 8460 613), (.str (.ofString "h") 614)⟩, ⟨8461, (.int 8461 616), (.str (.ofString "h") 617)⟩, ⟨8464, (.int 8464 619), (.str (.ofString "i") 620)⟩, ⟨8465, (.int 8465 622), (.str (.ofString "i") 623)⟩]
noncomputable def c7 : List DictEntry := [⟨8466, (.int 8466 625), (.str (.ofString "l") 626)⟩, ⟨8469, (.int 8469 628), (.str (.ofString "n") 629)⟩, ⟨8470, (.int 8470 631), (.str (.ofString "no") 632)⟩, ⟨8473, (.int 8473 634), (.str (.ofString "p") 635)⟩, ⟨8474, (.int 8474 637), (.str (.ofString "q") 638)⟩, ⟨8475, (.int 8475 640), (.str (.ofString "r") 641)⟩, ⟨8476, (.int 8476 643), (.str (.ofString "r") 644)⟩, ⟨8477, (.int 8477 646), (.str (.ofString "r") 647)⟩, ⟨8480, (.int 8480 649), (.str (.ofString "sm") 650)⟩, ⟨8481, (.int 8481 652), (.str (.ofString "tel") 653)⟩, ⟨8482, (.int 8482 655), (.str (.ofString "tm") 656)⟩, ⟨8484, (.int 8484 658), (.str (.ofString "z") 659)⟩, ⟨8488, (.int 8488 661), (.str (.ofString "z") 662)⟩, ⟨8492, (.int 8492 664), (.str (.ofString "b") 665)⟩, ⟨8493, (.int 8493 667), (.str (.ofString "c") 668)⟩, ⟨8496, (.int 8496 670), (.str (.ofString "e") 671)⟩, ⟨8497, (.int 8497 673), (.str (.ofString "f") 674)⟩]
noncomputable def c8 : List DictEntry := [⟨8499, (.int 8499 676), (.str (.ofString "m") 677)⟩, ⟨8510, (.int 8510 679), (.str (.ofString "γ") 680)⟩, ⟨8511, (.int 8511 682), (.str (.ofString "π") 683)⟩, ⟨8517, (.int 8517 685), (.str (.ofString "d") 686)⟩, ⟨13169, (.int 13169 688), (.str (.ofString "hpa") 689)⟩, ⟨13171, (.int 13171 691), (.str (.ofString "au") 692)⟩, ⟨13173, (.int 13173 694), (.str (.ofString "ov") 695)⟩, ⟨13184, (.int 13184 697), (.str (.ofString "pa") 698)⟩, ⟨13185, (.int 13185 700), (.str (.ofString "na") 701)⟩, ⟨13186, (.int 13186 703), (.str (.ofString "μa") 704)⟩, ⟨13187, (.int 13187 706), (.str (.ofString "ma") 707)⟩, ⟨13188, (.int 13188 709), (.str (.ofString "ka") 710)⟩, ⟨13189, (.int 13189 712), (.str (.ofString "kb") 713)⟩, ⟨13190, (.int 13190 715), (.str (.ofString "mb") 716)⟩, ⟨13191, (.int 13191 718), (.str (.ofString "gb") 719)⟩, ⟨13194, (.int 13194 721), (.str (.ofString "pf") 722)⟩, ⟨13195, (.int 13195 724), (.str (.ofString "nf") 725)⟩]
noncomputable def c9 : List DictEntry := [⟨13196, (.int 13196 727), (.str (.ofString "μf") 728)⟩, ⟨13200, (.int 13200 730), (.str (.ofString "hz") 731)⟩, ⟨13201, (.int 13201 733), (.str (.ofString "khz") 734)⟩, ⟨13202, (.int 13202 736), (.str (.ofString "mhz") 737)⟩, ⟨13203, (.int 13203 739), (.str (.ofString "ghz") 740)⟩, ⟨13204, (.int 13204 742), (.str (.ofString "thz") 743)⟩, ⟨13225, (.int 13225 745), (.str (.ofString "pa") 746)⟩, ⟨13226, (.int 13226 748), (.str (.ofString "kpa") 749)⟩, ⟨13227, (.int 13227 751), (.str (.ofString "mpa") 752)⟩, ⟨13228, (.int 13228 754), (.str (.ofString "gpa") 755)⟩, ⟨13236, (.int 13236 757), (.str (.ofString "pv") 758)⟩, ⟨13237, (.int 13237 760), (.str (.ofString "nv") 761)⟩, ⟨13238, (.int 13238 763), (.str (.ofString "μv") 764)⟩, ⟨13239, (.int 13239 766), (.str (.ofString "mv") 767)⟩, ⟨13240, (.int 13240 769), (.str (.ofString "kv") 770)⟩, ⟨13241, (.int 13241 772), (.str (.ofString "mv") 773)⟩, ⟨13242, (.int 13242 775), (.str (.ofString "pw") 776)⟩]
noncomputable def c10 : List DictEntry := [⟨13243, (.int 13243 778), (.str (.ofString "nw") 779)⟩, ⟨13244, (.int 13244 781), (.str (.ofString "μw") 782)⟩, ⟨13245, (.int 13245 784), (.str (.ofString "mw") 785)⟩, ⟨13246, (.int 13246 787), (.str (.ofString "kw") 788)⟩, ⟨13247, (.int 13247 790), (.str (.ofString "mw") 791)⟩, ⟨13248, (.int 13248 793), (.str (.ofString "kω") 794)⟩, ⟨13249, (.int 13249 796), (.str (.ofString "mω") 797)⟩, ⟨13251, (.int 13251 799), (.str (.ofString "bq") 800)⟩, ⟨13254, (.int 13254 802), (.str (.ofString "c∕kg") 803)⟩, ⟨13255, (.int 13255 805), (.str (.ofString "co.") 806)⟩, ⟨13256, (.int 13256 808), (.str (.ofString "db") 809)⟩, ⟨13257, (.int 13257 811), (.str (.ofString "gy") 812)⟩, ⟨13259, (.int 13259 814), (.str (.ofString "hp") 815)⟩, ⟨13261, (.int 13261 817), (.str (.ofString "kk") 818)⟩, ⟨13262, (.int 13262 820), (.str (.ofString "km") 821)⟩, ⟨13271, (.int 13271 823), (.str (.ofString "ph") 824)⟩, ⟨13273, (.int 13273 826), (.str (.ofString "ppm") 827)⟩]
noncomputable def c11 : List DictEntry := [⟨13274, (.int 13274 829), (.str (.ofString "pr") 830)⟩, ⟨13276, (.int 13276 832), (.str (.ofString "sv") 833)⟩, ⟨13277, (.int 13277 835), (.str (.ofString "wb") 836)⟩, ⟨64256, (.int 64256 838), (.str (.ofString "ff") 839)⟩, ⟨64257, (.int 64257 841), (.str (.ofString "fi") 842)⟩, ⟨64258, (.int 64258 844), (.str (.ofString "fl") 845)⟩, ⟨64259, (.int 64259 847), (.str (.ofString "ffi") 848)⟩, ⟨64260, (.int 64260 850), (.str (.ofString "ffl") 851)⟩, ⟨64261, (.int 64261 853), (.str (.ofString "st") 854)⟩, ⟨64262, (.int 64262 856), (.str (.ofString "st") 857)⟩, ⟨64275, (.int 64275 859), (.str (.ofString "մն") 860)⟩, ⟨64276, (.int 64276 862), (.str (.ofString "մե") 863)⟩, ⟨64277, (.int 64277 865), (.str (.ofString "մի") 866)⟩, ⟨64278, (.int 64278 868), (.str (.ofString "վն") 869)⟩, ⟨64279, (.int 64279 871), (.str (.ofString "մխ") 872)⟩, ⟨119808, (.int 119808 874), (.str (.ofString "a") 875)⟩, ⟨119809, (.int 119809 877), (.str (.ofString "b") 878)⟩]
noncomputable def c12 : List DictEntry := [⟨119810, (.int 119810 880), (.str (.ofString "c") 881)⟩, ⟨119811, (.int 119811 883), (.str (.ofString "d") 884)⟩, ⟨119812, (.int 119812 886), (.str (.ofString "e") 887)⟩, ⟨119813, (.int 119813 889), (.str (.ofString "f") 890)⟩, ⟨119814, (.int 119814 892), (.str (.ofString "g") 893)⟩, ⟨119815, (.int 119815 895), (.str (.ofString "h") 896)⟩, ⟨119816, (.int 119816 898), (.str (.ofString "i") 899)⟩, ⟨119817, (.int 119817 901), (.str (.ofString "j") 902)⟩, ⟨119818, (.int 119818 904), (.str (.ofString "k") 905)⟩, ⟨119819, (.int 119819 907), (.str (.ofString "l") 908)⟩, ⟨119820, (.int 119820 910), (.str (.ofString "m") 911)⟩, ⟨119821, (.int 119821 913), (.str (.ofString "n") 914)⟩, ⟨119822, (.int 119822 916), (.str (.ofString "o") 917)⟩, ⟨119823, (.int 119823 919), (.str (.ofString "p") 920)⟩, ⟨119824, (.int 119824 922), (.str (.ofString "q") 923)⟩, ⟨119825, (.int 119825 925), (.str (.ofString "r") 926)⟩, ⟨119826, (.int 119826 928), (.str (.ofString "s") 929)⟩]
noncomputable def c13 : List DictEntry := [⟨119827, (.int 119827 931), (.str (.ofString "t") 932)⟩, ⟨119828, (.int 119828 934), (.str (.ofString "u") 935)⟩, ⟨119829, (.int 119829 937), (.str (.ofString "v") 938)⟩, ⟨119830, (.int 119830 940), (.str (.ofString "w") 941)⟩, ⟨119831, (.int 119831 943), (.str (.ofString "x") 944)⟩, ⟨119832, (.int 119832 946), (.str (.ofString "y") 947)⟩, ⟨119833, (.int 119833 949), (.str (.ofString "z") 950)⟩, ⟨119860, (.int 119860 952), (.str (.ofString "a") 953)⟩, ⟨119861, (.int 119861 955), (.str (.ofString "b") 956)⟩, ⟨119862, (.int 119862 958), (.str (.ofString "c") 959)⟩, ⟨119863, (.int 119863 961), (.str (.ofString "d") 962)⟩, ⟨119864, (.int 119864 964), (.str (.ofString "e") 965)⟩, ⟨119865, (.int 119865 967), (.str (.ofString "f") 968)⟩, ⟨119866, (.int 119866 970), (.str (.ofString "g") 971)⟩, ⟨119867, (.int 119867 973), (.str (.ofString "h") 974)⟩, ⟨119868, (.int 119868 976), (.str (.ofString "i") 977)⟩, ⟨119869, (.int 119869 979), (.str (.ofString "j") 980)⟩]
noncomputable def c14 : List DictEntry := [⟨119870, (.int 119870 982), (.str (.ofString "k") 983)⟩, ⟨119871, (.int 119871 985), (.str (.ofString "l") 986)⟩, ⟨119872, (.int 119872 988), (.str (.ofString "m") 989)⟩, ⟨119873, (.int 119873 991), (.str (.ofString "n") 992)⟩, ⟨119874, (.int 119874 994), (.str (.ofString "o") 995)⟩, ⟨119875, (.int 119875 997), (.str (.ofString "p") 998)⟩, ⟨119876, (.int 119876 1000), (.str (.ofString "q") 1001)⟩, ⟨119877, (.int 119877 1003), (.str (.ofString "r") 1004)⟩, ⟨119878, (.int 119878 1006), (.str (.ofString "s") 1007)⟩, ⟨119879, (.int 119879 1009), (.str (.ofString "t") 1010)⟩, ⟨119880, (.int 119880 1012), (.str (.ofString "u") 1013)⟩, ⟨119881, (.int 119881 1015), (.str (.ofString "v") 1016)⟩, ⟨119882, (.int 119882 1018), (.str (.ofString "w") 1019)⟩, ⟨119883, (.int 119883 1021), (.str (.ofString "x") 1022)⟩, ⟨119884, (.int 119884 1024), (.str (.ofString "y") 1025)⟩, ⟨119885, (.int 119885 1027), (.str (.ofString "z") 1028)⟩, ⟨119912, (.int 119912 1030), (.str (.ofString "a") 1031)⟩]
noncomputable def c15 : List DictEntry := [⟨119913, (.int 119913 1033), (.str (.ofString "b") 1034)⟩, ⟨119914, (.int 119914 1036), (.str (.ofString "c") 1037)⟩, ⟨119915, (.int 119915 1039), (.str (.ofString "d") 1040)⟩, ⟨119916, (.int 119916 1042), (.str (.ofString "e") 1043)⟩, ⟨119917, (.int 119917 1045), (.str (.ofString "f") 1046)⟩, ⟨119918, (.int 119918 1048), (.str (.ofString "g") 1049)⟩, ⟨119919, (.int 119919 1051), (.str (.ofString "h") 1052)⟩, ⟨119920, (.int 119920 1054), (.str (.ofString "i") 1055)⟩, ⟨119921, (.int 119921 1057), (.str (.ofString "j") 1058)⟩, ⟨119922, (.int 119922 1060), (.str (.ofString "k") 1061)⟩, ⟨119923, (.int 119923 1063), (.str (.ofString "l") 1064)⟩, ⟨119924, (.int 119924 1066), (.str (.ofString "m") 1067)⟩, ⟨119925, (.int 119925 1069), (.str (.ofString "n") 1070)⟩, ⟨119926, (.int 119926 1072), (.str (.ofString "o") 1073)⟩, ⟨119927, (.int 119927 1075), (.str (.ofString "p") 1076)⟩, ⟨119928, (.int 119928 1078), (.str (.ofString "q") 1079)⟩, ⟨119929, (.int 119929 1081), (.str (.ofString "r") 1082)⟩]
noncomputable def c16 : List DictEntry := [⟨119930, (.int 119930 1084), (.str (.ofString "s") 1085)⟩, ⟨119931, (.int 119931 1087), (.str (.ofString "t") 1088)⟩, ⟨119932, (.int 119932 1090), (.str (.ofString "u") 1091)⟩, ⟨119933, (.int 119933 1093), (.str (.ofString "v") 1094)⟩, ⟨119934, (.int 119934 1096), (.str (.ofString "w") 1097)⟩, ⟨119935, (.int 119935 1099), (.str (.ofString "x") 1100)⟩, ⟨119936, (.int 119936 1102), (.str (.ofString "y") 1103)⟩, ⟨119937, (.int 119937 1105), (.str (.ofString "z") 1106)⟩, ⟨119964, (.int 119964 1108), (.str (.ofString "a") 1109)⟩, ⟨119966, (.int 119966 1111), (.str (.ofString "c") 1112)⟩, ⟨119967, (.int 119967 1114), (.str (.ofString "d") 1115)⟩, ⟨119970, (.int 119970 1117), (.str (.ofString "g") 1118)⟩, ⟨119973, (.int 119973 1120), (.str (.ofString "j") 1121)⟩, ⟨119974, (.int 119974 1123), (.str (.ofString "k") 1124)⟩, ⟨119977, (.int 119977 1126), (.str (.ofString "n") 1127)⟩, ⟨119978, (.int 119978 1129), (.str (.ofString "o") 1130)⟩, ⟨119979, (.int 119979 1132), (.str (.ofString "p") 1133)⟩]
noncomputable def c17 : List DictEntry := [⟨119980, (.int 119980 1135), (.str (.ofString "q") 1136)⟩, ⟨119982, (.int 119982 1138), (.str (.ofString "s") 1139)⟩, ⟨119983, (.int 119983 1141), (.str (.ofString "t") 1142)⟩, ⟨119984, (.int 119984 1144), (.str (.ofString "u") 1145)⟩, ⟨119985, (.int 119985 1147), (.str (.ofString "v") 1148)⟩, ⟨119986, (.int 119986 1150), (.str (.ofString "w") 1151)⟩, ⟨119987, (.int 119987 1153), (.str (.ofString "x") 1154)⟩, ⟨119988, (.int 119988 1156), (.str (.ofString "y") 1157)⟩, ⟨119989, (.int 119989 1159), (.str (.ofString "z") 1160)⟩, ⟨120016, (.int 120016 1162), (.str (.ofString "a") 1163)⟩, ⟨120017, (.int 120017 1165), (.str (.ofString "b") 1166)⟩, ⟨120018, (.int 120018 1168), (.str (.ofString "c") 1169)⟩, ⟨120019, (.int 120019 1171), (.str (.ofString "d") 1172)⟩, ⟨120020, (.int 120020 1174), (.str (.ofString "e") 1175)⟩, ⟨120021, (.int 120021 1177), (.str (.ofString "f") 1178)⟩, ⟨120022, (.int 120022 1180), (.str (.ofString "g") 1181)⟩, ⟨120023, (.int 120023 1183), (.str (.ofString "h") 1184)⟩]
noncomputable def c18 : List DictEntry := [⟨120024, (.int 120024 1186), (.str (.ofString "i") 1187)⟩, ⟨120025, (.int 120025 1189), (.str (.ofString "j") 1190)⟩, ⟨120026, (.int 120026 1192), (.str (.ofString "k") 1193)⟩, ⟨120027, (.int 120027 1195), (.str (.ofString "l") 1196)⟩, ⟨120028, (.int 120028 1198), (.str (.ofString "m") 1199)⟩, ⟨120029, (.int 120029 1201), (.str (.ofString "n") 1202)⟩, ⟨120030, (.int 120030 1204), (.str (.ofString "o") 1205)⟩, ⟨120031, (.int 120031 1207), (.str (.ofString "p") 1208)⟩, ⟨120032, (.int 120032 1210), (.str (.ofString "q") 1211)⟩, ⟨120033, (.int 120033 1213), (.str (.ofString "r") 1214)⟩, ⟨120034, (.int 120034 1216), (.str (.ofString "s") 1217)⟩, ⟨120035, (.int 120035 1219), (.str (.ofString "t") 1220)⟩, ⟨120036, (.int 120036 1222), (.str (.ofString "u") 1223)⟩, ⟨120037, (.int 120037 1225), (.str (.ofString "v") 1226)⟩, ⟨120038, (.int 120038 1228), (.str (.ofString "w") 1229)⟩, ⟨120039, (.int 120039 1231), (.str (.ofString "x") 1232)⟩, ⟨120040, (.int 120040 1234), (.str (.ofString "y") 1235)⟩]
noncomputable def c19 : List DictEntry := [⟨120041, (.int 120041 1237), (.str (.ofString "z") 1238)⟩, ⟨120068, (.int 120068 1240), (.str (.ofString "a") 1241)⟩, ⟨120069, (.int 120069 1243), (.str (.ofString "b") 1244)⟩, ⟨120071, (.int 120071 1246), (.str (.ofString "d") 1247)⟩, ⟨120072, (.int 120072 1249), (.str (.ofString "e") 1250)⟩, ⟨120073, (.int 120073 1252), (.str (.ofString "f") 1253)⟩, ⟨120074, (.int 120074 1255), (.str (.ofString "g") 1256)⟩, ⟨120077, (.int 120077 1258), (.str (.ofString "j") 1259)⟩, ⟨120078, (.int 120078 1261), (.str (.ofString "k") 1262)⟩, ⟨120079, (.int 120079 1264), (.str (.ofString "l") 1265)⟩, ⟨120080, (.int 120080 1267), (.str (.ofString "m") 1268)⟩, ⟨120081, (.int 120081 1270), (.str (.ofString "n") 1271)⟩, ⟨120082, (.int 120082 1273), (.str (.ofString "o") 1274)⟩, ⟨120083, (.int 120083 1276), (.str (.ofString "p") 1277)⟩, ⟨120084, (.int 120084 1279), (.str (.ofString "q") 1280)⟩, ⟨120086, (.int 120086 1282), (.str (.ofString "s") 1283)⟩, ⟨120087, (.int 120087 1285), (.str (.ofString "t") 1286)⟩]
noncomputable def c20 : List DictEntry := [⟨120088, (.int 120088 1288), (.str (.ofString "u") 1289)⟩, ⟨120089, (.int 120089 1291), (.str (.ofString "v") 1292)⟩, ⟨120090, (.int 120090 1294), (.str (.ofString "w") 1295)⟩, ⟨120091, (.int 120091 1297), (.str (.ofString "x") 1298)⟩, ⟨120092, (.int 120092 1300), (.str (.ofString "y") 1301)⟩, ⟨120120, (.int 120120 1303), (.str (.ofString "a") 1304)⟩, ⟨120121, (.int 120121 1306), (.str (.ofString "b") 1307)⟩, ⟨120123, (.int 120123 1309), (.str (.ofString "d") 1310)⟩, ⟨120124, (.int 120124 1312), (.str (.ofString "e") 1313)⟩, ⟨120125, (.int 120125 1315), (.str (.ofString "f") 1316)⟩, ⟨120126, (.int 120126 1318), (.str (.ofString "g") 1319)⟩, ⟨120128, (.int 120128 1321), (.str (.ofString "i") 1322)⟩, ⟨120129, (.int 120129 1324), (.str (.ofString "j") 1325)⟩, ⟨120130, (.int 120130 1327), (.str (.ofString "k") 1328)⟩, ⟨120131, (.int 120131 1330), (.str (.ofString "l") 1331)⟩, ⟨120132, (.int 120132 1333), (.str (.ofString "m") 1334)⟩, ⟨120134, (.int 120134 1336), (.str (.ofString "o") 1337)⟩]
noncomputable def c21 : List DictEntry := [⟨120138, (.int 120138 1339), (.str (.ofString "s") 1340)⟩, ⟨120139, (.int 120139 1342), (.str (.ofString "t") 1343)⟩, ⟨120140, (.int 120140 1345), (.str (.ofString "u") 1346)⟩, ⟨120141, (.int 120141 1348), (.str (.ofString "v") 1349)⟩, ⟨120142, (.int 120142 1351), (.str (.ofString "w") 1352)⟩, ⟨120143, (.int 120143 1354), (.str (.ofString "x") 1355)⟩, ⟨120144, (.int 120144 1357), (.str (.ofString "y") 1358)⟩, ⟨120172, (.int 120172 1360), (.str (.ofString "a") 1361)⟩, ⟨120173, (.int 120173 1363), (.str (.ofString "b") 1364)⟩, ⟨120174, (.int 120174 1366), (.str (.ofString "c") 1367)⟩, ⟨120175, (.int 120175 1369), (.str (.ofString "d") 1370)⟩, ⟨120176, (.int 120176 1372), (.str (.ofString "e") 1373)⟩, ⟨120177, (.int 120177 1375), (.str (.ofString "f") 1376)⟩, ⟨120178, (.int 120178 1378), (.str (.ofString "g") 1379)⟩, ⟨120179, (.int 120179 1381), (.str (.ofString "h") 1382)⟩, ⟨120180, (.int 120180 1384), (.str (.ofString "i") 1385)⟩, ⟨120181, (.int 120181 1387), (.str (.ofString "j") 1388)⟩]
noncomputable def c22 : List DictEntry := [⟨120182, (.int 120182 1390), (.str (.ofString "k") 1391)⟩, ⟨120183, (.int 120183 1393), (.str (.ofString "l") 1394)⟩, ⟨120184, (.int 120184 1396), (.str (.ofString "m") 1397)⟩, ⟨120185, (.int 120185 1399), (.str (.ofString "n") 1400)⟩, ⟨120186, (.int 120186 1402), (.str (.ofString "o") 1403)⟩, ⟨120187, (.int 120187 1405), (.str (.ofString "p") 1406)⟩, ⟨120188, (.int 120188 1408), (.str (.ofString "q") 1409)⟩, ⟨120189, (.int 120189 1411), (.str (.ofString "r") 1412)⟩, ⟨120190, (.int 120190 1414), (.str (.ofString "s") 1415)⟩, ⟨120191, (.int 120191 1417), (.str (.ofString "t") 1418)⟩, ⟨120192, (.int 120192 1420), (.str (.ofString "u") 1421)⟩, ⟨120193, (.int 120193 1423), (.str (.ofString "v") 1424)⟩, ⟨120194, (.int 120194 1426), (.str (.ofString "w") 1427)⟩, ⟨120195, (.int 120195 1429), (.str (.ofString "x") 1430)⟩, ⟨120196, (.int 120196 1432), (.str (.ofString "y") 1433)⟩, ⟨120197, (.int 120197 1435), (.str (.ofString "z") 1436)⟩, ⟨120224, (.int 120224 1438), (.str (.ofString "a") 1439)⟩]
noncomputable def c23 : List DictEntry := [⟨120225, (.int 120225 1441), (.str (.ofString "b") 1442)⟩, ⟨120226, (.int 120226 1444), (.str (.ofString "c") 1445)⟩, ⟨120227, (.int 120227 1447), (.str (.ofString "d") 1448)⟩, ⟨120228, (.int 120228 1450), (.str (.ofString "e") 1451)⟩, ⟨120229, (.int 120229 1453), (.str (.ofString "f") 1454)⟩, ⟨120230, (.int 120230 1456), (.str (.ofString "g") 1457)⟩, ⟨120231, (.int 120231 1459), (.str (.ofString "h") 1460)⟩, ⟨120232, (.int 120232 1462), (.str (.ofString "i") 1463)⟩, ⟨120233, (.int 120233 1465), (.str (.ofString "j") 1466)⟩, ⟨120234, (.int 120234 1468), (.str (.ofString "k") 1469)⟩, ⟨120235, (.int 120235 1471), (.str (.ofString "l") 1472)⟩, ⟨120236, (.int 120236 1474), (.str (.ofString "m") 1475)⟩, ⟨120237, (.int 120237 1477), (.str (.ofString "n") 1478)⟩, ⟨120238, (.int 120238 1480), (.str (.ofString "o") 1481)⟩, ⟨120239, (.int 120239 1483), (.str (.ofString "p") 1484)⟩, ⟨120240, (.int 120240 1486), (.str (.ofString "q") 1487)⟩, ⟨120241, (.int 120241 1489), (.str (.ofString "r") 1490)⟩]
noncomputable def c24 : List DictEntry := [⟨120242, (.int 120242 1492), (.str (.ofString "s") 1493)⟩, ⟨120243, (.int 120243 1495), (.str (.ofString "t") 1496)⟩, ⟨120244, (.int 120244 1498), (.str (.ofString "u") 1499)⟩, ⟨120245, (.int 120245 1501), (.str (.ofString "v") 1502)⟩, ⟨120246, (.int 120246 1504), (.str (.ofString "w") 1505)⟩, ⟨120247, (.int 120247 1507), (.str (.ofString "x") 1508)⟩, ⟨120248, (.int 120248 1510), (.str (.ofString "y") 1511)⟩, ⟨120249, (.int 120249 1513), (.str (.ofString "z") 1514)⟩, ⟨120276, (.int 120276 1516), (.str (.ofString "a") 1517)⟩, ⟨120277, (.int 120277 1519), (.str (.ofString "b") 1520)⟩, ⟨120278, (.int 120278 1522), (.str (.ofString "c") 1523)⟩, ⟨120279, (.int 120279 1525), (.str (.ofString "d") 1526)⟩, ⟨120280, (.int 120280 1528), (.str (.ofString "e") 1529)⟩, ⟨120281, (.int 120281 1531), (.str (.ofString "f") 1532)⟩, ⟨120282, (.int 120282 1534), (.str (.ofString "g") 1535)⟩, ⟨120283, (.int 120283 1537), (.str (.ofString "h") 1538)⟩, ⟨120284, (.int 120284 1540), (.str (.ofString "i") 1541)⟩]
noncomputable def c25 : List DictEntry := [⟨120285, (.int 120285 1543), (.str (.ofString "j") 1544)⟩, ⟨120286, (.int 120286 1546), (.str (.ofString "k") 1547)⟩, ⟨120287, (.int 120287 1549), (.str (.ofString "l") 1550)⟩, ⟨120288, (.int 120288 1552), (.str (.ofString "m") 1553)⟩, ⟨120289, (.int 120289 1555), (.str (.ofString "n") 1556)⟩, ⟨120290, (.int 120290 1558), (.str (.ofString "o") 1559)⟩, ⟨120291, (.int 120291 1561), (.str (.ofString "p") 1562)⟩, ⟨120292, (.int 120292 1564), (.str (.ofString "q") 1565)⟩, ⟨120293, (.int 120293 1567), (.str (.ofString "r") 1568)⟩, ⟨120294, (.int 120294 1570), (.str (.ofString "s") 1571)⟩, ⟨120295, (.int 120295 1573), (.str (.ofString "t") 1574)⟩, ⟨120296, (.int 120296 1576), (.str (.ofString "u") 1577)⟩, ⟨120297, (.int 120297 1579), (.str (.ofString "v") 1580)⟩, ⟨120298, (.int 120298 1582), (.str (.ofString "w") 1583)⟩, ⟨120299, (.int 120299 1585), (.str (.ofString "x") 1586)⟩, ⟨120300, (.int 120300 1588), (.str (.ofString "y") 1589)⟩, ⟨120301, (.int 120301 1591), (.str (.ofString "z") 1592)⟩]
noncomputable def c26 : List DictEntry := [⟨120328, (.int 120328 1594), (.str (.ofString "a") 1595)⟩, ⟨120329, (.int 120329 1597), (.str (.ofString "b") 1598)⟩, ⟨120330, (.int 120330 1600), (.str (.ofString "c") 1601)⟩, ⟨120331, (.int 120331 1603), (.str (.ofString "d") 1604)⟩, ⟨120332, (.int 120332 1606), (.str (.ofString "e") 1607)⟩, ⟨120333, (.int 120333 1609), (.str (.ofString "f") 1610)⟩, ⟨120334, (.int 120334 1612), (.str (.ofString "g") 1613)⟩, ⟨120335, (.int 120335 1615), (.str (.ofString "h") 1616)⟩, ⟨120336, (.int 120336 1618), (.str (.ofString "i") 1619)⟩, ⟨120337, (.int 120337 1621), (.str (.ofString "j") 1622)⟩, ⟨120338, (.int 120338 1624), (.str (.ofString "k") 1625)⟩, ⟨120339, (.int 120339 1627), (.str (.ofString "l") 1628)⟩, ⟨120340, (.int 120340 1630), (.str (.ofString "m") 1631)⟩, ⟨120341, (.int 120341 1633), (.str (.ofString "n") 1634)⟩, ⟨120342, (.int 120342 1636), (.str (.ofString "o") 1637)⟩, ⟨120343, (.int 120343 1639), (.str (.ofString "p") 1640)⟩, ⟨120344, (.int 120344 1642), (.str (.ofString "q") 1643)⟩]
noncomputable def c27 : List DictEntry := [⟨120345, (.int 120345 1645), (.str (.ofString "r") 1646)⟩, ⟨120346, (.int 120346 1648), (.str (.ofString "s") 1649)⟩, ⟨120347, (.int 120347 1651), (.str (.ofString "t") 1652)⟩, ⟨120348, (.int 120348 1654), (.str (.ofString "u") 1655)⟩, ⟨120349, (.int 120349 1657), (.str (.ofString "v") 1658)⟩, ⟨120350, (.int 120350 1660), (.str (.ofString "w") 1661)⟩, ⟨120351, (.int 120351 1663), (.str (.ofString "x") 1664)⟩, ⟨120352, (.int 120352 1666), (.str (.ofString "y") 1667)⟩, ⟨120353, (.int 120353 1669), (.str (.ofString "z") 1670)⟩, ⟨120380, (.int 120380 1672), (.str (.ofString "a") 1673)⟩, ⟨120381, (.int 120381 1675), (.str (.ofString "b") 1676)⟩, ⟨120382, (.int 120382 1678), (.str (.ofString "c") 1679)⟩, ⟨120383, (.int 120383 1681), (.str (.ofString "d") 1682)⟩, ⟨120384, (.int 120384 1684), (.str (.ofString "e") 1685)⟩, ⟨120385, (.int 120385 1687), (.str (.ofString "f") 1688)⟩, ⟨120386, (.int 120386 1690), (.str (.ofString "g") 1691)⟩, ⟨120387, (.int 120387 1693), (.str (.ofString "h") 1694)⟩]
noncomputable def c28 : List DictEntry := [⟨120388, (.int 120388 1696), (.str (.ofString "i") 1697)⟩, ⟨120389, (.int 120389 1699), (.str (.ofString "j") 1700)⟩, ⟨120390, (.int 120390 1702), (.str (.ofString "k") 1703)⟩, ⟨120391, (.int 120391 1705), (.str (.ofString "l") 1706)⟩, ⟨120392, (.int 120392 1708), (.str (.ofString "m") 1709)⟩, ⟨120393, (.int 120393 1711), (.str (.ofString "n") 1712)⟩, ⟨120394, (.int 120394 1714), (.str (.ofString "o") 1715)⟩, ⟨120395, (.int 120395 1717), (.str (.ofString "p") 1718)⟩, ⟨120396, (.int 120396 1720), (.str (.ofString "q") 1721)⟩, ⟨120397, (.int 120397 1723), (.str (.ofString "r") 1724)⟩, ⟨120398, (.int 120398 1726), (.str (.ofString "s") 1727)⟩, ⟨120399, (.int 120399 1729), (.str (.ofString "t") 1730)⟩, ⟨120400, (.int 120400 1732), (.str (.ofString "u") 1733)⟩, ⟨120401, (.int 120401 1735), (.str (.ofString "v") 1736)⟩, ⟨120402, (.int 120402 1738), (.str (.ofString "w") 1739)⟩, ⟨120403, (.int 120403 1741), (.str (.ofString "x") 1742)⟩, ⟨120404, (.int 120404 1744), (.str (.ofString "y") 1745)⟩]
noncomputable def c29 : List DictEntry := [⟨120405, (.int 120405 1747), (.str (.ofString "z") 1748)⟩, ⟨120432, (.int 120432 1750), (.str (.ofString "a") 1751)⟩, ⟨120433, (.int 120433 1753), (.str (.ofString "b") 1754)⟩, ⟨120434, (.int 120434 1756), (.str (.ofString "c") 1757)⟩, ⟨120435, (.int 120435 1759), (.str (.ofString "d") 1760)⟩, ⟨120436, (.int 120436 1762), (.str (.ofString "e") 1763)⟩, ⟨120437, (.int 120437 1765), (.str (.ofString "f") 1766)⟩, ⟨120438, (.int 120438 1768), (.str (.ofString "g") 1769)⟩, ⟨120439, (.int 120439 1771), (.str (.ofString "h") 1772)⟩, ⟨120440, (.int 120440 1774), (.str (.ofString "i") 1775)⟩, ⟨120441, (.int 120441 1777), (.str (.ofString "j") 1778)⟩, ⟨120442, (.int 120442 1780), (.str (.ofString "k") 1781)⟩, ⟨120443, (.int 120443 1783), (.str (.ofString "l") 1784)⟩, ⟨120444, (.int 120444 1786), (.str (.ofString "m") 1787)⟩, ⟨120445, (.int 120445 1789), (.str (.ofString "n") 1790)⟩, ⟨120446, (.int 120446 1792), (.str (.ofString "o") 1793)⟩, ⟨120447, (.int 120447 1795), (.str (.ofString "p") 1796)⟩]
noncomputable def c30 : List DictEntry := [⟨120448, (.int 120448 1798), (.str (.ofString "q") 1799)⟩, ⟨120449, (.int 120449 1801), (.str (.ofString "r") 1802)⟩, ⟨120450, (.int 120450 1804), (.str (.ofString "s") 1805)⟩, ⟨120451, (.int 120451 1807), (.str (.ofString "t") 1808)⟩, ⟨120452, (.int 120452 1810), (.str (.ofString "u") 1811)⟩, ⟨120453, (.int 120453 1813), (.str (.ofString "v") 1814)⟩, ⟨120454, (.int 120454 1816), (.str (.ofString "w") 1817)⟩, ⟨120455, (.int 120455 1819), (.str (.ofString "x") 1820)⟩, ⟨120456, (.int 120456 1822), (.str (.ofString "y") 1823)⟩, ⟨120457, (.int 120457 1825), (.str (.ofString "z") 1826)⟩, ⟨120488, (.int 120488 1828), (.str (.ofString "α") 1829)⟩, ⟨120489, (.int 120489 1831), (.str (.ofString "β") 1832)⟩, ⟨120490, (.int 120490 1834), (.str (.ofString "γ") 1835)⟩, ⟨120491, (.int 120491 1837), (.str (.ofString "δ") 1838)⟩, ⟨120492, (.int 120492 1840), (.str (.ofString "ε") 1841)⟩, ⟨120493, (.int 120493 1843), (.str (.ofString "ζ") 1844)⟩, ⟨120494, (.int 120494 1846), (.str (.ofString "η") 1847)⟩]
noncomputable def c31 : List DictEntry := [⟨120495, (.int 120495 1849), (.str (.ofString "θ") 1850)⟩, ⟨120496, (.int 120496 1852), (.str (.ofString "ι") 1853)⟩, ⟨120497, (.int 120497 1855), (.str (.ofString "κ") 1856)⟩, ⟨120498, (.int 120498 1858), (.str (.ofString "λ") 1859)⟩, ⟨120499, (.int 120499 1861), (.str (.ofString "μ") 1862)⟩, ⟨120500, (.int 120500 1864), (.str (.ofString "ν") 1865)⟩, ⟨120501, (.int 120501 1867), (.str (.ofString "ξ") 1868)⟩, ⟨120502, (.int 120502 1870), (.str (.ofString "ο") 1871)⟩, ⟨120503, (.int 120503 1873), (.str (.ofString "π") 1874)⟩, ⟨120504, (.int 120504 1876), (.str (.ofString "ρ") 1877)⟩, ⟨120505, (.int 120505 1879), (.str (.ofString "θ") 1880)⟩, ⟨120506, (.int 120506 1882), (.str (.ofString "σ") 1883)⟩, ⟨120507, (.int 120507 1885), (.str (.ofString "τ") 1886)⟩, ⟨120508, (.int 120508 1888), (.str (.ofString "υ") 1889)⟩, ⟨120509, (.int 120509 1891), (.str (.ofString "φ") 1892)⟩, ⟨120510, (.int 120510 1894), (.str (.ofString "χ") 1895)⟩, ⟨120511, (.int 120511 1897), (.str (.ofString "ψ") 1898)⟩]
noncomputable def c32 : List DictEntry := [⟨120512, (.int 120512 1900), (.str (.ofString "ω") 1901)⟩, ⟨120531, (.int 120531 1903), (.str (.ofString "σ") 1904)⟩, ⟨120546, (.int 120546 1906), (.str (.ofString "α") 1907)⟩, ⟨120547, (.int 120547 1909), (.str (.ofString "β") 1910)⟩, ⟨120548, (.int 120548 1912), (.str (.ofString "γ") 1913)⟩, ⟨120549, (.int 120549 1915), (.str (.ofString "δ") 1916)⟩, ⟨120550, (.int 120550 1918), (.str (.ofString "ε") 1919)⟩, ⟨120551, (.int 120551 1921), (.str (.ofString "ζ") 1922)⟩, ⟨120552, (.int 120552 1924), (.str (.ofString "η") 1925)⟩, ⟨120553, (.int 120553 1927), (.str (.ofString "θ") 1928)⟩, ⟨120554, (.int 120554 1930), (.str (.ofString "ι") 1931)⟩, ⟨120555, (.int 120555 1933), (.str (.ofString "κ") 1934)⟩, ⟨120556, (.int 120556 1936), (.str (.ofString "λ") 1937)⟩, ⟨120557, (.int 120557 1939), (.str (.ofString "μ") 1940)⟩, ⟨120558, (.int 120558 1942), (.str (.ofString "ν") 1943)⟩, ⟨120559, (.int 120559 1945), (.str (.ofString "ξ") 1946)⟩, ⟨120560, (.int 120560 1948), (.str (.ofString "ο") 1949)⟩]
noncomputable def c33 : List DictEntry := [⟨120561, (.int 120561 1951), (.str (.ofString "π") 1952)⟩, ⟨120562, (.int 120562 1954), (.str (.ofString "ρ") 1955)⟩, ⟨120563, (.int 120563 1957), (.str (.ofString "θ") 1958)⟩, ⟨120564, (.int 120564 1960), (.str (.ofString "σ") 1961)⟩, ⟨120565, (.int 120565 1963), (.str (.ofString "τ") 1964)⟩, ⟨120566, (.int 120566 1966), (.str (.ofString "υ") 1967)⟩, ⟨120567, (.int 120567 1969), (.str (.ofString "φ") 1970)⟩, ⟨120568, (.int 120568 1972), (.str (.ofString "χ") 1973)⟩, ⟨120569, (.int 120569 1975), (.str (.ofString "ψ") 1976)⟩, ⟨120570, (.int 120570 1978), (.str (.ofString "ω") 1979)⟩, ⟨120589, (.int 120589 1981), (.str (.ofString "σ") 1982)⟩, ⟨120604, (.int 120604 1984), (.str (.ofString "α") 1985)⟩, ⟨120605, (.int 120605 1987), (.str (.ofString "β") 1988)⟩, ⟨120606, (.int 120606 1990), (.str (.ofString "γ") 1991)⟩, ⟨120607, (.int 120607 1993), (.str (.ofString "δ") 1994)⟩, ⟨120608, (.int 120608 1996), (.str (.ofString "ε") 1997)⟩, ⟨120609, (.int 120609 1999), (.str (.ofString "ζ") 2000)⟩]
noncomputable def c34 : List DictEntry := [⟨120610, (.int 120610 2002), (.str (.ofString "η") 2003)⟩, ⟨120611, (.int 120611 2005), (.str (.ofString "θ") 2006)⟩, ⟨120612, (.int 120612 2008), (.str (.ofString "ι") 2009)⟩, ⟨120613, (.int 120613 2011), (.str (.ofString "κ") 2012)⟩, ⟨120614, (.int 120614 2014), (.str (.ofString "λ") 2015)⟩, ⟨120615, (.int 120615 2017), (.str (.ofString "μ") 2018)⟩, ⟨120616, (.int 120616 2020), (.str (.ofString "ν") 2021)⟩, ⟨120617, (.int 120617 2023), (.str (.ofString "ξ") 2024)⟩, ⟨120618, (.int 120618 2026), (.str (.ofString "ο") 2027)⟩, ⟨120619, (.int 120619 2029), (.str (.ofString "π") 2030)⟩, ⟨120620, (.int 120620 2032), (.str (.ofString "ρ") 2033)⟩, ⟨120621, (.int 120621 2035), (.str (.ofString "θ") 2036)⟩, ⟨120622, (.int 120622 2038), (.str (.ofString "σ") 2039)⟩, ⟨120623, (.int 120623 2041), (.str (.ofString "τ") 2042)⟩, ⟨120624, (.int 120624 2044), (.str (.ofString "υ") 2045)⟩, ⟨120625, (.int 120625 2047), (.str (.ofString "φ") 2048)⟩, ⟨120626, (.int 120626 2050), (.str (.ofString "χ") 2051)⟩]
noncomputable def c35 : List DictEntry := [⟨120627, (.int 120627 2053), (.str (.ofString "ψ") 2054)⟩, ⟨120628, (.int 120628 2056), (.str (.ofString "ω") 2057)⟩, ⟨120647, (.int 120647 2059), (.str (.ofString "σ") 2060)⟩, ⟨120662, (.int 120662 2062), (.str (.ofString "α") 2063)⟩, ⟨120663, (.int 120663 2065), (.str (.ofString "β") 2066)⟩, ⟨120664, (.int 120664 2068), (.str (.ofString "γ") 2069)⟩, ⟨120665, (.int 120665 2071), (.str (.ofString "δ") 2072)⟩, ⟨120666, (.int 120666 2074), (.str (.ofString "ε") 2075)⟩, ⟨120667, (.int 120667 2077), (.str (.ofString "ζ") 2078)⟩, ⟨120668, (.int 120668 2080), (.str (.ofString "η") 2081)⟩, ⟨120669, (.int 120669 2083), (.str (.ofString "θ") 2084)⟩, ⟨120670, (.int 120670 2086), (.str (.ofString "ι") 2087)⟩, ⟨120671, (.int 120671 2089), (.str (.ofString "κ") 2090)⟩, ⟨120672, (.int 120672 2092), (.str (.ofString "λ") 2093)⟩, ⟨120673, (.int 120673 2095), (.str (.ofString "μ") 2096)⟩, ⟨120674, (.int 120674 2098), (.str (.ofString "ν") 2099)⟩, ⟨120675, (.int 120675 2101), (.str (.ofString "ξ") 2102)⟩]
noncomputable def c36 : List DictEntry := [⟨120676, (.int 120676 2104), (.str (.ofString "ο") 2105)⟩, ⟨120677, (.int 120677 2107), (.str (.ofString "π") 2108)⟩, ⟨120678, (.int 120678 2110), (.str (.ofString "ρ") 2111)⟩, ⟨120679, (.int 120679 2113), (.str (.ofString "θ") 2114)⟩, ⟨120680, (.int 120680 2116), (.str (.ofString "σ") 2117)⟩, ⟨120681, (.int 120681 2119), (.str (.ofString "τ") 2120)⟩, ⟨120682, (.int 120682 2122), (.str (.ofString "υ") 2123)⟩, ⟨120683, (.int 120683 2125), (.str (.ofString "φ") 2126)⟩, ⟨120684, (.int 120684 2128), (.str (.ofString "χ") 2129)⟩, ⟨120685, (.int 120685 2131), (.str (.ofString "ψ") 2132)⟩, ⟨120686, (.int 120686 2134), (.str (.ofString "ω") 2135)⟩, ⟨120705, (.int 120705 2137), (.str (.ofString "σ") 2138)⟩, ⟨120720, (.int 120720 2140), (.str (.ofString "α") 2141)⟩, ⟨120721, (.int 120721 2143), (.str (.ofString "β") 2144)⟩, ⟨120722, (.int 120722 2146), (.str (.ofString "γ") 2147)⟩, ⟨120723, (.int 120723 2149), (.str (.ofString "δ") 2150)⟩, ⟨120724, (.int 120724 2152), (.str (.ofString "ε") 2153)⟩]
noncomputable def c37 : List DictEntry := [⟨120725, (.int 120725 2155), (.str (.ofString "ζ") 2156)⟩, ⟨120726, (.int 120726 2158), (.str (.ofString "η") 2159)⟩, ⟨120727, (.int 120727 2161), (.str (.ofString "θ") 2162)⟩, ⟨120728, (.int 120728 2164), (.str (.ofString "ι") 2165)⟩, ⟨120729, (.int 120729 2167), (.str (.ofString "κ") 2168)⟩, ⟨120730, (.int 120730 2170), (.str (.ofString "λ") 2171)⟩, ⟨120731, (.int 120731 2173), (.str (.ofString "μ") 2174)⟩, ⟨120732, (.int 120732 2176), (.str (.ofString "ν") 2177)⟩, ⟨120733, (.int 120733 2179), (.str (.ofString "ξ") 2180)⟩, ⟨120734, (.int 120734 2182), (.str (.ofString "ο") 2183)⟩, ⟨120735, (.int 120735 2185), (.str (.ofString "π") 2186)⟩, ⟨120736, (.int 120736 2188), (.str (.ofString "ρ") 2189)⟩, ⟨120737, (.int 120737 2191), (.str (.ofString "θ") 2192)⟩, ⟨120738, (.int 120738 2194), (.str (.ofString "σ") 2195)⟩, ⟨120739, (.int 120739 2197), (.str (.ofString "τ") 2198)⟩, ⟨120740, (.int 120740 2200), (.str (.ofString "υ") 2201)⟩, ⟨120741, (.int 120741 2203), (.str (.ofString "φ") 2204)⟩]
noncomputable def c38 : List DictEntry := [⟨120742, (.int 120742 2206), (.str (.ofString "χ") 2207)⟩, ⟨120743, (.int 120743 2208), (.str (.ofString "ψ") 2209)⟩, ⟨120744, (.int 120744 2210), (.str (.ofString "ω") 2211)⟩, ⟨120763, (.int 120763 2212), (.str (.ofString "σ") 2213)⟩]
noncomputable def m1 : Obj := ⟨.type "dict", none, .dict (c0).toArray 17, #[]⟩
noncomputable def m2 : Obj := ⟨.type "dict", none, .dict (c0 ++ c1).toArray 34, #[]⟩
noncomputable def m3 : Obj := ⟨.type "dict", none, .dict (c0 ++ (c1 ++ c2)).toArray 51, #[]⟩
noncomputable def m4 : Obj := ⟨.type "dict", none, .dict (c0 ++ (c1 ++ (c2 ++ c3))).toArray 68, #[]⟩
noncomputable def m5 : Obj := ⟨.type "dict", none, .dict (c0 ++ (c1 ++ (c2 ++ (c3 ++ c4)))).toArray 85, #[]⟩
noncomputable def m6 : Obj := ⟨.type "dict", none, .dict (c0 ++ (c1 ++ (c2 ++ (c3 ++ (c4 ++ c5))))).toArray 102, #[]⟩
noncomputable def m7 : Obj := ⟨.type "dict", none, .dict (c0 ++ (c1 ++ (c2 ++ (c3 ++ (c4 ++ (c5 ++ c6)))))).toArray 119, #[]⟩
noncomputable def m8 : Obj := ⟨.type "dict", none, .dict (c0 ++ (c1 ++ (c2 ++ (c3 ++ (c4 ++ (c5 ++ (c6 ++ c7))))))).toArray 136, #[]⟩
noncomputable def m9 : Obj := ⟨.type "dict", none, .dict (c0 ++ (c1 ++ (c2 ++ (c3 ++ (c4 ++ (c5 ++ (c6 ++ (c7 ++ c8)))))))).toArray 153, #[]⟩
noncomputable def m10 : Obj := ⟨.type "dict", none, .dict (c0 ++ (c1 ++ (c2 ++ (c3 ++ (c4 ++ (c5 ++ (c6 ++ (c7 ++ (c8 ++ c9))))))))).toArray 170, #[]⟩
noncomputable def m11 : Obj := ⟨.type "dict", none, .dict (c0 ++ (c1 ++ (c2 ++ (c3 ++ (c4 ++ (c5 ++ (c6 ++ (c7 ++ (c8 ++ (c9 ++ c10)))))))))).toArray 187, #[]⟩
noncomputable def m12 : Obj := ⟨.type "dict", none, .dict (c0 ++ (c1 ++ (c2 ++ (c3 ++ (c4 ++ (c5 ++ (c6 ++ (c7 ++ (c8 ++ (c9 ++ (c10 ++ c11))))))))))).toArray 204, #[]⟩
noncomputable def m13 : Obj := ⟨.type "dict", none, .dict (c0 ++ (c1 ++ (c2 ++ (c3 ++ (c4 ++ (c5 ++ (c6 ++ (c7 ++ (c8 ++ (c9 ++ (c10 ++ (c11 ++ c12)))))))))))).toArray 221, #[]⟩
noncomputable def m14 : Obj := ⟨.type "dict", none, .dict (c0 ++ (c1 ++ (c2 ++ (c3 ++ (c4 ++ (c5 ++ (c6 ++ (c7 ++ (c8 ++ (c9 ++ (c10 ++ (c11 ++ (c12 ++ c13))))))))))))).toArray 238, #[]⟩
noncomputable def m15 : Obj := ⟨.type "dict", none, .dict (c0 ++ (c1 ++ (c2 ++ (c3 ++ (c4 ++ (c5 ++ (c6 ++ (c7 ++ (c8 ++ (c9 ++ (c10 ++ (c11 ++ (c12 ++ (c13 ++ c14)))))))))))))).toArray 255, #[]⟩
noncomputable def m16 : Obj := ⟨.type "dict", none, .dict (c0 ++ (c1 ++ (c2 ++ (c3 ++ (c4 ++ (c5 ++ (c6 ++ (c7 ++ (c8 ++ (c9 ++ (c10 ++ (c11 ++ (c12 ++ (c13 ++ (c14 ++ c15))))))))))))))).toArray 272, #[]⟩
noncomputable def m17 : Obj := ⟨.type "dict", none, .dict (c0 ++ (c1 ++ (c2 ++ (c3 ++ (c4 ++ (c5 ++ (c6 ++ (c7 ++ (c8 ++ (c9 ++ (c10 ++ (c11 ++ (c12 ++ (c13 ++ (c14 ++ (c15 ++ c16)))))))))))))))).toArray 289, #[]⟩
noncomputable def m18 : Obj := ⟨.type "dict", none, .dict (c0 ++ (c1 ++ (c2 ++ (c3 ++ (c4 ++ (c5 ++ (c6 ++ (c7 ++ (c8 ++ (c9 ++ (c10 ++ (c11 ++ (c12 ++ (c13 ++ (c14 ++ (c15 ++ (c16 ++ c17))))))))))))))))).toArray 306, #[]⟩
noncomputable def m19 : Obj := ⟨.type "dict", none, .dict (c0 ++ (c1 ++ (c2 ++ (c3 ++ (c4 ++ (c5 ++ (c6 ++ (c7 ++ (c8 ++ (c9 ++ (c10 ++ (c11 ++ (c12 ++ (c13 ++ (c14 ++ (c15 ++ (c16 ++ (c17 ++ c18)))))))))))))))))).toArray 323, #[]⟩
noncomputable def m20 : Obj := ⟨.type "dict", none, .dict (c0 ++ (c1 ++ (c2 ++ (c3 ++ (c4 ++ (c5 ++ (c6 ++ (c7 ++ (c8 ++ (c9 ++ (c10 ++ (c11 ++ (c12 ++ (c13 ++ (c14 ++ (c15 ++ (c16 ++ (c17 ++ (c18 ++ c19))))))))))))))))))).toArray 340, #[]⟩
noncomputable def m21 : Obj := ⟨.type "dict", none, .dict (c0 ++ (c1 ++ (c2 ++ (c3 ++ (c4 ++ (c5 ++ (c6 ++ (c7 ++ (c8 ++ (c9 ++ (c10 ++ (c11 ++ (c12 ++ (c13 ++ (c14 ++ (c15 ++ (c16 ++ (c17 ++ (c18 ++ (c19 ++ c20)))))))))))))))))))).toArray 357, #[]⟩
noncomputable def m22 : Obj := ⟨.type "dict", none, .dict (c0 ++ (c1 ++ (c2 ++ (c3 ++ (c4 ++ (c5 ++ (c6 ++ (c7 ++ (c8 ++ (c9 ++ (c10 ++ (c11 ++ (c12 ++ (c13 ++ (c14 ++ (c15 ++ (c16 ++ (c17 ++ (c18 ++ (c19 ++ (c20 ++ c21))))))))))))))))))))).toArray 374, #[]⟩
noncomputable def m23 : Obj := ⟨.type "dict", none, .dict (c0 ++ (c1 ++ (c2 ++ (c3 ++ (c4 ++ (c5 ++ (c6 ++ (c7 ++ (c8 ++ (c9 ++ (c10 ++ (c11 ++ (c12 ++ (c13 ++ (c14 ++ (c15 ++ (c16 ++ (c17 ++ (c18 ++ (c19 ++ (c20 ++ (c21 ++ c22)))))))))))))))))))))).toArray 391, #[]⟩
noncomputable def m24 : Obj := ⟨.type "dict", none, .dict (c0 ++ (c1 ++ (c2 ++ (c3 ++ (c4 ++ (c5 ++ (c6 ++ (c7 ++ (c8 ++ (c9 ++ (c10 ++ (c11 ++ (c12 ++ (c13 ++ (c14 ++ (c15 ++ (c16 ++ (c17 ++ (c18 ++ (c19 ++ (c20 ++ (c21 ++ (c22 ++ c23))))))))))))))))))))))).toArray 408, #[]⟩
noncomputable def m25 : Obj := ⟨.type "dict", none, .dict (c0 ++ (c1 ++ (c2 ++ (c3 ++ (c4 ++ (c5 ++ (c6 ++ (c7 ++ (c8 ++ (c9 ++ (c10 ++ (c11 ++ (c12 ++ (c13 ++ (c14 ++ (c15 ++ (c16 ++ (c17 ++ (c18 ++ (c19 ++ (c20 ++ (c21 ++ (c22 ++ (c23 ++ c24)))))))))))))))))))))))).toArray 425, #[]⟩
noncomputable def m26 : Obj := ⟨.type "dict", none, .dict (c0 ++ (c1 ++ (c2 ++ (c3 ++ (c4 ++ (c5 ++ (c6 ++ (c7 ++ (c8 ++ (c9 ++ (c10 ++ (c11 ++ (c12 ++ (c13 ++ (c14 ++ (c15 ++ (c16 ++ (c17 ++ (c18 ++ (c19 ++ (c20 ++ (c21 ++ (c22 ++ (c23 ++ (c24 ++ c25))))))))))))))))))))))))).toArray 442, #[]⟩
noncomputable def m27 : Obj := ⟨.type "dict", none, .dict (c0 ++ (c1 ++ (c2 ++ (c3 ++ (c4 ++ (c5 ++ (c6 ++ (c7 ++ (c8 ++ (c9 ++ (c10 ++ (c11 ++ (c12 ++ (c13 ++ (c14 ++ (c15 ++ (c16 ++ (c17 ++ (c18 ++ (c19 ++ (c20 ++ (c21 ++ (c22 ++ (c23 ++ (c24 ++ (c25 ++ c26)))))))))))))))))))))))))).toArray 459, #[]⟩
noncomputable def m28 : Obj := ⟨.type "dict", none, .dict (c0 ++ (c1 ++ (c2 ++ (c3 ++ (c4 ++ (c5 ++ (c6 ++ (c7 ++ (c8 ++ (c9 ++ (c10 ++ (c11 ++ (c12 ++ (c13 ++ (c14 ++ (c15 ++ (c16 ++ (c17 ++ (c18 ++ (c19 ++ (c20 ++ (c21 ++ (c22 ++ (c23 ++ (c24 ++ (c25 ++ (c26 ++ c27))))))))))))))))))))))))))).toArray 476, #[]⟩
noncomputable def m29 : Obj := ⟨.type "dict", none, .dict (c0 ++ (c1 ++ (c2 ++ (c3 ++ (c4 ++ (c5 ++ (c6 ++ (c7 ++ (c8 ++ (c9 ++ (c10 ++ (c11 ++ (c12 ++ (c13 ++ (c14 ++ (c15 ++ (c16 ++ (c17 ++ (c18 ++ (c19 ++ (c20 ++ (c21 ++ (c22 ++ (c23 ++ (c24 ++ (c25 ++ (c26 ++ (c27 ++ c28)))))))))))))))))))))))))))).toArray 493, #[]⟩
noncomputable def m30 : Obj := ⟨.type "dict", none, .dict (c0 ++ (c1 ++ (c2 ++ (c3 ++ (c4 ++ (c5 ++ (c6 ++ (c7 ++ (c8 ++ (c9 ++ (c10 ++ (c11 ++ (c12 ++ (c13 ++ (c14 ++ (c15 ++ (c16 ++ (c17 ++ (c18 ++ (c19 ++ (c20 ++ (c21 ++ (c22 ++ (c23 ++ (c24 ++ (c25 ++ (c26 ++ (c27 ++ (c28 ++ c29))))))))))))))))))))))))))))).toArray 510, #[]⟩
noncomputable def m31 : Obj := ⟨.type "dict", none, .dict (c0 ++ (c1 ++ (c2 ++ (c3 ++ (c4 ++ (c5 ++ (c6 ++ (c7 ++ (c8 ++ (c9 ++ (c10 ++ (c11 ++ (c12 ++ (c13 ++ (c14 ++ (c15 ++ (c16 ++ (c17 ++ (c18 ++ (c19 ++ (c20 ++ (c21 ++ (c22 ++ (c23 ++ (c24 ++ (c25 ++ (c26 ++ (c27 ++ (c28 ++ (c29 ++ c30)))))))))))))))))))))))))))))).toArray 527, #[]⟩
noncomputable def m32 : Obj := ⟨.type "dict", none, .dict (c0 ++ (c1 ++ (c2 ++ (c3 ++ (c4 ++ (c5 ++ (c6 ++ (c7 ++ (c8 ++ (c9 ++ (c10 ++ (c11 ++ (c12 ++ (c13 ++ (c14 ++ (c15 ++ (c16 ++ (c17 ++ (c18 ++ (c19 ++ (c20 ++ (c21 ++ (c22 ++ (c23 ++ (c24 ++ (c25 ++ (c26 ++ (c27 ++ (c28 ++ (c29 ++ (c30 ++ c31))))))))))))))))))))))))))))))).toArray 544, #[]⟩
noncomputable def m33 : Obj := ⟨.type "dict", none, .dict (c0 ++ (c1 ++ (c2 ++ (c3 ++ (c4 ++ (c5 ++ (c6 ++ (c7 ++ (c8 ++ (c9 ++ (c10 ++ (c11 ++ (c12 ++ (c13 ++ (c14 ++ (c15 ++ (c16 ++ (c17 ++ (c18 ++ (c19 ++ (c20 ++ (c21 ++ (c22 ++ (c23 ++ (c24 ++ (c25 ++ (c26 ++ (c27 ++ (c28 ++ (c29 ++ (c30 ++ (c31 ++ c32)))))))))))))))))))))))))))))))).toArray 561, #[]⟩
noncomputable def m34 : Obj := ⟨.type "dict", none, .dict (c0 ++ (c1 ++ (c2 ++ (c3 ++ (c4 ++ (c5 ++ (c6 ++ (c7 ++ (c8 ++ (c9 ++ (c10 ++ (c11 ++ (c12 ++ (c13 ++ (c14 ++ (c15 ++ (c16 ++ (c17 ++ (c18 ++ (c19 ++ (c20 ++ (c21 ++ (c22 ++ (c23 ++ (c24 ++ (c25 ++ (c26 ++ (c27 ++ (c28 ++ (c29 ++ (c30 ++ (c31 ++ (c32 ++ c33))))))))))))))))))))))))))))))))).toArray 578, #[]⟩
noncomputable def m35 : Obj := ⟨.type "dict", none, .dict (c0 ++ (c1 ++ (c2 ++ (c3 ++ (c4 ++ (c5 ++ (c6 ++ (c7 ++ (c8 ++ (c9 ++ (c10 ++ (c11 ++ (c12 ++ (c13 ++ (c14 ++ (c15 ++ (c16 ++ (c17 ++ (c18 ++ (c19 ++ (c20 ++ (c21 ++ (c22 ++ (c23 ++ (c24 ++ (c25 ++ (c26 ++ (c27 ++ (c28 ++ (c29 ++ (c30 ++ (c31 ++ (c32 ++ (c33 ++ c34)))))))))))))))))))))))))))))))))).toArray 595, #[]⟩
noncomputable def m36 : Obj := ⟨.type "dict", none, .dict (c0 ++ (c1 ++ (c2 ++ (c3 ++ (c4 ++ (c5 ++ (c6 ++ (c7 ++ (c8 ++ (c9 ++ (c10 ++ (c11 ++ (c12 ++ (c13 ++ (c14 ++ (c15 ++ (c16 ++ (c17 ++ (c18 ++ (c19 ++ (c20 ++ (c21 ++ (c22 ++ (c23 ++ (c24 ++ (c25 ++ (c26 ++ (c27 ++ (c28 ++ (c29 ++ (c30 ++ (c31 ++ (c32 ++ (c33 ++ (c34 ++ c35))))))))))))))))))))))))))))))))))).toArray 612, #[]⟩
noncomputable def m37 : Obj := ⟨.type "dict", none, .dict (c0 ++ (c1 ++ (c2 ++ (c3 ++ (c4 ++ (c5 ++ (c6 ++ (c7 ++ (c8 ++ (c9 ++ (c10 ++ (c11 ++ (c12 ++ (c13 ++ (c14 ++ (c15 ++ (c16 ++ (c17 ++ (c18 ++ (c19 ++ (c20 ++ (c21 ++ (c22 ++ (c23 ++ (c24 ++ (c25 ++ (c26 ++ (c27 ++ (c28 ++ (c29 ++ (c30 ++ (c31 ++ (c32 ++ (c33 ++ (c34 ++ (c35 ++ c36)))))))))))))))))))))))))))))))))))).toArray 629, #[]⟩
noncomputable def m38 : Obj := ⟨.type "dict", none, .dict (c0 ++ (c1 ++ (c2 ++ (c3 ++ (c4 ++ (c5 ++ (c6 ++ (c7 ++ (c8 ++ (c9 ++ (c10 ++ (c11 ++ (c12 ++ (c13 ++ (c14 ++ (c15 ++ (c16 ++ (c17 ++ (c18 ++ (c19 ++ (c20 ++ (c21 ++ (c22 ++ (c23 ++ (c24 ++ (c25 ++ (c26 ++ (c27 ++ (c28 ++ (c29 ++ (c30 ++ (c31 ++ (c32 ++ (c33 ++ (c34 ++ (c35 ++ (c36 ++ c37))))))))))))))))))))))))))))))))))))).toArray 646, #[]⟩
noncomputable def m39 : Obj := ⟨.type "dict", none, .dict (c0 ++ (c1 ++ (c2 ++ (c3 ++ (c4 ++ (c5 ++ (c6 ++ (c7 ++ (c8 ++ (c9 ++ (c10 ++ (c11 ++ (c12 ++ (c13 ++ (c14 ++ (c15 ++ (c16 ++ (c17 ++ (c18 ++ (c19 ++ (c20 ++ (c21 ++ (c22 ++ (c23 ++ (c24 ++ (c25 ++ (c26 ++ (c27 ++ (c28 ++ (c29 ++ (c30 ++ (c31 ++ (c32 ++ (c33 ++ (c34 ++ (c35 ++ (c36 ++ (c37 ++ c38)))))))))))))))))))))))))))))))))))))).toArray 650, #[]⟩
noncomputable def s1 : Obj := ⟨.type "dict", none, .dict c1.toArray 17, #[]⟩
noncomputable def s2 : Obj := ⟨.type "dict", none, .dict c2.toArray 17, #[]⟩
noncomputable def s3 : Obj := ⟨.type "dict", none, .dict c3.toArray 17, #[]⟩
noncomputable def s4 : Obj := ⟨.type "dict", none, .dict c4.toArray 17, #[]⟩
noncomputable def s5 : Obj := ⟨.type "dict", none, .dict c5.toArray 17, #[]⟩
noncomputable def s6 : Obj := ⟨.type "dict", none, .dict c6.toArray 17, #[]⟩
noncomputable def s7 : Obj := ⟨.type "dict", none, .dict c7.toArray 17, #[]⟩
noncomputable def s8 : Obj := ⟨.type "dict", none, .dict c8.toArray 17, #[]⟩
noncomputable def s9 : Obj := ⟨.type "dict", none, .dict c9.toArray 17, #[]⟩
noncomputable def s10 : Obj := ⟨.type "dict", none, .dict c10.toArray 17, #[]⟩
noncomputable def s11 : Obj := ⟨.type "dict", none, .dict c11.toArray 17, #[]⟩
noncomputable def s12 : Obj := ⟨.type "dict", none, .dict c12.toArray 17, #[]⟩
noncomputable def s13 : Obj := ⟨.type "dict", none, .dict c13.toArray 17, #[]⟩
noncomputable def s14 : Obj := ⟨.type "dict", none, .dict c14.toArray 17, #[]⟩
noncomputable def s15 : Obj := ⟨.type "dict", none, .dict c15.toArray 17, #[]⟩
noncomputable def s16 : Obj := ⟨.type "dict", none, .dict c16.toArray 17, #[]⟩
noncomputable def s17 : Obj := ⟨.type "dict", none, .dict c17.toArray 17, #[]⟩
noncomputable def s18 : Obj := ⟨.type "dict", none, .dict c18.toArray 17, #[]⟩
noncomputable def s19 : Obj := ⟨.type "dict", none, .dict c19.toArray 17, #[]⟩
noncomputable def s20 : Obj := ⟨.type "dict", none, .dict c20.toArray 17, #[]⟩
noncomputable def s21 : Obj := ⟨.type "dict", none, .dict c21.toArray 17, #[]⟩
noncomputable def s22 : Obj := ⟨.type "dict", none, .dict c22.toArray 17, #[]⟩
noncomputable def s23 : Obj := ⟨.type "dict", none, .dict c23.toArray 17, #[]⟩
noncomputable def s24 : Obj := ⟨.type "dict", none, .dict c24.toArray 17, #[]⟩
noncomputable def s25 : Obj := ⟨.type "dict", none, .dict c25.toArray 17, #[]⟩
noncomputable def s26 : Obj := ⟨.type "dict", none, .dict c26.toArray 17, #[]⟩
noncomputable def s27 : Obj := ⟨.type "dict", none, .dict c27.toArray 17, #[]⟩
noncomputable def s28 : Obj := ⟨.type "dict", none, .dict c28.toArray 17, #[]⟩
noncomputable def s29 : Obj := ⟨.type "dict", none, .dict c29.toArray 17, #[]⟩
noncomputable def s30 : Obj := ⟨.type "dict", none, .dict c30.toArray 17, #[]⟩
noncomputable def s31 : Obj := ⟨.type "dict", none, .dict c31.toArray 17, #[]⟩
noncomputable def s32 : Obj := ⟨.type "dict", none, .dict c32.toArray 17, #[]⟩
noncomputable def s33 : Obj := ⟨.type "dict", none, .dict c33.toArray 17, #[]⟩
noncomputable def s34 : Obj := ⟨.type "dict", none, .dict c34.toArray 17, #[]⟩
noncomputable def s35 : Obj := ⟨.type "dict", none, .dict c35.toArray 17, #[]⟩
noncomputable def s36 : Obj := ⟨.type "dict", none, .dict c36.toArray 17, #[]⟩
noncomputable def s37 : Obj := ⟨.type "dict", none, .dict c37.toArray 17, #[]⟩
noncomputable def s38 : Obj := ⟨.type "dict", none, .dict c38.toArray 4, #[]⟩
noncomputable def u1 (P : Params) : BT := (.node (PySem.W.boot_o_0 P) (.node (PySem.W.boot_o_1 P) (.node (o3_4 P) (.node (PySem.W.boot_o_7 P) (.node (o15_2 P) (.node (o31_3 P) .nil .nil) .nil) (.node (o23_3 P) (.node (o39_4 P) .nil .nil) .nil)) (.node (o11_0 P) (.node (o19_2 P) (.node (o35_4 P) .nil .nil) .nil) (.node (o27_3 P) .nil .nil))) (.node (PySem.W.boot_o_5 P) (.node (PySem.W.boot_o_9 P) (.node (o17_2 P) (.node (o33_4 P) .nil .nil) .nil) (.node (o25_3 P) .nil .nil)) (.node (o13_0 P) (.node (o21_2 P) (.node (o37_4 P) .nil .nil) .nil) (.node (o29_3 P) .nil .nil)))) (.node (PySem.W.boot_o_2 P) (.node (PySem.W.boot_o_4 P) (.node (PySem.W.boot_o_8 P) (.node (o16_2 P) (.node (o32_3 P) .nil .nil) .nil) (.node (o24_3 P) (.node (m1) .nil .nil) .nil)) (.node (o12_4 P) (.node (o20_2 P) (.node (o36_4 P) .nil .nil) .nil) (.node (o28_3 P) .nil .nil))) (.node (PySem.W.boot_o_6 P) (.node (PySem.W.boot_o_10 P) (.node (o18_2 P) (.node (o34_4 P) .nil .nil) .nil) (.node (o26_3 P) .nil .nil)) (.node (o14_0 P) (.node (o22_3 P) (.node (o38_4 P) .nil .nil) .nil) (.node (o30_3 P) .nil .nil)))))
noncomputable def u2 (P : Params) : BT := (.node (PySem.W.boot_o_0 P) (.node (PySem.W.boot_o_1 P) (.node (o3_4 P) (.node (PySem.W.boot_o_7 P) (.node (o15_2 P) (.node (o31_3 P) .nil .nil) .nil) (.node (o23_3 P) (.node (o39_4 P) .nil .nil) .nil)) (.node (o11_0 P) (.node (o19_2 P) (.node (o35_4 P) .nil .nil) .nil) (.node (o27_3 P) .nil .nil))) (.node (PySem.W.boot_o_5 P) (.node (PySem.W.boot_o_9 P) (.node (o17_2 P) (.node (o33_4 P) .nil .nil) .nil) (.node (o25_3 P) (.node (s1) .nil .nil) .nil)) (.node (o13_0 P) (.node (o21_2 P) (.node (o37_4 P) .nil .nil) .nil) (.node (o29_3 P) .nil .nil)))) (.node (PySem.W.boot_o_2 P) (.node (PySem.W.boot_o_4 P) (.node (PySem.W.boot_o_8 P) (.node (o16_2 P) (.node (o32_3 P) .nil .nil) .nil) (.node (o24_3 P) (.node (m2) .nil .nil) .nil)) (.node (o12_4 P) (.node (o20_2 P) (.node (o36_4 P) .nil .nil) .nil) (.node (o28_3 P) .nil .nil))) (.node (PySem.W.boot_o_6 P) (.node (PySem.W.boot_o_10 P) (.node (o18_2 P) (.node (o34_4 P) .nil .nil) .nil) (.node (o26_3 P) .nil .nil)) (.node (o14_0 P) (.node (o22_3 P) (.node (o38_4 P) .nil .nil) .nil) (.node (o30_3 P) .nil .nil)))))
noncomputable def u3 (P : Params) : BT := (.node (PySem.W.boot_o_0 P) (.node (PySem.W.boot_o_1 P) (.node (o3_4 P) (.node (PySem.W.boot_o_7 P) (.node (o15_2 P) (.node (o31_3 P) .nil .nil) .nil) (.node (o23_3 P) (.node (o39_4 P) .nil .nil) .nil)) (.node (o11_0 P) (.node (o19_2 P) (.node (o35_4 P) .nil .nil) .nil) (.node (o27_3 P) .nil .nil))) (.node (PySem.W.boot_o_5 P) (.node (PySem.W.boot_o_9 P) (.node (o17_2 P) (.node (o33_4 P) .nil .nil) .nil) (.node (o25_3 P) (.node (s1) .nil .nil) .nil)) (.node (o13_0 P) (.node (o21_2 P) (.node (o37_4 P) .nil .nil) .nil) (.node (o29_3 P) .nil .nil)))) (.node (PySem.W.boot_o_2 P) (.node (PySem.W.boot_o_4 P) (.node (PySem.W.boot_o_8 P) (.node (o16_2 P) (.node (o32_3 P) .nil .nil) .nil) (.node (o24_3 P) (.node (m3) .nil .nil) .nil)) (.node (o12_4 P) (.node (o20_2 P) (.node (o36_4 P) .nil .nil) .nil) (.node (o28_3 P) .nil .nil))) (.node (PySem.W.boot_o_6 P) (.node (PySem.W.boot_o_10 P) (.node (o18_2 P) (.node (o34_4 P) .nil .nil) .nil) (.node (o26_3 P) (.node (s2) .nil .nil) .nil)) (.node (o14_0 P) (.node (o22_3 P) (.node (o38_4 P) .nil .nil) .nil) (.node (o30_3 P) .nil .nil)))))
noncomputable def u4 (P : Params) : BT := (.node (PySem.W.boot_o_0 P) (.node (PySem.W.boot_o_1 P) (.node (o3_4 P) (.node (PySem.W.boot_o_7 P) (.node (o15_2 P) (.node (o31_3 P) .nil .nil) .nil) (.node (o23_3 P) (.node (o39_4 P) .nil .nil) .nil)) (.node (o11_0 P) (.node (o19_2 P) (.node (o35_4 P) .nil .nil) .nil) (.node (o27_3 P) (.node (s3) .nil .nil) .nil))) (.node (PySem.W.boot_o_5 P) (.node (PySem.W.boot_o_9 P) (.node (o17_2 P) (.node (o33_4 P) .nil .nil) .nil) (.node (o25_3 P) (.node (s1) .nil .nil) .nil)) (.node (o13_0 P) (.node (o21_2 P) (.node (o37_4 P) .nil .nil) .nil) (.node (o29_3 P) .nil .nil)))) (.node (PySem.W.boot_o_2 P) (.node (PySem.W.boot_o_4 P) (.node (PySem.W.boot_o_8 P) (.node (o16_2 P) (.node (o32_3 P) .nil .nil) .nil) (.node (o24_3 P) (.node (m4) .nil .nil) .nil)) (.node (o12_4 P) (.node (o20_2 P) (.node (o36_4 P) .nil .nil) .nil) (.node (o28_3 P) .nil .nil))) (.node (PySem.W.boot_o_6 P) (.node (PySem.W.boot_o_10 P) (.node (o18_2 P) (.node (o34_4 P) .nil .nil) .nil) (.node (o26_3 P) (.node (s2) .nil .nil) .nil)) (.node (o14_0 P) (.node (o22_3 P) (.node (o38_4 P) .nil .nil) .nil) (.node (o30_3 P) .nil .nil)))))
noncomputable def u5 (P : Params) : BT := (.node (PySem.W.boot_o_0 P) (.node (PySem.W.boot_o_1 P) (.node (o3_4 P) (.node (PySem.W.boot_o_7 P) (.node (o15_2 P) (.node (o31_3 P) .nil .nil) .nil) (.node (o23_3 P) (.node (o39_4 P) .nil .nil) .nil)) (.node (o11_0 P) (.node (o19_2 P) (.node (o35_4 P) .nil .nil) .nil) (.node (o27_3 P) (.node (s3) .nil .nil) .nil))) (.node (PySem.W.boot_o_5 P) (.node (PySem.W.boot_o_9 P) (.node (o17_2 P) (.node (o33_4 P) .nil .nil) .nil) (.node (o25_3 P) (.node (s1) .nil .nil) .nil)) (.node (o13_0 P) (.node (o21_2 P) (.node (o37_4 P) .nil .nil) .nil) (.node (o29_3 P) .nil .nil)))) (.node (PySem.W.boot_o_2 P) (.node (PySem.W.boot_o_4 P) (.node (PySem.W.boot_o_8 P) (.node (o16_2 P) (.node (o32_3 P) .nil .nil) .nil) (.node (o24_3 P) (.node (m5) .nil .nil) .nil)) (.node (o12_4 P) (.node (o20_2 P) (.node (o36_4 P) .nil .nil) .nil) (.node (o28_3 P) (.node (s4) .nil .nil) .nil))) (.node (PySem.W.boot_o_6 P) (.node (PySem.W.boot_o_10 P) (.node (o18_2 P) (.node (o34_4 P) .nil .nil) .nil) (.node (o26_3 P) (.node (s2) .nil .nil) .nil)) (.node (o14_0 P) (.node (o22_3 P) (.node (o38_4 P) .nil .nil) .nil) (.node (o30_3 P) .nil .nil)))))
noncomputable def u6 (P : Params) : BT := (.node (PySem.W.boot_o_0 P) (.node (PySem.W.boot_o_1 P) (.node (o3_4 P) (.node (PySem.W.boot_o_7 P) (.node (o15_2 P) (.node (o31_3 P) .nil .nil) .nil) (.node (o23_3 P) (.node (o39_4 P) .nil .nil) .nil)) (.node (o11_0 P) (.node (o19_2 P) (.node (o35_4 P) .nil .nil) .nil) (.node (o27_3 P) (.node (s3) .nil .nil) .nil))) (.node (PySem.W.boot_o_5 P) (.node (PySem.W.boot_o_9 P) (.node (o17_2 P) (.node (o33_4 P) .nil .nil) .nil) (.node (o25_3 P) (.node (s1) .nil .nil) .nil)) (.node (o13_0 P) (.node (o21_2 P) (.node (o37_4 P) .nil .nil) .nil) (.node (o29_3 P) (.node (s5) .nil .nil) .nil)))) (.node (PySem.W.boot_o_2 P) (.node (PySem.W.boot_o_4 P) (.node (PySem.W.boot_o_8 P) (.node (o16_2 P) (.node (o32_3 P) .nil .nil) .nil) (.node (o24_3 P) (.node (m6) .nil .nil) .nil)) (.node (o12_4 P) (.node (o20_2 P) (.node (o36_4 P) .nil .nil) .nil) (.node (o28_3 P) (.node (s4) .nil .nil) .nil))) (.node (PySem.W.boot_o_6 P) (.node (PySem.W.boot_o_10 P) (.node (o18_2 P) (.node (o34_4 P) .nil .nil) .nil) (.node (o26_3 P) (.node (s2) .nil .nil) .nil)) (.node (o14_0 P) (.node (o22_3 P) (.node (o38_4 P) .nil .nil) .nil) (.node (o30_3 P) .nil .nil)))))
noncomputable def u7 (P : Params) : BT := (.node (PySem.W.boot_o_0 P) (.node (PySem.W.boot_o_1 P) (.node (o3_4 P) (.node (PySem.W.boot_o_7 P) (.node (o15_2 P) (.node (o31_3 P) .nil .nil) .nil) (.node (o23_3 P) (.node (o39_4 P) .nil .nil) .nil)) (.node (o11_0 P) (.node (o19_2 P) (.node (o35_4 P) .nil .nil) .nil) (.node (o27_3 P) (.node (s3) .nil .nil) .nil))) (.node (PySem.W.boot_o_5 P) (.node (PySem.W.boot_o_9 P) (.node (o17_2 P) (.node (o33_4 P) .nil .nil) .nil) (.node (o25_3 P) (.node (s1) .nil .nil) .nil)) (.node (o13_0 P) (.node (o21_2 P) (.node (o37_4 P) .nil .nil) .nil) (.node (o29_3 P) (.node (s5) .nil .nil) .nil)))) (.node (PySem.W.boot_o_2 P) (.node (PySem.W.boot_o_4 P) (.node (PySem.W.boot_o_8 P) (.node (o16_2 P) (.node (o32_3 P) .nil .nil) .nil) (.node (o24_3 P) (.node (m7) .nil .nil) .nil)) (.node (o12_4 P) (.node (o20_2 P) (.node (o36_4 P) .nil .nil) .nil) (.node (o28_3 P) (.node (s4) .nil .nil) .nil))) (.node (PySem.W.boot_o_6 P) (.node (PySem.W.boot_o_10 P) (.node (o18_2 P) (.node (o34_4 P) .nil .nil) .nil) (.node (o26_3 P) (.node (s2) .nil .nil) .nil)) (.node (o14_0 P) (.node (o22_3 P) (.node (o38_4 P) .nil .nil) .nil) (.node (o30_3 P) (.node (s6) .nil .nil) .nil)))))
noncomputable def u8 (P : Params) : BT := (.node (PySem.W.boot_o_0 P) (.node (PySem.W.boot_o_1 P) (.node (o3_4 P) (.node (PySem.W.boot_o_7 P) (.node (o15_2 P) (.node (o31_3 P) .nil .nil) (.node (s7) .nil .nil)) (.node (o23_3 P) (.node (o39_4 P) .nil .nil) .nil)) (.node (o11_0 P) (.node (o19_2 P) (.node (o35_4 P) .nil .nil) .nil) (.node (o27_3 P) (.node (s3) .nil .nil) .nil))) (.node (PySem.W.boot_o_5 P) (.node (PySem.W.boot_o_9 P) (.node (o17_2 P) (.node (o33_4 P) .nil .nil) .nil) (.node (o25_3 P) (.node (s1) .nil .nil) .nil)) (.node (o13_0 P) (.node (o21_2 P) (.node (o37_4 P) .nil .nil) .nil) (.node (o29_3 P) (.node (s5) .nil .nil) .nil)))) (.node (PySem.W.boot_o_2 P) (.node (PySem.W.boot_o_4 P) (.node (PySem.W.boot_o_8 P) (.node (o16_2 P) (.node (o32_3 P) .nil .nil) .nil) (.node (o24_3 P) (.node (m8) .nil .nil) .nil)) (.node (o12_4 P) (.node (o20_2 P) (.node (o36_4 P) .nil .nil) .nil) (.node (o28_3 P) (.node (s4) .nil .nil) .nil))) (.node (PySem.W.boot_o_6 P) (.node (PySem.W.boot_o_10 P) (.node (o18_2 P) (.node (o34_4 P) .nil .nil) .nil) (.node (o26_3 P) (.node (s2) .nil .nil) .nil)) (.node (o14_0 P) (.node (o22_3 P) (.node (o38_4 P) .nil .nil) .nil) (.node (o30_3 P) (.node (s6) .nil .nil) .nil)))))
noncomputable def u9 (P : Params) : BT := (.node (PySem.W.boot_o_0 P) (.node (PySem.W.boot_o_1 P) (.node (o3_4 P) (.node (PySem.W.boot_o_7 P) (.node (o15_2 P) (.node (o31_3 P) .nil .nil) (.node (s7) .nil .nil)) (.node (o23_3 P) (.node (o39_4 P) .nil .nil) .nil)) (.node (o11_0 P) (.node (o19_2 P) (.node (o35_4 P) .nil .nil) .nil) (.node (o27_3 P) (.node (s3) .nil .nil) .nil))) (.node (PySem.W.boot_o_5 P) (.node (PySem.W.boot_o_9 P) (.node (o17_2 P) (.node (o33_4 P) .nil .nil) .nil) (.node (o25_3 P) (.node (s1) .nil .nil) .nil)) (.node (o13_0 P) (.node (o21_2 P) (.node (o37_4 P) .nil .nil) .nil) (.node (o29_3 P) (.node (s5) .nil .nil) .nil)))) (.node (PySem.W.boot_o_2 P) (.node (PySem.W.boot_o_4 P) (.node (PySem.W.boot_o_8 P) (.node (o16_2 P) (.node (o32_3 P) .nil .nil) (.node (s8) .nil .nil)) (.node (o24_3 P) (.node (m9) .nil .nil) .nil)) (.node (o12_4 P) (.node (o20_2 P) (.node (o36_4 P) .nil .nil) .nil) (.node (o28_3 P) (.node (s4) .nil .nil) .nil))) (.node (PySem.W.boot_o_6 P) (.node (PySem.W.boot_o_10 P) (.node (o18_2 P) (.node (o34_4 P) .nil .nil) .nil) (.node (o26_3 P) (.node (s2) .nil .nil) .nil)) (.node (o14_0 P) (.node (o22_3 P) (.node (o38_4 P) .nil .nil) .nil) (.node (o30_3 P) (.node (s6) .nil .nil) .nil)))))
noncomputable def u10 (P : Params) : BT := (.node (PySem.W.boot_o_0 P) (.node (PySem.W.boot_o_1 P) (.node (o3_4 P) (.node (PySem.W.boot_o_7 P) (.node (o15_2 P) (.node (o31_3 P) .nil .nil) (.node (s7) .nil .nil)) (.node (o23_3 P) (.node (o39_4 P) .nil .nil) .nil)) (.node (o11_0 P) (.node (o19_2 P) (.node (o35_4 P) .nil .nil) .nil) (.node (o27_3 P) (.node (s3) .nil .nil) .nil))) (.node (PySem.W.boot_o_5 P) (.node (PySem.W.boot_o_9 P) (.node (o17_2 P) (.node (o33_4 P) .nil .nil) (.node (s9) .nil .nil)) (.node (o25_3 P) (.node (s1) .nil .nil) .nil)) (.node (o13_0 P) (.node (o21_2 P) (.node (o37_4 P) .nil .nil) .nil) (.node (o29_3 P) (.node (s5) .nil .nil) .nil)))) (.node (PySem.W.boot_o_2 P) (.node (PySem.W.boot_o_4 P) (.node (PySem.W.boot_o_8 P) (.node (o16_2 P) (.node (o32_3 P) .nil .nil) (.node (s8) .nil .nil)) (.node (o24_3 P) (.node (m10) .nil .nil) .nil)) (.node (o12_4 P) (.node (o20_2 P) (.node (o36_4 P) .nil .nil) .nil) (.node (o28_3 P) (.node (s4) .nil .nil) .nil))) (.node (PySem.W.boot_o_6 P) (.node (PySem.W.boot_o_10 P) (.node (o18_2 P) (.node (o34_4 P) .nil .nil) .nil) (.node (o26_3 P) (.node (s2) .nil .nil) .nil)) (.node (o14_0 P) (.node (o22_3 P) (.node (o38_4 P) .nil .nil) .nil) (.node (o30_3 P) (.node (s6) .nil .nil) .nil)))))
noncomputable def u11 (P : Params) : BT := (.node (PySem.W.boot_o_0 P) (.node (PySem.W.boot_o_1 P) (.node (o3_4 P) (.node (PySem.W.boot_o_7 P) (.node (o15_2 P) (.node (o31_3 P) .nil .nil) (.node (s7) .nil .nil)) (.node (o23_3 P) (.node (o39_4 P) .nil .nil) .nil)) (.node (o11_0 P) (.node (o19_2 P) (.node (o35_4 P) .nil .nil) .nil) (.node (o27_3 P) (.node (s3) .nil .nil) .nil))) (.node (PySem.W.boot_o_5 P) (.node (PySem.W.boot_o_9 P) (.node (o17_2 P) (.node (o33_4 P) .nil .nil) (.node (s9) .nil .nil)) (.node (o25_3 P) (.node (s1) .nil .nil) .nil)) (.node (o13_0 P) (.node (o21_2 P) (.node (o37_4 P) .nil .nil) .nil) (.node (o29_3 P) (.node (s5) .nil .nil) .nil)))) (.node (PySem.W.boot_o_2 P) (.node (PySem.W.boot_o_4 P) (.node (PySem.W.boot_o_8 P) (.node (o16_2 P) (.node (o32_3 P) .nil .nil) (.node (s8) .nil .nil)) (.node (o24_3 P) (.node (m11) .nil .nil) .nil)) (.node (o12_4 P) (.node (o20_2 P) (.node (o36_4 P) .nil .nil) .nil) (.node (o28_3 P) (.node (s4) .nil .nil) .nil))) (.node (PySem.W.boot_o_6 P) (.node (PySem.W.boot_o_10 P) (.node (o18_2 P) (.node (o34_4 P) .nil .nil) (.node (s10) .nil .nil)) (.node (o26_3 P) (.node (s2) .nil .nil) .nil)) (.node (o14_0 P) (.node (o22_3 P) (.node (o38_4 P) .nil .nil) .nil) (.node (o30_3 P) (.node (s6) .nil .nil) .nil)))))
noncomputable def u12 (P : Params) : BT := (.node (PySem.W.boot_o_0 P) (.node (PySem.W.boot_o_1 P) (.node (o3_4 P) (.node (PySem.W.boot_o_7 P) (.node (o15_2 P) (.node (o31_3 P) .nil .nil) (.node (s7) .nil .nil)) (.node (o23_3 P) (.node (o39_4 P) .nil .nil) .nil)) (.node (o11_0 P) (.node (o19_2 P) (.node (o35_4 P) .nil .nil) (.node (s11) .nil .nil)) (.node (o27_3 P) (.node (s3) .nil .nil) .nil))) (.node (PySem.W.boot_o_5 P) (.node (PySem.W.boot_o_9 P) (.node (o17_2 P) (.node (o33_4 P) .nil .nil) (.node (s9) .nil .nil)) (.node (o25_3 P) (.node (s1) .nil .nil) .nil)) (.node (o13_0 P) (.node (o21_2 P) (.node (o37_4 P) .nil .nil) .nil) (.node (o29_3 P) (.node (s5) .nil .nil) .nil)))) (.node (PySem.W.boot_o_2 P) (.node (PySem.W.boot_o_4 P) (.node (PySem.W.boot_o_8 P) (.node (o16_2 P) (.node (o32_3 P) .nil .nil) (.node (s8) .nil .nil)) (.node (o24_3 P) (.node (m12) .nil .nil) .nil)) (.node (o12_4 P) (.node (o20_2 P) (.node (o36_4 P) .nil .nil) .nil) (.node (o28_3 P) (.node (s4) .nil .nil) .nil))) (.node (PySem.W.boot_o_6 P) (.node (PySem.W.boot_o_10 P) (.node (o18_2 P) (.node (o34_4 P) .nil .nil) (.node (s10) .nil .nil)) (.node (o26_3 P) (.node (s2) .nil .nil) .nil)) (.node (o14_0 P) (.node (o22_3 P) (.node (o38_4 P) .nil .nil) .nil) (.node (o30_3 P) (.node (s6) .nil .nil) .nil)))))
noncomputable def u13 (P : Params) : BT := (.node (PySem.W.boot_o_0 P) (.node (PySem.W.boot_o_1 P) (.node (o3_4 P) (.node (PySem.W.boot_o_7 P) (.node (o15_2 P) (.node (o31_3 P) .nil .nil) (.node (s7) .nil .nil)) (.node (o23_3 P) (.node (o39_4 P) .nil .nil) .nil)) (.node (o11_0 P) (.node (o19_2 P) (.node (o35_4 P) .nil .nil) (.node (s11) .nil .nil)) (.node (o27_3 P) (.node (s3) .nil .nil) .nil))) (.node (PySem.W.boot_o_5 P) (.node (PySem.W.boot_o_9 P) (.node (o17_2 P) (.node (o33_4 P) .nil .nil) (.node (s9) .nil .nil)) (.node (o25_3 P) (.node (s1) .nil .nil) .nil)) (.node (o13_0 P) (.node (o21_2 P) (.node (o37_4 P) .nil .nil) .nil) (.node (o29_3 P) (.node (s5) .nil .nil) .nil)))) (.node (PySem.W.boot_o_2 P) (.node (PySem.W.boot_o_4 P) (.node (PySem.W.boot_o_8 P) (.node (o16_2 P) (.node (o32_3 P) .nil .nil) (.node (s8) .nil .nil)) (.node (o24_3 P) (.node (m13) .nil .nil) .nil)) (.node (o12_4 P) (.node (o20_2 P) (.node (o36_4 P) .nil .nil) (.node (s12) .nil .nil)) (.node (o28_3 P) (.node (s4) .nil .nil) .nil))) (.node (PySem.W.boot_o_6 P) (.node (PySem.W.boot_o_10 P) (.node (o18_2 P) (.node (o34_4 P) .nil .nil) (.node (s10) .nil .nil)) (.node (o26_3 P) (.node (s2) .nil .nil) .nil)) (.node (o14_0 P) (.node (o22_3 P) (.node (o38_4 P) .nil .nil) .nil) (.node (o30_3 P) (.node (s6) .nil .nil) .nil)))))
noncomputable def u14 (P : Params) : BT := (.node (PySem.W.boot_o_0 P) (.node (PySem.W.boot_o_1 P) (.node (o3_4 P) (.node (PySem.W.boot_o_7 P) (.node (o15_2 P) (.node (o31_3 P) .nil .nil) (.node (s7) .nil .nil)) (.node (o23_3 P) (.node (o39_4 P) .nil .nil) .nil)) (.node (o11_0 P) (.node (o19_2 P) (.node (o35_4 P) .nil .nil) (.node (s11) .nil .nil)) (.node (o27_3 P) (.node (s3) .nil .nil) .nil))) (.node (PySem.W.boot_o_5 P) (.node (PySem.W.boot_o_9 P) (.node (o17_2 P) (.node (o33_4 P) .nil .nil) (.node (s9) .nil .nil)) (.node (o25_3 P) (.node (s1) .nil .nil) .nil)) (.node (o13_0 P) (.node (o21_2 P) (.node (o37_4 P) .nil .nil) (.node (s13) .nil .nil)) (.node (o29_3 P) (.node (s5) .nil .nil) .nil)))) (.node (PySem.W.boot_o_2 P) (.node (PySem.W.boot_o_4 P) (.node (PySem.W.boot_o_8 P) (.node (o16_2 P) (.node (o32_3 P) .nil .nil) (.node (s8) .nil .nil)) (.node (o24_3 P) (.node (m14) .nil .nil) .nil)) (.node (o12_4 P) (.node (o20_2 P) (.node (o36_4 P) .nil .nil) (.node (s12) .nil .nil)) (.node (o28_3 P) (.node (s4) .nil .nil) .nil))) (.node (PySem.W.boot_o_6 P) (.node (PySem.W.boot_o_10 P) (.node (o18_2 P) (.node (o34_4 P) .nil .nil) (.node (s10) .nil .nil)) (.node (o26_3 P) (.node (s2) .nil .nil) .nil)) (.node (o14_0 P) (.node (o22_3 P) (.node (o38_4 P) .nil .nil) .nil) (.node (o30_3 P) (.node (s6) .nil .nil) .nil)))))
noncomputable def u15 (P : Params) : BT := (.node (PySem.W.boot_o_0 P) (.node (PySem.W.boot_o_1 P) (.node (o3_4 P) (.node (PySem.W.boot_o_7 P) (.node (o15_2 P) (.node (o31_3 P) .nil .nil) (.node (s7) .nil .nil)) (.node (o23_3 P) (.node (o39_4 P) .nil .nil) .nil)) (.node (o11_0 P) (.node (o19_2 P) (.node (o35_4 P) .nil .nil) (.node (s11) .nil .nil)) (.node (o27_3 P) (.node (s3) .nil .nil) .nil))) (.node (PySem.W.boot_o_5 P) (.node (PySem.W.boot_o_9 P) (.node (o17_2 P) (.node (o33_4 P) .nil .nil) (.node (s9) .nil .nil)) (.node (o25_3 P) (.node (s1) .nil .nil) .nil)) (.node (o13_0 P) (.node (o21_2 P) (.node (o37_4 P) .nil .nil) (.node (s13) .nil .nil)) (.node (o29_3 P) (.node (s5) .nil .nil) .nil)))) (.node (PySem.W.boot_o_2 P) (.node (PySem.W.boot_o_4 P) (.node (PySem.W.boot_o_8 P) (.node (o16_2 P) (.node (o32_3 P) .nil .nil) (.node (s8) .nil .nil)) (.node (o24_3 P) (.node (m15) .nil .nil) .nil)) (.node (o12_4 P) (.node (o20_2 P) (.node (o36_4 P) .nil .nil) (.node (s12) .nil .nil)) (.node (o28_3 P) (.node (s4) .nil .nil) .nil))) (.node (PySem.W.boot_o_6 P) (.node (PySem.W.boot_o_10 P) (.node (o18_2 P) (.node (o34_4 P) .nil .nil) (.node (s10) .nil .nil)) (.node (o26_3 P) (.node (s2) .nil .nil) .nil)) (.node (o14_0 P) (.node (o22_3 P) (.node (o38_4 P) .nil .nil) (.node (s14) .nil .nil)) (.node (o30_3 P) (.node (s6) .nil .nil) .nil)))))
noncomputable def u16 (P : Params) : BT := (.node (PySem.W.boot_o_0 P) (.node (PySem.W.boot_o_1 P) (.node (o3_4 P) (.node (PySem.W.boot_o_7 P) (.node (o15_2 P) (.node (o31_3 P) .nil .nil) (.node (s7) .nil .nil)) (.node (o23_3 P) (.node (o39_4 P) .nil .nil) (.node (s15) .nil .nil))) (.node (o11_0 P) (.node (o19_2 P) (.node (o35_4 P) .nil .nil) (.node (s11) .nil .nil)) (.node (o27_3 P) (.node (s3) .nil .nil) .nil))) (.node (PySem.W.boot_o_5 P) (.node (PySem.W.boot_o_9 P) (.node (o17_2 P) (.node (o33_4 P) .nil .nil) (.node (s9) .nil .nil)) (.node (o25_3 P) (.node (s1) .nil .nil) .nil)) (.node (o13_0 P) (.node (o21_2 P) (.node (o37_4 P) .nil .nil) (.node (s13) .nil .nil)) (.node (o29_3 P) (.node (s5) .nil .nil) .nil)))) (.node (PySem.W.boot_o_2 P) (.node (PySem.W.boot_o_4 P) (.node (PySem.W.boot_o_8 P) (.node (o16_2 P) (.node (o32_3 P) .nil .nil) (.node (s8) .nil .nil)) (.node (o24_3 P) (.node (m16) .nil .nil) .nil)) (.node (o12_4 P) (.node (o20_2 P) (.node (o36_4 P) .nil .nil) (.node (s12) .nil .nil)) (.node (o28_3 P) (.node (s4) .nil .nil) .nil))) (.node (PySem.W.boot_o_6 P) (.node (PySem.W.boot_o_10 P) (.node (o18_2 P) (.node (o34_4 P) .nil .nil) (.node (s10) .nil .nil)) (.node (o26_3 P) (.node (s2) .nil .nil) .nil)) (.node (o14_0 P) (.node (o22_3 P) (.node (o38_4 P) .nil .nil) (.node (s14) .nil .nil)) (.node (o30_3 P) (.node (s6) .nil .nil) .nil)))))
noncomputable def u17 (P : Params) : BT := (.node (PySem.W.boot_o_0 P) (.node (PySem.W.boot_o_1 P) (.node (o3_4 P) (.node (PySem.W.boot_o_7 P) (.node (o15_2 P) (.node (o31_3 P) .nil .nil) (.node (s7) .nil .nil)) (.node (o23_3 P) (.node (o39_4 P) .nil .nil) (.node (s15) .nil .nil))) (.node (o11_0 P) (.node (o19_2 P) (.node (o35_4 P) .nil .nil) (.node (s11) .nil .nil)) (.node (o27_3 P) (.node (s3) .nil .nil) .nil))) (.node (PySem.W.boot_o_5 P) (.node (PySem.W.boot_o_9 P) (.node (o17_2 P) (.node (o33_4 P) .nil .nil) (.node (s9) .nil .nil)) (.node (o25_3 P) (.node (s1) .nil .nil) .nil)) (.node (o13_0 P) (.node (o21_2 P) (.node (o37_4 P) .nil .nil) (.node (s13) .nil .nil)) (.node (o29_3 P) (.node (s5) .nil .nil) .nil)))) (.node (PySem.W.boot_o_2 P) (.node (PySem.W.boot_o_4 P) (.node (PySem.W.boot_o_8 P) (.node (o16_2 P) (.node (o32_3 P) .nil .nil) (.node (s8) .nil .nil)) (.node (o24_3 P) (.node (m17) .nil .nil) (.node (s16) .nil .nil))) (.node (o12_4 P) (.node (o20_2 P) (.node (o36_4 P) .nil .nil) (.node (s12) .nil .nil)) (.node (o28_3 P) (.node (s4) .nil .nil) .nil))) (.node (PySem.W.boot_o_6 P) (.node (PySem.W.boot_o_10 P) (.node (o18_2 P) (.node (o34_4 P) .nil .nil) (.node (s10) .nil .nil)) (.node (o26_3 P) (.node (s2) .nil .nil) .nil)) (.node (o14_0 P) (.node (o22_3 P) (.node (o38_4 P) .nil .nil) (.node (s14) .nil .nil)) (.node (o30_3 P) (.node (s6) .nil .nil) .nil)))))
noncomputable def u18 (P : Params) : BT := (.node (PySem.W.boot_o_0 P) (.node (PySem.W.boot_o_1 P) (.node (o3_4 P) (.node (PySem.W.boot_o_7 P) (.node (o15_2 P) (.node (o31_3 P) .nil .nil) (.node (s7) .nil .nil)) (.node (o23_3 P) (.node (o39_4 P) .nil .nil) (.node (s15) .nil .nil))) (.node (o11_0 P) (.node (o19_2 P) (.node (o35_4 P) .nil .nil) (.node (s11) .nil .nil)) (.node (o27_3 P) (.node (s3) .nil .nil) .nil))) (.node (PySem.W.boot_o_5 P) (.node (PySem.W.boot_o_9 P) (.node (o17_2 P) (.node (o33_4 P) .nil .nil) (.node (s9) .nil .nil)) (.node (o25_3 P) (.node (s1) .nil .nil) (.node (s17) .nil .nil))) (.node (o13_0 P) (.node (o21_2 P) (.node (o37_4 P) .nil .nil) (.node (s13) .nil .nil)) (.node (o29_3 P) (.node (s5) .nil .nil) .nil)))) (.node (PySem.W.boot_o_2 P) (.node (PySem.W.boot_o_4 P) (.node (PySem.W.boot_o_8 P) (.node (o16_2 P) (.node (o32_3 P) .nil .nil) (.node (s8) .nil .nil)) (.node (o24_3 P) (.node (m18) .nil .nil) (.node (s16) .nil .nil))) (.node (o12_4 P) (.node (o20_2 P) (.node (o36_4 P) .nil .nil) (.node (s12) .nil .nil)) (.node (o28_3 P) (.node (s4) .nil .nil) .nil))) (.node (PySem.W.boot_o_6 P) (.node (PySem.W.boot_o_10 P) (.node (o18_2 P) (.node (o34_4 P) .nil .nil) (.node (s10) .nil .nil)) (.node (o26_3 P) (.node (s2) .nil .nil) .nil)) (.node (o14_0 P) (.node (o22_3 P) (.node (o38_4 P) .nil .nil) (.node (s14) .nil .nil)) (.node (o30_3 P) (.node (s6) .nil .nil) .nil)))))
noncomputable def u19 (P : Params) : BT := (.node (PySem.W.boot_o_0 P) (.node (PySem.W.boot_o_1 P) (.node (o3_4 P) (.node (PySem.W.boot_o_7 P) (.node (o15_2 P) (.node (o31_3 P) .nil .nil) (.node (s7) .nil .nil)) (.node (o23_3 P) (.node (o39_4 P) .nil .nil) (.node (s15) .nil .nil))) (.node (o11_0 P) (.node (o19_2 P) (.node (o35_4 P) .nil .nil) (.node (s11) .nil .nil)) (.node (o27_3 P) (.node (s3) .nil .nil) .nil))) (.node (PySem.W.boot_o_5 P) (.node (PySem.W.boot_o_9 P) (.node (o17_2 P) (.node (o33_4 P) .nil .nil) (.node (s9) .nil .nil)) (.node (o25_3 P) (.node (s1) .nil .nil) (.node (s17) .nil .nil))) (.node (o13_0 P) (.node (o21_2 P) (.node (o37_4 P) .nil .nil) (.node (s13) .nil .nil)) (.node (o29_3 P) (.node (s5) .nil .nil) .nil)))) (.node (PySem.W.boot_o_2 P) (.node (PySem.W.boot_o_4 P) (.node (PySem.W.boot_o_8 P) (.node (o16_2 P) (.node (o32_3 P) .nil .nil) (.node (s8) .nil .nil)) (.node (o24_3 P) (.node (m19) .nil .nil) (.node (s16) .nil .nil))) (.node (o12_4 P) (.node (o20_2 P) (.node (o36_4 P) .nil .nil) (.node (s12) .nil .nil)) (.node (o28_3 P) (.node (s4) .nil .nil) .nil))) (.node (PySem.W.boot_o_6 P) (.node (PySem.W.boot_o_10 P) (.node (o18_2 P) (.node (o34_4 P) .nil .nil) (.node (s10) .nil .nil)) (.node (o26_3 P) (.node (s2) .nil .nil) (.node (s18) .nil .nil))) (.node (o14_0 P) (.node (o22_3 P) (.node (o38_4 P) .nil .nil) (.node (s14) .nil .nil)) (.node (o30_3 P) (.node (s6) .nil .nil) .nil)))))
noncomputable def u20 (P : Params) : BT := (.node (PySem.W.boot_o_0 P) (.node (PySem.W.boot_o_1 P) (.node (o3_4 P) (.node (PySem.W.boot_o_7 P) (.node (o15_2 P) (.node (o31_3 P) .nil .nil) (.node (s7) .nil .nil)) (.node (o23_3 P) (.node (o39_4 P) .nil .nil) (.node (s15) .nil .nil))) (.node (o11_0 P) (.node (o19_2 P) (.node (o35_4 P) .nil .nil) (.node (s11) .nil .nil)) (.node (o27_3 P) (.node (s3) .nil .nil) (.node (s19) .nil .nil)))) (.node (PySem.W.boot_o_5 P) (.node (PySem.W.boot_o_9 P) (.node (o17_2 P) (.node (o33_4 P) .nil .nil) (.node (s9) .nil .nil)) (.node (o25_3 P) (.node (s1) .nil .nil) (.node (s17) .nil .nil))) (.node (o13_0 P) (.node (o21_2 P) (.node (o37_4 P) .nil .nil) (.node (s13) .nil .nil)) (.node (o29_3 P) (.node (s5) .nil .nil) .nil)))) (.node (PySem.W.boot_o_2 P) (.node (PySem.W.boot_o_4 P) (.node (PySem.W.boot_o_8 P) (.node (o16_2 P) (.node (o32_3 P) .nil .nil) (.node (s8) .nil .nil)) (.node (o24_3 P) (.node (m20) .nil .nil) (.node (s16) .nil .nil))) (.node (o12_4 P) (.node (o20_2 P) (.node (o36_4 P) .nil .nil) (.node (s12) .nil .nil)) (.node (o28_3 P) (.node (s4) .nil .nil) .nil))) (.node (PySem.W.boot_o_6 P) (.node (PySem.W.boot_o_10 P) (.node (o18_2 P) (.node (o34_4 P) .nil .nil) (.node (s10) .nil .nil)) (.node (o26_3 P) (.node (s2) .nil .nil) (.node (s18) .nil .nil))) (.node (o14_0 P) (.node (o22_3 P) (.node (o38_4 P) .nil .nil) (.node (s14) .nil .nil)) (.node (o30_3 P) (.node (s6) .nil .nil) .nil)))))
noncomputable def u21 (P : Params) : BT := (.node (PySem.W.boot_o_0 P) (.node (PySem.W.boot_o_1 P) (.node (o3_4 P) (.node (PySem.W.boot_o_7 P) (.node (o15_2 P) (.node (o31_3 P) .nil .nil) (.node (s7) .nil .nil)) (.node (o23_3 P) (.node (o39_4 P) .nil .nil) (.node (s15) .nil .nil))) (.node (o11_0 P) (.node (o19_2 P) (.node (o35_4 P) .nil .nil) (.node (s11) .nil .nil)) (.node (o27_3 P) (.node (s3) .nil .nil) (.node (s19) .nil .nil)))) (.node (PySem.W.boot_o_5 P) (.node (PySem.W.boot_o_9 P) (.node (o17_2 P) (.node (o33_4 P) .nil .nil) (.node (s9) .nil .nil)) (.node (o25_3 P) (.node (s1) .nil .nil) (.node (s17) .nil .nil))) (.node (o13_0 P) (.node (o21_2 P) (.node (o37_4 P) .nil .nil) (.node (s13) .nil .nil)) (.node (o29_3 P) (.node (s5) .nil .nil) .nil)))) (.node (PySem.W.boot_o_2 P) (.node (PySem.W.boot_o_4 P) (.node (PySem.W.boot_o_8 P) (.node (o16_2 P) (.node (o32_3 P) .nil .nil) (.node (s8) .nil .nil)) (.node (o24_3 P) (.node (m21) .nil .nil) (.node (s16) .nil .nil))) (.node (o12_4 P) (.node (o20_2 P) (.node (o36_4 P) .nil .nil) (.node (s12) .nil .nil)) (.node (o28_3 P) (.node (s4) .nil .nil) (.node (s20) .nil .nil)))) (.node (PySem.W.boot_o_6 P) (.node (PySem.W.boot_o_10 P) (.node (o18_2 P) (.node (o34_4 P) .nil .nil) (.node (s10) .nil .nil)) (.node (o26_3 P) (.node (s2) .nil .nil) (.node (s18) .nil .nil))) (.node (o14_0 P) (.node (o22_3 P) (.node (o38_4 P) .nil .nil) (.node (s14) .nil .nil)) (.node (o30_3 P) (.node (s6) .nil .nil) .nil)))))
noncomputable def u22 (P : Params) : BT := (.node (PySem.W.boot_o_0 P) (.node (PySem.W.boot_o_1 P) (.node (o3_4 P) (.node (PySem.W.boot_o_7 P) (.node (o15_2 P) (.node (o31_3 P) .nil .nil) (.node (s7) .nil .nil)) (.node (o23_3 P) (.node (o39_4 P) .nil .nil) (.node (s15) .nil .nil))) (.node (o11_0 P) (.node (o19_2 P) (.node (o35_4 P) .nil .nil) (.node (s11) .nil .nil)) (.node (o27_3 P) (.node (s3) .nil .nil) (.node (s19) .nil .nil)))) (.node (PySem.W.boot_o_5 P) (.node (PySem.W.boot_o_9 P) (.node (o17_2 P) (.node (o33_4 P) .nil .nil) (.node (s9) .nil .nil)) (.node (o25_3 P) (.node (s1) .nil .nil) (.node (s17) .nil .nil))) (.node (o13_0 P) (.node (o21_2 P) (.node (o37_4 P) .nil .nil) (.node (s13) .nil .nil)) (.node (o29_3 P) (.node (s5) .nil .nil) (.node (s21) .nil .nil))))) (.node (PySem.W.boot_o_2 P) (.node (PySem.W.boot_o_4 P) (.node (PySem.W.boot_o_8 P) (.node (o16_2 P) (.node (o32_3 P) .nil .nil) (.node (s8) .nil .nil)) (.node (o24_3 P) (.node (m22) .nil .nil) (.node (s16) .nil .nil))) (.node (o12_4 P) (.node (o20_2 P) (.node (o36_4 P) .nil .nil) (.node (s12) .nil .nil)) (.node (o28_3 P) (.node (s4) .nil .nil) (.node (s20) .nil .nil)))) (.node (PySem.W.boot_o_6 P) (.node (PySem.W.boot_o_10 P) (.node (o18_2 P) (.node (o34_4 P) .nil .nil) (.node (s10) .nil .nil)) (.node (o26_3 P) (.node (s2) .nil .nil) (.node (s18) .nil .nil))) (.node (o14_0 P) (.node (o22_3 P) (.node (o38_4 P) .nil .nil) (.node (s14) .nil .nil)) (.node (o30_3 P) (.node (s6) .nil .nil) .nil)))))
noncomputable def u23 (P : Params) : BT := (.node (PySem.W.boot_o_0 P) (.node (PySem.W.boot_o_1 P) (.node (o3_4 P) (.node (PySem.W.boot_o_7 P) (.node (o15_2 P) (.node (o31_3 P) .nil .nil) (.node (s7) .nil .nil)) (.node (o23_3 P) (.node (o39_4 P) .nil .nil) (.node (s15) .nil .nil))) (.node (o11_0 P) (.node (o19_2 P) (.node (o35_4 P) .nil .nil) (.node (s11) .nil .nil)) (.node (o27_3 P) (.node (s3) .nil .nil) (.node (s19) .nil .nil)))) (.node (PySem.W.boot_o_5 P) (.node (PySem.W.boot_o_9 P) (.node (o17_2 P) (.node (o33_4 P) .nil .nil) (.node (s9) .nil .nil)) (.node (o25_3 P) (.node (s1) .nil .nil) (.node (s17) .nil .nil))) (.node (o13_0 P) (.node (o21_2 P) (.node (o37_4 P) .nil .nil) (.node (s13) .nil .nil)) (.node (o29_3 P) (.node (s5) .nil .nil) (.node (s21) .nil .nil))))) (.node (PySem.W.boot_o_2 P) (.node (PySem.W.boot_o_4 P) (.node (PySem.W.boot_o_8 P) (.node (o16_2 P) (.node (o32_3 P) .nil .nil) (.node (s8) .nil .nil)) (.node (o24_3 P) (.node (m23) .nil .nil) (.node (s16) .nil .nil))) (.node (o12_4 P) (.node (o20_2 P) (.node (o36_4 P) .nil .nil) (.node (s12) .nil .nil)) (.node (o28_3 P) (.node (s4) .nil .nil) (.node (s20) .nil .nil)))) (.node (PySem.W.boot_o_6 P) (.node (PySem.W.boot_o_10 P) (.node (o18_2 P) (.node (o34_4 P) .nil .nil) (.node (s10) .nil .nil)) (.node (o26_3 P) (.node (s2) .nil .nil) (.node (s18) .nil .nil))) (.node (o14_0 P) (.node (o22_3 P) (.node (o38_4 P) .nil .nil) (.node (s14) .nil .nil)) (.node (o30_3 P) (.node (s6) .nil .nil) (.node (s22) .nil .nil))))))
noncomputable def u24 (P : Params) : BT := (.node (PySem.W.boot_o_0 P) (.node (PySem.W.boot_o_1 P) (.node (o3_4 P) (.node (PySem.W.boot_o_7 P) (.node (o15_2 P) (.node (o31_3 P) (.node (s23) .nil .nil) .nil) (.node (s7) .nil .nil)) (.node (o23_3 P) (.node (o39_4 P) .nil .nil) (.node (s15) .nil .nil))) (.node (o11_0 P) (.node (o19_2 P) (.node (o35_4 P) .nil .nil) (.node (s11) .nil .nil)) (.node (o27_3 P) (.node (s3) .nil .nil) (.node (s19) .nil .nil)))) (.node (PySem.W.boot_o_5 P) (.node (PySem.W.boot_o_9 P) (.node (o17_2 P) (.node (o33_4 P) .nil .nil) (.node (s9) .nil .nil)) (.node (o25_3 P) (.node (s1) .nil .nil) (.node (s17) .nil .nil))) (.node (o13_0 P) (.node (o21_2 P) (.node (o37_4 P) .nil .nil) (.node (s13) .nil .nil)) (.node (o29_3 P) (.node (s5) .nil .nil) (.node (s21) .nil .nil))))) (.node (PySem.W.boot_o_2 P) (.node (PySem.W.boot_o_4 P) (.node (PySem.W.boot_o_8 P) (.node (o16_2 P) (.node (o32_3 P) .nil .nil) (.node (s8) .nil .nil)) (.node (o24_3 P) (.node (m24) .nil .nil) (.node (s16) .nil .nil))) (.node (o12_4 P) (.node (o20_2 P) (.node (o36_4 P) .nil .nil) (.node (s12) .nil .nil)) (.node (o28_3 P) (.node (s4) .nil .nil) (.node (s20) .nil .nil)))) (.node (PySem.W.boot_o_6 P) (.node (PySem.W.boot_o_10 P) (.node (o18_2 P) (.node (o34_4 P) .nil .nil) (.node (s10) .nil .nil)) (.node (o26_3 P) (.node (s2) .nil .nil) (.node (s18) .nil .nil))) (.node (o14_0 P) (.node (o22_3 P) (.node (o38_4 P) .nil .nil) (.node (s14) .nil .nil)) (.node (o30_3 P) (.node (s6) .nil .nil) (.node (s22) .nil .nil))))))
noncomputable def u25 (P : Params) : BT := (.node (PySem.W.boot_o_0 P) (.node (PySem.W.boot_o_1 P) (.node (o3_4 P) (.node (PySem.W.boot_o_7 P) (.node (o15_2 P) (.node (o31_3 P) (.node (s23) .nil .nil) .nil) (.node (s7) .nil .nil)) (.node (o23_3 P) (.node (o39_4 P) .nil .nil) (.node (s15) .nil .nil))) (.node (o11_0 P) (.node (o19_2 P) (.node (o35_4 P) .nil .nil) (.node (s11) .nil .nil)) (.node (o27_3 P) (.node (s3) .nil .nil) (.node (s19) .nil .nil)))) (.node (PySem.W.boot_o_5 P) (.node (PySem.W.boot_o_9 P) (.node (o17_2 P) (.node (o33_4 P) .nil .nil) (.node (s9) .nil .nil)) (.node (o25_3 P) (.node (s1) .nil .nil) (.node (s17) .nil .nil))) (.node (o13_0 P) (.node (o21_2 P) (.node (o37_4 P) .nil .nil) (.node (s13) .nil .nil)) (.node (o29_3 P) (.node (s5) .nil .nil) (.node (s21) .nil .nil))))) (.node (PySem.W.boot_o_2 P) (.node (PySem.W.boot_o_4 P) (.node (PySem.W.boot_o_8 P) (.node (o16_2 P) (.node (o32_3 P) (.node (s24) .nil .nil) .nil) (.node (s8) .nil .nil)) (.node (o24_3 P) (.node (m25) .nil .nil) (.node (s16) .nil .nil))) (.node (o12_4 P) (.node (o20_2 P) (.node (o36_4 P) .nil .nil) (.node (s12) .nil .nil)) (.node (o28_3 P) (.node (s4) .nil .nil) (.node (s20) .nil .nil)))) (.node (PySem.W.boot_o_6 P) (.node (PySem.W.boot_o_10 P) (.node (o18_2 P) (.node (o34_4 P) .nil .nil) (.node (s10) .nil .nil)) (.node (o26_3 P) (.node (s2) .nil .nil) (.node (s18) .nil .nil))) (.node (o14_0 P) (.node (o22_3 P) (.node (o38_4 P) .nil .nil) (.node (s14) .nil .nil)) (.node (o30_3 P) (.node (s6) .nil .nil) (.node (s22) .nil .nil))))))
noncomputable def u26 (P : Params) : BT := (.node (PySem.W.boot_o_0 P) (.node (PySem.W.boot_o_1 P) (.node (o3_4 P) (.node (PySem.W.boot_o_7 P) (.node (o15_2 P) (.node (o31_3 P) (.node (s23) .nil .nil) .nil) (.node (s7) .nil .nil)) (.node (o23_3 P) (.node (o39_4 P) .nil .nil) (.node (s15) .nil .nil))) (.node (o11_0 P) (.node (o19_2 P) (.node (o35_4 P) .nil .nil) (.node (s11) .nil .nil)) (.node (o27_3 P) (.node (s3) .nil .nil) (.node (s19) .nil .nil)))) (.node (PySem.W.boot_o_5 P) (.node (PySem.W.boot_o_9 P) (.node (o17_2 P) (.node (o33_4 P) (.node (s25) .nil .nil) .nil) (.node (s9) .nil .nil)) (.node (o25_3 P) (.node (s1) .nil .nil) (.node (s17) .nil .nil))) (.node (o13_0 P) (.node (o21_2 P) (.node (o37_4 P) .nil .nil) (.node (s13) .nil .nil)) (.node (o29_3 P) (.node (s5) .nil .nil) (.node (s21) .nil .nil))))) (.node (PySem.W.boot_o_2 P) (.node (PySem.W.boot_o_4 P) (.node (PySem.W.boot_o_8 P) (.node (o16_2 P) (.node (o32_3 P) (.node (s24) .nil .nil) .nil) (.node (s8) .nil .nil)) (.node (o24_3 P) (.node (m26) .nil .nil) (.node (s16) .nil .nil))) (.node (o12_4 P) (.node (o20_2 P) (.node (o36_4 P) .nil .nil) (.node (s12) .nil .nil)) (.node (o28_3 P) (.node (s4) .nil .nil) (.node (s20) .nil .nil)))) (.node (PySem.W.boot_o_6 P) (.node (PySem.W.boot_o_10 P) (.node (o18_2 P) (.node (o34_4 P) .nil .nil) (.node (s10) .nil .nil)) (.node (o26_3 P) (.node (s2) .nil .nil) (.node (s18) .nil .nil))) (.node (o14_0 P) (.node (o22_3 P) (.node (o38_4 P) .nil .nil) (.node (s14) .nil .nil)) (.node (o30_3 P) (.node (s6) .nil .nil) (.node (s22) .nil .nil))))))
noncomputable def u27 (P : Params) : BT := (.node (PySem.W.boot_o_0 P) (.node (PySem.W.boot_o_1 P) (.node (o3_4 P) (.node (PySem.W.boot_o_7 P) (.node (o15_2 P) (.node (o31_3 P) (.node (s23) .nil .nil) .nil) (.node (s7) .nil .nil)) (.node (o23_3 P) (.node (o39_4 P) .nil .nil) (.node (s15) .nil .nil))) (.node (o11_0 P) (.node (o19_2 P) (.node (o35_4 P) .nil .nil) (.node (s11) .nil .nil)) (.node (o27_3 P) (.node (s3) .nil .nil) (.node (s19) .nil .nil)))) (.node (PySem.W.boot_o_5 P) (.node (PySem.W.boot_o_9 P) (.node (o17_2 P) (.node (o33_4 P) (.node (s25) .nil .nil) .nil) (.node (s9) .nil .nil)) (.node (o25_3 P) (.node (s1) .nil .nil) (.node (s17) .nil .nil))) (.node (o13_0 P) (.node (o21_2 P) (.node (o37_4 P) .nil .nil) (.node (s13) .nil .nil)) (.node (o29_3 P) (.node (s5) .nil .nil) (.node (s21) .nil .nil))))) (.node (PySem.W.boot_o_2 P) (.node (PySem.W.boot_o_4 P) (.node (PySem.W.boot_o_8 P) (.node (o16_2 P) (.node (o32_3 P) (.node (s24) .nil .nil) .nil) (.node (s8) .nil .nil)) (.node (o24_3 P) (.node (m27) .nil .nil) (.node (s16) .nil .nil))) (.node (o12_4 P) (.node (o20_2 P) (.node (o36_4 P) .nil .nil) (.node (s12) .nil .nil)) (.node (o28_3 P) (.node (s4) .nil .nil) (.node (s20) .nil .nil)))) (.node (PySem.W.boot_o_6 P) (.node (PySem.W.boot_o_10 P) (.node (o18_2 P) (.node (o34_4 P) (.node (s26) .nil .nil) .nil) (.node (s10) .nil .nil)) (.node (o26_3 P) (.node (s2) .nil .nil) (.node (s18) .nil .nil))) (.node (o14_0 P) (.node (o22_3 P) (.node (o38_4 P) .nil .nil) (.node (s14) .nil .nil)) (.node (o30_3 P) (.node (s6) .nil .nil) (.node (s22) .nil .nil))))))
noncomputable def u28 (P : Params) : BT := (.node (PySem.W.boot_o_0 P) (.node (PySem.W.boot_o_1 P) (.node (o3_4 P) (.node (PySem.W.boot_o_7 P) (.node (o15_2 P) (.node (o31_3 P) (.node (s23) .nil .nil) .nil) (.node (s7) .nil .nil)) (.node (o23_3 P) (.node (o39_4 P) .nil .nil) (.node (s15) .nil .nil))) (.node (o11_0 P) (.node (o19_2 P) (.node (o35_4 P) (.node (s27) .nil .nil) .nil) (.node (s11) .nil .nil)) (.node (o27_3 P) (.node (s3) .nil .nil) (.node (s19) .nil .nil)))) (.node (PySem.W.boot_o_5 P) (.node (PySem.W.boot_o_9 P) (.node (o17_2 P) (.node (o33_4 P) (.node (s25) .nil .nil) .nil) (.node (s9) .nil .nil)) (.node (o25_3 P) (.node (s1) .nil .nil) (.node (s17) .nil .nil))) (.node (o13_0 P) (.node (o21_2 P) (.node (o37_4 P) .nil .nil) (.node (s13) .nil .nil)) (.node (o29_3 P) (.node (s5) .nil .nil) (.node (s21) .nil .nil))))) (.node (PySem.W.boot_o_2 P) (.node (PySem.W.boot_o_4 P) (.node (PySem.W.boot_o_8 P) (.node (o16_2 P) (.node (o32_3 P) (.node (s24) .nil .nil) .nil) (.node (s8) .nil .nil)) (.node (o24_3 P) (.node (m28) .nil .nil) (.node (s16) .nil .nil))) (.node (o12_4 P) (.node (o20_2 P) (.node (o36_4 P) .nil .nil) (.node (s12) .nil .nil)) (.node (o28_3 P) (.node (s4) .nil .nil) (.node (s20) .nil .nil)))) (.node (PySem.W.boot_o_6 P) (.node (PySem.W.boot_o_10 P) (.node (o18_2 P) (.node (o34_4 P) (.node (s26) .nil .nil) .nil) (.node (s10) .nil .nil)) (.node (o26_3 P) (.node (s2) .nil .nil) (.node (s18) .nil .nil))) (.node (o14_0 P) (.node (o22_3 P) (.node (o38_4 P) .nil .nil) (.node (s14) .nil .nil)) (.node (o30_3 P) (.node (s6) .nil .nil) (.node (s22) .nil .nil))))))
noncomputable def u29 (P : Params) : BT := (.node (PySem.W.boot_o_0 P) (.node (PySem.W.boot_o_1 P) (.node (o3_4 P) (.node (PySem.W.boot_o_7 P) (.node (o15_2 P) (.node (o31_3 P) (.node (s23) .nil .nil) .nil) (.node (s7) .nil .nil)) (.node (o23_3 P) (.node (o39_4 P) .nil .nil) (.node (s15) .nil .nil))) (.node (o11_0 P) (.node (o19_2 P) (.node (o35_4 P) (.node (s27) .nil .nil) .nil) (.node (s11) .nil .nil)) (.node (o27_3 P) (.node (s3) .nil .nil) (.node (s19) .nil .nil)))) (.node (PySem.W.boot_o_5 P) (.node (PySem.W.boot_o_9 P) (.node (o17_2 P) (.node (o33_4 P) (.node (s25) .nil .nil) .nil) (.node (s9) .nil .nil)) (.node (o25_3 P) (.node (s1) .nil .nil) (.node (s17) .nil .nil))) (.node (o13_0 P) (.node (o21_2 P) (.node (o37_4 P) .nil .nil) (.node (s13) .nil .nil)) (.node (o29_3 P) (.node (s5) .nil .nil) (.node (s21) .nil .nil))))) (.node (PySem.W.boot_o_2 P) (.node (PySem.W.boot_o_4 P) (.node (PySem.W.boot_o_8 P) (.node (o16_2 P) (.node (o32_3 P) (.node (s24) .nil .nil) .nil) (.node (s8) .nil .nil)) (.node (o24_3 P) (.node (m29) .nil .nil) (.node (s16) .nil .nil))) (.node (o12_4 P) (.node (o20_2 P) (.node (o36_4 P) (.node (s28) .nil .nil) .nil) (.node (s12) .nil .nil)) (.node (o28_3 P) (.node (s4) .nil .nil) (.node (s20) .nil .nil)))) (.node (PySem.W.boot_o_6 P) (.node (PySem.W.boot_o_10 P) (.node (o18_2 P) (.node (o34_4 P) (.node (s26) .nil .nil) .nil) (.node (s10) .nil .nil)) (.node (o26_3 P) (.node (s2) .nil .nil) (.node (s18) .nil .nil))) (.node (o14_0 P) (.node (o22_3 P) (.node (o38_4 P) .nil .nil) (.node (s14) .nil .nil)) (.node (o30_3 P) (.node (s6) .nil .nil) (.node (s22) .nil .nil))))))
noncomputable def u30 (P : Params) : BT := (.node (PySem.W.boot_o_0 P) (.node (PySem.W.boot_o_1 P) (.node (o3_4 P) (.node (PySem.W.boot_o_7 P) (.node (o15_2 P) (.node (o31_3 P) (.node (s23) .nil .nil) .nil) (.node (s7) .nil .nil)) (.node (o23_3 P) (.node (o39_4 P) .nil .nil) (.node (s15) .nil .nil))) (.node (o11_0 P) (.node (o19_2 P) (.node (o35_4 P) (.node (s27) .nil .nil) .nil) (.node (s11) .nil .nil)) (.node (o27_3 P) (.node (s3) .nil .nil) (.node (s19) .nil .nil)))) (.node (PySem.W.boot_o_5 P) (.node (PySem.W.boot_o_9 P) (.node (o17_2 P) (.node (o33_4 P) (.node (s25) .nil .nil) .nil) (.node (s9) .nil .nil)) (.node (o25_3 P) (.node (s1) .nil .nil) (.node (s17) .nil .nil))) (.node (o13_0 P) (.node (o21_2 P) (.node (o37_4 P) (.node (s29) .nil .nil) .nil) (.node (s13) .nil .nil)) (.node (o29_3 P) (.node (s5) .nil .nil) (.node (s21) .nil .nil))))) (.node (PySem.W.boot_o_2 P) (.node (PySem.W.boot_o_4 P) (.node (PySem.W.boot_o_8 P) (.node (o16_2 P) (.node (o32_3 P) (.node (s24) .nil .nil) .nil) (.node (s8) .nil .nil)) (.node (o24_3 P) (.node (m30) .nil .nil) (.node (s16) .nil .nil))) (.node (o12_4 P) (.node (o20_2 P) (.node (o36_4 P) (.node (s28) .nil .nil) .nil) (.node (s12) .nil .nil)) (.node (o28_3 P) (.node (s4) .nil .nil) (.node (s20) .nil .nil)))) (.node (PySem.W.boot_o_6 P) (.node (PySem.W.boot_o_10 P) (.node (o18_2 P) (.node (o34_4 P) (.node (s26) .nil .nil) .nil) (.node (s10) .nil .nil)) (.node (o26_3 P) (.node (s2) .nil .nil) (.node (s18) .nil .nil))) (.node (o14_0 P) (.node (o22_3 P) (.node (o38_4 P) .nil .nil) (.node (s14) .nil .nil)) (.node (o30_3 P) (.node (s6) .nil .nil) (.node (s22) .nil .nil))))))
noncomputable def u31 (P : Params) : BT := (.node (PySem.W.boot_o_0 P) (.node (PySem.W.boot_o_1 P) (.node (o3_4 P) (.node (PySem.W.boot_o_7 P) (.node (o15_2 P) (.node (o31_3 P) (.node (s23) .nil .nil) .nil) (.node (s7) .nil .nil)) (.node (o23_3 P) (.node (o39_4 P) .nil .nil) (.node (s15) .nil .nil))) (.node (o11_0 P) (.node (o19_2 P) (.node (o35_4 P) (.node (s27) .nil .nil) .nil) (.node (s11) .nil .nil)) (.node (o27_3 P) (.node (s3) .nil .nil) (.node (s19) .nil .nil)))) (.node (PySem.W.boot_o_5 P) (.node (PySem.W.boot_o_9 P) (.node (o17_2 P) (.node (o33_4 P) (.node (s25) .nil .nil) .nil) (.node (s9) .nil .nil)) (.node (o25_3 P) (.node (s1) .nil .nil) (.node (s17) .nil .nil))) (.node (o13_0 P) (.node (o21_2 P) (.node (o37_4 P) (.node (s29) .nil .nil) .nil) (.node (s13) .nil .nil)) (.node (o29_3 P) (.node (s5) .nil .nil) (.node (s21) .nil .nil))))) (.node (PySem.W.boot_o_2 P) (.node (PySem.W.boot_o_4 P) (.node (PySem.W.boot_o_8 P) (.node (o16_2 P) (.node (o32_3 P) (.node (s24) .nil .nil) .nil) (.node (s8) .nil .nil)) (.node (o24_3 P) (.node (m31) .nil .nil) (.node (s16) .nil .nil))) (.node (o12_4 P) (.node (o20_2 P) (.node (o36_4 P) (.node (s28) .nil .nil) .nil) (.node (s12) .nil .nil)) (.node (o28_3 P) (.node (s4) .nil .nil) (.node (s20) .nil .nil)))) (.node (PySem.W.boot_o_6 P) (.node (PySem.W.boot_o_10 P) (.node (o18_2 P) (.node (o34_4 P) (.node (s26) .nil .nil) .nil) (.node (s10) .nil .nil)) (.node (o26_3 P) (.node (s2) .nil .nil) (.node (s18) .nil .nil))) (.node (o14_0 P) (.node (o22_3 P) (.node (o38_4 P) (.node (s30) .nil .nil) .nil) (.node (s14) .nil .nil)) (.node (o30_3 P) (.node (s6) .nil .nil) (.node (s22) .nil .nil))))))
noncomputable def u32 (P : Params) : BT := (.node (PySem.W.boot_o_0 P) (.node (PySem.W.boot_o_1 P) (.node (o3_4 P) (.node (PySem.W.boot_o_7 P) (.node (o15_2 P) (.node (o31_3 P) (.node (s23) .nil .nil) .nil) (.node (s7) .nil .nil)) (.node (o23_3 P) (.node (o39_4 P) (.node (s31) .nil .nil) .nil) (.node (s15) .nil .nil))) (.node (o11_0 P) (.node (o19_2 P) (.node (o35_4 P) (.node (s27) .nil .nil) .nil) (.node (s11) .nil .nil)) (.node (o27_3 P) (.node (s3) .nil .nil) (.node (s19) .nil .nil)))) (.node (PySem.W.boot_o_5 P) (.node (PySem.W.boot_o_9 P) (.node (o17_2 P) (.node (o33_4 P) (.node (s25) .nil .nil) .nil) (.node (s9) .nil .nil)) (.node (o25_3 P) (.node (s1) .nil .nil) (.node (s17) .nil .nil))) (.node (o13_0 P) (.node (o21_2 P) (.node (o37_4 P) (.node (s29) .nil .nil) .nil) (.node (s13) .nil .nil)) (.node (o29_3 P) (.node (s5) .nil .nil) (.node (s21) .nil .nil))))) (.node (PySem.W.boot_o_2 P) (.node (PySem.W.boot_o_4 P) (.node (PySem.W.boot_o_8 P) (.node (o16_2 P) (.node (o32_3 P) (.node (s24) .nil .nil) .nil) (.node (s8) .nil .nil)) (.node (o24_3 P) (.node (m32) .nil .nil) (.node (s16) .nil .nil))) (.node (o12_4 P) (.node (o20_2 P) (.node (o36_4 P) (.node (s28) .nil .nil) .nil) (.node (s12) .nil .nil)) (.node (o28_3 P) (.node (s4) .nil .nil) (.node (s20) .nil .nil)))) (.node (PySem.W.boot_o_6 P) (.node (PySem.W.boot_o_10 P) (.node (o18_2 P) (.node (o34_4 P) (.node (s26) .nil .nil) .nil) (.node (s10) .nil .nil)) (.node (o26_3 P) (.node (s2) .nil .nil) (.node (s18) .nil .nil))) (.node (o14_0 P) (.node (o22_3 P) (.node (o38_4 P) (.node (s30) .nil .nil) .nil) (.node (s14) .nil .nil)) (.node (o30_3 P) (.node (s6) .nil .nil) (.node (s22) .nil .nil))))))
noncomputable def u33 (P : Params) : BT := (.node (PySem.W.boot_o_0 P) (.node (PySem.W.boot_o_1 P) (.node (o3_4 P) (.node (PySem.W.boot_o_7 P) (.node (o15_2 P) (.node (o31_3 P) (.node (s23) .nil .nil) .nil) (.node (s7) .nil .nil)) (.node (o23_3 P) (.node (o39_4 P) (.node (s31) .nil .nil) .nil) (.node (s15) .nil .nil))) (.node (o11_0 P) (.node (o19_2 P) (.node (o35_4 P) (.node (s27) .nil .nil) .nil) (.node (s11) .nil .nil)) (.node (o27_3 P) (.node (s3) .nil .nil) (.node (s19) .nil .nil)))) (.node (PySem.W.boot_o_5 P) (.node (PySem.W.boot_o_9 P) (.node (o17_2 P) (.node (o33_4 P) (.node (s25) .nil .nil) .nil) (.node (s9) .nil .nil)) (.node (o25_3 P) (.node (s1) .nil .nil) (.node (s17) .nil .nil))) (.node (o13_0 P) (.node (o21_2 P) (.node (o37_4 P) (.node (s29) .nil .nil) .nil) (.node (s13) .nil .nil)) (.node (o29_3 P) (.node (s5) .nil .nil) (.node (s21) .nil .nil))))) (.node (PySem.W.boot_o_2 P) (.node (PySem.W.boot_o_4 P) (.node (PySem.W.boot_o_8 P) (.node (o16_2 P) (.node (o32_3 P) (.node (s24) .nil .nil) .nil) (.node (s8) .nil .nil)) (.node (o24_3 P) (.node (m33) (.node (s32) .nil .nil) .nil) (.node (s16) .nil .nil))) (.node (o12_4 P) (.node (o20_2 P) (.node (o36_4 P) (.node (s28) .nil .nil) .nil) (.node (s12) .nil .nil)) (.node (o28_3 P) (.node (s4) .nil .nil) (.node (s20) .nil .nil)))) (.node (PySem.W.boot_o_6 P) (.node (PySem.W.boot_o_10 P) (.node (o18_2 P) (.node (o34_4 P) (.node (s26) .nil .nil) .nil) (.node (s10) .nil .nil)) (.node (o26_3 P) (.node (s2) .nil .nil) (.node (s18) .nil .nil))) (.node (o14_0 P) (.node (o22_3 P) (.node (o38_4 P) (.node (s30) .nil .nil) .nil) (.node (s14) .nil .nil)) (.node (o30_3 P) (.node (s6) .nil .nil) (.node (s22) .nil .nil))))))
noncomputable def u34 (P : Params) : BT := (.node (PySem.W.boot_o_0 P) (.node (PySem.W.boot_o_1 P) (.node (o3_4 P) (.node (PySem.W.boot_o_7 P) (.node (o15_2 P) (.node (o31_3 P) (.node (s23) .nil .nil) .nil) (.node (s7) .nil .nil)) (.node (o23_3 P) (.node (o39_4 P) (.node (s31) .nil .nil) .nil) (.node (s15) .nil .nil))) (.node (o11_0 P) (.node (o19_2 P) (.node (o35_4 P) (.node (s27) .nil .nil) .nil) (.node (s11) .nil .nil)) (.node (o27_3 P) (.node (s3) .nil .nil) (.node (s19) .nil .nil)))) (.node (PySem.W.boot_o_5 P) (.node (PySem.W.boot_o_9 P) (.node (o17_2 P) (.node (o33_4 P) (.node (s25) .nil .nil) .nil) (.node (s9) .nil .nil)) (.node (o25_3 P) (.node (s1) (.node (s33) .nil .nil) .nil) (.node (s17) .nil .nil))) (.node (o13_0 P) (.node (o21_2 P) (.node (o37_4 P) (.node (s29) .nil .nil) .nil) (.node (s13) .nil .nil)) (.node (o29_3 P) (.node (s5) .nil .nil) (.node (s21) .nil .nil))))) (.node (PySem.W.boot_o_2 P) (.node (PySem.W.boot_o_4 P) (.node (PySem.W.boot_o_8 P) (.node (o16_2 P) (.node (o32_3 P) (.node (s24) .nil .nil) .nil) (.node (s8) .nil .nil)) (.node (o24_3 P) (.node (m34) (.node (s32) .nil .nil) .nil) (.node (s16) .nil .nil))) (.node (o12_4 P) (.node (o20_2 P) (.node (o36_4 P) (.node (s28) .nil .nil) .nil) (.node (s12) .nil .nil)) (.node (o28_3 P) (.node (s4) .nil .nil) (.node (s20) .nil .nil)))) (.node (PySem.W.boot_o_6 P) (.node (PySem.W.boot_o_10 P) (.node (o18_2 P) (.node (o34_4 P) (.node (s26) .nil .nil) .nil) (.node (s10) .nil .nil)) (.node (o26_3 P) (.node (s2) .nil .nil) (.node (s18) .nil .nil))) (.node (o14_0 P) (.node (o22_3 P) (.node (o38_4 P) (.node (s30) .nil .nil) .nil) (.node (s14) .nil .nil)) (.node (o30_3 P) (.node (s6) .nil .nil) (.node (s22) .nil .nil))))))
noncomputable def u35 (P : Params) : BT := (.node (PySem.W.boot_o_0 P) (.node (PySem.W.boot_o_1 P) (.node (o3_4 P) (.node (PySem.W.boot_o_7 P) (.node (o15_2 P) (.node (o31_3 P) (.node (s23) .nil .nil) .nil) (.node (s7) .nil .nil)) (.node (o23_3 P) (.node (o39_4 P) (.node (s31) .nil .nil) .nil) (.node (s15) .nil .nil))) (.node (o11_0 P) (.node (o19_2 P) (.node (o35_4 P) (.node (s27) .nil .nil) .nil) (.node (s11) .nil .nil)) (.node (o27_3 P) (.node (s3) .nil .nil) (.node (s19) .nil .nil)))) (.node (PySem.W.boot_o_5 P) (.node (PySem.W.boot_o_9 P) (.node (o17_2 P) (.node (o33_4 P) (.node (s25) .nil .nil) .nil) (.node (s9) .nil .nil)) (.node (o25_3 P) (.node (s1) (.node (s33) .nil .nil) .nil) (.node (s17) .nil .nil))) (.node (o13_0 P) (.node (o21_2 P) (.node (o37_4 P) (.node (s29) .nil .nil) .nil) (.node (s13) .nil .nil)) (.node (o29_3 P) (.node (s5) .nil .nil) (.node (s21) .nil .nil))))) (.node (PySem.W.boot_o_2 P) (.node (PySem.W.boot_o_4 P) (.node (PySem.W.boot_o_8 P) (.node (o16_2 P) (.node (o32_3 P) (.node (s24) .nil .nil) .nil) (.node (s8) .nil .nil)) (.node (o24_3 P) (.node (m35) (.node (s32) .nil .nil) .nil) (.node (s16) .nil .nil))) (.node (o12_4 P) (.node (o20_2 P) (.node (o36_4 P) (.node (s28) .nil .nil) .nil) (.node (s12) .nil .nil)) (.node (o28_3 P) (.node (s4) .nil .nil) (.node (s20) .nil .nil)))) (.node (PySem.W.boot_o_6 P) (.node (PySem.W.boot_o_10 P) (.node (o18_2 P) (.node (o34_4 P) (.node (s26) .nil .nil) .nil) (.node (s10) .nil .nil)) (.node (o26_3 P) (.node (s2) (.node (s34) .nil .nil) .nil) (.node (s18) .nil .nil))) (.node (o14_0 P) (.node (o22_3 P) (.node (o38_4 P) (.node (s30) .nil .nil) .nil) (.node (s14) .nil .nil)) (.node (o30_3 P) (.node (s6) .nil .nil) (.node (s22) .nil .nil))))))
noncomputable def u36 (P : Params) : BT := (.node (PySem.W.boot_o_0 P) (.node (PySem.W.boot_o_1 P) (.node (o3_4 P) (.node (PySem.W.boot_o_7 P) (.node (o15_2 P) (.node (o31_3 P) (.node (s23) .nil .nil) .nil) (.node (s7) .nil .nil)) (.node (o23_3 P) (.node (o39_4 P) (.node (s31) .nil .nil) .nil) (.node (s15) .nil .nil))) (.node (o11_0 P) (.node (o19_2 P) (.node (o35_4 P) (.node (s27) .nil .nil) .nil) (.node (s11) .nil .nil)) (.node (o27_3 P) (.node (s3) (.node (s35) .nil .nil) .nil) (.node (s19) .nil .nil)))) (.node (PySem.W.boot_o_5 P) (.node (PySem.W.boot_o_9 P) (.node (o17_2 P) (.node (o33_4 P) (.node (s25) .nil .nil) .nil) (.node (s9) .nil .nil)) (.node (o25_3 P) (.node (s1) (.node (s33) .nil .nil) .nil) (.node (s17) .nil .nil))) (.node (o13_0 P) (.node (o21_2 P) (.node (o37_4 P) (.node (s29) .nil .nil) .nil) (.node (s13) .nil .nil)) (.node (o29_3 P) (.node (s5) .nil .nil) (.node (s21) .nil .nil))))) (.node (PySem.W.boot_o_2 P) (.node (PySem.W.boot_o_4 P) (.node (PySem.W.boot_o_8 P) (.node (o16_2 P) (.node (o32_3 P) (.node (s24) .nil .nil) .nil) (.node (s8) .nil .nil)) (.node (o24_3 P) (.node (m36) (.node (s32) .nil .nil) .nil) (.node (s16) .nil .nil))) (.node (o12_4 P) (.node (o20_2 P) (.node (o36_4 P) (.node (s28) .nil .nil) .nil) (.node (s12) .nil .nil)) (.node (o28_3 P) (.node (s4) .nil .nil) (.node (s20) .nil .nil)))) (.node (PySem.W.boot_o_6 P) (.node (PySem.W.boot_o_10 P) (.node (o18_2 P) (.node (o34_4 P) (.node (s26) .nil .nil) .nil) (.node (s10) .nil .nil)) (.node (o26_3 P) (.node (s2) (.node (s34) .nil .nil) .nil) (.node (s18) .nil .nil))) (.node (o14_0 P) (.node (o22_3 P) (.node (o38_4 P) (.node (s30) .nil .nil) .nil) (.node (s14) .nil .nil)) (.node (o30_3 P) (.node (s6) .nil .nil) (.node (s22) .nil .nil))))))
noncomputable def u37 (P : Params) : BT := (.node (PySem.W.boot_o_0 P) (.node (PySem.W.boot_o_1 P) (.node (o3_4 P) (.node (PySem.W.boot_o_7 P) (.node (o15_2 P) (.node (o31_3 P) (.node (s23) .nil .nil) .nil) (.node (s7) .nil .nil)) (.node (o23_3 P) (.node (o39_4 P) (.node (s31) .nil .nil) .nil) (.node (s15) .nil .nil))) (.node (o11_0 P) (.node (o19_2 P) (.node (o35_4 P) (.node (s27) .nil .nil) .nil) (.node (s11) .nil .nil)) (.node (o27_3 P) (.node (s3) (.node (s35) .nil .nil) .nil) (.node (s19) .nil .nil)))) (.node (PySem.W.boot_o_5 P) (.node (PySem.W.boot_o_9 P) (.node (o17_2 P) (.node (o33_4 P) (.node (s25) .nil .nil) .nil) (.node (s9) .nil .nil)) (.node (o25_3 P) (.node (s1) (.node (s33) .nil .nil) .nil) (.node (s17) .nil .nil))) (.node (o13_0 P) (.node (o21_2 P) (.node (o37_4 P) (.node (s29) .nil .nil) .nil) (.node (s13) .nil .nil)) (.node (o29_3 P) (.node (s5) .nil .nil) (.node (s21) .nil .nil))))) (.node (PySem.W.boot_o_2 P) (.node (PySem.W.boot_o_4 P) (.node (PySem.W.boot_o_8 P) (.node (o16_2 P) (.node (o32_3 P) (.node (s24) .nil .nil) .nil) (.node (s8) .nil .nil)) (.node (o24_3 P) (.node (m37) (.node (s32) .nil .nil) .nil) (.node (s16) .nil .nil))) (.node (o12_4 P) (.node (o20_2 P) (.node (o36_4 P) (.node (s28) .nil .nil) .nil) (.node (s12) .nil .nil)) (.node (o28_3 P) (.node (s4) (.node (s36) .nil .nil) .nil) (.node (s20) .nil .nil)))) (.node (PySem.W.boot_o_6 P) (.node (PySem.W.boot_o_10 P) (.node (o18_2 P) (.node (o34_4 P) (.node (s26) .nil .nil) .nil) (.node (s10) .nil .nil)) (.node (o26_3 P) (.node (s2) (.node (s34) .nil .nil) .nil) (.node (s18) .nil .nil))) (.node (o14_0 P) (.node (o22_3 P) (.node (o38_4 P) (.node (s30) .nil .nil) .nil) (.node (s14) .nil .nil)) (.node (o30_3 P) (.node (s6) .nil .nil) (.node (s22) .nil .nil))))))
noncomputable def u38 (P : Params) : BT := (.node (PySem.W.boot_o_0 P) (.node (PySem.W.boot_o_1 P) (.node (o3_4 P) (.node (PySem.W.boot_o_7 P) (.node (o15_2 P) (.node (o31_3 P) (.node (s23) .nil .nil) .nil) (.node (s7) .nil .nil)) (.node (o23_3 P) (.node (o39_4 P) (.node (s31) .nil .nil) .nil) (.node (s15) .nil .nil))) (.node (o11_0 P) (.node (o19_2 P) (.node (o35_4 P) (.node (s27) .nil .nil) .nil) (.node (s11) .nil .nil)) (.node (o27_3 P) (.node (s3) (.node (s35) .nil .nil) .nil) (.node (s19) .nil .nil)))) (.node (PySem.W.boot_o_5 P) (.node (PySem.W.boot_o_9 P) (.node (o17_2 P) (.node (o33_4 P) (.node (s25) .nil .nil) .nil) (.node (s9) .nil .nil)) (.node (o25_3 P) (.node (s1) (.node (s33) .nil .nil) .nil) (.node (s17) .nil .nil))) (.node (o13_0 P) (.node (o21_2 P) (.node (o37_4 P) (.node (s29) .nil .nil) .nil) (.node (s13) .nil .nil)) (.node (o29_3 P) (.node (s5) (.node (s37) .nil .nil) .nil) (.node (s21) .nil .nil))))) (.node (PySem.W.boot_o_2 P) (.node (PySem.W.boot_o_4 P) (.node (PySem.W.boot_o_8 P) (.node (o16_2 P) (.node (o32_3 P) (.node (s24) .nil .nil) .nil) (.node (s8) .nil .nil)) (.node (o24_3 P) (.node (m38) (.node (s32) .nil .nil) .nil) (.node (s16) .nil .nil))) (.node (o12_4 P) (.node (o20_2 P) (.node (o36_4 P) (.node (s28) .nil .nil) .nil) (.node (s12) .nil .nil)) (.node (o28_3 P) (.node (s4) (.node (s36) .nil .nil) .nil) (.node (s20) .nil .nil)))) (.node (PySem.W.boot_o_6 P) (.node (PySem.W.boot_o_10 P) (.node (o18_2 P) (.node (o34_4 P) (.node (s26) .nil .nil) .nil) (.node (s10) .nil .nil)) (.node (o26_3 P) (.node (s2) (.node (s34) .nil .nil) .nil) (.node (s18) .nil .nil))) (.node (o14_0 P) (.node (o22_3 P) (.node (o38_4 P) (.node (s30) .nil .nil) .nil) (.node (s14) .nil .nil)) (.node (o30_3 P) (.node (s6) .nil .nil) (.node (s22) .nil .nil))))))
noncomputable def u39 (P : Params) : BT := (.node (PySem.W.boot_o_0 P) (.node (PySem.W.boot_o_1 P) (.node (o3_4 P) (.node (PySem.W.boot_o_7 P) (.node (o15_2 P) (.node (o31_3 P) (.node (s23) .nil .nil) .nil) (.node (s7) .nil .nil)) (.node (o23_3 P) (.node (o39_4 P) (.node (s31) .nil .nil) .nil) (.node (s15) .nil .nil))) (.node (o11_0 P) (.node (o19_2 P) (.node (o35_4 P) (.node (s27) .nil .nil) .nil) (.node (s11) .nil .nil)) (.node (o27_3 P) (.node (s3) (.node (s35) .nil .nil) .nil) (.node (s19) .nil .nil)))) (.node (PySem.W.boot_o_5 P) (.node (PySem.W.boot_o_9 P) (.node (o17_2 P) (.node (o33_4 P) (.node (s25) .nil .nil) .nil) (.node (s9) .nil .nil)) (.node (o25_3 P) (.node (s1) (.node (s33) .nil .nil) .nil) (.node (s17) .nil .nil))) (.node (o13_0 P) (.node (o21_2 P) (.node (o37_4 P) (.node (s29) .nil .nil) .nil) (.node (s13) .nil .nil)) (.node (o29_3 P) (.node (s5) (.node (s37) .nil .nil) .nil) (.node (s21) .nil .nil))))) (.node (PySem.W.boot_o_2 P) (.node (PySem.W.boot_o_4 P) (.node (PySem.W.boot_o_8 P) (.node (o16_2 P) (.node (o32_3 P) (.node (s24) .nil .nil) .nil) (.node (s8) .nil .nil)) (.node (o24_3 P) (.node (m39) (.node (s32) .nil .nil) .nil) (.node (s16) .nil .nil))) (.node (o12_4 P) (.node (o20_2 P) (.node (o36_4 P) (.node (s28) .nil .nil) .nil) (.node (s12) .nil .nil)) (.node (o28_3 P) (.node (s4) (.node (s36) .nil .nil) .nil) (.node (s20) .nil .nil)))) (.node (PySem.W.boot_o_6 P) (.node (PySem.W.boot_o_10 P) (.node (o18_2 P) (.node (o34_4 P) (.node (s26) .nil .nil) .nil) (.node (s10) .nil .nil)) (.node (o26_3 P) (.node (s2) (.node (s34) .nil .nil) .nil) (.node (s18) .nil .nil))) (.node (o14_0 P) (.node (o22_3 P) (.node (o38_4 P) (.node (s30) .nil .nil) .nil) (.node (s14) .nil .nil)) (.node (o30_3 P) (.node (s6) (.node (s38) .nil .nil) .nil) (.node (s22) .nil .nil))))))
noncomputable def dKeys : Stmt → List (Option Expr)
  | .Assign _ (.Dict ks _ _) _ => ks
  | _ => []
noncomputable def dVals : Stmt → List Expr
  | .Assign _ (.Dict _ vs _) _ => vs
  | _ => []
noncomputable def dPos : Stmt → Pos
  | .Assign _ (.Dict _ _ p) _ => p
  | _ => default
noncomputable def items5 : List PairV := (evalEachOpt (dKeys (stAt 5)) envT).zip ((evalEach (dVals (stAt 5)) envT).map fun v => do let x ← v; standAt (dPos (stAt 5)); pure x)
noncomputable def itemsAt (i : Nat) : List PairV := (items5.drop (17 * i)).take 17
end Mine
end
section
set_option maxRecDepth 100000
set_option Elab.async false
set_option linter.unusedVariables false
namespace Mine
open PySem PySem.W PySem.Calls PyProof.Rows
noncomputable def aPos : Stmt → Pos
  | .Assign _ _ p => p
  | _ => default
noncomputable def n5 : Pos := ⟨14, 0, 14, 13⟩
theorem st5_eq : stAt 5 = .Assign [.Name "b3_exceptions" n5] (.Dict (dKeys (stAt 5)) (dVals (stAt 5)) (dPos (stAt 5))) (aPos (stAt 5)) := by kernel_rfl
theorem exec5 : exec (stAt 5) envT =
    (standAt (aPos (stAt 5))).bind fun _ => ((standAt (dPos (stAt 5))).bind fun _ => dictDisplay items5).bind fun v => (do standAt n5; bindName envT "b3_exceptions" v; pure .next) := by
  refine (congrArg (fun s => exec s envT) st5_eq).trans ?_
  refine (exec_Assign_Name envT _ _ _ _ rfl).trans ?_
  rw [arm_eval_Dict]
  rfl
abbrev Wg (w : World) (b : Bool) : World := w.withFollow "special-get-raises" b
theorem k0_0 (w : World) : evFor (fun m => evT (Wg w false).params 50 m) ddSh.b (itemsAt 0) (none, []) ⟨tS4 (Wg w false).params, 40, 268, 2⟩ = some (.ok (some 40, []), ⟨u1 (Wg w false).params, 41, 319, 225⟩) := by
  kernel_rfl
theorem k1_0 (w : World) : evFor (fun m => evT (Wg w false).params 50 m) ddSh.b (itemsAt 1) (some 40, []) ⟨u1 (Wg w false).params, 41, 319, 225⟩ = some (.ok (some 40, []), ⟨u2 (Wg w false).params, 42, 370, 555⟩) := by
  kernel_rfl
theorem k2_0 (w : World) : evFor (fun m => evT (Wg w false).params 50 m) ddSh.b (itemsAt 2) (some 40, []) ⟨u2 (Wg w false).params, 42, 370, 555⟩ = some (.ok (some 40, []), ⟨u3 (Wg w false).params, 43, 421, 885⟩) := by
  kernel_rfl
theorem k3_0 (w : World) : evFor (fun m => evT (Wg w false).params 50 m) ddSh.b (itemsAt 3) (some 40, []) ⟨u3 (Wg w false).params, 43, 421, 885⟩ = some (.ok (some 40, []), ⟨u4 (Wg w false).params, 44, 472, 1215⟩) := by
  kernel_rfl
theorem k4_0 (w : World) : evFor (fun m => evT (Wg w false).params 50 m) ddSh.b (itemsAt 4) (some 40, []) ⟨u4 (Wg w false).params, 44, 472, 1215⟩ = some (.ok (some 40, []), ⟨u5 (Wg w false).params, 45, 523, 1545⟩) := by
  kernel_rfl
theorem k5_0 (w : World) : evFor (fun m => evT (Wg w false).params 50 m) ddSh.b (itemsAt 5) (some 40, []) ⟨u5 (Wg w false).params, 45, 523, 1545⟩ = some (.ok (some 40, []), ⟨u6 (Wg w false).params, 46, 574, 1875⟩) := by
  kernel_rfl
theorem k6_0 (w : World) : evFor (fun m => evT (Wg w false).params 50 m) ddSh.b (itemsAt 6) (some 40, []) ⟨u6 (Wg w false).params, 46, 574, 1875⟩ = some (.ok (some 40, []), ⟨u7 (Wg w false).params, 47, 625, 2205⟩) := by
  kernel_rfl
theorem k7_0 (w : World) : evFor (fun m => evT (Wg w false).params 50 m) ddSh.b (itemsAt 7) (some 40, []) ⟨u7 (Wg w false).params, 47, 625, 2205⟩ = some (.ok (some 40, []), ⟨u8 (Wg w false).params, 48, 676, 2535⟩) := by
  kernel_rfl
theorem k8_0 (w : World) : evFor (fun m => evT (Wg w false).params 50 m) ddSh.b (itemsAt 8) (some 40, []) ⟨u8 (Wg w false).params, 48, 676, 2535⟩ = some (.ok (some 40, []), ⟨u9 (Wg w false).params, 49, 727, 2865⟩) := by
  kernel_rfl
theorem k9_0 (w : World) : evFor (fun m => evT (Wg w false).params 50 m) ddSh.b (itemsAt 9) (some 40, []) ⟨u9 (Wg w false).params, 49, 727, 2865⟩ = some (.ok (some 40, []), ⟨u10 (Wg w false).params, 50, 778, 3195⟩) := by
  kernel_rfl
theorem k10_0 (w : World) : evFor (fun m => evT (Wg w false).params 50 m) ddSh.b (itemsAt 10) (some 40, []) ⟨u10 (Wg w false).params, 50, 778, 3195⟩ = some (.ok (some 40, []), ⟨u11 (Wg w false).params, 51, 829, 3525⟩) := by
  kernel_rfl
theorem k11_0 (w : World) : evFor (fun m => evT (Wg w false).params 50 m) ddSh.b (itemsAt 11) (some 40, []) ⟨u11 (Wg w false).params, 51, 829, 3525⟩ = some (.ok (some 40, []), ⟨u12 (Wg w false).params, 52, 880, 3855⟩) := by
  kernel_rfl
theorem k12_0 (w : World) : evFor (fun m => evT (Wg w false).params 50 m) ddSh.b (itemsAt 12) (some 40, []) ⟨u12 (Wg w false).params, 52, 880, 3855⟩ = some (.ok (some 40, []), ⟨u13 (Wg w false).params, 53, 931, 4185⟩) := by
  kernel_rfl
theorem k13_0 (w : World) : evFor (fun m => evT (Wg w false).params 50 m) ddSh.b (itemsAt 13) (some 40, []) ⟨u13 (Wg w false).params, 53, 931, 4185⟩ = some (.ok (some 40, []), ⟨u14 (Wg w false).params, 54, 982, 4515⟩) := by
  kernel_rfl
theorem k14_0 (w : World) : evFor (fun m => evT (Wg w false).params 50 m) ddSh.b (itemsAt 14) (some 40, []) ⟨u14 (Wg w false).params, 54, 982, 4515⟩ = some (.ok (some 40, []), ⟨u15 (Wg w false).params, 55, 1033, 4845⟩) := by
  kernel_rfl
theorem k15_0 (w : World) : evFor (fun m => evT (Wg w false).params 50 m) ddSh.b (itemsAt 15) (some 40, []) ⟨u15 (Wg w false).params, 55, 1033, 4845⟩ = some (.ok (some 40, []), ⟨u16 (Wg w false).params, 56, 1084, 5175⟩) := by
  kernel_rfl
theorem k16_0 (w : World) : evFor (fun m => evT (Wg w false).params 50 m) ddSh.b (itemsAt 16) (some 40, []) ⟨u16 (Wg w false).params, 56, 1084, 5175⟩ = some (.ok (some 40, []), ⟨u17 (Wg w false).params, 57, 1135, 5505⟩) := by
  kernel_rfl
theorem k17_0 (w : World) : evFor (fun m => evT (Wg w false).params 50 m) ddSh.b (itemsAt 17) (some 40, []) ⟨u17 (Wg w false).params, 57, 1135, 5505⟩ = some (.ok (some 40, []), ⟨u18 (Wg w false).params, 58, 1186, 5835⟩) := by
  kernel_rfl
theorem k18_0 (w : World) : evFor (fun m => evT (Wg w false).params 50 m) ddSh.b (itemsAt 18) (some 40, []) ⟨u18 (Wg w false).params, 58, 1186, 5835⟩ = some (.ok (some 40, []), ⟨u19 (Wg w false).params, 59, 1237, 6165⟩) := by
  kernel_rfl
theorem k19_0 (w : World) : evFor (fun m => evT (Wg w false).params 50 m) ddSh.b (itemsAt 19) (some 40, []) ⟨u19 (Wg w false).params, 59, 1237, 6165⟩ = some (.ok (some 40, []), ⟨u20 (Wg w false).params, 60, 1288, 6495⟩) := by
  kernel_rfl
theorem k20_0 (w : World) : evFor (fun m => evT (Wg w false).params 50 m) ddSh.b (itemsAt 20) (some 40, []) ⟨u20 (Wg w false).params, 60, 1288, 6495⟩ = some (.ok (some 40, []), ⟨u21 (Wg w false).params, 61, 1339, 6825⟩) := by
  kernel_rfl
theorem k21_0 (w : World) : evFor (fun m => evT (Wg w false).params 50 m) ddSh.b (itemsAt 21) (some 40, []) ⟨u21 (Wg w false).params, 61, 1339, 6825⟩ = some (.ok (some 40, []), ⟨u22 (Wg w false).params, 62, 1390, 7155⟩) := by
  kernel_rfl
theorem k22_0 (w : World) : evFor (fun m => evT (Wg w false).params 50 m) ddSh.b (itemsAt 22) (some 40, []) ⟨u22 (Wg w false).params, 62, 1390, 7155⟩ = some (.ok (some 40, []), ⟨u23 (Wg w false).params, 63, 1441, 7485⟩) := by
  kernel_rfl
theorem k23_0 (w : World) : evFor (fun m => evT (Wg w false).params 50 m) ddSh.b (itemsAt 23) (some 40, []) ⟨u23 (Wg w false).params, 63, 1441, 7485⟩ = some (.ok (some 40, []), ⟨u24 (Wg w false).params, 64, 1492, 7815⟩) := by
  kernel_rfl
theorem k24_0 (w : World) : evFor (fun m => evT (Wg w false).params 50 m) ddSh.b (itemsAt 24) (some 40, []) ⟨u24 (Wg w false).params, 64, 1492, 7815⟩ = some (.ok (some 40, []), ⟨u25 (Wg w false).params, 65, 1543, 8145⟩) := by
  kernel_rfl
theorem k25_0 (w : World) : evFor (fun m => evT (Wg w false).params 50 m) ddSh.b (itemsAt 25) (some 40, []) ⟨u25 (Wg w false).params, 65, 1543, 8145⟩ = some (.ok (some 40, []), ⟨u26 (Wg w false).params, 66, 1594, 8475⟩) := by
  kernel_rfl
theorem k26_0 (w : World) : evFor (fun m => evT (Wg w false).params 50 m) ddSh.b (itemsAt 26) (some 40, []) ⟨u26 (Wg w false).params, 66, 1594, 8475⟩ = some (.ok (some 40, []), ⟨u27 (Wg w false).params, 67, 1645, 8805⟩) := by
  kernel_rfl
theorem k27_0 (w : World) : evFor (fun m => evT (Wg w false).params 50 m) ddSh.b (itemsAt 27) (some 40, []) ⟨u27 (Wg w false).params, 67, 1645, 8805⟩ = some (.ok (some 40, []), ⟨u28 (Wg w false).params, 68, 1696, 9135⟩) := by
  kernel_rfl
theorem k28_0 (w : World) : evFor (fun m => evT (Wg w false).params 50 m) ddSh.b (itemsAt 28) (some 40, []) ⟨u28 (Wg w false).params, 68, 1696, 9135⟩ = some (.ok (some 40, []), ⟨u29 (Wg w false).params, 69, 1747, 9465⟩) := by
  kernel_rfl
theorem k29_0 (w : World) : evFor (fun m => evT (Wg w false).params 50 m) ddSh.b (itemsAt 29) (some 40, []) ⟨u29 (Wg w false).params, 69, 1747, 9465⟩ = some (.ok (some 40, []), ⟨u30 (Wg w false).params, 70, 1798, 9795⟩) := by
  kernel_rfl
theorem k30_0 (w : World) : evFor (fun m => evT (Wg w false).params 50 m) ddSh.b (itemsAt 30) (some 40, []) ⟨u30 (Wg w false).params, 70, 1798, 9795⟩ = some (.ok (some 40, []), ⟨u31 (Wg w false).params, 71, 1849, 10125⟩) := by
  kernel_rfl
theorem k31_0 (w : World) : evFor (fun m => evT (Wg w false).params 50 m) ddSh.b (itemsAt 31) (some 40, []) ⟨u31 (Wg w false).params, 71, 1849, 10125⟩ = some (.ok (some 40, []), ⟨u32 (Wg w false).params, 72, 1900, 10455⟩) := by
  kernel_rfl
theorem k32_0 (w : World) : evFor (fun m => evT (Wg w false).params 50 m) ddSh.b (itemsAt 32) (some 40, []) ⟨u32 (Wg w false).params, 72, 1900, 10455⟩ = some (.ok (some 40, []), ⟨u33 (Wg w false).params, 73, 1951, 10785⟩) := by
  kernel_rfl
theorem k33_0 (w : World) : evFor (fun m => evT (Wg w false).params 50 m) ddSh.b (itemsAt 33) (some 40, []) ⟨u33 (Wg w false).params, 73, 1951, 10785⟩ = some (.ok (some 40, []), ⟨u34 (Wg w false).params, 74, 2002, 11115⟩) := by
  kernel_rfl
theorem k34_0 (w : World) : evFor (fun m => evT (Wg w false).params 50 m) ddSh.b (itemsAt 34) (some 40, []) ⟨u34 (Wg w false).params, 74, 2002, 11115⟩ = some (.ok (some 40, []), ⟨u35 (Wg w false).params, 75, 2053, 11445⟩) := by
  kernel_rfl
theorem k35_0 (w : World) : evFor (fun m => evT (Wg w false).params 50 m) ddSh.b (itemsAt 35) (some 40, []) ⟨u35 (Wg w false).params, 75, 2053, 11445⟩ = some (.ok (some 40, []), ⟨u36 (Wg w false).params, 76, 2104, 11775⟩) := by
  kernel_rfl
theorem k36_0 (w : World) : evFor (fun m => evT (Wg w false).params 50 m) ddSh.b (itemsAt 36) (some 40, []) ⟨u36 (Wg w false).params, 76, 2104, 11775⟩ = some (.ok (some 40, []), ⟨u37 (Wg w false).params, 77, 2155, 12105⟩) := by
  kernel_rfl
theorem k37_0 (w : World) : evFor (fun m => evT (Wg w false).params 50 m) ddSh.b (itemsAt 37) (some 40, []) ⟨u37 (Wg w false).params, 77, 2155, 12105⟩ = some (.ok (some 40, []), ⟨u38 (Wg w false).params, 78, 2206, 12435⟩) := by
  kernel_rfl
theorem k0_1 (w : World) : evFor (fun m => evT (Wg w true).params 50 m) ddSh.b (itemsAt 0) (none, []) ⟨tS4 (Wg w true).params, 40, 268, 2⟩ = some (.ok (some 40, []), ⟨u1 (Wg w true).params, 41, 319, 225⟩) := by
  kernel_rfl
theorem k1_1 (w : World) : evFor (fun m => evT (Wg w true).params 50 m) ddSh.b (itemsAt 1) (some 40, []) ⟨u1 (Wg w true).params, 41, 319, 225⟩ = some (.ok (some 40, []), ⟨u2 (Wg w true).params, 42, 370, 555⟩) := by
  kernel_rfl
theorem k2_1 (w : World) : evFor (fun m => evT (Wg w true).params 50 m) ddSh.b (itemsAt 2) (some 40, []) ⟨u2 (Wg w true).params, 42, 370, 555⟩ = some (.ok (some 40, []), ⟨u3 (Wg w true).params, 43, 421, 885⟩) := by
  kernel_rfl
theorem k3_1 (w : World) : evFor (fun m => evT (Wg w true).params 50 m) ddSh.b (itemsAt 3) (some 40, []) ⟨u3 (Wg w true).params, 43, 421, 885⟩ = some (.ok (some 40, []), ⟨u4 (Wg w true).params, 44, 472, 1215⟩) := by
  kernel_rfl
theorem k4_1 (w : World) : evFor (fun m => evT (Wg w true).params 50 m) ddSh.b (itemsAt 4) (some 40, []) ⟨u4 (Wg w true).params, 44, 472, 1215⟩ = some (.ok (some 40, []), ⟨u5 (Wg w true).params, 45, 523, 1545⟩) := by
  kernel_rfl
theorem k5_1 (w : World) : evFor (fun m => evT (Wg w true).params 50 m) ddSh.b (itemsAt 5) (some 40, []) ⟨u5 (Wg w true).params, 45, 523, 1545⟩ = some (.ok (some 40, []), ⟨u6 (Wg w true).params, 46, 574, 1875⟩) := by
  kernel_rfl
theorem k6_1 (w : World) : evFor (fun m => evT (Wg w true).params 50 m) ddSh.b (itemsAt 6) (some 40, []) ⟨u6 (Wg w true).params, 46, 574, 1875⟩ = some (.ok (some 40, []), ⟨u7 (Wg w true).params, 47, 625, 2205⟩) := by
  kernel_rfl
theorem k7_1 (w : World) : evFor (fun m => evT (Wg w true).params 50 m) ddSh.b (itemsAt 7) (some 40, []) ⟨u7 (Wg w true).params, 47, 625, 2205⟩ = some (.ok (some 40, []), ⟨u8 (Wg w true).params, 48, 676, 2535⟩) := by
  kernel_rfl
theorem k8_1 (w : World) : evFor (fun m => evT (Wg w true).params 50 m) ddSh.b (itemsAt 8) (some 40, []) ⟨u8 (Wg w true).params, 48, 676, 2535⟩ = some (.ok (some 40, []), ⟨u9 (Wg w true).params, 49, 727, 2865⟩) := by
  kernel_rfl
theorem k9_1 (w : World) : evFor (fun m => evT (Wg w true).params 50 m) ddSh.b (itemsAt 9) (some 40, []) ⟨u9 (Wg w true).params, 49, 727, 2865⟩ = some (.ok (some 40, []), ⟨u10 (Wg w true).params, 50, 778, 3195⟩) := by
  kernel_rfl
theorem k10_1 (w : World) : evFor (fun m => evT (Wg w true).params 50 m) ddSh.b (itemsAt 10) (some 40, []) ⟨u10 (Wg w true).params, 50, 778, 3195⟩ = some (.ok (some 40, []), ⟨u11 (Wg w true).params, 51, 829, 3525⟩) := by
  kernel_rfl
theorem k11_1 (w : World) : evFor (fun m => evT (Wg w true).params 50 m) ddSh.b (itemsAt 11) (some 40, []) ⟨u11 (Wg w true).params, 51, 829, 3525⟩ = some (.ok (some 40, []), ⟨u12 (Wg w true).params, 52, 880, 3855⟩) := by
  kernel_rfl
theorem k12_1 (w : World) : evFor (fun m => evT (Wg w true).params 50 m) ddSh.b (itemsAt 12) (some 40, []) ⟨u12 (Wg w true).params, 52, 880, 3855⟩ = some (.ok (some 40, []), ⟨u13 (Wg w true).params, 53, 931, 4185⟩) := by
  kernel_rfl
theorem k13_1 (w : World) : evFor (fun m => evT (Wg w true).params 50 m) ddSh.b (itemsAt 13) (some 40, []) ⟨u13 (Wg w true).params, 53, 931, 4185⟩ = some (.ok (some 40, []), ⟨u14 (Wg w true).params, 54, 982, 4515⟩) := by
  kernel_rfl
theorem k14_1 (w : World) : evFor (fun m => evT (Wg w true).params 50 m) ddSh.b (itemsAt 14) (some 40, []) ⟨u14 (Wg w true).params, 54, 982, 4515⟩ = some (.ok (some 40, []), ⟨u15 (Wg w true).params, 55, 1033, 4845⟩) := by
  kernel_rfl
theorem k15_1 (w : World) : evFor (fun m => evT (Wg w true).params 50 m) ddSh.b (itemsAt 15) (some 40, []) ⟨u15 (Wg w true).params, 55, 1033, 4845⟩ = some (.ok (some 40, []), ⟨u16 (Wg w true).params, 56, 1084, 5175⟩) := by
  kernel_rfl
theorem k16_1 (w : World) : evFor (fun m => evT (Wg w true).params 50 m) ddSh.b (itemsAt 16) (some 40, []) ⟨u16 (Wg w true).params, 56, 1084, 5175⟩ = some (.ok (some 40, []), ⟨u17 (Wg w true).params, 57, 1135, 5505⟩) := by
  kernel_rfl
theorem k17_1 (w : World) : evFor (fun m => evT (Wg w true).params 50 m) ddSh.b (itemsAt 17) (some 40, []) ⟨u17 (Wg w true).params, 57, 1135, 5505⟩ = some (.ok (some 40, []), ⟨u18 (Wg w true).params, 58, 1186, 5835⟩) := by
  kernel_rfl
theorem k18_1 (w : World) : evFor (fun m => evT (Wg w true).params 50 m) ddSh.b (itemsAt 18) (some 40, []) ⟨u18 (Wg w true).params, 58, 1186, 5835⟩ = some (.ok (some 40, []), ⟨u19 (Wg w true).params, 59, 1237, 6165⟩) := by
  kernel_rfl
theorem k19_1 (w : World) : evFor (fun m => evT (Wg w true).params 50 m) ddSh.b (itemsAt 19) (some 40, []) ⟨u19 (Wg w true).params, 59, 1237, 6165⟩ = some (.ok (some 40, []), ⟨u20 (Wg w true).params, 60, 1288, 6495⟩) := by
  kernel_rfl
theorem k20_1 (w : World) : evFor (fun m => evT (Wg w true).params 50 m) ddSh.b (itemsAt 20) (some 40, []) ⟨u20 (Wg w true).params, 60, 1288, 6495⟩ = some (.ok (some 40, []), ⟨u21 (Wg w true).params, 61, 1339, 6825⟩) := by
  kernel_rfl
theorem k21_1 (w : World) : evFor (fun m => evT (Wg w true).params 50 m) ddSh.b (itemsAt 21) (some 40, []) ⟨u21 (Wg w true).params, 61, 1339, 6825⟩ = some (.ok (some 40, []), ⟨u22 (Wg w true).params, 62, 1390, 7155⟩) := by
  kernel_rfl
theorem k22_1 (w : World) : evFor (fun m => evT (Wg w true).params 50 m) ddSh.b (itemsAt 22) (some 40, []) ⟨u22 (Wg w true).params, 62, 1390, 7155⟩ = some (.ok (some 40, []), ⟨u23 (Wg w true).params, 63, 1441, 7485⟩) := by
  kernel_rfl
theorem k23_1 (w : World) : evFor (fun m => evT (Wg w true).params 50 m) ddSh.b (itemsAt 23) (some 40, []) ⟨u23 (Wg w true).params, 63, 1441, 7485⟩ = some (.ok (some 40, []), ⟨u24 (Wg w true).params, 64, 1492, 7815⟩) := by
  kernel_rfl
theorem k24_1 (w : World) : evFor (fun m => evT (Wg w true).params 50 m) ddSh.b (itemsAt 24) (some 40, []) ⟨u24 (Wg w true).params, 64, 1492, 7815⟩ = some (.ok (some 40, []), ⟨u25 (Wg w true).params, 65, 1543, 8145⟩) := by
  kernel_rfl
theorem k25_1 (w : World) : evFor (fun m => evT (Wg w true).params 50 m) ddSh.b (itemsAt 25) (some 40, []) ⟨u25 (Wg w true).params, 65, 1543, 8145⟩ = some (.ok (some 40, []), ⟨u26 (Wg w true).params, 66, 1594, 8475⟩) := by
  kernel_rfl
theorem k26_1 (w : World) : evFor (fun m => evT (Wg w true).params 50 m) ddSh.b (itemsAt 26) (some 40, []) ⟨u26 (Wg w true).params, 66, 1594, 8475⟩ = some (.ok (some 40, []), ⟨u27 (Wg w true).params, 67, 1645, 8805⟩) := by
  kernel_rfl
theorem k27_1 (w : World) : evFor (fun m => evT (Wg w true).params 50 m) ddSh.b (itemsAt 27) (some 40, []) ⟨u27 (Wg w true).params, 67, 1645, 8805⟩ = some (.ok (some 40, []), ⟨u28 (Wg w true).params, 68, 1696, 9135⟩) := by
  kernel_rfl
theorem k28_1 (w : World) : evFor (fun m => evT (Wg w true).params 50 m) ddSh.b (itemsAt 28) (some 40, []) ⟨u28 (Wg w true).params, 68, 1696, 9135⟩ = some (.ok (some 40, []), ⟨u29 (Wg w true).params, 69, 1747, 9465⟩) := by
  kernel_rfl
theorem k29_1 (w : World) : evFor (fun m => evT (Wg w true).params 50 m) ddSh.b (itemsAt 29) (some 40, []) ⟨u29 (Wg w true).params, 69, 1747, 9465⟩ = some (.ok (some 40, []), ⟨u30 (Wg w true).params, 70, 1798, 9795⟩) := by
  kernel_rfl
theorem k30_1 (w : World) : evFor (fun m => evT (Wg w true).params 50 m) ddSh.b (itemsAt 30) (some 40, []) ⟨u30 (Wg w true).params, 70, 1798, 9795⟩ = some (.ok (some 40, []), ⟨u31 (Wg w true).params, 71, 1849, 10125⟩) := by
  kernel_rfl
theorem k31_1 (w : World) : evFor (fun m => evT (Wg w true).params 50 m) ddSh.b (itemsAt 31) (some 40, []) ⟨u31 (Wg w true).params, 71, 1849, 10125⟩ = some (.ok (some 40, []), ⟨u32 (Wg w true).params, 72, 1900, 10455⟩) := by
  kernel_rfl
theorem k32_1 (w : World) : evFor (fun m => evT (Wg w true).params 50 m) ddSh.b (itemsAt 32) (some 40, []) ⟨u32 (Wg w true).params, 72, 1900, 10455⟩ = some (.ok (some 40, []), ⟨u33 (Wg w true).params, 73, 1951, 10785⟩) := by
  kernel_rfl
theorem k33_1 (w : World) : evFor (fun m => evT (Wg w true).params 50 m) ddSh.b (itemsAt 33) (some 40, []) ⟨u33 (Wg w true).params, 73, 1951, 10785⟩ = some (.ok (some 40, []), ⟨u34 (Wg w true).params, 74, 2002, 11115⟩) := by
  kernel_rfl
theorem k34_1 (w : World) : evFor (fun m => evT (Wg w true).params 50 m) ddSh.b (itemsAt 34) (some 40, []) ⟨u34 (Wg w true).params, 74, 2002, 11115⟩ = some (.ok (some 40, []), ⟨u35 (Wg w true).params, 75, 2053, 11445⟩) := by
  kernel_rfl
theorem k35_1 (w : World) : evFor (fun m => evT (Wg w true).params 50 m) ddSh.b (itemsAt 35) (some 40, []) ⟨u35 (Wg w true).params, 75, 2053, 11445⟩ = some (.ok (some 40, []), ⟨u36 (Wg w true).params, 76, 2104, 11775⟩) := by
  kernel_rfl
theorem k36_1 (w : World) : evFor (fun m => evT (Wg w true).params 50 m) ddSh.b (itemsAt 36) (some 40, []) ⟨u36 (Wg w true).params, 76, 2104, 11775⟩ = some (.ok (some 40, []), ⟨u37 (Wg w true).params, 77, 2155, 12105⟩) := by
  kernel_rfl
theorem k37_1 (w : World) : evFor (fun m => evT (Wg w true).params 50 m) ddSh.b (itemsAt 37) (some 40, []) ⟨u37 (Wg w true).params, 77, 2155, 12105⟩ = some (.ok (some 40, []), ⟨u38 (Wg w true).params, 78, 2206, 12435⟩) := by
  kernel_rfl
noncomputable def last4 : List (Sem Value × Sem Value) := (items5.drop (17 * 38)).filterMap fun x => x.1.map fun k => (k, x.2)
theorem klast (w : World) (P : Params) (s : ST) : evFor (fun m => evT P 50 m) ddSh.b (items5.drop (17 * 38)) (some 40, []) s = some (.ok (some 40, last4), s) := by
  kernel_rfl
theorem kfa_0 (w : World) : evT (Wg w false).params 50 (ddSh.f (some 40, last4)) ⟨u38 (Wg w false).params, 78, 2206, 12435⟩ = some (.ok (.ref 40), ⟨u39 (Wg w false).params, 79, 2218, 12517⟩) := by
  kernel_rfl
theorem kfb_0 (w : World) : evT (Wg w false).params 50 (Sem.bind (standAt n5) fun _ => Sem.bind (Fast.tw7536695828754713326 envT "b3_exceptions" (.ref 40)) fun _ => Sem.pure Flow.next) ⟨u39 (Wg w false).params, 79, 2218, 12517⟩ = some (.ok .next, ⟨tS5 (Wg w false).params, 79, 2219, 12524⟩) := by
  kernel_rfl
theorem kfa_1 (w : World) : evT (Wg w true).params 50 (ddSh.f (some 40, last4)) ⟨u38 (Wg w true).params, 78, 2206, 12435⟩ = some (.ok (.ref 40), ⟨u39 (Wg w true).params, 79, 2218, 12517⟩) := by
  kernel_rfl
theorem kfb_1 (w : World) : evT (Wg w true).params 50 (Sem.bind (standAt n5) fun _ => Sem.bind (Fast.tw7536695828754713326 envT "b3_exceptions" (.ref 40)) fun _ => Sem.pure Flow.next) ⟨u39 (Wg w true).params, 79, 2218, 12517⟩ = some (.ok .next, ⟨tS5 (Wg w true).params, 79, 2219, 12524⟩) := by
  kernel_rfl
end Mine
end
section
set_option maxRecDepth 100000
set_option Elab.async false
set_option linter.unusedVariables false
namespace Mine
open PySem PySem.W PySem.Calls PyProof.Rows
/-! b3_exceptions, put together -/
theorem it_split (i : Nat) : items5.drop (17 * i) = itemsAt i ++ items5.drop (17 * (i + 1)) := by
  unfold itemsAt
  rw [show 17 * (i + 1) = 17 * i + 17 by omega, ← List.drop_drop, List.take_append_drop]
noncomputable abbrev evB (w : World) (b : Bool) : Sem (ForInStep DdS) → ST → Out (ForInStep DdS) := fun m => evT (Wg w b).params 50 m
theorem evT_at (P : Params) {α : Type} (p : Pos) (f : Unit → Sem α) (s : ST) : evT P 50 ((standAt p).bind f) s = evT P 50 (f ()) ⟨s.tree, s.n, s.toks, s.cnt + 1⟩ := evS_at p (fun x => f x) s
theorem chain_0 (w : World) : evFor (evB w false) ddSh.b items5 (none, []) ⟨tS4 (Wg w false).params, 40, 268, 2⟩ = some (.ok (some 40, last4), ⟨u38 (Wg w false).params, 78, 2206, 12435⟩) := by
  rw [show items5 = items5.drop (17 * 0) from rfl]
  rw [it_split 0]; refine evFor_app (k0_0 w) ?_
  rw [it_split 1]; refine evFor_app (k1_0 w) ?_
  rw [it_split 2]; refine evFor_app (k2_0 w) ?_
  rw [it_split 3]; refine evFor_app (k3_0 w) ?_
  rw [it_split 4]; refine evFor_app (k4_0 w) ?_
  rw [it_split 5]; refine evFor_app (k5_0 w) ?_
  rw [it_split 6]; refine evFor_app (k6_0 w) ?_
  rw [it_split 7]; refine evFor_app (k7_0 w) ?_
  rw [it_split 8]; refine evFor_app (k8_0 w) ?_
  rw [it_split 9]; refine evFor_app (k9_0 w) ?_
  rw [it_split 10]; refine evFor_app (k10_0 w) ?_
  rw [it_split 11]; refine evFor_app (k11_0 w) ?_
  rw [it_split 12]; refine evFor_app (k12_0 w) ?_
  rw [it_split 13]; refine evFor_app (k13_0 w) ?_
  rw [it_split 14]; refine evFor_app (k14_0 w) ?_
  rw [it_split 15]; refine evFor_app (k15_0 w) ?_
  rw [it_split 16]; refine evFor_app (k16_0 w) ?_
  rw [it_split 17]; refine evFor_app (k17_0 w) ?_
  rw [it_split 18]; refine evFor_app (k18_0 w) ?_
  rw [it_split 19]; refine evFor_app (k19_0 w) ?_
  rw [it_split 20]; refine evFor_app (k20_0 w) ?_
  rw [it_split 21]; refine evFor_app (k21_0 w) ?_
  rw [it_split 22]; refine evFor_app (k22_0 w) ?_
  rw [it_split 23]; refine evFor_app (k23_0 w) ?_
  rw [it_split 24]; refine evFor_app (k24_0 w) ?_
  rw [it_split 25]; refine evFor_app (k25_0 w) ?_
  rw [it_split 26]; refine evFor_app (k26_0 w) ?_
  rw [it_split 27]; refine evFor_app (k27_0 w) ?_
  rw [it_split 28]; refine evFor_app (k28_0 w) ?_
  rw [it_split 29]; refine evFor_app (k29_0 w) ?_
  rw [it_split 30]; refine evFor_app (k30_0 w) ?_
  rw [it_split 31]; refine evFor_app (k31_0 w) ?_
  rw [it_split 32]; refine evFor_app (k32_0 w) ?_
  rw [it_split 33]; refine evFor_app (k33_0 w) ?_
  rw [it_split 34]; refine evFor_app (k34_0 w) ?_
  rw [it_split 35]; refine evFor_app (k35_0 w) ?_
  rw [it_split 36]; refine evFor_app (k36_0 w) ?_
  rw [it_split 37]; refine evFor_app (k37_0 w) ?_
  exact klast w (Wg w false).params _
theorem b3_0 (w : World) : evT (Wg w false).params 50 (exec (stAt 5) envT) ⟨tS4 (Wg w false).params, 40, 268, 0⟩ = some (.ok .next, ⟨tS5 (Wg w false).params, 79, 2219, 12524⟩) := by
  rw [exec5, evT_at]
  have h := chain_0 w
  have h2 := evFor_forT (b := ddSh.b) h
  have h3 : evT (Wg w false).params 50 (dictDisplay items5) ⟨tS4 (Wg w false).params, 40, 268, 2⟩ = evT (Wg w false).params 50 (ddSh.f (some 40, last4)) ⟨u38 (Wg w false).params, 78, 2206, 12435⟩ := by
    rw [Fast.te11216187645035866516, ddSh.h, mT_bind]
    exact evS_bind_ok h2 rfl
  have h6 : evT (Wg w false).params 50 (dictDisplay items5) ⟨tS4 (Wg w false).params, 40, 268, 2⟩ = some (.ok (.ref 40), ⟨u39 (Wg w false).params, 79, 2218, 12517⟩) := h3.trans (kfa_0 w)
  have h7 : evT (Wg w false).params 50 ((standAt (dPos (stAt 5))).bind fun _ => dictDisplay items5) ⟨tS4 (Wg w false).params, 40, 268, 1⟩ = some (.ok (.ref 40), ⟨u39 (Wg w false).params, 79, 2218, 12517⟩) := (evT_at _ _ _ _).trans h6
  have h8 := kfb_0 w
  rw [← Fast.te7536695828754713326] at h8
  exact evS_bind_ok h7 h8
theorem g5_0 (w : World) : evT (Wg w false).params 50 (execs [stAt 5] envT) ⟨tS4 (Wg w false).params, 40, 268, 0⟩ = some (.ok .next, ⟨tS5 (Wg w false).params, 79, 2219, 12524⟩) :=
  evS_bind_ok (b3_0 w) rfl
theorem chain_1 (w : World) : evFor (evB w true) ddSh.b items5 (none, []) ⟨tS4 (Wg w true).params, 40, 268, 2⟩ = some (.ok (some 40, last4), ⟨u38 (Wg w true).params, 78, 2206, 12435⟩) := by
  rw [show items5 = items5.drop (17 * 0) from rfl]
  rw [it_split 0]; refine evFor_app (k0_1 w) ?_
  rw [it_split 1]; refine evFor_app (k1_1 w) ?_
  rw [it_split 2]; refine evFor_app (k2_1 w) ?_
  rw [it_split 3]; refine evFor_app (k3_1 w) ?_
  rw [it_split 4]; refine evFor_app (k4_1 w) ?_
  rw [it_split 5]; refine evFor_app (k5_1 w) ?_
  rw [it_split 6]; refine evFor_app (k6_1 w) ?_
  rw [it_split 7]; refine evFor_app (k7_1 w) ?_
  rw [it_split 8]; refine evFor_app (k8_1 w) ?_
  rw [it_split 9]; refine evFor_app (k9_1 w) ?_
  rw [it_split 10]; refine evFor_app (k10_1 w) ?_
  rw [it_split 11]; refine evFor_app (k11_1 w) ?_
  rw [it_split 12]; refine evFor_app (k12_1 w) ?_
  rw [it_split 13]; refine evFor_app (k13_1 w) ?_
  rw [it_split 14]; refine evFor_app (k14_1 w) ?_
  rw [it_split 15]; refine evFor_app (k15_1 w) ?_
  rw [it_split 16]; refine evFor_app (k16_1 w) ?_
  rw [it_split 17]; refine evFor_app (k17_1 w) ?_
  rw [it_split 18]; refine evFor_app (k18_1 w) ?_
  rw [it_split 19]; refine evFor_app (k19_1 w) ?_
  rw [it_split 20]; refine evFor_app (k20_1 w) ?_
  rw [it_split 21]; refine evFor_app (k21_1 w) ?_
  rw [it_split 22]; refine evFor_app (k22_1 w) ?_
  rw [it_split 23]; refine evFor_app (k23_1 w) ?_
  rw [it_split 24]; refine evFor_app (k24_1 w) ?_
  rw [it_split 25]; refine evFor_app (k25_1 w) ?_
  rw [it_split 26]; refine evFor_app (k26_1 w) ?_
  rw [it_split 27]; refine evFor_app (k27_1 w) ?_
  rw [it_split 28]; refine evFor_app (k28_1 w) ?_
  rw [it_split 29]; refine evFor_app (k29_1 w) ?_
  rw [it_split 30]; refine evFor_app (k30_1 w) ?_
  rw [it_split 31]; refine evFor_app (k31_1 w) ?_
  rw [it_split 32]; refine evFor_app (k32_1 w) ?_
  rw [it_split 33]; refine evFor_app (k33_1 w) ?_
  rw [it_split 34]; refine evFor_app (k34_1 w) ?_
  rw [it_split 35]; refine evFor_app (k35_1 w) ?_
  rw [it_split 36]; refine evFor_app (k36_1 w) ?_
  rw [it_split 37]; refine evFor_app (k37_1 w) ?_
  exact klast w (Wg w true).params _
theorem b3_1 (w : World) : evT (Wg w true).params 50 (exec (stAt 5) envT) ⟨tS4 (Wg w true).params, 40, 268, 0⟩ = some (.ok .next, ⟨tS5 (Wg w true).params, 79, 2219, 12524⟩) := by
  rw [exec5, evT_at]
  have h := chain_1 w
  have h2 := evFor_forT (b := ddSh.b) h
  have h3 : evT (Wg w true).params 50 (dictDisplay items5) ⟨tS4 (Wg w true).params, 40, 268, 2⟩ = evT (Wg w true).params 50 (ddSh.f (some 40, last4)) ⟨u38 (Wg w true).params, 78, 2206, 12435⟩ := by
    rw [Fast.te11216187645035866516, ddSh.h, mT_bind]
    exact evS_bind_ok h2 rfl
  have h6 : evT (Wg w true).params 50 (dictDisplay items5) ⟨tS4 (Wg w true).params, 40, 268, 2⟩ = some (.ok (.ref 40), ⟨u39 (Wg w true).params, 79, 2218, 12517⟩) := h3.trans (kfa_1 w)
  have h7 : evT (Wg w true).params 50 ((standAt (dPos (stAt 5))).bind fun _ => dictDisplay items5) ⟨tS4 (Wg w true).params, 40, 268, 1⟩ = some (.ok (.ref 40), ⟨u39 (Wg w true).params, 79, 2218, 12517⟩) := (evT_at _ _ _ _).trans h6
  have h8 := kfb_1 w
  rw [← Fast.te7536695828754713326] at h8
  exact evS_bind_ok h7 h8
theorem g5_1 (w : World) : evT (Wg w true).params 50 (execs [stAt 5] envT) ⟨tS4 (Wg w true).params, 40, 268, 0⟩ = some (.ok .next, ⟨tS5 (Wg w true).params, 79, 2219, 12524⟩) :=
  evS_bind_ok (b3_1 w) rfl
end Mine
end
section
set_option maxRecDepth 100000
set_option Elab.async false
set_option linter.unusedVariables false
namespace Mine
open PySem PySem.W PySem.Calls PyProof.Rows
noncomputable def q0 : Pos := ⟨0, 0, 0, 0⟩
noncomputable def p3 : Pos := ⟨11, 0, 11, 6⟩
noncomputable def cE : Code := .body (behindTheImports pw) envT
abbrev W2 (w : World) (a b : Bool) : World := (w.withFollow "special-get-raises" a).withFollow "set-order" b
theorem b1_false_false (w : World) (os : OsState) (pos : Pos) : Fast.tw10110043849684766642 Fast.tw14364793385576792824 pw (W2 w false false) 11 (some (.ref 6)) 1 999 ⟨tS2 (W2 w false false).params, 22, {}, Array.mk [], boot_drawn, 201, os⟩
    ⟨(Fast.tw12563942051412417395 [stAt 3] envT).wrap doneF deadEnd id id, cE, pos, [topFrame q0]⟩ = some (.next, ⟨tS3 (W2 w false false).params, 33, {}, Array.mk [], boot_drawn, 261, os⟩, cE, p3) := by
  kernel_rfl
theorem b1_false_true (w : World) (os : OsState) (pos : Pos) : Fast.tw10110043849684766642 Fast.tw14364793385576792824 pw (W2 w false true) 11 (some (.ref 6)) 1 999 ⟨tS2 (W2 w false true).params, 22, {}, Array.mk [], boot_drawn, 201, os⟩
    ⟨(Fast.tw12563942051412417395 [stAt 3] envT).wrap doneF deadEnd id id, cE, pos, [topFrame q0]⟩ = some (.next, ⟨tS3 (W2 w false true).params, 33, {}, Array.mk [], boot_drawn, 261, os⟩, cE, p3) := by
  kernel_rfl
theorem b1_true_false (w : World) (os : OsState) (pos : Pos) : Fast.tw10110043849684766642 Fast.tw14364793385576792824 pw (W2 w true false) 11 (some (.ref 6)) 1 999 ⟨tS2 (W2 w true false).params, 22, {}, Array.mk [], boot_drawn, 201, os⟩
    ⟨(Fast.tw12563942051412417395 [stAt 3] envT).wrap doneF deadEnd id id, cE, pos, [topFrame q0]⟩ = some (.next, ⟨tS3 (W2 w true false).params, 33, {}, Array.mk [], boot_drawn, 261, os⟩, cE, p3) := by
  kernel_rfl
theorem b1_true_true (w : World) (os : OsState) (pos : Pos) : Fast.tw10110043849684766642 Fast.tw14364793385576792824 pw (W2 w true true) 11 (some (.ref 6)) 1 999 ⟨tS2 (W2 w true true).params, 22, {}, Array.mk [], boot_drawn, 201, os⟩
    ⟨(Fast.tw12563942051412417395 [stAt 3] envT).wrap doneF deadEnd id id, cE, pos, [topFrame q0]⟩ = some (.next, ⟨tS3 (W2 w true true).params, 33, {}, Array.mk [], boot_drawn, 261, os⟩, cE, p3) := by
  kernel_rfl
end Mine
end
section
set_option maxRecDepth 100000
set_option Elab.async false
set_option linter.unusedVariables false
namespace Mine
open PySem PySem.W PySem.Calls PyProof.Rows
noncomputable abbrev fl (os : OsState) (s : ST) : Shared := full {} (Array.mk []) boot_drawn os s
/-- the statements l, run in any world w from s, lead to s' in c steps -/
noncomputable def Stp (w : World) (l : List Stmt) (c : Nat) (s s' : ST) : Prop :=
  ∀ (os : OsState) (rest : List Stmt) (pos : Pos), ∃ pos', Goes treeTable pw w 11 (some (.ref 6)) c (fl os s) (restOf (l ++ rest) envT cE pos [topFrame q0]) (fl os s') (restOf rest envT cE pos' [topFrame q0])
theorem Stp.of_ev {w : World} {l : List Stmt} {s s' : ST} {c : Nat} (h : evT w.params 50 (execs l envT) s = some (.ok .next, s')) (hc : s'.cnt = s.cnt + c) : Stp w l c s s' := by
  intro os rest pos
  have h' : evS (evC (denote treeTable) ⟨pw, w.params⟩ (okAddr 11 (some (.ref 6))) 50) ⟨pw, w.params⟩ (okAddr 11 (some (.ref 6))) (execs l envT) s = some (.ok .next, s') := by rw [dn_eq]; exact h
  obtain ⟨c', pos', e, g⟩ := evS_goes (life := {}) (gens := Array.mk []) (drawn := boot_drawn) (os := os) (evC_goes 50) _ _ _ _ h' (fun f => match f with | .next => (execs rest envT).wrap doneF (leaveH envT) id id | f => doneF f) (leaveH envT) id id cE pos [topFrame q0]
  refine ⟨pos', ?_⟩
  obtain rfl : c' = c := by omega
  unfold restOf
  rw [execs_app_wrap]
  exact g
theorem Stp.of_seg {w : World} {l : List Stmt} {t t' : BT} {n n' k k' ct ct' c : Nat} {p' : Pos} (h : ∀ os pos, segRunT treeTable pw w 11 (some (.ref 6)) 1 c ⟨t, n, {}, Array.mk [], boot_drawn, k, os⟩
    ⟨(execs l envT).wrap doneF deadEnd id id, cE, pos, [topFrame q0]⟩ = some (.next, ⟨t', n', {}, Array.mk [], boot_drawn, k', os⟩, cE, p')) : Stp w l c ⟨t, n, k, ct⟩ ⟨t', n', k', ct'⟩ := by
  intro os rest pos
  exact ⟨p', fun N r q => piece_app (segRun_of (h os pos)) q⟩
theorem exs_eq : (@execs) = Fast.tw12563942051412417395 := Fast.te12563942051412417395
theorem st2 (w : World) : Stp w [stAt 0, stAt 1, stAt 2] 50 ⟨tSb w.params, 15, 187, 0⟩ ⟨tS2 w.params, 22, 201, 50⟩ := Stp.of_ev (by rw [Fast.te12563942051412417395]; exact g2 w) rfl
theorem st3x (w : World) (a b : Bool) (h : ∀ os pos, segRunT treeTable pw (W2 w a b) 11 (some (.ref 6)) 1 999 ⟨tS2 (W2 w a b).params, 22, {}, Array.mk [], boot_drawn, 201, os⟩
    ⟨(execs [stAt 3] envT).wrap doneF deadEnd id id, cE, pos, [topFrame q0]⟩ = some (.next, ⟨tS3 (W2 w a b).params, 33, {}, Array.mk [], boot_drawn, 261, os⟩, cE, p3)) :
    Stp (W2 w a b) [stAt 3] 999 ⟨tS2 (W2 w a b).params, 22, 201, 0⟩ ⟨tS3 (W2 w a b).params, 33, 261, 0⟩ := Stp.of_seg h
theorem st3 : ∀ (w : World), Stp w [stAt 3] 999 ⟨tS2 w.params, 22, 201, 0⟩ ⟨tS3 w.params, 33, 261, 0⟩ :=
  byRow2 "set-order"
    (fun w => byRow2 "special-get-raises" (P := fun v => Stp (v.withFollow "set-order" false) [stAt 3] 999 ⟨tS2 (v.withFollow "set-order" false).params, 22, 201, 0⟩ ⟨tS3 (v.withFollow "set-order" false).params, 33, 261, 0⟩)
      (fun w => st3x w false false fun os pos => by rw [Fast.te10110043849684766642, Fast.te14364793385576792824, Fast.te12563942051412417395]; exact b1_false_false w os pos)
      (fun w => st3x w true false fun os pos => by rw [Fast.te10110043849684766642, Fast.te14364793385576792824, Fast.te12563942051412417395]; exact b1_true_false w os pos) w)
    (fun w => byRow2 "special-get-raises" (P := fun v => Stp (v.withFollow "set-order" true) [stAt 3] 999 ⟨tS2 (v.withFollow "set-order" true).params, 22, 201, 0⟩ ⟨tS3 (v.withFollow "set-order" true).params, 33, 261, 0⟩)
      (fun w => st3x w false true fun os pos => by rw [Fast.te10110043849684766642, Fast.te14364793385576792824, Fast.te12563942051412417395]; exact b1_false_true w os pos)
      (fun w => st3x w true true fun os pos => by rw [Fast.te10110043849684766642, Fast.te14364793385576792824, Fast.te12563942051412417395]; exact b1_true_true w os pos) w)
theorem st4 (w : World) : Stp w [stAt 4] 29 ⟨tS3 w.params, 33, 261, 0⟩ ⟨tS4 w.params, 40, 268, 29⟩ := Stp.of_ev (by rw [Fast.te12563942051412417395]; exact g4 w) rfl
theorem st5 : ∀ (w : World), Stp w [stAt 5] 12524 ⟨tS4 w.params, 40, 268, 0⟩ ⟨tS5 w.params, 79, 2219, 12524⟩ :=
  byRow2 "special-get-raises" (fun w => Stp.of_ev (g5_0 w) rfl) (fun w => Stp.of_ev (g5_1 w) rfl)
noncomputable def l30 : List Stmt := [stAt 6, stAt 7, stAt 8, stAt 9, stAt 10, stAt 11, stAt 12, stAt 13, stAt 14, stAt 15, stAt 16, stAt 17, stAt 18, stAt 19, stAt 20, stAt 21, stAt 22, stAt 23, stAt 24, stAt 25, stAt 26, stAt 27, stAt 28, stAt 29, stAt 30]
noncomputable def l56 : List Stmt := [stAt 31, stAt 32, stAt 33, stAt 34, stAt 35, stAt 36, stAt 37, stAt 38, stAt 39, stAt 40, stAt 41, stAt 42, stAt 43, stAt 44, stAt 45, stAt 46, stAt 47, stAt 48, stAt 49, stAt 50, stAt 51, stAt 52, stAt 53, stAt 54, stAt 55, stAt 56]
noncomputable def l70 : List Stmt := [stAt 58, stAt 59, stAt 60, stAt 61, stAt 62, stAt 63, stAt 64, stAt 65, stAt 66, stAt 67, stAt 68, stAt 69, stAt 70]
theorem st30 (w : World) : Stp w l30 246 ⟨tS5 w.params, 79, 2219, 0⟩ ⟨tS30 w.params, 86, 2275, 246⟩ := Stp.of_ev (by rw [Fast.te12563942051412417395]; exact g30 w) rfl
theorem st56 (w : World) : Stp w l56 234 ⟨tS30 w.params, 86, 2275, 0⟩ ⟨tS56 w.params, 86, 2327, 234⟩ := Stp.of_ev (by rw [Fast.te12563942051412417395]; exact g56 w) rfl
theorem st57 : ∀ (w : World), Stp w [stAt 57] 978 ⟨tS56 w.params, 86, 2327, 0⟩ ⟨tS57 w.params, 89, 2424, 978⟩ :=
  byRow2 "special-get-raises" (fun w => Stp.of_ev (by rw [Fast.te12563942051412417395]; exact g57_0 w) rfl) (fun w => Stp.of_ev (by rw [Fast.te12563942051412417395]; exact g57_1 w) rfl)
theorem st70 (w : World) : Stp w l70 366 ⟨tS57 w.params, 89, 2424, 0⟩ ⟨tS70 w.params, 161, 2531, 366⟩ := Stp.of_ev (by rw [Fast.te12563942051412417395]; exact g70 w) rfl
theorem Stp.cat {w : World} {l l' : List Stmt} {a b : Nat} {s s₁ s₁' s' : ST} (h : Stp w l a s s₁) (k : Stp w l' b s₁' s') (e : (s₁.tree, s₁.n, s₁.toks) = (s₁'.tree, s₁'.n, s₁'.toks)) : Stp w (l ++ l') (a + b) s s' := by
  intro os rest pos
  obtain ⟨p1, g1⟩ := h os (l' ++ rest) pos
  obtain ⟨p2, g2⟩ := k os rest p1
  have e' : fl os s₁ = fl os s₁' := by
    obtain ⟨t, n, k, c⟩ := s₁; obtain ⟨t', n', k', c'⟩ := s₁'
    simp only [Prod.mk.injEq] at e
    obtain ⟨rfl, rfl, rfl⟩ := e
    rfl
  rw [e'] at g1
  rw [List.append_assoc]
  exact ⟨p2, g1.trans g2⟩
noncomputable def lAll : List Stmt := [stAt 0, stAt 1, stAt 2] ++ ([stAt 3] ++ ([stAt 4] ++ ([stAt 5] ++ (l30 ++ (l56 ++ ([stAt 57] ++ l70))))))
theorem stAll (w : World) : Stp w lAll (50 + (999 + (29 + (12524 + (246 + (234 + (978 + 366))))))) ⟨tSb w.params, 15, 187, 0⟩ ⟨tS70 w.params, 161, 2531, 366⟩ :=
  (st2 w).cat ((st3 w).cat ((st4 w).cat ((st5 w).cat ((st30 w).cat ((st56 w).cat ((st57 w).cat (st70 w) rfl) rfl) rfl) rfl) rfl) rfl) rfl
theorem body_eq : behindTheImports pw = lAll := by kernel_rfl
end Mine
end
section
set_option maxRecDepth 100000
set_option Elab.async false
set_option linter.unusedVariables false
namespace Mine
open PySem PySem.W PySem.Calls PyProof.Rows
theorem pre_run0 (w : World) (os : OsState) : Fast.tw15667345088766844465 Fast.tw14364793385576792824 pw w 11 (some (.ref 6)) 12 ⟨boot_heap w.params, Array.mk [], boot_drawn, boot_toks, os⟩ (topStub pw) =
    some (fl os ⟨tSa w.params, 15, 187, 0⟩, ⟨dn (.body (behindTheImports pw) envT), cE, q0, [topFrame q0]⟩) := by
  kernel_rfl
theorem pre_run (w : World) (os : OsState) : topGo treeTable pw w 11 (some (.ref 6)) 12 ⟨boot_heap w.params, Array.mk [], boot_drawn, boot_toks, os⟩ (topStub pw) =
    some (fl os ⟨tSa w.params, 15, 187, 0⟩, ⟨denote treeTable (.body (behindTheImports pw) envT), cE, q0, [topFrame q0]⟩) := by
  have h := pre_run0 w os
  rw [← Fast.te15667345088766844465, ← dn_eq, ← Fast.te14364793385576792824] at h
  exact h
theorem block_run (w : World) (os : OsState) : segRun treeTable pw w 11 (some (.ref 6)) 1 1 (fl os ⟨tSa w.params, 15, 187, 0⟩) (blockOf (behindTheImports pw) envT cE q0 [topFrame q0]) = some (.next, fl os ⟨tSb w.params, 15, 187, 0⟩, cE, q0) := by
  kernel_rfl
theorem fin_run (w : World) (os : OsState) (s : ST) (pos : Pos) : topRun treeTable pw w 11 (some (.ref 6)) 2 (fl os s) (restOf [] envT cE pos [topFrame q0]) = some (fl os s) := rfl
noncomputable def H1e (P : Params) : Heap := absHeap (tS70 P) 161 {}
theorem run_all (w : World) (os : OsState) : topRun treeTable pw w 11 (some (.ref 6)) (12 + (1 + ((50 + (999 + (29 + (12524 + (246 + (234 + (978 + 366))))))) + 2))) ⟨boot_heap w.params, Array.mk [], boot_drawn, boot_toks, os⟩ (topStub pw) = some ⟨H1e w.params, Array.mk [], boot_drawn, 2531, os⟩ := by
  refine go_top (pre_run w os) ?_
  refine piece_block (block_run w os) ?_
  obtain ⟨p', g⟩ := stAll w os [] q0
  have := g 2 _ (fin_run w os ⟨tS70 w.params, 161, 2531, 366⟩ p')
  rw [List.append_nil, ← body_eq] at this
  exact this
end Mine
end
section
set_option maxRecDepth 100000
set_option Elab.async false
set_option linter.unusedVariables false
namespace Mine
open PySem PySem.W PySem.Calls PyProof.Rows
noncomputable def qV : Program := { pw with main := { pw.main with body := [stAt 70] } }
noncomputable def looseV : List Str := (["Int2AP", "b1_set", "in_table_b1", "b3_exceptions", "map_table_b3", "ENDMARKER", "LPAR", "RPAR", "LSQB", "RSQB", "COLON", "COMMA", "SEMI", "PLUS", "MINUS", "STAR", "SLASH", "VBAR", "AMPER", "LESS", "GREATER", "EQUAL", "DOT", "PERCENT", "LBRACE", "RBRACE", "EQEQUAL", "NOTEQUAL", "LESSEQUAL", "GREATEREQUAL", "TILDE", "CIRCUMFLEX", "LEFTSHIFT", "RIGHTSHIFT", "DOUBLESTAR", "PLUSEQUAL", "MINEQUAL", "STAREQUAL", "SLASHEQUAL", "PERCENTEQUAL", "AMPEREQUAL", "VBAREQUAL", "CIRCUMFLEXEQUAL", "LEFTSHIFTEQUAL", "RIGHTSHIFTEQUAL", "DOUBLESTAREQUAL", "DOUBLESLASH", "DOUBLESLASHEQUAL", "AT", "ATEQUAL", "RARROW", "ELLIPSIS", "COLONEQUAL", "EXCLAMATION", "EXACT_TOKEN_TYPES", "ISEOF", "_law_draw", "_law_spelled", "_law_written", "_law_read", "_law_last", "_law_reckoned", "_law_back", "_law_found", "_law_figures", "_law_due"] : List String).map Str.ofString
theorem mods_eq : importedModules pw.main.body = [] := by rw [Fast.te5923862056798008813]; kernel_rfl
theorem size_run (w : World) : ((boot_heap w.params).isNs mainGlobals && (Array.mk [] : Array GenState).size == 0, (boot_heap w.params).objs.size, (boot_heap w.params).nsMap mainGlobals "__annotations__") = (true, 11, some (Value.ref 6)) := by
  kernel_rfl
theorem look_statics (w : World) : staticsOk [] (boot_heap w.params) (H1e w.params) = true := by kernel_rfl
theorem look_gens (w : World) (os : OsState) : gensDone ⟨H1e w.params, Array.mk [], boot_drawn, 2531, os⟩ = true := by kernel_rfl
theorem look_laid (w : World) : laidKept (boot_heap w.params) (H1e w.params) = true := by kernel_rfl
end Mine
end
section
set_option maxRecDepth 100000
set_option Elab.async false
set_option linter.unusedVariables false
namespace Mine
open PySem PySem.W PySem.Calls PyProof.Rows
theorem look_names (w : World) : namesBound pw (H1e w.params) = true := by
  kernel_rfl
theorem look_seen (w : World) (os : OsState) : Fast.tw4187177175401517315 qV looseV [] (fun _ => true) true ⟨H1e w.params, Array.mk [], boot_drawn, 2531, os⟩ = openGood qV looseV := by
  kernel_rfl
end Mine
end
section
set_option maxRecDepth 100000
set_option Elab.async false
set_option linter.unusedVariables false
namespace Mine
open PySem PySem.W PySem.Calls PyProof.Rows
theorem open_run : ∀ w : World, (fencedOpening treeTable pw w 20000).map (fun s => (s.heap, s.gens, s.drawn, s.toks)) = some (boot_heap w.params, Array.mk [], boot_drawn, boot_toks) :=
  boot_open (by kernel_rfl) (by kernel_rfl) (fun s => by rw [Fast.te14289696077712309145]; kernel_rfl)
theorem leftV : LeftO pw qV looseV (fun _ => true) (fun s => s.heap) (fun w => H1e w.params) 20000 := by
  refine LeftO.of_pieces (H₀ := boot_heap) (H₁ := H1e) (gs₀ := Array.mk []) (gs₁ := Array.mk []) (d₀ := boot_drawn) (d₁ := boot_drawn) (k₀ := boot_toks) (k₁ := 2531) open_run size_run run_all (by kernel_rfl) ?_
  intro w
  funext os
  rw [mods_eq, Fast.te4187177175401517315, look_statics, look_names, look_gens, look_laid, look_seen]
  rfl
/-- what stands behind the top, in any world -/
noncomputable def TopIn (w : World) (h : Heap) : Prop := ∀ b o, (H1e w.params).get? b = some o → h.get? b = some o
noncomputable abbrev L0 : OpenLaw := PySem.Challenge.rw_wf0076_01
theorem sa1 : sreFenced L0.prog.main = true := by kernel_rfl
theorem sa2 : ((moduleNames L0.prog.main.body).isEmpty || lookedIntoSs (moduleNames L0.prog.main.body) L0.prog.main.body) = true := by kernel_rfl
theorem sa3 : namesResolve L0.prog = true := by kernel_rfl
theorem sa4 : L0.prog.boundNames.all (fun n => !worldNames.contains n) = true := by kernel_rfl
theorem sa5 : noRoadLSs { strict := !(importedModules L0.prog.main.body).all cThrough.contains, foot := none, bare := (["vars", "dir", "locals"] : List Str).filter (readsOut L0.prog L0.prog.main.body) } L0.prog.main.body = true := by kernel_rfl
theorem sa6 : (namesMeet L0.prog L0.prog.main.body fun _ n => attrL n) = true := by kernel_rfl
theorem said_looks : looksOpen L0.prog = true := by
  unfold looksOpen
  exact look_both (look_both (look_both (look_both (look_both sa1 sa2) sa3) sa4) sa5) sa6
theorem said_looks' : looksOpen L0.row.toRowW.prog = true := said_looks
theorem said_part : L0.row.partSaid = true := by
  unfold OpenRow.partSaid
  repeat' (first | with_reducible exact said_looks' | with_reducible refine look_both ?_ ?_)
  all_goals kernel_rfl
theorem said_row : L0.row.wellSaid = true := by
  unfold OpenRow.wellSaid
  exact look_both (look_both said_part (by kernel_rfl)) (by kernel_rfl)
theorem sb1 : L0.footing.all footLine = true := by kernel_rfl
theorem sb2 : noRoadLSs { strict := true, foot := some L0.bound', writes := L0.writes, may := L0.may } L0.footing = true := by kernel_rfl
theorem sb3 : L0.namesIt = true := by kernel_rfl
theorem sb4 : L0.bound'.all (fun n => !builtinNamed n || L0.about == [n] || !L0.reads n) = true := by kernel_rfl
theorem said_law : PySem.Challenge.rw_wf0076_01.wellSaid = true := by
  show L0.wellSaid = true
  unfold OpenLaw.wellSaid
  repeat' (first | with_reducible exact said_row | with_reducible exact sb1 | with_reducible exact sb2 | with_reducible exact sb3 | with_reducible exact sb4 | with_reducible refine look_both ?_ ?_)
  all_goals kernel_rfl
set_option maxHeartbeats 4000000 in
theorem head_of (hc : ∀ (d : DefRec), defOf qV "law" = some (d, []) → WalkO qV looseV (fun _ _ => True) TopIn PySem.Challenge.rw_wf0076_01.row.toRowW d [] fun f vs => PySem.call f vs) : PySem.Challenge.rw_wf0076_01.Holds := by
  w_on
  refine holds_law said_law fun _ => ?_
  refine holds_open (q := qV) (loose := looseV) (Xt := fun _ => true) (XP := fun _ _ => True) (Yf := fun s => s.heap) (Ya := fun w => H1e w.params) (YP := TopIn) (N := 20000) leftV ?_ ?_ ?_ ?_ (by rfl) (by rfl) (by rfl) ?_ (by rfl) (by first | assumption | decide +kernel) (by decide +kernel) ⟨rfl, rfl, rfl, rfl, rfl, by decide +kernel⟩ ?hw (hc _ rfl)
  · intro w s e b o h; rw [e]; exact h
  · intro w h h' y k b o e; exact k b o (y b o e)
  · intro s _; trivial
  · intro mg h h' x k; trivial
  · intro s _; exact recFacts_nil rfl
  case hw => w_witness2
end Mine
end
section
set_option linter.unusedVariables false
set_option linter.unusedSectionVars false
namespace Mine
open PySem PySem.Calls
open Sem (wp)
/-- plain data -/
inductive D where
  | none | bool (b : Bool) | int (i : Int) | str (s : Str) | byt (b : Array UInt8) | list (ds : List D) | tup (ds : List D) | obj (a : Addr)
noncomputable def TupAt (h : Heap) (a : Addr) (items : Array Value) : Prop := ∃ n, h.get? a = some { cls := .type "tuple", data := .seq items n }
mutual
inductive Rd (X : Addr → Prop) (h : Heap) : Value → D → Prop
  | none : Rd X h .none .none
  | bool (b : Bool) : Rd X h (.bool b) (.bool b)
  | int (i : Int) (t : Tok) : Rd X h (.int i t) (.int i)
  | str (x : Str) (t : Tok) : Rd X h (.str x t) (.str x)
  | byt (b : Array UInt8) (t : Tok) : Rd X h (.bytes b t) (.byt b)
  | obj (a : Addr) : Rd X h (.ref a) (.obj a)
  | list {a : Addr} {vs : List Value} {ds : List D} : h.PlainList a vs.toArray → ¬ X a → Rds X h vs ds → Rd X h (.ref a) (.list ds)
  | tup {a : Addr} {vs : List Value} {ds : List D} : TupAt h a vs.toArray → ¬ X a → Rds X h vs ds → Rd X h (.ref a) (.tup ds)
inductive Rds (X : Addr → Prop) (h : Heap) : List Value → List D → Prop
  | nil : Rds X h [] []
  | cons {v : Value} {d : D} {vs : List Value} {ds : List D} : Rd X h v d → Rds X h vs ds → Rds X h (v :: vs) (d :: ds)
end
noncomputable def Wider (X : Addr → Prop) (h : Heap) (X' : Addr → Prop) (h' : Heap) : Prop := ∀ a o, ¬ X a → h.get? a = some o → ¬ X' a ∧ h'.get? a = some o
mutual
theorem Rd.mono {X X' : Addr → Prop} {h h' : Heap} (k : Wider X h X' h') : ∀ {v : Value} {d : D}, Rd X h v d → Rd X' h' v d
  | _, _, .none => .none
  | _, _, .bool b => .bool b
  | _, _, .int i t => .int i t
  | _, _, .str x t => .str x t
  | _, _, .byt b t => .byt b t
  | _, _, .obj a => .obj a
  | _, _, .list ⟨n, p⟩ x r => .list ⟨n, (k _ _ x p).2⟩ (k _ _ x p).1 (Rds.mono k r)
  | _, _, .tup ⟨n, p⟩ x r => .tup ⟨n, (k _ _ x p).2⟩ (k _ _ x p).1 (Rds.mono k r)
theorem Rds.mono {X X' : Addr → Prop} {h h' : Heap} (k : Wider X h X' h') : ∀ {vs : List Value} {ds : List D}, Rds X h vs ds → Rds X' h' vs ds
  | _, _, .nil => .nil
  | _, _, .cons a r => .cons (Rd.mono k a) (Rds.mono k r)
end
noncomputable def Kp (s s' : Shared) : Prop := ∃ h' tk, s' = { s with heap := h', toks := tk } ∧ ∀ b o, s.heap.get? b = some o → h'.get? b = some o
abbrev Up (h h' : Heap) : Prop := ∀ b o, h.get? b = some o → h'.get? b = some o
theorem Wider.up {X : Addr → Prop} {h h' : Heap} (k : Up h h') : Wider X h X h' := fun a o x e => ⟨x, k a o e⟩
theorem Rd.up {X : Addr → Prop} {h h' : Heap} {v : Value} {d : D} (r : Rd X h v d) (k : Up h h') : Rd X h' v d := r.mono (Wider.up k)
theorem Rds.up {X : Addr → Prop} {h h' : Heap} {v : List Value} {d : List D} (r : Rds X h v d) (k : Up h h') : Rds X h' v d := r.mono (Wider.up k)
theorem Rds.length {X : Addr → Prop} {h : Heap} : ∀ {vs : List Value} {ds : List D}, Rds X h vs ds → vs.length = ds.length
  | _, _, .nil => rfl
  | _, _, .cons _ r => by simp [Rds.length r]
theorem Rds.append {X : Addr → Prop} {h : Heap} : ∀ {vs : List Value} {ds : List D} {vs' : List Value} {ds' : List D}, Rds X h vs ds → Rds X h vs' ds' → Rds X h (vs ++ vs') (ds ++ ds')
  | _, _, _, _, .nil, r => r
  | _, _, _, _, .cons a r, r' => .cons a (r.append r')
theorem Rds.at {X : Addr → Prop} {h : Heap} : ∀ {vs : List Value} {ds : List D} {i : Nat} {v : Value}, Rds X h vs ds → vs[i]? = some v → ∃ d, ds[i]? = some d ∧ Rd X h v d
  | _, _, i, _, .nil, e => by simp at e
  | _, _, 0, _, .cons a r, e => by simp at e; subst e; exact ⟨_, by simp, a⟩
  | _, _, i + 1, _, .cons a r, e => by simp at e; simpa using r.at e
theorem Rds.at' {X : Addr → Prop} {h : Heap} : ∀ {vs : List Value} {ds : List D} {i : Nat} {d : D}, Rds X h vs ds → ds[i]? = some d → ∃ v, vs[i]? = some v ∧ Rd X h v d
  | _, _, i, _, .nil, e => by simp at e
  | _, _, 0, _, .cons a r, e => by simp at e; subst e; exact ⟨_, by simp, a⟩
  | _, _, i + 1, _, .cons a r, e => by simp at e; simpa using r.at' e
theorem Rds.take {X : Addr → Prop} {h : Heap} : ∀ {vs : List Value} {ds : List D} (n : Nat), Rds X h vs ds → Rds X h (vs.take n) (ds.take n)
  | _, _, _, .nil => by simpa using Rds.nil
  | _, _, 0, .cons a r => by simpa using Rds.nil
  | _, _, n + 1, .cons a r => by simpa using Rds.cons a (r.take n)
theorem Rds.drop {X : Addr → Prop} {h : Heap} : ∀ {vs : List Value} {ds : List D} (n : Nat), Rds X h vs ds → Rds X h (vs.drop n) (ds.drop n)
  | _, _, _, .nil => by simpa using Rds.nil
  | _, _, 0, .cons a r => by simpa using Rds.cons a r
  | _, _, n + 1, .cons a r => by simpa using r.drop n
theorem Rds.ints {X : Addr → Prop} {h : Heap} : ∀ {vs : List Value} {is : List Int}, Rds X h vs (is.map .int) → ∃ f : List (Int × Tok), vs = f.map (fun p => .int p.1 p.2) ∧ is = f.map (·.1)
  | [], [], _ => ⟨[], rfl, rfl⟩
  | _, i :: is, .cons (.int _ t) r => by
    obtain ⟨f, rfl, rfl⟩ := Rds.ints r
    exact ⟨(i, t) :: f, rfl, rfl⟩
structure Okn (k : Nat) (A : Around) : Prop where
  hh : A.handled = none
  dp : A.depth + k < 500
  un : A.units + 20 * k + 100 < 9900
  gd : A.guards = some []
theorem Okn.less {k k' : Nat} {A : Around} (h : Okn k A) (le : k' ≤ k) : Okn k' A := ⟨h.hh, by have := h.dp; omega, by have := h.un; omega, h.gd⟩
theorem Okn.room {k : Nat} {A : Around} (h : Okn k A) : A.depth < recursionLimit := by have := h.dp; unfold recursionLimit; omega
theorem Okn.cl {k : Nat} {A : Around} (h : Okn k A) : A.units < cLine := by have := h.un; unfold cLine; omega
theorem Okn.deeper {k : Nat} {A : Around} (env : Env) (h : Okn (k + 1) A) : Okn k (A.deeper env) :=
  ⟨h.hh, by have := h.dp; show A.depth + 1 + k < 500; omega, by have := h.un; show A.units + 3 + 20 * k + 100 < 9900; omega, h.gd⟩
theorem Okn.in1 {k : Nat} {A : Around} (h : Okn (k + 1) A) : Okn k A.in1 :=
  ⟨h.hh, by have := h.dp; show A.depth + k < 500; omega, by have := h.un; show A.units + 1 + 20 * k + 100 < 9900; omega, h.gd⟩
inductive Loc where
  | dat (d : D) | own (ds : List D)
abbrev Cx := List (Str × Loc)
/-- reading a local name gives v -/
noncomputable def NameVal (env : Env) (h : Heap) (n : Str) (v : Value) : Prop :=
  (env.kindOf n = some .local ∧ ∃ m, h.Ns env.locals m ∧ m n = some v) ∨
  (env.kindOf n = some .cell ∧ ∃ c, env.cells.lookup n = some c ∧ h.IsCell c (some v))
theorem NameVal.up {env : Env} {h h' : Heap} {n : Str} {v : Value} (x : NameVal env h n v) (k : Up h h') : NameVal env h' n v := by
  rcases x with ⟨a, m, b, c⟩ | ⟨a, c, b, d⟩
  · exact .inl ⟨a, m, b.keeps k, c⟩
  · exact .inr ⟨a, c, b, d.keeps k⟩
structure Sit (T : Heap → Prop) (X : Addr → Prop) (env : Env) (Γ : Cx) (s : Shared) : Prop where
  fn : env.scope.kind = .function
  top : T s.heap
  al : ∀ a, X a → ∃ o, s.heap.get? a = some o
  nms : ∀ n d, (n, .dat d) ∈ Γ → ∃ v, NameVal env s.heap n v ∧ Rd X s.heap v d
structure UpT0 (T : Heap → Prop) : Prop where
  up : ∀ {h h' : Heap}, T h → Up h h' → T h'
abbrev UpT (T : Heap → Prop) : Prop := Nonempty (UpT0 T)
theorem UpT.up {T : Heap → Prop} [x : UpT T] {h h' : Heap} (t : T h) (k : Up h h') : T h' := x.elim fun y => y.up t k
theorem Kp.up {s s' : Shared} (k : Kp s s') : Up s.heap s'.heap := by obtain ⟨h', tk, rfl, e⟩ := k; exact e
theorem Kp.rfl' {s : Shared} : Kp s s := ⟨s.heap, s.toks, rfl, fun _ _ e => e⟩
theorem Kp.trans' {s s' s'' : Shared} (k : Kp s s') (k' : Kp s' s'') : Kp s s'' := by
  obtain ⟨h', tk, rfl, e⟩ := k
  obtain ⟨h'', tk', rfl, e'⟩ := k'
  exact ⟨h'', tk', rfl, fun b o x => e' b o (e b o x)⟩
theorem Kp.tok {s : Shared} (t : Nat) : Kp s { s with toks := t } := ⟨s.heap, t, rfl, fun _ _ e => e⟩
theorem Kp.push {s : Shared} (o : Obj) : Kp s { s with heap := s.heap.push o } := ⟨_, s.toks, rfl, fun _ _ e => Heap.get?_push_of_some _ e⟩
theorem Sit.up {T : Heap → Prop} [UpT T] {X : Addr → Prop} {env : Env} {Γ : Cx} {s s' : Shared} (x : Sit T X env Γ s) (k : Up s.heap s'.heap) : Sit T X env Γ s' :=
  ⟨x.fn, UpT.up x.top k, fun a h => let ⟨o, e⟩ := x.al a h; ⟨o, k a o e⟩, fun n d h => let ⟨v, a, b⟩ := x.nms n d h; ⟨v, a.up k, b.up k⟩⟩
theorem fresh_not {X : Addr → Prop} {h : Heap} (al : ∀ a, X a → ∃ o, h.get? a = some o) : ¬ X h.objs.size := fun x => by
  obtain ⟨o, e⟩ := al _ x
  exact absurd (Heap.lt_size e) (Nat.lt_irrefl _)
section
variable (T : Heap → Prop) (prog : Program) (w : World)
/-- an expression's judgement: it is read without an end but a value that reads as d, and nothing that stands is changed -/
structure Ev (k : Nat) (env : Env) (Γ : Cx) (e : Expr) (d : D) : Prop where
  run : ∀ (X : Addr → Prop) (A : Around) (s : Shared) (E : Value → Shared → Prop), Okn k A → Sit T X env Γ s → wpAny (model prog w) A (eval e env) (fun v s' => Kp s s' ∧ Rd X s'.heap v d) E s
/-- a test's judgement -/
structure Tst (k : Nat) (env : Env) (Γ : Cx) (e : Expr) (b : Bool) : Prop where
  run : ∀ (X : Addr → Prop) (A : Around) (s : Shared) (E : Value → Shared → Prop), Okn k A → Sit T X env Γ s → wpAny (model prog w) A (isTrue e env (eval e env)) (fun v s' => Kp s s' ∧ v = b) E s
/-- an operation on two values -/
noncomputable def Op2 (f : Value → Value → Sem Value) (a b d : D) : Prop :=
  ∀ (X : Addr → Prop) (A : Around) (s : Shared) (E : Value → Shared → Prop) (u v : Value), Okn 2 A → T s.heap → (∀ a, X a → ∃ o, s.heap.get? a = some o) → Rd X s.heap u a → Rd X s.heap v b →
    wpAny (model prog w) A (f u v) (fun v s' => Kp s s' ∧ Rd X s'.heap v d) E s
noncomputable def Op1 (f : Value → Sem Value) (a d : D) : Prop :=
  ∀ (X : Addr → Prop) (A : Around) (s : Shared) (E : Value → Shared → Prop) (u : Value), Okn 2 A → T s.heap → (∀ a, X a → ∃ o, s.heap.get? a = some o) → Rd X s.heap u a →
    wpAny (model prog w) A (f u) (fun v s' => Kp s s' ∧ Rd X s'.heap v d) E s
/-- a call of a value that stands in any heap that T holds of -/
noncomputable def Fn (k : Nat) (f : Value) (ds : List D) (d : D) : Prop :=
  ∀ (X : Addr → Prop) (A : Around) (s : Shared) (E : Value → Shared → Prop) (vs : List Value), Okn k A → T s.heap → (∀ a, X a → ∃ o, s.heap.get? a = some o) → Rds X s.heap vs ds →
    wpAny (model prog w) A (call f vs) (fun v s' => Kp s s' ∧ Rd X s'.heap v d) E s
end
section
variable {T : Heap → Prop} [UpT T] {prog : Program} {w : World} {k : Nat} {env : Env} {Γ : Cx}
theorem Ev.cast {e : Expr} {d d' : D} (h : Ev T prog w k env Γ e d) (x : d = d') : Ev T prog w k env Γ e d' := x ▸ h
theorem Tst.cast {e : Expr} {d d' : Bool} (h : Tst T prog w k env Γ e d) (x : d = d') : Tst T prog w k env Γ e d' := x ▸ h
theorem Ev.int {i : Int} {kk : Nat} {pos : Pos} : Ev T prog w k env Γ (.Constant (.int i) kk pos) (.int i) := .mk fun X A s E ok st =>
  wpAny_Constant_int ⟨.tok _, .int _ _⟩
theorem Ev.str {x : Str} {kk : Nat} {pos : Pos} : Ev T prog w k env Γ (.Constant (.str x) kk pos) (.str x) := .mk fun X A s E ok st =>
  Constant_str ⟨.tok _, .str _ _⟩
theorem Ev.name {n : Str} {pos : Pos} {d : D} (hm : (n, .dat d) ∈ Γ) (hd : (n == ("__debug__" : Str)) = false := by decide) : Ev T prog w k env Γ (.Name n pos) d := .mk fun X A s E ok st => by
  obtain ⟨v, hv, hr⟩ := st.nms n d hm
  refine wpAny_Name ?_ hd
  rcases hv with ⟨a, m, b, c⟩ | ⟨a, c, b, e⟩
  · exact wpAny_loadName_local st.fn a b c ⟨.rfl', hr⟩
  · exact wpAny_loadName_cell st.fn a b e ⟨.rfl', hr⟩
theorem Ev.bin {l r : Expr} {op : Operator} {pos : Pos} {a b d : D} (hl : Ev T prog w k env Γ l a) (hr : Ev T prog w k env Γ r b) (ho : Op2 T prog w (binaryOp op) a b d) (hk : 2 ≤ k := by omega) :
    Ev T prog w k env Γ (.BinOp l op r pos) d := .mk fun X A s E ok st => by
  refine wpAny_BinOp (wpAny_mono (hl.run X A s E ok st) (fun u s₁ h₁ => ?_) fun _ _ x => x)
  refine wpAny_mono (hr.run X A s₁ E ok (st.up h₁.1.up)) (fun v s₂ h₂ => ?_) fun _ _ x => x
  have st₂ := (st.up h₁.1.up).up h₂.1.up
  refine wpAny_mono (ho X A s₂ E u v (ok.less hk) st₂.top st₂.al (h₁.2.up h₂.1.up) h₂.2) (fun x s₃ h₃ => ?_) fun _ _ x => x
  exact ⟨(h₁.1.trans' h₂.1).trans' h₃.1, h₃.2⟩
theorem Ev.un {x : Expr} {op : UnaryOp} {pos : Pos} {a d : D} (hl : Ev T prog w k env Γ x a) (ho : Op1 T prog w (unaryOp op) a d) (hk : 2 ≤ k := by omega) : Ev T prog w k env Γ (.UnaryOp op x pos) d := .mk fun X A s E ok st => by
  refine wpAny_UnaryOp (wpAny_mono (hl.run X A s E ok st) (fun u s₁ h₁ => ?_) fun _ _ x => x)
  have st₂ := st.up h₁.1.up
  refine wpAny_mono (ho X A s₁ E u (ok.less hk) st₂.top st₂.al h₁.2) (fun x s₃ h₃ => ?_) fun _ _ x => x
  exact ⟨h₁.1.trans' h₃.1, h₃.2⟩
theorem Ev.cmp {l r : Expr} {op : CmpOp} {pos : Pos} {a b d : D} (hl : Ev T prog w k env Γ l a) (hr : Ev T prog w k env Γ r b) (ho : Op2 T prog w (compareOp op) a b d)
    (hm : behindInMarks op r = false := by with_unfolding_all rfl) (hk : 2 ≤ k := by omega) :
    Ev T prog w k env Γ (.Compare l [op] [r] pos) d := .mk fun X A s E ok st => by
  refine wpAny_Compare1 (hm := hm) (wpAny_mono (hl.run X A s E ok st) (fun u s₁ h₁ => ?_) fun _ _ x => x)
  refine wpAny_mono (hr.run X A s₁ E ok (st.up h₁.1.up)) (fun v s₂ h₂ => ?_) fun _ _ x => x
  have st₂ := (st.up h₁.1.up).up h₂.1.up
  refine wpAny_mono (ho X A s₂ E u v (ok.less hk) st₂.top st₂.al (h₁.2.up h₂.1.up) h₂.2) (fun x s₃ h₃ => ?_) fun _ _ x => x
  exact ⟨(h₁.1.trans' h₂.1).trans' h₃.1, h₃.2⟩
theorem Tst.cmp {l r : Expr} {op : CmpOp} {pos : Pos} {a b : D} {c : Bool} (hl : Ev T prog w k env Γ l a) (hr : Ev T prog w k env Γ r b) (ho : Op2 T prog w (compareOp op) a b (.bool c))
    (hm : behindInMarks op r = false := by with_unfolding_all rfl) (hk : 2 ≤ k := by omega) :
    Tst T prog w k env Γ (.Compare l [op] [r] pos) c := .mk fun X A s E ok st => by
  refine wpAny_isTrue_Compare1 (hm := hm) (wpAny_mono (hl.run X A s E ok st) (fun u s₁ h₁ => ?_) fun _ _ x => x)
  refine wpAny_mono (hr.run X A s₁ E ok (st.up h₁.1.up)) (fun v s₂ h₂ => ?_) fun _ _ x => x
  have st₂ := (st.up h₁.1.up).up h₂.1.up
  refine wpAny_mono (ho X A s₂ E u v (ok.less hk) st₂.top st₂.al (h₁.2.up h₂.1.up) h₂.2) (fun x s₃ h₃ => ?_) fun _ _ x => x
  obtain ⟨k₃, r₃⟩ := h₃
  cases r₃
  exact wpAny_truthy_bool ⟨(h₁.1.trans' h₂.1).trans' k₃, rfl⟩
theorem Tst.not {x : Expr} {pos : Pos} {b : Bool} (h : Tst T prog w k env Γ x b) : Tst T prog w k env Γ (.UnaryOp .Not x pos) (!b) := .mk fun X A s E ok st =>
  wpAny_isTrue_Not (wpAny_mono (h.run X A s E ok st) (fun v s' h' => ⟨h'.1, by rw [h'.2]⟩) fun _ _ x => x)
/-- a test that is a plain value -/
noncomputable def dTruth : D → Option Bool
  | .bool b => some b
  | .int i => some (i != 0)
  | _ => none
theorem Tst.val {e : Expr} {d : D} {b : Bool} (h : Ev T prog w k env Γ e d) (hb : dTruth d = some b)
    (he : ∀ env whole, isTrue e env whole = (do let v ← whole; standAt e.pos; holding [v] (truthy v)) := by intros; rfl) : Tst T prog w k env Γ e b := .mk fun X A s E ok st =>
  wpAny_isTrue_value (he := he _ _) (wpAny_mono (h.run X A s E ok st) (fun v s' h' => by
    obtain ⟨k', r⟩ := h'
    cases r with
    | bool c => cases hb; exact wpAny_truthy_bool ⟨k', rfl⟩
    | int i t => cases hb; exact P.truthy_int ⟨k', rfl⟩
    | _ => cases hb) fun _ _ x => x)
theorem Ev.ifexp {test body orelse : Expr} {pos : Pos} {b : Bool} {d₁ d₂ : D} (ht : Tst T prog w k env Γ test b) (h₁ : b = true → Ev T prog w k env Γ body d₁) (h₂ : b = false → Ev T prog w k env Γ orelse d₂) :
    Ev T prog w k env Γ (.IfExp test body orelse pos) (if b = true then d₁ else d₂) := .mk fun X A s E ok st => by
  refine wpAny_IfExp (wpAny_mono (ht.run X A s E ok st) (fun c s₁ h => ?_) fun _ _ x => x)
  obtain ⟨k₁, rfl⟩ := h
  cases c
  · exact wpAny_mono ((h₂ rfl).run X A s₁ E ok (st.up k₁.up)) (fun v s₂ h => ⟨k₁.trans' h.1, h.2⟩) fun _ _ x => x
  · exact wpAny_mono ((h₁ rfl).run X A s₁ E ok (st.up k₁.up)) (fun v s₂ h => ⟨k₁.trans' h.1, h.2⟩) fun _ _ x => x
/-- several expressions, one behind the other -/
structure Evs (T : Heap → Prop) (prog : Program) (w : World) (k : Nat) (env : Env) (Γ : Cx) (es : List Expr) (ds : List D) : Prop where
  run : ∀ (X : Addr → Prop) (A : Around) (s : Shared) (E : Value → Shared → Prop) (pos : Pos), Okn k A → Sit T X env Γ s → wpAny (model prog w) A (spliced (backTo pos (starEach es env))) (fun vs s' => Kp s s' ∧ Rds X s'.heap vs ds) E s
end
end Mine
end
section
set_option linter.unusedVariables false
set_option linter.unusedSectionVars false
namespace Mine
open PySem PySem.Calls
open Sem (wp)
section
variable {T : Heap → Prop} [UpT T] {prog : Program} {w : World} {k : Nat} {env : Env} {Γ : Cx}
theorem Evs.nil : Evs T prog w k env Γ [] [] := .mk fun X A s E pos ok st => spliced_nil ⟨.rfl', .nil⟩
theorem Evs.cons {e : Expr} {es : List Expr} {d : D} {ds : List D} (h : Ev T prog w k env Γ e d) (hs : Evs T prog w k env Γ es ds)
    (he : ∀ env, starEach (e :: es) env = (false, eval e env) :: starEach es env := by intro _; rfl) : Evs T prog w k env Γ (e :: es) (d :: ds) := .mk fun X A s E pos ok st => by
  rw [he]
  refine spliced_cons (wpAny_mono (h.run X A s E ok st) (fun v s₁ h₁ => ?_) fun _ _ x => x)
  refine wpAny_mono (hs.run X A s₁ E pos ok (st.up h₁.1.up)) (fun vs s₂ h₂ => ?_) fun _ _ x => x
  exact ⟨h₁.1.trans' h₂.1, .cons (h₁.2.up h₂.1.up) h₂.2⟩
/-- what a global name holds, where T stands -/
noncomputable def Glob (T : Heap → Prop) (g b : Addr) (n : Str) (v : Value) : Prop :=
  ∀ h, T h → (∃ mg, h.Ns g mg ∧ mg n = some v) ∨ (∃ mg mb, h.Ns g mg ∧ mg n = none ∧ h.Ns b mb ∧ mb n = some v)
theorem Glob.load {g b : Addr} {n : Str} {v : Value} (x : Glob T g b n v) {M : Model} {A : Around} {s : Shared} {E : Value → Shared → Prop} {Q : Value → Shared → Prop}
    (hg : env.globals = g) (hb : env.builtins = b) (ht : T s.heap) (h : Q v s) : wpAny M A (loadGlobal env n) Q E s := by
  subst hg hb
  rcases x s.heap ht with ⟨mg, a, c⟩ | ⟨mg, mb, a, c, d, e⟩
  · exact loadGlobal_global a c h
  · exact loadGlobal_builtin a c d e h
theorem Ev.glob {n : Str} {pos : Pos} {v : Value} {d : D} (x : Glob T env.globals env.builtins n v) (hr : ∀ X h, Rd X h v d) (hx : env.kindOf n = some .globalImplicit)
    (hd : (n == ("__debug__" : Str)) = false := by decide) : Ev T prog w k env Γ (.Name n pos) d := .mk fun X A s E ok st =>
  Name_function_global st.fn hx (x.load rfl rfl st.top ⟨.rfl', hr _ _⟩) hd
/-- a call of a function that a global name holds -/
theorem Ev.callF {n : Str} {p pos : Pos} {a : Addr} {e : Expr} {es : List Expr} {ds : List D} {d : D} (x : Glob T env.globals env.builtins n (.ref a)) (hf : ∀ h, T h → ∃ o fd, h.get? a = some o ∧ o.data = .func fd)
    (hF : Fn T prog w k (.ref a) ds d) (ha : Evs T prog w k env Γ (e :: es) ds) (hx : env.kindOf n = some .globalImplicit)
    (hd : (n == ("__debug__" : Str)) = false := by decide) (he : ∀ env, starEach (e :: es) env = (false, eval e env) :: starEach es env := by intro _; rfl) : Ev T prog w k env Γ (.Call (.Name n p) (e :: es) [] pos) d := .mk fun X A s E ok st => by
  refine wpAny_Call_NameR (Name_function_global st.fn hx (x.load rfl rfl st.top ?_) hd)
  obtain ⟨o, fd, ho, hfd⟩ := hf _ st.top
  refine callWith_function (o := o) (fd := fd) ?_
  have h1 := ha.run X A s E pos ok st
  rw [he] at h1 ⊢
  refine evalArgs_plain (wpAny_mono h1 (fun vs s₁ h₁ => ?_) fun _ _ x => x)
  refine ⟨⟨h₁.1.up _ _ ho, hfd⟩, ?_⟩
  have st₁ := st.up h₁.1.up
  exact wpAny_mono (hF X A s₁ E vs ok st₁.top st₁.al h₁.2) (fun v s₂ h₂ => ⟨h₁.1.trans' h₂.1, h₂.2⟩) fun _ _ x => x
theorem Ev.callB {n : Str} {p pos : Pos} {id : String} {e : Expr} {es : List Expr} {ds : List D} {d : D} (x : Glob T env.globals env.builtins n (.builtin id))
    (hF : Fn T prog w k (.builtin id) ds d) (ha : Evs T prog w k env Γ (e :: es) ds) (hx : env.kindOf n = some .globalImplicit)
    (hd : (n == ("__debug__" : Str)) = false := by decide) (he : ∀ env, starEach (e :: es) env = (false, eval e env) :: starEach es env := by intro _; rfl)
    (hp : ∀ pos env, (backTo pos (starEach (e :: es) env)).any (·.1) = false := by intros; rfl) : Ev T prog w k env Γ (.Call (.Name n p) (e :: es) [] pos) d := .mk fun X A s E ok st => by
  refine wpAny_Call_NameR (Name_function_global st.fn hx (x.load rfl rfl st.top ?_) hd)
  refine callWith_builtin (hp _ _) ?_
  have h1 := ha.run X A s E pos ok st
  rw [he] at h1 ⊢
  refine evalArgs_plain (wpAny_mono h1 (fun vs s₁ h₁ => ?_) fun _ _ x => x)
  have st₁ := st.up h₁.1.up
  exact wpAny_mono (hF X A s₁ E vs ok st₁.top st₁.al h₁.2) (fun v s₂ h₂ => ⟨h₁.1.trans' h₂.1, h₂.2⟩) fun _ _ x => x
theorem Ev.callT {n : Str} {p pos : Pos} {id : String} {e : Expr} {es : List Expr} {ds : List D} {d : D} (x : Glob T env.globals env.builtins n (.type id))
    (hF : Fn T prog w k (.type id) ds d) (ha : Evs T prog w k env Γ (e :: es) ds) (hx : env.kindOf n = some .globalImplicit)
    (hd : (n == ("__debug__" : Str)) = false := by decide) (he : ∀ env, starEach (e :: es) env = (false, eval e env) :: starEach es env := by intro _; rfl)
    (hp : ∀ pos env, (backTo pos (starEach (e :: es) env)).any (·.1) = false := by intros; rfl) : Ev T prog w k env Γ (.Call (.Name n p) (e :: es) [] pos) d := .mk fun X A s E ok st => by
  refine wpAny_Call_NameR (Name_function_global st.fn hx (x.load rfl rfl st.top ?_) hd)
  refine PySem.callWith_type (hp _ _) ?_
  have h1 := ha.run X A s E pos ok st
  rw [he] at h1 ⊢
  refine evalArgs_plain (wpAny_mono h1 (fun vs s₁ h₁ => ?_) fun _ _ x => x)
  have st₁ := st.up h₁.1.up
  exact wpAny_mono (hF X A s₁ E vs ok st₁.top st₁.al h₁.2) (fun v s₂ h₂ => ⟨h₁.1.trans' h₂.1, h₂.2⟩) fun _ _ x => x
theorem Ev.list {es : List Expr} {pos : Pos} {ds : List D} (h : Evs T prog w k env Γ es ds) (hl : ds.length ≤ sizeLine) : Ev T prog w k env Γ (.List es pos) (.list ds) := .mk fun X A s E ok st => by
  refine wpAny_List (wpAny_mono (h.run X A s E pos ok st) (fun vs s₁ h₁ => ?_) fun _ _ x => x)
  refine ⟨by rw [h₁.2.length]; exact hl, h₁.1.trans' (.push _), ?_⟩
  exact .list ⟨0, Heap.get?_push_size _ rfl⟩ (fresh_not (st.up h₁.1.up).al) (h₁.2.up fun _ _ e => Heap.get?_push_of_some _ e)
theorem Ev.tup {es : List Expr} {kk : Nat} {pos : Pos} {ds : List D} (h : Evs T prog w k env Γ es ds) (hl : ds.length ≤ sizeLine) : Ev T prog w k env Γ (.Tuple es kk pos) (.tup ds) := .mk fun X A s E ok st => by
  refine wpAny_Tuple (wpAny_mono (h.run X A s E pos ok st) (fun vs s₁ h₁ => ?_) fun _ _ x => x)
  refine ⟨by rw [h₁.2.length]; exact hl, h₁.1.trans' (.push _), ?_⟩
  exact .tup ⟨0, Heap.get?_push_size _ rfl⟩ (fresh_not (st.up h₁.1.up).al) (h₁.2.up fun _ _ e => Heap.get?_push_of_some _ e)
/-- the iterator owns no tuple that a target takes apart -/
noncomputable def GoesFree (prog : Program) (w : World) (I : Addr) (St : Nat → Heap → Prop) : Prop :=
  ∀ (i : Nat) (s : Shared) (target : Expr) (v : Value) (A : Around) (Q : Unit → Shared → Prop) (E : Value → Shared → Prop), St i s.heap → Q () s → wpAny (model prog w) A (letOwnedTupleGo target (.ref I) v) Q E s
theorem letGo_of {A : Around} {s : Shared} {I : Addr} {o : Obj} {nm : String} {target : Expr} {v : Value} {Q : Unit → Shared → Prop} {E : Value → Shared → Prop} (ho : s.heap.get? I = some o) (hc : o.cls = .type nm)
    (hn : (["enumerate", "zip", "dict_itemiterator", "dict_reverseitemiterator", "odict_iterator", "itertools.zip_longest", "itertools.pairwise"].contains nm) = false) (h : Q () s) : wpAny (model prog w) A (letOwnedTupleGo target (.ref I) v) Q E s := by
  have go : wpAny (model prog w) A (do
      let o ← load I
      match o.cls, o.data with
      | .type n, .fields vs =>
        if ["enumerate", "zip", "dict_itemiterator", "dict_reverseitemiterator", "odict_iterator", "itertools.zip_longest", "itertools.pairwise"].contains n && vs[0]? == some (match v with | .ref a => rawInt a | _ => .none) then
          rule "for.unpacks-the-owned-tuple"
          updateField I 0 .none
      | _, _ => pure ()) Q E s := by
    refine wpAny_bind (wpAny_load ho ?_)
    rw [hc]
    cases hd : o.data <;> try exact wpAny_pure h
    simp only [hn, Bool.false_and, Bool.false_eq_true, if_false]; exact wpAny_pure h
  unfold letOwnedTupleGo
  split
  · split
    · rename_i h1; cases h1; exact go
    · exact wpAny_pure h
  · split
    · rename_i h1; cases h1; exact go
    · exact wpAny_pure h
  · exact wpAny_pure h
/-- it walks over ds -/
noncomputable def IterOf (prog : Program) (w : World) (A : Around) (X : Addr → Prop) (s₁ s₂ : Shared) (it : Value) (ds : List D) : Prop :=
  Kp s₁ s₂ ∧ ∃ (I : Addr) (fp wr : List Addr) (P : Nat → Value → Prop) (St : Nat → Heap → Prop), it = .ref I ∧ Walks prog w A I fp wr ds.length P St ∧ ds.length ≤ sizeLine ∧ St 0 s₂.heap ∧
    (∀ b ∈ fp, b < s₂.heap.objs.size) ∧ (∀ b ∈ fp, ¬ X b) ∧ (∀ b ∈ wr, s₁.heap.get? b = none) ∧ (∀ i h, St i h → ∀ b ∈ fp, ∃ o, h.get? b = some o) ∧ GoesFree prog w I St ∧
    (∀ i v, i < ds.length → P i v → ∃ d, ds[i]? = some d ∧ Rd X s₁.heap v d)
structure It (T : Heap → Prop) (prog : Program) (w : World) (k : Nat) (env : Env) (Γ : Cx) (e : Expr) (ds : List D) : Prop where
  run : ∀ (X : Addr → Prop) (A : Around) (s : Shared) (E : Value → Shared → Prop), Okn k A → Sit T X env Γ s →
    wpAny (model prog w) A (eval e env) (fun v s₁ => Kp s s₁ ∧ wpAny (model prog w) A (pyIter v) (fun it s₂ => IterOf prog w A X s₁ s₂ it ds) E s₁) E s
noncomputable def iterD : D → Option (List D)
  | .list ds => some ds
  | .tup ds => some ds
  | .str x => some (x.cps.toList.map fun c => .str ⟨#[c]⟩)
  | _ => none
theorem dead_size (h : Heap) : h.get? h.objs.size = none := by
  cases e : h.get? h.objs.size with
  | none => rfl
  | some o => exact absurd (Heap.lt_size e) (Nat.lt_irrefl _)
theorem IterOf.of {A : Around} {X : Addr → Prop} {s : Shared} {E : Value → Shared → Prop} {v : Value} {d : D} {ds : List D} (hh : A.handled = none) (al : ∀ a, X a → ∃ o, s.heap.get? a = some o) (r : Rd X s.heap v d) (hd : iterD d = some ds) (hl : ds.length ≤ sizeLine) :
    wpAny (model prog w) A (pyIter v) (fun it s₂ => IterOf prog w A X s s₂ it ds) E s := by
  have nI : ¬ X s.heap.objs.size := fresh_not al
  have dI := dead_size s.heap
  cases r with
  | @list a vs ds' p x rs =>
    cases hd
    have hlt : a < s.heap.objs.size := by obtain ⟨n, e⟩ := p; exact Heap.lt_size e
    have W := Walks.list (prog := prog) (w := w) hh s.heap.objs.size a (Nat.ne_of_lt hlt) vs.toArray
    rw [show vs.toArray.size = ds.length from by rw [← rs.length]; simp] at W
    refine wpAny_pyIter_list p.isList ⟨.push _, _, _, _, _, _, rfl, W, hl, And.intro ⟨_, Heap.get?_push_size _ rfl, rfl, rfl⟩ (p.isList.push _), ?_, ?_, ?_, ?_, ?_, ?_⟩
    · intro b hb; simp at hb; rw [Heap.size_push]; rcases hb with rfl | rfl; exact Nat.lt_succ_self _; exact Nat.lt_succ_of_lt hlt
    · intro b hb; simp at hb; rcases hb with rfl | rfl; exact nI; exact x
    · intro b hb; simp at hb; subst hb; exact dI
    · intro i h st b hb; simp at hb; rcases hb with rfl | rfl; · obtain ⟨o, ho, _⟩ := st.1; exact ⟨o, ho⟩
      · obtain ⟨o, ho, _⟩ := st.2; exact ⟨o, ho⟩
    · intro i s' tg u A' Q' E' st hq; obtain ⟨o, ho, hc, _⟩ := st.1; exact letGo_of ho hc (by decide) hq
    · intro i v _ hv; exact rs.at (by simpa using hv)
  | @tup a vs ds' p x rs =>
    cases hd
    have hlt : a < s.heap.objs.size := by obtain ⟨n, e⟩ := p; exact Heap.lt_size e
    have pt : s.heap.IsTuple a vs.toArray := by obtain ⟨n, e⟩ := p; exact ⟨_, e, rfl, n, rfl⟩
    have W := Walks.tuple (prog := prog) (w := w) hh s.heap.objs.size a (Nat.ne_of_lt hlt) vs.toArray
    rw [show vs.toArray.size = ds.length from by rw [← rs.length]; simp] at W
    refine wpAny_pyIter_tuple pt ⟨.push _, _, _, _, _, _, rfl, W, hl, And.intro ⟨_, Heap.get?_push_size _ rfl, rfl, rfl⟩ (pt.push _), ?_, ?_, ?_, ?_, ?_, ?_⟩
    · intro b hb; simp at hb; rw [Heap.size_push]; rcases hb with rfl | rfl; exact Nat.lt_succ_self _; exact Nat.lt_succ_of_lt hlt
    · intro b hb; simp at hb; rcases hb with rfl | rfl; exact nI; exact x
    · intro b hb; simp at hb; subst hb; exact dI
    · intro i h st b hb; simp at hb; rcases hb with rfl | rfl; · obtain ⟨o, ho, _⟩ := st.1; exact ⟨o, ho⟩
      · obtain ⟨o, ho, _⟩ := st.2; exact ⟨o, ho⟩
    · intro i s' tg u A' Q' E' st hq; obtain ⟨o, ho, hc, _⟩ := st.1; exact letGo_of ho hc (by decide) hq
    · intro i v _ hv; exact rs.at (by simpa using hv)
  | str x t =>
    cases hd
    have hlen : (x.cps.toList.map fun c => D.str ⟨#[c]⟩).length = x.cps.size := by simp
    have sg : ∀ i v, i < (x.cps.toList.map fun c => D.str ⟨#[c]⟩).length → SignAt x i v → ∃ d, (x.cps.toList.map fun c => D.str ⟨#[c]⟩)[i]? = some d ∧ Rd X s.heap v d := by
      rintro i v _ ⟨c, u, hc, rfl⟩
      refine ⟨.str ⟨#[c]⟩, ?_, .str _ _⟩
      simp [hc]
    cases ha : x.cps.all (· < 128)
    · have W := Walks.strWide (prog := prog) (w := w) hh s.heap.objs.size x t
      rw [← hlen] at W
      refine wpAny_pyIter_wide ha ⟨.push _, _, _, _, _, _, rfl, W, hl, Exists.intro _ (And.intro (Heap.get?_push_size _ rfl) ⟨rfl, rfl⟩), ?_, ?_, ?_, ?_, ?_, sg⟩
      · intro b hb; simp at hb; rw [Heap.size_push]; subst hb; exact Nat.lt_succ_self _
      · intro b hb; simp at hb; subst hb; exact nI
      · intro b hb; simp at hb; subst hb; exact dI
      · intro i h st b hb; simp at hb; subst hb; obtain ⟨o, ho, _⟩ := st; exact ⟨o, ho⟩
      · intro i s' tg u A' Q' E' st hq; obtain ⟨o, ho, hc, _⟩ := st; exact letGo_of ho hc (by decide) hq
    · have W := Walks.strAscii (prog := prog) (w := w) hh s.heap.objs.size x t
      rw [← hlen] at W
      refine wpAny_pyIter_ascii ha ⟨.push _, _, _, _, _, _, rfl, W, hl, Exists.intro _ (And.intro (Heap.get?_push_size _ rfl) ⟨rfl, rfl⟩), ?_, ?_, ?_, ?_, ?_, sg⟩
      · intro b hb; simp at hb; rw [Heap.size_push]; subst hb; exact Nat.lt_succ_self _
      · intro b hb; simp at hb; subst hb; exact nI
      · intro b hb; simp at hb; subst hb; exact dI
      · intro i h st b hb; simp at hb; subst hb; obtain ⟨o, ho, _⟩ := st; exact ⟨o, ho⟩
      · intro i s' tg u A' Q' E' st hq; obtain ⟨o, ho, hc, _⟩ := st; exact letGo_of ho hc (by decide) hq
  | _ => cases hd
theorem It.of {e : Expr} {d : D} {ds : List D} (h : Ev T prog w k env Γ e d) (hd : iterD d = some ds) (hl : ds.length ≤ sizeLine) : It T prog w k env Γ e ds := .mk fun X A s E ok st =>
  wpAny_mono (h.run X A s E ok st) (fun v s₁ h₁ => ⟨h₁.1, IterOf.of ok.hh (st.up h₁.1.up).al h₁.2 hd hl⟩) fun _ _ x => x
/-- the tests of a comprehension's clause -/
structure Tsts (T : Heap → Prop) (prog : Program) (w : World) (k : Nat) (env : Env) (Γ : Cx) (cs : List Expr) (b : Bool) : Prop where
  run : ∀ (X : Addr → Prop) (A : Around) (s : Shared) (E : Value → Shared → Prop), Okn k A → Sit T X env Γ s →
    wpAny (model prog w) A (forIn cs true fun c r => if r = true then do let ok ← isTrue c env (eval c env); pure (ForInStep.yield ok) else pure (ForInStep.yield r)) (fun v s' => Kp s s' ∧ v = b) E s
theorem Tsts.nil : Tsts T prog w k env Γ [] true := .mk fun X A s E ok st => wpAny_tests_nil ⟨.rfl', rfl⟩
theorem Tsts.one {c : Expr} {b : Bool} (h : Tst T prog w k env Γ c b) : Tsts T prog w k env Γ [c] b := .mk fun X A s E ok st => wpAny_tests_one (h.run X A s E ok st)
end
end Mine
end
section
set_option linter.unusedVariables false
set_option linter.unusedSectionVars false
namespace Mine
open PySem PySem.Calls
open Sem (wp)
section
variable {T : Heap → Prop} [UpT T] {prog : Program} {w : World} {k : Nat} {env : Env} {Γ : Cx}
noncomputable def rangeD (a : Int) (n : Nat) : List D := (List.range n).map fun (i : Nat) => .int (a + (i : Int))
theorem range_iterOf {A : Around} {X : Addr → Prop} {s : Shared} {E : Value → Shared → Prop} {a b : Int} {t u v : Tok} {r : Addr} (hh : A.handled = none) (al : ∀ a, X a → ∃ o, s.heap.get? a = some o)
    (hr : IsRange s.heap r a b 1 t u v) (h1 : -(2 ^ 62) ≤ a) (h2 : a < 2 ^ 62) (h3 : -(2 ^ 62) ≤ b) (h4 : b < 2 ^ 62) (hl : (b - a).toNat ≤ sizeLine) :
    wpAny (model prog w) A (pyIter (.ref r)) (fun it s₂ => IterOf prog w A X s s₂ it (rangeD a (b - a).toNat)) E s := by
  have nI : ¬ X s.heap.objs.size := fresh_not al
  have dI := dead_size s.heap
  refine wpAny_pyIter_range hr (small_one h1 h2 h3 h4) ?_
  have hsz : Builtin.Range.rangeSize a b 1 = ((b - a).toNat : Int) := by rw [rangeSize_one]; split <;> omega
  have e : (rangeD a (b - a).toNat).length = (b - a).toNat := by simp [rangeD]
  have W := Walks.range (prog := prog) (w := w) hh s.heap.objs.size a 1 (b - a).toNat
  rw [← e] at W
  refine ⟨.push _, _, _, _, _, _, rfl, W, by rw [e]; exact hl, ?_, ?_, ?_, ?_, ?_, ?_, ?_⟩
  · have e1 : (a + ((0 : Nat) : Int) * 1) = a := by simp
    have e2 : (((rangeD a (b - a).toNat).length : Int) - ((0 : Nat) : Int)) = Builtin.Range.rangeSize a b 1 := by rw [hsz, e]; simp
    show IsRangeIter _ _ (a + ((0 : Nat) : Int) * 1) (((rangeD a (b - a).toNat).length : Int) - ((0 : Nat) : Int)) 1
    rw [e1, e2]
    exact Heap.get?_push_size _ rfl
  · intro b hb; simp at hb; rw [Heap.size_push]; subst hb; exact Nat.lt_succ_self _
  · intro b hb; simp at hb; subst hb; exact nI
  · intro b hb; simp at hb; subst hb; exact dI
  · intro i h st b hb; simp at hb; subst hb; exact ⟨_, st⟩
  · intro i s' tg u A' Q' E' st hq; exact letGo_of st rfl (by decide) hq
  · rintro i v hlt ⟨tk, rfl⟩
    rw [e] at hlt
    refine ⟨.int (a + i), ?_, ?_⟩
    · simp [rangeD, hlt]
    · have := Rd.int (X := X) (h := s.heap) (a + i) tk
      simpa using this
theorem It.range1 {n : Str} {p pos : Pos} {e : Expr} {b : Int} (x : Glob T env.globals env.builtins n (.type "range")) (h : Ev T prog w k env Γ e (.int b)) (hx : env.kindOf n = some .globalImplicit)
    (h0 : 0 ≤ b) (h1 : b ≤ sizeLine)
    (hd : (n == ("__debug__" : Str)) = false := by decide) (he : ∀ env, starEach [e] env = [(false, eval e env)] := by intro _; rfl) :
    It T prog w k env Γ (.Call (.Name n p) [e] [] pos) (rangeD 0 b.toNat) := .mk fun X A s E ok st => by
  refine wpAny_Call_NameR (Name_function_global st.fn hx (x.load rfl rfl st.top ?_) hd)
  rw [he]
  refine PySem.callWith_type rfl (Calls.evalArgs_plain (Calls.spliced_cons (wpAny_mono (h.run X A s E ok st) (fun nv s₁ h₁ => Calls.spliced_nil ?_) fun _ _ e => e)))
  obtain ⟨k₁, r₁⟩ := h₁
  obtain ⟨tt, rfl⟩ : ∃ t, nv = .int b t := by cases r₁; exact ⟨_, rfl⟩
  refine call_range_1 ?_
  have hs : (sizeLine : Int) = 2 ^ 24 := by decide
  have st₁ := st.up k₁.up
  have kk : Kp s₁ { s₁ with heap := s₁.heap.push { cls := .type "range", data := .fields #[.int 0 s₁.toks, .int b tt, .int 1 (s₁.toks + 1)] }, toks := s₁.toks + 1 + 1 } := ⟨_, _, rfl, fun _ _ e => Heap.get?_push_of_some _ e⟩
  refine ⟨k₁.trans' kk, ?_⟩
  have := range_iterOf (prog := prog) (w := w) (A := A) (X := X) (E := E) (s := { s₁ with heap := s₁.heap.push { cls := .type "range", data := .fields #[.int 0 s₁.toks, .int b tt, .int 1 (s₁.toks + 1)] }, toks := s₁.toks + 1 + 1 }) ok.hh (st₁.up kk.up).al (IsRange.new s₁.heap 0 b 1 s₁.toks _ (s₁.toks + 1)) (by decide) (by decide) (by omega) (by omega) (by simp only [Int.sub_zero]; omega)
  rw [Int.sub_zero] at this
  exact this
theorem It.range2 {n : Str} {p pos : Pos} {e e' : Expr} {a b : Int} (x : Glob T env.globals env.builtins n (.type "range")) (h : Ev T prog w k env Γ e (.int a)) (h' : Ev T prog w k env Γ e' (.int b)) (hx : env.kindOf n = some .globalImplicit)
    (h0 : 0 ≤ a) (h1 : a ≤ sizeLine) (h2 : 0 ≤ b) (h3 : b ≤ sizeLine)
    (hd : (n == ("__debug__" : Str)) = false := by decide) (he : ∀ env, starEach [e, e'] env = [(false, eval e env), (false, eval e' env)] := by intro _; rfl) :
    It T prog w k env Γ (.Call (.Name n p) [e, e'] [] pos) (rangeD a (b - a).toNat) := .mk fun X A s E ok st => by
  refine wpAny_Call_NameR (Name_function_global st.fn hx (x.load rfl rfl st.top ?_) hd)
  rw [he]
  refine PySem.callWith_type rfl (Calls.evalArgs_plain (Calls.spliced_cons (wpAny_mono (h.run X A s E ok st) (fun nv s₁ h₁ => ?_) fun _ _ e => e)))
  obtain ⟨k₁, r₁⟩ := h₁
  obtain ⟨ta, rfl⟩ : ∃ t, nv = .int a t := by cases r₁; exact ⟨_, rfl⟩
  have st₁ := st.up k₁.up
  refine Calls.spliced_cons (wpAny_mono (h'.run X A s₁ E ok st₁) (fun nv s₂ h₂ => Calls.spliced_nil ?_) fun _ _ e => e)
  obtain ⟨k₂, r₂⟩ := h₂
  obtain ⟨tb, rfl⟩ : ∃ t, nv = .int b t := by cases r₂; exact ⟨_, rfl⟩
  refine call_range_2 ?_
  have hs : (sizeLine : Int) = 2 ^ 24 := by decide
  have st₂ := st₁.up k₂.up
  have kk : Kp s₂ { s₂ with heap := s₂.heap.push { cls := .type "range", data := .fields #[.int a ta, .int b tb, .int 1 s₂.toks] }, toks := s₂.toks + 1 } := ⟨_, _, rfl, fun _ _ e => Heap.get?_push_of_some _ e⟩
  refine ⟨(k₁.trans' k₂).trans' kk, ?_⟩
  exact range_iterOf (prog := prog) (w := w) (A := A) (X := X) (E := E) (s := { s₂ with heap := s₂.heap.push { cls := .type "range", data := .fields #[.int a ta, .int b tb, .int 1 s₂.toks] }, toks := s₂.toks + 1 }) ok.hh (st₂.up kk.up).al (IsRange.new s₂.heap a b 1 _ _ s₂.toks) (by omega) (by omega) (by omega) (by omega) (by omega)
/-- what a comprehension captures -/
structure Caught (env : Env) (scope : Scope) (cl : List (Str × Addr)) (Γ Γc : Cx) : Prop where
  clos : closureFor scope env = pure cl
  nocell : ∀ y ∈ scope.names, y.2 ≠ .cell
  kind : scope.kind = .function
  names : ∀ y ∈ scope.names, y.2 = .local → scope.names.lookup y.1 = some .local
  got : ∀ p ∈ Γc, p ∈ Γ ∧ env.kindOf p.1 = some .cell ∧ scope.names.lookup p.1 = some .free ∧ cl.lookup p.1 = env.cells.lookup p.1
theorem lookup_relabel_cell {env : Env} (hf : env.scope.kind = .function) : ∀ {names : List (Str × NameKind)} {x : Str}, names.lookup x = some .free → env.kindOf x = some .cell →
    (names.map fun (n, k) => if (k == NameKind.free && env.scope.kind == .function && env.kindOf n == some .cell) then (n, NameKind.cell) else (n, k)).lookup x = some .cell
  | [], _, h, _ => by simp at h
  | (n, kd) :: r, x, h, hc => by
    have ih := @lookup_relabel_cell env hf r x
    simp only [List.map_cons]
    rw [List.lookup_cons] at h
    cases hx : x == n with
    | true =>
      have hxn : x = n := by simpa using hx
      subst hxn
      rw [hx] at h; cases h
      simp [hf, hc, List.lookup_cons]
    | false =>
      rw [hx] at h
      split <;> simp only [List.lookup_cons, hx] <;> exact ih h hc
theorem Sit.comp {X X' : Addr → Prop} {s s' : Shared} {scope : Scope} {cl : List (Str × Addr)} {Γc : Cx} {x : Str} {d : D} {v : Value} {C : Addr} {m : Str → Option Value} (st : Sit T X env Γ s) (ct : Caught env scope cl Γ Γc)
    (hx : scope.names.lookup x = some .local) (hxc : ∀ p ∈ Γc, p.1 ≠ x) (hX : Wider X s.heap X' s'.heap) (al : ∀ a, X' a → ∃ o, s'.heap.get? a = some o) (top : T s'.heap)
    (hcells : ∀ c v, s.heap.IsCell c v → s'.heap.IsCell c v) (hn : s'.heap.Ns C m) (hm : m x = some v) (hr : Rd X' s'.heap v d) : Sit T X' (compEnvC scope cl C env) ((x, .dat d) :: Γc) s' where
  fn := by show (relabel scope env).kind = .function; exact ct.kind
  top := top
  al := al
  nms := fun n d' hmem => by
    rcases List.mem_cons.mp hmem with e | hmem
    · cases e
      exact ⟨v, .inl ⟨lookup_relabel_local hx, m, hn, hm⟩, hr⟩
    · obtain ⟨hΓ, hk, hfr, hcl⟩ := ct.got _ hmem
      obtain ⟨v', hv', hr'⟩ := st.nms n d' hΓ
      refine ⟨v', .inr ⟨lookup_relabel_cell st.fn hfr hk, ?_⟩, hr'.mono hX⟩
      rcases hv' with ⟨a, _⟩ | ⟨_, c, hc, hcell⟩
      · rw [hk] at a; cases a
      · exact ⟨c, by show cl.lookup n = _; rw [hcl]; exact hc, hcells _ _ hcell⟩
end
end Mine
end
section
set_option linter.unusedVariables false
set_option linter.unusedSectionVars false
namespace Mine
open PySem PySem.Calls
open Sem (wp)
/-- one turn of a comprehension's last clause, and what is asked of it -/
noncomputable def LoopRule (prog : Program) (w : World) (A : Around) (code : Code) (it acc : Value) (target : Expr) (ifs : List Expr) (elt : Expr) (env : Env) : Prop :=
  ∀ (R : Result → Shared → Prop) (s : Shared) (I : Nat → Shared → Prop),
    (∀ n s, I n s → wpAny (model prog w) A (pyNext it) (fun r s₁ => match r with
      | none => R (.ok .next) s₁
      | some v => wpAny (model prog w) A (assign target env v) (fun _ s₂ =>
          wpAny (model prog w) A (forIn ifs true fun c r => if r = true then do let ok ← isTrue c env (eval c env); pure (ForInStep.yield ok) else pure (ForInStep.yield r)) (fun ok s₃ =>
            if ok = true then wpAny (model prog w) A (eval elt env) (fun x s₄ =>
              wpAny (model prog w) A (call (.builtin "list.append") [acc, x]) (fun _ s₅ => ∃ m, m < n ∧ I m s₅) (notedBy (model prog w) A env fun e s' => R (.error e) s') s₄) (notedBy (model prog w) A env fun e s' => R (.error e) s') s₃
            else ∃ m, m < n ∧ I m s₃) (notedBy (model prog w) A env fun e s' => R (.error e) s') s₂) (notedBy (model prog w) A env fun e s' => R (.error e) s') s₁) (notedBy (model prog w) A env fun e s' => R (.error e) s') s) →
    ∀ n, I n s → codeAny (model prog w) A code R s
theorem LoopRule.one {prog : Program} {w : World} {A : Around} {elt iter : Expr} {x : Str} {px : Pos} {ifs : List Expr} {scope : Scope} {pos : Pos} {it acc : Value} {env : Env} :
    LoopRule prog w A (.compLoop (.ListComp elt [⟨.Name x px, iter, ifs, 0⟩] scope pos) 0 it acc env) it acc (.Name x px) ifs elt env :=
  fun R s I turn n h => codeAny_compLoop_tests I turn n h
section
variable {T : Heap → Prop} [UpT T] {prog : Program} {w : World} {k : Nat} {env : Env} {Γ : Cx}
theorem Sit.comps {X X' : Addr → Prop} {s s' : Shared} {scope : Scope} {cl : List (Str × Addr)} {Γc Γl : Cx} {C : Addr} {m : Str → Option Value} (st : Sit T X env Γ s) (ct : Caught env scope cl Γ Γc)
    (hX : Wider X s.heap X' s'.heap) (al : ∀ a, X' a → ∃ o, s'.heap.get? a = some o) (top : T s'.heap)
    (hcells : ∀ c v, s.heap.IsCell c v → s'.heap.IsCell c v) (hn : s'.heap.Ns C m)
    (hl : ∀ n d, (n, Loc.dat d) ∈ Γl → scope.names.lookup n = some .local ∧ ∃ v, m n = some v ∧ Rd X' s'.heap v d) : Sit T X' (compEnvC scope cl C env) (Γl ++ Γc) s' where
  fn := by show (relabel scope env).kind = .function; exact ct.kind
  top := top
  al := al
  nms := fun n d' hmem => by
    rcases List.mem_append.mp hmem with hmem | hmem
    · obtain ⟨hlk, v, hm, hr⟩ := hl n d' hmem
      exact ⟨v, .inl ⟨lookup_relabel_local hlk, m, hn, hm⟩, hr⟩
    · obtain ⟨hΓ, hk, hfr, hcl⟩ := ct.got _ hmem
      obtain ⟨v', hv', hr'⟩ := st.nms n d' hΓ
      refine ⟨v', .inr ⟨lookup_relabel_cell st.fn hfr hk, ?_⟩, hr'.mono hX⟩
      rcases hv' with ⟨a, _⟩ | ⟨_, c, hc, hcell⟩
      · rw [hk] at a; cases a
      · exact ⟨c, by show cl.lookup n = _; rw [hcl]; exact hc, hcells _ _ hcell⟩
abbrev Xy (X : Addr → Prop) (Y : List Addr) : Addr → Prop := fun a => X a ∨ a ∈ Y
theorem comp_run {α : Type} {X : Addr → Prop} {A : Around} {s s₃ : Shared} {R : Result → Shared → Prop} {code : Code} {x : Str} {px : Pos} {ifs : List Expr} {elt : Expr} {scope : Scope} {cl : List (Str × Addr)} {Γc Γ0 : Cx} {C D I : Addr} {Y : List Addr}
    {m0 : Str → Option Value} {fp wr : List Addr} {P : Nat → Value → Prop} {St : Nat → Heap → Prop} {xs : List α} {enc : α → Mine.D} {p : α → Bool} {f : α → Mine.D} {ys0 : List Value} {es0 : List Mine.D}
    (LR : LoopRule prog w A code (.ref I) (.ref D) (.Name x px) ifs elt (compEnvC scope cl C env)) (ok : Okn k A)
    (st : Sit T X env Γ s) (ct : Caught env scope cl Γ Γc) (hx : scope.names.lookup x = some .local)
    (hY : ∀ a ∈ Y, s.heap.get? a = none) (hC : C ∈ Y) (hD : D ∈ Y) (hwr : ∀ b ∈ wr, b ∈ Y) (hCD : C ≠ D) (hCf : C ∉ fp) (hDf : D ∉ fp)
    (up : Up s.heap s₃.heap) (hYal : ∀ a ∈ Y, ∃ o, s₃.heap.get? a = some o) (hacc : s₃.heap.PlainList D ys0.toArray) (hys : Rds (Xy X Y) s₃.heap ys0 es0)
    (hn : s₃.heap.Ns C m0) (h0 : ∀ n d, (n, Loc.dat d) ∈ Γ0 → n ≠ x ∧ scope.names.lookup n = some .local ∧ ∃ v, m0 n = some v ∧ Rd (Xy X Y) s₃.heap v d)
    (W : Walks prog w A I fp wr xs.length P St) (hst : St 0 s₃.heap) (hal : ∀ i h, St i h → ∀ b ∈ wr, ∃ o, h.get? b = some o)
    (hP : ∀ i v, i < xs.length → P i v → ∃ a, xs[i]? = some a ∧ Rd (Xy X Y) s₃.heap v (enc a))
    (htests : ∀ a ∈ xs, Tsts T prog w k (compEnvC scope cl C env) ((x, .dat (enc a)) :: Γ0 ++ Γc) ifs (p a))
    (helt : ∀ a ∈ xs, p a = true → Ev T prog w k (compEnvC scope cl C env) ((x, .dat (enc a)) :: Γ0 ++ Γc) elt (f a))
    (hsz : es0.length + xs.length ≤ sizeLine)
    (hR : ∀ h' tk m' ys, h'.Ns C m' → h'.PlainList D ys.toArray → Rds (Xy X Y) h' ys (es0 ++ (xs.filter p).map f) → (∀ b o, b ≠ C → b ∉ wr → b ≠ D → s₃.heap.get? b = some o → h'.get? b = some o) →
      (∀ a ∈ Y, a ∉ wr → ∃ o, h'.get? a = some o) → R (.ok .next) { s₃ with heap := h', toks := tk }) :
    codeAny (model prog w) A code R s₃ := by
  have hCw : C ∉ wr := fun h => hCf (W.sub _ h)
  have hDw : D ∉ wr := fun h => hDf (W.sub _ h)
  have aliveNot : ∀ b o, s.heap.get? b = some o → b ∉ Y := fun b o e hb => by rw [hY b hb] at e; cases e
  refine LR R s₃ (fun n s' => ∃ h' tk m' ys i, s' = { s₃ with heap := h', toks := tk } ∧ St i h' ∧ h'.PlainList D ys.toArray ∧ h'.Ns C m' ∧
      (∀ y, y ≠ x → m' y = m0 y) ∧ Rds (Xy X Y) h' ys (es0 ++ ((xs.take i).filter p).map f) ∧ i ≤ xs.length ∧ n = xs.length + 1 - i ∧
      (∀ b o, b ≠ C → b ∉ wr → b ≠ D → s₃.heap.get? b = some o → h'.get? b = some o)) ?_ (xs.length + 1)
    ⟨s₃.heap, s₃.toks, m0, ys0, 0, rfl, hst, hacc, hn, fun _ _ => rfl, by simpa using hys, Nat.zero_le _, rfl, fun _ _ _ _ _ e => e⟩
  rintro n s' ⟨h', tk, m', ys, i, rfl, hst', hacc', hn', hm', hF, hi, rfl, hk⟩
  by_cases hlt : i < xs.length
  · refine W.item i _ _ _ hlt hst' fun v h₁ tk₁ hPv hst₁ hk₁ => ?_
    obtain ⟨a, ha, hra⟩ := hP i v hlt hPv
    have hmem : a ∈ xs := List.mem_of_getElem? ha
    have hxk : (compEnvC scope cl C env).kindOf x = some .local := lookup_relabel_local hx
    have hsk : (compEnvC scope cl C env).scope.kind = .function := ct.kind
    refine wpAny_assign_Name (wpAny_storeName_local hxk (hn'.at' fun o e => hk₁ _ o hCw e) (fun h₂ hn₂ hs₂ => ?_) (by rw [hsk]; rfl))
    have hs₂ : Heap.SameBut C h₁ h₂ := hs₂
    have hst₂ : St (i + 1) h₂ := W.frame _ _ _ hst₁ fun b hb o e => hs₂.extBut b o (fun h => hCf (h ▸ hb)) e
    have kk₂ : ∀ b o, b ≠ C → b ∉ wr → b ≠ D → s₃.heap.get? b = some o → h₂.get? b = some o := fun b o c1 c2 c3 e => hs₂.extBut b o c1 (hk₁ b o c2 (hk b o c1 c2 c3 e))
    have acc₂ : h₂.PlainList D ys.toArray := hacc'.at fun o e => hs₂.extBut _ o (Ne.symm hCD) (hk₁ _ o hDw e)
    have wid₂ : Wider (Xy X Y) h' (Xy X Y) h₂ := fun b o nx e => ⟨nx, hs₂.extBut b o (fun h => nx (.inr (h ▸ hC))) (hk₁ b o (fun h => nx (.inr (hwr _ h))) e)⟩
    have wid₃ : Wider (Xy X Y) s₃.heap (Xy X Y) h₂ := fun b o nx e => ⟨nx, kk₂ b o (fun h => nx (.inr (h ▸ hC))) (fun h => nx (.inr (hwr _ h))) (fun h => nx (.inr (h ▸ hD))) e⟩
    have upS : ∀ b o, s.heap.get? b = some o → h₂.get? b = some o := fun b o e => kk₂ b o (fun h => aliveNot b o e (h ▸ hC)) (fun h => aliveNot b o e (hwr _ h)) (fun h => aliveNot b o e (h ▸ hD)) (up b o e)
    have widS : Wider X s.heap (Xy X Y) h₂ := fun b o nx e => ⟨fun h => h.elim nx (aliveNot b o e), upS b o e⟩
    have alY : ∀ a ∈ Y, ∃ o, h₂.get? a = some o := fun a ha => by
      by_cases c1 : a = C
      · obtain ⟨o, _, _, ho, _⟩ := hn₂; exact ⟨o, c1 ▸ ho⟩
      by_cases c2 : a ∈ wr
      · exact hal _ _ hst₂ a c2
      by_cases c3 : a = D
      · obtain ⟨n, e⟩ := acc₂; exact ⟨_, c3 ▸ e⟩
      obtain ⟨o, e⟩ := hYal a ha
      exact ⟨o, kk₂ a o c1 c2 c3 e⟩
    have al₂ : ∀ a, Xy X Y a → ∃ o, h₂.get? a = some o := fun a h => h.elim (fun hx => let ⟨o, e⟩ := st.al a hx; ⟨o, upS a o e⟩) (alY a)
    have st₂ : ∀ tk, Sit T (Xy X Y) (compEnvC scope cl C env) ((x, .dat (enc a)) :: Γ0 ++ Γc) { s₃ with heap := h₂, toks := tk } := fun tk =>
      Sit.comps (s' := { s₃ with heap := h₂, toks := tk }) (Γl := (x, .dat (enc a)) :: Γ0) st ct widS al₂ (UpT.up st.top upS) (fun c v hc => hc.keeps upS) hn₂ fun n d hnd => by
        rcases List.mem_cons.mp hnd with e | hnd
        · cases e; exact ⟨hx, v, by simp, hra.mono wid₃⟩
        · obtain ⟨c1, c2, v', c3, c4⟩ := h0 n d hnd
          exact ⟨c2, v', by simp [c1, hm' n c1, c3], c4.mono wid₃⟩
    refine wpAny_mono ((htests a hmem).run (Xy X Y) A _ _ ok (st₂ _)) (fun okv s₃' h₃ => ?_) fun _ _ e => e
    obtain ⟨⟨h₃, tk₃, rfl, hk₃⟩, rfl⟩ := h₃
    have htake : xs.take (i + 1) = xs.take i ++ [a] := by rw [List.take_add_one, ha]; rfl
    have hm₃ : ∀ y, y ≠ x → (fun y => if y = x then some v else m' y) y = m0 y := fun y hy => by simp [hy, hm' y hy]
    cases hpv : p a with
    | false =>
      simp only [Bool.false_eq_true, if_false]
      refine ⟨xs.length + 1 - (i + 1), by omega, h₃, tk₃, _, ys, i + 1, rfl, W.frame _ _ _ hst₂ fun b _ o e => hk₃ b o e, acc₂.at fun o e => hk₃ _ o e, hn₂.keeps hk₃, hm₃, ?_, hlt, rfl, fun b o c1 c2 c3 e => hk₃ b o (kk₂ b o c1 c2 c3 e)⟩
      rw [htake, List.filter_append]
      simp [hpv]
      exact (hF.mono wid₂).up hk₃
    | true =>
      simp only [if_true]
      refine wpAny_mono ((helt a hmem hpv).run (Xy X Y) A _ _ ok ((st₂ tk₃).up (s' := { s₃ with heap := h₃, toks := tk₃ }) hk₃)) (fun y s₄ h₄ => ?_) fun _ _ e => e
      obtain ⟨⟨h₄, tk₄, rfl, hk₄⟩, hry⟩ := h₄
      have hys4 : Rds (Xy X Y) h₄ ys (es0 ++ ((xs.take i).filter p).map f) := ((hF.mono wid₂).up hk₃).up hk₄
      have hsz' : ys.toArray.size ≤ sizeLine := by
        have e1 := hF.length
        have e2 : ((xs.take i).filter p).length ≤ (xs.take i).length := List.length_filter_le _ _
        have e3 : (xs.take i).length ≤ xs.length := by rw [List.length_take]; exact Nat.min_le_right _ _
        rw [List.length_append, List.length_map] at e1
        rw [List.size_toArray]; omega
      refine wpAny_list_append_plain (hsz := hsz') (acc₂.at fun o e => hk₄ _ o (hk₃ _ o e)) fun h₅ hl₅ hs₅ => ?_
      refine ⟨xs.length + 1 - (i + 1), by omega, h₅, tk₄, _, ys ++ [y], i + 1, rfl, ?_, by simpa using hl₅, ((hn₂.keeps hk₃).keeps hk₄).sameBut hs₅ hCD, hm₃, ?_, hlt, rfl, fun b o c1 c2 c3 e => hs₅.extBut b o c3 (hk₄ b o (hk₃ b o (kk₂ b o c1 c2 c3 e)))⟩
      · exact W.frame _ _ _ hst₂ fun b hb o e => hs₅.extBut b o (fun h => hDf (h ▸ hb)) (hk₄ b o (hk₃ b o e))
      · rw [htake, List.filter_append]
        simp [hpv]
        rw [← List.append_assoc]
        have w5 : Wider (Xy X Y) h₄ (Xy X Y) h₅ := fun b o nx e => ⟨nx, hs₅.extBut b o (fun h => nx (.inr (h ▸ hD))) e⟩
        exact (hys4.mono w5).append (.cons (hry.mono w5) .nil)
  · have hin : i = xs.length := by omega
    subst hin
    refine W.done _ _ _ hst' fun h₁ tk₁ hk₁ => ?_
    have hN := hn'.at' fun o e => hk₁ _ o hCw e
    have hA := hacc'.at fun o e => hk₁ _ o hDw e
    refine hR h₁ tk₁ m' ys hN hA ?_ (fun b o c1 c2 c3 e => hk₁ b o c2 (hk b o c1 c2 c3 e)) ?_
    · have w1 : Wider (Xy X Y) h' (Xy X Y) h₁ := fun b o nx e => ⟨nx, hk₁ b o (fun h => nx (.inr (hwr _ h))) e⟩
      have := hF.mono w1
      rwa [List.take_length] at this
    · intro a ha haw
      by_cases c1 : a = C
      · obtain ⟨o, _, _, ho, _⟩ := hN; exact ⟨o, c1 ▸ ho⟩
      by_cases c3 : a = D
      · obtain ⟨n, e⟩ := hA; exact ⟨_, c3 ▸ e⟩
      obtain ⟨o, e⟩ := hYal a ha
      exact ⟨o, hk₁ a o haw (hk a o c1 haw c3 e)⟩
end
end Mine
end
section
set_option linter.unusedVariables false
set_option linter.unusedSectionVars false
namespace Mine
open PySem PySem.Calls
open Sem (wp)
noncomputable def clo (cells : List (Str × Addr)) : List (Str × NameKind) → List (Str × Addr) → List (Str × Addr)
  | [], acc => acc
  | (n, kd) :: r, acc => if kd == .free then clo cells r ((n, (cells.lookup n).getD 0) :: acc) else clo cells r acc
theorem clo_for {env : Env} (f : Str × NameKind → List (Str × Addr) → Sem (ForInStep (List (Str × Addr))))
    (hf : ∀ n kd cs, f (n, kd) cs = if kd == .free then (do let a ← cellOf env n; pure (.yield ((n, a) :: cs))) else pure (.yield cs)) :
    ∀ (names : List (Str × NameKind)) (acc : List (Str × Addr)), (∀ y ∈ names, y.2 = .free → ∃ c, env.cells.lookup y.1 = some c) → forIn names acc f = pure (clo env.cells names acc)
  | [], acc, _ => by rw [List.forIn_nil]; rfl
  | (n, kd) :: r, acc, h => by
    rw [List.forIn_cons, hf]
    unfold clo
    cases hk : kd == NameKind.free with
    | true =>
      obtain ⟨c, hc⟩ := h (n, kd) List.mem_cons_self (by simpa using hk)
      simp only [if_true]
      show (cellOf env n >>= fun a => pure (ForInStep.yield ((n, a) :: acc))) >>= _ = _
      have e : cellOf env n = pure c := by unfold cellOf; rw [hc]
      rw [e, hc]
      exact clo_for f hf r _ fun y hy => h y (List.mem_cons_of_mem _ hy)
    | false =>
      simp only [Bool.false_eq_true, if_false]
      exact clo_for f hf r _ fun y hy => h y (List.mem_cons_of_mem _ hy)
theorem closureFor_clo {scope : Scope} {env : Env} (h : ∀ y ∈ scope.names, y.2 = .free → ∃ c, env.cells.lookup y.1 = some c) : closureFor scope env = pure (clo env.cells scope.names []) := by
  unfold closureFor
  have e := clo_for (env := env) (fun x cs => if (x.2 == NameKind.free) = true then (do let a ← cellOf env x.1; pure (ForInStep.yield ((x.1, a) :: cs))) else pure (ForInStep.yield cs)) (fun _ _ _ => rfl) scope.names [] h
  show (forIn scope.names [] _ >>= fun s => pure s) = _
  exact (congrArg (fun t => t >>= fun s => pure s) e).trans rfl
theorem lookup_all {cells : List (Str × Addr)} : ∀ {l : List (Str × Addr)} {n : Str}, (∀ m c, (m, c) ∈ l → cells.lookup m = some c) → (∃ c, (n, c) ∈ l) → l.lookup n = cells.lookup n
  | [], n, _, ⟨c, h⟩ => by cases h
  | (m, c) :: r, n, ha, ⟨d, h⟩ => by
    rw [List.lookup_cons]
    cases hb : n == m with
    | true => have e : n = m := by simpa using hb
              subst e; exact (ha n c List.mem_cons_self).symm
    | false =>
      refine lookup_all (fun m c h => ha m c (List.mem_cons_of_mem _ h)) ⟨d, ?_⟩
      rcases List.mem_cons.mp h with e | h
      · cases e; simp at hb
      · exact h
theorem clo_mem (cells : List (Str × Addr)) : ∀ (names : List (Str × NameKind)) (acc : List (Str × Addr)), (∀ y ∈ names, y.2 = .free → ∃ c, cells.lookup y.1 = some c) →
    (∀ m c, (m, c) ∈ acc → cells.lookup m = some c) → (∀ m c, (m, c) ∈ clo cells names acc → cells.lookup m = some c) ∧ ∀ n, (n, NameKind.free) ∈ names ∨ (∃ c, (n, c) ∈ acc) → ∃ c, (n, c) ∈ clo cells names acc
  | [], acc, _, ha => ⟨fun m c h => ha m c h, fun n h => by
      rcases h with h | h
      · cases h
      · exact h⟩
  | (m, kd) :: r, acc, hn, ha => by
    unfold clo
    have hr : ∀ y ∈ r, y.2 = .free → ∃ c, cells.lookup y.1 = some c := fun y hy => hn y (List.mem_cons_of_mem _ hy)
    by_cases hk : kd = .free
    · subst hk
      obtain ⟨c, hc⟩ := hn (m, .free) List.mem_cons_self rfl
      obtain ⟨h1, h2⟩ := clo_mem cells r ((m, (cells.lookup m).getD 0) :: acc) hr (fun m' c' h => by
        rcases List.mem_cons.mp h with e | h
        · cases e; show cells.lookup m = some ((cells.lookup m).getD 0); rw [hc]; rfl
        · exact ha m' c' h)
      refine ⟨h1, fun n h => ?_⟩
      rcases h with h | ⟨c', h⟩
      · rcases List.mem_cons.mp h with e | h
        · cases e; exact h2 _ (.inr ⟨_, List.mem_cons_self⟩)
        · exact h2 n (.inl h)
      · exact h2 n (.inr ⟨c', List.mem_cons_of_mem _ h⟩)
    · have hb : (kd == NameKind.free) = false := by simpa using hk
      simp only [hb, Bool.false_eq_true, if_false]
      obtain ⟨h1, h2⟩ := clo_mem cells r acc hr ha
      refine ⟨h1, fun n h => ?_⟩
      rcases h with h | h
      · rcases List.mem_cons.mp h with e | h
        · cases e; exact absurd rfl hk
        · exact h2 n (.inl h)
      · exact h2 n (.inr h)
/-- every cell that the scope names stands in the environment -/
noncomputable def CellsFull (env : Env) : Prop := ∀ n, env.kindOf n = some .cell → ∃ c, env.cells.lookup n = some c
theorem cellsFrom_has : ∀ (names : List (Str × NameKind)) (k : Nat) (acc : List (Str × Addr)) (n : Str), ((n, NameKind.cell) ∈ names ∨ ∃ c, (n, c) ∈ acc) → ∃ c, (n, c) ∈ cellsFrom k names acc
  | [], k, acc, n, h => by
    rcases h with h | h
    · cases h
    · exact h
  | (m, kd) :: r, k, acc, n, h => by
    unfold cellsFrom
    by_cases hk : kd = .cell
    · subst hk
      simp only [beq_self_eq_true, if_true]
      refine cellsFrom_has r _ _ n ?_
      rcases h with h | ⟨c, h⟩
      · rcases List.mem_cons.mp h with e | h
        · cases e; exact .inr ⟨_, List.mem_cons_self⟩
        · exact .inl h
      · exact .inr ⟨c, List.mem_cons_of_mem _ h⟩
    · have hb : (kd == NameKind.cell) = false := by simpa using hk
      simp only [hb, Bool.false_eq_true, if_false]
      refine cellsFrom_has r _ _ n ?_
      rcases h with h | h
      · rcases List.mem_cons.mp h with e | h
        · cases e; exact absurd rfl hk
        · exact .inl h
      · exact .inr h
theorem lookup_some_of_mem {α : Type} : ∀ {l : List (Str × α)} {n : Str}, (∃ c, (n, c) ∈ l) → ∃ c, l.lookup n = some c
  | [], n, ⟨c, h⟩ => by cases h
  | (m, c) :: r, n, ⟨d, h⟩ => by
    rw [List.lookup_cons]
    cases hb : n == m with
    | true => exact ⟨c, rfl⟩
    | false =>
      refine lookup_some_of_mem ⟨d, ?_⟩
      rcases List.mem_cons.mp h with e | h
      · cases e; simp at hb
      · exact h
theorem CellsFull.call (fd : FuncData) (L a : Addr) : CellsFull (callEnvC fd L a) := fun n h =>
  lookup_some_of_mem (cellsFrom_has fd.scope.names (L + 1) [] n (.inl (mem_of_lookup h)))
noncomputable def capsOk (scope osc : Scope) : Bool :=
  scope.names.all (fun y => (y.2 != .free || osc.names.lookup y.1 == some .cell) && y.2 != .cell && (y.2 != .local || scope.names.lookup y.1 == some .local)) && scope.kind == .function
theorem Caught.of {env : Env} {scope : Scope} {Γ Γc : Cx} (hf : CellsFull env) (h : capsOk scope env.scope = true) (hc : ∀ p ∈ Γc, p ∈ Γ ∧ scope.names.lookup p.1 = some .free) :
    Caught env scope (clo env.cells scope.names []) Γ Γc := by
  unfold capsOk at h
  rw [Bool.and_eq_true, List.all_eq_true] at h
  have hall := h.1
  have hcell : ∀ y ∈ scope.names, y.2 = .free → env.kindOf y.1 = some .cell := fun y hy e => by
    have := hall y hy
    simp [e] at this
    exact this
  have hfr : ∀ y ∈ scope.names, y.2 = .free → ∃ c, env.cells.lookup y.1 = some c := fun y hy e => hf _ (hcell y hy e)
  obtain ⟨m1, m2⟩ := clo_mem env.cells scope.names [] hfr (fun m c h => by cases h)
  exact {
    clos := closureFor_clo hfr
    nocell := fun y hy e => by have := hall y hy; simp [e] at this
    kind := by simpa using h.2
    names := fun y hy e => by have := hall y hy; simp [e] at this; exact this
    got := fun p hp => by
      obtain ⟨h1, h2⟩ := hc p hp
      have hm := mem_of_lookup h2
      exact ⟨h1, hcell _ hm rfl, h2, lookup_all m1 (m2 _ (.inl hm))⟩ }
section
variable {T : Heap → Prop} [UpT T] {prog : Program} {w : World} {k : Nat} {env : Env} {Γ : Cx}
/-- a list display's or a comprehension's own new list -/
noncomputable def FreshL (X : Addr → Prop) (s s' : Shared) (v : Value) (ds : List D) : Prop :=
  ∃ (a : Addr) (vs : List Value), v = .ref a ∧ s.heap.get? a = none ∧ s'.heap.PlainList a vs.toArray ∧ Rds (fun b => X b ∨ b = a) s'.heap vs ds
structure EvF (T : Heap → Prop) (prog : Program) (w : World) (k : Nat) (env : Env) (Γ : Cx) (e : Expr) (ds : List D) : Prop where
  run : ∀ (X : Addr → Prop) (A : Around) (s : Shared) (E : Value → Shared → Prop), Okn k A → Sit T X env Γ s → wpAny (model prog w) A (eval e env) (fun v s' => Kp s s' ∧ FreshL X s s' v ds) E s
theorem EvF.ev {e : Expr} {ds : List D} (h : EvF T prog w k env Γ e ds) : Ev T prog w k env Γ e (.list ds) := .mk fun X A s E ok st =>
  wpAny_mono (h.run X A s E ok st) (fun v s' h' => by
    obtain ⟨k', a, vs, rfl, hd, hp, hr⟩ := h'
    refine ⟨k', .list hp (fun x => ?_) (hr.mono fun b o nx e => ⟨fun x => nx (.inl x), e⟩)⟩
    obtain ⟨o, e⟩ := st.al a x
    rw [hd] at e; cases e) fun _ _ x => x
theorem EvF.list {es : List Expr} {pos : Pos} {ds : List D} (h : Evs T prog w k env Γ es ds) (hl : ds.length ≤ sizeLine) : EvF T prog w k env Γ (.List es pos) ds := .mk fun X A s E ok st => by
  refine wpAny_List (wpAny_mono (h.run X A s E pos ok st) (fun vs s₁ h₁ => ?_) fun _ _ x => x)
  refine ⟨by rw [h₁.2.length]; exact hl, h₁.1.trans' (.push _), _, vs, rfl, ?_, ⟨0, Heap.get?_push_size _ rfl⟩, ?_⟩
  · cases e : s.heap.get? s₁.heap.objs.size with
    | none => rfl
    | some o => exact absurd (Heap.lt_size (h₁.1.up _ _ e)) (Nat.lt_irrefl _)
  · refine h₁.2.mono fun b o nx e => ⟨fun h => h.elim nx fun h => ?_, Heap.get?_push_of_some _ e⟩
    subst h
    exact absurd (Heap.lt_size e) (Nat.lt_irrefl _)
theorem comp_core {α : Type} {elt iter : Expr} {x : Str} {px : Pos} {ifs : List Expr} {scope : Scope} {pos ipos : Pos} {Γc : Cx} {xs : List α} {enc : α → Mine.D} {p : α → Bool} {f : α → Mine.D}
    (hit : It T prog w k env Γ iter (xs.map enc)) (hf : CellsFull env) (hcaps : capsOk scope env.scope = true) (hx : scope.names.lookup x = some .local) (hc : ∀ p ∈ Γc, p ∈ Γ ∧ scope.names.lookup p.1 = some .free)
    (htests : ∀ C cl, ∀ a ∈ xs, Tsts T prog w k (compEnvC scope cl C env) ((x, .dat (enc a)) :: Γc) ifs (p a))
    (helt : ∀ C cl, ∀ a ∈ xs, p a = true → Ev T prog w k (compEnvC scope cl C env) ((x, .dat (enc a)) :: Γc) elt (f a))
    (hs : ∀ env x, foldedSetIterable iter env x = pure x)
    {X : Addr → Prop} {A : Around} {s : Shared} {E : Value → Shared → Prop} {use : Option (Value → Sem Unit)} {Q : Value → Shared → Prop} (ok : Okn k A) (st : Sit T X env Γ s)
    (hQ : ∀ D C h' tk m' vs, Up s.heap h' → s.heap.get? D = none → s.heap.get? C = none → D ≠ C → h'.Ns C m' → h'.PlainList D vs.toArray → Rds (Xy X [D, C]) h' vs ((xs.filter p).map f) →
      compPost (model prog w) A E use Q (.ref D) C (.ok .next) { s with heap := h', toks := tk }) :
    wpAny (model prog w) A (comprehension (.ListComp elt [⟨.Name x px, iter, ifs, 0⟩] scope pos) scope env ipos (newList []) false (eval iter env) use) Q E s := by
  have ct : Caught env scope (clo env.cells scope.names []) Γ Γc := Caught.of hf hcaps hc
  generalize hcl : clo env.cells scope.names [] = cl at ct
  refine wpAny_comprehension_free rfl (hs env) ct.clos ct.kind ct.names (wpAny_mono (hit.run X A s E ok st) (fun xv s₁ h₁ => wpAny_mono h₁.2 (fun it s₂ h₂ => ?_) fun _ _ e => e) fun _ _ e => e)
  obtain ⟨k₁, -⟩ := h₁
  obtain ⟨k₂, I, fp, wr, P, St, rfl, W, hsz, hst, hfp, hfX, hwr, hal', hgo, hP⟩ := h₂
  have hal : ∀ i h, St i h → ∀ b ∈ wr, ∃ o, h.get? b = some o := fun i h st b hb => hal' i h st b (W.sub b hb)
  have st₁ := st.up k₁.up
  have st₂ := st₁.up k₂.up
  obtain ⟨h₂, tk₂, rfl, up₂⟩ := k₂
  have lenW : (xs.map enc).length = xs.length := List.length_map _
  rw [lenW] at W hsz
  refine wpAny_newObj_type (wpAny_newFunctionEnv ct.nocell (by intro y hy; simp at hy) (fun h₃ hns hsb => ?_) ct.kind)
  dsimp only at hns hsb ⊢
  generalize hH : h₂.push { cls := .type "list", dict := none, data := .seq ([] : List Value).toArray } = H at hns hsb ⊢
  have hC : H.objs.size = h₂.objs.size + 1 := by rw [← hH, Heap.size_push]
  have hDC : h₂.objs.size ≠ H.objs.size := by rw [hC]; exact Nat.ne_of_lt (Nat.lt_succ_self _)
  have below : ∀ b, b < h₂.objs.size → b ≠ H.objs.size ∧ b ≠ h₂.objs.size := fun b hb => ⟨by rw [hC]; exact Nat.ne_of_lt (Nat.lt_succ_of_lt hb), Nat.ne_of_lt hb⟩
  have old : Up h₂ h₃ := fun b o e => hsb.extBut b o (below b (Heap.lt_size e)).1 (Heap.get?_push_of_some _ (hH ▸ Heap.get?_push_of_some _ e))
  have hacc : h₃.PlainList h₂.objs.size #[] := ⟨0, hsb.extBut _ _ hDC (Heap.get?_push_of_some _ (hH ▸ Heap.get?_push_size _ rfl))⟩
  have fresh : ∀ a, h₂.objs.size ≤ a → s₁.heap.get? a = none := fun a ha => by
    cases e : s₁.heap.get? a with
    | none => rfl
    | some o' => exact absurd (Heap.lt_size (up₂ _ _ e)) (Nat.not_lt.mpr ha)
  have dead : ∀ a ∈ h₂.objs.size :: H.objs.size :: wr, s₁.heap.get? a = none := fun a ha => by
    rcases List.mem_cons.mp ha with rfl | ha
    · exact fresh _ (Nat.le_refl _)
    rcases List.mem_cons.mp ha with rfl | ha
    · exact fresh _ (by rw [hC]; exact Nat.le_succ _)
    · exact hwr a ha
  have nX : ¬ X h₂.objs.size := fresh_not (X := X) st₂.al
  have main : ∀ tk, codeAny (model prog w) A (.compLoop (.ListComp elt [⟨.Name x px, iter, ifs, 0⟩] scope pos) 0 (.ref I) (.ref h₂.objs.size) (compEnvC scope cl H.objs.size env))
      (compPost (model prog w) A E use Q (.ref h₂.objs.size) H.objs.size) { s₁ with heap := h₃, toks := tk } := fun tk => by
    refine comp_run (Y := h₂.objs.size :: H.objs.size :: wr) (Γ0 := []) (enc := enc) (p := p) (f := f) (ys0 := []) (es0 := []) (s := s₁) (X := X) LoopRule.one ok st₁ ct hx dead (by simp) (by simp) (fun b hb => by simp [hb]) (Ne.symm hDC)
      (fun hm => (below _ (hfp _ hm)).1 rfl) (fun hm => (below _ (hfp _ hm)).2 rfl) (fun b o e => old b o (up₂ b o e)) ?_ hacc .nil hns (fun n d h => by cases h) W (W.frame _ _ _ hst fun b _ o e => old b o e) hal ?_ (htests _ _) (helt _ _) (by simpa using hsz) ?_
    · intro a ha
      rcases List.mem_cons.mp ha with rfl | ha
      · obtain ⟨n, e⟩ := hacc; exact ⟨_, e⟩
      rcases List.mem_cons.mp ha with rfl | ha
      · obtain ⟨o, _, _, ho, _⟩ := hns; exact ⟨o, ho⟩
      · obtain ⟨o, e⟩ := hal _ _ hst a ha; exact ⟨o, old _ _ e⟩
    · intro i v hi hv
      obtain ⟨d, hd, hr⟩ := hP i v (by rw [lenW]; exact hi) hv
      rw [List.getElem?_map] at hd
      obtain ⟨a, ha, rfl⟩ := Option.map_eq_some_iff.mp hd
      refine ⟨a, ha, hr.mono fun b o nx e => ⟨fun h => h.elim nx fun h => ?_, old b o (up₂ b o e)⟩⟩
      rw [dead b h] at e; cases e
    · intro h' tk' m' ys hN hA hrs hkeep _
      obtain ⟨h₁, tk₁, rfl, up₁⟩ := k₁
      have dn : ∀ a, h₁.get? a = none → s.heap.get? a = none := fun a ha => by
        cases e : s.heap.get? a with
        | none => rfl
        | some o => rw [up₁ a o e] at ha; cases ha
      refine hQ _ _ h' tk' m' ys (fun b o e => ?_) (dn _ (dead _ (by simp))) (dn _ (dead _ (by simp))) hDC hN hA ?_
      · have e' := up₁ b o e
        have nb : b ∉ h₂.objs.size :: H.objs.size :: wr := fun hm => by rw [dead b hm] at e'; cases e'
        simp only [List.mem_cons, not_or] at nb
        exact hkeep b o nb.2.1 nb.2.2 nb.1 (old b o (up₂ b o e'))
      · have hrs' : Rds (Xy X (h₂.objs.size :: H.objs.size :: wr)) h' ys ((xs.filter p).map f) := by simpa using hrs
        refine hrs'.mono fun b o nx e => ⟨fun h => nx ?_, e⟩
        rcases h with h | h
        · exact .inl h
        · simp only [List.mem_cons, List.not_mem_nil, or_false] at h
          exact .inr (by rcases h with h | h <;> simp [h])
  exact codeAny_compStart_list (main _) (W.self 0 _ _ _ (W.frame _ _ _ hst fun b _ o e => old b o e) (main _))
theorem EvF.comp {α : Type} {elt iter : Expr} {x : Str} {px : Pos} {ifs : List Expr} {scope : Scope} {pos : Pos} {Γc : Cx} {xs : List α} {enc : α → Mine.D} {p : α → Bool} {f : α → Mine.D}
    (hit : It T prog w k env Γ iter (xs.map enc)) (hf : CellsFull env) (hcaps : capsOk scope env.scope = true) (hx : scope.names.lookup x = some .local) (hc : ∀ p ∈ Γc, p ∈ Γ ∧ scope.names.lookup p.1 = some .free)
    (htests : ∀ C cl, ∀ a ∈ xs, Tsts T prog w k (compEnvC scope cl C env) ((x, .dat (enc a)) :: Γc) ifs (p a))
    (helt : ∀ C cl, ∀ a ∈ xs, p a = true → Ev T prog w k (compEnvC scope cl C env) ((x, .dat (enc a)) :: Γc) elt (f a))
    (hs : ∀ env x, foldedSetIterable iter env x = pure x := by intros; rfl) :
    EvF T prog w k env Γ (.ListComp elt [⟨.Name x px, iter, ifs, 0⟩] scope pos) ((xs.filter p).map f) := .mk fun X A s E ok st => by
  rw [eval_ListComp]
  refine comp_core hit hf hcaps hx hc htests helt hs ok st fun D C h' tk m' vs up hD hC hDC hN hA hr => ?_
  refine ⟨m', hN, fun h'' hs'' => ⟨⟨h'', tk, rfl, fun b o e => hs''.extBut b o (fun h => ?_) (up b o e)⟩, D, vs, rfl, hD, hA.extBut hs''.extBut hDC, ?_⟩⟩
  · subst h; rw [hC] at e; cases e
  · refine hr.mono fun b o nx e => ⟨fun h => nx ?_, hs''.extBut b o (fun h => nx (.inr (by simp [h]))) e⟩
    rcases h with h | h
    · exact .inl h
    · exact .inr (by simp [h])
end
end Mine
end
section
set_option linter.unusedVariables false
set_option linter.unusedSectionVars false
namespace Mine
open PySem PySem.Calls
open Sem (wp)
noncomputable def valOf (env : Env) (m cm : Str → Option Value) (n : Str) : Option Value :=
  match env.kindOf n with
  | some .local => m n
  | some .cell => cm n
  | _ => none
/-- what stands ahead: objects that stay, values that stay read -/
structure Prot where
  z : Addr → Option Obj
  k : Value → D → Prop
noncomputable def LocOk (s₀ : Shared) (X₀ X : Addr → Prop) (Z : Prot) (h : Heap) (v : Value) : Loc → Prop
  | .dat d => Rd X h v d
  | .own ds => ∃ (a : Addr) (vs : List Value), v = .ref a ∧ X a ∧ ¬ X₀ a ∧ s₀.heap.get? a = none ∧ Z.z a = none ∧ h.PlainList a vs.toArray ∧ Rds X h vs ds
structure FrX (T : Heap → Prop) (s₀ : Shared) (X₀ : Addr → Prop) (Z : Prot) (env : Env) (Γ : Cx) (m cm : Str → Option Value) (X : Addr → Prop) (s : Shared) : Prop where
  fn : env.scope.kind = .function
  full : CellsFull env
  ic : InCallC s₀ env.locals m env.cells cm s
  top : T s₀.heap
  x0 : ∀ b, X₀ b → X b
  xL : X env.locals
  xc : ∀ n c, env.cells.lookup n = some c → X c
  al : ∀ b, X b → ∃ o, s.heap.get? b = some o
  z : ∀ b o, Z.z b = some o → s.heap.get? b = some o
  zL : Z.z env.locals = none
  zc : ∀ n c, env.cells.lookup n = some c → Z.z c = none
  kept : ∀ v d, Z.k v d → Rd X s.heap v d
  locs : ∀ n l, (n, l) ∈ Γ → ∃ v, valOf env m cm n = some v ∧ LocOk s₀ X₀ X Z s.heap v l
  apart : ∀ n n' ds ds' v, (n, Loc.own ds) ∈ Γ → (n', Loc.own ds') ∈ Γ → valOf env m cm n = some v → valOf env m cm n' = some v → n = n'
noncomputable def Fr (T : Heap → Prop) (s₀ : Shared) (X₀ : Addr → Prop) (Z : Prot) (env : Env) (Γ : Cx) (s : Shared) : Prop := ∃ m cm X, FrX T s₀ X₀ Z env Γ m cm X s
theorem LocOk.mono {s₀ : Shared} {X₀ X X' : Addr → Prop} {Z : Prot} {h h' : Heap} {v : Value} : ∀ {l : Loc}, LocOk s₀ X₀ X Z h v l → Wider X h X' h' → (∀ a, X a → X' a) →
    (∀ a its, v = .ref a → X a → h.PlainList a its → h'.PlainList a its) → LocOk s₀ X₀ X' Z h' v l
  | .dat d, r, k, _, _ => Rd.mono k r
  | .own ds, ⟨a, vs, e, xa, x0, d0, z, p, r⟩, k, hx, hp => ⟨a, vs, e, hx a xa, x0, d0, z, hp a _ e xa p, r.mono k⟩
theorem ns_not_plain {h : Heap} {L a : Addr} {m : Str → Option Value} {its : Array Value} (hn : h.Ns L m) (hp : h.PlainList a its) : a ≠ L := fun e => by
  subst e
  obtain ⟨o, es, ep, ho, hd, _⟩ := hn
  obtain ⟨n, e⟩ := hp
  rw [ho] at e; cases e; cases hd
theorem cell_not_plain {h : Heap} {c a : Addr} {v : Option Value} {its : Array Value} (hn : h.IsCell c v) (hp : h.PlainList a its) : a ≠ c := fun e => by
  subst e
  obtain ⟨o, ho, hd⟩ := hn
  obtain ⟨n, e⟩ := hp
  rw [ho] at e; cases e; cases hd
section
variable {T : Heap → Prop} [UpT T] {prog : Program} {w : World} {k : Nat} {env : Env} {Γ Γ' : Cx} {s₀ s s' : Shared} {X₀ X : Addr → Prop} {Z : Prot} {m cm : Str → Option Value}
theorem FrX.sit (fr : FrX T s₀ X₀ Z env Γ m cm X s) : Sit T X env Γ s where
  fn := fr.fn
  top := UpT.up fr.top fr.ic.toInCall.keep
  al := fr.al
  nms := fun n d h => by
    obtain ⟨v, hv, hr⟩ := fr.locs n _ h
    refine ⟨v, ?_, hr⟩
    unfold valOf at hv
    cases hk : env.kindOf n with
    | none => rw [hk] at hv; cases hv
    | some kd =>
      rw [hk] at hv
      cases kd with
      | «local» => exact .inl ⟨hk, m, fr.ic.toInCall.ns, hv⟩
      | cell =>
        obtain ⟨c, hc⟩ := fr.full n hk
        refine .inr ⟨hk, c, hc, ?_⟩
        have := fr.ic.cell n c hc
        rw [show cm n = some v from hv] at this
        exact this
      | _ => cases hv
theorem FrX.upExt (fr : FrX T s₀ X₀ Z env Γ m cm X s) (k' : Kp s s') (Y : Addr → Prop) (hd : ∀ a, Y a → s.heap.get? a = none) (ha : ∀ a, Y a → ∃ o, s'.heap.get? a = some o) :
    FrX T s₀ X₀ Z env Γ m cm (fun a => X a ∨ Y a) s' := by
  obtain ⟨h', tk, rfl, up⟩ := k'
  have wid : Wider X s.heap (fun a => X a ∨ Y a) h' := fun b o nx e => And.intro (fun h => h.elim nx fun h => absurd ((hd b h).symm.trans e) (fun x => nomatch x)) (up b o e)
  exact {
    fn := fr.fn
    full := fr.full
    ic := ⟨⟨by obtain ⟨h, t, e⟩ := fr.ic.toInCall.same; exact ⟨h', tk, by rw [e]⟩, fr.ic.toInCall.ns.keeps up, fun b o e => up b o (fr.ic.toInCall.keep b o e), fr.ic.toInCall.fresh⟩,
      fun n c h => (fr.ic.cell n c h).keeps up, fr.ic.apart, fr.ic.above⟩
    top := fr.top
    x0 := fun b h => .inl (fr.x0 b h)
    xL := .inl fr.xL
    xc := fun n c h => .inl (fr.xc n c h)
    al := fun b h => h.elim (fun h => let ⟨o, e⟩ := fr.al b h; ⟨o, up b o e⟩) (ha b)
    z := fun b o e => up b o (fr.z b o e)
    zL := fr.zL
    zc := fr.zc
    kept := fun v d h => (fr.kept v d h).mono wid
    locs := fun n l h => by
      obtain ⟨v, hv, hl⟩ := fr.locs n l h
      exact ⟨v, hv, hl.mono wid (fun a h => .inl h) fun a its _ _ p => p.at fun o e => up a o e⟩
    apart := fr.apart }
theorem FrX.up (fr : FrX T s₀ X₀ Z env Γ m cm X s) (k' : Kp s s') : FrX T s₀ X₀ Z env Γ m cm X s' := by
  have := fr.upExt k' (fun _ => False) (fun _ h => h.elim) (fun _ h => h.elim)
  simpa using this
theorem FrX.weaken (fr : FrX T s₀ X₀ Z env Γ m cm X s) (h : ∀ p ∈ Γ', p ∈ Γ) : FrX T s₀ X₀ Z env Γ' m cm X s :=
  { fr with locs := fun n l hm => fr.locs n l (h _ hm), apart := fun n n' ds ds' v h1 h2 => fr.apart n n' ds ds' v (h _ h1) (h _ h2) }
theorem Fr.weaken (fr : Fr T s₀ X₀ Z env Γ s) (h : ∀ p ∈ Γ', p ∈ Γ) : Fr T s₀ X₀ Z env Γ' s := let ⟨m, cm, X, x⟩ := fr; ⟨m, cm, X, x.weaken h⟩
theorem valOf_upd_local {n y : Str} {v : Value} (hk : env.kindOf n = some .local) (hne : y ≠ n) : valOf env (fun z => if z = n then some v else m z) cm y = valOf env m cm y := by
  unfold valOf; split <;> simp [hne]
theorem valOf_upd_cell {n y : Str} {v : Value} (hk : env.kindOf n = some .cell) (hne : y ≠ n) : valOf env m (fun z => if z = n then some v else cm z) y = valOf env m cm y := by
  unfold valOf; split <;> simp [hne]
/-- a name is given a value -/
theorem FrX.store {A : Around} {E : Value → Shared → Prop} (fr : FrX T s₀ X₀ Z env Γ m cm X s) {n : Str} {v : Value} {l : Loc} (hk : env.kindOf n = some .local ∨ env.kindOf n = some .cell) (hΓ : ∀ p ∈ Γ', p ∈ Γ ∧ p.1 ≠ n)
    (hl : LocOk s₀ X₀ X Z s.heap v l) (hap : ∀ n' ds ds', l = .own ds → (n', Loc.own ds') ∈ Γ' → valOf env m cm n' ≠ some v)
    {Q : Unit → Shared → Prop} (hQ : ∀ s' m' cm', FrX T s₀ X₀ Z env ((n, l) :: Γ') m' cm' X s' → (∃ h' tk c, s' = { s with heap := h', toks := tk } ∧ Heap.SameBut c s.heap h' ∧ X c ∧ (c = env.locals ∨ ∃ k, env.cells.lookup k = some c)) → Q () s') : wpAny (model prog w) A (storeName env n v) Q E s := by
  have fin : ∀ (m' cm' : Str → Option Value) (c : Addr) (h' : Heap) (tk : Nat), X c → Z.z c = none → (∀ a its, s.heap.PlainList a its → a ≠ c) → (∀ b o, s₀.heap.get? b = some o → b ≠ c) → Heap.SameBut c s.heap h' → (∃ o, h'.get? c = some o) →
      h'.Ns env.locals m' → (∀ k c, env.cells.lookup k = some c → h'.IsCell c (cm' k)) → valOf env m' cm' n = some v → (∀ y, y ≠ n → valOf env m' cm' y = valOf env m cm y) →
      FrX T s₀ X₀ Z env ((n, l) :: Γ') m' cm' X { s with heap := h', toks := tk } := by
    intro m' cm' c h' tk xc zc npl s0c hs hal hns hcells hvn hvo
    have wid : Wider X s.heap X h' := fun b o nx e => ⟨nx, hs.extBut b o (fun h => nx (h ▸ xc)) e⟩
    have mono : ∀ {v l}, LocOk s₀ X₀ X Z s.heap v l → LocOk s₀ X₀ X Z h' v l := fun hl => hl.mono wid (fun _ h => h) fun a its _ _ p => p.at fun o e => hs.extBut a o (npl a its p) e
    exact {
      fn := fr.fn
      full := fr.full
      ic := ⟨⟨by obtain ⟨h, t, e⟩ := fr.ic.toInCall.same; exact ⟨h', tk, by rw [e]⟩, hns, fun b o e => hs.extBut b o (s0c b o e) (fr.ic.toInCall.keep b o e), fr.ic.toInCall.fresh⟩, hcells, fr.ic.apart, fr.ic.above⟩
      top := fr.top
      x0 := fr.x0
      xL := fr.xL
      xc := fr.xc
      al := fun b h => by
        by_cases hb : b = c
        · subst hb; exact hal
        · obtain ⟨o, e⟩ := fr.al b h; exact ⟨o, hs.extBut b o hb e⟩
      z := fun b o e => hs.extBut b o (fun h => by rw [h, zc] at e; cases e) (fr.z b o e)
      zL := fr.zL
      zc := fr.zc
      kept := fun v d h => (fr.kept v d h).mono wid
      locs := fun y l' hm => by
        rcases List.mem_cons.mp hm with e | hm
        · cases e; exact ⟨v, hvn, mono hl⟩
        · obtain ⟨h1, h2⟩ := hΓ _ hm
          obtain ⟨u, hu, hl'⟩ := fr.locs y l' h1
          exact ⟨u, by rw [hvo y h2]; exact hu, mono hl'⟩
      apart := fun y y' ds ds' u h1 h2 e1 e2 => by
        rcases List.mem_cons.mp h1 with c1 | g1 <;> rcases List.mem_cons.mp h2 with c2 | g2
        · cases c1; cases c2; rfl
        · cases c1
          rw [hvn] at e1; cases e1
          rw [hvo y' (hΓ (y', _) g2).2] at e2
          exact absurd e2 (hap y' _ _ rfl g2)
        · cases c2
          rw [hvn] at e2; cases e2
          rw [hvo y (hΓ (y, _) g1).2] at e1
          exact absurd e1 (hap y _ _ rfl g1)
        · rw [hvo y (hΓ (y, _) g1).2] at e1
          rw [hvo y' (hΓ (y', _) g2).2] at e2
          exact fr.apart y y' ds ds' u (hΓ _ g1).1 (hΓ _ g2).1 e1 e2 }
  rcases hk with hk | hk
  · refine wpAny_storeName_local hk fr.ic.toInCall.ns (fun h' hn hs => ?_) (by rw [fr.fn]; rfl)
    refine hQ _ (fun z => if z = n then some v else m z) cm (fin _ _ env.locals h' _ fr.xL fr.zL (fun a its p => ns_not_plain fr.ic.toInCall.ns p) (fun b o e => Nat.ne_of_lt (Nat.lt_of_lt_of_le (Heap.lt_size e) fr.ic.toInCall.fresh)) hs
      (by obtain ⟨o, _, _, ho, _⟩ := hn; exact ⟨o, ho⟩) hn (fun k c hc => (fr.ic.cell k c hc).sameBut hs (Nat.ne_of_gt (fr.ic.above k c (mem_of_lookup hc)))) (by unfold valOf; rw [hk]; simp) (fun y hy => valOf_upd_local hk hy)) ?_
    exact ⟨h', _, _, rfl, hs, fr.xL, .inl rfl⟩
  · obtain ⟨c, hc⟩ := fr.full n hk
    have hLc := fr.ic.above n c (mem_of_lookup hc)
    have hm := mem_of_lookup hc
    refine wpAny_storeName_cell fr.fn hk hc (fr.ic.cell n c hc) (fun h' hn hs => ?_)
    refine hQ _ m (fun z => if z = n then some v else cm z) (fin _ _ c h' s.toks (fr.xc n c hc) (fr.zc n c hc) (fun a its p => cell_not_plain (fr.ic.cell n c hc) p) (fun b o e => Nat.ne_of_lt (Nat.lt_trans (Nat.lt_of_lt_of_le (Heap.lt_size e) fr.ic.toInCall.fresh) hLc)) hs
      (by obtain ⟨o, ho, _⟩ := hn; exact ⟨o, ho⟩) (fr.ic.toInCall.ns.sameBut hs (Nat.ne_of_lt hLc)) (fun k' c' hk' => ?_) (by unfold valOf; rw [hk]; simp) (fun y hy => valOf_upd_cell hk hy)) ?_
    · by_cases hkn : k' = n
      · subst hkn; rw [hc] at hk'; cases hk'; simpa using hn
      · simp only [if_neg hkn]
        exact (fr.ic.cell k' c' hk').sameBut hs fun e => hkn (name_of_addr fr.ic.apart (mem_of_lookup hk') (e ▸ hm))
    · exact ⟨h', s.toks, c, rfl, hs, fr.xc n c hc, .inr ⟨n, hc⟩⟩
end
end Mine
end
section
set_option linter.unusedVariables false
set_option linter.unusedSectionVars false
namespace Mine
open PySem PySem.Calls
open Sem (wp)
inductive OutC where
  | nx (Γ : Cx) | ret (d : D)
noncomputable def Post (T : Heap → Prop) (s₀ : Shared) (X₀ : Addr → Prop) (Z : Prot) (env : Env) (o : OutC) (f : Flow) (s' : Shared) : Prop :=
  match o with
  | .nx Γ' => f = .next ∧ Fr T s₀ X₀ Z env Γ' s'
  | .ret d => ∃ v, f = .ret v ∧ Kp s₀ s' ∧ Rd X₀ s'.heap v d
structure Ex1 (T : Heap → Prop) (prog : Program) (w : World) (k : Nat) (env : Env) (Γ : Cx) (st : Stmt) (o : OutC) : Prop where
  run : ∀ (s₀ : Shared) (X₀ : Addr → Prop) (Z : Prot) (A : Around) (s : Shared) (E : Value → Shared → Prop), Okn k A → Fr T s₀ X₀ Z env Γ s → wpAny (model prog w) A (exec st env) (Post T s₀ X₀ Z env o) E s
structure Ex (T : Heap → Prop) (prog : Program) (w : World) (k : Nat) (env : Env) (Γ : Cx) (ss : List Stmt) (o : OutC) : Prop where
  run : ∀ (s₀ : Shared) (X₀ : Addr → Prop) (Z : Prot) (A : Around) (s : Shared) (E : Value → Shared → Prop), Okn k A → Fr T s₀ X₀ Z env Γ s → wpAny (model prog w) A (execs ss env) (Post T s₀ X₀ Z env o) E s
section
variable {T : Heap → Prop} [UpT T] {prog : Program} {w : World} {k : Nat} {env : Env} {Γ Γ' : Cx}
theorem Ex.nil : Ex T prog w k env Γ [] (.nx Γ) := .mk fun s₀ X₀ Z A s E ok fr => wpAny_execs_nil ⟨rfl, fr⟩
theorem Ex.cons {st : Stmt} {ss : List Stmt} {o : OutC} (h : Ex1 T prog w k env Γ st (.nx Γ')) (hs : Ex T prog w k env Γ' ss o) : Ex T prog w k env Γ (st :: ss) o := .mk fun s₀ X₀ Z A s E ok fr => by
  refine wpAny_execs_cons (wpAny_mono (h.run s₀ X₀ Z A s E ok fr) (fun f s₁ h₁ => ?_) fun _ _ x => x)
  obtain ⟨rfl, fr₁⟩ := h₁
  exact hs.run s₀ X₀ Z A s₁ E ok fr₁
theorem Ex.last {st : Stmt} {ss : List Stmt} {d : D} (h : Ex1 T prog w k env Γ st (.ret d)) : Ex T prog w k env Γ (st :: ss) (.ret d) := .mk fun s₀ X₀ Z A s E ok fr => by
  refine wpAny_execs_cons (wpAny_mono (h.run s₀ X₀ Z A s E ok fr) (fun f s₁ h₁ => ?_) fun _ _ x => x)
  obtain ⟨v, rfl, h⟩ := h₁
  exact ⟨v, rfl, h⟩
theorem Ex.cast {ss : List Stmt} {o o' : OutC} (h : Ex T prog w k env Γ ss o) (e : o = o') : Ex T prog w k env Γ ss o' := e ▸ h
theorem Ex.pre {ss : List Stmt} {o : OutC} (h : Ex T prog w k env Γ' ss o) (hs : ∀ p ∈ Γ', p ∈ Γ) : Ex T prog w k env Γ ss o := .mk fun s₀ X₀ Z A s E ok fr => h.run s₀ X₀ Z A s E ok (fr.weaken hs)
theorem Ex.post {ss : List Stmt} {Γ₂ : Cx} (h : Ex T prog w k env Γ ss (.nx Γ₂)) (hs : ∀ p ∈ Γ', p ∈ Γ₂) : Ex T prog w k env Γ ss (.nx Γ') := .mk fun s₀ X₀ Z A s E ok fr =>
  wpAny_mono (h.run s₀ X₀ Z A s E ok fr) (fun f s' h' => ⟨h'.1, h'.2.weaken hs⟩) fun _ _ x => x
theorem Ex1.post {st : Stmt} {Γ₂ : Cx} (h : Ex1 T prog w k env Γ st (.nx Γ₂)) (hs : ∀ p ∈ Γ', p ∈ Γ₂) : Ex1 T prog w k env Γ st (.nx Γ') := .mk fun s₀ X₀ Z A s E ok fr =>
  wpAny_mono (h.run s₀ X₀ Z A s E ok fr) (fun f s' h' => ⟨h'.1, h'.2.weaken hs⟩) fun _ _ x => x
/-- an own list is given up to be read -/
theorem Ex.freeze {ss : List Stmt} {o : OutC} {n : Str} {ds : List D} (hm : (n, Loc.own ds) ∈ Γ) (hs : ∀ p ∈ Γ', p ∈ Γ ∧ p.1 ≠ n) (h : Ex T prog w k env ((n, .dat (.list ds)) :: Γ') ss o) : Ex T prog w k env Γ ss o :=
  .mk fun s₀ X₀ Z A s E ok fr => by
  obtain ⟨m, cm, X, fr⟩ := fr
  obtain ⟨v, hv, a, vs, rfl, xa, x0, d0, za, p, r⟩ := fr.locs n _ hm
  have sub : ∀ b, (X b ∧ b ≠ a) → X b := fun _ h => h.1
  have wid : Wider X s.heap (fun b => X b ∧ b ≠ a) s.heap := fun b o nx e => ⟨fun h => nx h.1, e⟩
  refine h.run s₀ X₀ Z A s E ok ⟨m, cm, fun b => X b ∧ b ≠ a, { fr with
    x0 := fun b h => ⟨fr.x0 b h, fun e => x0 (e ▸ h)⟩
    xL := ⟨fr.xL, fun e => ns_not_plain fr.ic.toInCall.ns p e.symm⟩
    xc := fun n c h => ⟨fr.xc n c h, fun e => by
      have hc := fr.ic.cell n c h
      exact cell_not_plain hc p e.symm⟩
    al := fun b h => fr.al b h.1
    kept := fun v d h => (fr.kept v d h).mono wid
    locs := fun y l hl => ?_
    apart := fun y y' e e' u h1 h2 => ?_ }⟩
  · rcases List.mem_cons.mp hl with e | hl
    · cases e
      exact ⟨_, hv, .list p (fun h => h.2 rfl) (r.mono wid)⟩
    · obtain ⟨g1, g2⟩ := hs _ hl
      obtain ⟨u, hu, lo⟩ := fr.locs y l g1
      refine ⟨u, hu, ?_⟩
      cases l with
      | dat d => exact Rd.mono wid lo
      | own es =>
        obtain ⟨b, ws, rfl, xb, xb0, db, zb, pb, rb⟩ := lo
        refine ⟨b, ws, rfl, ⟨xb, fun e => ?_⟩, xb0, db, zb, pb, rb.mono wid⟩
        subst e
        exact g2 (fr.apart y n _ _ _ g1 hm hu hv)
  · rcases List.mem_cons.mp h1 with c1 | g1
    · cases c1
    rcases List.mem_cons.mp h2 with c2 | g2
    · cases c2
    exact fr.apart y y' _ _ u (hs _ g1).1 (hs _ g2).1
/-- a target is given a value -/
structure Asn (T : Heap → Prop) (prog : Program) (w : World) (k : Nat) (env : Env) (Γ : Cx) (t : Expr) (d : D) (Γ' : Cx) : Prop where
  run : ∀ (s₀ : Shared) (X₀ : Addr → Prop) (Z : Prot) (m cm : Str → Option Value) (X : Addr → Prop) (A : Around) (s : Shared) (E : Value → Shared → Prop) (v : Value), Okn k A → FrX T s₀ X₀ Z env Γ m cm X s → Rd X s.heap v d →
    wpAny (model prog w) A (assign t env v) (fun _ s' => ∃ m' cm', FrX T s₀ X₀ Z env Γ' m' cm' X s' ∧ ∃ h' tk, s' = { s with heap := h', toks := tk } ∧ ∀ b o, ¬ X b → s.heap.get? b = some o → h'.get? b = some o) E s
theorem Asn.name {n : Str} {pos : Pos} {d : D} (hk : env.kindOf n = some .local ∨ env.kindOf n = some .cell) (hs : ∀ p ∈ Γ', p ∈ Γ ∧ p.1 ≠ n) : Asn T prog w k env Γ (.Name n pos) d ((n, .dat d) :: Γ') :=
  .mk fun s₀ X₀ Z m cm X A s E v ok fr r => wpAny_assign_Name (fr.store (l := .dat d) hk hs r (fun _ _ _ e => nomatch e) fun s' m' cm' fr' ⟨h', tk, c, e1, e2, e3, _⟩ => ⟨m', cm', fr', h', tk, e1, fun b o nx e => e2.extBut b o (fun h => nx (h ▸ e3)) e⟩)
theorem Rds.of {X : Addr → Prop} {h : Heap} : ∀ {vs : List Value} {ds : List D}, vs.length = ds.length → (∀ (t : Nat) (v : Value), vs[t]? = some v → ∃ d, ds[t]? = some d ∧ Rd X h v d) → Rds X h vs ds
  | [], [], _, _ => .nil
  | [], _ :: _, e, _ => by simp at e
  | _ :: _, [], e, _ => by simp at e
  | v :: vs, d :: ds, e, h => by
    obtain ⟨d', e1, r⟩ := h 0 v (by simp)
    simp at e1; subst e1
    exact .cons r (Rds.of (by simpa using e) fun t u hu => by simpa using h (t + 1) u (by simpa using hu))
theorem draw_walk {A : Around} {I : Addr} {fp wr : List Addr} {n : Nat} {P : Nat → Value → Prop} {St : Nat → Heap → Prop} (W : Walks prog w A I fp wr n P St) :
    ∀ (j i : Nat) (s : Shared) (E : Value → Shared → Prop), St i s.heap → i + j ≤ n →
      wpAny (model prog w) A (draw (.ref I) j) (fun vs s' => ∃ h' tk, s' = { s with heap := h', toks := tk } ∧ St (i + j) h' ∧ (∀ b o, b ∉ wr → s.heap.get? b = some o → h'.get? b = some o) ∧ vs.length = j ∧ ∀ t v, vs[t]? = some v → P (i + t) v) E s
  | 0, i, s, E, st, _ => by
    show wpAny _ _ (pure []) _ E s
    exact wpAny_pure ⟨s.heap, s.toks, rfl, st, fun _ _ _ e => e, rfl, fun t v h => by simp at h⟩
  | j + 1, i, s, E, st, hle => by
    show wpAny _ _ (pyNext (.ref I) >>= _) _ E s
    refine wpAny_bind (W.item i s _ E (by omega) st fun v h₁ tk₁ hv st₁ hk₁ => ?_)
    refine wpAny_bind (wpAny_holding (wpAny_mono (draw_walk W j (i + 1) _ E st₁ (by omega)) (fun vs s' h' => wpAny_pure ?_) fun _ _ x => x))
    obtain ⟨h₂, tk₂, rfl, st₂, hk₂, hl, hp⟩ := h'
    refine ⟨h₂, tk₂, rfl, by rw [show i + (j + 1) = i + 1 + j by omega]; exact st₂, fun b o nb e => hk₂ b o nb (hk₁ b o nb e), by simp [hl], fun t u hu => ?_⟩
    cases t with
    | zero => simp at hu; subst hu; exact hv
    | succ t => rw [show i + (t + 1) = i + 1 + t by omega]; exact hp t u (by simpa using hu)
noncomputable def seqD : D → Option (List D)
  | .list ds => some ds
  | .tup ds => some ds
  | _ => none
theorem unpack_items {A : Around} {X : Addr → Prop} {s : Shared} {E : Value → Shared → Prop} {v : Value} {d : D} {ds : List D} (hh : A.handled = none) (al : ∀ a, X a → ∃ o, s.heap.get? a = some o) (r : Rd X s.heap v d) (hd : seqD d = some ds)
    (hl : ds.length ≤ sizeLine) : wpAny (model prog w) A (unpackItems v ds.length none) (fun vs s' => Kp s s' ∧ Rds X s'.heap vs ds) E s := by
  have hi : iterD d = some ds := by cases d <;> first | exact hd | cases hd
  have go : wpAny (model prog w) A (notIterableAtAll v) (fun b s' => b = false ∧ s' = s) E s := by
    unfold notIterableAtAll
    cases r with
    | @list a vs ds' p x rs => exact wpAny_bind (wpAny_specialOf p.isList.typeIs slot_list_iter.lookup (wpAny_pure ⟨rfl, rfl⟩))
    | @tup a vs ds' p x rs =>
      have pt : s.heap.IsTuple a vs.toArray := by obtain ⟨n, e⟩ := p; exact ⟨_, e, rfl, n, rfl⟩
      exact wpAny_bind (wpAny_specialOf pt.typeIs F.slot_tuple_iter.lookup (wpAny_pure ⟨rfl, rfl⟩))
    | _ => cases hd
  unfold unpackItems
  refine wpAny_bind (wpAny_mono go (fun b s' h => ?_) fun _ _ x => x)
  obtain ⟨rfl, rfl⟩ := h
  simp only [Bool.false_eq_true, if_false]
  refine wpAny_bind (wpAny_holding (wpAny_mono (IterOf.of hh al r hi hl) (fun it s₂ h₂ => ?_) fun _ _ x => x))
  obtain ⟨k₂, I, fp, wr, P, St, rfl, W, -, hst, hfp, hfX, hwr, hal, hgo, hP⟩ := h₂
  refine wpAny_bind (wpAny_holding (wpAny_mono (draw_walk W ds.length 0 s₂ E hst (by omega)) (fun vs s₃ h₃ => ?_) fun _ _ x => x))
  obtain ⟨h₃, tk₃, rfl, st₃, hk₃, hlen, hp₃⟩ := h₃
  rw [if_neg (by omega)]
  rw [Nat.zero_add] at st₃
  refine wpAny_bind (wpAny_holding (W.done _ _ E st₃ fun h₄ tk₄ hk₄ => ?_))
  simp only [Option.isSome_none, Bool.false_eq_true, if_false]
  obtain ⟨h₂', tk₂, rfl, up₂⟩ := k₂
  have upAll : Up s'.heap h₄ := fun b o e => by
    have nb : b ∉ wr := fun h => by rw [hwr b h] at e; cases e
    exact hk₄ b o nb (hk₃ b o nb (up₂ b o e))
  refine wpAny_pure ⟨⟨h₄, tk₄, rfl, upAll⟩, Rds.of hlen fun t u hu => ?_⟩
  have := hp₃ t u hu
  rw [Nat.zero_add] at this
  have ht : t < ds.length := by rw [← hlen]; exact (List.getElem?_eq_some_iff.mp hu).1
  obtain ⟨d', e, r'⟩ := hP t u ht this
  exact ⟨d', e, r'.up upAll⟩
end
end Mine
end
section
set_option linter.unusedVariables false
set_option linter.unusedSectionVars false
namespace Mine
open PySem PySem.Calls
open Sem (wp)
section
variable {T : Heap → Prop} [UpT T] {prog : Program} {w : World} {k : Nat} {env : Env} {Γ Γ' : Cx}
theorem FrX.chg {s₀ s : Shared} {X₀ X X₀' X' : Addr → Prop} {Z Z' : Prot} {m cm : Str → Option Value} (fr : FrX T s₀ X₀ Z env Γ m cm X s) {h' : Heap} {tk : Nat} (M : Addr → Prop)
    (hM : ∀ b o, ¬ M b → s.heap.get? b = some o → h'.get? b = some o) (mL : ¬ M env.locals) (mc : ∀ n c, env.cells.lookup n = some c → ¬ M c) (ms : ∀ b, M b → s₀.heap.get? b = none) (mX : ∀ b, M b → X b)
    (wX : ∀ b, X' b → X b ∨ s.heap.get? b = none) (xL' : X' env.locals) (xc' : ∀ n c, env.cells.lookup n = some c → X' c) (x0' : ∀ b, X₀' b → X' b) (al' : ∀ b, X' b → ∃ o, h'.get? b = some o)
    (z' : ∀ b o, Z'.z b = some o → h'.get? b = some o) (zL' : Z'.z env.locals = none) (zc' : ∀ n c, env.cells.lookup n = some c → Z'.z c = none)
    (kp' : ∀ v d, Z'.k v d → Rd X' h' v d ∨ Z.k v d)
    (own' : ∀ a its, s.heap.PlainList a its → X a → ¬ X₀ a → Z.z a = none → s₀.heap.get? a = none → X' a ∧ ¬ X₀' a ∧ Z'.z a = none ∧ ¬ M a) :
    FrX T s₀ X₀' Z' env Γ m cm X' { s with heap := h', toks := tk } := by
  have wid : Wider X s.heap X' h' := fun b o nx e => ⟨fun h => (wX b h).elim nx fun d => absurd (d.symm.trans e) (fun x => nomatch x), hM b o (fun h => nx (mX b h)) e⟩
  exact {
    fn := fr.fn
    full := fr.full
    ic := ⟨⟨by obtain ⟨h, t, e⟩ := fr.ic.toInCall.same; exact ⟨h', tk, by rw [e]⟩, fr.ic.toInCall.ns.at' fun o e => hM _ o mL e, fun b o e => hM b o (fun h => absurd ((ms b h).symm.trans e) (fun x => nomatch x)) (fr.ic.toInCall.keep b o e), fr.ic.toInCall.fresh⟩,
      fun n c h => let ⟨o, ho, hd⟩ := fr.ic.cell n c h; ⟨o, hM c o (mc n c h) ho, hd⟩, fr.ic.apart, fr.ic.above⟩
    top := fr.top
    x0 := x0'
    xL := xL'
    xc := xc'
    al := al'
    z := z'
    zL := zL'
    zc := zc'
    kept := fun v d h => (kp' v d h).elim id fun h => (fr.kept v d h).mono wid
    locs := fun n l h => by
      obtain ⟨v, hv, lo⟩ := fr.locs n l h
      refine ⟨v, hv, ?_⟩
      cases l with
      | dat d => exact Rd.mono wid lo
      | own ds =>
        obtain ⟨a, vs, e, xa, x0, d0, za, p, r⟩ := lo
        obtain ⟨g1, g2, g3, g4⟩ := own' a _ p xa x0 za d0
        exact ⟨a, vs, e, g1, g2, d0, g3, p.at fun o e => hM a o g4 e, r.mono wid⟩
    apart := fr.apart }
/-- an own list is written -/
theorem FrX.mut {s₀ s : Shared} {X₀ X : Addr → Prop} {Z : Prot} {m cm : Str → Option Value} (fr : FrX T s₀ X₀ Z env Γ m cm X s) {n : Str} {ds ds' : List D} {a : Addr} {vs' : List Value} {h' : Heap} {tk : Nat}
    (hm : (n, Loc.own ds) ∈ Γ) (hv : valOf env m cm n = some (.ref a)) (hs : ∀ p ∈ Γ', p ∈ Γ ∧ p.1 ≠ n) (hp : h'.PlainList a vs'.toArray) (hr : Rds X s.heap vs' ds') (hb : Heap.SameBut a s.heap h') :
    FrX T s₀ X₀ Z env ((n, .own ds') :: Γ') m cm X { s with heap := h', toks := tk } := by
  obtain ⟨v, hv', a', vs, rfl, xa, x0, d0, za, p, r⟩ := fr.locs n _ hm
  rw [hv] at hv'; cases hv'
  have wid : Wider X s.heap X h' := fun b o nx e => ⟨nx, hb.extBut b o (fun h => nx (h ▸ xa)) e⟩
  have hLa : env.locals ≠ a := fun e => ns_not_plain fr.ic.toInCall.ns p e.symm
  exact { fr with
    ic := ⟨⟨by obtain ⟨h, t, e⟩ := fr.ic.toInCall.same; exact ⟨h', tk, by rw [e]⟩, fr.ic.toInCall.ns.sameBut hb hLa, fun b o e => hb.extBut b o (fun h => by subst h; rw [d0] at e; cases e) (fr.ic.toInCall.keep b o e), fr.ic.toInCall.fresh⟩,
      fun n c h => (fr.ic.cell n c h).sameBut hb fun e => cell_not_plain (fr.ic.cell n c h) p e.symm, fr.ic.apart, fr.ic.above⟩
    al := fun b h => by
      by_cases e : b = a
      · subst e; obtain ⟨n, e⟩ := hp; exact ⟨_, e⟩
      · obtain ⟨o, ho⟩ := fr.al b h; exact ⟨o, hb.extBut b o e ho⟩
    z := fun b o e => hb.extBut b o (fun h => by rw [h, za] at e; cases e) (fr.z b o e)
    kept := fun v d h => (fr.kept v d h).mono wid
    locs := fun y l hl => by
      rcases List.mem_cons.mp hl with e | hl
      · cases e
        exact ⟨_, hv, a, vs', rfl, xa, x0, d0, za, hp, hr.mono wid⟩
      · obtain ⟨g1, g2⟩ := hs _ hl
        obtain ⟨u, hu, lo⟩ := fr.locs y l g1
        refine ⟨u, hu, ?_⟩
        cases l with
        | dat d => exact Rd.mono wid lo
        | own es =>
          obtain ⟨b, ws, rfl, xb, xb0, db, zb, pb, rb⟩ := lo
          have hne : b ≠ a := fun e => g2 (fr.apart y n _ _ _ g1 hm hu (by rw [e]; exact hv))
          exact ⟨b, ws, rfl, xb, xb0, db, zb, pb.extBut hb.extBut hne, rb.mono wid⟩
    apart := fun y y' e e' u h1 h2 e1 e2 => by
      have get : ∀ {y e}, (y, Loc.own e) ∈ (n, Loc.own ds') :: Γ' → ∃ e', (y, Loc.own e') ∈ Γ := fun h => by
        rcases List.mem_cons.mp h with c | g
        · cases c; exact ⟨_, hm⟩
        · exact ⟨_, (hs _ g).1⟩
      obtain ⟨_, g1⟩ := get h1
      obtain ⟨_, g2⟩ := get h2
      exact fr.apart y y' _ _ u g1 g2 e1 e2 }
theorem FrX.nameVal {s₀ s : Shared} {X₀ X : Addr → Prop} {Z : Prot} {m cm : Str → Option Value} (fr : FrX T s₀ X₀ Z env Γ m cm X s) {n : Str} {v : Value} (hv : valOf env m cm n = some v) : NameVal env s.heap n v := by
  unfold valOf at hv
  cases hk : env.kindOf n with
  | none => rw [hk] at hv; cases hv
  | some kd =>
    rw [hk] at hv
    cases kd with
    | «local» => exact .inl ⟨hk, m, fr.ic.toInCall.ns, hv⟩
    | cell =>
      obtain ⟨c, hc⟩ := fr.full n hk
      refine .inr ⟨hk, c, hc, ?_⟩
      have := fr.ic.cell n c hc
      rw [show cm n = some v from hv] at this
      exact this
    | _ => cases hv
theorem load_nameVal {M : Model} {A : Around} {s : Shared} {E : Value → Shared → Prop} {Q : Value → Shared → Prop} {n : Str} {v : Value} (hf : env.scope.kind = .function) (h : NameVal env s.heap n v) (hQ : Q v s) : wpAny M A (loadName env n) Q E s := by
  rcases h with ⟨a, m, b, c⟩ | ⟨a, c, b, e⟩
  · exact wpAny_loadName_local hf a b c hQ
  · exact wpAny_loadName_cell hf a b e hQ
abbrev Kin (env : Env) (n : Str) : Prop := env.kindOf n = some .local ∨ env.kindOf n = some .cell
abbrev Drp (n : Str) (Γ Γ' : Cx) : Prop := ∀ p ∈ Γ', p ∈ Γ ∧ p.1 ≠ n
theorem Ex1.assign {n : Str} {p pos : Pos} {value : Expr} {d : D} (h : Ev T prog w k env Γ value d) (hk : Kin env n) (hs : Drp n Γ Γ') (hsw : swapsWith value (some (.Name n p)) pos.line env = pure false := by rfl) :
    Ex1 T prog w k env Γ (.Assign [.Name n p] value pos) (.nx ((n, .dat d) :: Γ')) := .mk fun s₀ X₀ Z A s E ok ⟨m, cm, X, fr⟩ => by
  refine wpAny_Assign_Name (hs := hsw) (wpAny_mono (h.run X A s E ok fr.sit) (fun v s₁ h₁ => ?_) fun _ _ x => x)
  exact (fr.up h₁.1).store (l := .dat d) hk hs h₁.2 (fun _ _ _ e => nomatch e) fun s' m' cm' fr' _ => ⟨rfl, m', cm', X, fr'⟩
theorem Ex1.assignF {n : Str} {p pos : Pos} {value : Expr} {ds : List D} (h : EvF T prog w k env Γ value ds) (hk : Kin env n) (hs : Drp n Γ Γ') (hsw : swapsWith value (some (.Name n p)) pos.line env = pure false := by rfl) :
    Ex1 T prog w k env Γ (.Assign [.Name n p] value pos) (.nx ((n, .own ds) :: Γ')) := .mk fun s₀ X₀ Z A s E ok ⟨m, cm, X, fr⟩ => by
  refine wpAny_Assign_Name (hs := hsw) (wpAny_mono (h.run X A s E ok fr.sit) (fun v s₁ h₁ => ?_) fun _ _ x => x)
  obtain ⟨k₁, a, vs, rfl, hd, hp, hr⟩ := h₁
  have fr₁ := fr.upExt k₁ (fun b => b = a) (fun b e => e ▸ hd) (fun b e => by obtain ⟨n, e'⟩ := hp; exact ⟨_, e ▸ e'⟩)
  have nX : ¬ X a := fun x => by obtain ⟨o, e⟩ := fr.al a x; rw [hd] at e; cases e
  have s0d : s₀.heap.get? a = none := by
    cases e : s₀.heap.get? a with
    | none => rfl
    | some o => rw [fr.ic.toInCall.keep a o e] at hd; cases hd
  have zd : Z.z a = none := by
    cases e : Z.z a with
    | none => rfl
    | some o => rw [fr.z a o e] at hd; cases hd
  refine fr₁.store (l := .own ds) hk hs ⟨a, vs, rfl, .inr rfl, fun x => nX (fr.x0 a x), s0d, zd, hp, hr⟩ (fun n' ds' ds'' _ hm hv => ?_) fun s' m' cm' fr' _ => ⟨rfl, m', cm', _, fr'⟩
  obtain ⟨v, hv', a', vs', rfl, xa, -⟩ := fr.locs n' _ (hs _ hm).1
  rw [hv] at hv'; cases hv'
  exact nX xa
/-- a name is given a comprehension's list -/
theorem Ex1.assignC {α : Type} {n : Str} {p pos : Pos} {elt iter : Expr} {x : Str} {px : Pos} {ifs : List Expr} {scope : Scope} {cpos : Pos} {Γc : Cx} {xs : List α} {enc : α → Mine.D} {pr : α → Bool} {f : α → Mine.D} (own : Bool)
    (hit : It T prog w k env Γ iter (xs.map enc)) (hcaps : capsOk scope env.scope = true) (hx : scope.names.lookup x = some .local) (hc : ∀ p ∈ Γc, p ∈ Γ ∧ scope.names.lookup p.1 = some .free)
    (htests : ∀ C cl, ∀ a ∈ xs, Tsts T prog w k (compEnvC scope cl C env) ((x, .dat (enc a)) :: Γc) ifs (pr a))
    (helt : ∀ C cl, ∀ a ∈ xs, pr a = true → Ev T prog w k (compEnvC scope cl C env) ((x, .dat (enc a)) :: Γc) elt (f a))
    (hk : Kin env n) (hs : Drp n Γ Γ') (hsw : swapsWith (.ListComp elt [⟨.Name x px, iter, ifs, 0⟩] scope cpos) (some (.Name n p)) pos.line env = pure true := by rfl)
    (hfs : ∀ env x, foldedSetIterable iter env x = pure x := by intros; rfl) :
    Ex1 T prog w k env Γ (.Assign [.Name n p] (.ListComp elt [⟨.Name x px, iter, ifs, 0⟩] scope cpos) pos) (.nx ((n, if own = true then .own ((xs.filter pr).map f) else .dat (.list ((xs.filter pr).map f))) :: Γ')) := .mk fun s₀ X₀ Z A s E ok ⟨m, cm, X, fr⟩ => by
  rw [exec_Assign_Name_used _ _ _ _ hsw]
  refine wpAny_bind (wpAny_standAt (wpAny_bind ?_))
  show wpAny _ A (do let _ ← comprehension (.ListComp elt [⟨.Name x px, iter, ifs, 0⟩] scope cpos) scope env _ (newList []) false (eval iter env) (some (PySem.assign (.Name n p) env))) _ _ s
  refine wpAny_bind (wpAny_mono (comp_core (Q := fun _ s' => Post T s₀ X₀ Z env (.nx ((n, if own = true then .own ((xs.filter pr).map f) else .dat (.list ((xs.filter pr).map f))) :: Γ')) .next s') hit fr.full hcaps hx hc htests helt hfs ok fr.sit ?_) (fun _ s' hq => wpAny_pure (wpAny_pure hq)) fun _ _ e => e)
  intro D C h' tk m' vs up hD hC hDC hN hA hr
  show wpAny _ A (PySem.assign (.Name n p) env (.ref D)) _ _ _
  have dead : ∀ {b}, s.heap.get? b = none → s₀.heap.get? b = none ∧ Z.z b = none ∧ ¬ X b := fun {b} hd => by
    refine ⟨?_, ?_, fun x => ?_⟩
    · cases e : s₀.heap.get? b with
      | none => rfl
      | some o => rw [fr.ic.toInCall.keep b o e] at hd; cases hd
    · cases e : Z.z b with
      | none => rfl
      | some o => rw [fr.z b o e] at hd; cases hd
    · obtain ⟨o, e⟩ := fr.al b x; rw [hd] at e; cases e
  have alC : ∃ o, h'.get? C = some o := by obtain ⟨o, _, _, ho, _⟩ := hN; exact ⟨o, ho⟩
  have alD : ∃ o, h'.get? D = some o := by obtain ⟨n, e⟩ := hA; exact ⟨_, e⟩
  have nLC : env.locals ≠ C := fun e => by obtain ⟨o, _, _, ho, _⟩ := fr.ic.toInCall.ns; rw [e, hC] at ho; cases ho
  have ncC : ∀ n c, env.cells.lookup n = some c → c ≠ C := fun n c hc e => by obtain ⟨o, ho, _⟩ := fr.ic.cell n c hc; rw [e, hC] at ho; cases ho
  -- what is left when the comprehension's variables have gone
  have fin : ∀ {l : Loc} {X' : Addr → Prop} {s' m₂ cm₂}, FrX T s₀ X₀ Z env ((n, l) :: Γ') m₂ cm₂ X' s' → X' C → s'.heap.Ns C m' → ∀ h'', Heap.SameBut C s'.heap h'' →
      Fr T s₀ X₀ Z env ((n, l) :: Γ') { s' with heap := h'' } := by
    intro l X' s' m₂ cm₂ fr' xC nsC h'' hs''
    refine ⟨m₂, cm₂, fun b => X' b ∧ b ≠ C, fr'.chg (fun b => b = C) (fun b o nb e => hs''.extBut b o nb e) nLC (fun n c hc => ncC n c hc) (fun b e => e ▸ (dead hC).1) (fun b e => e ▸ xC) (fun b h => .inl h.1) ⟨fr'.xL, nLC⟩ (fun n c hc => ⟨fr'.xc n c hc, ncC n c hc⟩)
      (fun b h => ⟨fr'.x0 b h, fun e => (dead hC).2.2 (e ▸ fr.x0 b h)⟩) (fun b h => by obtain ⟨o, e⟩ := fr'.al b h.1; exact ⟨o, hs''.extBut b o h.2 e⟩) (fun b o e => hs''.extBut b o (fun h => by rw [h, (dead hC).2.1] at e; cases e) (fr'.z b o e)) fr'.zL fr'.zc (fun v d h => .inr h) ?_⟩
    intro a its p xa x0 za d0
    have : a ≠ C := ns_not_plain nsC p
    exact ⟨⟨xa, this⟩, x0, za, this⟩
  have nsAfter : ∀ {Y : Addr → Prop} {s' : Shared}, (∃ h₁ tk₁ c, s' = { s with heap := h₁, toks := tk₁ } ∧ Heap.SameBut c h' h₁ ∧ Y c ∧ (c = env.locals ∨ ∃ k, env.cells.lookup k = some c)) → s'.heap.Ns C m' := by
    rintro Y s' ⟨h₁, tk₁, c, rfl, hb, _, hc⟩
    refine hN.sameBut hb fun e => ?_
    rcases hc with hc | ⟨kk, hc⟩
    · exact nLC (by rw [← hc, e])
    · exact ncC _ _ hc e.symm
  cases own with
  | true =>
    have fr₁ := fr.upExt (s' := { s with heap := h', toks := tk }) ⟨h', tk, rfl, up⟩ (fun b => b ∈ [D, C]) (fun b e => by simp at e; rcases e with rfl | rfl; exact hD; exact hC) (fun b e => by simp at e; rcases e with rfl | rfl; exact alD; exact alC)
    refine wpAny_assign_Name (fr₁.store (l := .own ((xs.filter pr).map f)) hk hs ⟨D, vs, rfl, .inr (by simp), fun x => (dead hD).2.2 (fr.x0 _ x), (dead hD).1, (dead hD).2.1, hA, hr⟩ (fun n' ds' ds'' _ hm hv => ?_) fun s' m₂ cm₂ fr' hh => ?_)
    · obtain ⟨v, hv', a', vs', rfl, xa, -⟩ := fr.locs n' _ (hs _ hm).1
      rw [hv] at hv'; cases hv'
      exact (dead hD).2.2 xa
    · have nsC : s'.heap.Ns C m' := nsAfter hh
      exact ⟨m', nsC, fun h'' hs'' => ⟨rfl, fin fr' (.inr (by simp)) nsC h'' hs''⟩⟩
  | false =>
    have fr₁ := fr.upExt (s' := { s with heap := h', toks := tk }) ⟨h', tk, rfl, up⟩ (fun b => b = C) (fun b e => e ▸ hC) (fun b e => e ▸ alC)
    refine wpAny_assign_Name (fr₁.store (l := .dat (.list ((xs.filter pr).map f))) hk hs (.list hA (fun h => h.elim (dead hD).2.2 hDC) (hr.mono fun b o nx e => ⟨fun h => nx (h.elim .inl fun h => .inr (by simp [h])), e⟩)) (fun _ _ _ e => nomatch e) fun s' m₂ cm₂ fr' hh => ?_)
    have nsC : s'.heap.Ns C m' := nsAfter hh
    exact ⟨m', nsC, fun h'' hs'' => ⟨rfl, fin fr' (.inr rfl) nsC h'' hs''⟩⟩
end
end Mine
end
section
set_option linter.unusedVariables false
set_option linter.unusedSectionVars false
namespace Mine
open PySem PySem.Calls
open Sem (wp)
section
variable {T : Heap → Prop} [UpT T] {prog : Program} {w : World} {k : Nat} {env : Env} {Γ Γ' : Cx}
theorem Ex1.ret {e : Expr} {pos : Pos} {d : D} (h : Ev T prog w k env Γ e d) : Ex1 T prog w k env Γ (.Return (some e) pos) (.ret d) := .mk fun s₀ X₀ Z A s E ok ⟨m, cm, X, fr⟩ => by
  refine wpAny_Return_some (wpAny_mono (h.run X A s E ok fr.sit) (fun v s₁ h₁ => ?_) fun _ _ x => x)
  have fr₁ := fr.up h₁.1
  obtain ⟨h', tk, e, up⟩ := fr₁.ic.done
  exact ⟨v, rfl, ⟨h', tk, e, up⟩, h₁.2.mono fun b o nx e => ⟨fun h => nx (fr.x0 b h), e⟩⟩
theorem Ex1.ite {test : Expr} {body orelse : List Stmt} {pos : Pos} {b : Bool} {o : OutC} (ht : Tst T prog w k env Γ test b) (h₁ : b = true → Ex T prog w k env Γ body o) (h₂ : b = false → Ex T prog w k env Γ orelse o) :
    Ex1 T prog w k env Γ (.If test body orelse pos) o := .mk fun s₀ X₀ Z A s E ok ⟨m, cm, X, fr⟩ => by
  refine wpAny_If (wpAny_mono (ht.run X A s E ok fr.sit) (fun c s₁ h => ?_) fun _ _ x => x)
  obtain ⟨k₁, rfl⟩ := h
  have fr₁ : Fr T s₀ X₀ Z env Γ s₁ := ⟨m, cm, X, fr.up k₁⟩
  cases c
  · exact (h₂ rfl).run s₀ X₀ Z A s₁ E ok fr₁
  · exact (h₁ rfl).run s₀ X₀ Z A s₁ E ok fr₁
theorem Ex1.aug {n : Str} {p pos : Pos} {op : Operator} {value : Expr} {a b d : D} (hm : (n, Loc.dat a) ∈ Γ) (h : Ev T prog w k env Γ value b) (ho : Op2 T prog w (inplaceOp op) a b d) (hk : Kin env n) (hs : Drp n Γ Γ') (hkk : 2 ≤ k := by omega) :
    Ex1 T prog w k env Γ (.AugAssign (.Name n p) op value pos) (.nx ((n, .dat d) :: Γ')) := .mk fun s₀ X₀ Z A s E ok ⟨m, cm, X, fr⟩ => by
  obtain ⟨u, hu, ru⟩ := fr.locs n _ hm
  refine wpAny_AugAssign_Name (load_nameVal fr.fn (fr.nameVal hu) ?_)
  refine wpAny_mono (h.run X A s E ok fr.sit) (fun v s₁ h₁ => ?_) fun _ _ x => x
  have fr₁ := fr.up h₁.1
  have st₁ := fr₁.sit
  refine wpAny_mono (ho X A s₁ E u v (ok.less hkk) st₁.top st₁.al (Rd.up ru h₁.1.up) h₁.2) (fun r s₂ h₂ => ?_) fun _ _ x => x
  exact (fr₁.up h₂.1).store (l := .dat d) hk hs h₂.2 (fun _ _ _ e => nomatch e) fun s' m' cm' fr' _ => ⟨rfl, m', cm', X, fr'⟩
theorem Ex1.append {n : Str} {p apos pos epos : Pos} {elt : Expr} {ds : List D} {d : D} (hm : (n, Loc.own ds) ∈ Γ) (h : Ev T prog w k env Γ elt d) (hs : Drp n Γ Γ') (hl : ds.length ≤ sizeLine)
    (hbase : attributeBase (.Name n p) "append" env (eval (.Name n p) env) = eval (.Name n p) env := by rfl)
    (hfew : ((backTo pos (starEach [elt] env)).all (fun x => !x.1) && (backToKw pos (keywordEach [] env)).all (fun x => x.1.isSome)
      && decide (([elt] : List Expr).length + ([] : List Keyword).length + (if ([] : List Keyword).isEmpty then 0 else 1) < 30)) = true := by rfl)
    (hline : (apos.endLine == pos.line) = true := by rfl)
    (htrees : backTo pos (starEach [elt] env) = [(false, eval elt env)] := by rfl)
    (hi : interactive env = false := by rfl) (hsw : swapsWith (.Call (.Attribute (.Name n p) "append" apos) [elt] [] pos) none epos.line env = pure false := by rfl)
    (hd : (n == ("__debug__" : Str)) = false := by decide) :
    Ex1 T prog w k env Γ (.Expr (.Call (.Attribute (.Name n p) "append" apos) [elt] [] pos) epos) (.nx ((n, .own (ds ++ [d])) :: Γ')) := .mk fun s₀ X₀ Z A s E ok ⟨m, cm, X, fr⟩ => by
  obtain ⟨u, hu, a, vs, rfl, xa, x0, d0, za, pl, r⟩ := fr.locs n _ hm
  refine wpAny_Expr_any (hi := hi) (hs := hsw) (wpAny_Call_append hbase hfew hline htrees (wpAny_Name (load_nameVal fr.fn (fr.nameVal hu) ?_) hd))
  refine ⟨a, vs.toArray, rfl, by obtain ⟨n, e⟩ := pl; exact ⟨_, n, e, rfl, rfl, rfl⟩, wpAny_mono (h.run X A s E ok fr.sit) (fun y s₁ h₁ => ?_) fun _ _ x => x⟩
  obtain ⟨k₁, ry⟩ := h₁
  have fr₁ := fr.up k₁
  have hsz : vs.toArray.size ≤ sizeLine := by rw [List.size_toArray, r.length]; exact hl
  refine wpAny_list_append_plain (hsz := hsz) (pl.at fun o e => k₁.up _ _ e) fun h' hp hb => ⟨rfl, m, cm, X, ?_⟩
  have := fr₁.mut (Γ' := Γ') (tk := s₁.toks) hm hu hs (vs' := vs ++ [y]) (by simpa using hp) ((r.up k₁.up).append (.cons ry .nil)) hb
  exact this
theorem Asn.tuple {es : List Expr} {x1 : Nat} {pos : Pos} {d : D} {ds : List D} (hd : seqD d = some ds) (hl : es.length = ds.length) (hsz : ds.length ≤ sizeLine)
    (hes : (assignEach es env).length = es.length) (hstar : (assignEach es env).findIdx? (·.1) = none)
    (hall : ∀ (s₀ : Shared) (X₀ : Addr → Prop) (Z : Prot) (m cm : Str → Option Value) (X : Addr → Prop) (A : Around) (s : Shared) (E : Value → Shared → Prop) (vs : List Value), Okn k A → FrX T s₀ X₀ Z env Γ m cm X s → Rds X s.heap vs ds →
      wpAny (model prog w) A (assignInOrder ((assignEach es env).map (·.2)) vs) (fun _ s' => ∃ m' cm', FrX T s₀ X₀ Z env Γ' m' cm' X s' ∧ ∃ h' tk, s' = { s with heap := h', toks := tk } ∧ ∀ b o, ¬ X b → s.heap.get? b = some o → h'.get? b = some o) E s) :
    Asn T prog w k env Γ (.Tuple es x1 pos) d Γ' := .mk fun s₀ X₀ Z m cm X A s E v ok fr r => by
  rw [arm_assign_Tuple]
  refine wpAny_bind (wpAny_standAt ?_)
  unfold unpack
  rw [hstar, hes, hl]
  refine wpAny_bind (wpAny_holding (wpAny_mono (unpack_items ok.hh fr.al r hd hsz) (fun vs s₁ h₁ => ?_) fun _ _ x => x))
  refine wpAny_mono (hall s₀ X₀ Z m cm X A s₁ E vs ok (fr.up h₁.1) h₁.2) (fun _ s₂ h₂ => ?_) fun _ _ x => x
  obtain ⟨m', cm', fr', h', tk, rfl, hk⟩ := h₂
  obtain ⟨h₁', tk₁, rfl, up⟩ := h₁.1
  exact ⟨m', cm', fr', h', tk, rfl, fun b o nx e => hk b o nx (up b o e)⟩
/-- a row of targets -/
noncomputable def Asns (T : Heap → Prop) (prog : Program) (w : World) (k : Nat) (env : Env) (Γ : Cx) (es : List Expr) (ds : List D) (Γ' : Cx) : Prop :=
  (assignEach es env).length = es.length ∧ (assignEach es env).findIdx? (·.1) = none ∧ es.length = ds.length ∧
  ∀ (s₀ : Shared) (X₀ : Addr → Prop) (Z : Prot) (m cm : Str → Option Value) (X : Addr → Prop) (A : Around) (s : Shared) (E : Value → Shared → Prop) (vs : List Value), Okn k A → FrX T s₀ X₀ Z env Γ m cm X s → Rds X s.heap vs ds →
      wpAny (model prog w) A (assignInOrder ((assignEach es env).map (·.2)) vs) (fun _ s' => ∃ m' cm', FrX T s₀ X₀ Z env Γ' m' cm' X s' ∧ ∃ h' tk, s' = { s with heap := h', toks := tk } ∧ ∀ b o, ¬ X b → s.heap.get? b = some o → h'.get? b = some o) E s
theorem Asns.nil : Asns T prog w k env Γ [] [] Γ := ⟨rfl, rfl, rfl, fun s₀ X₀ Z m cm X A s E vs ok fr r => by
  cases r
  exact wpAny_pure ⟨m, cm, fr, s.heap, s.toks, rfl, fun _ _ _ e => e⟩⟩
theorem Asns.cons {n : Str} {pos : Pos} {es : List Expr} {d : D} {ds : List D} {Γ₁ : Cx} (h : Asn T prog w k env Γ (.Name n pos) d Γ₁) (hs : Asns T prog w k env Γ₁ es ds Γ') : Asns T prog w k env Γ (.Name n pos :: es) (d :: ds) Γ' := by
  obtain ⟨e1, e2, e3, hs⟩ := hs
  refine ⟨by show (assignEach es env).length + 1 = _; rw [e1]; rfl, ?_, by simp [e3], fun s₀ X₀ Z m cm X A s E vs ok fr r => ?_⟩
  · show ((false, PySem.assign (.Name n pos) env) :: assignEach es env).findIdx? (·.1) = none
    rw [List.findIdx?_cons, e2]; rfl
  · cases r with
    | cons r rs =>
      rename_i v vs
      show wpAny _ _ (holding vs (PySem.assign (.Name n pos) env v) >>= fun _ => assignInOrder ((assignEach es env).map (·.2)) vs) _ E s
      refine wpAny_bind (wpAny_holding (wpAny_mono (h.run s₀ X₀ Z m cm X A s E v ok fr r) (fun _ s₁ h₁ => ?_) fun _ _ x => x))
      obtain ⟨m₁, cm₁, fr₁, h₁', tk₁, rfl, hk₁⟩ := h₁
      refine wpAny_mono (hs s₀ X₀ Z m₁ cm₁ X A _ E vs ok fr₁ (rs.mono fun b o nx e => ⟨nx, hk₁ b o nx e⟩)) (fun _ s₂ h₂ => ?_) fun _ _ x => x
      obtain ⟨m₂, cm₂, fr₂, h₂', tk₂, rfl, hk₂⟩ := h₂
      exact ⟨m₂, cm₂, fr₂, h₂', tk₂, rfl, fun b o nx e => hk₂ b o nx (hk₁ b o nx e)⟩
theorem Asn.tup {es : List Expr} {x1 : Nat} {pos : Pos} {d : D} {ds : List D} (hd : seqD d = some ds) (hsz : ds.length ≤ sizeLine) (h : Asns T prog w k env Γ es ds Γ') : Asn T prog w k env Γ (.Tuple es x1 pos) d Γ' :=
  Asn.tuple hd h.2.2.1 hsz h.1 h.2.1 h.2.2.2
theorem Ex1.assignT {t : Expr} {value : Expr} {pos : Pos} {d : D} (h : Ev T prog w k env Γ value d) (ha : Asn T prog w k env Γ t d Γ')
    (hs : swapsWithSole [t] value pos.line env = pure false := by rfl) (hw : swappedStores [t] value env = pure none := by rfl) (he : (assignEach [t] env).map (·.2) = [PySem.assign t env] := by rfl) :
    Ex1 T prog w k env Γ (.Assign [t] value pos) (.nx Γ') := .mk fun s₀ X₀ Z A s E ok ⟨m, cm, X, fr⟩ => by
  refine wpAny_Assign_stores (wpAny_mono (h.run X A s E ok fr.sit) (fun v s₁ h₁ => ?_) fun _ _ x => x) hs hw
  rw [he]
  show wpAny _ A (PySem.assign t env v) _ _ _
  refine wpAny_mono (ha.run s₀ X₀ Z m cm X A s₁ E v ok (fr.up h₁.1) h₁.2) (fun _ s₂ h₂ => ?_) fun _ _ x => x
  obtain ⟨m', cm', fr', -⟩ := h₂
  exact ⟨rfl, m', cm', X, fr'⟩
/-- what an iterator's own objects are kept by -/
noncomputable def Zt (fp : List Addr) (Z : Prot) (K : Value → D → Prop) (h : Heap) : Prot := ⟨fun b => if b ∈ fp then h.get? b else Z.z b, fun v d => Z.k v d ∨ K v d⟩
theorem Ex1.loop {α : Type} {t iter : Expr} {body : List Stmt} {pos : Pos} {xs : List α} {enc : α → Mine.D} (J : Nat → Cx) (G : Nat → Cx)
    (hit : It T prog w k env Γ iter (xs.map enc)) (h0 : ∀ p ∈ J 0, p ∈ Γ) (ha : ∀ i a, xs[i]? = some a → Asn T prog w k env (J i) t (enc a) (G i)) (hb : ∀ i a, xs[i]? = some a → Ex T prog w k env (G i) body (.nx (J (i + 1))))
    (hfs : ∀ env x, foldedSetIterable iter env x = pure x := by intros; rfl) :
    Ex1 T prog w k env Γ (.For t iter body [] pos) (.nx (J xs.length)) := .mk fun s₀ X₀ Z A s E ok ⟨m, cm, X, fr⟩ => by
  refine wpAny_For (wpAny_mono (hit.run X A s E ok fr.sit) (fun xv s₁ h₁ => wpAny_mono h₁.2 (fun it s₂ h₂ => ?_) fun _ _ e => e) fun _ _ e => e) (hfs env)
  obtain ⟨k₁, -⟩ := h₁
  obtain ⟨k₂, I, fp, wr, P, St, rfl, W, hsz, hst, hfp, hfX, hwr, hal, hgo, hP⟩ := h₂
  have fr₁ := fr.up k₁
  have lenW : (xs.map enc).length = xs.length := List.length_map _
  rw [lenW] at W hP
  have wS : ∀ b ∈ wr, s₀.heap.get? b = none := fun b hb => by
    cases e : s₀.heap.get? b with
    | none => rfl
    | some o => have := fr₁.ic.toInCall.keep b o e; rw [hwr b hb] at this; cases this
  have wX : ∀ b ∈ wr, ¬ X b := fun b hb x => by obtain ⟨o, e⟩ := fr₁.al b x; rw [hwr b hb] at e; cases e
  have wZ : ∀ b ∈ wr, Z.z b = none := fun b hb => by
    cases e : Z.z b with
    | none => rfl
    | some o => have := fr₁.z b o e; rw [hwr b hb] at this; cases this
  have nLf : env.locals ∉ fp := fun h => hfX _ h fr.xL
  have ncf : ∀ n c, env.cells.lookup n = some c → c ∉ fp := fun n c hc h => hfX _ h (fr.xc n c hc)
  have x0w : ∀ b, X₀ b → b ∉ wr := fun b h hb => wX b hb (fr.x0 b h)
  have wf : ∀ b, b ∉ fp → b ∉ wr := fun b h hb => h (W.sub b hb)
  obtain ⟨h₂, tk₂, rfl, up₂⟩ := k₂
  generalize hK : (fun (v : Value) (d : Mine.D) => Rd X s₁.heap v d) = K
  have wid₀ : Wider X s₁.heap (Xy X wr) h₂ := fun b o nx e => And.intro (fun h => h.elim nx fun h => absurd ((hwr b h).symm.trans e) (fun x => nomatch x)) (up₂ b o e)
  have start : FrX T s₀ (Xy X₀ wr) (Zt fp Z K h₂) env (J 0) m cm (Xy X wr) { s₁ with heap := h₂, toks := tk₂ } := by
    refine (fr₁.weaken h0).chg (fun _ => False) (fun b o _ e => up₂ b o e) (fun h => h) (fun _ _ _ h => h) (fun _ h => h.elim) (fun _ h => h.elim) (fun b h => h.elim .inl fun h => .inr (hwr b h)) (.inl fr.xL) (fun n c hc => .inl (fr.xc n c hc))
      (fun b h => h.elim (fun h => .inl (fr.x0 b h)) .inr) (fun b h => h.elim (fun h => let ⟨o, e⟩ := fr₁.al b h; ⟨o, up₂ b o e⟩) fun h => hal 0 _ hst b (W.sub b h))
      (fun b o e => by simp only [Zt] at e; split at e; exact e; exact up₂ b o (fr₁.z b o e)) (by simp only [Zt]; rw [if_neg nLf]; exact fr.zL) (fun n c hc => by simp only [Zt]; rw [if_neg (ncf n c hc)]; exact fr.zc n c hc)
      (fun v d h => h.elim .inr fun h => .inl (by subst hK; exact Rd.mono wid₀ h))
      (fun a its p xa x0 za d0 => ⟨.inl xa, fun h => h.elim x0 fun h => wX a h xa, by simp only [Zt]; rw [if_neg (fun h => hfX a h xa)]; exact za, fun h => h⟩)
  refine codeAny_forLoop_any
    (fun n s' => ∃ i h' tk m' cm' X', s' = { s₁ with heap := h', toks := tk } ∧ FrX T s₀ (Xy X₀ wr) (Zt fp Z K h') env (J i) m' cm' X' s' ∧ St i h' ∧ i ≤ xs.length ∧ n = xs.length + 1 - i ∧ ∀ b o, Z.z b = some o → h'.get? b = some o) ?_ (xs.length + 1)
    ⟨0, h₂, tk₂, m, cm, _, rfl, start, hst, Nat.zero_le _, rfl, fun b o e => up₂ b o (fr₁.z b o e)⟩
  rintro n s' ⟨i, h', tk, m', cm', X', rfl, fr', st', hi, rfl, hz⟩
  have wX' : ∀ b, b ∈ wr → X' b := fun b hb => fr'.x0 b (.inr hb)
  have ownf : ∀ a, (Zt fp Z K h').z a = none → a ∉ fp := fun a e h => by
    obtain ⟨o, ho⟩ := hal _ _ st' a h
    simp only [Zt] at e; rw [if_pos h, ho] at e; cases e
  by_cases hlt : i < xs.length
  · refine W.item i _ _ _ hlt st' fun v h₃ tk₃ hv st₃ hk₃ => ?_
    obtain ⟨d, hd, hr⟩ := hP i v hlt hv
    rw [List.getElem?_map] at hd
    obtain ⟨a, hxa, rfl⟩ := Option.map_eq_some_iff.mp hd
    have fr₃ : FrX T s₀ (Xy X₀ wr) (Zt fp Z K h₃) env (J i) m' cm' X' { s₁ with heap := h₃, toks := tk₃ } := by
      refine fr'.chg (fun b => b ∈ wr) (fun b o nb e => hk₃ b o nb e) (wf _ nLf) (fun n c hc => wf _ (ncf n c hc)) wS wX' (fun b h => .inl h) fr'.xL fr'.xc fr'.x0
        (fun b h => ?_) (fun b o e => ?_) (by simp only [Zt]; rw [if_neg nLf]; exact fr.zL) (fun n c hc => by simp only [Zt]; rw [if_neg (ncf n c hc)]; exact fr.zc n c hc) (fun v d h => .inr h) (fun a its p xa x0 za d0 => ?_)
      · by_cases hb : b ∈ wr
        · exact hal _ _ st₃ b (W.sub b hb)
        · obtain ⟨o, e⟩ := fr'.al b h; exact ⟨o, hk₃ b o hb e⟩
      · simp only [Zt] at e
        split at e
        · exact e
        · rename_i hb
          exact hk₃ b o (wf b hb) (fr'.z b o (by simp only [Zt]; rw [if_neg hb]; exact e))
      · have haf := ownf a za
        refine ⟨xa, x0, ?_, wf a haf⟩
        simp only [Zt] at za ⊢
        rw [if_neg haf] at za ⊢; exact za
    have hrv : Rd X' h₃ v (enc a) := fr₃.kept v _ (.inr (by subst hK; exact hr))
    refine hgo (i + 1) _ _ _ _ _ _ st₃ ?_
    refine wpAny_mono ((ha i a hxa).run s₀ _ _ m' cm' X' A _ _ v ok fr₃ hrv) (fun _ s₄ h₄ => ?_) fun _ _ x => x
    obtain ⟨m₄, cm₄, fr₄, h₄', tk₄, e₄, -⟩ := h₄
    refine wpAny_mono ((hb i a hxa).run s₀ _ _ A s₄ _ ok ⟨m₄, cm₄, X', fr₄⟩) (fun f s₅ h₅ => ?_) fun _ _ x => x
    obtain ⟨rfl, m₅, cm₅, X₅, fr₅⟩ := h₅
    have zfp : ∀ b ∈ fp, ∀ o, h₃.get? b = some o → s₅.heap.get? b = some o := fun b hb o e => fr₅.z b o (by simp only [Zt]; rw [if_pos hb]; exact e)
    have eqZ : Zt fp Z K h₃ = Zt fp Z K s₅.heap := by
      unfold Zt
      congr 1
      funext b
      by_cases hb : b ∈ fp
      · rw [if_pos hb, if_pos hb]
        obtain ⟨o, ho⟩ := hal _ _ st₃ b hb
        rw [ho, zfp b hb o ho]
      · rw [if_neg hb, if_neg hb]
    have same : ∃ tk₅, s₅ = { s₁ with heap := s₅.heap, toks := tk₅ } := by
      obtain ⟨ha1, ta1, e1⟩ := fr₅.ic.toInCall.same
      obtain ⟨ha2, ta2, e2⟩ := fr₁.ic.toInCall.same
      exact ⟨ta1, by rw [e1, e2]⟩
    obtain ⟨tk₅, e₅⟩ := same
    exact ⟨xs.length + 1 - (i + 1), by omega, i + 1, s₅.heap, tk₅, m₅, cm₅, X₅, e₅, eqZ ▸ fr₅, W.frame _ _ _ st₃ zfp, hlt, rfl, fun b o e => by
      by_cases hbf : b ∈ fp
      · exact zfp b hbf o (hk₃ b o (fun h => by rw [wZ b h] at e; cases e) (hz b o e))
      · exact fr₅.z b o (by simp only [Zt]; rw [if_neg hbf]; exact e)⟩
  · have hin : i = xs.length := by omega
    subst hin
    refine W.done _ _ _ st' fun h₃ tk₃ hk₃ => ?_
    refine wpAny_execs_nil ⟨rfl, m', cm', fun b => X' b ∧ b ∉ wr, ?_⟩
    refine fr'.chg (fun b => b ∈ wr) (fun b o nb e => hk₃ b o nb e) (wf _ nLf) (fun n c hc => wf _ (ncf n c hc)) wS wX' (fun b h => .inl h.1) ⟨fr'.xL, wf _ nLf⟩ (fun n c hc => ⟨fr'.xc n c hc, wf _ (ncf n c hc)⟩) (fun b h => ⟨fr'.x0 b (.inl h), x0w b h⟩)
        (fun b h => ?_) (fun b o e => hk₃ b o (fun h => by rw [wZ b h] at e; cases e) (hz b o e)) fr.zL fr.zc (fun v d h => .inr (.inl h)) (fun a its p xa x0 za d0 => ?_)
    · obtain ⟨o, e⟩ := fr'.al b h.1; exact ⟨o, hk₃ b o h.2 e⟩
    · have haf := ownf a za
      refine ⟨⟨xa, wf a haf⟩, fun h => x0 (.inl h), ?_, wf a haf⟩
      simp only [Zt] at za
      rw [if_neg haf] at za; exact za
end
end Mine
end
section
set_option linter.unusedVariables false
set_option linter.unusedSectionVars false
namespace Mine
open PySem PySem.Calls
open Sem (wp)
section
variable {T : Heap → Prop} [UpT T] {prog : Program} {w : World} {k : Nat} {env : Env} {Γ Γ' : Cx}
theorem Ex1.whl {test : Expr} {body : List Stmt} {pos : Pos} (J : Nat → Cx) (N : Nat) (h0 : ∀ p ∈ J 0, p ∈ Γ) (ht : ∀ i, i < N → Tst T prog w k env (J i) test true) (hb : ∀ i, i < N → Ex T prog w k env (J i) body (.nx (J (i + 1)))) (he : Tst T prog w k env (J N) test false) :
    Ex1 T prog w k env Γ (.While test body [] pos) (.nx (J N)) := .mk fun s₀ X₀ Z A s E ok fr => by
  refine wpAny_While (codeAny_whileLoop (fun n s' => ∃ i, Fr T s₀ X₀ Z env (J i) s' ∧ i ≤ N ∧ n = N + 1 - i) ?_ (N + 1) ⟨0, fr.weaken h0, Nat.zero_le _, rfl⟩)
  rintro n s' ⟨i, ⟨m, cm, X, fr'⟩, hi, rfl⟩
  by_cases hlt : i < N
  · refine wpAny_mono ((ht i hlt).run X A s' _ ok fr'.sit) (fun b s₁ h₁ => ?_) fun _ _ x => x
    obtain ⟨k₁, rfl⟩ := h₁
    simp only [if_true]
    refine wpAny_mono ((hb i hlt).run s₀ X₀ Z A s₁ _ ok ⟨m, cm, X, fr'.up k₁⟩) (fun f s₂ h₂ => ?_) fun _ _ x => x
    obtain ⟨rfl, fr₂⟩ := h₂
    exact ⟨N + 1 - (i + 1), by omega, i + 1, fr₂, hlt, rfl⟩
  · have : i = N := by omega
    subst this
    refine wpAny_mono (he.run X A s' _ ok fr'.sit) (fun b s₁ h₁ => ?_) fun _ _ x => x
    obtain ⟨k₁, rfl⟩ := h₁
    simp only [Bool.false_eq_true, if_false]
    exact wpAny_execs_nil ⟨rfl, m, cm, X, fr'.up k₁⟩
theorem bind_other (kindOf : Str → Option NameKind) : ∀ (bs : List (Str × Value)) (m cm : Str → Option Value) (n : Str), (∀ x ∈ bs, x.1 ≠ n) → bindL kindOf bs m n = m n ∧ bindC kindOf bs cm n = cm n
  | [], m, cm, n, _ => ⟨rfl, rfl⟩
  | (y, v) :: r, m, cm, n, h => by
    have hne : n ≠ y := fun e => h (y, v) List.mem_cons_self e.symm
    obtain ⟨h1, h2⟩ := bind_other kindOf r (if kindOf y = some .local then fun z => if z = y then some v else m z else m) (if kindOf y = some .local then cm else fun z => if z = y then some v else cm z) n fun x hx => h x (List.mem_cons_of_mem _ hx)
    unfold bindL bindC
    rw [h1, h2]
    constructor <;> split <;> simp [hne]
theorem bind_val (kindOf : Str → Option NameKind) : ∀ (bs : List (Str × Value)) (m cm : Str → Option Value) (n : Str) (v : Value), (bs.map (·.1)).Nodup → (n, v) ∈ bs →
    (kindOf n = some .local → bindL kindOf bs m n = some v) ∧ (kindOf n = some .cell → bindC kindOf bs cm n = some v)
  | [], m, cm, n, v, _, h => by cases h
  | (y, u) :: r, m, cm, n, v, nd, h => by
    rw [List.map_cons, List.nodup_cons] at nd
    unfold bindL bindC
    rcases List.mem_cons.mp h with e | h
    · obtain ⟨rfl, rfl⟩ := Prod.mk.inj e
      have ho := bind_other kindOf r (if kindOf n = some .local then fun z => if z = n then some v else m z else m) (if kindOf n = some .local then cm else fun z => if z = n then some v else cm z) n fun x hx e => nd.1 (by rw [← e]; exact List.mem_map_of_mem (f := (·.1)) hx)
      rw [ho.1, ho.2]
      constructor
      · intro hk; rw [if_pos hk]; simp
      · intro hk; rw [if_neg (by rw [hk]; decide)]; simp
    · exact bind_val kindOf r _ _ n v nd.2 h
theorem zip_mem {X : Addr → Prop} {h : Heap} : ∀ {ps : List Str} {vs : List Value} {ds : List D} {n : Str} {d : D}, Rds X h vs ds → (n, Loc.dat d) ∈ ps.zip (ds.map Loc.dat) → ∃ v, (n, v) ∈ ps.zip vs ∧ Rd X h v d
  | [], vs, ds, n, d, _, hm => by simp at hm
  | p :: ps, _, _, n, d, .nil, hm => by simp at hm
  | p :: ps, _, _, n, d, .cons r rs, hm => by
    simp only [List.map_cons, List.zip_cons_cons] at hm ⊢
    rcases List.mem_cons.mp hm with e | hm
    · cases e; exact ⟨_, List.mem_cons_self, r⟩
    · obtain ⟨v, h1, h2⟩ := zip_mem rs hm
      exact ⟨v, List.mem_cons_of_mem _ h1, h2⟩
theorem Fn.of_body {a : Addr} {fd : FuncData} {ps : List Str} {body : List Stmt} {ds : List D} {d : D} (hat : ∀ h, T h → ∃ o, h.get? a = some o ∧ o.data = .func fd) (hlim : ∀ h, T h → h.NoLimit) (hcd : ∀ h, T h → h.CodeRec fd.code fd.qualname)
    (hbody : fd.body = .stmts body) (hbind : ∀ vs, vs.length = ps.length → bindArgs fd ⟨vs, []⟩ = pure (ps.zip vs)) (hlen : ps.length = ds.length) (hnd : ps.Nodup) (hkin : ∀ p ∈ ps, fd.scope.names.lookup p = some .local ∨ fd.scope.names.lookup p = some .cell)
    (hclo : fd.closure = []) (hk : fd.scope.kind = .function) (hco : fd.scope.isCoroutine = false) (hgen : fd.scope.isGenerator = false)
    (hb : ∀ L, Ex T prog w k (callEnvC fd L a) (ps.zip (ds.map Loc.dat)) body (.ret d)) : Fn T prog w (k + 1) (.ref a) ds d := fun X A s E vs ok ht al hr => by
  obtain ⟨o, ho, hfd⟩ := hat _ ht
  have hlv : vs.length = ps.length := by rw [hr.length, hlen]
  refine wpAny_call (codeAny_call_cells ok.room ho hfd (hlim _ ht) (hcd _ ht) hbody (hbind vs hlv) hclo ?_ (fun s₁ ic => ?_) hco hgen hk)
  · intro x hx
    have hxp : x.1 ∈ ps := (List.of_mem_zip hx).1
    rcases hkin _ hxp with h | h
    · exact .inl h
    · refine .inr ⟨h, ?_⟩
      obtain ⟨c, hc⟩ := CellsFull.call fd s.heap.objs.size a x.1 h
      have : (cellsFrom (s.heap.objs.size + 1) fd.scope.names []).lookup x.1 = some c := hc
      rw [this]; rfl
  · generalize hL : s.heap.objs.size = L at ic ⊢
    have dL : s.heap.get? L = none := hL ▸ dead_size _
    have hcL : (callEnvC fd L a).locals = L := rfl
    have dead : ∀ b, L ≤ b → s.heap.get? b = none := fun b hb => by
      cases e : s.heap.get? b with
      | none => rfl
      | some o => exact absurd (Heap.lt_size e) (by rw [hL]; exact Nat.not_lt.mpr hb)
    have dc : ∀ n c, (callEnvC fd L a).cells.lookup n = some c → s.heap.get? c = none := fun n c hc => dead c (Nat.le_of_lt (ic.above n c (mem_of_lookup hc)))
    let X' : Addr → Prop := fun b => X b ∨ b = L ∨ ∃ n, (callEnvC fd L a).cells.lookup n = some b
    have dX : ∀ b o, s.heap.get? b = some o → X' b → X b := fun b o e h => by
      rcases h with h | rfl | ⟨n, h⟩
      · exact h
      · rw [dL] at e; cases e
      · rw [dc n b h] at e; cases e
    have wid : Wider X s.heap X' s₁.heap := fun b o nx e => ⟨fun h => nx (dX b o e h), ic.toInCall.keep b o e⟩
    have fr : FrX T s X ⟨fun _ => none, fun _ _ => False⟩ (callEnvC fd L a) (ps.zip (ds.map Loc.dat)) (bindL (callEnvC fd L a).kindOf (ps.zip vs) fun _ => none) (bindC (callEnvC fd L a).kindOf (ps.zip vs) fun _ => none) X' s₁ := {
      fn := hk
      full := CellsFull.call fd L a
      ic := ic
      top := ht
      x0 := fun b h => .inl h
      xL := .inr (.inl rfl)
      xc := fun n c h => .inr (.inr ⟨n, h⟩)
      al := fun b h => by
        rcases h with h | rfl | ⟨n, h⟩
        · obtain ⟨o, e⟩ := al b h; exact ⟨o, ic.toInCall.keep b o e⟩
        · obtain ⟨o, _, _, ho, _⟩ := ic.toInCall.ns; exact ⟨o, ho⟩
        · obtain ⟨o, ho, _⟩ := ic.cell n b h; exact ⟨o, ho⟩
      z := fun _ _ e => by cases e
      zL := rfl
      zc := fun _ _ _ => rfl
      kept := fun _ _ h => h.elim
      locs := fun n l hm => by
        have hmem := hm
        have hl : ∃ d, l = .dat d := by
          have := (List.of_mem_zip hm).2
          obtain ⟨d, _, rfl⟩ := List.mem_map.mp this
          exact ⟨d, rfl⟩
        obtain ⟨d', rfl⟩ := hl
        obtain ⟨v, hv, rv⟩ := zip_mem hr hm
        refine ⟨v, ?_, Rd.mono wid rv⟩
        have hnd' : ((ps.zip vs).map (·.1)).Nodup := by rw [List.map_fst_zip (by omega)]; exact hnd
        obtain ⟨b1, b2⟩ := bind_val (callEnvC fd L a).kindOf (ps.zip vs) (fun _ => none) (fun _ => none) n v hnd' hv
        unfold valOf
        rcases hkin n (List.of_mem_zip hm).1 with h | h
        · have h' : (callEnvC fd L a).kindOf n = some .local := h
          rw [h']; exact b1 h'
        · have h' : (callEnvC fd L a).kindOf n = some .cell := h
          rw [h']; exact b2 h'
      apart := fun n n' ds ds' v h _ _ _ => by
        have := (List.of_mem_zip h).2
        obtain ⟨d, _, e⟩ := List.mem_map.mp this
        cases e }
    refine wpAny_mono ((hb L).run s X _ (A.deeper (callEnvC fd L a)) s₁ _ (ok.deeper _) ⟨_, _, _, fr⟩) (fun f s₂ h₂ => ?_) fun _ _ x => x
    obtain ⟨v, rfl, k₂, r₂⟩ := h₂
    exact ⟨k₂, r₂⟩
end
end Mine
end
section
set_option linter.unusedVariables false
set_option linter.unusedSectionVars false
namespace Mine
open PySem PySem.Calls
open Sem (wp)
section
variable {T : Heap → Prop} [UpT T] {prog : Program} {w : World} {k : Nat} {env : Env} {Γ Γ' : Cx}
theorem o_add (a b : Int) : Op2 T prog w (binaryOp .Add) (.int a) (.int b) (.int (a + b)) := fun X A s E u v ok ht al h1 h2 => by
  cases h1; cases h2; exact P.add_int ⟨.tok _, .int _ _⟩
theorem o_iadd (a b : Int) : Op2 T prog w (inplaceOp .Add) (.int a) (.int b) (.int (a + b)) := fun X A s E u v ok ht al h1 h2 => by
  cases h1; cases h2; exact P.iadd_int ⟨.tok _, .int _ _⟩
theorem o_sub (a b : Int) : Op2 T prog w (binaryOp .Sub) (.int a) (.int b) (.int (a - b)) := fun X A s E u v ok ht al h1 h2 => by
  cases h1; cases h2; exact P.sub_int ⟨.tok _, .int _ _⟩
theorem o_mul (a b : Int) (hm : IntMulOk a b) : Op2 T prog w (binaryOp .Mult) (.int a) (.int b) (.int (a * b)) := fun X A s E u v ok ht al h1 h2 => by
  cases h1; cases h2; exact P.mul_int ⟨.tok _, .int _ _⟩ hm
theorem o_mod (a b : Int) (hb : 0 < b) : Op2 T prog w (binaryOp .Mod) (.int a) (.int b) (.int (a % b)) := fun X A s E u v ok ht al h1 h2 => by
  have e : a.fmod b = a % b := Int.fmod_eq_emod_of_nonneg a (Int.le_of_lt hb)
  cases h1; cases h2; exact PyProof.Rows.mod_int' (by omega) ⟨.tok _, e ▸ .int _ _⟩
theorem o_floordiv (a b : Int) (hb : 0 < b) (hs : b.natAbs.log2 < 9000) : Op2 T prog w (binaryOp .FloorDiv) (.int a) (.int b) (.int (a / b)) := fun X A s E u v ok ht al h1 h2 => by
  have e : a.fdiv b = a / b := Int.fdiv_eq_ediv_of_nonneg a (Int.le_of_lt hb)
  cases h1; cases h2; exact PyProof.Rows.floordiv_int (by omega) ⟨.tok _, e ▸ .int _ _⟩ (.inl (PyProof.noPylong_of_log2 hs))
theorem o_pow (a n : Int) (hn : 0 ≤ n) (hn2 : n ≤ 1000000) (ha : a.natAbs < 2 ^ 64) : Op2 T prog w (binaryOp .Pow) (.int a) (.int n) (.int (a ^ n.toNat)) := fun X A s E u v ok ht al h1 h2 => by
  cases h1; cases h2; exact PyProof.Rows.pow_int_small hn hn2 ha ⟨.tok _, .int _ _⟩
theorem o_adds (x y : Str) (hsz : x.length + y.length ≤ sizeLine) : Op2 T prog w (binaryOp .Add) (.str x) (.str y) (.str (x ++ y)) := fun X A s E u v ok ht al h1 h2 => by
  cases h1; cases h2; exact PyProof.Rows.add_str (fun t' tk => ⟨.tok _, .str _ _⟩) hsz
theorem o_iadds (x y : Str) (hsz : x.length + y.length ≤ sizeLine) : Op2 T prog w (inplaceOp .Add) (.str x) (.str y) (.str (x ++ y)) := fun X A s E u v ok ht al h1 h2 => by
  cases h1; cases h2; exact PyProof.Rows.iadd_str (fun t' tk => ⟨.tok _, .str _ _⟩) hsz
theorem o_addl (x y : List D) (hsz : x.length + y.length ≤ sizeLine) : Op2 T prog w (binaryOp .Add) (.list x) (.list y) (.list (x ++ y)) := fun X A s E u v ok ht al h1 h2 => by
  cases h1 with
  | @list a vs _ p n r =>
    cases h2 with
    | @list b ws _ q m r' =>
      obtain ⟨e1, p⟩ := p
      obtain ⟨e2, q⟩ := q
      refine P.add_list p q ⟨.push _, ?_⟩ (by simp [r.length, r'.length]; exact hsz)
      refine .list (vs := vs ++ ws) ⟨0, by rw [← List.append_toArray]; exact Heap.get?_push_size _ rfl⟩ (fresh_not al) ?_
      exact (r.append r').up fun _ _ e => Heap.get?_push_of_some _ e
theorem o_eq (a b : Int) : Op2 T prog w (compareOp .Eq) (.int a) (.int b) (.bool (a == b)) := fun X A s E u v ok ht al h1 h2 => by
  cases h1; cases h2; exact P.eq_int ⟨.rfl', .bool _⟩
theorem o_lt (a b : Int) : Op2 T prog w (compareOp .Lt) (.int a) (.int b) (.bool (decide (a < b))) := fun X A s E u v ok ht al h1 h2 => by
  cases h1; cases h2; exact P.lt_int ⟨.rfl', .bool _⟩
theorem o_ge (a b : Int) : Op2 T prog w (compareOp .GtE) (.int a) (.int b) (.bool (decide (b ≤ a))) := fun X A s E u v ok ht al h1 h2 => by
  cases h1; cases h2; exact P.ge_int ⟨.rfl', .bool _⟩
theorem o_neg (a : Int) : Op1 T prog w (unaryOp .USub) (.int a) (.int (-a)) := fun X A s E u ok ht al h1 => by
  cases h1; exact P.neg_int ⟨.tok _, .int _ _⟩
theorem f_ord (c : Nat) : Fn T prog w k (.builtin "ord") [.str ⟨#[c]⟩] (.int c) := fun X A s E vs ok ht al hr => by
  cases hr with | cons h1 r => cases r; cases h1; exact P.ord_of_char ⟨.tok _, .int _ _⟩
theorem f_chr (i : Int) (h0 : 0 ≤ i) (h1 : i ≤ 0x10FFFF) : Fn T prog w k (.builtin "chr") [.int i] (.str ⟨#[i.toNat]⟩) := fun X A s E vs ok ht al hr => by
  cases hr with | cons h1 r => cases r; cases h1; exact P.chr_of_int (by simp; omega) ⟨.tok _, .str _ _⟩
theorem f_len (ds : List D) (hl : ds.length ≤ sizeLine) : Fn T prog w k (.builtin "len") [.list ds] (.int ds.length) := fun X A s E vs ok ht al hr => by
  cases hr with
  | cons h1 r =>
    cases r
    cases h1 with
    | @list a vs _ p n r =>
      have e : vs.toArray.size = ds.length := by simp [r.length]
      have hs : sizeLine = 2 ^ 24 := by decide
      refine call_len_list p.isList (by rw [e]; omega) ⟨⟨_, _, rfl, fun _ _ e => e⟩, ?_⟩
      rw [e]; exact .int _ _
theorem f_abs (a : Int) : Fn T prog w k (.builtin "abs") [.int a] (.int (if a < 0 then -a else a)) := fun X A s E vs ok ht al hr => by
  cases hr with | cons h1 r => cases r; cases h1; exact PyProof.Rows.call_abs_int fun u tk => ⟨.tok _, .int _ _⟩
theorem f_int (a : Int) : Fn T prog w k (.type "int") [.int a] (.int a) := fun X A s E vs ok ht al hr => by
  cases hr with | cons h1 r => cases r; cases h1; exact call_int_int ⟨.rfl', .int _ _⟩
theorem f_divmod (a b : Int) (hb : 0 < b) (hs : b.natAbs.log2 < 9000) : Fn T prog w k (.builtin "divmod") [.int a, .int b] (.tup [.int (a / b), .int (a % b)]) := fun X A s E vs ok ht al hr => by
  have e1 : a.fdiv b = a / b := Int.fdiv_eq_ediv_of_nonneg a (Int.le_of_lt hb)
  have e2 : a.fmod b = a % b := Int.fmod_eq_emod_of_nonneg a (Int.le_of_lt hb)
  cases hr with
  | cons h1 r =>
    cases r with
    | cons h2 r =>
      cases r; cases h1; cases h2
      refine PyProof.Rows.divmod_int (by omega) ⟨⟨_, _, rfl, fun _ _ e => Heap.get?_push_of_some _ e⟩, ?_⟩ (.inl (PyProof.noPylong_of_log2 hs))
      refine .tup (vs := [.int (a.fdiv b) s.toks, .int (a.fmod b) (s.toks + 1)]) ⟨0, Heap.get?_push_size _ rfl⟩ (fresh_not al) (.cons (e1 ▸ .int _ _) (.cons (e2 ▸ .int _ _) .nil))
theorem wp_sub {value slice : Expr} {pos : Pos} {A : Around} {s : Shared} {E : Value → Shared → Prop} {Q : Value → Shared → Prop}
    (h : wpAny (model prog w) A (eval value env) (fun o s₁ => wpAny (model prog w) A (eval slice env) (fun i s₂ => SubscriptOn (model prog w) A o i Q E s₂) E s₁) E s)
    (hsub : ∀ o i, ∃ l, subscripted slice false o i = operate l (getItem o i)) : wpAny (model prog w) A (eval (.Subscript value slice pos) env) Q E s := by
  rw [eval_Subscript]
  refine wpAny_bind (wpAny_mono h (fun o s₁ h₁ => wpAny_bind (wpAny_holding (wpAny_mono h₁ (fun i s₂ h₂ => wpAny_bind (wpAny_standAt ?_)) fun _ _ x => x))) fun _ _ x => x)
  obtain ⟨Ty, id, hl, hT, hg⟩ := h₂
  refine wpAny_bind ?_
  rw [getitemInPython_of_ne hT.not_modules]
  refine wpAny_bind (wpAny_specialOf hT hl ?_)
  obtain ⟨l, hl'⟩ := hsub o i
  have fin : wpAny (model prog w) A (subscripted slice false o i) (fun r s₃ => wpAny (model prog w) A (letTemporaryGo value o r >>= fun _ => pure r) Q E s₃) E s₂ := by
    rw [hl']
    exact wpAny_operating (wpAny_mono hg (fun r s₃ h₃ => wpAny_bind (wpAny_letTemporaryGo (wpAny_pure h₃))) fun _ _ x => x)
  first
    | exact wpAny_pure (wpAny_bind fin)
    | exact wpAny_bind (wpAny_pure (wpAny_bind fin))
    | exact wpAny_bind fin
noncomputable def SubOp (T : Heap → Prop) (prog : Program) (w : World) (a b d : D) : Prop :=
  ∀ (X : Addr → Prop) (A : Around) (s : Shared) (E : Value → Shared → Prop) (u v : Value), Okn 2 A → T s.heap → (∀ a, X a → ∃ o, s.heap.get? a = some o) → Rd X s.heap u a → Rd X s.heap v b →
    SubscriptOn (model prog w) A u v (fun v s' => Kp s s' ∧ Rd X s'.heap v d) E s
theorem Ev.sub {value slice : Expr} {pos : Pos} {a b d : D} (hv : Ev T prog w k env Γ value a) (hi : Ev T prog w k env Γ slice b) (ho : SubOp T prog w a b d)
    (hsub : ∀ o i, ∃ l, subscripted slice false o i = operate l (getItem o i) := by intros; exact ⟨_, rfl⟩) (hk : 2 ≤ k := by omega) : Ev T prog w k env Γ (.Subscript value slice pos) d := .mk fun X A s E ok st => by
  refine wp_sub (wpAny_mono (hv.run X A s E ok st) (fun u s₁ h₁ => ?_) fun _ _ x => x) hsub
  refine wpAny_mono (hi.run X A s₁ E ok (st.up h₁.1.up)) (fun v s₂ h₂ => ?_) fun _ _ x => x
  have st₂ := (st.up h₁.1.up).up h₂.1.up
  obtain ⟨Ty, id, hl, hT, hg⟩ := ho X A s₂ E u v (ok.less hk) st₂.top st₂.al (h₁.2.up h₂.1.up) h₂.2
  exact ⟨Ty, id, hl, hT, wpAny_mono hg (fun r s₃ h₃ => ⟨(h₁.1.trans' h₂.1).trans' h₃.1, h₃.2⟩) fun _ _ x => x⟩
theorem sub_list (ds : List D) (i : Nat) (d : D) (hi : ds[i]? = some d) (hf : (i : Int) < 2 ^ 63) : SubOp T prog w (.list ds) (.int i) d := fun X A s E u v ok ht al h1 h2 => by
  cases h2 with
  | int _ t =>
  cases h1 with
  | @list a vs _ p n r =>
    obtain ⟨x, hx, hr⟩ := r.at' hi
    exact ⟨"list", _, slot_list_getitem.lookup, p.isList.typeIs, wpAny_getItem_list p.isList (by omega) hf (x := x) (by simpa using hx) ⟨.rfl', hr⟩⟩
end
end Mine
end
section
set_option linter.unusedVariables false
set_option linter.unusedSectionVars false
namespace Mine
open PySem PySem.Calls
open Sem (wp)
section
variable {T : Heap → Prop} [UpT T] {prog : Program} {w : World} {k : Nat} {env : Env} {Γ Γ' : Cx}
/-- a part of a slice: none, or an int -/
inductive Prt (T : Heap → Prop) (prog : Program) (w : World) (k : Nat) (env : Env) (Γ : Cx) : Option Expr → Option Int → Prop
  | none : Prt T prog w k env Γ none none
  | some {e : Expr} {b : Int} : Ev T prog w k env Γ e (.int b) → Prt T prog w k env Γ (some e) (some b)
theorem Prt.run {o : Option Expr} {b : Option Int} (h : Prt T prog w k env Γ o b) (X : Addr → Prop) (A : Around) (s : Shared) (E : Value → Shared → Prop) (ok : Okn k A) (st : Sit T X env Γ s) :
    wpAny (model prog w) A (evalPart o env) (fun v s' => Kp s s' ∧ IsPart v b) E s := by
  cases h with
  | none => exact wpAny_pure ⟨.rfl', .none⟩
  | some h => exact wpAny_mono (h.run X A s E ok st) (fun v s' h' => ⟨h'.1, by cases h'.2; exact .int _ _⟩) fun _ _ x => x
/-- a list's slice, however it is cut -/
theorem Ev.slice {value : Expr} {lo hi st : Option Expr} {p pos : Pos} {ds : List D} {a b c : Option Int} {R : List D} (hv : Ev T prog w k env Γ value (.list ds)) (hlo : Prt T prog w k env Γ lo a) (hhi : Prt T prog w k env Γ hi b) (hst : Prt T prog w k env Γ st c)
    (hl : ds.length ≤ sizeLine) (hc : c ≠ some 0) (hR : ∀ (X : Addr → Prop) (h : Heap) (vs : List Value), Rds X h vs ds → ∃ ws : List Value, slicePick vs.toArray a b c = ws.toArray ∧ Rds X h ws R)
    (hsub : ∀ o i, ∃ l, subscripted (.Slice lo hi st p) false o i = operate l (getItem o i) := by intros; exact ⟨_, rfl⟩) :
    Ev T prog w k env Γ (.Subscript value (.Slice lo hi st p) pos) (.list R) := .mk fun X A s E ok sit => by
  refine wp_sub (wpAny_mono (hv.run X A s E ok sit) (fun u s₁ h₁ => ?_) fun _ _ x => x) hsub
  obtain ⟨k₁, r₁⟩ := h₁
  have st₁ := sit.up k₁.up
  refine wpAny_Slice (wpAny_mono (hlo.run X A s₁ E ok st₁) (fun vl s₂ h₂ => wpAny_mono (hhi.run X A s₂ E ok (st₁.up h₂.1.up)) (fun vu s₃ h₃ => wpAny_mono (hst.run X A s₃ E ok ((st₁.up h₂.1.up).up h₃.1.up)) (fun vs s₄ h₄ => ?_) fun _ _ x => x) fun _ _ x => x) fun _ _ x => x)
  obtain ⟨k₂, p₂⟩ := h₂
  obtain ⟨k₃, p₃⟩ := h₃
  obtain ⟨k₄, p₄⟩ := h₄
  have k14 := (k₂.trans' k₃).trans' k₄
  have kS := k14.trans' (Kp.push (s := s₄) { cls := .type "slice", data := .fields #[vl, vu, vs] })
  have r₅ := r₁.up kS.up
  have st₅ := st₁.up kS.up
  cases r₅ with
  | @list l vs' _ pl n r =>
    refine ⟨"list", _, slot_list_getitem.lookup, pl.isList.typeIs, ?_⟩
    obtain ⟨ws, hw, hr⟩ := hR X _ _ r
    refine wpAny_getItem_list_slice pl.isList (Heap.IsSliceOf.new ..) p₂ p₃ p₄ hc ?_ (by rw [List.size_toArray, r.length]; exact hl)
    refine ⟨(k₁.trans' kS).trans' (Kp.push (s := { s₄ with heap := s₄.heap.push { cls := .type "slice", data := .fields #[vl, vu, vs] } }) _), ?_⟩
    rw [hw]
    exact .list ⟨0, Heap.get?_push_size _ rfl⟩ (fresh_not st₅.al) (hr.up fun _ _ e => Heap.get?_push_of_some _ e)
theorem Ev.sliceTo {value e : Expr} {p pos : Pos} {ds : List D} {b : Nat} (hv : Ev T prog w k env Γ value (.list ds)) (he : Ev T prog w k env Γ e (.int b)) (hl : ds.length ≤ sizeLine) :
    Ev T prog w k env Γ (.Subscript value (.Slice none (some e) none p) pos) (.list (ds.take b)) :=
  Ev.slice hv .none (.some he) .none hl (by simp) fun X h vs r => ⟨_, by rw [slicePick_upto'], r.take b⟩
theorem Ev.sliceFrom {value e : Expr} {p pos : Pos} {ds : List D} {b : Nat} (hv : Ev T prog w k env Γ value (.list ds)) (he : Ev T prog w k env Γ e (.int b)) (hl : ds.length ≤ sizeLine) :
    Ev T prog w k env Γ (.Subscript value (.Slice (some e) none none p) pos) (.list (ds.drop b)) :=
  Ev.slice hv (.some he) .none .none hl (by simp) fun X h vs r => ⟨_, by rw [slicePick_from'], r.drop b⟩
theorem Ev.sliceMid {value e e' : Expr} {p pos : Pos} {ds : List D} {a b : Nat} (hv : Ev T prog w k env Γ value (.list ds)) (he : Ev T prog w k env Γ e (.int a)) (he' : Ev T prog w k env Γ e' (.int b)) (hl : ds.length ≤ sizeLine) (hab : a ≤ ds.length) :
    Ev T prog w k env Γ (.Subscript value (.Slice (some e) (some e') none p) pos) (.list ((ds.drop a).take (b - a))) :=
  Ev.slice hv (.some he) (.some he') .none hl (by simp) fun X h vs r => ⟨(vs.drop a).take (b - a), by
    rw [slicePick_plain]
    simp only [Option.elim, clipAt_nat]
    have hs : vs.toArray.size = ds.length := by rw [List.size_toArray, r.length]
    have hlen : vs.length = ds.length := r.length
    rw [hs, Nat.min_eq_left hab]
    congr 1
    show List.take (min b ds.length - a) (vs.drop a) = _
    rcases Nat.le_total b ds.length with h | h
    · rw [Nat.min_eq_left h]
    · rw [Nat.min_eq_right h, List.take_of_length_le (by rw [List.length_drop, hlen]; exact Nat.le_refl _), List.take_of_length_le (by rw [List.length_drop, hlen]; omega)], (r.drop a).take _⟩
theorem in0 {α : Type} {a : α} {l : List α} : a ∈ a :: l := .head _
theorem in1 {α : Type} {a b : α} {l : List α} : a ∈ b :: a :: l := .tail _ in0
theorem in2 {α : Type} {a b c : α} {l : List α} : a ∈ b :: c :: a :: l := .tail _ in1
theorem in3 {α : Type} {a b c d : α} {l : List α} : a ∈ b :: c :: d :: a :: l := .tail _ in2
theorem in4 {α : Type} {a b c d e : α} {l : List α} : a ∈ b :: c :: d :: e :: a :: l := .tail _ in3
theorem in5 {α : Type} {a b c d e f : α} {l : List α} : a ∈ b :: c :: d :: e :: f :: a :: l := .tail _ in4
theorem in6 {α : Type} {a b c d e f g : α} {l : List α} : a ∈ b :: c :: d :: e :: f :: g :: a :: l := .tail _ in5
theorem in7 {α : Type} {a b c d e f g h : α} {l : List α} : a ∈ b :: c :: d :: e :: f :: g :: h :: a :: l := .tail _ in6
theorem cap0 {names : List (Str × NameKind)} {Γ : Cx} : ∀ p ∈ ([] : Cx), p ∈ Γ ∧ names.lookup p.1 = some .free := fun _ h => by cases h
theorem capS {names : List (Str × NameKind)} {Γ Γc : Cx} {a : Str × Loc} (h1 : a ∈ Γ) (h2 : names.lookup a.1 = some .free) (h : ∀ p ∈ Γc, p ∈ Γ ∧ names.lookup p.1 = some .free) : ∀ p ∈ a :: Γc, p ∈ Γ ∧ names.lookup p.1 = some .free :=
  fun p hp => by rcases List.mem_cons.mp hp with rfl | hp; exact ⟨h1, h2⟩; exact h p hp
theorem drp0 {n : Str} {Γ : Cx} : Drp n Γ [] := fun _ h => by cases h
theorem drpS {n m : Str} {l : Loc} {Γ Γ' : Cx} (h1 : (m, l) ∈ Γ) (h2 : m ≠ n) (h : Drp n Γ Γ') : Drp n Γ ((m, l) :: Γ') := fun p hp => by rcases List.mem_cons.mp hp with rfl | hp; exact ⟨h1, h2⟩; exact h p hp
theorem sub0 {α : Type} {l : List α} : ∀ p ∈ ([] : List α), p ∈ l := fun _ h => by cases h
theorem subS {α : Type} {l l' : List α} {a : α} (h1 : a ∈ l) (h : ∀ p ∈ l', p ∈ l) : ∀ p ∈ a :: l', p ∈ l := fun p hp => by rcases List.mem_cons.mp hp with rfl | hp; exact h1; exact h p hp
end
end Mine
end
section
set_option linter.unusedVariables false
set_option linter.unusedSectionVars false
set_option maxRecDepth 100000
namespace Mine
open PySem PySem.W PySem.Calls
open Sem (wp)
section
variable {T : Heap → Prop} [UpT T] {prog : Program} {w : World} {k : Nat} {env : Env} {Γ Γ' : Cx}
theorem Ev.bytes {x : List UInt8} {kk : Nat} {pos : Pos} : Ev T prog w k env Γ (.Constant (.bytes x) kk pos) (.byt x.toArray) := .mk fun X A s E ok st => Constant_bytes ⟨.tok _, .byt _ _⟩
theorem o_addb (x y : Array UInt8) (hsz : x.size + y.size ≤ 16777216) : Op2 T prog w (binaryOp .Add) (.byt x) (.byt y) (.byt (x ++ y)) := fun X A s E u v ok ht al h1 h2 => by
  cases h1; cases h2; exact KBy.add_bytes hsz fun t' tk => ⟨.tok _, .byt _ _⟩
noncomputable def bD (b : Array UInt8) : List D := b.toList.map fun c => .int (c.toNat : Int)
theorem It.bytes {e : Expr} {b : Array UInt8} (h : Ev T prog w k env Γ e (.byt b)) (hl : b.size ≤ sizeLine) : It T prog w k env Γ e (bD b) := .mk fun X A s E ok st => by
  refine wpAny_mono (h.run X A s E ok st) (fun v s₁ h₁ => ⟨h₁.1, ?_⟩) fun _ _ x => x
  obtain ⟨k₁, r₁⟩ := h₁
  have st₁ := st.up k₁.up
  cases r₁ with
  | byt _ t =>
  have nI : ¬ X s₁.heap.objs.size := fresh_not st₁.al
  have dI := dead_size s₁.heap
  have hlen : (bD b).length = b.size := by simp [bD]
  have W := KBw.walks (prog := prog) (w := w) ok.hh s₁.heap.objs.size b t
  rw [← hlen] at W
  refine KBw.pyIter_bytes ⟨.push _, _, _, _, _, _, rfl, W, by rw [hlen]; exact hl, Exists.intro _ (And.intro (Heap.get?_push_size _ rfl) ⟨rfl, rfl⟩), ?_, ?_, ?_, ?_, ?_, ?_⟩
  · intro c hb; simp at hb; rw [Heap.size_push]; subst hb; exact Nat.lt_succ_self _
  · intro c hb; simp at hb; subst hb; exact nI
  · intro c hb; simp at hb; subst hb; exact dI
  · intro i h st c hb; simp at hb; subst hb; obtain ⟨o, ho, _⟩ := st; exact ⟨o, ho⟩
  · intro i s' tg u A' Q' E' st hq; obtain ⟨o, ho, hc, _⟩ := st; exact letGo_of ho hc (by decide) hq
  · rintro i v hlt ⟨c, u, hc, rfl⟩
    refine ⟨.int (c.toNat : Int), ?_, .int _ _⟩
    simp [bD, hc]
theorem Ev.sliceB {value : Expr} {lo hi : Option Expr} {p pos : Pos} {b : Array UInt8} {a c : Option Int} (hv : Ev T prog w k env Γ value (.byt b)) (hlo : Prt T prog w k env Γ lo a) (hhi : Prt T prog w k env Γ hi c)
    (hl : b.size ≤ sizeLine)
    (hsub : ∀ o i, ∃ l, subscripted (.Slice lo hi none p) false o i = operate l (getItem o i) := by intros; exact ⟨_, rfl⟩) :
    Ev T prog w k env Γ (.Subscript value (.Slice lo hi none p) pos) (.byt (KBy.picked b a c)) := .mk fun X A s E ok sit => by
  refine wp_sub (wpAny_mono (hv.run X A s E ok sit) (fun u s₁ h₁ => ?_) fun _ _ x => x) hsub
  obtain ⟨k₁, r₁⟩ := h₁
  have st₁ := sit.up k₁.up
  refine wpAny_Slice (wpAny_mono (hlo.run X A s₁ E ok st₁) (fun vl s₂ h₂ => wpAny_mono (hhi.run X A s₂ E ok (st₁.up h₂.1.up)) (fun vu s₃ h₃ => ?_) fun _ _ x => x) fun _ _ x => x)
  obtain ⟨k₂, p₂⟩ := h₂
  obtain ⟨k₃, p₃⟩ := h₃
  rw [evalPart_none]
  refine wpAny_pure ?_
  have kS := (k₂.trans' k₃).trans' (Kp.push (s := s₃) { cls := .type "slice", data := .fields #[vl, vu, .none] })
  cases r₁ with
  | byt _ t =>
  refine ⟨"bytes", _, FB.slot_bytes_getitem.lookup, typeIs_bytes _ _ _, getItem_meets (typeIs_bytes _ _ _) (by decide) FB.slot_bytes_getitem FB.entry_bytes_getitem (FB.args_bytes_getitem_2 _ _) (KBc.meets_slice2 b t _ p₂ p₃)
    ⟨Heap.IsSliceOf.new _ _ _ _, Nat.le_trans (KBc.size_picked_le b a c) hl, fun t' tk => ⟨(k₁.trans' kS).trans' (.tok _), .byt _ _⟩⟩⟩
theorem f_listb (b : Array UInt8) (hl : b.size ≤ sizeLine) : Fn T prog w k (.type "list") [.byt b] (.list (bD b)) := fun X A s E us ok ht al hr => by
  cases hr with
  | cons h1 r =>
  cases r
  cases h1 with
  | byt _ t =>
  refine callType_codes (Q₁ := fun obj s₁ => obj = .ref s.heap.objs.size ∧ s₁ = { s with heap := s.heap.push { cls := .type "list", data := .seq #[] } }) F.called_list (F.typeCall_list_1 _) F.entry_list_init
    (code_list_new _ ⟨rfl, rfl⟩) fun obj s₁ h₁ => ?_
  obtain ⟨rfl, rfl⟩ := h₁
  have hS : (s.heap.push { cls := .type "list", data := .seq #[] }).get? s.heap.objs.size = some { cls := .type "list", data := .seq #[] } := Heap.get?_push_size _ rfl
  refine ⟨⟨_, hS, rfl⟩, F.args_list_init_2 _ _, ?_⟩
  show wpAny _ _ (do let old ← Builtin.List.listItems (.ref s.heap.objs.size); Builtin.List.listUpdate (.ref s.heap.objs.size) (fun _ => #[]); letGo old.toList.reverse; Builtin.List.listExtendWith (.ref s.heap.objs.size) (.bytes b t) .none) _ _ _
  refine wpAny_bind ?_
  unfold Builtin.List.listItems
  refine wpAny_bind (wpAny_seqItems hS rfl (wpAny_pure ?_))
  show wpAny _ _ (updateSeq s.heap.objs.size (fun _ => #[]) >>= fun _ => letGo (#[] : Array Value).toList.reverse >>= fun _ => Builtin.List.listExtendWith (.ref s.heap.objs.size) (.bytes b t) .none) _ _ _
  refine wpAny_bind (wpAny_updateSeq hS rfl ?_)
  have hS₂ := Heap.get?_update_self (Obj.mapSeq (fun _ => (#[] : Array Value))) hS rfl
  generalize hH : (s.heap.push { cls := .type "list", data := .seq #[] }).update s.heap.objs.size (Obj.mapSeq (fun _ => (#[] : Array Value))) = H at hS₂ ⊢
  have upH : Up s.heap H := fun c o e => by
    rw [← hH]
    exact (Heap.get?_update_other _ _ (Nat.ne_of_gt (Heap.lt_size e))).trans (Heap.get?_push_of_some _ e)
  refine wpAny_bind (wpAny_letGo ?_)
  have hS₃ : H.get? s.heap.objs.size = some { cls := .type "list", data := .seq #[] } := hS₂
  have hSI : s.heap.objs.size ≠ H.objs.size := Nat.ne_of_lt (Heap.lt_size hS₃)
  have hSf : s.heap.objs.size ∉ [H.objs.size] := fun hm => hSI (List.mem_singleton.mp hm)
  unfold Builtin.List.listExtendWith
  refine wpAny_bind (wpAny_typeOf (T := "bytes") (v := .bytes b t) rfl ?_)
  have h1 : Builtin.List.listSameRef (.ref s.heap.objs.size) (.bytes b t) = false := rfl
  have h2 : (Value.type "bytes" == Value.type "list") = false := by decide
  have h3 : (Value.type "bytes" == Value.type "tuple") = false := by decide
  simp only [h1, h2, h3, Bool.or_false, Bool.false_eq_true, if_false]
  refine wpAny_bind (KBw.pyIter_bytes ?_)
  refine wpAny_bind (wpAny_holding ?_)
  unfold Builtin.List.listLengthHint
  refine wpAny_bind (wpAny_specialOf (T := "bytes") (v := .bytes b t) rfl FB.slot_bytes_len.lookup ?_)
  wp_delta
  refine wpAny_bind (wpAny_isInstance (T := "bytes") (v := .bytes b t) (b := true) rfl (by rw [isSubtype_type]; kernel_rfl) ?_)
  show wpAny _ _ (typeOf (Value.bytes b t) >>= _) _ _ _
  refine wpAny_bind (wpAny_typeOf (T := "bytes") (v := .bytes b t) rfl ?_)
  refine wpAny_pure ?_
  rw [if_neg (by decide)]
  have W := KBw.walks (prog := prog) (w := w) (A := A.in1.in1) ok.hh H.objs.size b t
  refine wpAny_pure ⟨plainId_quiet F.plain_extend_loop _, codeAny_extend_loopS W.toS hl _ hSf _ b.size 0 _ _ _ rfl (Nat.zero_le _) (Exists.intro _ (And.intro (Heap.get?_push_size _ rfl) ⟨rfl, rfl⟩)) (Heap.get?_push_of_some _ hS₃) (ItemsOf.nil _) fun s' acc' c' hm hS' hacc => ?_⟩
  rw [Moved.eq_with hm]
  have up' : Up s.heap s'.heap := fun c o e => hm.heap c o (fun hmem => by
    have h1 := Heap.lt_size e
    have h2 := Heap.lt_size (upH c o e)
    simp at hmem
    rcases hmem with rfl | rfl
    · exact absurd h1 (Nat.lt_irrefl _)
    · exact absurd h2 (Nat.lt_irrefl _)) (Heap.get?_push_of_some _ (upH c o e))
  refine ⟨rfl, ⟨_, _, rfl, up'⟩, ?_⟩
  have hacc' : acc' = acc'.toList.toArray := by simp
  refine .list (vs := acc'.toList) ⟨c', by rw [← hacc']; exact hS'⟩ (fresh_not al) (Rds.of (by simp [bD, hacc.1]) fun j v hv => ?_)
  obtain ⟨c, u, hc, rfl⟩ := hacc.2 j v (by simpa using hv)
  exact ⟨.int (c.toNat : Int), by simp [bD, hc], .int _ _⟩
end
end Mine
end
section
set_option linter.unusedVariables false
set_option linter.unusedSectionVars false
set_option maxRecDepth 100000
namespace Mine
open PySem PySem.W PySem.Calls
open Sem (wp)
section
variable {T : Heap → Prop} [UpT T] {prog : Program} {w : World} {k : Nat} {env : Env} {Γ Γ' : Cx}
theorem o_isnotnone (d : D) (b : Bool) (hb : (match d with | .none => false | _ => true) = b) : Op2 T prog w (compareOp .IsNot) d .none (.bool b) := fun X A s E u v ok ht al h1 h2 => by
  cases h2
  have e : (!(u == Value.none)) = b := by cases h1 <;> exact hb
  exact isNot_none (by rw [e]; exact ⟨.rfl', .bool _⟩)
theorem Ev.none {kk : Nat} {pos : Pos} : Ev T prog w k env Γ (.Constant .none kk pos) .none := .mk fun X A s E ok st => wpAny_pure ⟨.rfl', .none⟩
theorem f_min (a b : Int) : Fn T prog w k (.builtin "min") [.int a, .int b] (.int (if b < a then b else a)) := fun X A s E vs ok ht al hr => by
  cases hr with
  | cons h1 r =>
    cases r with
    | cons h2 r =>
      cases r; cases h1; cases h2
      refine min_two_ints ok.hh fun h' tk hk => ?_
      by_cases hba : b < a
      · rw [if_pos hba, if_pos hba]; exact ⟨⟨h', tk, rfl, hk⟩, .int _ _⟩
      · rw [if_neg hba, if_neg hba]; exact ⟨⟨h', tk, rfl, hk⟩, .int _ _⟩
theorem sub_str (x : Str) (i : Nat) (c : Nat) (hc : x.cps[i]? = some c) (hf : (i : Int) < 2 ^ 63) : SubOp T prog w (.str x) (.int i) (.str ⟨#[c]⟩) := fun X A s E u v ok ht al h1 h2 => by
  have hlt : i < x.cps.size := (Array.getElem?_eq_some_iff.mp hc).1
  cases h1 with
  | str _ t =>
  cases h2 with
  | int _ t' =>
  have hs : seqIndex? (i : Int) x.length = some i := by
    have : i < x.length := hlt
    unfold seqIndex?; simp; omega
  exact ⟨"str", _, F.slot_str_getitem.lookup, typeIs_str _ _ _, P.getItem_str (by simp; omega) (by rw [hs]; exact hc) ⟨.tok _, .str _ _⟩⟩
theorem sub_tup (ds : List D) (i : Nat) (d : D) (hi : ds[i]? = some d) (hf : (i : Int) < 2 ^ 63) : SubOp T prog w (.tup ds) (.int i) d := fun X A s E u v ok ht al h1 h2 => by
  cases h2 with
  | int _ t =>
  cases h1 with
  | @tup a vs _ p n r =>
    obtain ⟨x, hx, hr⟩ := r.at' hi
    obtain ⟨m, p⟩ := p
    have hlt : i < vs.length := (List.getElem?_eq_some_iff.mp hx).1
    have hsi : seqIndex? (i : Int) vs.toArray.size = some i := by unfold seqIndex?; simp [hlt]; omega
    exact ⟨"tuple", _, F.slot_tuple_getitem.lookup, ⟨_, p, rfl⟩, P.getItem_tuple p (by omega) hf hsi (by simpa using hx) ⟨.rfl', hr⟩⟩
theorem sub_list_neg (ds : List D) (i : Int) (d : D) (h0 : i < 0) (h1 : -(ds.length : Int) ≤ i) (hf : -(2 ^ 63) ≤ i) (hi : ds[(i + ds.length).toNat]? = some d) : SubOp T prog w (.list ds) (.int i) d := fun X A s E u v ok ht al g1 g2 => by
  cases g2 with
  | int _ t =>
  cases g1 with
  | @list a vs _ p n r =>
    obtain ⟨x, hx, hr⟩ := r.at' hi
    have e : vs.toArray.size = ds.length := by simp [r.length]
    exact ⟨"list", _, slot_list_getitem.lookup, p.isList.typeIs, wpAny_getItem_list_neg p.isList h0 (by rw [e]; exact h1) hf (x := x) (by rw [e]; simpa using hx) ⟨.rfl', hr⟩⟩
theorem o_inset (a : Addr) (S : Int → Bool) (n : Nat) (c : Int) (hS : ∀ h, T h → h.SetOf (intKind prog w) a S n) : Op2 T prog w (compareOp .In) (.int c) (.obj a) (.bool (S c)) := fun X A s E u v ok ht al h1 h2 => by
  cases h2
  cases h1 with
  | int _ t => exact wpAny_inSet_of (knd := intKind prog w) (k := c) (by simp [intKind, Value.isInt]) rfl (hS _ ht) ⟨.tok _, .bool _⟩
theorem o_notindict (a : Addr) (f : Str → Option Value) (x : Str) (ha : (a == sysModules) = false) (hf : ∀ h, T h → h.MapOf (strKind prog w) a f) : Op2 T prog w (compareOp .NotIn) (.str x) (.obj a) (.bool (!(f x).isSome)) := fun X A s E u v ok ht al h1 h2 => by
  cases h2
  cases h1 with
  | str _ t => exact wpAny_notIn_of (knd := strKind prog w) (k := x) (by simp [strKind, Value.isStrOf]) ha (hf _ ht) ⟨.tok _, .bool _⟩
theorem sub_dict (a : Addr) (f : Str → Option Value) (x : Str) (v : Value) (d : D) (hf : ∀ h, T h → h.MapOf (strKind prog w) a f) (hv : f x = some v) (hd : ∀ X h, Rd X h v d) : SubOp T prog w (.obj a) (.str x) d := fun X A s E u u' ok ht al h1 h2 => by
  cases h1
  cases h2 with
  | str _ t => exact ⟨"dict", _, slot_dict_getitem.lookup, (hf _ ht).typeIs, wpAny_getItem_of (knd := strKind prog w) (k := x) (by simp [strKind, Value.isStrOf]) (hf _ ht) hv ⟨.tok _, hd _ _⟩⟩
/-- code.lower() -/
theorem Ev.lower {o : Expr} {apos pos : Pos} {x : Str} (h : Ev T prog w k env Γ o (.str x)) (hfit : Builtin.Str.tooLong (Txt.lower x).length = false)
    (hbase : ∀ env, attributeBase o "lower" env (eval o env) = eval o env := by intro _; rfl) (hline : (apos.endLine == pos.line) = true := by rfl) :
    Ev T prog w k env Γ (.Call (.Attribute o "lower" apos) [] [] pos) (.str (Txt.lower x)) := .mk fun X A s E ok st => by
  refine Call_method0 (hbase _) hline (wpAny_mono (h.run X A s E ok st) (fun ov s₁ h₁ => ?_) fun _ _ x => x)
  obtain ⟨k₁, r₁⟩ := h₁
  cases r₁ with
  | str _ t => exact SB.lower hfit ⟨k₁.trans' (.tok _), .str _ _⟩
/-- b3_exceptions.get(e) -/
theorem Ev.dget {o e : Expr} {apos pos : Pos} {a : Addr} {c : Int} {d : D} (f : Int → Option Value) (h : Ev T prog w k env Γ o (.obj a)) (he : Ev T prog w k env Γ e (.int c)) (ha : (a == sysModules) = false) (hf : ∀ h, T h → h.MapOf (intKind prog w) a f)
    (hd : ∀ X h, Rd X h ((f c).getD .none) d)
    (hbase : ∀ env, attributeBase o "get" env (eval o env) = eval o env := by intro _; rfl) (hline : (apos.endLine == pos.line) = true := by rfl)
    (hs : ∀ env, starEach [e] env = [(false, eval e env)] := by intro _; rfl) :
    Ev T prog w k env Γ (.Call (.Attribute o "get" apos) [e] [] pos) d := .mk fun X A s E ok st => by
  refine wpAny_Call_method (hbase _) (by rw [hs]; rfl) hline F.plainAttrs_dict F.slot_dict_get F.type_dict_get (wpAny_mono (h.run X A s E ok st) (fun ov s₁ h₁ => ?_) fun _ _ x => x)
  obtain ⟨k₁, r₁⟩ := h₁
  have st₁ := st.up k₁.up
  cases r₁
  have hm := hf _ st₁.top
  refine ⟨hm.typeIs, hm.noDict, ?_⟩
  rw [hs]
  refine wpAny_dict_get1 (knd := intKind prog w) ha (wpAny_mono (he.run X A s₁ E ok st₁) (fun kv s₂ h₂ => ?_) fun _ _ x => x)
  obtain ⟨k₂, r₂⟩ := h₂
  cases r₂ with
  | int _ t => exact ⟨c, f, by simp [intKind, Value.isInt], hf _ (st₁.up k₂.up).top, (k₁.trans' k₂).trans' (.tok _), hd _ _⟩
end
end Mine
end
section
set_option linter.unusedVariables false
set_option linter.unusedSectionVars false
set_option maxRecDepth 100000
namespace Mine
open PySem PySem.W PySem.Calls PySem.SeqAt
open Sem (wp)
inductive Elt where
  | n (i : Int) | l (xs : List Int)
noncomputable def eltD : Elt → D
  | .n i => .int i
  | .l xs => .list (xs.map .int)
noncomputable def eltP : Elt → PyData
  | .n i => .int i
  | .l xs => .list (xs.map .int)
theorem readsAll_map {X : Addr → Prop} {h : Heap} {α : Type} {f : α → D} {g : α → PyData} (hfg : ∀ a v, Rd X h v (f a) → ∃ as, Reads h v (g a) as) : ∀ (xs : List α) (vs : List Value), Rds X h vs (xs.map f) → ∃ as, ReadsAll h vs (xs.map g) as
  | [], vs, r => by cases r; exact ⟨[], .nil⟩
  | x :: xs, vs, r => by
    cases r with
    | cons r rs =>
      obtain ⟨as, h1⟩ := hfg x _ r
      obtain ⟨bs, h2⟩ := readsAll_map hfg xs _ rs
      exact ⟨as ++ bs, .cons h1 h2⟩
theorem reads_list {X : Addr → Prop} {h : Heap} {α : Type} {f : α → D} {g : α → PyData} (hfg : ∀ a v, Rd X h v (f a) → ∃ as, Reads h v (g a) as) (xs : List α) (v : Value) (r : Rd X h v (.list (xs.map f))) : ∃ as, Reads h v (.list (xs.map g)) as := by
  cases r with
  | @list a vs _ p n r =>
    obtain ⟨m, e⟩ := p
    obtain ⟨as, h1⟩ := readsAll_map hfg xs vs r
    exact ⟨a :: as, .list e rfl rfl (by simpa using h1)⟩
theorem reads_int {X : Addr → Prop} {h : Heap} (i : Int) (v : Value) (r : Rd X h v (.int i)) : ∃ as, Reads h v (.int i) as := by cases r; exact ⟨[], .int _ _⟩
theorem reads_elt {X : Addr → Prop} {h : Heap} : ∀ (e : Elt) (v : Value), Rd X h v (eltD e) → ∃ as, Reads h v (eltP e) as
  | .n i, v, r => reads_int i v r
  | .l xs, v, r => reads_list (f := .int) (g := .int) (fun a v r => reads_int a v r) xs v r
theorem canAll {α : Type} {g : α → PyData} (hg : ∀ a, (g a).canLay0 = true) : ∀ xs : List α, PyData.canLayAll0 (xs.map g) = true
  | [] => rfl
  | x :: xs => by simp only [List.map_cons, PyData.canLayAll0, hg x, canAll hg xs]; rfl
theorem depAll {α : Type} {g : α → PyData} {n : Nat} (hg : ∀ a, (g a).depth ≤ n) : ∀ xs : List α, PyData.depthAll (xs.map g) ≤ n
  | [] => Nat.zero_le _
  | x :: xs => by simp only [List.map_cons, PyData.depthAll]; exact Nat.max_le.mpr ⟨hg x, depAll hg xs⟩
theorem mixAll {α : Type} {g : α → PyData} (hg : ∀ a b, noMix (g a) (g b) = true) : ∀ xs ys : List α, noMixAll (xs.map g) (ys.map g) = true
  | [], [] => by simp [noMixAll]
  | [], _ :: _ => by simp [noMixAll]
  | _ :: _, [] => by simp [noMixAll]
  | x :: xs, y :: ys => by simp only [List.map_cons, noMixAll, hg x y, mixAll hg xs ys]; rfl
section
variable {T : Heap → Prop} [UpT T] {prog : Program} {w : World} {k : Nat} {env : Env} {Γ Γ' : Cx}
theorem sameInts : ∀ a b : List Int, Spec.same (PyData.list (a.map PyData.int)) (PyData.list (b.map PyData.int)) = (a == b) := by
  intro a
  induction a with
  | nil => intro b; cases b <;> simp [Spec.same, Spec.sameAll]
  | cons x xs ih =>
    intro b
    cases b with
    | nil => simp [Spec.same, Spec.sameAll]
    | cons y ys =>
      have := ih ys
      simp only [Spec.same] at this
      simp only [List.map_cons, Spec.same, Spec.sameAll, this]
      rfl
theorem o_eqInts (a b : List Int) : Op2 T prog w (compareOp .Eq) (.list (a.map .int)) (.list (b.map .int)) (.bool (a == b)) := fun X A s E u v ok ht al h1 h2 => by
  obtain ⟨as, r1⟩ := reads_list (f := .int) (g := .int) (fun a v r => reads_int a v r) a u h1
  obtain ⟨bs, r2⟩ := reads_list (f := .int) (g := .int) (fun a v r => reads_int a v r) b v h2
  have sh : ∀ l : List Int, shaped (.list (l.map .int)) = true := fun l => by
    unfold shaped
    rw [Bool.and_eq_true]
    refine ⟨by simp only [PyData.canLay0]; exact canAll (g := .int) (fun a => by simp only [PyData.canLay0]) l, decide_eq_true ?_⟩
    simp only [PyData.depth]
    have := depAll (g := .int) (n := 0) (fun a => by simp only [PyData.depth]; exact Nat.le_refl _) l
    omega
  refine PyProof.Rows.eq_dataH_same r1 r2 (sh a) (sh b) (by have := ok.un; show A.units + 64 < 9900; omega) (by simp only [noMix]; exact mixAll (g := .int) (fun a b => by simp only [noMix]) a b) ?_
  rw [sameInts]
  exact ⟨.rfl', .bool _⟩
theorem o_eqRows (L : List (List Elt)) : Op2 T prog w (compareOp .Eq) (.list (L.map fun r => .list (r.map eltD))) (.list (L.map fun r => .list (r.map eltD))) (.bool true) := fun X A s E u v ok ht al h1 h2 => by
  have rr : ∀ (r : List Elt) (v : Value), Rd X s.heap v (.list (r.map eltD)) → ∃ as, Reads s.heap v (.list (r.map eltP)) as := fun r v h => reads_list (f := eltD) (g := eltP) reads_elt r v h
  obtain ⟨as, r1⟩ := reads_list (f := fun r : List Elt => .list (r.map eltD)) (g := fun r => .list (r.map eltP)) rr L u h1
  obtain ⟨bs, r2⟩ := reads_list (f := fun r : List Elt => .list (r.map eltD)) (g := fun r => .list (r.map eltP)) rr L v h2
  have ce : ∀ e, (eltP e).canLay0 = true := fun e => by
    cases e with
    | n i => simp only [eltP, PyData.canLay0]
    | l xs => simp only [eltP, PyData.canLay0]; exact canAll (g := .int) (fun a => by simp only [PyData.canLay0]) xs
  have de : ∀ e, (eltP e).depth ≤ 1 := fun e => by
    cases e with
    | n i => simp only [eltP, PyData.depth]; omega
    | l xs =>
      simp only [eltP, PyData.depth]
      have := depAll (g := .int) (n := 0) (fun a => by simp only [PyData.depth]; exact Nat.le_refl _) xs
      omega
  have me : ∀ a b, noMix (eltP a) (eltP b) = true := fun a b => by
    cases a <;> cases b
    · simp only [eltP, noMix]
    · simp only [eltP, noMix]
    · simp only [eltP, noMix]
    · simp only [eltP, noMix]; exact mixAll (g := .int) (fun a b => by simp only [noMix]) _ _
  have sh : shaped (.list (L.map fun r => .list (r.map eltP))) = true := by
    unfold shaped
    rw [Bool.and_eq_true]
    refine ⟨by simp only [PyData.canLay0]; exact canAll (g := fun r : List Elt => .list (r.map eltP)) (fun r => by simp only [PyData.canLay0]; exact canAll ce r) L, decide_eq_true ?_⟩
    simp only [PyData.depth]
    have := depAll (g := fun r : List Elt => PyData.list (r.map eltP)) (n := 2) (fun r => by simp only [PyData.depth]; have := depAll de r; omega) L
    omega
  refine PyProof.Rows.eq_dataH_same r1 r2 sh sh (by have := ok.un; show A.units + 64 < 9900; omega) ?_ ?_
  · simp only [noMix]; exact mixAll (g := fun r : List Elt => .list (r.map eltP)) (fun a b => by simp only [noMix]; exact mixAll me a b) L L
  · rw [PySem.Spec.same_self]
    exact ⟨.rfl', .bool _⟩
theorem setItem_plain {A : Around} {s : Shared} {E : Value → Shared → Prop} {l : Addr} {items : Array Value} {i : Int} {t : Tok} {v : Value} {Q : Unit → Shared → Prop} (hl : s.heap.PlainList l items)
    (h0 : 0 ≤ i) (hfit : i < 2 ^ 63) (hn : i < items.size)
    (hQ : ∀ h', h'.PlainList l (items.setIfInBounds i.toNat v) → Heap.SameBut l s.heap h' → Q () { s with heap := h' }) :
    wpAny (model prog w) A (setItem (.ref l) (.int i t) v) Q E s := by
  have hi := hl.isList
  obtain ⟨n, ho⟩ := hl
  unfold setItem
  try with_reducible refine wpAny_holding ?_
  first | refine wpAny_bind (wpAny_pure ?_) | skip
  refine wpAny_bind (wpAny_sequenceKey hi.typeIs (by decide) ?_)
  refine wpAny_bind (wpAny_callSpecial?_slot (name := Str.ofString "__setitem__") hi.typeIs slot_list_setitem
    (wpAny_call_entry slot_list_setitem hi.typeIs entry_list_setitem ?_ (args_list_setitem _ _ _)))
  show wpAny _ _ (Builtin.List.listSubscript? (.int i t) >>= _) _ _ s
  refine wpAny_bind (wpAny_listSubscript_int (fitsIndex_of h0 hfit) ?_)
  clear hfit
  obtain ⟨j, rfl⟩ := Int.eq_ofNat_of_zero_le h0
  have hj : j < items.size := by omega
  have hx' : items[j]? = some items[j] := Array.getElem?_eq_getElem hj
  show wpAny _ _ ((seqItemAt l j >>= fun r => pure (r.map (j, ·))) >>= _) _ _ s
  refine wpAny_bind (wpAny_bind (wpAny_seqItemAt ho rfl (wpAny_pure ?_)))
  rw [hx']
  show wpAny _ _ (setSeqItemAt l j v >>= _) _ _ s
  have hfin : (s.heap.update l (Obj.mapSeq (·.setIfInBounds j v))).PlainList l (items.setIfInBounds j v) := by
    obtain ⟨n', e⟩ : ∃ n', Obj.mapSeq (·.setIfInBounds j v) { cls := .type "list", data := .seq items n } = { cls := .type "list", data := .seq (items.setIfInBounds j v) n' } := ⟨_, rfl⟩
    exact ⟨n', by rw [Heap.get?_update_self _ ho (by rw [e]; rfl), e]⟩
  refine wpAny_bind (wpAny_setSeqItemAt ho rfl ?_)
  first
    | exact wpAny_bind (wpAny_pure (wpAny_pure ⟨.none, rfl, wpAny_pure (hQ _ hfin (Heap.SameBut.update ..))⟩))
    | exact wpAny_pure ⟨.none, rfl, wpAny_pure (hQ _ hfin (Heap.SameBut.update ..))⟩
end
end Mine
end
section
set_option linter.unusedVariables false
set_option linter.unusedSectionVars false
set_option maxRecDepth 100000
namespace Mine
open PySem PySem.W PySem.Calls
open Sem (wp)
section
variable {T : Heap → Prop} [UpT T] {prog : Program} {w : World} {k : Nat} {env : Env} {Γ Γ' : Cx}
theorem Ex1.augSub {n : Str} {p spos pos : Pos} {op : Operator} {idx value : Expr} {ds : List D} {i : Int} {d0 b d : D} (hm : (n, Loc.own ds) ∈ Γ) (hi : Ev T prog w k env Γ idx (.int i)) (h0 : 0 ≤ i) (hn : i < ds.length) (hl : ds.length ≤ sizeLine) (hd : ds[i.toNat]? = some d0)
    (h : Ev T prog w k env Γ value b) (ho : Op2 T prog w (inplaceOp op) d0 b d) (hs : Drp n Γ Γ') (hkk : 2 ≤ k := by omega) (hdb : (n == ("__debug__" : Str)) = false := by decide)
    (hst : ∀ ov iv new, augStore idx ov iv new = (do holding [new, ov, iv] (setItem ov iv new); release [new, ov, iv] []; pure .next) := by intros; rfl) :
    Ex1 T prog w k env Γ (.AugAssign (.Subscript (.Name n p) idx spos) op value pos) (.nx ((n, .own (ds.set i.toNat d)) :: Γ')) := .mk fun s₀ X₀ Z A s E ok ⟨m, cm, X, fr⟩ => by
  have hs24 : sizeLine = 2 ^ 24 := by decide
  obtain ⟨u, hu, a, vs, rfl, xa, x0, d0', za, pl, r⟩ := fr.locs n _ hm
  refine wpAny_AugAssign_SubscriptAny (hi := hst) (wpAny_Name (load_nameVal fr.fn (fr.nameVal hu) ?_) hdb)
  refine wpAny_mono (hi.run X A s E ok fr.sit) (fun iv s₁ h₁ => ?_) fun _ _ x => x
  obtain ⟨k₁, ri⟩ := h₁
  have fr₁ := fr.up k₁
  obtain ⟨ti, rfl⟩ : ∃ t, iv = .int i t := by cases ri; exact ⟨_, rfl⟩
  obtain ⟨x, hx, hrx⟩ := r.at' hd
  have pl₁ : s₁.heap.PlainList a vs.toArray := pl.at fun o e => k₁.up _ _ e
  have hlen : vs.length = ds.length := r.length
  refine wpAny_getItem_list pl₁.isList h0 (by omega) (x := x) (by simpa using hx) ?_
  refine wpAny_mono (h.run X A s₁ E ok fr₁.sit) (fun v s₂ h₂ => ?_) fun _ _ x => x
  have fr₂ := fr₁.up h₂.1
  have st₂ := fr₂.sit
  refine wpAny_mono (ho X A s₂ E x v (ok.less hkk) st₂.top st₂.al ((hrx.up k₁.up).up h₂.1.up) h₂.2) (fun nw s₃ h₃ => ?_) fun _ _ x => x
  have fr₃ := fr₂.up h₃.1
  have pl₃ : s₃.heap.PlainList a vs.toArray := pl₁.at fun o e => h₃.1.up _ _ (h₂.1.up _ _ e)
  refine setItem_plain pl₃ h0 (by omega) (by simp; omega) fun h' hp hb => ⟨rfl, m, cm, X, ?_⟩
  have hset : vs.toArray.setIfInBounds i.toNat nw = (vs.set i.toNat nw).toArray := by simp
  have rset : ∀ {vs : List Value} {ds : List D} (j : Nat), Rds X s₃.heap vs ds → Rds X s₃.heap (vs.set j nw) (ds.set j d) := by
    intro vs ds j r
    induction j generalizing vs ds with
    | zero => cases r with
      | nil => exact .nil
      | cons r rs => exact .cons h₃.2 rs
    | succ j ih => cases r with
      | nil => exact .nil
      | cons r rs => exact .cons r (ih rs)
  have := fr₃.mut (Γ' := Γ') (tk := s₃.toks) hm hu hs (vs' := vs.set i.toNat nw) (by rw [← hset]; exact hp) (rset _ (((r.up k₁.up).up h₂.1.up).up h₃.1.up)) hb
  exact this
theorem compTurn_two (elt t1 iter1 t2 iter2 : Expr) (ifs : List Expr) (scope : Scope) (pos : Pos) (it acc : Value) (env : Env) :
    compTurn (.ListComp elt [⟨t1, iter1, [], 0⟩, ⟨t2, iter2, ifs, 0⟩] scope pos) 0 it acc env = (do
      standAt iter1.pos
      match ← pyNext it with
      | none => pure (.done .next)
      | some v =>
        letOwnedTupleGo t1 it v
        assign t1 env v
        let mut ok := true
        for c in ([] : List Expr) do
          if ok then ok ← isTrue c env (eval c env)
        if ok then
          let x ← eval iter2 env
          standAt iter2.pos
          let x ← foldedSetIterable iter2 env x
          let _ ← runOwn (.compStart (.ListComp elt [⟨t1, iter1, [], 0⟩, ⟨t2, iter2, ifs, 0⟩] scope pos) 1 (← holding [x] (pyIter x)) acc env) env
        again (.compLoop (.ListComp elt [⟨t1, iter1, [], 0⟩, ⟨t2, iter2, ifs, 0⟩] scope pos) 0 it acc env)) := by rfl
theorem compTurn_inner (elt t1 iter1 t2 iter2 : Expr) (ifs : List Expr) (scope : Scope) (pos : Pos) (it acc : Value) (env : Env) :
    compTurn (.ListComp elt [⟨t1, iter1, [], 0⟩, ⟨t2, iter2, ifs, 0⟩] scope pos) 1 it acc env = (do
      standAt iter2.pos
      match ← pyNext it with
      | none => pure (.done .next)
      | some v =>
        letOwnedTupleGo t2 it v
        assign t2 env v
        let mut ok := true
        for c in ifs do
          if ok then ok ← isTrue c env (eval c env)
        if ok then
          (do let _ ← call (.builtin "list.append") [acc, ← eval elt env])
        again (.compLoop (.ListComp elt [⟨t1, iter1, [], 0⟩, ⟨t2, iter2, ifs, 0⟩] scope pos) 1 it acc env)) := by rfl
theorem LoopRule.two {A : Around} {elt t1 iter1 iter2 : Expr} {y : Str} {py : Pos} {ifs : List Expr} {scope : Scope} {pos : Pos} {it acc : Value} {env : Env} :
    LoopRule prog w A (.compLoop (.ListComp elt [⟨t1, iter1, [], 0⟩, ⟨.Name y py, iter2, ifs, 0⟩] scope pos) 1 it acc env) it acc (.Name y py) ifs elt env := fun R s I turn n h => by
  refine codeAny_loop rfl I (fun n s hI => ?_) n h
  show wpAny _ A ((compTurn (.ListComp elt [⟨t1, iter1, [], 0⟩, ⟨.Name y py, iter2, ifs, 0⟩] scope pos) 1 it acc env).onRaise (fun x => do noteFrame x env; theTreesLotGoes x)) _ _ s
  refine wpAny_noted ?_
  rw [compTurn_inner]
  refine wpAny_bind (wpAny_standAt (wpAny_bind (wpAny_mono (turn n s hI) (fun r s₁ h₁ => ?_) fun _ _ h' => h')))
  cases r with
  | none => exact wpAny_pure h₁
  | some v =>
    refine wpAny_bind (wpAny_of_eq (a := ()) rfl ?_)
    refine wpAny_bind (wpAny_mono h₁ (fun _ s₂ h₂ => wpAny_bind (wpAny_mono h₂ (fun ok s₃ h₃ => ?_) fun _ _ h' => h')) fun _ _ h' => h')
    cases ok with
    | false => exact wpAny_pure ⟨rfl, h₃⟩
    | true =>
      exact wpAny_bind (wpAny_bind (wpAny_mono h₃ (fun x s₄ h₄ => wpAny_bind (wpAny_mono h₄ (fun _ s₅ h₅ => wpAny_pure (wpAny_pure ⟨rfl, h₅⟩)) fun _ _ h' => h')) fun _ _ h' => h'))
theorem compStart_two {A : Around} {elt t1 iter1 t2 iter2 : Expr} {ifs : List Expr} {scope : Scope} {pos : Pos} {it acc : Value} {env : Env} {R : Result → Shared → Prop} {s : Shared}
    (h0 : codeAny (model prog w) A (.compLoop (.ListComp elt [⟨t1, iter1, [], 0⟩, ⟨t2, iter2, ifs, 0⟩] scope pos) 1 it acc env) R s)
    (h : wpAny (model prog w) A (pyIter it) (fun it' s' => codeAny (model prog w) A (.compLoop (.ListComp elt [⟨t1, iter1, [], 0⟩, ⟨t2, iter2, ifs, 0⟩] scope pos) 1 it' acc env) R s')
      (notedBy (model prog w) A env fun x s' => R (.error x) s') s) :
    codeAny (model prog w) A (.compStart (.ListComp elt [⟨t1, iter1, [], 0⟩, ⟨t2, iter2, ifs, 0⟩] scope pos) 1 it acc env) R s := by
  refine codeAny_of_tree ?_
  show wpAny _ _ ((compStart (.ListComp elt [⟨t1, iter1, [], 0⟩, ⟨t2, iter2, ifs, 0⟩] scope pos) 1 it acc env).onRaise (fun x => do noteFrame x env; standAt theWindowsPlace)) _ _ s
  refine wpAny_notedAt ?_
  unfold compStart
  show wpAny _ _ (ask >>= _) _ _ s
  refine wpAny_bind (wpAny_askSetting (wpAny_ite ?_))
  split
  · first
      | exact wpAny_bind (wpAny_pure (wpAny_pure (And.intro rfl h0)))
      | exact wpAny_pure (And.intro rfl h0)
  · first
      | exact wpAny_bind (wpAny_rule (wpAny_bind (wpAny_standAt (wpAny_bind (wpAny_mono h (fun it' s' h' => wpAny_pure (And.intro rfl h')) fun _ _ x => x)))))
      | (refine wpAny_bind (wpAny_rule ?_); show wpAny _ _ (standAt iter2.pos >>= _) _ _ s; exact wpAny_bind (wpAny_standAt (wpAny_bind (wpAny_mono h (fun it' s' h' => wpAny_pure (And.intro rfl h')) fun _ _ x => x))))
end
end Mine
end
section
set_option linter.unusedVariables false
set_option linter.unusedSectionVars false
set_option maxRecDepth 100000
namespace Mine
open PySem PySem.W PySem.Calls
open Sem (wp)
section
variable {T : Heap → Prop} [UpT T] {prog : Program} {w : World} {k : Nat} {env : Env} {Γ Γ' : Cx}
theorem comp2_run {α β : Type} {X : Addr → Prop} {A : Around} {s s₃ : Shared} {R : Result → Shared → Prop} {x y : Str} {px py : Pos} {iter1 iter2 : Expr} {ifs : List Expr} {elt : Expr} {scope : Scope} {pos : Pos} {cl : List (Str × Addr)} {Γc : Cx} {C D I : Addr} {Y : List Addr}
    {m0 : Str → Option Value} {fp wr : List Addr} {P : Nat → Value → Prop} {St : Nat → Heap → Prop} {xs : List α} {enc : α → Mine.D} {ys : α → List β} {enc2 : β → Mine.D} {p : α → β → Bool} {f : α → β → Mine.D}
    (ok : Okn k A) (st : Sit T X env Γ s) (ct : Caught env scope cl Γ Γc) (hx : scope.names.lookup x = some .local) (hy : scope.names.lookup y = some .local) (hxy : x ≠ y)
    (hY : ∀ a ∈ Y, s.heap.get? a = none) (hC : C ∈ Y) (hD : D ∈ Y) (hwr : ∀ b ∈ wr, b ∈ Y) (hCD : C ≠ D) (hCf : C ∉ fp) (hDf : D ∉ fp)
    (up : Up s.heap s₃.heap) (hYal : ∀ a ∈ Y, ∃ o, s₃.heap.get? a = some o) (hacc : s₃.heap.PlainList D #[]) (hn : s₃.heap.Ns C m0)
    (W : Walks prog w A I fp wr xs.length P St) (hst : St 0 s₃.heap) (hal : ∀ i h, St i h → ∀ b ∈ fp, ∃ o, h.get? b = some o) (hgo : GoesFree prog w I St)
    (hP : ∀ i v, i < xs.length → P i v → ∃ a, xs[i]? = some a ∧ Rd (Xy X Y) s₃.heap v (enc a))
    (hit : ∀ a ∈ xs, It T prog w k (compEnvC scope cl C env) ((x, .dat (enc a)) :: Γc) iter2 ((ys a).map enc2))
    (htests : ∀ a ∈ xs, ∀ b ∈ ys a, Tsts T prog w k (compEnvC scope cl C env) ((y, .dat (enc2 b)) :: (x, .dat (enc a)) :: Γc) ifs (p a b))
    (helt : ∀ a ∈ xs, ∀ b ∈ ys a, p a b = true → Ev T prog w k (compEnvC scope cl C env) ((y, .dat (enc2 b)) :: (x, .dat (enc a)) :: Γc) elt (f a b))
    (hfs : ∀ env x, foldedSetIterable iter2 env x = pure x)
    (hsz : (xs.flatMap fun a => ys a).length ≤ sizeLine)
    (hR : ∀ h' tk m' vs, h'.Ns C m' → h'.PlainList D vs.toArray → Rds (Xy X Y) h' vs (xs.flatMap fun a => ((ys a).filter (p a)).map (f a)) → Up s.heap h' → R (.ok .next) { s₃ with heap := h', toks := tk }) :
    codeAny (model prog w) A (.compLoop (.ListComp elt [⟨.Name x px, iter1, [], 0⟩, ⟨.Name y py, iter2, ifs, 0⟩] scope pos) 0 (.ref I) (.ref D) (compEnvC scope cl C env)) R s₃ := by
  have hCw : C ∉ wr := fun h => hCf (W.sub _ h)
  have hDw : D ∉ wr := fun h => hDf (W.sub _ h)
  have aliveNot : ∀ b o, s.heap.get? b = some o → b ∉ Y := fun b o e hb => by rw [hY b hb] at e; cases e
  obtain ⟨Inv, hInv⟩ : ∃ Inv : Nat → Shared → Prop, Inv = fun (n : Nat) (s' : Shared) => ∃ h' tk m' vs i, s' = { s₃ with heap := h', toks := tk } ∧ St i h' ∧ h'.PlainList D vs.toArray ∧ h'.Ns C m' ∧
      Rds (Xy X Y) h' vs ((xs.take i).flatMap fun a => ((ys a).filter (p a)).map (f a)) ∧ i ≤ xs.length ∧ n = xs.length + 1 - i ∧
      (∀ a ∈ Y, a ∉ wr → ∃ o, h'.get? a = some o) ∧ Wider (Xy X Y) s₃.heap (Xy X Y) h' ∧ Up s.heap h' := ⟨_, rfl⟩
  refine codeAny_loop (c := .compLoop (.ListComp elt [⟨.Name x px, iter1, [], 0⟩, ⟨.Name y py, iter2, ifs, 0⟩] scope pos) 0 (.ref I) (.ref D) (compEnvC scope cl C env)) rfl Inv ?_ (xs.length + 1)
    (hInv ▸ ⟨s₃.heap, s₃.toks, m0, [], 0, rfl, hst, hacc, hn, by simpa using Rds.nil, Nat.zero_le _, rfl, fun a ha _ => hYal a ha, fun a o nx e => ⟨nx, e⟩, up⟩)
  intro n s' hI
  rw [hInv] at hI
  obtain ⟨h', tk, m', vs, i, rfl, hst', hacc', hn', hF, hi, rfl, hal', hwid, hup⟩ := hI
  show wpAny _ A ((compTurn (.ListComp elt [⟨.Name x px, iter1, [], 0⟩, ⟨.Name y py, iter2, ifs, 0⟩] scope pos) 0 (.ref I) (.ref D) (compEnvC scope cl C env)).onRaise (fun x => do noteFrame x (compEnvC scope cl C env); theTreesLotGoes x)) _ _ _
  refine wpAny_noted ?_
  rw [compTurn_two]
  refine wpAny_bind (wpAny_standAt (wpAny_bind ?_))
  by_cases hlt : i < xs.length
  · refine W.item i _ _ _ hlt hst' fun v h₁ tk₁ hPv hst₁ hk₁ => ?_
    obtain ⟨a, ha, hra⟩ := hP i v hlt hPv
    have hmem : a ∈ xs := List.mem_of_getElem? ha
    have hxk : (compEnvC scope cl C env).kindOf x = some .local := lookup_relabel_local hx
    have hsk : (compEnvC scope cl C env).scope.kind = .function := ct.kind
    refine wpAny_bind (wpAny_of_eq (a := ()) rfl ?_)
    refine wpAny_bind (wpAny_assign_Name (wpAny_storeName_local hxk (hn'.at' fun o e => hk₁ _ o hCw e) (fun h₂ hn₂ hs₂ => ?_) (by rw [hsk]; rfl)))
    have hs₂ : Heap.SameBut C h₁ h₂ := hs₂
    have hst₂ : St (i + 1) h₂ := W.frame _ _ _ hst₁ fun b hb o e => hs₂.extBut b o (fun h => hCf (h ▸ hb)) e
    have acc₂ : h₂.PlainList D vs.toArray := hacc'.at fun o e => hs₂.extBut _ o (Ne.symm hCD) (hk₁ _ o hDw e)
    have wid₂ : Wider (Xy X Y) h' (Xy X Y) h₂ := fun b o nx e => ⟨nx, hs₂.extBut b o (fun h => nx (.inr (h ▸ hC))) (hk₁ b o (fun h => nx (.inr (hwr _ h))) e)⟩
    have wid₃ : Wider (Xy X Y) s₃.heap (Xy X Y) h₂ := fun b o nx e => wid₂ b o (hwid b o nx e).1 (hwid b o nx e).2
    have upS : Up s.heap h₂ := fun b o e => hs₂.extBut b o (fun h => aliveNot b o e (h ▸ hC)) (hk₁ b o (fun h => aliveNot b o e (hwr _ h)) (hup b o e))
    have widS : Wider X s.heap (Xy X Y) h₂ := fun b o nx e => ⟨fun h => h.elim nx (aliveNot b o e), upS b o e⟩
    have alY : ∀ a ∈ Y, ∃ o, h₂.get? a = some o := fun a ha => by
      by_cases c1 : a = C
      · obtain ⟨o, _, _, ho, _⟩ := hn₂; exact ⟨o, c1 ▸ ho⟩
      by_cases c2 : a ∈ wr
      · exact hal _ _ hst₂ a (W.sub _ c2)
      obtain ⟨o, e⟩ := hal' a ha c2
      exact ⟨o, hs₂.extBut a o c1 (hk₁ a o c2 e)⟩
    have al₂ : ∀ a, Xy X Y a → ∃ o, h₂.get? a = some o := fun a h => h.elim (fun hx => let ⟨o, e⟩ := st.al a hx; ⟨o, upS a o e⟩) (alY a)
    have st₂ : ∀ tk, Sit T (Xy X Y) (compEnvC scope cl C env) ((x, .dat (enc a)) :: Γc) { s₃ with heap := h₂, toks := tk } := fun tk =>
      Sit.comps (s' := { s₃ with heap := h₂, toks := tk }) (Γl := [(x, .dat (enc a))]) st ct widS al₂ (UpT.up st.top upS) (fun c v hc => hc.keeps upS) hn₂ fun n d hnd => by
        rcases List.mem_cons.mp hnd with e | hnd
        · cases e; exact ⟨hx, v, by simp, hra.mono wid₃⟩
        · cases hnd
    refine wpAny_bind (wpAny_pure ?_)
    rw [if_pos rfl]
    refine wpAny_bind (wpAny_mono ((hit a hmem).run (Xy X Y) A _ _ ok (st₂ _)) (fun xv s₅ h₅ => ?_) fun _ _ e => e)
    obtain ⟨k₅, hpy⟩ := h₅
    refine wpAny_bind (wpAny_standAt (wpAny_bind (wpAny_of_eq (hfs _ _) (wpAny_bind (wpAny_holding (wpAny_mono hpy (fun it2 s₆ h₆ => ?_) fun _ _ e => e))))))
    obtain ⟨k₆, I2, fp2, wr2, P2, St2, rfl, W2, hsz2, hst2, hfp2, hfX2, hwr2, hal2, hgo2, hP2⟩ := h₆
    have len2 : ((ys a).map enc2).length = (ys a).length := List.length_map _
    rw [len2] at W2 hsz2 hP2
    obtain ⟨h₅, tk₅, rfl, up₅⟩ := k₅
    obtain ⟨h₆, tk₆, rfl, up₆⟩ := k₆
    have up26 : Up h₂ h₆ := fun b o e => up₆ b o (up₅ b o e)
    have dead2 : ∀ b ∈ wr2, s.heap.get? b = none := fun b hb => by
      cases e : s.heap.get? b with
      | none => rfl
      | some o => have := up₅ b o (upS b o e); rw [hwr2 b hb] at this; cases this
    have dead2' : ∀ b ∈ wr2, h₂.get? b = none := fun b hb => by
      cases e : h₂.get? b with
      | none => rfl
      | some o => have := up₅ b o e; rw [hwr2 b hb] at this; cases this
    have shr : ∀ h, Wider (Xy X (Y ++ wr2)) h (Xy X Y) h := fun h b o nx e => ⟨fun hb => nx (hb.elim .inl fun hb => .inr (List.mem_append_left _ hb)), e⟩
    have wid6 : Wider (Xy X Y) h₂ (Xy X (Y ++ wr2)) h₆ := fun b o nx e => And.intro (fun hb => hb.elim (fun h => nx (.inl h)) fun hb => (List.mem_append.mp hb).elim (fun hb => nx (.inr hb)) fun hb => absurd ((dead2' b hb).symm.trans e) (fun x => nomatch x)) (up26 b o e)
    have inner : ∀ tk, codeAny (model prog w) A (.compLoop (.ListComp elt [⟨.Name x px, iter1, [], 0⟩, ⟨.Name y py, iter2, ifs, 0⟩] scope pos) 1 (.ref I2) (.ref D) (compEnvC scope cl C env))
        (fun r s' => match r with | .ok _ => ∃ m, m < xs.length + 1 - i ∧ Inv m s' | .error _ => False)
        { s₃ with heap := h₆, toks := tk } := fun tk => by
      have hl1 : vs.length + (ys a).length ≤ sizeLine := by
        have e1 := hF.length
        have e2 : ∀ l : List α, ((l.flatMap fun a => ((ys a).filter (p a)).map (f a)).length ≤ (l.flatMap fun a => ys a).length) := fun l => by
          induction l with
          | nil => simp
          | cons b r ih =>
            simp only [List.flatMap_cons, List.length_append, List.length_map]
            have := List.length_filter_le (p b) (ys b)
            omega
        have e3 : (xs.flatMap fun a => ys a) = ((xs.take i ++ [a] ++ xs.drop (i + 1)).flatMap fun a => ys a) := by
          congr 1
          have : xs.take (i + 1) = xs.take i ++ [a] := by rw [List.take_add_one, ha]; rfl
          rw [← this, List.take_append_drop]
        rw [e3] at hsz
        simp only [List.flatMap_append, List.flatMap_cons, List.flatMap_nil, List.append_nil, List.length_append] at hsz
        have := e2 (xs.take i)
        omega
      refine comp_run (Y := Y ++ wr2) (s := s) (X := X) (Γ0 := [(x, .dat (enc a))]) (xs := ys a) (enc := enc2) (p := p a) (f := f a) (ys0 := vs) (s₃ := { s₃ with heap := h₆, toks := tk }) LoopRule.two ok st ct hy
        (fun b hb => by rcases List.mem_append.mp hb with hb | hb; exact hY b hb; exact dead2 b hb) (List.mem_append_left _ hC) (List.mem_append_left _ hD) (fun b hb => List.mem_append_right _ hb) hCD
        (fun h => hfX2 _ h (.inr hC)) (fun h => hfX2 _ h (.inr hD)) (fun b o e => up26 b o (upS b o e)) ?_ (acc₂.at fun o e => up26 _ o e) ((hF.mono wid₂).mono wid6) (hn₂.keeps up26) ?_ W2 hst2
        (fun i h st b hb => hal2 i h st b (W2.sub b hb)) ?_ (htests a hmem) (helt a hmem) (by rw [← hF.length]; exact hl1) ?_
      · intro b hb
        rcases List.mem_append.mp hb with hb | hb
        · obtain ⟨o, e⟩ := alY b hb; exact ⟨o, up26 b o e⟩
        · exact hal2 _ _ hst2 b (W2.sub b hb)
      · intro n d hnd
        rcases List.mem_cons.mp hnd with e | hnd
        · cases e; exact ⟨hxy, hx, v, by simp, (hra.mono wid₃).mono wid6⟩
        · cases hnd
      · intro j u hj hu
        obtain ⟨d, hd, hr⟩ := hP2 j u hj hu
        rw [List.getElem?_map] at hd
        obtain ⟨b, hb, rfl⟩ := Option.map_eq_some_iff.mp hd
        refine ⟨b, hb, hr.mono fun c o nx e => ⟨fun hc => hc.elim (fun h => nx (.inl h)) fun hc => ?_, up₆ c o e⟩⟩
        rcases List.mem_append.mp hc with hc | hc
        · exact nx (.inr hc)
        · rw [hwr2 c hc] at e; cases e
      · intro h₇ tk₇ m₇ zs hN₇ hA₇ hr₇ hk₇ hal₇
        refine ⟨xs.length + 1 - (i + 1), by omega, hInv ▸ ⟨h₇, tk₇, m₇, zs, i + 1, rfl, ?_, hA₇, hN₇, ?_, hlt, rfl, ?_, ?_, ?_⟩⟩
        · exact W.frame _ _ _ hst₂ fun b hb o e => hk₇ b o (fun h => hCf (h ▸ hb)) (fun h => by rw [dead2' b h] at e; cases e) (fun h => hDf (h ▸ hb)) (up26 b o e)
        · have htake : xs.take (i + 1) = xs.take i ++ [a] := by rw [List.take_add_one, ha]; rfl
          rw [htake, List.flatMap_append]
          simp only [List.flatMap_cons, List.flatMap_nil, List.append_nil]
          exact hr₇.mono (shr _)
        · intro b hb hbw
          refine hal₇ b (List.mem_append_left _ hb) fun h => ?_
          obtain ⟨o, e⟩ := alY b hb
          rw [dead2' b h] at e; cases e
        · intro b o nx e
          obtain ⟨n1, e1⟩ := wid₃ b o nx e
          have nY : b ∉ Y := fun h => nx (.inr h)
          exact ⟨nx, hk₇ b o (fun h => nY (h ▸ hC)) (fun h => by rw [dead2' b h] at e1; cases e1) (fun h => nY (h ▸ hD)) (up26 b o e1)⟩
        · intro b o e
          have nY := aliveNot b o e
          exact hk₇ b o (fun h => nY (h ▸ hC)) (fun h => by rw [dead2 b h] at e; cases e) (fun h => nY (h ▸ hD)) (up26 b o (upS b o e))
    refine wpAny_bind (wpAny_runOwn ?_)
    rw [Around.mark_none]
    refine codeAny_mono (compStart_two (inner _) (W2.self 0 _ _ _ hst2 (inner _))) fun r s' hr => ?_
    cases r with
    | ok fl => exact wpAny_pure ⟨rfl, hr⟩
    | error e => exact hr.elim
  · have hin : i = xs.length := by omega
    subst hin
    refine W.done _ _ _ hst' fun h₁ tk₁ hk₁ => ?_
    refine wpAny_pure (hR h₁ tk₁ m' vs (hn'.at' fun o e => hk₁ _ o hCw e) (hacc'.at fun o e => hk₁ _ o hDw e) ?_ fun b o e => hk₁ b o (fun h => aliveNot b o e (hwr _ h)) (hup b o e))
    have w1 : Wider (Xy X Y) h' (Xy X Y) h₁ := fun b o nx e => ⟨nx, hk₁ b o (fun h => nx (.inr (hwr _ h))) e⟩
    have := hF.mono w1
    rwa [List.take_length] at this
end
end Mine
end
section
set_option linter.unusedVariables false
set_option linter.unusedSectionVars false
set_option maxRecDepth 100000
namespace Mine
open PySem PySem.W PySem.Calls
open Sem (wp)
section
variable {T : Heap → Prop} [UpT T] {prog : Program} {w : World} {k : Nat} {env : Env} {Γ Γ' : Cx}
theorem EvF.comp2 {α β : Type} {elt iter iter2 : Expr} {x y : Str} {px py : Pos} {ifs : List Expr} {scope : Scope} {pos : Pos} {Γc : Cx} {xs : List α} {enc : α → Mine.D} {ys : α → List β} {enc2 : β → Mine.D} {p : α → β → Bool} {f : α → β → Mine.D}
    (hit : It T prog w k env Γ iter (xs.map enc)) (hf : CellsFull env) (hcaps : capsOk scope env.scope = true) (hx : scope.names.lookup x = some .local) (hc : ∀ p ∈ Γc, p ∈ Γ ∧ scope.names.lookup p.1 = some .free)
    (hy : scope.names.lookup y = some .local) (hxy : x ≠ y)
    (hit2 : ∀ C cl, ∀ a ∈ xs, It T prog w k (compEnvC scope cl C env) ((x, .dat (enc a)) :: Γc) iter2 ((ys a).map enc2))
    (htests : ∀ C cl, ∀ a ∈ xs, ∀ b ∈ ys a, Tsts T prog w k (compEnvC scope cl C env) ((y, .dat (enc2 b)) :: (x, .dat (enc a)) :: Γc) ifs (p a b))
    (helt : ∀ C cl, ∀ a ∈ xs, ∀ b ∈ ys a, p a b = true → Ev T prog w k (compEnvC scope cl C env) ((y, .dat (enc2 b)) :: (x, .dat (enc a)) :: Γc) elt (f a b))
    (hsz2 : (xs.flatMap fun a => ys a).length ≤ sizeLine)
    (hs : ∀ env x, foldedSetIterable iter env x = pure x := by intros; rfl) (hs2 : ∀ env x, foldedSetIterable iter2 env x = pure x := by intros; rfl) :
    EvF T prog w k env Γ (.ListComp elt [⟨.Name x px, iter, [], 0⟩, ⟨.Name y py, iter2, ifs, 0⟩] scope pos) (xs.flatMap fun a => ((ys a).filter (p a)).map (f a)) := .mk fun X A s E ok st => by
  rw [eval_ListComp]
  have ct : Caught env scope (clo env.cells scope.names []) Γ Γc := Caught.of hf hcaps hc
  generalize hcl : clo env.cells scope.names [] = cl at ct
  refine wpAny_comprehension_free (use := none) rfl (hs env) ct.clos ct.kind ct.names (wpAny_mono (hit.run X A s E ok st) (fun xv s₁ h₁ => wpAny_mono h₁.2 (fun it s₂ h₂ => ?_) fun _ _ e => e) fun _ _ e => e)
  obtain ⟨k₁, -⟩ := h₁
  obtain ⟨k₂, I, fp, wr, P, St, rfl, W, hsz, hst, hfp, hfX, hwr, hal', hgo, hP⟩ := h₂
  have hal : ∀ i h, St i h → ∀ b ∈ wr, ∃ o, h.get? b = some o := fun i h st b hb => hal' i h st b (W.sub b hb)
  have st₁ := st.up k₁.up
  have st₂ := st₁.up k₂.up
  obtain ⟨h₂, tk₂, rfl, up₂⟩ := k₂
  have lenW : (xs.map enc).length = xs.length := List.length_map _
  rw [lenW] at W hsz
  refine wpAny_newObj_type (wpAny_newFunctionEnv ct.nocell (by intro y hy; simp at hy) (fun h₃ hns hsb => ?_) ct.kind)
  dsimp only at hns hsb ⊢
  generalize hH : h₂.push { cls := .type "list", dict := none, data := .seq ([] : List Value).toArray } = H at hns hsb ⊢
  have hC : H.objs.size = h₂.objs.size + 1 := by rw [← hH, Heap.size_push]
  have hDC : h₂.objs.size ≠ H.objs.size := by rw [hC]; exact Nat.ne_of_lt (Nat.lt_succ_self _)
  have below : ∀ b, b < h₂.objs.size → b ≠ H.objs.size ∧ b ≠ h₂.objs.size := fun b hb => ⟨by rw [hC]; exact Nat.ne_of_lt (Nat.lt_succ_of_lt hb), Nat.ne_of_lt hb⟩
  have old : Up h₂ h₃ := fun b o e => hsb.extBut b o (below b (Heap.lt_size e)).1 (Heap.get?_push_of_some _ (hH ▸ Heap.get?_push_of_some _ e))
  have hacc : h₃.PlainList h₂.objs.size #[] := ⟨0, hsb.extBut _ _ hDC (Heap.get?_push_of_some _ (hH ▸ Heap.get?_push_size _ rfl))⟩
  have fresh : ∀ a, h₂.objs.size ≤ a → s₁.heap.get? a = none := fun a ha => by
    cases e : s₁.heap.get? a with
    | none => rfl
    | some o' => exact absurd (Heap.lt_size (up₂ _ _ e)) (Nat.not_lt.mpr ha)
  have dead : ∀ a ∈ h₂.objs.size :: H.objs.size :: wr, s₁.heap.get? a = none := fun a ha => by
    rcases List.mem_cons.mp ha with rfl | ha
    · exact fresh _ (Nat.le_refl _)
    rcases List.mem_cons.mp ha with rfl | ha
    · exact fresh _ (by rw [hC]; exact Nat.le_succ _)
    · exact hwr a ha
  have nX : ¬ X h₂.objs.size := fresh_not (X := X) st₂.al
  have main : ∀ tk, codeAny (model prog w) A (.compLoop (.ListComp elt [⟨.Name x px, iter, [], 0⟩, ⟨.Name y py, iter2, ifs, 0⟩] scope pos) 0 (.ref I) (.ref h₂.objs.size) (compEnvC scope cl H.objs.size env))
      (compPost (model prog w) A E none (fun v s' => Kp s s' ∧ FreshL X s s' v (xs.flatMap fun a => ((ys a).filter (p a)).map (f a))) (.ref h₂.objs.size) H.objs.size) { s₁ with heap := h₃, toks := tk } := fun tk => by
    refine comp2_run (Y := h₂.objs.size :: H.objs.size :: wr) (enc := enc) (ys := ys) (enc2 := enc2) (p := p) (f := f) (s := s₁) (X := X) ok st₁ ct hx hy hxy dead (by simp) (by simp) (fun b hb => by simp [hb]) (Ne.symm hDC)
      (fun hm => (below _ (hfp _ hm)).1 rfl) (fun hm => (below _ (hfp _ hm)).2 rfl) (fun b o e => old b o (up₂ b o e)) ?_ hacc hns W (W.frame _ _ _ hst fun b _ o e => old b o e) hal' hgo ?_ (hit2 _ _) (htests _ _) (helt _ _) hs2 hsz2 ?_
    · intro a ha
      rcases List.mem_cons.mp ha with rfl | ha
      · obtain ⟨n, e⟩ := hacc; exact ⟨_, e⟩
      rcases List.mem_cons.mp ha with rfl | ha
      · obtain ⟨o, _, _, ho, _⟩ := hns; exact ⟨o, ho⟩
      · obtain ⟨o, e⟩ := hal _ _ hst a ha; exact ⟨o, old _ _ e⟩
    · intro i v hi hv
      obtain ⟨d, hd, hr⟩ := hP i v (by rw [lenW]; exact hi) hv
      rw [List.getElem?_map] at hd
      obtain ⟨a, ha, rfl⟩ := Option.map_eq_some_iff.mp hd
      refine ⟨a, ha, hr.mono fun b o nx e => ⟨fun h => h.elim nx fun h => ?_, old b o (up₂ b o e)⟩⟩
      rw [dead b h] at e; cases e
    · intro h' tk' m' vs hN hA hrs hup
      obtain ⟨h₁, tk₁, rfl, up₁⟩ := k₁
      have dn : ∀ a, h₁.get? a = none → s.heap.get? a = none := fun a ha => by
        cases e : s.heap.get? a with
        | none => rfl
        | some o => rw [up₁ a o e] at ha; cases ha
      refine ⟨m', hN, fun h'' hs'' => ⟨⟨h'', tk', rfl, fun b o e => ?_⟩, h₂.objs.size, vs, rfl, dn _ (dead _ (by simp)), hA.extBut hs''.extBut hDC, ?_⟩⟩
      · have e' := up₁ b o e
        have nb : b ∉ h₂.objs.size :: H.objs.size :: wr := fun hm => by rw [dead b hm] at e'; cases e'
        simp only [List.mem_cons, not_or] at nb
        exact hs''.extBut b o nb.2.1 (hup b o e')
      · refine hrs.mono fun b o nx e => ⟨fun h => nx ?_, hs''.extBut b o (fun h => nx (.inr (by simp [h]))) e⟩
        rcases h with h | h
        · exact .inl h
        · exact .inr (by simp [h])
  exact codeAny_compStart_list (main _) (W.self 0 _ _ _ (W.frame _ _ _ hst fun b _ o e => old b o e) (main _))
end
end Mine
end
section
set_option linter.unusedVariables false
namespace Mine
open PySem PySem.W PyProof.Rows
/-- all questions asked of the tree lie below n, and what it ends with, answered by lt, is as Q says -/
noncomputable def Gd (n : Nat) (lt : Nat → Nat → Bool) {α : Type} : KasT α → (α → Prop) → Prop
  | .ret a, Q => Q a
  | .ask i j k, Q => i < n ∧ j < n ∧ Gd n lt (k (lt i j)) Q
theorem Gd.bind {n : Nat} {lt : Nat → Nat → Bool} {α β : Type} {f : α → KasT β} {Q : β → Prop} : ∀ {t : KasT α}, Gd n lt t (fun a => Gd n lt (f a) Q) → Gd n lt (t.bind f) Q
  | .ret a, h => h
  | .ask i j k, ⟨h1, h2, h⟩ => ⟨h1, h2, Gd.bind h⟩
theorem Gd.mono {n : Nat} {lt : Nat → Nat → Bool} {α : Type} {Q Q' : α → Prop} (hq : ∀ a, Q a → Q' a) : ∀ {t : KasT α}, Gd n lt t Q → Gd n lt t Q'
  | .ret a, h => hq a h
  | .ask i j k, ⟨h1, h2, h⟩ => ⟨h1, h2, Gd.mono hq h⟩
section
variable {n : Nat} {R : Nat → Nat}
noncomputable def ltR (R : Nat → Nat) (i j : Nat) : Bool := decide (R i < R j)
noncomputable def Kq (R : Nat → Nat) (p : Array Nat) (k : Nat) : Nat := R (p.getD k 0)
theorem ltR_t {p : Array Nat} {i j : Nat} (h : Kq R p i < Kq R p j) : ltR R (p.getD i 0) (p.getD j 0) = true := decide_eq_true h
theorem ltR_f {p : Array Nat} {i j : Nat} (h : ¬ Kq R p i < Kq R p j) : ltR R (p.getD i 0) (p.getD j 0) = false := decide_eq_false h
structure Ok1 (n : Nat) (p : Array Nat) : Prop where
  perm : p.Perm (List.toArray (List.range n))
theorem Ok1.size {p : Array Nat} (h : Ok1 n p) : p.size = n := by have := h.perm.size_eq; simpa using this
theorem Ok1.lt {p : Array Nat} (h : Ok1 n p) {k : Nat} (hk : k < n) : p.getD k 0 < n := by
  have hk' : k < p.size := by rw [h.size]; exact hk
  have e : p.getD k 0 = p[k] := by simp [Array.getD, hk']
  rw [e]
  have := h.perm.mem_iff.mp (Array.getElem_mem hk')
  simpa using this
theorem getD_of {p : Array Nat} {i : Nat} : p.getD i 0 = (p[i]?).getD 0 := by
  by_cases h : i < p.size <;> simp [Array.getD, h]
theorem Kq_rev {p : Array Nat} {i j : Nat} (hj : j ≤ p.size) (k : Nat) : Kq R (kas_rev p i j) k = if i ≤ k ∧ k < j then Kq R p (i + j - 1 - k) else Kq R p k := by
  unfold Kq kas_rev
  rw [getD_of, getElem?_mirror_all hj k]
  split <;> rw [← getD_of]
theorem Ok1.rev {p : Array Nat} (h : Ok1 n p) (i j : Nat) : Ok1 n (kas_rev p i j) := ⟨(mirror_perm p i j _).trans h.perm⟩
theorem Kq_bub {p : Array Nat} {src d : Nat} (hs : src < p.size) (hd : d ≤ src) (k : Nat) : Kq R (bubble p src d) k = if k = src - d then Kq R p src else if src - d < k ∧ k ≤ src then Kq R p (k - 1) else Kq R p k := by
  unfold Kq
  rw [getD_of, getElem?_bubble hs d hd k]
  by_cases h1 : k = src - d
  · rw [if_pos h1, if_pos h1]; exact congrArg R getD_of.symm
  · rw [if_neg h1, if_neg h1]
    by_cases h2 : src - d < k ∧ k ≤ src
    · rw [if_pos h2, if_pos h2]; exact congrArg R getD_of.symm
    · rw [if_neg h2, if_neg h2]; exact congrArg R getD_of.symm
theorem Ok1.bub {p : Array Nat} (h : Ok1 n p) (i j : Nat) : Ok1 n (bubble p i j) := ⟨(bubble_perm p i j).trans h.perm⟩
noncomputable def Asc (R : Nat → Nat) (p : Array Nat) (m : Nat) : Prop := ∀ k, 1 ≤ k → k < m → Kq R p (k - 1) ≤ Kq R p k
noncomputable def Dsc (R : Nat → Nat) (p : Array Nat) (m : Nat) : Prop := ∀ k, 1 ≤ k → k < m → Kq R p k ≤ Kq R p (k - 1)
theorem Asc.le {p : Array Nat} {m : Nat} (h : Asc R p m) : ∀ {i j : Nat}, i ≤ j → j < m → Kq R p i ≤ Kq R p j := by
  intro i j hij hj
  induction j with
  | zero => have : i = 0 := by omega
            subst this; exact Nat.le_refl _
  | succ j ih =>
    by_cases e : i = j + 1
    · subst e; exact Nat.le_refl _
    · exact Nat.le_trans (ih (by omega) (by omega)) (by simpa using h (j + 1) (by omega) hj)
theorem Dsc.le {p : Array Nat} {m : Nat} (h : Dsc R p m) : ∀ {i j : Nat}, i ≤ j → j < m → Kq R p j ≤ Kq R p i := by
  intro i j hij hj
  induction j with
  | zero => have : i = 0 := by omega
            subst this; exact Nat.le_refl _
  | succ j ih =>
    by_cases e : i = j + 1
    · subst e; exact Nat.le_refl _
    · exact Nat.le_trans (by simpa using h (j + 1) (by omega) hj) (ih (by omega) (by omega))
theorem gd_asc {p : Array Nat} (hp : Ok1 n p) : ∀ (f m : Nat), 1 ≤ m → m + f ≤ n → Asc R p m → Gd n (ltR R) (kas_asc p f m) (fun r => m ≤ r ∧ r ≤ m + f ∧ Asc R p r ∧ (r = m + f ∨ Kq R p r < Kq R p (r - 1)))
  | 0, m, h1, h2, ha => ⟨Nat.le_refl _, by omega, ha, .inl rfl⟩
  | f + 1, m, h1, h2, ha => by
    refine ⟨hp.lt (by omega), hp.lt (by omega), ?_⟩
    by_cases hc : Kq R p m < Kq R p (m - 1)
    · have e : ltR R (p.getD m 0) (p.getD (m - 1) 0) = true := ltR_t hc
      rw [e]; exact ⟨Nat.le_refl _, by omega, ha, .inr hc⟩
    · have e : ltR R (p.getD m 0) (p.getD (m - 1) 0) = false := ltR_f hc
      rw [e]
      have ha' : Asc R p (m + 1) := fun k h1 h2 => by
        by_cases e : k = m
        · subst e; omega
        · exact ha k h1 (by omega)
      exact Gd.mono (fun r hr => ⟨by omega, by omega, hr.2.2.1, hr.2.2.2.imp (fun h => by omega) id⟩) (gd_asc hp f (m + 1) (by omega) (by omega) ha')
structure DSt (n : Nat) (R : Nat → Nat) (p : Array Nat) (m q : Nat) : Prop where
  ok : Ok1 n p
  m1 : 1 ≤ m
  mn : m ≤ n
  qm : q + 1 ≤ m
  dsc : Dsc R p m
  run : ∀ k, m - 1 - q ≤ k → k < m → Kq R p k = Kq R p (m - 1)
theorem DSt.rev_eq {p : Array Nat} {m q : Nat} (h : DSt n R p m q) (k : Nat) : Kq R (kas_rev p (m - (q + 1)) m) k = Kq R p k := by
  rw [Kq_rev (by rw [h.ok.size]; exact h.mn)]
  have := h.qm
  split
  · rename_i hk
    rw [h.run _ (by omega) (by omega), h.run k (by omega) hk.2]
  · rfl
theorem DSt.rev {p : Array Nat} {m q : Nat} (h : DSt n R p m q) : DSt n R (kas_rev p (m - (q + 1)) m) m q where
  ok := h.ok.rev _ _
  m1 := h.m1
  mn := h.mn
  qm := h.qm
  dsc := fun k h1 h2 => by rw [h.rev_eq, h.rev_eq]; exact h.dsc k h1 h2
  run := fun k h1 h2 => by rw [h.rev_eq, h.rev_eq]; exact h.run k h1 h2
theorem DSt.down {p : Array Nat} {m q : Nat} (h : DSt n R p m q) (hm : m < n) (hc : Kq R p m < Kq R p (m - 1)) : DSt n R p (m + 1) 0 where
  ok := h.ok
  m1 := by omega
  mn := hm
  qm := by omega
  dsc := fun k h1 h2 => by
    by_cases e : k = m
    · subst e; omega
    · exact h.dsc k h1 (by omega)
  run := fun k h1 h2 => by
    have : k = m := by omega
    subst this; simp
theorem DSt.same {p : Array Nat} {m q : Nat} (h : DSt n R p m q) (hm : m < n) (hc : Kq R p m = Kq R p (m - 1)) : DSt n R p (m + 1) (q + 1) where
  ok := h.ok
  m1 := by omega
  mn := hm
  qm := by have := h.qm; omega
  dsc := fun k h1 h2 => by
    by_cases e : k = m
    · subst e; omega
    · exact h.dsc k h1 (by omega)
  run := fun k h1 h2 => by
    have := h.qm
    by_cases e : k = m
    · subst e; simp
    · rw [h.run k (by omega) (by omega)]; simp [hc]
theorem gd_desc : ∀ (f : Nat) (p : Array Nat) (m q : Nat), m + f ≤ n → DSt n R p m q → Gd n (ltR R) (kas_desc f p m q) (fun r => m ≤ r.2.1 ∧ r.2.1 ≤ m + f ∧ DSt n R r.1 r.2.1 r.2.2)
  | 0, p, m, q, hf, h => ⟨Nat.le_refl m, Nat.le_add_right m 0, h⟩
  | f + 1, p, m, q, hf, h => by
    have h1 := h.m1
    refine ⟨h.ok.lt (by omega), h.ok.lt (by omega), ?_⟩
    by_cases hc : Kq R p m < Kq R p (m - 1)
    · have e : ltR R (p.getD m 0) (p.getD (m - 1) 0) = true := ltR_t hc
      rw [e]
      simp only [if_true]
      split
      · have h' := h.rev.down (by omega) (by rw [h.rev_eq, h.rev_eq]; exact hc)
        exact Gd.mono (fun r hr => ⟨by omega, by omega, hr.2.2⟩) (gd_desc f _ (m + 1) 0 (by omega) h')
      · exact Gd.mono (fun r hr => ⟨by omega, by omega, hr.2.2⟩) (gd_desc f _ (m + 1) 0 (by omega) (h.down (by omega) hc))
    · have e : ltR R (p.getD m 0) (p.getD (m - 1) 0) = false := ltR_f hc
      rw [e]
      simp only [Bool.false_eq_true, if_false]
      refine ⟨h.ok.lt (by omega), h.ok.lt (by omega), ?_⟩
      by_cases hd : Kq R p (m - 1) < Kq R p m
      · have e : ltR R (p.getD (m - 1) 0) (p.getD m 0) = true := ltR_t hd
        rw [e]
        exact ⟨Nat.le_refl m, Nat.le_add_right m (f + 1), h⟩
      · have e : ltR R (p.getD (m - 1) 0) (p.getD m 0) = false := ltR_f hd
        rw [e]
        exact Gd.mono (fun r hr => ⟨by omega, by omega, hr.2.2⟩) (gd_desc f p (m + 1) (q + 1) (by omega) (h.same (by omega) (by omega)))
theorem gd_tail {p : Array Nat} {m : Nat} (h1 : 1 ≤ m) (hm : m ≤ n) (ok : Ok1 n p) (hd : Dsc R p m) : Gd n (ltR R) (kas_tail3 m n p) (fun r => m ≤ r.1 ∧ r.1 ≤ n ∧ Ok1 n r.2 ∧ Asc R r.2 r.1) := by
  unfold kas_tail3
  have ha : Asc R (kas_rev p 0 m) m := fun k k1 k2 => by
    rw [Kq_rev (by rw [ok.size]; exact hm), Kq_rev (by rw [ok.size]; exact hm), if_pos (by omega), if_pos (by omega)]
    have := hd (0 + m - 1 - (k - 1)) (by omega) (by omega)
    rw [show 0 + m - 1 - (k - 1) - 1 = 0 + m - 1 - k by omega] at this
    exact this
  exact Gd.bind (Gd.mono (fun r hr => ⟨hr.1, by omega, ok.rev _ _, hr.2.2.1⟩) (gd_asc (ok.rev 0 m) (n - m) m h1 (by omega) ha))
theorem gd_descPart {p : Array Nat} {m : Nat} (hm : m + 1 ≤ n) (h : DSt n R p (m + 1) 0) : Gd n (ltR R) (kas_descPart m n p) (fun r => 1 ≤ r.1 ∧ r.1 ≤ n ∧ Ok1 n r.2 ∧ Asc R r.2 r.1) := by
  unfold kas_descPart
  refine Gd.bind (Gd.mono (fun r hr => ?_) (gd_desc (n - (m + 1)) p (m + 1) 0 (by omega) h))
  obtain ⟨h1, h2, hs⟩ := hr
  split
  · exact Gd.mono (fun r hr => ⟨by omega, hr.2.1, hr.2.2⟩) (gd_tail (by omega) (by omega) hs.rev.ok hs.rev.dsc)
  · exact Gd.mono (fun r hr => ⟨by omega, hr.2.1, hr.2.2⟩) (gd_tail (by omega) (by omega) hs.ok hs.dsc)
theorem gd_count {p : Array Nat} (hn : 1 ≤ n) (ok : Ok1 n p) : Gd n (ltR R) (kas_count n p) (fun r => 1 ≤ r.1 ∧ r.1 ≤ n ∧ Ok1 n r.2 ∧ Asc R r.2 r.1) := by
  unfold kas_count
  refine Gd.bind (Gd.mono (fun m hm => ?_) (gd_asc (R := R) ok (n - 1) 1 (Nat.le_refl _) (by omega) (fun k h1 h2 => by omega)))
  obtain ⟨h1, h2, ha, hs⟩ := hm
  split
  · exact ⟨h1, by omega, ok, ha⟩
  · rename_i hne
    have hne : m ≠ n := by simpa using hne
    have hlt : m < n := by omega
    have hc : Kq R p m < Kq R p (m - 1) := by rcases hs with hs | hs; omega; exact hs
    split
    · rename_i hm1
      refine ⟨ok.lt (by omega), ok.lt (by omega), ?_⟩
      by_cases hd : Kq R p 0 < Kq R p (m - 1)
      · have e : ltR R (p.getD 0 0) (p.getD (m - 1) 0) = true := ltR_t hd
        rw [e]; exact ⟨h1, by omega, ok, ha⟩
      · have e : ltR R (p.getD 0 0) (p.getD (m - 1) 0) = false := ltR_f hd
        rw [e]
        simp only [Bool.false_eq_true, if_false]
        have hall : ∀ k, k < m → Kq R p k = Kq R p 0 := fun k hk => by
          have a1 := ha.le (Nat.zero_le k) hk
          have a2 := ha.le (show k ≤ m - 1 by omega) (by omega)
          omega
        have hrev : ∀ k, Kq R (kas_rev p 0 m) k = Kq R p k := fun k => by
          rw [Kq_rev (by rw [ok.size]; omega)]
          split
          · rename_i hk; rw [hall _ (by omega), hall k hk.2]
          · rfl
        refine gd_descPart (by omega) ⟨ok.rev _ _, by omega, by omega, by omega, fun k k1 k2 => ?_, fun k k1 k2 => ?_⟩
        · rw [hrev, hrev]
          by_cases e : k = m
          · subst e; omega
          · rw [hall k (by omega), hall (k - 1) (by omega)]; exact Nat.le_refl _
        · have : k = m := by omega
          subst this; simp
    · have hm1 : m = 1 := by omega
      subst hm1
      refine gd_descPart (by omega) ⟨ok, by omega, by omega, by omega, fun k k1 k2 => ?_, fun k k1 k2 => ?_⟩
      · have : k = 1 := by omega
        subst this; simpa using Nat.le_of_lt hc
      · have : k = 1 := by omega
        subst this; simp
theorem gd_place {p : Array Nat} (ok : Ok1 n p) {k : Nat} (hk : k < n) (ha : Asc R p k) : ∀ (f l r : Nat), l ≤ r → r ≤ k → r - l ≤ f → (∀ j, j < l → Kq R p j ≤ Kq R p k) → (∀ j, r ≤ j → j < k → Kq R p k < Kq R p j) →
    Gd n (ltR R) (kas_place p k f l r) (fun t => t ≤ k ∧ (∀ j, j < t → Kq R p j ≤ Kq R p k) ∧ ∀ j, t ≤ j → j < k → Kq R p k < Kq R p j)
  | 0, l, r, h1, h2, h3, hl, hr => ⟨by omega, hl, fun j a b => hr j (by omega) b⟩
  | f + 1, l, r, h1, h2, h3, hl, hr => by
    unfold kas_place
    split
    · exact ⟨by omega, hl, fun j a b => hr j (by omega) b⟩
    · refine ⟨ok.lt hk, ok.lt (by omega), ?_⟩
      by_cases hc : Kq R p k < Kq R p ((l + r) / 2)
      · have e : ltR R (p.getD k 0) (p.getD ((l + r) / 2) 0) = true := ltR_t hc
        rw [e]
        refine gd_place ok hk ha f l ((l + r) / 2) (by omega) (by omega) (by omega) hl fun j a b => ?_
        have := ha.le a b
        omega
      · have e : ltR R (p.getD k 0) (p.getD ((l + r) / 2) 0) = false := ltR_f hc
        rw [e]
        refine gd_place ok hk ha f ((l + r) / 2 + 1) r (by omega) (by omega) (by omega) (fun j a => ?_) hr
        have := ha.le (show j ≤ (l + r) / 2 by omega) (by omega)
        omega
theorem gd_bin : ∀ (f : Nat) (p : Array Nat) (k : Nat), 1 ≤ k → k + f = n → Ok1 n p → Asc R p k → Gd n (ltR R) (kas_bin f p k) (fun r => Ok1 n r ∧ Asc R r n)
  | 0, p, k, h1, h2, ok, ha => by
    have : k = n := by omega
    subst this; exact ⟨ok, ha⟩
  | f + 1, p, k, h1, h2, ok, ha => by
    unfold kas_bin
    refine Gd.bind (Gd.mono (fun t ht => ?_) (gd_place ok (by omega) ha k 0 k (by omega) (by omega) (by omega) (fun j h => by omega) (fun j h h' => by omega)))
    obtain ⟨t1, t2, t3⟩ := ht
    refine gd_bin f _ (k + 1) (by omega) (by omega) (ok.bub _ _) fun j j1 j2 => ?_
    have hsz : k < p.size := by rw [ok.size]; omega
    rw [Kq_bub hsz (by omega), Kq_bub hsz (by omega), show k - (k - t) = t by omega]
    by_cases c1 : j = t
    · subst c1
      rw [if_neg (by omega), if_neg (by omega), if_pos rfl]
      exact t2 _ (by omega)
    · by_cases c2 : j - 1 = t
      · rw [if_pos c2, if_neg c1, if_pos (by omega), c2]
        exact Nat.le_of_lt (t3 t (Nat.le_refl _) (by omega))
      · rw [if_neg c2, if_neg c1]
        by_cases c3 : t < j
        · rw [if_pos (by omega), if_pos (by omega)]
          exact ha (j - 1) (by omega) (by omega)
        · rw [if_neg (by omega), if_neg (by omega)]
          exact ha j j1 (by omega)
theorem gd_sort (hn : 1 ≤ n) : Gd n (ltR R) (kas_sort n) (fun r => Ok1 n r ∧ Asc R r n) := by
  unfold kas_sort
  refine Gd.bind (Gd.mono (fun r hr => ?_) (gd_count hn ⟨Array.Perm.refl _⟩))
  obtain ⟨h1, h2, ok, ha⟩ := hr
  split
  · rw [Nat.max_eq_left h1]
    exact gd_bin _ _ _ h1 (by omega) ok ha
  · have : r.1 = n := by omega
    rw [this] at ha
    exact ⟨ok, ha⟩
end
end Mine
end
section
set_option linter.unusedVariables false
set_option maxRecDepth 100000
namespace Mine
open PySem PySem.W PyProof.Rows PySem.SeqAt
open AutoSeq1 (wpAny_loadPart')
open MeetsSeq MeetsSeq2 MeetsSeq3 SeqRoads2
noncomputable def lexLt : List Int → List Int → Bool
  | [], [] => false
  | [], _ :: _ => true
  | _ :: _, [] => false
  | x :: xs, y :: ys => if x = y then lexLt xs ys else decide (x < y)
abbrev ivs (f : List (Int × Tok)) : List Value := f.map fun p => .int p.1 p.2
abbrev inums (f : List (Int × Tok)) : List Int := f.map (·.1)
theorem lt_loopI (l b : Addr) (xs ys : List (Int × Tok)) (n n2 : Nat) : ∀ (k i : Nat), xs.length - i = k → i ≤ xs.length → i ≤ ys.length → Meets (Builtin.«list.__eq__.loop» ⟨[.ref l, .ref b, rawInt i, rawInt 0], []⟩)
      (fun A R s => s.heap.get? l = some { cls := .type "list", data := .seq (ivs xs).toArray n } ∧ s.heap.get? b = some { cls := .type "list", data := .seq (ivs ys).toArray n2 } ∧
        R (.ok (.ret (.bool (lexLt ((inums xs).drop i) ((inums ys).drop i))))) s) := by
  intro k
  induction k with
  | zero =>
    intro i hk hi1 hi2 prog w A R s h
    obtain ⟨hp, g, d, tk, os⟩ := s; obtain ⟨hl, hb, h⟩ := h
    wp_walk using wpAny_loadPart' hl, wpAny_loadPart' hb
    have he : i = xs.length := by omega
    have h1 : (ivs xs).toArray[((i : Nat) : Int).toNat]? = none := by simp; omega
    rw [h1]
    have hd : (inums xs).drop i = [] := by simp; omega
    rw [hd] at h
    wp_walk using wpAny_loadPart' hl, wpAny_loadPart' hb
    show R (.ok (.ret (.bool (decide ((ivs xs).toArray.size < (ivs ys).toArray.size))))) _
    cases hy : (inums ys).drop i with
    | nil =>
      rw [hy] at h
      have : ys.length ≤ i := by simpa using hy
      have e : decide ((ivs xs).toArray.size < (ivs ys).toArray.size) = false := by simp; omega
      rw [e]; exact h
    | cons y r =>
      rw [hy] at h
      have : i < ys.length := by
        rcases Nat.lt_or_ge i ys.length with h | h
        · exact h
        · have : (inums ys).drop i = [] := by simp; exact h
          rw [this] at hy; cases hy
      have e : decide ((ivs xs).toArray.size < (ivs ys).toArray.size) = true := by simp; omega
      rw [e]; exact h
  | succ k ih =>
    intro i hk hi1 hi2 prog w A R s h
    obtain ⟨hp, g, d, tk, os⟩ := s; obtain ⟨hl, hb, h⟩ := h
    wp_walk using wpAny_loadPart' hl, wpAny_loadPart' hb
    have hlt : i < xs.length := by omega
    have h1 : (ivs xs).toArray[((i : Nat) : Int).toNat]? = some (.int xs[i].1 xs[i].2) := by simp [hlt]
    have hd : (inums xs).drop i = xs[i].1 :: (inums xs).drop (i + 1) := by rw [List.drop_eq_getElem_cons (by simpa using hlt)]; simp
    rw [hd] at h
    by_cases hy : i < ys.length
    · have h2 : (ivs ys).toArray[((i : Nat) : Int).toNat]? = some (.int ys[i].1 ys[i].2) := by simp [hy]
      have hd2 : (inums ys).drop i = ys[i].1 :: (inums ys).drop (i + 1) := by rw [List.drop_eq_getElem_cons (by simpa using hy)]; simp
      rw [hd2] at h
      rw [h1, h2]
      refine wpAny_bind (EqAt.int_int (A := A.in1) _ _ _ _ prog w _ _ ?_)
      have hc : ((i : Int) + 1) = ((i + 1 : Nat) : Int) := by push_cast; rfl
      by_cases he : xs[i].1 = ys[i].1
      · have e : (xs[i].1 == ys[i].1) = true := by simpa using he
        rw [e]
        wp_walk
        rw [hc]
        exact ⟨plainId_quiet plain_eq_loop _, codeAny_builtin entry_eq_loop (by
          rw [Around.under_plainId plain_eq_loop _]
          refine ih (i + 1) (by omega) (by omega) (by omega) prog w A R _ ⟨hl, hb, ?_⟩
          simpa [lexLt, he] using h)⟩
      · have e : (xs[i].1 == ys[i].1) = false := by simpa using he
        rw [e]
        wp_walk using wpAny_loadPart' hl, wpAny_loadPart' hb
        rw [h1, h2]
        refine wpAny_bind (show wpAny _ _ (richCompare .Lt _ _) _ _ _ from P.lt_int ?_)
        wp_walk
        simpa [lexLt, he] using h
    · have h2 : (ivs ys).toArray[((i : Nat) : Int).toNat]? = none := by simp; omega
      rw [h1, h2]
      wp_walk using wpAny_loadPart' hl, wpAny_loadPart' hb
      show R (.ok (.ret (.bool (decide ((ivs xs).toArray.size < (ivs ys).toArray.size))))) _
      have hd2 : (inums ys).drop i = [] := by simp; omega
      rw [hd2] at h
      have e : decide ((ivs xs).toArray.size < (ivs ys).toArray.size) = false := by simp; omega
      rw [e]; exact h
theorem list_ltI (l b : Addr) (xs ys : List (Int × Tok)) (n n2 : Nat) : Meets (Builtin.«list.__lt__» ⟨[.ref l, .ref b], []⟩)
      (fun A R s => s.heap.get? l = some { cls := .type "list", data := .seq (ivs xs).toArray n } ∧ s.heap.get? b = some { cls := .type "list", data := .seq (ivs ys).toArray n2 } ∧
        R (.ok (.ret (.bool (lexLt (inums xs) (inums ys))))) s) := by
  intro prog w A R s h
  obtain ⟨hp, g, d, tk, os⟩ := s; obtain ⟨hl, hb, h⟩ := h
  have f3 := AutoSeq1.sub_list_list
  wp_walk using wpAny_loadPart' hl, wpAny_loadPart' hb
  exact ⟨plainId_quiet plain_eq_loop _, codeAny_builtin entry_eq_loop (by
    rw [Around.under_plainId plain_eq_loop _]
    exact lt_loopI l b xs ys n n2 _ 0 rfl (Nat.zero_le _) (Nat.zero_le _) prog w A R _ ⟨hl, hb, by simpa using h⟩)⟩
end Mine
end
section
set_option linter.unusedVariables false
set_option maxRecDepth 100000
namespace Mine
open PySem PySem.W PyProof.Rows PySem.Calls
theorem lexLt_irrefl : ∀ a : List Int, lexLt a a = false
  | [] => rfl
  | x :: xs => by simp [lexLt, lexLt_irrefl xs]
theorem lexLt_trans : ∀ {a b c : List Int}, lexLt a b = true → lexLt b c = true → lexLt a c = true
  | [], [], _, h, _ => by cases h
  | [], _ :: _, [], _, h => by cases h
  | [], _ :: _, _ :: _, _, _ => rfl
  | _ :: _, [], _, h, _ => by cases h
  | _ :: _, _ :: _, [], _, h => by cases h
  | x :: xs, y :: ys, z :: zs, h1, h2 => by
    unfold lexLt at h1 h2 ⊢
    by_cases e1 : x = y
    · rw [if_pos e1] at h1
      subst e1
      by_cases e2 : x = z
      · rw [if_pos e2] at h2 ⊢; exact lexLt_trans h1 h2
      · rw [if_neg e2] at h2 ⊢; exact h2
    · rw [if_neg e1] at h1
      have h1 : x < y := by simpa using h1
      by_cases e2 : y = z
      · subst e2; rw [if_neg e1]; simpa using h1
      · rw [if_neg e2] at h2
        have h2 : y < z := by simpa using h2
        rw [if_neg (by omega)]; simp; omega
theorem lexLt_tri : ∀ {a b : List Int}, lexLt a b = false → lexLt b a = false → a = b
  | [], [], _, _ => rfl
  | [], _ :: _, h, _ => by cases h
  | _ :: _, [], _, h => by cases h
  | x :: xs, y :: ys, h1, h2 => by
    unfold lexLt at h1 h2
    by_cases e : x = y
    · subst e
      rw [if_pos rfl] at h1 h2
      rw [lexLt_tri h1 h2]
    · rw [if_neg e] at h1
      rw [if_neg (fun h => e h.symm)] at h2
      have h1 : ¬ x < y := by simpa using h1
      have h2 : ¬ y < x := by simpa using h2
      omega
theorem lexLt_asymm {a b : List Int} (h : lexLt a b = true) : lexLt b a = false := by
  cases e : lexLt b a with
  | false => rfl
  | true => have := lexLt_trans h e; rw [lexLt_irrefl] at this; cases this
/-- a ≤ b -/
noncomputable def lexLe (a b : List Int) : Bool := !lexLt b a
theorem lexLe_trans (a b c : List Int) (h1 : lexLe a b = true) (h2 : lexLe b c = true) : lexLe a c = true := by
  unfold lexLe at *
  simp only [Bool.not_eq_true'] at *
  cases e : lexLt c a with
  | false => rfl
  | true =>
    cases e2 : lexLt b c with
    | true => rw [lexLt_trans e2 e] at h1; cases h1
    | false =>
      have := lexLt_tri e2 h2
      subst this
      rw [e] at h1; cases h1
theorem lexLe_total (a b : List Int) : (lexLe a b || lexLe b a) = true := by
  unfold lexLe
  cases e : lexLt b a with
  | false => rfl
  | true => rw [lexLt_asymm e]; rfl
theorem lexLe_antisymm (a b : List Int) (h1 : lexLe a b = true) (h2 : lexLe b a = true) : a = b := by
  unfold lexLe at *
  simp only [Bool.not_eq_true'] at *
  exact lexLt_tri h2 h1
noncomputable def sortL (L : List (List Int)) : List (List Int) := L.mergeSort lexLe
theorem sortL_perm (L : List (List Int)) : (sortL L).Perm L := List.mergeSort_perm L lexLe
theorem sortL_sorted (L : List (List Int)) : (sortL L).Pairwise (fun a b => lexLe a b = true) := List.pairwise_mergeSort lexLe_trans lexLe_total L
theorem sortL_unique {L M : List (List Int)} (hp : M.Perm L) (hs : M.Pairwise (fun a b => lexLe a b = true)) : M = sortL L := by
  refine List.Perm.eq_of_pairwise (le := fun a b => lexLe a b = true) (fun a b _ _ h1 h2 => lexLe_antisymm a b h1 h2) hs (sortL_sorted L) (hp.trans (sortL_perm L).symm)
/-- the rank of the i-th list -/
noncomputable def rankL (L : List (List Int)) (i : Nat) : Nat := L.countP fun a => lexLt a (L.getD i [])
theorem rank_iff (L : List (List Int)) {i j : Nat} (hi : i < L.length) (hj : j < L.length) : lexLt (L.getD i []) (L.getD j []) = ltR (rankL L) i j := by
  unfold ltR
  cases h : lexLt (L.getD i []) (L.getD j []) with
  | true =>
    refine (decide_eq_true ?_).symm
    unfold rankL
    have hm : L.getD i [] ∈ L := by rw [List.getD_eq_getElem?_getD, List.getElem?_eq_getElem hi]; exact List.getElem_mem hi
    have mono : ∀ a, lexLt a (L.getD i []) = true → lexLt a (L.getD j []) = true := fun a ha => lexLt_trans ha h
    generalize L.getD i [] = x at *
    generalize L.getD j [] = y at *
    clear hi hj
    induction L with
    | nil => cases hm
    | cons a r ih =>
      rw [List.countP_cons, List.countP_cons]
      rcases List.mem_cons.mp hm with e | hm
      · subst e
        have := List.countP_mono_left (l := r) (p := fun a => lexLt a x) (q := fun a => lexLt a y) (fun a _ => mono a)
        rw [lexLt_irrefl, h]; simp; omega
      · have := ih hm
        by_cases e : lexLt a x = true
        · rw [if_pos e, if_pos (mono a e)]; omega
        · rw [if_neg e]; split <;> omega
  | false =>
    refine (decide_eq_false ?_).symm
    unfold rankL
    have := List.countP_mono_left (l := L) (p := fun a => lexLt a (L.getD j [])) (q := fun a => lexLt a (L.getD i [])) (fun a _ ha => by
      cases e : lexLt a (L.getD i []) with
      | true => rfl
      | false =>
        have h1 : lexLe (L.getD i []) a = true := by unfold lexLe; rw [e]; rfl
        have h2 : lexLe (L.getD j []) (L.getD i []) = true := by unfold lexLe; rw [h]; rfl
        have := lexLe_trans _ _ _ h2 h1
        unfold lexLe at this
        rw [ha] at this; cases this)
    omega
theorem kas_of_gd {n : Nat} {lt : Nat → Nat → Bool} {cmp : Nat → Nat → (Bool → Shared → Prop) → Shared → Prop} {s : Shared} {α : Type} {Qp : α → Prop} {Q : α → Shared → Prop}
    (hc : ∀ i j, i < n → j < n → ∀ C : Bool → Shared → Prop, C (lt i j) s → cmp i j C s) (hq : ∀ a, Qp a → Q a s) : ∀ {t : KasT α}, Gd n lt t Qp → t.kasWp cmp Q s
  | .ret a, h => hq a h
  | .ask i j k, ⟨h1, h2, h⟩ => hc i j h1 h2 _ (kas_of_gd hc hq h)
/-- what the tree gives is the sorted list -/
theorem perm_sorted {L : List (List Int)} {p : Array Nat} (ok : Ok1 L.length p) (ha : Asc (rankL L) p L.length) : p.toList.map (fun i => L.getD i []) = sortL L := by
  refine sortL_unique ?_ ?_
  · have h1 : p.toList.Perm (List.range L.length) := by simpa using Array.perm_iff_toList_perm.mp ok.perm
    have h2 := h1.map (fun i => L.getD i [])
    have h3 : (List.range L.length).map (fun i => L.getD i []) = L := by
      apply List.ext_getElem?
      intro i
      rcases Nat.lt_or_ge i L.length with h | h
      · simp [h]
      · simp [h]
    rwa [h3] at h2
  · rw [List.pairwise_iff_getElem]
    intro i j hi hj hij
    simp only [List.length_map, Array.length_toList, ok.size] at hi hj
    have hle := ha.le (Nat.le_of_lt hij) hj
    have gi : p.toList[i]'(by simp [ok.size, hi]) = p.getD i 0 := by simp [Array.getD, ok.size, hi]
    have gj : p.toList[j]'(by simp [ok.size, hj]) = p.getD j 0 := by simp [Array.getD, ok.size, hj]
    rw [List.getElem_map, List.getElem_map, gi, gj]
    unfold lexLe
    rw [rank_iff L (ok.lt hj) (ok.lt hi)]
    unfold ltR
    have : ¬ rankL L (p.getD j 0) < rankL L (p.getD i 0) := Nat.not_lt.mpr hle
    simp only [this, decide_false, Bool.not_false]
end Mine
end
section
set_option linter.unusedVariables false
set_option maxRecDepth 100000
namespace Mine
open PySem PySem.W PyProof.Rows PySem.Calls PySem.SeqAt
open MeetsSeq MeetsSeq2 MeetsSeq3 SeqRoads2
section
variable {prog : Program} {w : World} {A : Around} {E : Value → Shared → Prop} {s : Shared}
theorem oneLt_list {l b : Addr} {xs ys : List (Int × Tok)} {n n2 : Nat} {Q : Bool → Shared → Prop} (hu : A.units < cLine) (hl : s.heap.get? l = some { cls := .type "list", data := .seq (ivs xs).toArray n })
    (hb : s.heap.get? b = some { cls := .type "list", data := .seq (ivs ys).toArray n2 }) (h : Q (lexLt (inums xs) (inums ys)) s) : wpAny (model prog w) A (oneLt' true (.ref l) (.ref b)) Q E s := by
  rw [oneLt'_eq]
  simp only [if_true]
  refine wpAny_bind (wpAny_cRoomFor hu ?_)
  refine wpAny_bind (wpAny_callSpecialIfBound?_slot ⟨_, hl, rfl⟩ F.slot_list_lt (call_meets F.slot_list_lt ⟨_, hl, rfl⟩ F.entry_list_lt (F.args_list_lt_2 _ _) (list_ltI l b xs ys n n2) ⟨hl, hb, ?_⟩))
  exact wpAny_truthy_bool h
theorem wp_mapM {β : Type} {f : Value → Sem β} {g : Value → β} : ∀ (vs : List Value) {Q : List β → Shared → Prop}, (∀ v ∈ vs, ∀ Q' : β → Shared → Prop, Q' (g v) s → wpAny (model prog w) A (f v) Q' E s) → Q (vs.map g) s →
    wpAny (model prog w) A (vs.mapM f) Q E s
  | [], Q, _, h => by rw [List.mapM_nil]; exact wpAny_pure h
  | v :: vs, Q, hf, h => by
    rw [List.mapM_cons]
    refine wpAny_bind (hf v List.mem_cons_self _ (wpAny_bind (wp_mapM vs (fun u hu => hf u (List.mem_cons_of_mem _ hu)) (wpAny_pure h))))
theorem keyKind_lists {vs : List Value} {Q : SortKind → Shared → Prop} (hne : vs ≠ []) (hv : ∀ v ∈ vs, ∃ a o, v = .ref a ∧ s.heap.get? a = some o ∧ o.cls = .type "list") (h : Q oneType' s) : wpAny (model prog w) A (keyKind' vs.toArray) Q E s := by
  have f1 : ∀ v ∈ vs, ∀ Q' : Option Value → Shared → Prop, Q' none s → wpAny (model prog w) A (firstOfTuple' v) Q' E s := fun v hm Q' hq => by
    obtain ⟨a, o, rfl, ho, hc⟩ := hv v hm
    show wpAny _ _ (typeOf (.ref a) >>= fun t => _) _ _ _
    refine wpAny_bind (wpAny_typeOf (T := "list") ⟨o, ho, hc⟩ ?_)
    rw [if_pos (by decide)]
    exact wpAny_pure hq
  have f2 : ∀ v ∈ vs, ∀ Q' : Value → Shared → Prop, Q' (.type "list") s → wpAny (model prog w) A (typeOf v) Q' E s := fun v hm Q' hq => by
    obtain ⟨a, o, rfl, ho, hc⟩ := hv v hm
    exact wpAny_typeOf (T := "list") ⟨o, ho, hc⟩ hq
  rw [keyKind'_eq, List.mapM_toArray]
  refine wpAny_bind (wpAny_map (wp_mapM (g := fun _ => none) vs f1 ?_))
  obtain ⟨v, r, rfl⟩ := List.exists_cons_of_ne_nil hne
  rw [if_neg (by simp), if_neg (by simp)]
  rw [oneTypeOnly'_eq, List.mapM_toArray]
  refine wpAny_bind (wpAny_bind (wpAny_map (wp_mapM (g := fun _ => Value.type "list") _ f2 ?_)))
  have hall : ((List.map (fun _ => Value.type "list") (v :: r)).toArray.all fun x => x == Value.type "list") = true := by
    simp only [List.all_toArray, List.all_map, List.all_eq_true]
    intro _ _
    rfl
  have h0 : (List.map (fun _ => Value.type "list") (v :: r)).toArray[0]? = some (Value.type "list") := by simp
  rw [h0]
  simp only [hall, if_true]
  exact wpAny_pure (wpAny_pure h)
/-- what is kept by writing an address that is new -/
theorem same_up {h h' : Heap} {a : Addr} (hs : Heap.SameBut a h h') {h₀ : Heap} (k : Up h₀ h) (ha : h₀.get? a = none) : Up h₀ h' := fun b o e => hs.extBut b o (fun x => by subst x; rw [ha] at e; cases e) (k b o e)
theorem zip2 (vs : List Value) : ((vs.toArray.zip vs.toArray).map (·.2)) = ((List.range vs.length).map (fun i => vs.getD i Value.none)).toArray := by
  have h3 : (List.range vs.length).map (fun i => vs.getD i Value.none) = vs := by
    apply List.ext_getElem?
    intro i
    rcases Nat.lt_or_ge i vs.length with h | h
    · simp [h]
    · simp [h]
  rw [h3]
  apply Array.toList_inj.mp
  simp [List.map_snd_zip]
theorem sort_own {a : Addr} {vs : List Value} {n : Nat} {L : List (List Int)} {h₀ : Heap} {P : Fin → Shared → Prop} (ho : s.heap.get? a = some (seqObj "list" vs.toArray n)) (ha0 : h₀.get? a = none) (hup : Up h₀ s.heap)
    (hu : A.units < cLine) (hlen : vs.length = L.length) (hv : ∀ i, i < L.length → ∃ b f m, vs[i]? = some (.ref b) ∧ h₀.get? b = some { cls := .type "list", data := .seq (ivs f).toArray m } ∧ inums f = L.getD i []) (h64 : vs.length < 64)
    (h : ∀ (out : List Value) (is : List Nat) h' n', out = is.map (fun i => vs.getD i .none) → (∀ i ∈ is, i < L.length) → is.map (fun i => L.getD i []) = sortL L → Up h₀ h' → h'.get? a = some (seqObj "list" out.toArray n') → P (.done (.ret .none)) { s with heap := h' }) :
    wpAny (model prog w) A (Builtin.«list.sort» ⟨[.ref a], []⟩) P E s := by
  rw [list_sort_plain]
  have ha : a < s.heap.objs.size := Heap.lt_size ho
  refine wpAny_bind (listItems_at ho rfl ?_)
  refine wpAny_bind (listUpdate_at ho rfl ?_ (by rw [List.size_toArray, sizeLine_eq]; omega) (Nat.zero_le _))
  obtain ⟨e1, ho1⟩ : ∃ e1, (s.heap.update a (Obj.mapSeq fun _ => (#[] : Array Value))).get? a = some (seqObj "list" #[] e1) := ⟨_, get?_update_seq ho fun _ => #[]⟩
  refine wpAny_bind (seqEpoch_at ho1 rfl ?_)
  refine wpAny_bind (wpAny_newTuple ?_ (by show vs.length ≤ _; rw [sizeLine_eq]; omega))
  refine wpAny_bind (wpAny_newList ?_ (Nat.zero_le _))
  refine wpAny_holding ?_
  have up1 : Up h₀ (((s.heap.update a (Obj.mapSeq fun _ => (#[] : Array Value))).push (seqObj "tuple" vs.toArray 0)).push (seqObj "list" #[] 0)) := fun b o e =>
    Heap.get?_push_of_some _ (Heap.get?_push_of_some _ (same_up (Heap.SameBut.update s.heap a (Obj.mapSeq fun _ => (#[] : Array Value))) hup ha0 b o e))
  have ho3 : (((s.heap.update a (Obj.mapSeq fun _ => (#[] : Array Value))).push (seqObj "tuple" vs.toArray 0)).push (seqObj "list" #[] 0)).get? a = some (seqObj "list" #[] e1) := Heap.get?_push_of_some _ (Heap.get?_push_of_some _ ho1)
  show wpAny (model prog w) A _ P E { s with heap := ((s.heap.update a (Obj.mapSeq fun _ => (#[] : Array Value))).push (seqObj "tuple" vs.toArray 0)).push (seqObj "list" #[] 0) }
  dsimp only
  generalize (((s.heap.update a (Obj.mapSeq fun _ => (#[] : Array Value))).push (seqObj "tuple" vs.toArray 0)).push (seqObj "list" #[] 0)) = H at up1 ho3 ⊢
  -- the end, once the items stand in order
  have fin : ∀ (st' : SortSt) (is : List Nat), (arrOf st').map (·.2) = (is.map (fun i => vs.getD i Value.none)).toArray → is.length = vs.length → failedOf st' = none → (∀ i ∈ is, i < L.length) → is.map (fun i => L.getD i []) = sortL L →
      wpAny (model prog w) A (do
        let sorted := (arrOf st').map (·.2)
        let touched := (← seqEpoch a) != e1
        Builtin.List.listUpdate (.ref a) fun _ => sorted
        if let some e := failedOf st' then rule "list.sort.comparison-raised"; throw e
        if touched then rule "list.sort.modified"; raiseError "ValueError" "list modified during sort"
        ret .none) P E { s with heap := H } := fun st' is har hil hf hin hL => by
    dsimp only
    rw [har]
    have hsz : (List.toArray (is.map fun i => vs.getD i Value.none)).size = vs.length := by rw [List.size_toArray, List.length_map, hil]
    obtain ⟨c2, hc2⟩ : ∃ c2, (H.update a (Obj.mapSeq fun _ => List.toArray (is.map fun i => vs.getD i Value.none))).get? a = some (seqObj "list" (List.toArray (is.map fun i => vs.getD i Value.none)) c2) := ⟨_, get?_update_seq ho3 fun _ => List.toArray (is.map fun i => vs.getD i Value.none)⟩
    refine wpAny_bind (seqEpoch_at ho3 rfl ?_)
    refine wpAny_bind (listUpdate_at ho3 rfl ?_ (Nat.zero_le _) (Nat.le_trans (Nat.le_of_eq hsz) (by rw [sizeLine_eq]; omega)))
    rw [hf]
    simp only [bne_self_eq_false, Bool.false_eq_true, if_false]
    exact wpAny_pure (h _ is _ c2 rfl hin hL (same_up (Heap.SameBut.update H a _) up1 ha0) hc2)
  by_cases hn2 : vs.toArray.size < 2
  · rw [if_pos hn2, if_pos hn2]
    refine wpAny_bind (wpAny_pure ?_)
    refine wpAny_bind (m := (pure () : StateT SortSt Sem Unit).run _) ?_
    rw [StateT.run_pure]
    refine wpAny_pure ?_
    have hl2 : L.length < 2 := by rw [← hlen]; simpa using hn2
    refine fin _ (List.range vs.length) ?_ (by simp) rfl (fun i hi => by rw [← hlen]; simpa using hi) ?_
    · show ((vs.toArray.zip vs.toArray).map (·.2)) = _
      exact zip2 vs
    · rw [hlen]
      match L, hl2 with
      | [], _ => simp [sortL]
      | [x], _ => simp [sortL, List.range_succ]
  · rw [if_neg hn2, if_neg hn2]
    have h2 : 2 ≤ vs.length := by simp at hn2; omega
    refine wpAny_bind (keyKind_lists (by intro e; rw [e] at h2; simp at h2) (fun v hm => ?_) ?_)
    · obtain ⟨i, hi, rfl⟩ := List.mem_iff_getElem.mp hm
      obtain ⟨b, f, m, hb, hg, _⟩ := hv i (by rw [← hlen]; exact hi)
      rw [List.getElem?_eq_getElem hi] at hb
      exact ⟨b, _, Option.some.inj hb, up1 _ _ hg, rfl⟩
    refine wpAny_bind (wpAny_mono (kat_run (ks := vs) (vs := vs) (Q := fun st' s' => ∃ p : Array Nat, s' = { s with heap := H } ∧ arrOf st' = p.map (kas_item (vs.toArray.zip vs.toArray)) ∧ failedOf st' = none ∧ Ok1 L.length p ∧ Asc (rankL L) p L.length)
      (G := fun p s' => s' = { s with heap := H } ∧ Ok1 L.length p ∧ Asc (rankL L) p L.length) rfl h2 h64 (fun p' st' s' a1 a2 a3 a4 => ⟨p', a4.1, a2, a3, a4.2⟩) ?_) ?_ fun _ _ e => e)
    · refine kas_of_gd (lt := ltR (rankL L)) (fun i j hi hj C hC => ?_) (fun p hp => ⟨rfl, hp⟩) (by rw [hlen]; exact gd_sort (by omega))
      obtain ⟨b, f, m, hb, hg, hf⟩ := hv i hi
      obtain ⟨b', f', m', hb', hg', hf'⟩ := hv j hj
      unfold kas_ask
      have e1 : vs.getD i Value.none = .ref b := by rw [List.getD_eq_getElem?_getD, hb]; rfl
      have e2 : vs.getD j Value.none = .ref b' := by rw [List.getD_eq_getElem?_getD, hb']; rfl
      rw [e1, e2, keyLt'_oneType]
      refine oneLt_list hu (up1 _ _ hg) (up1 _ _ hg') ?_
      rw [hf, hf', rank_iff L hi hj]; exact hC
    · rintro ⟨⟨⟩, st'⟩ s' ⟨p, rfl, har, hf, ok, ha⟩
      have hin : ∀ i ∈ p.toList, i < L.length := fun i hi => by
        obtain ⟨k, hk, rfl⟩ := List.mem_iff_getElem.mp hi
        have hk' : k < L.length := by simpa [ok.size] using hk
        have := ok.lt hk'
        have e : p.getD k 0 = p.toList[k] := by simp [Array.getD, ok.size, hk']
        rw [← e]; exact this
      exact fin st' p.toList (kat_snds rfl har) (by simp [ok.size, hlen]) hf hin (perm_sorted ok ha)
theorem Rd.intList {X : Addr → Prop} {h : Heap} {v : Value} {l : List Int} (r : Rd X h v (.list (l.map .int))) : ∃ b f m, v = .ref b ∧ h.get? b = some { cls := .type "list", data := .seq (ivs f).toArray m } ∧ inums f = l := by
  cases r with
  | @list b vs _ p n r =>
    obtain ⟨f, rfl, hf⟩ := Rds.ints r
    obtain ⟨m, e⟩ := p
    exact ⟨b, f, m, rfl, e, hf.symm⟩
end
theorem f_sorted {T : Heap → Prop} {prog : Program} {w : World} {k : Nat} (L : List (List Int)) (h64 : L.length < 64) : Fn T prog w k (.builtin "sorted") [.list (L.map fun l => .list (l.map .int))] (.list ((sortL L).map fun l => .list (l.map .int))) := fun X A s E us ok ht al hr => by
  cases hr with
  | cons h1 r =>
  cases r
  cases h1 with
  | @list l vs _ pl nX r =>
  have hlen : vs.length = L.length := by have := r.length; simpa using this
  have hh : ∀ i, i < L.length → ∃ b f m, vs[i]? = some (.ref b) ∧ s.heap.get? b = some { cls := .type "list", data := .seq (ivs f).toArray m } ∧ inums f = L.getD i [] := fun i hi => by
    have e : (L.map fun l => D.list (l.map .int))[i]? = some (.list ((L.getD i []).map .int)) := by simp [hi]
    obtain ⟨v, hv, hrv⟩ := r.at' e
    obtain ⟨b, f, m, rfl, hb, hf⟩ := hrv.intList
    exact ⟨b, f, m, hv, hb, hf⟩
  have hrd : ∀ i, i < L.length → Rd X s.heap (vs.getD i .none) (.list ((L.getD i []).map .int)) := fun i hi => by
    have e : (L.map fun l => D.list (l.map .int))[i]? = some (.list ((L.getD i []).map .int)) := by simp [hi]
    obtain ⟨v, hv, hrv⟩ := r.at' e
    rw [List.getD_eq_getElem?_getD, hv]; exact hrv
  refine Calls.call_function_entry kind_sorted plain_sorted entry_sorted (args_sorted1 _) ?_
  unfold Builtin.«sorted»
  refine wpAny_bind (m := checkCount "sorted" 1 1 _) (wpAny_pure ?_)
  refine wpAny_bind (collect_list pl.isList ?_ (by rw [sizeLine_eq]; omega))
  refine wpAny_bind (wpAny_newList ?_ (by rw [sizeLine_eq]; omega))
  have hsz : ((s.heap.push (seqObj "list" #[] 0)).update s.heap.objs.size (Obj.mapSeq (· ++ vs.toArray))).objs.size = s.heap.objs.size + 1 := by
    rw [Heap.size_update, size_push']
  have hoL : (((s.heap.push (seqObj "list" #[] 0)).update s.heap.objs.size (Obj.mapSeq (· ++ vs.toArray))).push (seqObj "list" vs.toArray 0)).get? (s.heap.objs.size + 1) = some (seqObj "list" vs.toArray 0) := by
    rw [← hsz]; exact Heap.get?_push_size _ rfl
  have keep : Up s.heap (((s.heap.push (seqObj "list" #[] 0)).update s.heap.objs.size (Obj.mapSeq (· ++ vs.toArray))).push (seqObj "list" vs.toArray 0)) := fun b o q => by
    have hlt : b < s.heap.objs.size := Heap.lt_size q
    rw [Heap.get?_push_ne _ _ _ (by rw [hsz]; exact Nat.ne_of_lt (Nat.lt_succ_of_lt hlt)), Heap.get?_update_ne _ _ _ _ (Nat.ne_of_lt hlt), Heap.get?_push_ne _ _ _ (Nat.ne_of_lt hlt)]
    exact q
  have dead : s.heap.get? (s.heap.objs.size + 1) = none := Heap.get?_none_of_le (Nat.le_succ _)
  show wpAny _ _ _ _ _ { s with heap := ((s.heap.push (seqObj "list" #[] 0)).update s.heap.objs.size (Obj.mapSeq (· ++ vs.toArray))).push (seqObj "list" vs.toArray 0) }
  rw [hsz]
  refine wpAny_bind (wpAny_holding (wpAny_call_entry slot_list_sort ⟨_, hoL, rfl⟩ entry_list_sort ?body (args_list_sort _)))
  case body =>
    refine sort_own (L := L) (h₀ := s.heap) hoL dead keep (by have := ok.un; show A.units + 1 + 1 < 9900; omega) hlen hh (by omega) fun out is h' n' hout hin hL up hD => ?_
    refine ⟨_, rfl, wpAny_pure ⟨_, rfl, ⟨⟨h', s.toks, rfl, up⟩, ?_⟩⟩⟩
    refine .list ⟨n', hD⟩ (fun x => ?_) ?_
    · obtain ⟨o, e⟩ := al _ x
      rw [dead] at e; cases e
    · rw [← hL, hout, List.map_map]
      clear hL hout hD
      induction is with
      | nil => exact .nil
      | cons i is ih => exact .cons ((hrd i (hin i List.mem_cons_self)).up up) (ih fun j hj => hin j (List.mem_cons_of_mem _ hj))
end Mine
end
section
set_option linter.unusedVariables false
namespace Mine
/-- the place told by the counts -/
noncomputable def reck (last : List Int) (symbol : Int) (place : Nat) : Nat := (last.filter (· < symbol)).length + ((last.take place).filter (· == symbol)).length
noncomputable def fig (n : Int) : List Int := (([256, 16, 1] : List Int).filter (fun w => decide (w ≤ n))).map (fun w => 256 + n / w % 16)
/-- what is read backwards along a path of places -/
noncomputable def backA (last : List Int) (pl : Nat → Nat) : Nat → List Int
  | 0 => []
  | i + 1 => last.getD (pl i) 0 :: backA last pl i
theorem backA_len (last : List Int) (pl : Nat → Nat) : ∀ i, (backA last pl i).length = i
  | 0 => rfl
  | i + 1 => by simp [backA, backA_len last pl i]
/-- the text from a place to the line's end, then the whole line, then the symbol ahead -/
noncomputable def turnOf (r : List Int) (k : Nat) : List Int := r.drop k ++ r ++ [if k = 0 then r.getD (r.length - 1) 0 else r.getD (k - 1) 0]
noncomputable def turnsOf (rings : List (List Int)) : List (List Int) := rings.flatMap fun r => (List.range r.length).map (turnOf r)
noncomputable def lastOf (rings : List (List Int)) : List Int := (sortL (turnsOf rings)).map fun t => t.getD (t.length - 1) 0
end Mine
end
section
set_option linter.unusedVariables false
set_option linter.unusedSimpArgs false
namespace Mine
theorem cmp0 : ∀ (u v X Y : List Int), (∀ x ∈ u, 0 < x) → (∀ x ∈ v, 0 < x) → lexLt (u ++ 0 :: X) (v ++ 0 :: Y) = (lexLt u v || (decide (u = v) && lexLt X Y))
  | [], [], X, Y, _, _ => by simp [lexLt]
  | [], y :: v, X, Y, _, hv => by
    have h := hv y List.mem_cons_self
    have h0 : ¬ (0 : Int) = y := by omega
    simp [lexLt, h0, h]
  | x :: u, [], X, Y, hu, _ => by
    have h := hu x List.mem_cons_self
    have h0 : ¬ x = 0 := by omega
    have h1 : ¬ x < 0 := by omega
    simp [lexLt, h0, h1]
  | x :: u, y :: v, X, Y, hu, hv => by
    have ih := cmp0 u v X Y (fun a ha => hu a (List.mem_cons_of_mem _ ha)) (fun a ha => hv a (List.mem_cons_of_mem _ ha))
    by_cases e : x = y
    · subst e; simp [lexLt, ih]
    · simp [lexLt, e]
theorem take_filter {α : Type} {q : α → Bool} : ∀ {l : List α}, l.Pairwise (fun a b => q b = true → q a = true) → l.take (l.countP q) = l.filter q ∧ l.drop (l.countP q) = l.filter (fun a => !q a)
  | [], _ => by simp
  | a :: l, h => by
    rw [List.pairwise_cons] at h
    cases e : q a with
    | true =>
      obtain ⟨h1, h2⟩ := take_filter h.2
      rw [List.countP_cons_of_pos e, List.filter_cons_of_pos e, List.filter_cons_of_neg (by simp [e])]
      exact ⟨by rw [List.take_succ_cons, h1], by rw [List.drop_succ_cons, h2]⟩
    | false =>
      have hn : ∀ b ∈ l, q b = false := fun b hb => by
        cases eb : q b with
        | false => rfl
        | true => have := h.1 b hb eb; rw [e] at this; cases this
      have h0 : (a :: l).countP q = 0 := by
        rw [List.countP_eq_zero]
        intro b hb
        rcases List.mem_cons.mp hb with rfl | hb
        · simp [e]
        · simp [hn b hb]
      rw [h0, List.take_zero, List.drop_zero]
      refine ⟨?_, ?_⟩
      · symm; rw [List.filter_eq_nil_iff]; intro b hb
        rcases List.mem_cons.mp hb with rfl | hb
        · simp [e]
        · simp [hn b hb]
      · symm; rw [List.filter_eq_self]; intro b hb
        rcases List.mem_cons.mp hb with rfl | hb
        · simp [e]
        · simp [hn b hb]
theorem perm_of_nodup_sub {α : Type} [DecidableEq α] : ∀ {A B : List α}, A.Nodup → (∀ a ∈ A, a ∈ B) → B.length ≤ A.length → A.Perm B
  | [], B, _, _, hl => by
    have : B = [] := List.eq_nil_of_length_eq_zero (by simpa using hl)
    subst this; exact .nil
  | a :: A, B, hn, hs, hl => by
    rw [List.nodup_cons] at hn
    have ha := hs a List.mem_cons_self
    have hp := List.perm_cons_erase ha
    refine (List.Perm.cons a (perm_of_nodup_sub hn.2 (fun b hb => ?_) ?_)).trans hp.symm
    · have hne : b ≠ a := fun e => hn.1 (e ▸ hb)
      exact (List.mem_erase_of_ne hne).mpr (hs b (List.mem_cons_of_mem _ hb))
    · have := hp.length_eq
      simp only [List.length_cons] at this hl; omega
theorem countP_at {α : Type} {lt : α → α → Bool} (irr : ∀ a, lt a a = false) (asy : ∀ a b, lt a b = true → lt b a = false) : ∀ {l : List α}, l.Pairwise (fun a b => lt a b = true) → ∀ {p : Nat} {a : α}, l[p]? = some a → l.countP (fun b => lt b a) = p
  | [], _, p, a, h => by simp at h
  | b :: l, hp, 0, a, h => by
    simp at h; subst h
    rw [List.pairwise_cons] at hp
    rw [List.countP_eq_zero]
    intro c hc
    rcases List.mem_cons.mp hc with rfl | hc
    · simp [irr]
    · simp [asy _ _ (hp.1 c hc)]
  | b :: l, hp, p + 1, a, h => by
    rw [List.pairwise_cons] at hp
    simp at h
    have := hp.1 a (List.mem_of_getElem? h)
    rw [List.countP_cons_of_pos (p := fun b => lt b a) this, countP_at irr asy hp.2 h]
theorem at_ix {α : Type} {lt : α → α → Bool} (irr : ∀ a, lt a a = false) (asy : ∀ a b, lt a b = true → lt b a = false) {l : List α} (hp : l.Pairwise (fun a b => lt a b = true)) {a : α} (h : a ∈ l) : l[l.countP (fun b => lt b a)]? = some a := by
  obtain ⟨p, hp'⟩ := List.getElem?_of_mem h
  rw [countP_at irr asy hp hp']; exact hp'
theorem countP_or {α : Type} {f g : α → Bool} : ∀ {l : List α}, (∀ a ∈ l, f a = true → g a = false) → l.countP f + l.countP g = l.countP (fun a => f a || g a)
  | [], _ => rfl
  | a :: l, h => by
    have ih := countP_or (f := f) (g := g) fun b hb => h b (List.mem_cons_of_mem _ hb)
    have h0 := h a List.mem_cons_self
    simp only [List.countP_cons]
    cases hf : f a <;> cases hg : g a <;> simp [hf, hg] at h0 ⊢ <;> omega
/-- the counts told by a row of symbols, up to where a closed property ends -/
theorem reck_gen {α : Type} {PS : List α} {pre : α → Int} {q : α → Bool} (c : Int) (hq : PS.Pairwise (fun a b => q b = true → q a = true)) :
    reck (PS.map pre) c (PS.countP q) = PS.countP (fun b => decide (pre b < c) || (pre b == c && q b)) := by
  unfold reck
  rw [← List.countP_eq_length_filter, ← List.countP_eq_length_filter, ← List.map_take, (take_filter hq).1, List.countP_map, List.countP_map, List.countP_filter, ← countP_or]
  · rfl
  · intro a _ h
    have h : pre a < c := by simpa using h
    have : ¬ pre a = c := by omega
    simp [this]
noncomputable def suf (Ls : List (List Int)) (a : Nat × Nat) : List Int := (Ls.getD a.1 []).drop a.2
noncomputable def ky (Ls : List (List Int)) (a : Nat × Nat) : List Int := suf Ls a ++ 0 :: [(a.1 : Int)]
noncomputable def prs (Ls : List (List Int)) : List (Nat × Nat) := (List.range Ls.length).flatMap fun j => (List.range ((Ls.getD j []).length + 1)).map fun k => (j, k)
noncomputable def PSl (Ls : List (List Int)) : List (Nat × Nat) := (prs Ls).mergeSort fun a b => lexLe (ky Ls a) (ky Ls b)
noncomputable def bk (Ls : List (List Int)) (a : Nat × Nat) : Nat × Nat := if a.2 = 0 then (a.1, (Ls.getD a.1 []).length) else (a.1, a.2 - 1)
noncomputable def pre (Ls : List (List Int)) (a : Nat × Nat) : Int := if a.2 = 0 then 0 else (Ls.getD a.1 []).getD (a.2 - 1) 0
noncomputable def ix (Ls : List (List Int)) (a : Nat × Nat) : Nat := (PSl Ls).countP fun b => lexLt (ky Ls b) (ky Ls a)
structure LsOk (Ls : List (List Int)) : Prop where
  pos : ∀ l ∈ Ls, ∀ x ∈ l, (0 : Int) < x
  sorted : Ls.Pairwise fun a b => lexLe a b = true
theorem mem_prs {Ls : List (List Int)} {a : Nat × Nat} : a ∈ prs Ls ↔ a.1 < Ls.length ∧ a.2 ≤ (Ls.getD a.1 []).length := by
  obtain ⟨j, k⟩ := a
  unfold prs
  simp only [List.mem_flatMap, List.mem_map, List.mem_range, Prod.mk.injEq]
  constructor
  · rintro ⟨j', h1, k', h2, rfl, rfl⟩; exact ⟨h1, by omega⟩
  · rintro ⟨h1, h2⟩; exact ⟨j, h1, k, by omega, rfl, rfl⟩
theorem prs_nodup (Ls : List (List Int)) : (prs Ls).Nodup := by
  unfold prs List.Nodup
  rw [List.pairwise_flatMap]
  refine ⟨fun j _ => ?_, ?_⟩
  · rw [List.pairwise_map]
    exact (List.nodup_range).imp fun h e => h (Prod.mk.inj e).2
  · refine (List.nodup_range).imp fun {i j} h x hx y hy e => ?_
    simp only [List.mem_map] at hx hy
    obtain ⟨_, _, rfl⟩ := hx
    obtain ⟨_, _, rfl⟩ := hy
    exact h (Prod.mk.inj e).1
section
variable {Ls : List (List Int)}
theorem LsOk.posD (ok : LsOk Ls) (j : Nat) : ∀ x ∈ Ls.getD j [], (0 : Int) < x := by
  intro x hx
  rw [List.getD_eq_getElem?_getD] at hx
  cases e : Ls[j]? with
  | none => rw [e] at hx; cases hx
  | some l => rw [e] at hx; exact ok.pos l (List.mem_of_getElem? e) x hx
theorem LsOk.posS (ok : LsOk Ls) (a : Nat × Nat) : ∀ x ∈ suf Ls a, (0 : Int) < x := fun x hx => ok.posD a.1 x (List.mem_of_mem_drop hx)
theorem ky_lt (ok : LsOk Ls) (a b : Nat × Nat) : lexLt (ky Ls a) (ky Ls b) = (lexLt (suf Ls a) (suf Ls b) || (decide (suf Ls a = suf Ls b) && decide (a.1 < b.1))) := by
  unfold ky
  rw [cmp0 _ _ _ _ (ok.posS a) (ok.posS b)]
  congr 2
  by_cases e : a.1 = b.1
  · simp [lexLt, e]
  · have : ¬ (a.1 : Int) = b.1 := by omega
    simp [lexLt, this]
theorem ky_inj {a b : Nat × Nat} (ha : a ∈ prs Ls) (hb : b ∈ prs Ls) (h : ky Ls a = ky Ls b) : a = b := by
  unfold ky at h
  obtain ⟨h1, h2⟩ := List.append_inj' h rfl
  have e1 : a.1 = b.1 := by simp at h2; omega
  have l1 := congrArg List.length h1
  unfold suf at l1
  rw [List.length_drop, List.length_drop, e1] at l1
  have m1 := (mem_prs.mp ha).2
  have m2 := (mem_prs.mp hb).2
  rw [e1] at m1
  obtain ⟨a1, a2⟩ := a
  obtain ⟨b1, b2⟩ := b
  simp only at e1 l1 m1 m2
  subst e1
  congr 1; omega
theorem PS_perm (Ls : List (List Int)) : (PSl Ls).Perm (prs Ls) := List.mergeSort_perm _ _
theorem PS_mem {a : Nat × Nat} : a ∈ PSl Ls ↔ a ∈ prs Ls := (PS_perm Ls).mem_iff
theorem PS_strict (Ls : List (List Int)) : (PSl Ls).Pairwise fun a b => lexLt (ky Ls a) (ky Ls b) = true := by
  have h1 : (PSl Ls).Pairwise fun a b => lexLe (ky Ls a) (ky Ls b) = true := List.pairwise_mergeSort (le := fun a b => lexLe (ky Ls a) (ky Ls b)) (fun a b c => lexLe_trans _ _ _) (fun a b => lexLe_total _ _) (prs Ls)
  have h2 : (PSl Ls).Nodup := (PS_perm Ls).nodup_iff.mpr (prs_nodup Ls)
  refine (h1.and h2).imp_of_mem fun {a b} ha hb h => ?_
  cases e : lexLt (ky Ls a) (ky Ls b) with
  | true => rfl
  | false =>
    have h3 := h.1
    unfold lexLe at h3
    exact absurd (ky_inj (PS_mem.mp ha) (PS_mem.mp hb) (lexLt_tri e (by simpa using h3))) h.2
theorem ix_at {p : Nat} {a : Nat × Nat} (h : (PSl Ls)[p]? = some a) : ix Ls a = p :=
  countP_at (lt := fun a b => lexLt (ky Ls a) (ky Ls b)) (fun _ => lexLt_irrefl _) (fun _ _ h => lexLt_asymm h) (PS_strict Ls) h
theorem at_ixP {a : Nat × Nat} (h : a ∈ prs Ls) : (PSl Ls)[ix Ls a]? = some a :=
  at_ix (lt := fun a b => lexLt (ky Ls a) (ky Ls b)) (fun _ => lexLt_irrefl _) (fun _ _ h => lexLt_asymm h) (PS_strict Ls) (PS_mem.mpr h)
theorem ix_lt {a : Nat × Nat} (h : a ∈ prs Ls) : ix Ls a < (PSl Ls).length := (List.getElem?_eq_some_iff.mp (at_ixP h)).1
theorem bk_mem {a : Nat × Nat} (h : a ∈ prs Ls) : bk Ls a ∈ prs Ls := by
  rw [mem_prs] at h ⊢
  unfold bk
  split
  · exact ⟨h.1, Nat.le_refl _⟩
  · exact ⟨h.1, by simp only; omega⟩
theorem bk_inj {a b : Nat × Nat} (ha : a ∈ prs Ls) (hb : b ∈ prs Ls) (h : bk Ls a = bk Ls b) : a = b := by
  rw [mem_prs] at ha hb
  obtain ⟨a1, a2⟩ := a
  obtain ⟨b1, b2⟩ := b
  unfold bk at h
  simp only at h ha hb
  split at h <;> split at h <;> obtain ⟨rfl, h2⟩ := Prod.mk.inj h <;> congr 1 <;> omega
theorem bk_perm (Ls : List (List Int)) : ((PSl Ls).map (bk Ls)).Perm (PSl Ls) := by
  refine perm_of_nodup_sub ?_ (fun a ha => ?_) (by simp)
  · unfold List.Nodup
    rw [List.pairwise_map]
    have h2 : (PSl Ls).Nodup := (PS_perm Ls).nodup_iff.mpr (prs_nodup Ls)
    exact List.Pairwise.imp_of_mem (fun {a b} ha hb h e => h (bk_inj (PS_mem.mp ha) (PS_mem.mp hb) e)) h2
  · obtain ⟨b, hb, rfl⟩ := List.mem_map.mp ha
    exact PS_mem.mpr (bk_mem (PS_mem.mp hb))
theorem countP_bk (f : Nat × Nat → Bool) : (PSl Ls).countP (fun b => f (bk Ls b)) = (PSl Ls).countP f := by
  rw [← (bk_perm Ls).countP_eq f, List.countP_map]; rfl
/-- one step back puts the symbol ahead in front -/
theorem bk_succ (ok : LsOk Ls) {a : Nat × Nat} (ha : a ∈ prs Ls) (h : a.2 ≠ 0) : suf Ls (bk Ls a) = pre Ls a :: suf Ls a ∧ (bk Ls a).1 = a.1 ∧ 0 < pre Ls a := by
  have hm := (mem_prs.mp ha).2
  have hlt : a.2 - 1 < (Ls.getD a.1 []).length := by omega
  have e1 : pre Ls a = (Ls.getD a.1 [])[a.2 - 1] := by unfold pre; rw [if_neg h, List.getD_eq_getElem?_getD, List.getElem?_eq_getElem hlt]; rfl
  refine ⟨?_, ?_, ?_⟩
  · unfold bk suf
    rw [if_neg h]
    simp only
    rw [List.drop_eq_getElem_cons hlt, e1]
    congr 2; omega
  · unfold bk; rw [if_neg h]
  · rw [e1]; exact ok.posD a.1 _ (List.getElem_mem _)
theorem bk_zero {a : Nat × Nat} (h : a.2 = 0) : suf Ls (bk Ls a) = [] ∧ (bk Ls a).1 = a.1 ∧ pre Ls a = 0 := by
  refine ⟨?_, ?_, ?_⟩
  · unfold bk suf; rw [if_pos h]; simp
  · unfold bk; rw [if_pos h]
  · unfold pre; rw [if_pos h]
theorem sorted_lt (ok : LsOk Ls) {i j : Nat} (hi : i < Ls.length) (hj : j < Ls.length) (h : i < j) : lexLe (Ls.getD i []) (Ls.getD j []) = true := by
  have := List.pairwise_iff_getElem.mp ok.sorted i j hi hj h
  rw [List.getD_eq_getElem?_getD, List.getD_eq_getElem?_getD, List.getElem?_eq_getElem hi, List.getElem?_eq_getElem hj]; exact this
theorem ky_bk (ok : LsOk Ls) {a b : Nat × Nat} (ha : a ∈ prs Ls) (hb : b ∈ prs Ls) :
    lexLt (ky Ls (bk Ls b)) (ky Ls (bk Ls a)) = (decide (pre Ls b < pre Ls a) || (pre Ls b == pre Ls a && lexLt (ky Ls b) (ky Ls a))) := by
  by_cases za : a.2 = 0 <;> by_cases zb : b.2 = 0
  · obtain ⟨a1, a2, a3⟩ := bk_zero (Ls := Ls) za
    obtain ⟨b1, b2, b3⟩ := bk_zero (Ls := Ls) zb
    rw [ky_lt ok, a1, a2, b1, b2, a3, b3, ky_lt ok]
    have sa : suf Ls a = Ls.getD a.1 [] := by unfold suf; rw [za]; rfl
    have sb : suf Ls b = Ls.getD b.1 [] := by unfold suf; rw [zb]; rfl
    rw [sa, sb]
    have ma := (mem_prs.mp ha).1
    have mb := (mem_prs.mp hb).1
    simp only [lexLt_irrefl, Bool.false_or, decide_true, Bool.true_and, Int.lt_irrefl, decide_false, beq_self_eq_true]
    rcases Nat.lt_trichotomy b.1 a.1 with h | h | h
    · have hle := sorted_lt ok mb ma h
      unfold lexLe at hle
      rw [decide_eq_true h]
      cases e : lexLt (Ls.getD b.1 []) (Ls.getD a.1 []) with
      | true => rfl
      | false => rw [lexLt_tri e (by simpa using hle)]; simp
    · rw [h, lexLt_irrefl]; simp
    · have hle := sorted_lt ok ma mb h
      unfold lexLe at hle
      have hle : lexLt (Ls.getD b.1 []) (Ls.getD a.1 []) = false := by simpa using hle
      rw [decide_eq_false (by omega), hle]; simp
  · obtain ⟨a1, a2, a3⟩ := bk_zero (Ls := Ls) za
    obtain ⟨b1, b2, b3⟩ := bk_succ ok hb zb
    have e1 : ¬ pre Ls b < 0 := by omega
    have e2 : ¬ pre Ls b = 0 := by omega
    unfold ky
    rw [a1, b1, a3]
    simp [lexLt, e1, e2]
  · obtain ⟨b1, b2, b3⟩ := bk_zero (Ls := Ls) zb
    obtain ⟨a1, a2, a3⟩ := bk_succ ok ha za
    have e2 : ¬ 0 = pre Ls a := by omega
    unfold ky
    rw [a1, b1, b3]
    simp [lexLt, a3, e2]
  · obtain ⟨b1, b2, b3⟩ := bk_succ ok hb zb
    obtain ⟨a1, a2, a3⟩ := bk_succ ok ha za
    unfold ky
    rw [a1, a2, b1, b2]
    by_cases e : pre Ls b = pre Ls a
    · simp [lexLt, e]
    · simp [lexLt, e]
/-- Burrows and Wheeler's step -/
theorem reck_ix (ok : LsOk Ls) {a : Nat × Nat} (ha : a ∈ prs Ls) : reck ((PSl Ls).map (pre Ls)) (pre Ls a) (ix Ls a) = ix Ls (bk Ls a) := by
  unfold ix
  rw [reck_gen]
  · rw [← countP_bk (fun b => lexLt (ky Ls b) (ky Ls (bk Ls a)))]
    refine List.countP_congr fun b hb => ?_
    rw [ky_bk ok ha (PS_mem.mp hb)]
  · exact (PS_strict Ls).imp fun h1 h2 => lexLt_trans h1 h2
end
end Mine
end
section
set_option linter.unusedVariables false
set_option linter.unusedSimpArgs false
namespace Mine
noncomputable def turn (Ls : List (List Int)) (a : Nat × Nat) : List Int := suf Ls a ++ 0 :: (Ls.getD a.1 [] ++ 0 :: [pre Ls a])
noncomputable def stepsOf (last : List Int) : List Int := (List.range last.length).map fun p => ((reck last (last.getD p 0) p : Nat) : Int)
noncomputable def PathOk (last steps : List Int) (p N j : Nat) (ah : List Int) : Prop :=
  ∃ pl : Nat → Nat, pl 0 = p ∧ (∀ i, i ≤ N → pl i < last.length) ∧ (∀ i, i < N → steps.getD (pl i) 0 = (pl (i + 1) : Nat)) ∧ (∀ i, i < N → last.getD (pl i) 0 ≠ 0) ∧ last.getD (pl N) 0 = 0 ∧ steps.getD (pl N) 0 = (j : Nat) ∧ backA last pl N = ah
noncomputable def bnd (last : List Int) : List Int → Nat × Nat
  | [] => (0, last.length)
  | c :: w => (reck last c (bnd last w).1, reck last c (bnd last w).2)
noncomputable def due1 (Ls : List (List Int)) (w : List Int) : List (List Int) :=
  (List.range Ls.length).flatMap fun i => ((List.range (Ls.getD i []).length).filter fun k => (((Ls.getD i []).drop k).take w.length == w)).map fun (k : Nat) => [(i : Int), (k : Int)]
theorem getD_map0 {α : Type} {f : α → Int} {l : List α} {p : Nat} {a : α} (h : l[p]? = some a) : (l.map f).getD p 0 = f a := by
  rw [List.getD_eq_getElem?_getD, List.getElem?_map, h]; rfl
theorem length_le_of_nodup_sub {α : Type} [DecidableEq α] : ∀ {A B : List α}, A.Nodup → (∀ a ∈ A, a ∈ B) → A.length ≤ B.length
  | [], B, _, _ => Nat.zero_le _
  | a :: A, B, hn, hs => by
    rw [List.nodup_cons] at hn
    have ha := hs a List.mem_cons_self
    have := length_le_of_nodup_sub (B := B.erase a) hn.2 fun b hb => (List.mem_erase_of_ne (fun e : b = a => hn.1 (e ▸ hb))).mpr (hs b (List.mem_cons_of_mem _ hb))
    have h2 := (List.perm_cons_erase ha).length_eq
    simp only [List.length_cons] at h2 ⊢; omega
noncomputable def below (β : Bool) : List Int → List Int → Bool
  | [], _ => β
  | _ :: _, [] => true
  | c :: w, x :: t => decide (x < c) || (x == c && below β w t)
theorem below_mono {β : Bool} : ∀ {w t t' : List Int}, lexLe t t' = true → below β w t' = true → below β w t = true
  | [], _, _, _, h => h
  | _ :: _, [], _, _, _ => rfl
  | c :: w, x :: t, [], h, _ => by cases h
  | c :: w, x :: t, y :: t', h, hb => by
    unfold lexLe lexLt at h
    unfold below at hb ⊢
    by_cases e : y = x
    · subst e
      rw [if_pos rfl] at h
      have ih := below_mono (β := β) (w := w) (t := t) (t' := t') h
      cases hx : below β w t' <;> simp [hx] at hb ih ⊢
      · exact .inl hb
      · rcases hb with hb | hb
        · exact .inl hb
        · exact .inr ⟨hb, ih⟩
    · rw [if_neg e] at h
      have h : ¬ y < x := by simpa using h
      simp only [Bool.or_eq_true, decide_eq_true_eq, Bool.and_eq_true, beq_iff_eq] at hb ⊢
      left
      rcases hb with hb | hb <;> omega
theorem below_pref : ∀ w t : List Int, (below true w t && !below false w t) = w.isPrefixOf t
  | [], t => by simp [below]
  | c :: w, [] => by simp [below]
  | c :: w, x :: t => by
    have ih := below_pref w t
    unfold below
    rw [List.isPrefixOf_cons_cons, ← ih]
    rcases Int.lt_trichotomy x c with h | h | h
    · have : ¬ c = x := by omega
      simp [h, this]
    · subst h; simp
    · have e1 : ¬ c = x := by omega
      have e2 : ¬ x < c := by omega
      have e3 : (x == c) = false := by rw [beq_eq_false_iff_ne]; omega
      have e4 : (c == x) = false := by rw [beq_eq_false_iff_ne]; omega
      rw [e3, e4, decide_eq_false e2]; rfl
theorem below_ft : ∀ w t : List Int, below false w t = true → below true w t = true
  | [], t, h => by cases h
  | c :: w, [], h => rfl
  | c :: w, x :: t, h => by
    have ih := below_ft w t
    unfold below at h ⊢
    simp only [Bool.or_eq_true, Bool.and_eq_true] at h ⊢
    rcases h with h | ⟨h1, h2⟩
    · exact .inl h
    · exact .inr ⟨h1, ih h2⟩
theorem pref0 : ∀ w t : List Int, (∀ x ∈ w, 0 < x) → w.isPrefixOf (t ++ [0]) = w.isPrefixOf t
  | [], t, _ => by simp
  | c :: w, [], h => by
    have := h c List.mem_cons_self
    have e : ¬ c = 0 := by omega
    simp [List.isPrefixOf_cons_cons, e]
  | c :: w, x :: t, h => by
    rw [List.cons_append, List.isPrefixOf_cons_cons, List.isPrefixOf_cons_cons, pref0 w t fun y hy => h y (List.mem_cons_of_mem _ hy)]
theorem take_pref : ∀ w t : List Int, (t.take w.length == w) = w.isPrefixOf t
  | [], t => by simp
  | c :: w, [] => by simp
  | c :: w, x :: t => by
    rw [List.isPrefixOf_cons_cons, ← take_pref w t, List.length_cons, List.take_succ_cons]
    show (x == c && _) = _
    rw [Bool.beq_comm]
    rfl
section
variable {Ls : List (List Int)}
theorem turnOf_eq {a : Nat × Nat} (ha : a ∈ prs Ls) : turnOf (Ls.getD a.1 [] ++ [0]) a.2 = turn Ls a := by
  have hm := (mem_prs.mp ha).2
  unfold turnOf turn suf pre
  rw [List.drop_append_of_le_length hm]
  have e : (if a.2 = 0 then (Ls.getD a.1 [] ++ [0]).getD ((Ls.getD a.1 [] ++ [0]).length - 1) 0 else (Ls.getD a.1 [] ++ [0]).getD (a.2 - 1) 0) = (if a.2 = 0 then 0 else (Ls.getD a.1 []).getD (a.2 - 1) 0) := by
    split
    · simp
    · rw [List.getD_eq_getElem?_getD, List.getElem?_append_left (by omega), ← List.getD_eq_getElem?_getD]
  rw [e]; simp
theorem eq_range (Ls : List (List Int)) : Ls = (List.range Ls.length).map fun j => Ls.getD j [] := by
  apply List.ext_getElem?
  intro i
  rcases Nat.lt_or_ge i Ls.length with h | h
  · simp [h]
  · simp [h]
theorem turns_prs (Ls : List (List Int)) : turnsOf (Ls.map (· ++ [0])) = (prs Ls).map (turn Ls) := by
  have h1 : (prs Ls).map (turn Ls) = (prs Ls).map (fun a => turnOf (Ls.getD a.1 [] ++ [0]) a.2) := List.map_congr_left fun a ha => (turnOf_eq ha).symm
  rw [h1]
  unfold turnsOf prs
  conv => lhs; rw [eq_range Ls]
  rw [List.map_map, List.flatMap_map, List.map_flatMap]
  simp only [List.map_map, Function.comp_def, List.length_append, List.length_cons, List.length_nil, Nat.zero_add]
theorem turn_sorted (ok : LsOk Ls) : ((PSl Ls).map (turn Ls)).Pairwise fun a b => lexLe a b = true := by
  rw [List.pairwise_map]
  refine (PS_strict Ls).imp_of_mem fun {a b} ha hb h => ?_
  have ma := mem_prs.mp (PS_mem.mp ha)
  have mb := mem_prs.mp (PS_mem.mp hb)
  rw [ky_lt ok] at h
  unfold lexLe turn
  rw [cmp0 _ _ _ _ (ok.posS b) (ok.posS a), cmp0 _ _ _ _ (ok.posD b.1) (ok.posD a.1)]
  simp only [Bool.or_eq_true, Bool.and_eq_true, decide_eq_true_eq] at h
  rcases h with h | ⟨h1, h2⟩
  · have e1 := lexLt_asymm h
    have e2 : ¬ suf Ls b = suf Ls a := fun e => by rw [e, lexLt_irrefl] at h; cases h
    rw [e1, decide_eq_false e2]; rfl
  · have e1 : lexLt (suf Ls b) (suf Ls a) = false := by rw [h1, lexLt_irrefl]
    have e2 := sorted_lt ok ma.1 mb.1 h2
    unfold lexLe at e2
    have e2 : lexLt (Ls.getD b.1 []) (Ls.getD a.1 []) = false := by simpa using e2
    rw [e1, e2]
    by_cases e : Ls.getD b.1 [] = Ls.getD a.1 []
    · have l1 := congrArg List.length h1
      unfold suf at l1
      rw [List.length_drop, List.length_drop, e] at l1
      have e3 : a.2 = b.2 := by have := mb.2; rw [e] at this; have := ma.2; omega
      have e4 : pre Ls b = pre Ls a := by unfold pre; rw [e, e3]
      rw [e4, lexLt_irrefl]; simp
    · rw [decide_eq_false e]; simp
theorem sortL_congr {A B : List (List Int)} (h : A.Perm B) : sortL A = sortL B := sortL_unique ((sortL_perm A).trans h) (sortL_sorted A)
theorem last_eq (ok : LsOk Ls) {rings : List (List Int)} (h : rings.Perm (Ls.map (· ++ [0]))) : lastOf rings = (PSl Ls).map (pre Ls) := by
  have h1 : (turnsOf rings).Perm (turnsOf (Ls.map (· ++ [0]))) := by unfold turnsOf; exact h.flatMap_right _
  have h2 : (PSl Ls).map (turn Ls) = sortL (turnsOf rings) := by
    refine sortL_unique ?_ (turn_sorted ok)
    refine List.Perm.trans ?_ h1.symm
    rw [turns_prs]; exact (PS_perm Ls).map _
  unfold lastOf
  rw [← h2, List.map_map]
  refine List.map_congr_left fun a _ => ?_
  show (turn Ls a).getD ((turn Ls a).length - 1) 0 = pre Ls a
  have e : turn Ls a = (suf Ls a ++ 0 :: (Ls.getD a.1 [] ++ [0])) ++ [pre Ls a] := by unfold turn; simp
  rw [e, List.length_append, List.getD_eq_getElem?_getD]; simp
theorem last_ix {a : Nat × Nat} (ha : a ∈ prs Ls) : ((PSl Ls).map (pre Ls)).getD (ix Ls a) 0 = pre Ls a := getD_map0 (at_ixP ha)
theorem steps_ix (ok : LsOk Ls) {a : Nat × Nat} (ha : a ∈ prs Ls) : (stepsOf ((PSl Ls).map (pre Ls))).getD (ix Ls a) 0 = (ix Ls (bk Ls a) : Nat) := by
  unfold stepsOf
  have hl := ix_lt ha
  rw [getD_map0 (a := ix Ls a) (by rw [List.getElem?_range (by simpa using hl)])]
  rw [last_ix ha, reck_ix ok ha]
theorem ix_front (ok : LsOk Ls) {j : Nat} (hj : j < Ls.length) : ix Ls (j, (Ls.getD j []).length) = j := by
  unfold ix
  have hN : ((List.range j).map fun i => (i, (Ls.getD i []).length)).Nodup := by
    unfold List.Nodup; rw [List.pairwise_map]
    exact (List.nodup_range).imp fun h e => h (Prod.mk.inj e).1
  have hF : ((PSl Ls).filter fun b => lexLt (ky Ls b) (ky Ls (j, (Ls.getD j []).length))).Nodup := List.Nodup.sublist List.filter_sublist ((PS_perm Ls).nodup_iff.mpr (prs_nodup Ls))
  have hmem : ∀ b, b ∈ ((PSl Ls).filter fun b => lexLt (ky Ls b) (ky Ls (j, (Ls.getD j []).length))) ↔ b ∈ ((List.range j).map fun i => (i, (Ls.getD i []).length)) := fun b => by
    rw [List.mem_filter, PS_mem, mem_prs, ky_lt ok]
    have es : suf Ls (j, (Ls.getD j []).length) = [] := by unfold suf; simp
    rw [es]
    have e0 : lexLt (suf Ls b) [] = false := by cases suf Ls b <;> rfl
    rw [e0]
    simp only [Bool.false_or, Bool.and_eq_true, decide_eq_true_eq, List.mem_map, List.mem_range]
    constructor
    · rintro ⟨⟨h1, h2⟩, h3, h4⟩
      refine ⟨b.1, h4, ?_⟩
      have l1 := congrArg List.length h3
      unfold suf at l1
      rw [List.length_drop, List.length_nil] at l1
      obtain ⟨b1, b2⟩ := b
      simp only at h2 l1 ⊢
      congr 1; omega
    · rintro ⟨i, hi, rfl⟩
      refine ⟨⟨by simp only; omega, Nat.le_refl _⟩, ?_, hi⟩
      unfold suf; simp
  have l1 := length_le_of_nodup_sub hF fun b hb => (hmem b).mp hb
  have l2 := length_le_of_nodup_sub hN fun b hb => (hmem b).mpr hb
  rw [List.countP_eq_length_filter]
  simp only [List.length_map, List.length_range] at l1 l2
  omega
/-- backwards from a place: the line and what stands ahead -/
theorem path (ok : LsOk Ls) {a : Nat × Nat} (ha : a ∈ prs Ls) : PathOk ((PSl Ls).map (pre Ls)) (stepsOf ((PSl Ls).map (pre Ls))) (ix Ls a) a.2 a.1 ((Ls.getD a.1 []).take a.2) := by
  obtain ⟨j, k⟩ := a
  obtain ⟨hj, hk⟩ := mem_prs.mp ha
  simp only at hj hk ⊢
  have hm : ∀ i, (j, k - i) ∈ prs Ls := fun i => mem_prs.mpr ⟨hj, by simp only; omega⟩
  have hb : ∀ i, i < k → bk Ls (j, k - i) = (j, k - (i + 1)) := fun i hi => by
    unfold bk; rw [if_neg (by simp only; omega)]; congr 1
  refine ⟨fun i => ix Ls (j, k - i), rfl, fun i _ => ?_, fun i hi => ?_, fun i hi => ?_, ?_, ?_, ?_⟩
  · have := ix_lt (hm i); simpa using this
  · rw [steps_ix ok (hm i), hb i hi]
  · rw [last_ix (hm i)]
    have := (bk_succ ok (hm i) (by simp only; omega)).2.2
    omega
  · rw [last_ix (hm k)]
    exact (bk_zero (Ls := Ls) (a := (j, k - k)) (by simp only; omega)).2.2
  · rw [steps_ix ok (hm k)]
    have e : bk Ls (j, k - k) = (j, (Ls.getD j []).length) := by unfold bk; rw [if_pos (by simp only; omega)]
    rw [e, ix_front ok hj]
  · have : ∀ i, i ≤ k → backA ((PSl Ls).map (pre Ls)) (fun i => ix Ls (j, k - i)) i = ((Ls.getD j []).drop (k - i)).take i := by
      intro i
      induction i with
      | zero => intro _; simp [backA]
      | succ i ih =>
        intro hi
        have hs := (bk_succ ok (hm i) (by simp only; omega)).1
        rw [hb i (by omega)] at hs
        unfold suf at hs
        simp only at hs
        rw [hs, List.take_succ_cons]
        show _ :: _ = _
        rw [last_ix (hm i), ih (by omega)]
    rw [this k (Nat.le_refl _)]; simp
theorem bq_closed (ok : LsOk Ls) (β : Bool) (w : List Int) : (PSl Ls).Pairwise fun a b => below β w (suf Ls b ++ [0]) = true → below β w (suf Ls a ++ [0]) = true := by
  refine (PS_strict Ls).imp fun {a b} h hb => below_mono (t' := suf Ls b ++ [0]) ?_ hb
  rw [ky_lt ok] at h
  unfold lexLe
  rw [cmp0 _ _ _ _ (ok.posS b) (ok.posS a)]
  simp only [Bool.or_eq_true, Bool.and_eq_true, decide_eq_true_eq] at h
  rcases h with h | ⟨h1, h2⟩
  · rw [lexLt_asymm h]; simp [lexLt]
  · rw [h1, lexLt_irrefl]; simp [lexLt]
theorem bq_bk (ok : LsOk Ls) (β : Bool) (c : Int) (hc : 0 < c) (w : List Int) {b : Nat × Nat} (hb : b ∈ prs Ls) :
    below β (c :: w) (suf Ls (bk Ls b) ++ [0]) = (decide (pre Ls b < c) || (pre Ls b == c && below β w (suf Ls b ++ [0]))) := by
  by_cases h : b.2 = 0
  · obtain ⟨h1, _, h3⟩ := bk_zero (Ls := Ls) h
    rw [h1, h3]
    simp [below, hc]
  · obtain ⟨h1, _, h3⟩ := bk_succ ok hb h
    rw [h1]; rfl
theorem bnd_eq (ok : LsOk Ls) : ∀ w : List Int, (∀ x ∈ w, 0 < x) → bnd ((PSl Ls).map (pre Ls)) w = ((PSl Ls).countP (fun b => below false w (suf Ls b ++ [0])), (PSl Ls).countP (fun b => below true w (suf Ls b ++ [0])))
  | [], _ => by
    unfold bnd below
    rw [List.countP_false, List.countP_true, List.length_map]; rfl
  | c :: w, h => by
    have hc := h c List.mem_cons_self
    have ih := bnd_eq ok w fun x hx => h x (List.mem_cons_of_mem _ hx)
    unfold bnd
    rw [ih]
    have go : ∀ β, reck ((PSl Ls).map (pre Ls)) c ((PSl Ls).countP fun b => below β w (suf Ls b ++ [0])) = (PSl Ls).countP fun b => below β (c :: w) (suf Ls b ++ [0]) := fun β => by
      rw [reck_gen _ (bq_closed ok β w), ← countP_bk (fun b => below β (c :: w) (suf Ls b ++ [0]))]
      refine List.countP_congr fun b hb => ?_
      rw [bq_bk ok β c hc w (PS_mem.mp hb)]
    simp only [go]
/-- between the two bounds stand just the places at which the word begins -/
theorem between (ok : LsOk Ls) (w : List Int) (hw : ∀ x ∈ w, 0 < x) : ((PSl Ls).drop (bnd ((PSl Ls).map (pre Ls)) w).1).take ((bnd ((PSl Ls).map (pre Ls)) w).2 - (bnd ((PSl Ls).map (pre Ls)) w).1) = (PSl Ls).filter fun b => w.isPrefixOf (suf Ls b) := by
  rw [bnd_eq ok w hw]
  simp only
  rw [← List.drop_take, (take_filter (bq_closed ok true w)).1]
  have e1 : (PSl Ls).countP (fun b => below false w (suf Ls b ++ [0])) = ((PSl Ls).filter fun b => below true w (suf Ls b ++ [0])).countP (fun b => below false w (suf Ls b ++ [0])) := by
    rw [List.countP_filter]
    refine List.countP_congr fun b _ => ?_
    have := below_ft w (suf Ls b ++ [0])
    simp only [Bool.and_eq_true]
    exact ⟨fun h => ⟨h, this h⟩, fun h => h.1⟩
  rw [e1, (take_filter (List.Pairwise.filter _ (bq_closed ok false w))).2, List.filter_filter]
  refine List.filter_congr fun b _ => ?_
  rw [← pref0 w _ hw, ← below_pref, Bool.and_comm]
theorem pair_le (ok : LsOk Ls) : (prs Ls).Pairwise fun a b => lexLe [(a.1 : Int), (a.2 : Int)] [(b.1 : Int), (b.2 : Int)] = true := by
  unfold prs
  rw [List.pairwise_flatMap]
  refine ⟨fun j _ => ?_, ?_⟩
  · rw [List.pairwise_map]
    refine (List.pairwise_lt_range).imp fun {k l} h => ?_
    have e1 : ¬ (l : Int) = k := by omega
    simp [lexLe, lexLt, e1]; omega
  · refine (List.pairwise_lt_range).imp fun {i j} h x hx y hy => ?_
    simp only [List.mem_map] at hx hy
    obtain ⟨_, _, rfl⟩ := hx
    obtain ⟨_, _, rfl⟩ := hy
    have e1 : ¬ (j : Int) = i := by omega
    simp [lexLe, lexLt, e1]; omega
theorem due_prs {w : List Int} (hw : w ≠ []) : due1 Ls w = ((prs Ls).filter fun b => w.isPrefixOf (suf Ls b)).map fun a => [(a.1 : Int), (a.2 : Int)] := by
  unfold due1 prs
  rw [List.filter_flatMap, List.map_flatMap]
  simp only [List.flatMap_def]
  congr 1
  refine List.map_congr_left fun j _ => ?_
  rw [List.filter_map, List.map_map, List.range_succ, List.filter_append]
  have e : w.isPrefixOf (suf Ls (j, (Ls.getD j []).length)) = false := by
    unfold suf
    simp only [List.drop_length]
    cases w with
    | nil => exact absurd rfl hw
    | cons c w => rfl
  have e2 : ([(Ls.getD j []).length].filter ((fun b => w.isPrefixOf (suf Ls b)) ∘ fun k => (j, k))) = [] := by simp only [List.filter_cons, Function.comp, e]; rfl
  rw [e2, List.append_nil]
  have e3 : (List.range (Ls.getD j []).length).filter (fun k => ((Ls.getD j []).drop k).take w.length == w) = (List.range (Ls.getD j []).length).filter ((fun b => w.isPrefixOf (suf Ls b)) ∘ fun k => (j, k)) :=
    List.filter_congr fun k _ => take_pref _ _
  rw [e3]; rfl
theorem found_due (ok : LsOk Ls) {w : List Int} (hw : w ≠ []) (h : ∀ x ∈ w, 0 < x) :
    sortL ((((PSl Ls).drop (bnd ((PSl Ls).map (pre Ls)) w).1).take ((bnd ((PSl Ls).map (pre Ls)) w).2 - (bnd ((PSl Ls).map (pre Ls)) w).1)).map fun a => [(a.1 : Int), (a.2 : Int)]) = due1 Ls w := by
  rw [between ok w h, due_prs hw]
  symm
  refine sortL_unique ?_ ?_
  · exact ((PS_perm Ls).symm.filter _).map _
  · rw [List.pairwise_map]
    exact (pair_le ok).filter _
end
end Mine
end
section
set_option maxRecDepth 100000
set_option Elab.async false
set_option linter.unusedVariables false
namespace Mine
open PySem PySem.W PySem.Calls PyProof.Rows
theorem upTop (w : World) : UpT (TopIn w) := ⟨⟨fun t k b o e => k b o (t b o e)⟩⟩
noncomputable def entsOf (o : Obj) : Array DictEntry := match o.data with | .dict es _ => es | _ => #[]
noncomputable def isD (o : Obj) : Bool := match o.data with | .dict _ _ => true | _ => false
noncomputable def strKey (e : DictEntry) : Bool := match e.key with | .str _ _ => true | _ => false
theorem ns_of {h : Heap} {a : Addr} {o : Obj} (hg : h.get? a = some o) (hd : isD o = true) (hs : (entsOf o).all strKey = true) : h.Ns a (fun n => nsFind (entsOf o) n) := by
  unfold isD at hd
  cases e : o.data with
  | dict es ep =>
    have he : entsOf o = es := by unfold entsOf; rw [e]
    refine ⟨o, es, ep, hg, e, fun x hx => ?_, fun n => by rw [he]⟩
    rw [he, Array.all_eq_true] at hs
    obtain ⟨i, hi, rfl⟩ := Array.mem_iff_getElem.mp hx
    have := hs i hi
    unfold strKey at this
    split at this
    · rename_i n t hk; exact ⟨n, t, hk⟩
    · cases this
  | _ => rw [e] at hd; cases hd
theorem get3 (P : Params) : (H1e P).get? 3 = some (o3_9 P) := by kernel_rfl
theorem get0 (P : Params) : (H1e P).get? 0 = some (PySem.W.boot_o_0 P) := by kernel_rfl
theorem get2 (P : Params) : (H1e P).get? 2 = some (PySem.W.boot_o_2 P) := by kernel_rfl
theorem isD3 (P : Params) : isD (o3_9 P) = true := by kernel_rfl
theorem isD0 (P : Params) : isD (PySem.W.boot_o_0 P) = true := by kernel_rfl
theorem isD2 (P : Params) : isD (PySem.W.boot_o_2 P) = true := by kernel_rfl
theorem str3 (P : Params) : (entsOf (o3_9 P)).all strKey = true := by kernel_rfl
theorem str0 (P : Params) : (entsOf (PySem.W.boot_o_0 P)).all strKey = true := by kernel_rfl
theorem str2 (P : Params) : (entsOf (PySem.W.boot_o_2 P)).all strKey = true := by kernel_rfl
theorem lim2 (P : Params) : nsFind (entsOf (PySem.W.boot_o_2 P)) "sys.recursionlimit" = none := by kernel_rfl
theorem noLim (w : World) : ∀ h, TopIn w h → h.NoLimit := fun h t => ⟨_, ns_of (t _ _ (get2 _)) (isD2 _) (str2 _), lim2 _⟩
theorem gl_of {w : World} {n : Str} {v : Value} (h : ∀ P, nsFind (entsOf (o3_9 P)) n = some v) : Glob (TopIn w) 3 0 n v := fun hp t => .inl ⟨_, ns_of (t _ _ (get3 _)) (isD3 _) (str3 _), h _⟩
theorem bl_of {w : World} {n : Str} {v : Value} (h : ∀ P, nsFind (entsOf (o3_9 P)) n = none) (h' : ∀ P, nsFind (entsOf (PySem.W.boot_o_0 P)) n = some v) : Glob (TopIn w) 3 0 n v :=
  fun hp t => .inr ⟨_, _, ns_of (t _ _ (get3 _)) (isD3 _) (str3 _), h _, ns_of (t _ _ (get0 _)) (isD0 _) (str0 _), h' _⟩
theorem b_len (w : World) : Glob (TopIn w) 3 0 "len" (.builtin "len") := bl_of (fun _ => by kernel_rfl) (fun _ => by kernel_rfl)
theorem b_min (w : World) : Glob (TopIn w) 3 0 "min" (.builtin "min") := bl_of (fun _ => by kernel_rfl) (fun _ => by kernel_rfl)
theorem b_abs (w : World) : Glob (TopIn w) 3 0 "abs" (.builtin "abs") := bl_of (fun _ => by kernel_rfl) (fun _ => by kernel_rfl)
theorem b_divmod (w : World) : Glob (TopIn w) 3 0 "divmod" (.builtin "divmod") := bl_of (fun _ => by kernel_rfl) (fun _ => by kernel_rfl)
theorem b_ord (w : World) : Glob (TopIn w) 3 0 "ord" (.builtin "ord") := bl_of (fun _ => by kernel_rfl) (fun _ => by kernel_rfl)
theorem b_chr (w : World) : Glob (TopIn w) 3 0 "chr" (.builtin "chr") := bl_of (fun _ => by kernel_rfl) (fun _ => by kernel_rfl)
theorem b_sorted (w : World) : Glob (TopIn w) 3 0 "sorted" (.builtin "sorted") := bl_of (fun _ => by kernel_rfl) (fun _ => by kernel_rfl)
theorem b_range (w : World) : Glob (TopIn w) 3 0 "range" (.type "range") := bl_of (fun _ => by kernel_rfl) (fun _ => by kernel_rfl)
theorem b_int (w : World) : Glob (TopIn w) 3 0 "int" (.type "int") := bl_of (fun _ => by kernel_rfl) (fun _ => by kernel_rfl)
theorem b_list (w : World) : Glob (TopIn w) 3 0 "list" (.type "list") := bl_of (fun _ => by kernel_rfl) (fun _ => by kernel_rfl)
noncomputable def fdInt2AP : FuncData := fnD 1 (.ofString "Int2AP") (.ofString "Int2AP") 3 (.str (.ofString "cpy313.imaplib") 187) (.ref 20) 0
theorem atInt2AP (w : World) : ∀ h, TopIn w h → ∃ o, h.get? 21 = some o ∧ o.data = .func fdInt2AP := fun h t => ⟨_, t _ _ (by kernel_rfl : (H1e w.params).get? 21 = some (o21_2 w.params)), rfl⟩
theorem fnInt2AP (w : World) : ∀ h, TopIn w h → ∃ o fd, h.get? 21 = some o ∧ o.data = .func fd := fun h t => let ⟨o, a, b⟩ := atInt2AP w h t; ⟨o, _, a, b⟩
theorem cdInt2AP (w : World) : ∀ h, TopIn w h → h.CodeRec fdInt2AP.code fdInt2AP.qualname := fun h t => ⟨20, _, _, _, rfl, t _ _ (by kernel_rfl : (H1e w.params).get? 20 = some (o20_2 w.params)), rfl, rfl⟩
theorem gInt2AP (w : World) : Glob (TopIn w) 3 0 "Int2AP" (.ref 21) := gl_of fun _ => by kernel_rfl
theorem bindInt2AP : ∀ vs, vs.length = (["num"] : List Str).length → bindArgs fdInt2AP ⟨vs, []⟩ = pure ((["num"] : List Str).zip vs)
  | [_], _ => rfl
noncomputable def fdInB1 : FuncData := fnD 4 (.ofString "in_table_b1") (.ofString "in_table_b1") 3 (.str (.ofString "cpy313.stringprep") 199) (.ref 38) 0
theorem atInB1 (w : World) : ∀ h, TopIn w h → ∃ o, h.get? 39 = some o ∧ o.data = .func fdInB1 := fun h t => ⟨_, t _ _ (by kernel_rfl : (H1e w.params).get? 39 = some (o39_4 w.params)), rfl⟩
theorem fnInB1 (w : World) : ∀ h, TopIn w h → ∃ o fd, h.get? 39 = some o ∧ o.data = .func fd := fun h t => let ⟨o, a, b⟩ := atInB1 w h t; ⟨o, _, a, b⟩
theorem cdInB1 (w : World) : ∀ h, TopIn w h → h.CodeRec fdInB1.code fdInB1.qualname := fun h t => ⟨38, _, _, _, rfl, t _ _ (by kernel_rfl : (H1e w.params).get? 38 = some (o38_4 w.params)), rfl, rfl⟩
theorem gInB1 (w : World) : Glob (TopIn w) 3 0 "in_table_b1" (.ref 39) := gl_of fun _ => by kernel_rfl
theorem bindInB1 : ∀ vs, vs.length = (["code"] : List Str).length → bindArgs fdInB1 ⟨vs, []⟩ = pure ((["code"] : List Str).zip vs)
  | [_], _ => rfl
noncomputable def fdMapB3 : FuncData := fnD 6 (.ofString "map_table_b3") (.ofString "map_table_b3") 3 (.str (.ofString "cpy313.stringprep") 199) (.ref 84) 0
theorem atMapB3 (w : World) : ∀ h, TopIn w h → ∃ o, h.get? 85 = some o ∧ o.data = .func fdMapB3 := fun h t => ⟨_, t _ _ (by kernel_rfl : (H1e w.params).get? 85 = some (o85_6 w.params)), rfl⟩
theorem fnMapB3 (w : World) : ∀ h, TopIn w h → ∃ o fd, h.get? 85 = some o ∧ o.data = .func fd := fun h t => let ⟨o, a, b⟩ := atMapB3 w h t; ⟨o, _, a, b⟩
theorem cdMapB3 (w : World) : ∀ h, TopIn w h → h.CodeRec fdMapB3.code fdMapB3.qualname := fun h t => ⟨84, _, _, _, rfl, t _ _ (by kernel_rfl : (H1e w.params).get? 84 = some (o84_6 w.params)), rfl, rfl⟩
theorem gMapB3 (w : World) : Glob (TopIn w) 3 0 "map_table_b3" (.ref 85) := gl_of fun _ => by kernel_rfl
theorem bindMapB3 : ∀ vs, vs.length = (["code"] : List Str).length → bindArgs fdMapB3 ⟨vs, []⟩ = pure ((["code"] : List Str).zip vs)
  | [_], _ => rfl
noncomputable def fdIsEof : FuncData := fnD 58 (.ofString "ISEOF") (.ofString "ISEOF") 3 (.str (.ofString "cpy313.token") 2227) (.ref 94) 0
theorem atIsEof (w : World) : ∀ h, TopIn w h → ∃ o, h.get? 95 = some o ∧ o.data = .func fdIsEof := fun h t => ⟨_, t _ _ (by kernel_rfl : (H1e w.params).get? 95 = some (o95_9 w.params)), rfl⟩
theorem fnIsEof (w : World) : ∀ h, TopIn w h → ∃ o fd, h.get? 95 = some o ∧ o.data = .func fd := fun h t => let ⟨o, a, b⟩ := atIsEof w h t; ⟨o, _, a, b⟩
theorem cdIsEof (w : World) : ∀ h, TopIn w h → h.CodeRec fdIsEof.code fdIsEof.qualname := fun h t => ⟨94, _, _, _, rfl, t _ _ (by kernel_rfl : (H1e w.params).get? 94 = some (o94_9 w.params)), rfl, rfl⟩
theorem gIsEof (w : World) : Glob (TopIn w) 3 0 "ISEOF" (.ref 95) := gl_of fun _ => by kernel_rfl
theorem bindIsEof : ∀ vs, vs.length = (["x"] : List Str).length → bindArgs fdIsEof ⟨vs, []⟩ = pure ((["x"] : List Str).zip vs)
  | [_], _ => rfl
noncomputable def fdDraw : FuncData := fnD 60 (.ofString "_law_draw") (.ofString "_law_draw") 3 (.str (.ofString "law_wf0076_01") 2431) (.ref 99) 0
theorem atDraw (w : World) : ∀ h, TopIn w h → ∃ o, h.get? 100 = some o ∧ o.data = .func fdDraw := fun h t => ⟨_, t _ _ (by kernel_rfl : (H1e w.params).get? 100 = some (o100_9 w.params)), rfl⟩
theorem fnDraw (w : World) : ∀ h, TopIn w h → ∃ o fd, h.get? 100 = some o ∧ o.data = .func fd := fun h t => let ⟨o, a, b⟩ := atDraw w h t; ⟨o, _, a, b⟩
theorem cdDraw (w : World) : ∀ h, TopIn w h → h.CodeRec fdDraw.code fdDraw.qualname := fun h t => ⟨99, _, _, _, rfl, t _ _ (by kernel_rfl : (H1e w.params).get? 99 = some (o99_9 w.params)), rfl, rfl⟩
theorem gDraw (w : World) : Glob (TopIn w) 3 0 "_law_draw" (.ref 100) := gl_of fun _ => by kernel_rfl
theorem bindDraw : ∀ vs, vs.length = (["script"] : List Str).length → bindArgs fdDraw ⟨vs, []⟩ = pure ((["script"] : List Str).zip vs)
  | [_], _ => rfl
noncomputable def fdSpelled : FuncData := fnD 61 (.ofString "_law_spelled") (.ofString "_law_spelled") 3 (.str (.ofString "law_wf0076_01") 2431) (.ref 106) 0
theorem atSpelled (w : World) : ∀ h, TopIn w h → ∃ o, h.get? 107 = some o ∧ o.data = .func fdSpelled := fun h t => ⟨_, t _ _ (by kernel_rfl : (H1e w.params).get? 107 = some (o107_9 w.params)), rfl⟩
theorem fnSpelled (w : World) : ∀ h, TopIn w h → ∃ o fd, h.get? 107 = some o ∧ o.data = .func fd := fun h t => let ⟨o, a, b⟩ := atSpelled w h t; ⟨o, _, a, b⟩
theorem cdSpelled (w : World) : ∀ h, TopIn w h → h.CodeRec fdSpelled.code fdSpelled.qualname := fun h t => ⟨106, _, _, _, rfl, t _ _ (by kernel_rfl : (H1e w.params).get? 106 = some (o106_9 w.params)), rfl, rfl⟩
theorem gSpelled (w : World) : Glob (TopIn w) 3 0 "_law_spelled" (.ref 107) := gl_of fun _ => by kernel_rfl
theorem bindSpelled : ∀ vs, vs.length = (["word", "dress"] : List Str).length → bindArgs fdSpelled ⟨vs, []⟩ = pure ((["word", "dress"] : List Str).zip vs)
  | [_, _], _ => rfl
noncomputable def fdWritten : FuncData := fnD 62 (.ofString "_law_written") (.ofString "_law_written") 3 (.str (.ofString "law_wf0076_01") 2431) (.ref 113) 0
theorem atWritten (w : World) : ∀ h, TopIn w h → ∃ o, h.get? 114 = some o ∧ o.data = .func fdWritten := fun h t => ⟨_, t _ _ (by kernel_rfl : (H1e w.params).get? 114 = some (o114_9 w.params)), rfl⟩
theorem fnWritten (w : World) : ∀ h, TopIn w h → ∃ o fd, h.get? 114 = some o ∧ o.data = .func fd := fun h t => let ⟨o, a, b⟩ := atWritten w h t; ⟨o, _, a, b⟩
theorem cdWritten (w : World) : ∀ h, TopIn w h → h.CodeRec fdWritten.code fdWritten.qualname := fun h t => ⟨113, _, _, _, rfl, t _ _ (by kernel_rfl : (H1e w.params).get? 113 = some (o113_9 w.params)), rfl, rfl⟩
theorem gWritten (w : World) : Glob (TopIn w) 3 0 "_law_written" (.ref 114) := gl_of fun _ => by kernel_rfl
theorem bindWritten : ∀ vs, vs.length = (["drawn"] : List Str).length → bindArgs fdWritten ⟨vs, []⟩ = pure ((["drawn"] : List Str).zip vs)
  | [_], _ => rfl
noncomputable def fdRead : FuncData := fnD 63 (.ofString "_law_read") (.ofString "_law_read") 3 (.str (.ofString "law_wf0076_01") 2431) (.ref 120) 0
theorem atRead (w : World) : ∀ h, TopIn w h → ∃ o, h.get? 121 = some o ∧ o.data = .func fdRead := fun h t => ⟨_, t _ _ (by kernel_rfl : (H1e w.params).get? 121 = some (o121_9 w.params)), rfl⟩
theorem fnRead (w : World) : ∀ h, TopIn w h → ∃ o fd, h.get? 121 = some o ∧ o.data = .func fd := fun h t => let ⟨o, a, b⟩ := atRead w h t; ⟨o, _, a, b⟩
theorem cdRead (w : World) : ∀ h, TopIn w h → h.CodeRec fdRead.code fdRead.qualname := fun h t => ⟨120, _, _, _, rfl, t _ _ (by kernel_rfl : (H1e w.params).get? 120 = some (o120_9 w.params)), rfl, rfl⟩
theorem gRead (w : World) : Glob (TopIn w) 3 0 "_law_read" (.ref 121) := gl_of fun _ => by kernel_rfl
theorem bindRead : ∀ vs, vs.length = (["text"] : List Str).length → bindArgs fdRead ⟨vs, []⟩ = pure ((["text"] : List Str).zip vs)
  | [_], _ => rfl
noncomputable def fdLast : FuncData := fnD 64 (.ofString "_law_last") (.ofString "_law_last") 3 (.str (.ofString "law_wf0076_01") 2431) (.ref 125) 0
theorem atLast (w : World) : ∀ h, TopIn w h → ∃ o, h.get? 126 = some o ∧ o.data = .func fdLast := fun h t => ⟨_, t _ _ (by kernel_rfl : (H1e w.params).get? 126 = some (o126_9 w.params)), rfl⟩
theorem fnLast (w : World) : ∀ h, TopIn w h → ∃ o fd, h.get? 126 = some o ∧ o.data = .func fd := fun h t => let ⟨o, a, b⟩ := atLast w h t; ⟨o, _, a, b⟩
theorem cdLast (w : World) : ∀ h, TopIn w h → h.CodeRec fdLast.code fdLast.qualname := fun h t => ⟨125, _, _, _, rfl, t _ _ (by kernel_rfl : (H1e w.params).get? 125 = some (o125_9 w.params)), rfl, rfl⟩
theorem gLast (w : World) : Glob (TopIn w) 3 0 "_law_last" (.ref 126) := gl_of fun _ => by kernel_rfl
theorem bindLast : ∀ vs, vs.length = (["rings"] : List Str).length → bindArgs fdLast ⟨vs, []⟩ = pure ((["rings"] : List Str).zip vs)
  | [_], _ => rfl
noncomputable def fdReck : FuncData := fnD 65 (.ofString "_law_reckoned") (.ofString "_law_reckoned") 3 (.str (.ofString "law_wf0076_01") 2431) (.ref 130) 0
theorem atReck (w : World) : ∀ h, TopIn w h → ∃ o, h.get? 131 = some o ∧ o.data = .func fdReck := fun h t => ⟨_, t _ _ (by kernel_rfl : (H1e w.params).get? 131 = some (o131_9 w.params)), rfl⟩
theorem fnReck (w : World) : ∀ h, TopIn w h → ∃ o fd, h.get? 131 = some o ∧ o.data = .func fd := fun h t => let ⟨o, a, b⟩ := atReck w h t; ⟨o, _, a, b⟩
theorem cdReck (w : World) : ∀ h, TopIn w h → h.CodeRec fdReck.code fdReck.qualname := fun h t => ⟨130, _, _, _, rfl, t _ _ (by kernel_rfl : (H1e w.params).get? 130 = some (o130_9 w.params)), rfl, rfl⟩
theorem gReck (w : World) : Glob (TopIn w) 3 0 "_law_reckoned" (.ref 131) := gl_of fun _ => by kernel_rfl
theorem bindReck : ∀ vs, vs.length = (["last", "symbol", "place"] : List Str).length → bindArgs fdReck ⟨vs, []⟩ = pure ((["last", "symbol", "place"] : List Str).zip vs)
  | [_, _, _], _ => rfl
noncomputable def fdBack : FuncData := fnD 66 (.ofString "_law_back") (.ofString "_law_back") 3 (.str (.ofString "law_wf0076_01") 2431) (.ref 137) 0
theorem atBack (w : World) : ∀ h, TopIn w h → ∃ o, h.get? 138 = some o ∧ o.data = .func fdBack := fun h t => ⟨_, t _ _ (by kernel_rfl : (H1e w.params).get? 138 = some (o138_9 w.params)), rfl⟩
theorem fnBack (w : World) : ∀ h, TopIn w h → ∃ o fd, h.get? 138 = some o ∧ o.data = .func fd := fun h t => let ⟨o, a, b⟩ := atBack w h t; ⟨o, _, a, b⟩
theorem cdBack (w : World) : ∀ h, TopIn w h → h.CodeRec fdBack.code fdBack.qualname := fun h t => ⟨137, _, _, _, rfl, t _ _ (by kernel_rfl : (H1e w.params).get? 137 = some (o137_9 w.params)), rfl, rfl⟩
theorem gBack (w : World) : Glob (TopIn w) 3 0 "_law_back" (.ref 138) := gl_of fun _ => by kernel_rfl
theorem bindBack : ∀ vs, vs.length = (["last", "steps", "place"] : List Str).length → bindArgs fdBack ⟨vs, []⟩ = pure ((["last", "steps", "place"] : List Str).zip vs)
  | [_, _, _], _ => rfl
noncomputable def fdFound : FuncData := fnD 67 (.ofString "_law_found") (.ofString "_law_found") 3 (.str (.ofString "law_wf0076_01") 2431) (.ref 144) 0
theorem atFound (w : World) : ∀ h, TopIn w h → ∃ o, h.get? 145 = some o ∧ o.data = .func fdFound := fun h t => ⟨_, t _ _ (by kernel_rfl : (H1e w.params).get? 145 = some (o145_9 w.params)), rfl⟩
theorem fnFound (w : World) : ∀ h, TopIn w h → ∃ o fd, h.get? 145 = some o ∧ o.data = .func fd := fun h t => let ⟨o, a, b⟩ := atFound w h t; ⟨o, _, a, b⟩
theorem cdFound (w : World) : ∀ h, TopIn w h → h.CodeRec fdFound.code fdFound.qualname := fun h t => ⟨144, _, _, _, rfl, t _ _ (by kernel_rfl : (H1e w.params).get? 144 = some (o144_9 w.params)), rfl, rfl⟩
theorem gFound (w : World) : Glob (TopIn w) 3 0 "_law_found" (.ref 145) := gl_of fun _ => by kernel_rfl
theorem bindFound : ∀ vs, vs.length = (["last", "steps", "word"] : List Str).length → bindArgs fdFound ⟨vs, []⟩ = pure ((["last", "steps", "word"] : List Str).zip vs)
  | [_, _, _], _ => rfl
noncomputable def fdFig : FuncData := fnD 68 (.ofString "_law_figures") (.ofString "_law_figures") 3 (.str (.ofString "law_wf0076_01") 2431) (.ref 149) 0
theorem atFig (w : World) : ∀ h, TopIn w h → ∃ o, h.get? 150 = some o ∧ o.data = .func fdFig := fun h t => ⟨_, t _ _ (by kernel_rfl : (H1e w.params).get? 150 = some (o150_9 w.params)), rfl⟩
theorem fnFig (w : World) : ∀ h, TopIn w h → ∃ o fd, h.get? 150 = some o ∧ o.data = .func fd := fun h t => let ⟨o, a, b⟩ := atFig w h t; ⟨o, _, a, b⟩
theorem cdFig (w : World) : ∀ h, TopIn w h → h.CodeRec fdFig.code fdFig.qualname := fun h t => ⟨149, _, _, _, rfl, t _ _ (by kernel_rfl : (H1e w.params).get? 149 = some (o149_9 w.params)), rfl, rfl⟩
theorem gFig (w : World) : Glob (TopIn w) 3 0 "_law_figures" (.ref 150) := gl_of fun _ => by kernel_rfl
theorem bindFig : ∀ vs, vs.length = (["number"] : List Str).length → bindArgs fdFig ⟨vs, []⟩ = pure ((["number"] : List Str).zip vs)
  | [_], _ => rfl
noncomputable def fdDue : FuncData := fnD 69 (.ofString "_law_due") (.ofString "_law_due") 3 (.str (.ofString "law_wf0076_01") 2431) (.ref 154) 0
theorem atDue (w : World) : ∀ h, TopIn w h → ∃ o, h.get? 155 = some o ∧ o.data = .func fdDue := fun h t => ⟨_, t _ _ (by kernel_rfl : (H1e w.params).get? 155 = some (o155_9 w.params)), rfl⟩
theorem fnDue (w : World) : ∀ h, TopIn w h → ∃ o fd, h.get? 155 = some o ∧ o.data = .func fd := fun h t => let ⟨o, a, b⟩ := atDue w h t; ⟨o, _, a, b⟩
theorem cdDue (w : World) : ∀ h, TopIn w h → h.CodeRec fdDue.code fdDue.qualname := fun h t => ⟨154, _, _, _, rfl, t _ _ (by kernel_rfl : (H1e w.params).get? 154 = some (o154_9 w.params)), rfl, rfl⟩
theorem gDue (w : World) : Glob (TopIn w) 3 0 "_law_due" (.ref 155) := gl_of fun _ => by kernel_rfl
theorem bindDue : ∀ vs, vs.length = (["drawn"] : List Str).length → bindArgs fdDue ⟨vs, []⟩ = pure ((["drawn"] : List Str).zip vs)
  | [_], _ => rfl
noncomputable def fdLaw : FuncData := fnD 70 (.ofString "law") (.ofString "law") 3 (.str (.ofString "law_wf0076_01") 2431) (.ref 159) 0
theorem atLaw (w : World) : ∀ h, TopIn w h → ∃ o, h.get? 160 = some o ∧ o.data = .func fdLaw := fun h t => ⟨_, t _ _ (by kernel_rfl : (H1e w.params).get? 160 = some (o160_9 w.params)), rfl⟩
theorem fnLaw (w : World) : ∀ h, TopIn w h → ∃ o fd, h.get? 160 = some o ∧ o.data = .func fd := fun h t => let ⟨o, a, b⟩ := atLaw w h t; ⟨o, _, a, b⟩
theorem cdLaw (w : World) : ∀ h, TopIn w h → h.CodeRec fdLaw.code fdLaw.qualname := fun h t => ⟨159, _, _, _, rfl, t _ _ (by kernel_rfl : (H1e w.params).get? 159 = some (o159_9 w.params)), rfl, rfl⟩
theorem gLaw (w : World) : Glob (TopIn w) 3 0 "law" (.ref 160) := gl_of fun _ => by kernel_rfl
theorem bindLaw : ∀ vs, vs.length = (["script"] : List Str).length → bindArgs fdLaw ⟨vs, []⟩ = pure ((["script"] : List Str).zip vs)
  | [_], _ => rfl
end Mine
end
section
set_option maxRecDepth 100000
set_option Elab.async false
set_option linter.unusedVariables false
namespace Mine
open PySem PySem.W PySem.Calls PyProof.Rows
theorem wReck (w : World) (last : List Int) (symbol : Int) (place : Nat) (hl : last.length ≤ 1000) :
    Fn (TopIn w) pw w 3 (.ref 131) [.list (last.map .int), .int symbol, .int place] (.int (reck last symbol place)) := by
  haveI := upTop w
  have hs : sizeLine = 2 ^ 24 := by decide
  refine Fn.of_body (atReck w) (noLim w) (cdReck w) rfl bindReck rfl (by decide) (by decide) rfl rfl rfl rfl fun L => ?_
  show Ex (TopIn w) pw w 2 (callEnvC fdReck L 131) [("last", .dat (.list (last.map .int))), ("symbol", .dat (.int symbol)), ("place", .dat (.int place))] _ _
  refine Ex.last (Ex1.ret (Ev.cast (Ev.bin
    (Ev.callB (b_len w) (f_len _ ?_) (Evs.cons (EvF.ev (EvF.comp (Γc := [("symbol", .dat (.int symbol))]) (It.of (Ev.name in0) rfl ?_) (CellsFull.call _ _ _) (by kernel_rfl) (by kernel_rfl) (capS in1 (by kernel_rfl) cap0)
      (fun C cl a ha => Tsts.one (Tst.cmp (Ev.name in0) (Ev.name in1) (o_lt _ _))) (fun C cl a ha hp => Ev.name in0))) Evs.nil) (by kernel_rfl))
    (Ev.callB (b_len w) (f_len _ ?_) (Evs.cons (EvF.ev (EvF.comp (xs := last.take place) (enc := Mine.D.int) (Γc := [("symbol", .dat (.int symbol))]) (It.of (Ev.sliceTo (Ev.name in0) (Ev.name in2) ?_) (by simp [iterD]) ?_) (CellsFull.call _ _ _) (by kernel_rfl) (by kernel_rfl) (capS in1 (by kernel_rfl) cap0)
      (fun C cl a ha => Tsts.one (Tst.cmp (Ev.name in0) (Ev.name in1) (o_eq _ _))) (fun C cl a ha hp => Ev.name in0))) Evs.nil) (by kernel_rfl))
    (o_add _ _)) ?_))
  all_goals have hft := List.length_filter_le (fun x => decide (x < symbol)) last
  all_goals have hfe := List.length_filter_le (fun x => x == symbol) (last.take place)
  all_goals try simp only [List.length_map, List.length_take] at *
  all_goals first | omega | skip
  simp [reck]
end Mine
end
section
set_option maxRecDepth 100000
set_option Elab.async false
set_option linter.unusedVariables false
namespace Mine
open PySem PySem.W PySem.Calls PyProof.Rows
theorem hs24 : sizeLine = 2 ^ 24 := by decide
theorem wEof (w : World) (x : Int) : Fn (TopIn w) pw w 3 (.ref 95) [.int x] (.bool (x == 0)) := by
  haveI := upTop w
  refine Fn.of_body (atIsEof w) (noLim w) (cdIsEof w) rfl bindIsEof rfl (by decide) (by decide) rfl rfl rfl rfl fun L => ?_
  show Ex (TopIn w) pw w 2 (callEnvC fdIsEof L 95) [("x", .dat (.int x))] _ _
  exact Ex.last (Ex1.ret (Ev.cmp (Ev.name in0) (Ev.glob (gl_of fun P => (by kernel_rfl : nsFind (entsOf (o3_9 P)) "ENDMARKER" = some (.int 0 2229))) (fun X h => .int _ _) (by kernel_rfl)) (o_eq _ _)))
theorem wFig (w : World) (n : Int) : Fn (TopIn w) pw w 3 (.ref 150) [.int n] (.list ((fig n).map .int)) := by
  haveI := upTop w
  refine Fn.of_body (atFig w) (noLim w) (cdFig w) rfl bindFig rfl (by decide) (by decide) rfl rfl rfl rfl fun L => ?_
  show Ex (TopIn w) pw w 2 (callEnvC fdFig L 150) [("number", .dat (.int n))] _ _
  refine Ex.last (Ex1.ret (Ev.cast (EvF.ev (EvF.comp (xs := ([256, 16, 1] : List Int)) (enc := Mine.D.int) (p := fun a => decide (a ≤ n)) (f := fun a => .int (256 + n / a % 16)) (Γc := [("number", .dat (.int n))])
    (It.of (Ev.tup (Evs.cons Ev.int (Evs.cons Ev.int (Evs.cons Ev.int Evs.nil))) (by simp only [List.length_cons, List.length_nil, hs24]; decide)) rfl (by simp only [List.length_map, List.length_cons, List.length_nil, hs24]; decide)) (CellsFull.call _ _ _) (by kernel_rfl) (by kernel_rfl) (capS in0 (by kernel_rfl) cap0)
    (fun C cl a ha => Tsts.one (Tst.cmp (Ev.name in1) (Ev.name in0) (o_ge _ _)))
    (fun C cl a ha hp => Ev.bin Ev.int (Ev.bin (Ev.bin (Ev.name in1) (Ev.name in0) (o_floordiv _ _ ?_ ?_)) Ev.int (o_mod _ _ (by decide))) (o_add _ _)))) ?_))
  · simp at ha; omega
  · simp at ha; rcases ha with rfl | rfl | rfl <;> decide
  · simp [fig]
theorem getInt {l : List Int} {i : Nat} (h : i < l.length) : (l.map Mine.D.int)[i]? = some (.int (l.getD i 0)) := by simp [h]
theorem wBack (w : World) (last steps : List Int) (pl : Nat → Nat) (N : Nat) (hl : last.length ≤ 1000) (hs : steps.length = last.length) (hp : ∀ i, i ≤ N → pl i < last.length) (hst : ∀ i, i < N → steps.getD (pl i) 0 = (pl (i + 1) : Nat))
    (hne : ∀ i, i < N → last.getD (pl i) 0 ≠ 0) (he : last.getD (pl N) 0 = 0) (hN : N ≤ 1000) :
    Fn (TopIn w) pw w 4 (.ref 138) [.list (last.map .int), .list (steps.map .int), .int (pl 0 : Nat)] (.list [.int (steps.getD (pl N) 0), .list ((backA last pl N).map .int)]) := by
  haveI := upTop w
  refine Fn.of_body (atBack w) (noLim w) (cdBack w) rfl bindBack rfl (by decide) (by decide) rfl rfl rfl rfl fun L => ?_
  show Ex (TopIn w) pw w 3 (callEnvC fdBack L 138) [("last", .dat (.list (last.map .int))), ("steps", .dat (.list (steps.map .int))), ("place", .dat (.int (pl 0 : Nat)))] _ _
  have tst : ∀ i, i ≤ N → ∀ {pos1 pos2 pos3 pos4 pos5 pos6 : Pos}, Tst (TopIn w) pw w 3 (callEnvC fdBack L 138) [("ahead", .dat (.list ((backA last pl i).map .int))), ("place", .dat (.int (pl i : Nat))), ("last", .dat (.list (last.map .int))), ("steps", .dat (.list (steps.map .int)))]
      (.UnaryOp .Not (.Call (.Name "ISEOF" pos1) [.Subscript (.Name "last" pos2) (.Name "place" pos3) pos4] [] pos5) pos6) (!(last.getD (pl i) 0 == 0)) := fun i hi => by
    intros
    exact Tst.not (Tst.val (Ev.callF (gIsEof w) (fnIsEof w) (wEof w _) (Evs.cons (Ev.sub (Ev.name in2) (Ev.name in1) (sub_list _ _ _ (getInt (hp i hi)) (by have := hp i hi; omega))) Evs.nil) (by kernel_rfl)) rfl)
  refine Ex.cons (Ex1.assign (Ev.list Evs.nil (by simp)) (.inl (by kernel_rfl)) (drpS in0 (by decide) (drpS in1 (by decide) (drpS in2 (by decide) drp0))) (by kernel_rfl)) ?_
  refine Ex.cons (Ex1.whl (fun i => [("ahead", .dat (.list ((backA last pl i).map .int))), ("place", .dat (.int (pl i : Nat))), ("last", .dat (.list (last.map .int))), ("steps", .dat (.list (steps.map .int)))]) N
    (subS in0 (subS in3 (subS in1 (subS in2 sub0)))) (fun i hi => Tst.cast (tst i (by omega)) (by simpa using hne i hi)) (fun i hi => ?_) (Tst.cast (tst N (Nat.le_refl _)) (by simpa using he))) ?_
  · refine Ex.cons (Ex1.assign (Ev.cast (Ev.bin (Ev.list (Evs.cons (Ev.sub (Ev.name in2) (Ev.name in1) (sub_list _ _ _ (getInt (hp i (by omega))) (by have := hp i (by omega); omega))) Evs.nil) (by simp [hs24])) (Ev.name in0) (o_addl _ _ (by simp [backA_len, hs24]; omega))) rfl) (.inl (by kernel_rfl)) (drpS in1 (by decide) (drpS in2 (by decide) (drpS in3 (by decide) drp0))) (by kernel_rfl)) ?_
    refine Ex.cons (Ex1.assign (Ev.cast (Ev.sub (Ev.name in3) (Ev.name in1) (sub_list _ _ _ (getInt (by rw [hs]; exact hp i (by omega))) (by have := hp i (by omega); omega))) (by rw [hst i hi])) (.inl (by kernel_rfl)) (drpS in0 (by decide) (drpS in2 (by decide) (drpS in3 (by decide) drp0))) (by kernel_rfl)) ?_
    refine Ex.post Ex.nil (subS (by simp [backA]) (subS in0 (subS in2 (subS in3 sub0))))
  · exact Ex.last (Ex1.ret (Ev.list (Evs.cons (Ev.sub (Ev.name in3) (Ev.name in1) (sub_list _ _ _ (getInt (by rw [hs]; exact hp N (Nat.le_refl _))) (by have := hp N (Nat.le_refl _); omega))) (Evs.cons (Ev.name in0) Evs.nil)) (by simp [hs24])))
end Mine
end
section
set_option maxRecDepth 100000
set_option Elab.async false
set_option linter.unusedVariables false
namespace Mine
open PySem PySem.W PySem.Calls PyProof.Rows
noncomputable def b1L : List Int := [65024, 65025, 65026, 65027, 65028, 65029, 6150, 65030, 65031, 65032, 65033, 6155, 6156, 6157, 8203, 8204, 8205, 65034, 65035, 65036, 65037, 65038, 65039, 173, 847, 8288, 65279]
noncomputable def inB1 (c : Int) : Bool := b1L.any fun x => x == c
noncomputable def setEnts (o : Obj) : Array (Int × Value) := match o.data with | .set es _ _ => es | _ => #[]
noncomputable def setTab (o : Obj) : Option SetTable := match o.data with | .set _ _ t => some t | _ => none
noncomputable def setKeyOk (e : Int × Value) : Bool := match e.2 with | .int i _ => e.1 == hashInt i && e.2.scannable | _ => false
theorem get29 (P : Params) : (H1e P).get? 29 = some (o29_3 P) := by kernel_rfl
theorem set29 (w : World) : ∀ h, TopIn w h → h.SetOf (intKind pw w) 29 inB1 27 := fun h t => by
  have hg := t _ _ (get29 w.params)
  have h1 : (setEnts (o29_3 w.params)).toList.all setKeyOk = true := by kernel_rfl
  have h2 : ∀ c, ((setEnts (o29_3 w.params)).toList.any fun e => Value.isInt c e.2) = inB1 c := fun c => by kernel_rfl
  have h3 : (setEnts (o29_3 w.params)).size = 27 := by kernel_rfl
  refine ⟨o29_3 w.params, setEnts (o29_3 w.params), _, _, hg, ⟨rfl, rfl, rfl⟩, rfl, fun e he => ?_, fun c => ?_, by rw [h3]; decide, by rw [h3]; kernel_rfl, h3⟩
  · have := List.all_eq_true.mp h1 e he
    unfold setKeyOk at this
    split at this
    · rename_i i t hk
      rw [Bool.and_eq_true] at this
      exact ⟨⟨i, by rw [hk]; simp [intKind, Value.isInt], by show e.1 = hashInt i; simpa using this.1⟩, this.2⟩
    · cases this
  · rw [← h2 c, List.any_eq_true]; rfl
theorem wInB1 (w : World) (c : Nat) : Fn (TopIn w) pw w 3 (.ref 39) [.str ⟨#[c]⟩] (.bool (inB1 c)) := by
  haveI := upTop w
  refine Fn.of_body (atInB1 w) (noLim w) (cdInB1 w) rfl bindInB1 rfl (by decide) (by decide) rfl rfl rfl rfl fun L => ?_
  show Ex (TopIn w) pw w 2 (callEnvC fdInB1 L 39) [("code", .dat (.str ⟨#[c]⟩))] _ _
  exact Ex.last (Ex1.ret (Ev.cmp (Ev.callB (b_ord w) (f_ord c) (Evs.cons (Ev.name in0) Evs.nil) (by kernel_rfl)) (Ev.glob (gl_of fun P => (by kernel_rfl : nsFind (entsOf (o3_9 P)) "b1_set" = some (.ref 29))) (fun X h => .obj _) (by kernel_rfl)) (o_inset 29 inB1 27 c (set29 w))))
noncomputable def intKeyOk (e : DictEntry) : Bool := match e.key with | .int i _ => e.hash == hashInt i | _ => false
theorem get40 (P : Params) : (H1e P).get? 40 = some (o40_5 P) := by kernel_rfl
noncomputable def b3V (P : Params) (c : Int) : Option Value := findBy Value.isInt (entsOf (o40_5 P)) c
theorem map40 (w : World) : ∀ h, TopIn w h → h.MapOf (intKind pw w) 40 (b3V w.params) := fun h t => by
  have hg := t _ _ (get40 w.params)
  have h1 : (entsOf (o40_5 w.params)).toList.all intKeyOk = true := by kernel_rfl
  refine ⟨o40_5 w.params, entsOf (o40_5 w.params), _, hg, ⟨rfl, rfl, rfl⟩, rfl, fun e he => ?_, fun c => rfl⟩
  have := List.all_eq_true.mp h1 e (by simpa using he)
  unfold intKeyOk at this
  split at this
  · rename_i i t hk
    exact ⟨i, by rw [hk]; simp [intKind, Value.isInt], by show e.hash = hashInt i; simpa using this⟩
  · cases this
noncomputable def valStr (e : DictEntry) : Bool := match e.val with | .str _ _ => true | _ => false
theorem b3_str (P : Params) {c : Int} {v : Value} (h : b3V P c = some v) : ∃ x t, v = .str x t := by
  have h1 : (entsOf (o40_5 P)).toList.all valStr = true := by kernel_rfl
  unfold b3V findBy at h
  obtain ⟨e, he, rfl⟩ := Option.map_eq_some_iff.mp h
  have hm := Array.mem_of_find?_eq_some he
  have := List.all_eq_true.mp h1 e (by simpa using hm)
  unfold valStr at this
  split at this
  · rename_i x t hk; exact ⟨x, t, hk⟩
  · cases this
noncomputable def plain (P : Params) (c : Nat) : Str := match b3V P c with | some (.str x _) => x | _ => Txt.lower ⟨#[c]⟩
noncomputable def b3D (P : Params) (c : Int) : Mine.D := match b3V P c with | some (.str x _) => .str x | _ => .none
theorem wMapB3 (w : World) (c : Nat) (hfit : Builtin.Str.tooLong (Txt.lower ⟨#[c]⟩).length = false) : Fn (TopIn w) pw w 3 (.ref 85) [.str ⟨#[c]⟩] (.str (plain w.params c)) := by
  haveI := upTop w
  refine Fn.of_body (atMapB3 w) (noLim w) (cdMapB3 w) rfl bindMapB3 rfl (by decide) (by decide) rfl rfl rfl rfl fun L => ?_
  show Ex (TopIn w) pw w 2 (callEnvC fdMapB3 L 85) [("code", .dat (.str ⟨#[c]⟩))] _ _
  refine Ex.cons (Ex1.assign (d := b3D w.params c) (Ev.dget (b3V w.params) (Ev.glob (gl_of fun P => (by kernel_rfl : nsFind (entsOf (o3_9 P)) "b3_exceptions" = some (.ref 40))) (fun X h => .obj _) (by kernel_rfl)) (Ev.callB (b_ord w) (f_ord c) (Evs.cons (Ev.name in0) Evs.nil) (by kernel_rfl)) (by decide) (map40 w) (fun X h => ?_))
    (.inl (by kernel_rfl)) (drpS in0 (by decide) drp0) (by kernel_rfl)) ?_
  · unfold b3D
    cases hb : b3V w.params c with
    | none => exact .none
    | some v => obtain ⟨x, t, rfl⟩ := b3_str _ hb; exact .str _ _
  · cases hb : b3V w.params c with
    | none =>
      have e1 : b3D w.params c = .none := by unfold b3D; rw [hb]
      have e2 : plain w.params c = Txt.lower ⟨#[c]⟩ := by unfold plain; rw [hb]
      rw [e1, e2]
      refine Ex.cons (Ex1.ite (Tst.cmp (Ev.name in0) Ev.none (o_isnotnone .none false rfl)) (fun h => by cases h) (fun _ => Ex.nil)) ?_
      exact Ex.last (Ex1.ret (Ev.lower (Ev.name in1) hfit (fun _ => rfl) (by kernel_rfl)))
    | some v =>
      obtain ⟨x, t, rfl⟩ := b3_str _ hb
      have e1 : b3D w.params c = .str x := by unfold b3D; rw [hb]
      have e2 : plain w.params c = x := by unfold plain; rw [hb]
      rw [e1, e2]
      exact Ex.last (Ex1.ite (Tst.cmp (Ev.name in0) Ev.none (o_isnotnone (.str x) true rfl)) (fun _ => Ex.last (Ex1.ret (Ev.name in0))) (fun h => by cases h))
end Mine
end
section
set_option maxRecDepth 100000
set_option Elab.async false
set_option linter.unusedVariables false
namespace Mine
open PySem PySem.W PySem.Calls PyProof.Rows
noncomputable def APl : List UInt8 := [65, 66, 67, 68, 69, 70, 71, 72, 73, 74, 75, 76, 77, 78, 79, 80]
noncomputable def vb (n : Nat) : Nat → Array UInt8
  | 0 => #[]
  | i + 1 => #[UInt8.ofNat (65 + n / 16 ^ i % 16)] ++ vb n i
noncomputable def hexLen (n : Nat) : Nat := if n = 0 then 0 else if n < 16 then 1 else if n < 256 then 2 else 3
noncomputable def word (n : Nat) : Array UInt8 := vb n (hexLen n)
theorem vb_size (n : Nat) : ∀ i, (vb n i).size = i
  | 0 => rfl
  | i + 1 => by simp [vb, vb_size n i]; omega
theorem picked_AP : ∀ m : Fin 16, KBy.picked APl.toArray (some (m.val : Int)) (some ((m.val : Int) + 1)) = #[UInt8.ofNat (65 + m.val)] := by decide +kernel
theorem hexLen_le (n : Nat) : hexLen n ≤ 3 := by
  unfold hexLen
  split
  · omega
  split
  · omega
  split <;> omega
theorem hexLen_pos {n i : Nat} (h : i < hexLen n) : n / 16 ^ i ≠ 0 := by
  unfold hexLen at h
  intro e
  have hp : 0 < 16 ^ i := Nat.pow_pos (by decide)
  have hlt : n < 16 ^ i := by
    rcases Nat.lt_or_ge n (16 ^ i) with h | h
    · exact h
    · have := Nat.div_pos h hp; omega
  match i with
  | 0 => simp at hlt; simp [hlt] at h
  | 1 => simp at hlt; split at h <;> simp_all
  | 2 => simp at hlt; repeat' split at h <;> simp_all
  | i + 3 =>
    split at h
    · omega
    split at h
    · omega
    split at h <;> omega
theorem hexLen_end {n : Nat} (h : n < 4096) : n / 16 ^ hexLen n = 0 := by
  unfold hexLen
  apply Nat.div_eq_of_lt
  split
  · simp; omega
  split
  · simp; omega
  split
  · simp; omega
  · simp; omega
theorem wAP (w : World) (a : Int) (n : Nat) (ha : a.natAbs = n) (hn : n < 4096) : Fn (TopIn w) pw w 3 (.ref 21) [.int a] (.byt (word n)) := by
  haveI := upTop w
  refine Fn.of_body (atInt2AP w) (noLim w) (cdInt2AP w) rfl bindInt2AP rfl (by decide) (by decide) rfl rfl rfl rfl fun L => ?_
  show Ex (TopIn w) pw w 2 (callEnvC fdInt2AP L 21) [("num", .dat (.int a))] _ _
  have habs : (if a < 0 then -a else a) = ((n / 16 ^ 0 : Nat) : Int) := by simp; split <;> omega
  refine Ex.cons (Ex1.assign Ev.bytes (.inl (by kernel_rfl)) (drpS in0 (by decide) drp0) (by kernel_rfl)) ?_
  refine Ex.cons (Ex1.assign Ev.bytes (.inl (by kernel_rfl)) (drpS in0 (by decide) (drpS in1 (by decide) drp0)) (by kernel_rfl)) ?_
  refine Ex.cons (Ex1.assign (Ev.cast (Ev.callT (b_int w) (f_int _) (Evs.cons (Ev.callB (b_abs w) (f_abs _) (Evs.cons (Ev.name in2) Evs.nil) (by kernel_rfl)) Evs.nil) (by kernel_rfl)) (by rw [habs])) (.inl (by kernel_rfl)) (drpS in0 (by decide) (drpS in1 (by decide) drp0)) (by kernel_rfl)) ?_
  refine Ex.cons (Ex1.whl (fun i => [("num", .dat (.int (n / 16 ^ i : Nat))), ("AP", .dat (.byt APl.toArray)), ("val", .dat (.byt (vb n i)))]) (hexLen n)
    (subS in0 (subS in1 (subS in2 sub0))) (fun i hi => Tst.val (Ev.name in0) (by have := hexLen_pos hi; generalize n / 16 ^ i = q at *; show some (((q : Nat) : Int) != 0) = some true; rw [bne_iff_ne.mpr (by omega)])) (fun i hi => ?_) (Tst.val (Ev.name in0) (by rw [hexLen_end hn]; rfl))) ?_
  · have hsz := hexLen_le n
    have hvs := vb_size n i
    have e1 : ((n / 16 ^ i : Nat) : Int) / 16 = ((n / 16 ^ (i + 1) : Nat) : Int) := by rw [Nat.pow_succ, ← Nat.div_div_eq_div_mul]; omega
    have e2 : ((n / 16 ^ i : Nat) : Int) % 16 = ((n / 16 ^ i % 16 : Nat) : Int) := by omega
    refine Ex.cons (Ex1.assignT (Ev.callB (b_divmod w) (f_divmod _ _ (by decide) (by decide)) (Evs.cons (Ev.name in0) (Evs.cons Ev.int Evs.nil)) (by kernel_rfl))
      (Asn.tup rfl (by simp [hs24]) (Asns.cons (Asn.name (.inl (by kernel_rfl)) (drpS in1 (by decide) (drpS in2 (by decide) drp0))) (Asns.cons (Asn.name (.inl (by kernel_rfl)) (drpS in0 (by decide) (drpS in1 (by decide) (drpS in2 (by decide) drp0)))) Asns.nil))) (by kernel_rfl) (by kernel_rfl) (by rfl)) ?_
    rw [e1, e2]
    refine Ex.cons (Ex1.assign (d := .byt (vb n (i + 1))) (Ev.cast (Ev.bin (Ev.sliceB (Ev.name in2) (.some (Ev.name in0)) (.some (Ev.bin (Ev.name in0) Ev.int (o_add _ _))) (by simp [hs24, APl])) (Ev.name in3) (o_addb _ _ ?_)) ?_) (.inl (by kernel_rfl)) (drpS in1 (by decide) (drpS in2 (by decide) drp0)) (by kernel_rfl)) ?_
    · rw [picked_AP ⟨n / 16 ^ i % 16, Nat.mod_lt _ (by decide)⟩]
      simp [hvs]; omega
    · rw [picked_AP ⟨n / 16 ^ i % 16, Nat.mod_lt _ (by decide)⟩]; rfl
    · exact Ex.post Ex.nil (subS in1 (subS in2 (subS in0 sub0)))
  · exact Ex.last (Ex1.ret (Ev.name in2))
end Mine
end
section
set_option maxRecDepth 100000
set_option Elab.async false
set_option linter.unusedVariables false
namespace Mine
open PySem PySem.W PySem.Calls PyProof.Rows
noncomputable def tabF : List Int := [0, 1, 2, 4, 7, 8, 9, 10, 11, 12]
noncomputable def tabU : List Int := [173, 847, 6150, 6155, 6156, 6157, 8203, 8204, 8205, 8288, 65279]
noncomputable def spellC (o f : Nat) : Nat := if f < 10 then o + 119743 + 52 * (tabF.getD f 0).toNat else o + 32 * (f - 10)
noncomputable def unseenC (u : Nat) : Nat := if u < 11 then (tabU.getD u 0).toNat else u + 65013
noncomputable def strL (l : List Nat) : Str := ⟨l.toArray⟩
theorem strL_app (a b : List Nat) : strL a ++ strL b = strL (a ++ b) := by
  show (⟨a.toArray ++ b.toArray⟩ : Str) = _
  simp [strL]
noncomputable def spellP (b : List UInt8) (d : Nat) (i : Nat) : List Nat := (List.range i).map fun j => spellC (b.getD j 0).toNat ((d + 5 * j) % 12)
noncomputable def spelled (b : List UInt8) (d : Nat) : List Nat := spellP b d b.length ++ [unseenC ((d + 5 * b.length) % 27)]
theorem spellP_len (b : List UInt8) (d i : Nat) : (spellP b d i).length = i := by simp [spellP]
theorem spellP_succ (b : List UInt8) (d i : Nat) : spellP b d (i + 1) = spellP b d i ++ [spellC (b.getD i 0).toNat ((d + 5 * i) % 12)] := by simp [spellP, List.range_succ]
theorem tabF_le : ∀ f, (tabF.getD f 0) ≤ 12 ∧ 0 ≤ tabF.getD f 0 := by
  intro f
  rcases Nat.lt_or_ge f 10 with h | h
  · have : ∀ f : Fin 10, (tabF.getD f.val 0) ≤ 12 ∧ 0 ≤ tabF.getD f.val 0 := by decide
    exact this ⟨f, h⟩
  · rw [List.getD_eq_getElem?_getD, List.getElem?_eq_none (by simpa [tabF] using h)]; decide
theorem tabU_le : ∀ f, (tabU.getD f 0) ≤ 65279 ∧ 0 ≤ tabU.getD f 0 := by
  intro f
  rcases Nat.lt_or_ge f 11 with h | h
  · have : ∀ f : Fin 11, (tabU.getD f.val 0) ≤ 65279 ∧ 0 ≤ tabU.getD f.val 0 := by decide
    exact this ⟨f, h⟩
  · rw [List.getD_eq_getElem?_getD, List.getElem?_eq_none (by simpa [tabU] using h)]; decide
theorem Evs.int {T : Heap → Prop} [UpT T] {prog : Program} {w : World} {k : Nat} {env : Env} {Γ : Cx} {i : Int} {kk : Nat} {p : Pos} {es : List Expr} {ds : List Mine.D} (hs : Evs T prog w k env Γ es ds) : Evs T prog w k env Γ (.Constant (.int i) kk p :: es) (.int i :: ds) :=
  Evs.cons Ev.int hs
set_option maxHeartbeats 4000000 in
theorem wSpelled (w : World) (b : Array UInt8) (d : Nat) (hb : b.size ≤ 3) (hd : d < 2 ^ 40) : Fn (TopIn w) pw w 3 (.ref 107) [.byt b, .int d] (.str (strL (spelled b.toList d))) := by
  haveI := upTop w
  refine Fn.of_body (atSpelled w) (noLim w) (cdSpelled w) rfl bindSpelled rfl (by decide) (by decide) rfl rfl rfl rfl fun L => ?_
  show Ex (TopIn w) pw w 2 (callEnvC fdSpelled L 107) [("word", .dat (.byt b)), ("dress", .dat (.int d))] _ _
  refine Ex.cons (Ex1.assign (d := .str (strL [])) Ev.str (.inl (by kernel_rfl)) (drpS in0 (by decide) (drpS in1 (by decide) drp0)) (by kernel_rfl)) ?_
  have hlen : b.toList.length = b.size := by simp
  refine Ex.cons (Ex1.loop (xs := b.toList) (enc := fun c => .int (c.toNat : Int)) (fun i => [("text", .dat (.str (strL (spellP b.toList d i)))), ("dress", .dat (.int ((d + 5 * i : Nat) : Int)))])
    (fun i => [("octet", .dat (.int ((b.toList.getD i 0).toNat : Int))), ("text", .dat (.str (strL (spellP b.toList d i)))), ("dress", .dat (.int ((d + 5 * i : Nat) : Int)))])
    (It.bytes (Ev.name in1) (by rw [hs24]; omega)) (subS in0 (subS in2 sub0)) (fun i a ha => ?_) (fun i a ha => ?_)) ?_
  · have e : b.toList.getD i 0 = a := by rw [List.getD_eq_getElem?_getD, ha]; rfl
    rw [e]
    exact Asn.name (.inl (by kernel_rfl)) (drpS in0 (by decide) (drpS in1 (by decide) drp0))
  · have hi : i < 3 := by have := (List.getElem?_eq_some_iff.mp ha).1; omega
    have ho : (b.toList.getD i 0).toNat < 256 := UInt8.toNat_lt _
    generalize hoct : (b.toList.getD i 0).toNat = o at *
    have e12 : ((d + 5 * i : Nat) : Int) % 12 = (((d + 5 * i) % 12 : Nat) : Int) := by omega
    have hf := Nat.mod_lt (d + 5 * i) (show 12 > 0 by decide)
    have hsp : spellP b.toList d (i + 1) = spellP b.toList d i ++ [spellC o ((d + 5 * i) % 12)] := by rw [spellP_succ, hoct]
    generalize hff : (d + 5 * i) % 12 = f at *
    have hpl := spellP_len b.toList d i
    have slen : ∀ c, (strL (spellP b.toList d i)).length + (⟨#[c]⟩ : Str).length ≤ sizeLine := fun c => by
      show (spellP b.toList d i).toArray.size + 1 ≤ _
      simp [hpl, hs24]; omega
    have hT := tabF_le f
    refine Ex.cons (Ex1.assign (d := .int (f : Nat)) (Ev.cast (Ev.bin (Ev.name in2) Ev.int (o_mod _ _ (by decide))) (by rw [e12])) (.inl (by kernel_rfl)) (drpS in0 (by decide) (drpS in1 (by decide) (drpS in2 (by decide) drp0))) (by kernel_rfl)) ?_
    refine Ex.cons (Γ' := [("text", .dat (.str (strL (spellP b.toList d (i + 1))))), ("dress", .dat (.int ((d + 5 * i : Nat) : Int)))]) (Ex1.ite (b := decide (((f : Nat) : Int) < 10)) (Tst.cmp (Ev.name in0) Ev.int (o_lt _ _)) (fun hc => ?_) (fun hc => ?_)) ?_
    · have hc : f < 10 := by have := of_decide_eq_true hc; omega
      refine Ex.post (Ex.cons (Ex1.aug in2 (Ev.callB (b_chr w) (f_chr ((o : Int) + 119743 + 52 * tabF.getD f 0) (by omega) (by omega)) (Evs.cons (Ev.bin (Ev.bin (Ev.name in1) Ev.int (o_add _ _)) (Ev.bin Ev.int (Ev.sub (Ev.tup (Evs.int (Evs.int (Evs.int (Evs.int (Evs.int (Evs.int (Evs.int (Evs.int (Evs.int (Evs.int Evs.nil)))))))))) (by simp [hs24])) (Ev.name in0) (sub_tup _ f _ (getInt (l := tabF) (by simpa [tabF] using hc)) (by omega)))
        (o_mul _ _ ?_)) (o_add _ _)) Evs.nil) (by kernel_rfl)) (o_iadds _ _ (slen _)) (.inl (by kernel_rfl)) (drpS in3 (by decide) drp0)) Ex.nil) (subS ?_ (subS in1 sub0))
      · exact IntMulOk.of_left (by decide)
      · rw [hsp, ← strL_app]
        have e : spellC o f = ((o : Int) + 119743 + 52 * tabF.getD f 0).toNat := by unfold spellC; rw [if_pos hc]; omega
        rw [e]; exact in0
    · have hc : ¬ f < 10 := by have := of_decide_eq_false hc; omega
      refine Ex.post (Ex.cons (Ex1.aug in2 (Ev.callB (b_chr w) (f_chr ((o : Int) + 32 * ((f : Int) - 10)) (by omega) (by omega)) (Evs.cons (Ev.bin (Ev.name in1) (Ev.bin Ev.int (Ev.bin (Ev.name in0) Ev.int (o_sub _ _)) (o_mul _ _ ?_)) (o_add _ _)) Evs.nil) (by kernel_rfl)) (o_iadds _ _ (slen _)) (.inl (by kernel_rfl)) (drpS in3 (by decide) drp0)) Ex.nil) (subS ?_ (subS in1 sub0))
      · exact IntMulOk.of_left (by decide)
      · rw [hsp, ← strL_app]
        have e : spellC o f = ((o : Int) + 32 * ((f : Int) - 10)).toNat := by unfold spellC; rw [if_neg hc]; omega
        rw [e]; exact in0
    · refine Ex.post (Ex.cons (Ex1.aug in1 Ev.int (o_iadd _ _) (.inl (by kernel_rfl)) (drpS in0 (by decide) drp0)) Ex.nil) (subS in1 (subS ?_ sub0))
      have : ((d + 5 * (i + 1) : Nat) : Int) = ((d + 5 * i : Nat) : Int) + 5 := by omega
      rw [this]; exact in0
  · rw [hlen]
    have hd2 : ((d + 5 * b.size : Nat) : Int) % 27 = (((d + 5 * b.size) % 27 : Nat) : Int) := by omega
    have hu := Nat.mod_lt (d + 5 * b.size) (show 27 > 0 by decide)
    have hpl := spellP_len b.toList d b.size
    have hsp : spelled b.toList d = spellP b.toList d b.size ++ [unseenC ((d + 5 * b.size) % 27)] := by unfold spelled; rw [hlen]
    rw [hsp, ← strL_app]
    generalize (d + 5 * b.size) % 27 = u at *
    have hT := tabU_le u
    have hci : 0 ≤ (if decide ((u : Int) < 11) = true then tabU.getD u 0 else (u : Int) + 65013) ∧ (if decide ((u : Int) < 11) = true then tabU.getD u 0 else (u : Int) + 65013) ≤ 0x10FFFF ∧ (if decide ((u : Int) < 11) = true then tabU.getD u 0 else (u : Int) + 65013).toNat = unseenC u := by
      unfold unseenC
      by_cases hc : u < 11
      · have e : decide ((u : Int) < 11) = true := decide_eq_true (by omega)
        rw [e, if_pos rfl, if_pos hc]; omega
      · have e : decide ((u : Int) < 11) = false := decide_eq_false (by omega)
        rw [e, if_neg (by decide), if_neg hc]; omega
    refine Ex.cons (Ex1.assign (d := .int (u : Nat)) (Ev.cast (Ev.bin (Ev.name in1) Ev.int (o_mod _ _ (by decide))) (by rw [hd2])) (.inl (by kernel_rfl)) (drpS in0 (by decide) drp0) (by kernel_rfl)) ?_
    refine Ex.last (Ex1.ret (Ev.bin (Ev.name in1) (Ev.cast (Ev.callB (b_chr w) (f_chr _ hci.1 hci.2.1) (Evs.cons (Ev.cast (Ev.ifexp (d₁ := .int (tabU.getD u 0)) (d₂ := .int ((u : Int) + 65013)) (Tst.cmp (Ev.name in0) Ev.int (o_lt _ _)) (fun hc => ?_) (fun hc => Ev.bin (Ev.name in0) Ev.int (o_add _ _))) ?_) Evs.nil) (by kernel_rfl)) (by rw [hci.2.2]; rfl)) (o_adds _ _ ?_)))
    · exact Ev.sub (Ev.tup (Evs.int (Evs.int (Evs.int (Evs.int (Evs.int (Evs.int (Evs.int (Evs.int (Evs.int (Evs.int (Evs.int Evs.nil))))))))))) (by simp [hs24])) (Ev.name in0) (sub_tup _ u _ (getInt (l := tabU) (by have := of_decide_eq_true hc; simp [tabU]; omega)) (by omega))
    · split <;> rfl
    · show (spellP b.toList d b.size).toArray.size + 1 ≤ _
      simp [hpl, hs24]; omega
end Mine
end
section
set_option maxRecDepth 100000
set_option Elab.async false
set_option linter.unusedVariables false
namespace Mine
open PySem PySem.W PySem.Calls PyProof.Rows
noncomputable def encL (l : List Int) : Mine.D := .list (l.map .int)
theorem It.rangeN {T : Heap → Prop} [UpT T] {prog : Program} {w : World} {k : Nat} {env : Env} {Γ : Cx} {nm : Str} {p pos : Pos} {e : Expr} {n : Nat} (x : Glob T env.globals env.builtins nm (.type "range")) (h : Ev T prog w k env Γ e (.int (n : Nat))) (hx : env.kindOf nm = some .globalImplicit) (hn : n ≤ sizeLine)
    (hd : (nm == ("__debug__" : Str)) = false := by decide) (he : ∀ env, starEach [e] env = [(false, eval e env)] := by intro _; rfl) : It T prog w k env Γ (.Call (.Name nm p) [e] [] pos) ((List.range n).map fun k => .int ((k : Nat) : Int)) := by
  have := It.range1 (p := p) (pos := pos) x h hx (by omega) (by omega) hd he
  simpa [rangeD] using this
theorem length_enc (l : List Int) : ((l.map Mine.D.int).length : Int) = (l.length : Nat) := by simp
set_option maxHeartbeats 4000000 in
theorem wLast (w : World) (rings : List (List Int)) (hr : ∀ r ∈ rings, 1 ≤ r.length ∧ r.length ≤ 100) (h64 : (turnsOf rings).length < 64) (hl : rings.length ≤ 100) : Fn (TopIn w) pw w 4 (.ref 126) [.list (rings.map encL)] (.list ((lastOf rings).map .int)) := by
  haveI := upTop w
  refine Fn.of_body (atLast w) (noLim w) (cdLast w) rfl bindLast rfl (by decide) (by decide) rfl rfl rfl rfl fun L => ?_
  show Ex (TopIn w) pw w 3 (callEnvC fdLast L 126) [("rings", .dat (.list (rings.map encL)))] _ _
  have tlen : ∀ i, (turnsOf (rings.take i)).length ≤ (turnsOf rings).length := fun i => by
    unfold turnsOf
    conv => rhs; rw [← List.take_append_drop i rings, List.flatMap_append, List.length_append]
    exact Nat.le_add_right _ _
  refine Ex.cons (Ex1.assignF (EvF.list Evs.nil (by simp)) (.inl (by kernel_rfl)) (drpS in0 (by decide) drp0) (by kernel_rfl)) ?_
  refine Ex.cons (Ex1.loop (xs := rings) (enc := encL) (fun i => [("turns", .own ((turnsOf (rings.take i)).map encL))]) (fun i => [("ring", .dat (encL (rings.getD i []))), ("turns", .own ((turnsOf (rings.take i)).map encL))])
    (It.of (Ev.name in1) rfl (by simp [hs24]; omega)) (subS in0 sub0) (fun i a ha => ?_) (fun i a ha => ?_)) ?_
  · have e : rings.getD i [] = a := by rw [List.getD_eq_getElem?_getD, ha]; rfl
    rw [e]; exact Asn.name (.inl (by kernel_rfl)) (drpS in0 (by decide) drp0)
  · have e : rings.getD i [] = a := by rw [List.getD_eq_getElem?_getD, ha]; rfl
    rw [e]
    obtain ⟨ha1, ha2⟩ := hr a (List.mem_of_getElem? ha)
    have hti := tlen (i + 1)
    have htake : rings.take (i + 1) = rings.take i ++ [a] := by rw [List.take_add_one, ha]; rfl
    have e1 : turnsOf (rings.take (i + 1)) = turnsOf (rings.take i) ++ (List.range a.length).map (turnOf a) := by rw [htake]; unfold turnsOf; rw [List.flatMap_append]; simp
    rw [e1] at hti ⊢
    simp only [List.length_append, List.length_map, List.length_range] at hti
    refine Ex.post (Ex.cons (Ex1.loop (xs := List.range a.length) (enc := fun k => .int (k : Nat)) (fun k => [("turns", .own ((turnsOf (rings.take i) ++ (List.range k).map (turnOf a)).map encL)), ("ring", .dat (encL a))])
      (fun k => [("k", .dat (.int (k : Nat))), ("turns", .own ((turnsOf (rings.take i) ++ (List.range k).map (turnOf a)).map encL)), ("ring", .dat (encL a))])
      ?_ (subS (by simp) (subS in0 sub0)) (fun k b hb => ?_) (fun k b hb => ?_)) Ex.nil) (subS (by simp) sub0)
    · exact It.rangeN (b_range w) (Ev.cast (Ev.callB (b_len w) (f_len _ (by simp [hs24]; omega)) (Evs.cons (Ev.name in0) Evs.nil) (by kernel_rfl)) (by simp)) (by kernel_rfl) (by rw [hs24]; omega)
    · have : b = k := by
        have h := (List.getElem?_eq_some_iff.mp hb)
        obtain ⟨h1, h2⟩ := h
        simpa using h2.symm
      subst this
      exact Asn.name (.inl (by kernel_rfl)) (drpS in0 (by decide) (drpS in1 (by decide) drp0))
    · have hk : k < a.length := by simpa using (List.getElem?_eq_some_iff.mp hb).1
      have hsl := hs24
      have esub : ∀ {L pos1 pos2 pos3 pos4 pos5}, Ev (TopIn w) pw w 3 (callEnvC fdLast L 126) [("k", .dat (.int (k : Nat))), ("turns", .own ((turnsOf (rings.take i) ++ (List.range k).map (turnOf a)).map encL)), ("ring", .dat (encL a))]
          (.Subscript (.Name "ring" pos1) (.BinOp (.Name "k" pos2) .Sub (.Constant (.int 1) 0 pos3) pos4) pos5) (.int (if k = 0 then a.getD (a.length - 1) 0 else a.getD (k - 1) 0)) := by
        intros
        by_cases h0 : k = 0
        · subst h0
          rw [if_pos rfl]
          refine Ev.sub (Ev.name in2) (Ev.bin (Ev.name in0) Ev.int (o_sub _ _)) (sub_list_neg _ _ _ (by decide) (by simp; omega) (by decide) ?_)
          rw [← getInt (by omega)]
          congr 1
          simp; omega
        · rw [if_neg h0]
          refine Ev.sub (Ev.name in2) (Ev.cast (Ev.bin (Ev.name in0) Ev.int (o_sub _ _)) (d' := .int ((k - 1 : Nat) : Int)) (by congr 1; omega)) (sub_list _ _ _ (getInt (by omega)) (by omega))
      refine Ex.post (Ex.cons (Ex1.append in1 (Ev.bin (Ev.bin (Ev.sliceFrom (Ev.name in2) (Ev.name in0) (by simp; omega)) (Ev.name in2) (o_addl _ _ (by simp; omega))) (Ev.list (Evs.cons esub Evs.nil) (by simp [hs24])) (o_addl _ _ (by simp; omega))) (drpS in2 (by decide) drp0) (by simp; omega) (by kernel_rfl) (by kernel_rfl) (by kernel_rfl) (by kernel_rfl) (by kernel_rfl) (by kernel_rfl)) Ex.nil) (subS ?_ (subS in1 sub0))
      have e2 : (turnsOf (rings.take i) ++ (List.range (k + 1)).map (turnOf a)).map encL = (turnsOf (rings.take i) ++ (List.range k).map (turnOf a)).map encL ++ [.list ((a.map Mine.D.int).drop k ++ a.map Mine.D.int ++ [.int (if k = 0 then a.getD (a.length - 1) 0 else a.getD (k - 1) 0)])] := by
        have e3 : (List.range (k + 1)).map (turnOf a) = (List.range k).map (turnOf a) ++ [turnOf a k] := by simp [List.range_succ]
        rw [e3, ← List.append_assoc, List.map_append (l₂ := [turnOf a k])]
        congr 1
        simp [encL, turnOf]
      rw [e2]; exact in0
  · have hts : (turnsOf (rings.take rings.length)) = turnsOf rings := by rw [List.take_length]
    rw [hts]
    refine Ex.freeze in0 drp0 ?_
    have hne : ∀ t ∈ sortL (turnsOf rings), 1 ≤ t.length := fun t ht => by
      have := (sortL_perm _).mem_iff.mp ht
      obtain ⟨r, hr, hk⟩ := List.mem_flatMap.mp this
      obtain ⟨k, _, rfl⟩ := List.mem_map.mp hk
      simp [turnOf]; omega
    have hsl := (sortL_perm (turnsOf rings)).length_eq
    refine Ex.last (Ex1.ret (Ev.cast (EvF.ev (EvF.comp (xs := sortL (turnsOf rings)) (enc := encL) (p := fun _ => true) (f := fun t => .int (t.getD (t.length - 1) 0)) (Γc := [])
      (It.of (Ev.callB (b_sorted w) (f_sorted (turnsOf rings) h64) (Evs.cons (Ev.name in0) Evs.nil) (by kernel_rfl)) rfl (by rw [List.length_map, hsl, hs24]; omega)) (CellsFull.call _ _ _) (by kernel_rfl) (by kernel_rfl) cap0
      (fun C cl a ha => Tsts.nil) (fun C cl a ha hp => Ev.sub (Ev.name in0) (Ev.un Ev.int (o_neg _)) (sub_list_neg _ _ _ (by decide) (by have := hne a ha; simp; omega) (by decide) ?_)))) ?_))
    · have := hne a ha
      rw [← getInt (by omega)]
      congr 1
      simp; omega
    · have hf : (sortL (turnsOf rings)).filter (fun _ => true) = sortL (turnsOf rings) := List.filter_eq_self.mpr fun _ _ => rfl
      rw [hf]; simp [lastOf]
end Mine
end
section
set_option maxRecDepth 100000
set_option Elab.async false
set_option linter.unusedVariables false
namespace Mine
open PySem PySem.W PySem.Calls PyProof.Rows
/-- a drawn line: first, sign, second, sought, dress -/
structure Drawn5 where
  first : Nat
  sign : Nat
  second : Nat
  sought : Nat
  dress : Nat
noncomputable def Drawn5.d (d : Drawn5) : Mine.D := .list [.int d.first, .int d.sign, .int d.second, .int d.sought, .int d.dress]
structure Drawn5.Ok (d : Drawn5) : Prop where
  first : d.first < 1000
  sign : d.sign < 23
  second : d.second < 1000
  sought : 1 ≤ d.sought ∧ d.sought ≤ 100
  dress : d.dress < 2 ^ 32
/-- the signs -/
noncomputable def sgnL : List Nat := [40, 41, 91, 93, 58, 44, 43, 45, 42, 47, 124, 38, 60, 62, 61, 46, 37, 123, 125, 126, 94, 64, 33]
noncomputable def lineW (d : Drawn5) : List Nat := spelled (word d.first).toList d.dress ++ [sgnL.getD d.sign 0] ++ spelled (word d.second).toList (d.dress + 1) ++ [59]
noncomputable def written (ds : List Drawn5) : List Nat := ds.flatMap lineW
theorem spelled_len (b : List UInt8) (d : Nat) : (spelled b d).length = b.length + 1 := by simp [spelled, spellP_len]
theorem word_size (n : Nat) : (word n).size ≤ 3 := by unfold word; rw [vb_size]; exact hexLen_le n
theorem lineW_len (d : Drawn5) : (lineW d).length ≤ 10 := by
  have h1 := word_size d.first
  have h2 := word_size d.second
  simp [lineW, spelled_len]; omega
theorem written_len : ∀ ds : List Drawn5, (written ds).length ≤ 10 * ds.length
  | [] => by simp [written]
  | d :: ds => by
    have h1 := lineW_len d
    have h2 := written_len ds
    unfold written at h2 ⊢
    rw [List.flatMap_cons, List.length_append, List.length_cons]; omega
theorem strL_len (l : List Nat) : (strL l).length = l.length := by simp [strL, Str.length]
set_option maxHeartbeats 4000000 in
theorem wWritten (w : World) (ds : List Drawn5) (hl : ds.length ≤ 3) (hok : ∀ d ∈ ds, d.Ok) : Fn (TopIn w) pw w 4 (.ref 114) [.list (ds.map Drawn5.d)] (.str (strL (written ds))) := by
  haveI := upTop w
  refine Fn.of_body (atWritten w) (noLim w) (cdWritten w) rfl bindWritten rfl (by decide) (by decide) rfl rfl rfl rfl fun L => ?_
  show Ex (TopIn w) pw w 3 (callEnvC fdWritten L 114) [("drawn", .dat (.list (ds.map Drawn5.d)))] _ _
  have hs := hs24
  refine Ex.cons (Ex1.assign (d := .str (strL [])) Ev.str (.inl (by kernel_rfl)) (drpS in0 (by decide) drp0) (by kernel_rfl)) ?_
  refine Ex.cons (Ex1.loop (xs := ds) (enc := Drawn5.d) (fun i => [("text", .dat (.str (strL (written (ds.take i)))))])
    (fun i => [("dress", .dat (.int (ds.getD i ⟨0, 0, 0, 0, 0⟩).dress)), ("sought", .dat (.int (ds.getD i ⟨0, 0, 0, 0, 0⟩).sought)), ("second", .dat (.int (ds.getD i ⟨0, 0, 0, 0, 0⟩).second)), ("sign", .dat (.int (ds.getD i ⟨0, 0, 0, 0, 0⟩).sign)), ("first", .dat (.int (ds.getD i ⟨0, 0, 0, 0, 0⟩).first)), ("text", .dat (.str (strL (written (ds.take i)))))])
    (It.of (Ev.name in1) rfl (by simp; omega)) (subS in0 sub0) (fun i a ha => ?_) (fun i a ha => ?_)) ?_
  · have e : ds.getD i ⟨0, 0, 0, 0, 0⟩ = a := by rw [List.getD_eq_getElem?_getD, ha]; rfl
    rw [e]
    exact Asn.tup (d := a.d) rfl (by simp [hs]) (Asns.cons (Asn.name (.inl (by kernel_rfl)) (drpS in0 (by decide) drp0)) (Asns.cons (Asn.name (.inl (by kernel_rfl)) (drpS in0 (by decide) (drpS in1 (by decide) drp0))) (Asns.cons (Asn.name (.inl (by kernel_rfl)) (drpS in0 (by decide) (drpS in1 (by decide) (drpS in2 (by decide) drp0))))
      (Asns.cons (Asn.name (.inl (by kernel_rfl)) (drpS in0 (by decide) (drpS in1 (by decide) (drpS in2 (by decide) (drpS in3 (by decide) drp0))))) (Asns.cons (Asn.name (.inl (by kernel_rfl)) (drpS in0 (by decide) (drpS in1 (by decide) (drpS in2 (by decide) (drpS in3 (by decide) (drpS in4 (by decide) drp0)))))) Asns.nil)))))
  · have e : ds.getD i ⟨0, 0, 0, 0, 0⟩ = a := by rw [List.getD_eq_getElem?_getD, ha]; rfl
    rw [e]
    obtain ⟨o1, o2, o3, o4, o5⟩ := hok a (List.mem_of_getElem? ha)
    have htake : ds.take (i + 1) = ds.take i ++ [a] := by rw [List.take_add_one, ha]; rfl
    have e1 : written (ds.take (i + 1)) = written (ds.take i) ++ lineW a := by rw [htake]; unfold written; rw [List.flatMap_append]; simp
    have w1 := word_size a.first
    have w2 := word_size a.second
    have l1 := written_len (ds.take i)
    have l2 : (ds.take i).length ≤ ds.length := by rw [List.length_take]; exact Nat.min_le_right _ _
    have l3 := spelled_len (word a.first).toList a.dress
    have l4 := spelled_len (word a.second).toList (a.dress + 1)
    simp only [Array.length_toList] at l3 l4
    have hsg : (⟨sgnL.toArray⟩ : Str).cps[a.sign]? = some (sgnL.getD a.sign 0) := by
      have : a.sign < sgnL.length := by simpa [sgnL] using o2
      simp [this]
    refine Ex.post (Ex.cons (Ex1.aug in5 (Ev.bin (Ev.bin (Ev.bin
      (Ev.callF (gSpelled w) (fnSpelled w) (wSpelled w _ a.dress w1 (by omega)) (Evs.cons (Ev.callF (gInt2AP w) (fnInt2AP w) (wAP w _ a.first (by omega) (by omega)) (Evs.cons (Ev.un (Ev.name in4) (o_neg _)) Evs.nil) (by kernel_rfl)) (Evs.cons (Ev.name in0) Evs.nil)) (by kernel_rfl))
      (Ev.sub (Ev.cast Ev.str (d' := .str ⟨sgnL.toArray⟩) (by kernel_rfl)) (Ev.name in3) (sub_str _ a.sign _ hsg (by omega))) (o_adds _ _ ?_))
      (Ev.callF (gSpelled w) (fnSpelled w) (wSpelled w _ (a.dress + 1) w2 (by omega)) (Evs.cons (Ev.callF (gInt2AP w) (fnInt2AP w) (wAP w _ a.second (by omega) (by omega)) (Evs.cons (Ev.name in2) Evs.nil) (by kernel_rfl)) (Evs.cons (Ev.bin (Ev.name in0) Ev.int (o_add _ _)) Evs.nil)) (by kernel_rfl)) (o_adds _ _ ?_))
      (Ev.cast Ev.str (d' := .str (strL [59])) (by kernel_rfl)) (o_adds _ _ ?_)) (d := .str (strL (written (ds.take (i + 1))))) ?_ (.inl (by kernel_rfl)) drp0) Ex.nil) (subS in0 sub0)
    · show (strL _).length + (strL [sgnL.getD a.sign 0]).length ≤ _
      rw [strL_len, strL_len, l3]; simp; omega
    · show (strL _ ++ strL [sgnL.getD a.sign 0]).length + (strL _).length ≤ _
      rw [strL_app, strL_len, strL_len, List.length_append, l3, l4]; simp; omega
    · show (strL _ ++ strL [sgnL.getD a.sign 0] ++ strL _).length + (strL [59]).length ≤ _
      rw [strL_app, strL_app, strL_len, strL_len, List.length_append, List.length_append, l3, l4]; simp; omega
    · have e2 : strL (written (ds.take (i + 1))) = strL (written (ds.take i)) ++ (strL (spelled (word a.first).toList a.dress) ++ strL [sgnL.getD a.sign 0] ++ strL (spelled (word a.second).toList (a.dress + 1)) ++ strL [59]) := by
        rw [e1]; unfold lineW; simp only [strL_app]
      rw [e2]
      refine o_iadds _ _ ?_
      show (strL _).length + (strL _ ++ strL [sgnL.getD a.sign 0] ++ strL _ ++ strL [59]).length ≤ _
      simp only [strL_app, strL_len, List.length_append, l3, l4]; simp; omega
  · rw [List.take_length]
    exact Ex.last (Ex1.ret (Ev.name in0))
end Mine
end
section
set_option maxRecDepth 100000
set_option Elab.async false
set_option linter.unusedVariables false
namespace Mine
open PySem PySem.W PySem.Calls PyProof.Rows
noncomputable def AllEk (P : Params) : List DictEntry → Prop
  | [] => True
  | e :: r => (∃ x t v, e = ek P x t v) ∧ AllEk P r
theorem AllEk.mem {P : Params} : ∀ {l : List DictEntry}, AllEk P l → ∀ e ∈ l, ∃ x t v, e = ek P x t v
  | [], _, _, h => by cases h
  | _ :: _, ⟨h1, h2⟩, e, h => by
    rcases List.mem_cons.mp h with rfl | h
    · exact h1
    · exact h2.mem e h
theorem get86 (P : Params) : (H1e P).get? 86 = some (o86_8 P) := by kernel_rfl
theorem all86 (P : Params) : AllEk P (entsOf (o86_8 P)).toList := by
  show AllEk P [_, _, _, _, _, _, _, _, _, _, _, _, _, _, _, _, _, _, _, _, _, _, _, _, _, _, _, _, _, _, _, _, _, _, _, _, _, _, _, _, _, _, _, _, _, _, _, _]
  repeat (first | exact trivial | refine ⟨⟨_, _, _, rfl⟩, ?_⟩)
noncomputable def tokV (P : Params) (x : Str) : Option Value := findBy Value.isStrOf (entsOf (o86_8 P)) x
theorem map86 (w : World) : ∀ h, TopIn w h → h.MapOf (strKind pw w) 86 (tokV w.params) := fun h t => by
  refine ⟨o86_8 w.params, entsOf (o86_8 w.params), _, t _ _ (get86 w.params), ⟨rfl, rfl, rfl⟩, rfl, fun e he => ?_, fun c => rfl⟩
  obtain ⟨x, t, v, rfl⟩ := (all86 w.params).mem e (by simpa using he)
  exact ⟨x, show (x == x) = true from beq_self_eq_true x, rfl⟩
noncomputable def valInt (e : DictEntry) : Bool := match e.val with | .int _ _ => true | _ => false
theorem tok_int (P : Params) {x : Str} {v : Value} (h : tokV P x = some v) : ∃ i t, v = .int i t := by
  have h1 : (entsOf (o86_8 P)).toList.all valInt = true := by kernel_rfl
  unfold tokV findBy at h
  obtain ⟨e, he, rfl⟩ := Option.map_eq_some_iff.mp h
  have hm := Array.mem_of_find?_eq_some he
  have := List.all_eq_true.mp h1 e (by simpa using hm)
  unfold valInt at this
  split at this
  · rename_i i t hk; exact ⟨i, t, hk⟩
  · cases this
noncomputable def tokI (P : Params) (x : Str) : Option Int := match tokV P x with | some (.int i _) => some i | _ => none
noncomputable def ord1 (x : Str) : Nat := x.cps.getD 0 0
noncomputable def readStep (P : Params) (st : List (List Int) × List Int) (c : Nat) : List (List Int) × List Int :=
  if inB1 c = true then st else match tokI P (plain P c) with
    | none => (st.1, st.2 ++ [(ord1 (plain P c) : Int) + 159])
    | some t => if t = 13 then (st.1 ++ [st.2 ++ [0]], []) else (st.1, st.2 ++ [t])
noncomputable def readL (P : Params) (cs : List Nat) : List (List Int) × List Int := cs.foldl (readStep P) ([], [])
structure GoodC (P : Params) (c : Nat) : Prop where
  fit : Builtin.Str.tooLong (Txt.lower ⟨#[c]⟩).length = false
  one : inB1 c = false → tokI P (plain P c) = none → ∃ k, plain P c = ⟨#[k]⟩
end Mine
end
section
set_option maxRecDepth 100000
set_option Elab.async false
set_option linter.unusedVariables false
namespace Mine
open PySem PySem.W PySem.Calls PyProof.Rows
theorem readL_succ (P : Params) (cs : List Nat) {i c : Nat} (h : cs[i]? = some c) : readL P (cs.take (i + 1)) = readStep P (readL P (cs.take i)) c := by
  have : cs.take (i + 1) = cs.take i ++ [c] := by rw [List.take_add_one, h]; rfl
  unfold readL; rw [this, List.foldl_append]; rfl
theorem readStep_len (P : Params) (st : List (List Int) × List Int) (c : Nat) : (readStep P st c).1.length ≤ st.1.length + 1 ∧ (readStep P st c).2.length ≤ st.2.length + 1 := by
  unfold readStep
  split
  · omega
  · split
    · simp
    · split <;> simp
theorem readL_len (P : Params) (cs : List Nat) : ∀ i, i ≤ cs.length → (readL P (cs.take i)).1.length ≤ i ∧ (readL P (cs.take i)).2.length ≤ i
  | 0, _ => by simp [readL]
  | i + 1, h => by
    obtain ⟨c, hc⟩ : ∃ c, cs[i]? = some c := ⟨cs[i], by simp⟩
    have ih := readL_len P cs i (by omega)
    have := readStep_len P (readL P (cs.take i)) c
    rw [readL_succ P cs hc]; omega
set_option maxHeartbeats 4000000 in
theorem wRead (w : World) (cs : List Nat) (hl : cs.length ≤ 1000) (hg : ∀ c ∈ cs, GoodC w.params c) : Fn (TopIn w) pw w 4 (.ref 121) [.str (strL cs)] (.list ((readL w.params cs).1.map encL)) := by
  haveI := upTop w
  refine Fn.of_body (atRead w) (noLim w) (cdRead w) rfl bindRead rfl (by decide) (by decide) rfl rfl rfl rfl fun L => ?_
  show Ex (TopIn w) pw w 3 (callEnvC fdRead L 121) [("text", .dat (.str (strL cs)))] _ _
  have hs := hs24
  refine Ex.cons (Ex1.assignF (EvF.list Evs.nil (by simp)) (.inl (by kernel_rfl)) (drpS in0 (by decide) drp0) (by kernel_rfl)) ?_
  refine Ex.cons (Ex1.assignF (EvF.list Evs.nil (by simp)) (.inl (by kernel_rfl)) (drpS in0 (by decide) (drpS in1 (by decide) drp0)) (by kernel_rfl)) ?_
  refine Ex.cons (Ex1.loop (xs := cs) (enc := fun c => .str ⟨#[c]⟩) (fun i => [("rings", .own ((readL w.params (cs.take i)).1.map encL)), ("line", .own ((readL w.params (cs.take i)).2.map .int))])
    (fun i => [("sign", .dat (.str ⟨#[cs.getD i 0]⟩)), ("rings", .own ((readL w.params (cs.take i)).1.map encL)), ("line", .own ((readL w.params (cs.take i)).2.map .int))])
    (It.of (Ev.name in2) (by simp [iterD, strL]) (by simp; omega)) (subS in1 (subS in0 sub0)) (fun i a ha => ?_) (fun i a ha => ?_)) ?_
  · have e : cs.getD i 0 = a := by rw [List.getD_eq_getElem?_getD, ha]; rfl
    rw [e]
    exact Asn.name (.inl (by kernel_rfl)) (drpS in0 (by decide) (drpS in1 (by decide) drp0))
  · have e : cs.getD i 0 = a := by rw [List.getD_eq_getElem?_getD, ha]; rfl
    rw [e]
    have hi : i < cs.length := (List.getElem?_eq_some_iff.mp ha).1
    have hlen := readL_len w.params cs i (by omega)
    obtain ⟨g1, g2⟩ := hg a (List.mem_of_getElem? ha)
    rw [readL_succ w.params cs ha]
    generalize readL w.params (cs.take i) = st at *
    obtain ⟨R, ln⟩ := st
    dsimp only at hlen ⊢
    have e86 : ∀ {k : Nat} {Γ : Cx} {pos : Pos}, Ev (TopIn w) pw w k (callEnvC fdRead L 121) Γ (.Name "EXACT_TOKEN_TYPES" pos) (.obj 86) := fun {k Γ pos} =>
      Ev.glob (gl_of fun P => (by kernel_rfl : nsFind (entsOf (o3_9 P)) "EXACT_TOKEN_TYPES" = some (.ref 86))) (fun X h => .obj _) (by kernel_rfl)
    cases hb : inB1 a with
    | true =>
      have e1 : readStep w.params (R, ln) a = (R, ln) := by unfold readStep; rw [if_pos hb]
      rw [e1]
      refine Ex.cons (Ex1.ite (Tst.not (Tst.val (Ev.callF (gInB1 w) (fnInB1 w) (wInB1 w a) (Evs.cons (Ev.name in0) Evs.nil) (by kernel_rfl)) (by rw [hb]; rfl))) (fun h => by cases h) (fun _ => Ex.post (Γ' := [("rings", .own (R.map encL)), ("line", .own (ln.map .int))]) Ex.nil (subS in1 (subS in2 sub0)))) Ex.nil
    | false =>
      refine Ex.cons (Ex1.ite (Tst.not (Tst.val (Ev.callF (gInB1 w) (fnInB1 w) (wInB1 w a) (Evs.cons (Ev.name in0) Evs.nil) (by kernel_rfl)) (by rw [hb]; rfl))) (fun _ => ?_) (fun h => by cases h)) Ex.nil
      refine Ex.cons (Ex1.assign (Ev.callF (gMapB3 w) (fnMapB3 w) (wMapB3 w a g1) (Evs.cons (Ev.name in0) Evs.nil) (by kernel_rfl)) (.inl (by kernel_rfl)) (drpS in1 (by decide) (drpS in2 (by decide) drp0)) (by kernel_rfl)) ?_
      have hnb : ¬ inB1 a = true := by rw [hb]; decide
      cases ht : tokV w.params (plain w.params a) with
      | none =>
        have e0 : tokI w.params (plain w.params a) = none := by unfold tokI; rw [ht]
        obtain ⟨kk, hk⟩ := g2 hb e0
        have e1 : readStep w.params (R, ln) a = (R, ln ++ [(kk : Int) + 159]) := by unfold readStep; rw [if_neg hnb, e0, hk]; rfl
        rw [e1]
        refine Ex.cons (Ex1.ite (b := true) (Tst.cast (Tst.cmp (Ev.name in0) e86 (o_notindict 86 (tokV w.params) _ (by decide) (map86 w))) (by rw [ht]; rfl)) (fun _ => ?_) (fun h => by cases h)) Ex.nil
        rw [hk]
        refine Ex.post (Ex.cons (Ex1.append in2 (Ev.bin (Ev.callB (b_ord w) (f_ord kk) (Evs.cons (Ev.name in0) Evs.nil) (by kernel_rfl)) Ev.int (o_add _ _)) (drpS in1 (by decide) drp0) (by simp; omega) (by kernel_rfl) (by kernel_rfl) (by kernel_rfl) (by kernel_rfl) (by kernel_rfl) (by kernel_rfl)) Ex.nil) (subS in1 (subS (by simp) sub0))
      | some v =>
        obtain ⟨t, tk, rfl⟩ := tok_int _ ht
        have e0 : tokI w.params (plain w.params a) = some t := by unfold tokI; rw [ht]
        have e1 : readStep w.params (R, ln) a = if t = 13 then (R ++ [ln ++ [0]], []) else (R, ln ++ [t]) := by unfold readStep; rw [if_neg hnb, e0]
        rw [e1]
        refine Ex.cons (Ex1.ite (b := false) (Tst.cast (Tst.cmp (Ev.name in0) e86 (o_notindict 86 (tokV w.params) _ (by decide) (map86 w))) (by rw [ht]; rfl)) (fun h => by cases h) (fun _ => ?_)) Ex.nil
        refine Ex.cons (Ex1.ite (b := (t == 13)) (Tst.cmp (Ev.sub e86 (Ev.name in0) (sub_dict 86 (tokV w.params) _ _ (.int t) (map86 w) ht (fun X h => .int _ _))) Ev.int (o_eq _ _)) (fun h => ?_) (fun h => ?_)) Ex.nil
        · rw [if_pos (by simpa using h)]
          refine Ex.freeze in2 (drpS in1 (by decide) drp0) ?_
          refine Ex.cons (Ex1.append in1 (Ev.bin (Ev.name in0) (Ev.list (Evs.cons Ev.int Evs.nil) (by simp [hs])) (o_addl _ _ (by simp; omega))) drp0 (by simp; omega) (by kernel_rfl) (by kernel_rfl) (by kernel_rfl) (by kernel_rfl) (by kernel_rfl) (by kernel_rfl)) ?_
          refine Ex.post (Ex.cons (Ex1.assignF (EvF.list Evs.nil (by simp)) (.inl (by kernel_rfl)) (drpS in0 (by decide) drp0) (by kernel_rfl)) Ex.nil) (subS (by simp [encL]) (subS in0 sub0))
        · rw [if_neg (by simpa using h)]
          refine Ex.post (Ex.cons (Ex1.append in2 (Ev.sub e86 (Ev.name in0) (sub_dict 86 (tokV w.params) _ _ (.int t) (map86 w) ht (fun X h => .int _ _))) (drpS in1 (by decide) drp0) (by simp; omega) (by kernel_rfl) (by kernel_rfl) (by kernel_rfl) (by kernel_rfl) (by kernel_rfl) (by kernel_rfl)) Ex.nil) (subS in1 (subS (by simp) sub0))
  · rw [List.take_length]
    exact Ex.freeze in0 drp0 (Ex.last (Ex1.ret (Ev.name in0)))
end Mine
end
section
set_option maxRecDepth 100000
set_option Elab.async false
set_option linter.unusedVariables false
namespace Mine
open PySem PySem.W PySem.Calls PyProof.Rows
noncomputable def seedsOf (script : List Int) : Nat → List Int
  | 0 => [73203306289, 401700108018, 230028907000]
  | i + 1 => (seedsOf script i).set (i % 3) ((seedsOf script i).getD (i % 3) 0 + script.getD i 0 % 10 ^ 13)
theorem seedsOf_len (script : List Int) : ∀ i, (seedsOf script i).length = 3
  | 0 => rfl
  | i + 1 => by simp [seedsOf, seedsOf_len script i]
noncomputable def drawS (s : Int) : Drawn5 := ⟨(s % 1000).toNat, (s / 1000 % 100 % 23).toNat, (s / 10 ^ 5 % 1000).toNat, (1 + s / 10 ^ 8 % 100).toNat, (s / 10 ^ 10).toNat⟩
noncomputable def drawn (script : List Int) : List Drawn5 := (seedsOf script (min 60 script.length)).map drawS
theorem seedsOf_nonneg (script : List Int) : ∀ i, ∀ s ∈ seedsOf script i, 0 ≤ s ∧ s ≤ 10 ^ 12 + 10 ^ 13 * i
  | 0, s, h => by simp [seedsOf] at h; rcases h with rfl | rfl | rfl <;> decide
  | i + 1, s, h => by
    have ih := seedsOf_nonneg script i
    rcases List.mem_or_eq_of_mem_set h with h | rfl
    · have := ih s h; push_cast; omega
    · have hm : (seedsOf script i).getD (i % 3) 0 ∈ seedsOf script i := by
        have : i % 3 < (seedsOf script i).length := by rw [seedsOf_len]; omega
        rw [List.getD_eq_getElem?_getD, List.getElem?_eq_getElem this]; exact List.getElem_mem this
      have := ih _ hm
      push_cast; omega
set_option maxHeartbeats 4000000 in
theorem wDraw (w : World) (script : List Int) (hl : script.length ≤ 1000) : Fn (TopIn w) pw w 4 (.ref 100) [.list (script.map .int)] (.list ((drawn script).map Drawn5.d)) := by
  haveI := upTop w
  refine Fn.of_body (atDraw w) (noLim w) (cdDraw w) rfl bindDraw rfl (by decide) (by decide) rfl rfl rfl rfl fun L => ?_
  show Ex (TopIn w) pw w 3 (callEnvC fdDraw L 100) [("script", .dat (.list (script.map .int)))] _ _
  have hs := hs24
  refine Ex.cons (Ex1.assignF (EvF.list (Evs.cons Ev.int (Evs.cons Ev.int (Evs.cons Ev.int Evs.nil))) (by simp [hs])) (.inl (by kernel_rfl)) (drpS in0 (by decide) drp0) (by kernel_rfl)) ?_
  have hmin : (if (script.length : Int) < 60 then (script.length : Int) else 60) = ((min 60 script.length : Nat) : Int) := by split <;> omega
  refine Ex.cons (Ex1.loop (xs := List.range (min 60 script.length)) (enc := fun k => .int (k : Nat)) (fun i => [("seeds", .own ((seedsOf script i).map .int)), ("script", .dat (.list (script.map .int)))])
    (fun i => [("i", .dat (.int (i : Nat))), ("seeds", .own ((seedsOf script i).map .int)), ("script", .dat (.list (script.map .int)))])
    (It.rangeN (b_range w) (Ev.cast (Ev.callB (b_min w) (f_min _ _) (Evs.cons Ev.int (Evs.cons (Ev.callB (b_len w) (f_len _ (by simp; omega)) (Evs.cons (Ev.name in1) Evs.nil) (by kernel_rfl)) Evs.nil)) (by kernel_rfl)) (by rw [List.length_map, hmin])) (by kernel_rfl) (by omega)) (subS in0 (subS in1 sub0)) (fun i a ha => ?_) (fun i a ha => ?_)) ?_
  · have : a = i := by
      obtain ⟨h1, h2⟩ := List.getElem?_eq_some_iff.mp ha
      simpa using h2.symm
    subst this
    exact Asn.name (.inl (by kernel_rfl)) (drpS in0 (by decide) (drpS in1 (by decide) drp0))
  · have hi : i < script.length := by have := (List.getElem?_eq_some_iff.mp ha).1; simp at this; omega
    have hsl := seedsOf_len script i
    have e3 : ((i : Nat) : Int) % 3 = ((i % 3 : Nat) : Int) := by omega
    refine Ex.post (Ex.cons (Ex1.augSub in1 (i := ((i % 3 : Nat) : Int)) (Ev.cast (Ev.bin (Ev.name in0) Ev.int (o_mod _ _ (by decide))) (by rw [e3])) (by omega) (by simp [hsl]; omega) (by simp [hsl, hs]) (d0 := .int ((seedsOf script i).getD (i % 3) 0)) (by rw [Int.toNat_natCast]; exact getInt (by rw [hsl]; omega))
      (Ev.bin (Ev.sub (Ev.name in2) (Ev.name in0) (sub_list _ _ _ (getInt hi) (by omega))) (Ev.bin Ev.int Ev.int (o_pow _ _ (by decide) (by decide) (by decide))) (o_mod _ _ (by decide))) (o_iadd _ _) (drpS in2 (by decide) drp0)) Ex.nil) (subS ?_ (subS in1 sub0))
    have e4 : ((seedsOf script i).map Mine.D.int).set ((i % 3 : Nat) : Int).toNat (.int ((seedsOf script i).getD (i % 3) 0 + script.getD i 0 % 10 ^ (13 : Int).toNat)) = (seedsOf script (i + 1)).map .int := by
      have e5 : seedsOf script (i + 1) = (seedsOf script i).set (i % 3) ((seedsOf script i).getD (i % 3) 0 + script.getD i 0 % 10 ^ 13) := rfl
      rw [e5, Int.toNat_natCast, List.map_set]; rfl
    rw [← e4]; exact in0
  · rw [List.length_range]
    refine Ex.freeze in0 (drpS in1 (by decide) drp0) ?_
    have hsl := seedsOf_len script (min 60 script.length)
    have hnn := seedsOf_nonneg script (min 60 script.length)
    refine Ex.last (Ex1.ret (Ev.cast (EvF.ev (EvF.comp (xs := seedsOf script (min 60 script.length)) (enc := Mine.D.int) (p := fun _ => true) (f := fun s => (drawS s).d) (Γc := [])
      (It.of (Ev.name in0) rfl (by simp [hsl, hs])) (CellsFull.call _ _ _) (by kernel_rfl) (by kernel_rfl) cap0 (fun C cl a ha => Tsts.nil) (fun C cl a ha hp => ?_))) ?_))
    · obtain ⟨n1, n2⟩ := hnn a ha
      have pw10 : ∀ {k : Nat} {Γ : Cx} {env : Env} {i j : Nat} {p q r : Pos} (n : Int), 0 ≤ n → n ≤ 1000000 → 2 ≤ k → Ev (TopIn w) pw w k env Γ (.BinOp (.Constant (.int 10) i p) .Pow (.Constant (.int n) j q) r) (.int (10 ^ n.toNat)) := fun n h1 h2 hk =>
        Ev.bin Ev.int Ev.int (o_pow _ _ h1 h2 (by decide)) hk
      refine Ev.cast (Ev.list (Evs.cons (Ev.bin (Ev.name in0) Ev.int (o_mod _ _ (by decide)))
        (Evs.cons (Ev.bin (Ev.bin (Ev.bin (Ev.name in0) Ev.int (o_floordiv _ _ (by decide) (by decide))) Ev.int (o_mod _ _ (by decide))) Ev.int (o_mod _ _ (by decide)))
        (Evs.cons (Ev.bin (Ev.bin (Ev.name in0) (pw10 5 (by decide) (by decide) (by decide)) (o_floordiv _ _ (by decide) (by decide))) Ev.int (o_mod _ _ (by decide)))
        (Evs.cons (Ev.bin Ev.int (Ev.bin (Ev.bin (Ev.name in0) (pw10 8 (by decide) (by decide) (by decide)) (o_floordiv _ _ (by decide) (by decide))) Ev.int (o_mod _ _ (by decide))) (o_add _ _))
        (Evs.cons (Ev.bin (Ev.name in0) (pw10 10 (by decide) (by decide) (by decide)) (o_floordiv _ _ (by decide) (by decide))) Evs.nil))))) (by simp [hs])) ?_
      show Mine.D.list _ = (drawS a).d
      unfold drawS Drawn5.d
      have c1 : (10 : Int) ^ (5 : Int).toNat = 10 ^ 5 := rfl
      have c2 : (10 : Int) ^ (8 : Int).toNat = 10 ^ 8 := rfl
      have c3 : (10 : Int) ^ (10 : Int).toNat = 10 ^ 10 := rfl
      rw [c1, c2, c3]
      simp only
      rw [Int.toNat_of_nonneg (by omega), Int.toNat_of_nonneg (by omega), Int.toNat_of_nonneg (by omega), Int.toNat_of_nonneg (by omega), Int.toNat_of_nonneg (by omega)]
    · have hf : (seedsOf script (min 60 script.length)).filter (fun _ => true) = seedsOf script (min 60 script.length) := List.filter_eq_self.mpr fun _ _ => rfl
      rw [hf]; simp [drawn]
end Mine
end
section
set_option maxRecDepth 100000
set_option Elab.async false
set_option linter.unusedVariables false
namespace Mine
open PySem PySem.W PySem.Calls PyProof.Rows
theorem Rds.reverse {X : Addr → Prop} {h : Heap} : ∀ {vs : List Value} {ds : List Mine.D}, Rds X h vs ds → Rds X h vs.reverse ds.reverse
  | _, _, .nil => .nil
  | _, _, .cons a r => by rw [List.reverse_cons, List.reverse_cons]; exact (Rds.reverse r).append (.cons a .nil)
theorem Ev.rev {T : Heap → Prop} [UpT T] {prog : Program} {w : World} {k : Nat} {env : Env} {Γ : Cx} {value : Expr} {i : Nat} {p1 p2 p pos : Pos} {ds : List Mine.D} (hv : Ev T prog w k env Γ value (.list ds)) (hl : ds.length ≤ sizeLine) (hk : 2 ≤ k := by omega) :
    Ev T prog w k env Γ (.Subscript value (.Slice Option.none Option.none (some (.UnaryOp .USub (.Constant (.int 1) i p1) p2)) p) pos) (.list ds.reverse) :=
  Ev.slice hv .none .none (.some (Ev.un Ev.int (o_neg _) hk)) hl (by decide) fun X h vs r => ⟨vs.reverse, by rw [show (-1 : Int) = -(1 : Int) from rfl, krv_pick], r.reverse⟩
theorem wBackP (w : World) {last steps : List Int} {p N j : Nat} {ah : List Int} (hl : last.length ≤ 1000) (hs : steps.length = last.length) (hp : PathOk last steps p N j ah) (hN : N ≤ 1000) :
    Fn (TopIn w) pw w 4 (.ref 138) [.list (last.map .int), .list (steps.map .int), .int (p : Nat)] (.list [.int (j : Nat), encL ah]) := by
  obtain ⟨pl, rfl, h1, h2, h3, h4, h5, rfl⟩ := hp
  have := wBack w last steps pl N hl hs h1 h2 h3 h4 hN
  rw [h5] at this
  exact this
theorem It.range2N {T : Heap → Prop} [UpT T] {prog : Program} {w : World} {k : Nat} {env : Env} {Γ : Cx} {nm : Str} {p pos : Pos} {e e' : Expr} {a b : Nat} (x : Glob T env.globals env.builtins nm (.type "range")) (h : Ev T prog w k env Γ e (.int (a : Nat))) (h' : Ev T prog w k env Γ e' (.int (b : Nat))) (hx : env.kindOf nm = some .globalImplicit) (ha : a ≤ sizeLine) (hb : b ≤ sizeLine)
    (hd : (nm == ("__debug__" : Str)) = false := by decide) (he : ∀ env, starEach [e, e'] env = [(false, eval e env), (false, eval e' env)] := by intro _; rfl) : It T prog w k env Γ (.Call (.Name nm p) [e, e'] [] pos) ((List.range (b - a)).map fun i => .int ((a + i : Nat) : Int)) := by
  have := It.range2 (p := p) (pos := pos) x h h' hx (by omega) (by omega) (by omega) (by omega) hd he
  have e : ((b : Int) - a).toNat = b - a := by omega
  rw [e] at this
  simpa [rangeD] using this
/-- a word's symbols -/
noncomputable def symB (b : Array UInt8) : List Int := b.toList.map fun c => (c.toNat : Int) + 191
set_option maxHeartbeats 4000000 in
theorem wFound (w : World) (last steps : List Int) (b : Array UInt8) (kn ln : Nat → Nat) (ah : Nat → List Int) (hl : last.length ≤ 60) (hs : steps.length = last.length) (hb : b.size ≤ 3) (hk : ∀ p, kn p ≤ 1000) (hbd : (bnd last (symB b)).2 ≤ last.length) (hlo : (bnd last (symB b)).1 ≤ last.length)
    (hp : ∀ p, (bnd last (symB b)).1 ≤ p → p < (bnd last (symB b)).2 → PathOk last steps p (kn p) (ln p) (ah p)) :
    Fn (TopIn w) pw w 5 (.ref 145) [.list (last.map .int), .list (steps.map .int), .byt b]
      (.list ((sortL ((List.range ((bnd last (symB b)).2 - (bnd last (symB b)).1)).map fun i => [(ln ((bnd last (symB b)).1 + i) : Int), (kn ((bnd last (symB b)).1 + i) : Int)])).map encL)) := by
  haveI := upTop w
  refine Fn.of_body (atFound w) (noLim w) (cdFound w) rfl bindFound rfl (by decide) (by decide) rfl rfl rfl rfl fun L => ?_
  show Ex (TopIn w) pw w 4 (callEnvC fdFound L 145) [("last", .dat (.list (last.map .int))), ("steps", .dat (.list (steps.map .int))), ("word", .dat (.byt b))] _ _
  have hsz := hs24
  have hbl : b.toList.length = b.size := by simp
  have hsl : (symB b).length = b.size := by simp [symB]
  refine Ex.cons (Ex1.assign Ev.int (.inl (by kernel_rfl)) (drpS in0 (by decide) (drpS in1 (by decide) (drpS in2 (by decide) drp0))) (by kernel_rfl)) ?_
  refine Ex.cons (Ex1.assign (Ev.callB (b_len w) (f_len _ (by simp; omega)) (Evs.cons (Ev.name in1) Evs.nil) (by kernel_rfl)) (.inl (by kernel_rfl)) (drpS in0 (by decide) (drpS in1 (by decide) (drpS in2 (by decide) (drpS in3 (by decide) drp0)))) (by kernel_rfl)) ?_
  refine Ex.cons (Ex1.loop (xs := b.toList.reverse) (enc := fun c => .int (c.toNat : Int))
    (fun i => [("low", .dat (.int ((bnd last ((symB b).drop (b.size - i))).1 : Nat))), ("high", .dat (.int ((bnd last ((symB b).drop (b.size - i))).2 : Nat))), ("last", .dat (.list (last.map .int))), ("steps", .dat (.list (steps.map .int)))])
    (fun i => [("octet", .dat (.int ((b.toList.reverse.getD i 0).toNat : Int))), ("low", .dat (.int ((bnd last ((symB b).drop (b.size - i))).1 : Nat))), ("high", .dat (.int ((bnd last ((symB b).drop (b.size - i))).2 : Nat))), ("last", .dat (.list (last.map .int))), ("steps", .dat (.list (steps.map .int)))])
    (It.of (d := .list ((b.toList.reverse).map fun c => .int (c.toNat : Int))) (Ev.cast (Ev.rev (Ev.callT (b_list w) (f_listb b (by omega)) (Evs.cons (Ev.name in4) Evs.nil) (by kernel_rfl)) (by simp [bD]; omega)) (by unfold bD; rw [List.map_reverse])) rfl (by simp; omega))
    ?_ (fun i a ha => ?_) (fun i a ha => ?_)) ?_
  · have e : (symB b).drop (b.size - 0) = [] := by simp [hsl]
    rw [e]
    have e2 : (((last.map Mine.D.int).length : Nat) : Int) = ((bnd last []).2 : Nat) := by simp [bnd]
    rw [← e2]
    exact subS in1 (subS in0 (subS in2 (subS in3 sub0)))
  · have e : b.toList.reverse.getD i 0 = a := by rw [List.getD_eq_getElem?_getD, ha]; rfl
    rw [e]
    exact Asn.name (.inl (by kernel_rfl)) (drpS in0 (by decide) (drpS in1 (by decide) (drpS in2 (by decide) (drpS in3 (by decide) drp0))))
  · have e : b.toList.reverse.getD i 0 = a := by rw [List.getD_eq_getElem?_getD, ha]; rfl
    rw [e]
    obtain ⟨hi, ha'⟩ := List.getElem?_eq_some_iff.mp ha
    have hi' : i < b.size := by simpa using hi
    have hcons : (symB b).drop (b.size - (i + 1)) = ((a.toNat : Int) + 191) :: (symB b).drop (b.size - i) := by
      rw [List.drop_eq_getElem_cons (by rw [hsl]; omega)]
      have e1 : b.size - (i + 1) + 1 = b.size - i := by omega
      rw [e1]
      congr 1
      rw [List.getElem_reverse] at ha'
      simp only [symB, List.getElem_map]
      rw [← ha']
      have ei : b.toList.length - 1 - i = b.size - (i + 1) := by rw [hbl]; omega
      simp only [ei]
    rw [hcons]
    generalize (symB b).drop (b.size - i) = ws at *
    refine Ex.cons (Ex1.assign (Ev.callF (gReck w) (fnReck w) (fun X A s E vs ok => wReck w last ((a.toNat : Int) + 191) (bnd last ws).1 (by omega) X A s E vs (ok.less (by omega))) (Evs.cons (Ev.name in3) (Evs.cons (Ev.bin (Ev.name in0) Ev.int (o_add _ _)) (Evs.cons (Ev.name in1) Evs.nil))) (by kernel_rfl)) (.inl (by kernel_rfl))
      (drpS in0 (by decide) (drpS in2 (by decide) (drpS in3 (by decide) (drpS in4 (by decide) drp0)))) (by kernel_rfl)) ?_
    refine Ex.cons (Ex1.assign (Ev.callF (gReck w) (fnReck w) (fun X A s E vs ok => wReck w last ((a.toNat : Int) + 191) (bnd last ws).2 (by omega) X A s E vs (ok.less (by omega))) (Evs.cons (Ev.name in3) (Evs.cons (Ev.bin (Ev.name in1) Ev.int (o_add _ _)) (Evs.cons (Ev.name in2) Evs.nil))) (by kernel_rfl)) (.inl (by kernel_rfl))
      (drpS in0 (by decide) (drpS in3 (by decide) (drpS in4 (by decide) drp0))) (by kernel_rfl)) ?_
    exact Ex.post Ex.nil (subS in1 (subS in0 (subS in2 (subS in3 sub0))))
  · have e0 : (symB b).drop (b.size - b.toList.reverse.length) = symB b := by simp
    rw [e0]
    generalize (bnd last (symB b)).1 = low at *
    generalize (bnd last (symB b)).2 = high at *
    refine Ex.cons (Ex1.assignF (EvF.list Evs.nil (by simp)) (.inl (by kernel_rfl)) (drpS in0 (by decide) (drpS in1 (by decide) (drpS in2 (by decide) (drpS in3 (by decide) drp0)))) (by kernel_rfl)) ?_
    refine Ex.cons (Ex1.loop (xs := List.range (high - low)) (enc := fun i => .int ((low + i : Nat) : Int))
      (fun i => [("found", .own (((List.range i).map fun i => [(ln (low + i) : Int), (kn (low + i) : Int)]).map encL)), ("last", .dat (.list (last.map .int))), ("steps", .dat (.list (steps.map .int)))])
      (fun i => [("place", .dat (.int ((low + i : Nat) : Int))), ("found", .own (((List.range i).map fun i => [(ln (low + i) : Int), (kn (low + i) : Int)]).map encL)), ("last", .dat (.list (last.map .int))), ("steps", .dat (.list (steps.map .int)))])
      ?_ (subS in0 (subS in3 (subS in4 sub0))) (fun i a ha => ?_) (fun i a ha => ?_)) ?_
    · exact It.range2N (b_range w) (Ev.name in1) (Ev.name in2) (by kernel_rfl) (by omega) (by omega)
    · have : a = i := by
        obtain ⟨h1, h2⟩ := List.getElem?_eq_some_iff.mp ha
        simpa using h2.symm
      subst this
      exact Asn.name (.inl (by kernel_rfl)) (drpS in0 (by decide) (drpS in1 (by decide) (drpS in2 (by decide) drp0)))
    · have hi : i < high - low := by have := (List.getElem?_eq_some_iff.mp ha).1; simpa using this
      have hpp := hp (low + i) (by omega) (by omega)
      have hal : (ah (low + i)).length = kn (low + i) := by
        obtain ⟨pl, _, _, _, _, _, _, h⟩ := hpp
        rw [← h, backA_len]
      have hkk := hk (low + i)
      refine Ex.cons (Ex1.assignT (Ev.callF (gBack w) (fnBack w) (wBackP w (by omega) hs hpp hkk) (Evs.cons (Ev.name in2) (Evs.cons (Ev.name in3) (Evs.cons (Ev.name in0) Evs.nil))) (by kernel_rfl))
        (Asn.tup rfl (by simp [hsz]) (Asns.cons (Asn.name (.inl (by kernel_rfl)) (drpS in1 (by decide) (drpS in2 (by decide) (drpS in3 (by decide) drp0)))) (Asns.cons (Asn.name (.inl (by kernel_rfl)) (drpS in0 (by decide) (drpS in1 (by decide) (drpS in2 (by decide) (drpS in3 (by decide) drp0))))) Asns.nil))) (by kernel_rfl) (by kernel_rfl) (by rfl)) ?_
      refine Ex.post (Ex.cons (Ex1.append in2 (Ev.list (Evs.cons (Ev.name in1) (Evs.cons (Ev.callB (b_len w) (f_len _ (by simp [hal]; omega)) (Evs.cons (Ev.name in0) Evs.nil) (by kernel_rfl)) Evs.nil)) (by simp [hsz])) (drpS in3 (by decide) (drpS in4 (by decide) drp0)) (by simp; omega) (by kernel_rfl) (by kernel_rfl) (by kernel_rfl) (by kernel_rfl) (by kernel_rfl) (by kernel_rfl)) Ex.nil) (subS ?_ (subS in1 (subS in2 sub0)))
      have e2 : ((List.range (i + 1)).map fun i => [(ln (low + i) : Int), (kn (low + i) : Int)]).map encL = ((List.range i).map fun i => [(ln (low + i) : Int), (kn (low + i) : Int)]).map encL ++ [.list [.int (ln (low + i) : Nat), .int (((ah (low + i)).map Mine.D.int).length : Nat)]] := by
        rw [List.range_succ, List.map_append, List.map_append, List.length_map, hal]; rfl
      rw [e2]; exact in0
    · rw [List.length_range]
      refine Ex.freeze in0 (drpS in1 (by decide) drp0) ?_
      exact Ex.last (Ex1.ret (Ev.callB (b_sorted w) (f_sorted _ (by simp; omega)) (Evs.cons (Ev.name in0) Evs.nil) (by kernel_rfl)))
end Mine
end
section
set_option maxRecDepth 100000
set_option Elab.async false
set_option linter.unusedVariables false
namespace Mine
open PySem PySem.W PySem.Calls PyProof.Rows
noncomputable def tabN : List Int := [31, 32, 49, 54]
noncomputable def numOf (s : Nat) : Int := if s < 6 then (s : Int) + 7 else if s < 19 then (s : Int) + 8 else tabN.getD (s - 19) 0
noncomputable def lineL (d : Drawn5) : List Int := fig d.first ++ [numOf d.sign] ++ fig d.second
noncomputable def dueRows (Ls : List (List Int)) (parts : List (List Int)) : List (List Elt) := ((List.range Ls.length).map fun (i : Nat) => [Elt.n (i : Int), Elt.l (Ls.getD i [])]) ++ parts.map fun w => (due1 Ls w).map Elt.l
noncomputable def rowD (r : List Elt) : Mine.D := .list (r.map eltD)
theorem fig_len (n : Int) : (fig n).length ≤ 3 := by
  unfold fig; rw [List.length_map]; exact List.length_filter_le _ _
theorem lineL_len (d : Drawn5) : (lineL d).length ≤ 7 := by
  have h1 := fig_len d.first
  have h2 := fig_len d.second
  simp [lineL]; omega
theorem fig_pos (n : Int) : ∀ x ∈ fig n, 0 < x := fun x hx => by
  unfold fig at hx
  obtain ⟨a, _, rfl⟩ := List.mem_map.mp hx
  have := Int.emod_nonneg (n / a) (show (16 : Int) ≠ 0 by decide)
  omega
theorem dueRows_snoc (Ls ps : List (List Int)) (wd : List Int) : dueRows Ls (ps ++ [wd]) = dueRows Ls ps ++ [(due1 Ls wd).map Elt.l] := by
  unfold dueRows; rw [List.map_append, ← List.append_assoc]; rfl
theorem getEnc {L : List (List Int)} {i : Nat} (h : i < L.length) : (L.map encL)[i]? = some (encL (L.getD i [])) := by simp [h]
theorem Fn.more {T : Heap → Prop} {prog : Program} {w : World} {k k' : Nat} {f : Value} {ds : List Mine.D} {d : Mine.D} (h : Fn T prog w k f ds d) (le : k ≤ k' := by omega) : Fn T prog w k' f ds d := fun X A s E vs ok => h X A s E vs (ok.less le)
set_option maxHeartbeats 4000000 in
theorem wDue (w : World) (ds : List Drawn5) (h3 : ds.length = 3) (hok : ∀ d ∈ ds, d.Ok) : Fn (TopIn w) pw w 4 (.ref 155) [.list (ds.map Drawn5.d)] (.list ((dueRows (sortL (ds.map lineL)) (ds.map fun d => fig d.sought)).map rowD)) := by
  haveI := upTop w
  refine Fn.of_body (atDue w) (noLim w) (cdDue w) rfl bindDue rfl (by decide) (by decide) rfl rfl rfl rfl fun L => ?_
  show Ex (TopIn w) pw w 3 (callEnvC fdDue L 155) [("drawn", .dat (.list (ds.map Drawn5.d)))] _ _
  have hsz := hs24
  refine Ex.cons (Ex1.assignF (EvF.list Evs.nil (by simp)) (.inr (by kernel_rfl)) (drpS in0 (by decide) drp0) (by kernel_rfl)) ?_
  refine Ex.cons (Ex1.loop (xs := ds) (enc := Drawn5.d) (fun i => [("lines", .own (((ds.take i).map lineL).map encL)), ("drawn", .dat (.list (ds.map Drawn5.d)))])
    (fun i => [("dress", .dat (.int (ds.getD i ⟨0, 0, 0, 0, 0⟩).dress)), ("sought", .dat (.int (ds.getD i ⟨0, 0, 0, 0, 0⟩).sought)), ("second", .dat (.int (ds.getD i ⟨0, 0, 0, 0, 0⟩).second)), ("sign", .dat (.int (ds.getD i ⟨0, 0, 0, 0, 0⟩).sign)), ("first", .dat (.int (ds.getD i ⟨0, 0, 0, 0, 0⟩).first)), ("lines", .own (((ds.take i).map lineL).map encL)), ("drawn", .dat (.list (ds.map Drawn5.d)))])
    (It.of (Ev.name in1) rfl (by simp; omega)) (subS in0 (subS in1 sub0)) (fun i a ha => ?_) (fun i a ha => ?_)) ?_
  · have e : ds.getD i ⟨0, 0, 0, 0, 0⟩ = a := by rw [List.getD_eq_getElem?_getD, ha]; rfl
    rw [e]
    exact Asn.tup (d := a.d) rfl (by simp [hsz]) (Asns.cons (Asn.name (.inl (by kernel_rfl)) (drpS in0 (by decide) (drpS in1 (by decide) drp0))) (Asns.cons (Asn.name (.inl (by kernel_rfl)) (drpS in0 (by decide) (drpS in1 (by decide) (drpS in2 (by decide) drp0)))) (Asns.cons (Asn.name (.inl (by kernel_rfl)) (drpS in0 (by decide) (drpS in1 (by decide) (drpS in2 (by decide) (drpS in3 (by decide) drp0)))))
      (Asns.cons (Asn.name (.inl (by kernel_rfl)) (drpS in0 (by decide) (drpS in1 (by decide) (drpS in2 (by decide) (drpS in3 (by decide) (drpS in4 (by decide) drp0)))))) (Asns.cons (Asn.name (.inl (by kernel_rfl)) (drpS in0 (by decide) (drpS in1 (by decide) (drpS in2 (by decide) (drpS in3 (by decide) (drpS in4 (by decide) (drpS in5 (by decide) drp0))))))) Asns.nil)))))
  · have e : ds.getD i ⟨0, 0, 0, 0, 0⟩ = a := by rw [List.getD_eq_getElem?_getD, ha]; rfl
    rw [e]
    have hi := (List.getElem?_eq_some_iff.mp ha).1
    obtain ⟨o1, o2, o3, o4, o5⟩ := hok a (List.mem_of_getElem? ha)
    have htake : ds.take (i + 1) = ds.take i ++ [a] := by rw [List.take_add_one, ha]; rfl
    refine Ex.cons (Ex1.assign (d := .int (numOf a.sign)) (Ev.cast (Ev.ifexp (d₁ := .int ((a.sign : Int) + 7)) (d₂ := if decide ((a.sign : Int) < 19) = true then .int ((a.sign : Int) + 8) else .int (tabN.getD (a.sign - 19) 0)) (Tst.cmp (Ev.name in3) Ev.int (o_lt _ _)) (fun h => Ev.bin (Ev.name in3) Ev.int (o_add _ _))
      (fun h => Ev.ifexp (Tst.cmp (Ev.name in3) Ev.int (o_lt _ _)) (fun h' => Ev.bin (Ev.name in3) Ev.int (o_add _ _)) (fun h' => ?_))) ?_) (.inl (by kernel_rfl)) (drpS in2 (by decide) (drpS in4 (by decide) (drpS in5 (by decide) (drpS in6 (by decide) drp0)))) (by kernel_rfl)) ?_
    · have h' : ¬ a.sign < 19 := by have := of_decide_eq_false h'; omega
      refine Ev.sub (Ev.tup (Evs.int (Evs.int (Evs.int (Evs.int Evs.nil)))) (by simp [hsz])) (Ev.cast (Ev.bin (Ev.name in3) Ev.int (o_sub _ _)) (d' := .int ((a.sign - 19 : Nat) : Int)) (by congr 1; omega)) (sub_tup _ _ _ (getInt (l := tabN) (by simp [tabN]; omega)) (by omega))
    · unfold numOf
      by_cases c1 : a.sign < 6
      · have e : decide ((a.sign : Int) < 6) = true := decide_eq_true (by omega)
        rw [e, if_pos rfl, if_pos c1]
      · have e : decide ((a.sign : Int) < 6) = false := decide_eq_false (by omega)
        rw [e, if_neg (by decide), if_neg c1]
        by_cases c2 : a.sign < 19
        · have e : decide ((a.sign : Int) < 19) = true := decide_eq_true (by omega)
          rw [e, if_pos rfl, if_pos c2]
        · have e : decide ((a.sign : Int) < 19) = false := decide_eq_false (by omega)
          rw [e, if_neg (by decide), if_neg c2]
    · have f1 := fig_len a.first
      have f2 := fig_len a.second
      refine Ex.post (Ex.cons (Ex1.append in3 (Ev.bin (Ev.bin (Ev.callF (gFig w) (fnFig w) (wFig w a.first) (Evs.cons (Ev.name in2) Evs.nil) (by kernel_rfl)) (Ev.list (Evs.cons (Ev.name in0) Evs.nil) (by simp [hsz])) (o_addl _ _ (by simp; omega))) (Ev.callF (gFig w) (fnFig w) (wFig w a.second) (Evs.cons (Ev.name in1) Evs.nil) (by kernel_rfl)) (o_addl _ _ (by simp; omega)))
        (drpS in4 (by decide) drp0) (by simp; omega) (by kernel_rfl) (by kernel_rfl) (by kernel_rfl) (by kernel_rfl) (by kernel_rfl) (by kernel_rfl)) Ex.nil) (subS ?_ (subS in1 sub0))
      have e2 : ((ds.take (i + 1)).map lineL).map encL = ((ds.take i).map lineL).map encL ++ [.list ((fig a.first).map Mine.D.int ++ [.int (numOf a.sign)] ++ (fig a.second).map Mine.D.int)] := by
        rw [htake]; simp [encL, lineL]
      rw [e2]; exact in0
  · rw [List.take_length]
    refine Ex.freeze in0 (drpS in1 (by decide) drp0) ?_
    refine Ex.cons (Ex1.assign (d := .list ((sortL (ds.map lineL)).map encL)) (Ev.callB (b_sorted w) (f_sorted (ds.map lineL) (by simp; omega)) (Evs.cons (Ev.name in0) Evs.nil) (by kernel_rfl)) (.inr (by kernel_rfl)) (drpS in1 (by decide) drp0) (by kernel_rfl)) ?_
    have hL3 : (sortL (ds.map lineL)).length = 3 := by rw [(sortL_perm _).length_eq, List.length_map, h3]
    have hLl : ∀ i, ((sortL (ds.map lineL)).getD i []).length ≤ 7 := fun i => by
      rw [List.getD_eq_getElem?_getD]
      cases hg : (sortL (ds.map lineL))[i]? with
      | none => simp
      | some l =>
        obtain ⟨d, _, rfl⟩ := List.mem_map.mp ((sortL_perm _).mem_iff.mp (List.mem_of_getElem? hg))
        exact lineL_len d
    generalize sortL (ds.map lineL) = Ls at *
    have base : dueRows Ls [] = (List.range 3).map fun (i : Nat) => [Elt.n (i : Int), Elt.l (Ls.getD i [])] := by unfold dueRows; rw [hL3]; simp
    have hfl : (List.range 3).filter (fun _ => true) = List.range 3 := List.filter_eq_self.mpr fun _ _ => rfl
    have eown : ((List.range 3).filter (fun _ => true)).map (fun (i : Nat) => Mine.D.list [.int (i : Int), encL (Ls.getD i [])]) = (dueRows Ls []).map rowD := by
      rw [base, hfl, List.map_map]; rfl
    have lsub : ∀ {Γ : Cx} {env : Env} {k : Nat} {p1 p2 p3 : Pos} {nm1 nm2 : Str} (i : Nat), i < 3 → (nm1 == ("__debug__" : Str)) = false → (nm2 == ("__debug__" : Str)) = false → 2 ≤ k → (nm1, Loc.dat (.list (Ls.map encL))) ∈ Γ → (nm2, Loc.dat (.int (i : Nat))) ∈ Γ →
        Ev (TopIn w) pw w k env Γ (.Subscript (.Name nm1 p1) (.Name nm2 p2) p3) (encL (Ls.getD i [])) := fun i hi d1 d2 hk m1 m2 =>
      Ev.sub (Ev.name m1 d1) (Ev.name m2 d2) (sub_list _ _ _ (getEnc (by omega)) (by omega)) (by intros; exact ⟨_, rfl⟩) hk
    have gofor : ∀ {o : OutC} {ss : List Stmt}, Ex (TopIn w) pw w 3 (callEnvC fdDue L 155) [("due", .own ((dueRows Ls []).map rowD)), ("lines", .dat (.list (Ls.map encL))), ("drawn", .dat (.list (ds.map Drawn5.d)))] ss o →
        Ex (TopIn w) pw w 3 (callEnvC fdDue L 155) [("due", if true = true then .own (((List.range 3).filter (fun _ => true)).map (fun (i : Nat) => Mine.D.list [.int (i : Int), encL (Ls.getD i [])])) else .dat (.list (((List.range 3).filter (fun _ => true)).map (fun (i : Nat) => Mine.D.list [.int (i : Int), encL (Ls.getD i [])])))), ("lines", .dat (.list (Ls.map encL))), ("drawn", .dat (.list (ds.map Drawn5.d)))] ss o := fun h => by
      rw [if_pos rfl, eown]; exact h
    refine Ex.cons (Ex1.assignC (xs := List.range 3) (enc := fun i => .int (i : Nat)) (pr := fun _ => true) (f := fun (i : Nat) => Mine.D.list [.int (i : Int), encL (Ls.getD i [])]) (Γc := [("lines", .dat (.list (Ls.map encL)))]) true
      (It.rangeN (b_range w) (Ev.cast Ev.int rfl) (by kernel_rfl) (by omega)) (by kernel_rfl) (by kernel_rfl) (capS in0 (by kernel_rfl) cap0) (fun C cl a ha => Tsts.nil)
      (fun C cl a ha hp => Ev.list (Evs.cons (Ev.name in0) (Evs.cons (lsub a (by simpa using ha) (by decide) (by decide) (by omega) in1 in0) Evs.nil)) (by simp [hsz])) (.inl (by kernel_rfl)) (drpS in0 (by decide) (drpS in1 (by decide) drp0)) (by kernel_rfl)) (gofor ?_)
    have dlen : ∀ ps : List (List Int), (dueRows Ls ps).length = 3 + ps.length := fun ps => by simp [dueRows, hL3]
    refine Ex.cons (Ex1.loop (xs := ds) (enc := Drawn5.d) (fun i => [("due", .own ((dueRows Ls ((ds.take i).map fun d => fig d.sought)).map rowD)), ("lines", .dat (.list (Ls.map encL))), ("drawn", .dat (.list (ds.map Drawn5.d)))])
      (fun i => [("dress", .dat (.int (ds.getD i ⟨0, 0, 0, 0, 0⟩).dress)), ("sought", .dat (.int (ds.getD i ⟨0, 0, 0, 0, 0⟩).sought)), ("second", .dat (.int (ds.getD i ⟨0, 0, 0, 0, 0⟩).second)), ("sign", .dat (.int (ds.getD i ⟨0, 0, 0, 0, 0⟩).sign)), ("first", .dat (.int (ds.getD i ⟨0, 0, 0, 0, 0⟩).first)), ("due", .own ((dueRows Ls ((ds.take i).map fun d => fig d.sought)).map rowD)), ("lines", .dat (.list (Ls.map encL))), ("drawn", .dat (.list (ds.map Drawn5.d)))])
      (It.of (Ev.name in2) rfl (by simp; omega)) (subS in0 (subS in1 (subS in2 sub0))) (fun i a ha => ?_) (fun i a ha => ?_)) ?_
    · have e : ds.getD i ⟨0, 0, 0, 0, 0⟩ = a := by rw [List.getD_eq_getElem?_getD, ha]; rfl
      rw [e]
      exact Asn.tup (d := a.d) rfl (by simp [hsz]) (Asns.cons (Asn.name (.inl (by kernel_rfl)) (drpS in0 (by decide) (drpS in1 (by decide) (drpS in2 (by decide) drp0)))) (Asns.cons (Asn.name (.inl (by kernel_rfl)) (drpS in0 (by decide) (drpS in1 (by decide) (drpS in2 (by decide) (drpS in3 (by decide) drp0))))) (Asns.cons (Asn.name (.inl (by kernel_rfl)) (drpS in0 (by decide) (drpS in1 (by decide) (drpS in2 (by decide) (drpS in3 (by decide) (drpS in4 (by decide) drp0))))))
        (Asns.cons (Asn.name (.inl (by kernel_rfl)) (drpS in0 (by decide) (drpS in1 (by decide) (drpS in2 (by decide) (drpS in3 (by decide) (drpS in4 (by decide) (drpS in5 (by decide) drp0))))))) (Asns.cons (Asn.name (.inl (by kernel_rfl)) (drpS in0 (by decide) (drpS in1 (by decide) (drpS in2 (by decide) (drpS in3 (by decide) (drpS in4 (by decide) (drpS in5 (by decide) (drpS in6 (by decide) drp0)))))))) Asns.nil)))))
    · have e : ds.getD i ⟨0, 0, 0, 0, 0⟩ = a := by rw [List.getD_eq_getElem?_getD, ha]; rfl
      rw [e]
      have hi := (List.getElem?_eq_some_iff.mp ha).1
      have htake : ds.take (i + 1) = ds.take i ++ [a] := by rw [List.take_add_one, ha]; rfl
      have hf := fig_len a.sought
      refine Ex.cons (Ex1.assign (Ev.callF (gFig w) (fnFig w) (wFig w a.sought) (Evs.cons (Ev.name in1) Evs.nil) (by kernel_rfl)) (.inr (by kernel_rfl)) (drpS in5 (by decide) (drpS in6 (by decide) (drpS in7 (by decide) drp0))) (by kernel_rfl)) ?_
      generalize hw : fig a.sought = wd at *
      refine Ex.post (Ex.cons (Ex1.append in1 (EvF.ev (EvF.comp2 (xs := List.range 3) (enc := fun i => .int (i : Nat)) (ys := fun i => List.range (Ls.getD i []).length) (enc2 := fun k => .int (k : Nat)) (p := fun i k => (((Ls.getD i []).drop k).take wd.length == wd)) (f := fun i k => .list [.int (i : Nat), .int (k : Nat)])
          (Γc := [("lines", .dat (.list (Ls.map encL))), ("part", .dat (.list (wd.map Mine.D.int)))])
          (It.rangeN (b_range w) (Ev.cast Ev.int rfl) (by kernel_rfl) (by omega)) (CellsFull.call _ _ _) (by kernel_rfl) (by kernel_rfl) (capS in2 (by kernel_rfl) (capS in0 (by kernel_rfl) cap0)) (by kernel_rfl) (by decide)
          (fun C cl a ha => It.rangeN (b_range w) (Ev.cast (Ev.callB (b_len w) (f_len _ ?_) (Evs.cons (lsub a (by simpa using ha) (by decide) (by decide) (by omega) in1 in0) Evs.nil) (by kernel_rfl)) ?_) (by kernel_rfl) ?_)
          (fun C cl a ha b hb => Tsts.one (Tst.cmp (Ev.cast (Ev.sliceMid (a := b) (b := b + wd.length) (lsub a (by simpa using ha) (by decide) (by decide) (by omega) in2 in1) (Ev.name in0) (Ev.cast (Ev.bin (Ev.name in0) (Ev.callB (b_len w) (f_len _ ?_) (Evs.cons (Ev.name in3) Evs.nil) (by kernel_rfl)) (o_add _ _)) ?_) ?_ ?_) ?_) (Ev.name in3) (o_eqInts (((Ls.getD a []).drop b).take wd.length) wd)))
          (fun C cl a ha b hb hp => Ev.list (Evs.cons (Ev.name in1) (Evs.cons (Ev.name in0) Evs.nil)) (by simp [hsz])) ?_)) (drpS in2 (by decide) (drpS in3 (by decide) drp0)) (by rw [List.length_map, dlen]; simp; omega) (by kernel_rfl) (by kernel_rfl) (by kernel_rfl) (by kernel_rfl) (by kernel_rfl) (by kernel_rfl)) Ex.nil) (subS ?_ (subS in1 (subS in2 sub0)))
      · have := hLl a; rw [List.length_map]; omega
      · rw [List.length_map]
      · have := hLl a; omega
      · rw [List.length_map]; omega
      · simp
      · have := hLl a; rw [List.length_map]; omega
      · have hb : b < (Ls.getD a []).length := by simpa using hb
        rw [List.length_map]; omega
      · have e1 : b + wd.length - b = wd.length := by omega
        rw [e1, List.map_take, List.map_drop]
      · have h1 := hLl 0
        have h2 := hLl 1
        have h3 := hLl 2
        have er : List.range 3 = [0, 1, 2] := rfl
        rw [er]
        simp only [List.flatMap_cons, List.flatMap_nil, List.length_append, List.length_range, List.length_nil]; omega
      · have e2 : (dueRows Ls ((ds.take (i + 1)).map fun d => fig d.sought)).map rowD = (dueRows Ls ((ds.take i).map fun d => fig d.sought)).map rowD ++ [.list ((List.range 3).flatMap fun i => ((List.range (Ls.getD i []).length).filter fun k => (((Ls.getD i []).drop k).take wd.length == wd)).map fun (k : Nat) => .list [.int (i : Nat), .int (k : Nat)])] := by
          rw [htake, List.map_append]
          show List.map rowD (dueRows Ls (_ ++ [fig a.sought])) = _
          rw [dueRows_snoc, List.map_append, hw]
          congr 1
          show [Mine.D.list _] = [Mine.D.list _]
          unfold due1
          rw [hL3, List.map_flatMap, List.map_flatMap]
          simp only [List.map_map]
          rfl
        rw [e2]; exact in0
    · rw [List.take_length]
      exact Ex.freeze in0 (drpS in1 (by decide) drp0) (Ex.last (Ex1.ret (Ev.name in0)))
end Mine
end
section
set_option maxRecDepth 100000
set_option Elab.async false
set_option linter.unusedVariables false
namespace Mine
open PySem PySem.W PySem.Calls PyProof.Rows
theorem str_of_list {x : Str} {c : Nat} (h : x.cps.toList = [c]) : x = ⟨#[c]⟩ := by
  obtain ⟨a⟩ := x
  congr 1
  exact Array.toList_inj.mp h
noncomputable def b3F (P : Params) (c : Nat) : Option DictEntry := (entsOf (o40_5 P)).toList.find? fun e => Value.isInt (c : Int) e.key
theorem b3V_find (P : Params) (c : Nat) : b3V P c = (b3F P c).map (·.val) := by
  unfold b3V b3F findBy
  rw [Array.find?_toList]
noncomputable def keyBig (e : DictEntry) : Bool := match e.key with | .int (.ofNat i) _ => Nat.ble 128 i | _ => false
theorem all40 (P : Params) : (entsOf (o40_5 P)).toList.all keyBig = true := by kernel_rfl
theorem b3_ascii (P : Params) {c : Nat} (h : c < 128) : b3V P c = none := by
  rw [b3V_find]
  have : b3F P c = none := by
    unfold b3F
    rw [List.find?_eq_none]
    intro e he hc
    have hb := List.all_eq_true.mp (all40 P) e he
    unfold keyBig at hb
    split at hb
    · rename_i i t hk
      rw [hk] at hc
      have hb := Nat.le_of_ble_eq_true hb
      have hc : (i : Int) = c := by simpa [Value.isInt] using hc
      omega
    · cases hb
  rw [this]; rfl
theorem plain_ascii (P : Params) {c : Nat} (h : c < 128) : plain P c = Txt.lower ⟨#[c]⟩ := by unfold plain; rw [b3_ascii P h]
noncomputable def chkM (P : Params) (o f : Nat) : Bool := match b3F P (spellC o f) with | some e => (match e.val with | .str x _ => x.cps.toList == [o + 32] | _ => false) | none => false
theorem chkM0 (P : Params) : ((List.range 16).all fun i => chkM P (65 + i) 0) = true := by kernel_rfl
theorem chkM1 (P : Params) : ((List.range 16).all fun i => chkM P (65 + i) 1) = true := by kernel_rfl
theorem chkM2 (P : Params) : ((List.range 16).all fun i => chkM P (65 + i) 2) = true := by kernel_rfl
theorem chkM3 (P : Params) : ((List.range 16).all fun i => chkM P (65 + i) 3) = true := by kernel_rfl
theorem chkM4 (P : Params) : ((List.range 16).all fun i => chkM P (65 + i) 4) = true := by kernel_rfl
theorem chkM5 (P : Params) : ((List.range 16).all fun i => chkM P (65 + i) 5) = true := by kernel_rfl
theorem chkM6 (P : Params) : ((List.range 16).all fun i => chkM P (65 + i) 6) = true := by kernel_rfl
theorem chkM7 (P : Params) : ((List.range 16).all fun i => chkM P (65 + i) 7) = true := by kernel_rfl
theorem chkM8 (P : Params) : ((List.range 16).all fun i => chkM P (65 + i) 8) = true := by kernel_rfl
theorem chkM9 (P : Params) : ((List.range 16).all fun i => chkM P (65 + i) 9) = true := by kernel_rfl
theorem chkB : ((List.range 16).all fun i => (List.range 12).all fun f => !inB1 (spellC (65 + i) f)) = true := by kernel_rfl
noncomputable def lowTo (c c' : Nat) : Bool := (Txt.lower ⟨#[c]⟩).cps.toList == [c']
theorem chkA : ((List.range 16).all fun i => lowTo (65 + i) (97 + i) && lowTo (97 + i) (97 + i)) = true := by kernel_rfl
theorem chkT (P : Params) : ((List.range 16).all fun i => (tokI P ⟨#[97 + i]⟩).isNone) = true := by kernel_rfl
theorem chkU : ((List.range 27).all fun u => inB1 (unseenC u)) = true := by kernel_rfl
noncomputable def chkG (P : Params) (c : Nat) (t : Int) : Bool := !inB1 c && lowTo c c && tokI P ⟨#[c]⟩ == some t && Nat.blt c 128
theorem chkS (P : Params) : ((List.range 23).all fun s => chkG P (sgnL.getD s 0) (numOf s)) = true := by kernel_rfl
theorem chkE (P : Params) : chkG P 59 13 = true := by kernel_rfl
theorem chkN : ((List.range 23).all fun s => numOf s != 13) = true := by kernel_rfl
theorem letter_ok (P : Params) {o f : Nat} (h1 : 65 ≤ o) (h2 : o ≤ 80) (hf : f < 12) : inB1 (spellC o f) = false ∧ plain P (spellC o f) = ⟨#[o + 32]⟩ ∧ tokI P ⟨#[o + 32]⟩ = none := by
  obtain ⟨i, rfl⟩ := Nat.exists_eq_add_of_le h1
  have hi : i ∈ List.range 16 := by simp; omega
  have hB : inB1 (spellC (65 + i) f) = false := by
    have := List.all_eq_true.mp (List.all_eq_true.mp chkB i hi) f (by simpa using hf)
    simpa using this
  have ht := List.all_eq_true.mp (chkT P) i hi
  have e : 65 + i + 32 = 97 + i := by omega
  refine ⟨hB, ?_, ?_⟩
  · have go : chkM P (65 + i) f = true → plain P (spellC (65 + i) f) = ⟨#[65 + i + 32]⟩ := fun h => by
      unfold chkM at h
      split at h
      · rename_i en he
        split at h
        · rename_i x t hv
          have hx := str_of_list (beq_iff_eq.mp h)
          unfold plain
          rw [b3V_find, he]
          show (match some en.val with | some (.str x _) => x | _ => _) = _
          rw [hv, hx]
        · cases h
      · cases h
    have hA := List.all_eq_true.mp chkA i hi
    rw [Bool.and_eq_true] at hA
    unfold lowTo at hA
    have c0 := List.all_eq_true.mp (chkM0 P) i hi
    have c1 := List.all_eq_true.mp (chkM1 P) i hi
    have c2 := List.all_eq_true.mp (chkM2 P) i hi
    have c3 := List.all_eq_true.mp (chkM3 P) i hi
    have c4 := List.all_eq_true.mp (chkM4 P) i hi
    have c5 := List.all_eq_true.mp (chkM5 P) i hi
    have c6 := List.all_eq_true.mp (chkM6 P) i hi
    have c7 := List.all_eq_true.mp (chkM7 P) i hi
    have c8 := List.all_eq_true.mp (chkM8 P) i hi
    have c9 := List.all_eq_true.mp (chkM9 P) i hi
    have hcase : f = 0 ∨ f = 1 ∨ f = 2 ∨ f = 3 ∨ f = 4 ∨ f = 5 ∨ f = 6 ∨ f = 7 ∨ f = 8 ∨ f = 9 ∨ f = 10 ∨ f = 11 := by omega
    clear hB hf
    rcases hcase with rfl | rfl | rfl | rfl | rfl | rfl | rfl | rfl | rfl | rfl | rfl | rfl
    · exact go c0
    · exact go c1
    · exact go c2
    · exact go c3
    · exact go c4
    · exact go c5
    · exact go c6
    · exact go c7
    · exact go c8
    · exact go c9
    · have e1 : spellC (65 + i) 10 = 65 + i := by unfold spellC; rw [if_neg (by decide)]; omega
      rw [e1, plain_ascii P (by omega), str_of_list (beq_iff_eq.mp hA.1), e]
    · have e1 : spellC (65 + i) 11 = 97 + i := by unfold spellC; rw [if_neg (by decide)]; omega
      rw [e1, plain_ascii P (by omega), str_of_list (beq_iff_eq.mp hA.2), e]
  · rw [e]
    exact Option.isNone_iff_eq_none.mp ht
theorem unseen_ok {u : Nat} (h : u < 27) : inB1 (unseenC u) = true := List.all_eq_true.mp chkU u (by simpa using h)
theorem good_of (P : Params) {c : Nat} {t : Int} (h : chkG P c t = true) : inB1 c = false ∧ plain P c = ⟨#[c]⟩ ∧ tokI P ⟨#[c]⟩ = some t := by
  unfold chkG at h
  rw [Bool.and_eq_true, Bool.and_eq_true, Bool.and_eq_true, Bool.not_eq_true', beq_iff_eq] at h
  obtain ⟨⟨⟨h1, h2⟩, h3⟩, h4⟩ := h
  have h4 : c < 128 := by
    have := Nat.le_of_ble_eq_true h4
    omega
  unfold lowTo at h2
  exact ⟨h1, by rw [plain_ascii P h4, str_of_list (beq_iff_eq.mp h2)], h3⟩
theorem sign_ok (P : Params) {s : Nat} (h : s < 23) : inB1 (sgnL.getD s 0) = false ∧ plain P (sgnL.getD s 0) = ⟨#[sgnL.getD s 0]⟩ ∧ tokI P ⟨#[sgnL.getD s 0]⟩ = some (numOf s) :=
  good_of P (List.all_eq_true.mp (chkS P) s (by simpa using h))
theorem num_ne {s : Nat} (h : s < 23) : numOf s ≠ 13 := by
  have := List.all_eq_true.mp chkN s (by simpa using h)
  simpa using this
theorem mem_of_lookup' {β : Type} {c : Nat} {b : β} : ∀ {l : List (Nat × β)}, l.lookup c = some b → (c, b) ∈ l
  | [], h => by cases h
  | (x, y) :: l, h => by
    rw [List.lookup_cons] at h
    cases e : c == x with
    | true => rw [e] at h; cases h; rw [beq_iff_eq.mp e]; exact List.mem_cons_self
    | false => rw [e] at h; exact List.mem_cons_of_mem _ (mem_of_lookup' h)
theorem lower_len (c : Nat) : (Txt.lower ⟨#[c]⟩).length ≤ 3 := by
  have h1 : ∀ p ∈ UnicodeData.severalLower, p.2.length ≤ 3 := by decide +kernel
  have h2 : (Unicode.lowerOf c).length ≤ 3 := by
    unfold Unicode.lowerOf Unicode.image
    split
    · rename_i cs hcs
      have := mem_of_lookup' hcs
      exact h1 _ this
    · simp
  have e : (Txt.lower ⟨#[c]⟩).length = (Unicode.lowerAt #[c] 0).length := by simp [Txt.lower, placed, Str.length]
  rw [e]
  unfold Unicode.lowerAt
  simp only [List.getElem?_toArray, List.getElem?_cons_zero]
  split
  · simp
  · exact h2
theorem fit_ok (c : Nat) : Builtin.Str.tooLong (Txt.lower ⟨#[c]⟩).length = false := by
  have := lower_len c
  unfold Builtin.Str.tooLong
  exact decide_eq_false (by rw [hs24]; omega)
theorem rs_letter (P : Params) (R : List (List Int)) (ln : List Int) {o f : Nat} (h1 : 65 ≤ o) (h2 : o ≤ 80) (hf : f < 12) : readStep P (R, ln) (spellC o f) = (R, ln ++ [(o : Int) + 191]) := by
  obtain ⟨a, b, c⟩ := letter_ok P h1 h2 hf
  unfold readStep
  rw [a, if_neg (by decide), b, c]
  show (R, ln ++ [((o + 32 : Nat) : Int) + 159]) = _
  have : ((o + 32 : Nat) : Int) + 159 = (o : Int) + 191 := by omega
  rw [this]
theorem rs_unseen (P : Params) (st : List (List Int) × List Int) {u : Nat} (h : u < 27) : readStep P st (unseenC u) = st := by
  unfold readStep; rw [if_pos (unseen_ok h)]
theorem rs_sign (P : Params) (R : List (List Int)) (ln : List Int) {s : Nat} (h : s < 23) : readStep P (R, ln) (sgnL.getD s 0) = (R, ln ++ [numOf s]) := by
  obtain ⟨a, b, c⟩ := sign_ok P h
  unfold readStep
  rw [a, if_neg (by decide), b, c]
  show (if numOf s = 13 then _ else _) = _
  rw [if_neg (num_ne h)]
theorem rs_semi (P : Params) (R : List (List Int)) (ln : List Int) : readStep P (R, ln) 59 = (R ++ [ln ++ [0]], []) := by
  obtain ⟨a, b, c⟩ := good_of P (chkE P)
  unfold readStep
  rw [a, if_neg (by decide), b, c]; rfl
noncomputable def symL (b : List UInt8) : List Int := b.map fun c => (c.toNat : Int) + 191
theorem fold_spellP (P : Params) (R : List (List Int)) (ln : List Int) (b : List UInt8) (d : Nat) (hb : ∀ c ∈ b, 65 ≤ c.toNat ∧ c.toNat ≤ 80) : ∀ i, i ≤ b.length → (spellP b d i).foldl (readStep P) (R, ln) = (R, ln ++ symL (b.take i))
  | 0, _ => by simp [spellP, symL]
  | i + 1, h => by
    rw [spellP_succ, List.foldl_append, fold_spellP P R ln b d hb i (by omega)]
    have hg : b.getD i 0 = b[i] := by simp; rw [List.getElem?_eq_getElem (by omega)]; rfl
    have hm := hb b[i] (List.getElem_mem _)
    show readStep P _ (spellC _ _) = _
    rw [hg, rs_letter P _ _ hm.1 hm.2 (Nat.mod_lt _ (by decide)), List.take_add_one, List.getElem?_eq_getElem (by omega)]
    show _ = (R, ln ++ symL (b.take i ++ [b[i]]))
    unfold symL
    rw [List.map_append, List.append_assoc]; rfl
theorem fold_spelled (P : Params) (R : List (List Int)) (ln : List Int) (b : List UInt8) (d : Nat) (hb : ∀ c ∈ b, 65 ≤ c.toNat ∧ c.toNat ≤ 80) : (spelled b d).foldl (readStep P) (R, ln) = (R, ln ++ symL b) := by
  unfold spelled
  rw [List.foldl_append, fold_spellP P R ln b d hb _ (Nat.le_refl _), List.take_length]
  exact rs_unseen P _ (Nat.mod_lt _ (by decide))
theorem oct_ok {m : Nat} (h : m < 16) : (UInt8.ofNat (65 + m)).toNat = 65 + m := by
  rw [UInt8.toNat_ofNat']; omega
theorem vb_ok (n : Nat) : ∀ i, ∀ c ∈ (vb n i).toList, 65 ≤ c.toNat ∧ c.toNat ≤ 80
  | 0, c, h => by simp [vb] at h
  | i + 1, c, h => by
    simp only [vb, Array.toList_append, List.cons_append, List.nil_append, List.mem_cons] at h
    rcases h with rfl | h
    · have := Nat.mod_lt (n / 16 ^ i) (show 16 > 0 by decide)
      rw [oct_ok this]; omega
    · exact vb_ok n i c h
theorem word_ok (n : Nat) : ∀ c ∈ (word n).toList, 65 ≤ c.toNat ∧ c.toNat ≤ 80 := vb_ok n _
theorem sym_vb (n : Nat) : ∀ i, symL (vb n i).toList = ((List.range i).reverse).map fun (j : Nat) => (256 : Int) + ((n / 16 ^ j % 16 : Nat) : Int)
  | 0 => rfl
  | i + 1 => by
    have ih := sym_vb n i
    unfold symL at ih ⊢
    simp only [vb, Array.toList_append, List.cons_append, List.nil_append, List.map_cons]
    rw [ih, List.range_succ, List.reverse_append]
    have := oct_ok (Nat.mod_lt (n / 16 ^ i) (show 16 > 0 by decide))
    simp; omega
theorem sym_word {n : Nat} (h : n < 4096) : symL (word n).toList = fig n := by
  unfold word
  rw [sym_vb]
  unfold hexLen fig
  by_cases c0 : n = 0
  · subst c0; rfl
  rw [if_neg c0]
  have g : ∀ m : Nat, decide ((m : Int) ≤ (n : Int)) = decide (m ≤ n) := fun m => by simp
  by_cases c1 : n < 16
  · rw [if_pos c1]
    have e1 : decide ((256 : Int) ≤ n) = false := decide_eq_false (by omega)
    have e2 : decide ((16 : Int) ≤ n) = false := decide_eq_false (by omega)
    have e3 : decide ((1 : Int) ≤ n) = true := decide_eq_true (by omega)
    simp [List.range_succ, e1, e2, e3]
  rw [if_neg c1]
  by_cases c2 : n < 256
  · rw [if_pos c2]
    have e1 : decide ((256 : Int) ≤ n) = false := decide_eq_false (by omega)
    have e2 : decide ((16 : Int) ≤ n) = true := decide_eq_true (by omega)
    have e3 : decide ((1 : Int) ≤ n) = true := decide_eq_true (by omega)
    simp [List.range_succ, e1, e2, e3]
  · rw [if_neg c2]
    have e1 : decide ((256 : Int) ≤ n) = true := decide_eq_true (by omega)
    have e2 : decide ((16 : Int) ≤ n) = true := decide_eq_true (by omega)
    have e3 : decide ((1 : Int) ≤ n) = true := decide_eq_true (by omega)
    simp [List.range_succ, e1, e2, e3]
theorem fold_line (P : Params) (R : List (List Int)) {d : Drawn5} (ok : d.Ok) : (lineW d).foldl (readStep P) (R, []) = (R ++ [lineL d ++ [0]], []) := by
  unfold lineW lineL
  have h1 := ok.first
  have h2 := ok.second
  rw [List.foldl_append, List.foldl_append, List.foldl_append, fold_spelled P R [] _ _ (word_ok _), sym_word (by omega), List.nil_append]
  rw [List.foldl_cons, List.foldl_nil, List.foldl_cons, List.foldl_nil]
  rw [rs_sign P _ _ ok.sign, fold_spelled P _ _ _ _ (word_ok _), sym_word (by omega), rs_semi]
theorem fold_written (P : Params) : ∀ (ds : List Drawn5) (R : List (List Int)), (∀ d ∈ ds, d.Ok) → (written ds).foldl (readStep P) (R, []) = (R ++ ds.map (fun d => lineL d ++ [0]), [])
  | [], R, _ => by simp [written]
  | d :: ds, R, h => by
    have ih := fold_written P ds (R ++ [lineL d ++ [0]]) fun d hd => h d (List.mem_cons_of_mem _ hd)
    unfold written at ih ⊢
    rw [List.flatMap_cons, List.foldl_append, fold_line P R (h d List.mem_cons_self), ih]
    simp
theorem read_written (P : Params) {ds : List Drawn5} (h : ∀ d ∈ ds, d.Ok) : (readL P (written ds)).1 = ds.map fun d => lineL d ++ [0] := by
  unfold readL; rw [fold_written P ds [] h]; simp
theorem good_spelled (P : Params) (b : List UInt8) (d : Nat) (hb : ∀ c ∈ b, 65 ≤ c.toNat ∧ c.toNat ≤ 80) : ∀ c ∈ spelled b d, GoodC P c := fun c hc => by
  refine ⟨fit_ok c, fun h1 h2 => ?_⟩
  unfold spelled at hc
  rcases List.mem_append.mp hc with hc | hc
  · unfold spellP at hc
    obtain ⟨j, hj, rfl⟩ := List.mem_map.mp hc
    have hj : j < b.length := by simpa using hj
    have hg : b.getD j 0 = b[j] := by simp; rw [List.getElem?_eq_getElem hj]; rfl
    have hm := hb b[j] (List.getElem_mem _)
    rw [hg]
    exact ⟨_, (letter_ok P hm.1 hm.2 (Nat.mod_lt _ (by decide))).2.1⟩
  · simp only [List.mem_singleton] at hc
    subst hc
    rw [unseen_ok (Nat.mod_lt _ (by decide))] at h1; cases h1
theorem good_written (P : Params) {ds : List Drawn5} (h : ∀ d ∈ ds, d.Ok) : ∀ c ∈ written ds, GoodC P c := fun c hc => by
  unfold written at hc
  obtain ⟨d, hd, hc⟩ := List.mem_flatMap.mp hc
  unfold lineW at hc
  simp only [List.mem_append, List.mem_singleton] at hc
  rcases hc with ((hc | rfl) | hc) | rfl
  · exact good_spelled P _ _ (word_ok _) c hc
  · exact ⟨fit_ok _, fun _ _ => ⟨_, (sign_ok P (h d hd).sign).2.1⟩⟩
  · exact good_spelled P _ _ (word_ok _) c hc
  · exact ⟨fit_ok _, fun _ _ => ⟨_, (good_of P (chkE P)).2.1⟩⟩
end Mine
end
section
set_option maxRecDepth 100000
set_option Elab.async false
set_option linter.unusedVariables false
namespace Mine
open PySem PySem.W PySem.Calls PyProof.Rows
theorem drawS_ok {s : Int} (h0 : 0 ≤ s) (h1 : s ≤ 10 ^ 15) : (drawS s).Ok where
  first := by unfold drawS; simp only; omega
  sign := by unfold drawS; simp only; omega
  second := by unfold drawS; simp only; omega
  sought := by unfold drawS; simp only; omega
  dress := by unfold drawS; simp only; omega
theorem drawn_len (script : List Int) : (drawn script).length = 3 := by unfold drawn; rw [List.length_map, seedsOf_len]
theorem drawn_ok (script : List Int) : ∀ d ∈ drawn script, d.Ok := fun d hd => by
  unfold drawn at hd
  obtain ⟨s, hs, rfl⟩ := List.mem_map.mp hd
  obtain ⟨h0, h1⟩ := seedsOf_nonneg script _ s hs
  exact drawS_ok h0 (by omega)
theorem numOf_pos (s : Nat) (h : s < 23) : 0 < numOf s := by
  unfold numOf
  split
  · omega
  split
  · omega
  · have : ∀ i : Fin 4, 0 < tabN.getD i.val 0 := by decide
    exact this ⟨s - 19, by omega⟩
theorem lineL_pos {d : Drawn5} (ok : d.Ok) : ∀ x ∈ lineL d, 0 < x := fun x hx => by
  unfold lineL at hx
  simp only [List.mem_append, List.mem_singleton] at hx
  rcases hx with (hx | rfl) | hx
  · exact fig_pos _ x hx
  · exact numOf_pos _ ok.sign
  · exact fig_pos _ x hx
noncomputable def linesOf (ds : List Drawn5) : List (List Int) := sortL (ds.map lineL)
theorem lines_ok {ds : List Drawn5} (h : ∀ d ∈ ds, d.Ok) : LsOk (linesOf ds) where
  pos := fun l hl => by
    obtain ⟨d, hd, rfl⟩ := List.mem_map.mp ((sortL_perm _).mem_iff.mp hl)
    exact lineL_pos (h d hd)
  sorted := sortL_sorted _
noncomputable def ringsOf (ds : List Drawn5) : List (List Int) := ds.map fun d => lineL d ++ [0]
theorem rings_perm (ds : List Drawn5) : (ringsOf ds).Perm ((linesOf ds).map (· ++ [0])) := by
  have : ringsOf ds = (ds.map lineL).map (· ++ [0]) := by unfold ringsOf; rw [List.map_map]; rfl
  rw [this]
  exact (sortL_perm _).symm.map _
theorem turns_len : ∀ rings : List (List Int), (∀ r ∈ rings, r.length ≤ 8) → (turnsOf rings).length ≤ 8 * rings.length
  | [], _ => by simp [turnsOf]
  | r :: rs, h => by
    have ih := turns_len rs fun r hr => h r (List.mem_cons_of_mem _ hr)
    have h0 := h r List.mem_cons_self
    unfold turnsOf at ih ⊢
    rw [List.flatMap_cons, List.length_append, List.length_map, List.length_range, List.length_cons]; omega
theorem rings_len (ds : List Drawn5) : ∀ r ∈ ringsOf ds, 1 ≤ r.length ∧ r.length ≤ 8 := fun r hr => by
  obtain ⟨d, _, rfl⟩ := List.mem_map.mp hr
  have := lineL_len d
  rw [List.length_append, List.length_singleton]; omega
theorem last_len (ds : List Drawn5) : (lastOf (ringsOf ds)).length = (turnsOf (ringsOf ds)).length := by unfold lastOf; rw [List.length_map, (sortL_perm _).length_eq]
section
variable {ds : List Drawn5}
/-- from a front place: the line -/
theorem path_front (h : ∀ d ∈ ds, d.Ok) {i : Nat} (hi : i < (linesOf ds).length) : PathOk (lastOf (ringsOf ds)) (stepsOf (lastOf (ringsOf ds))) i ((linesOf ds).getD i []).length i ((linesOf ds).getD i []) := by
  have ok := lines_ok h
  rw [last_eq ok (rings_perm ds)]
  have := path ok (a := (i, ((linesOf ds).getD i []).length)) (mem_prs.mpr ⟨hi, Nat.le_refl _⟩)
  rw [ix_front ok hi, List.take_length] at this
  exact this
noncomputable def pairAt (ds : List Drawn5) (p : Nat) : Nat × Nat := (PSl (linesOf ds)).getD p (0, 0)
theorem pairAt_some {p : Nat} (hp : p < (PSl (linesOf ds)).length) : (PSl (linesOf ds))[p]? = some (pairAt ds p) := by
  unfold pairAt; rw [List.getD_eq_getElem?_getD, List.getElem?_eq_getElem hp]; rfl
theorem path_at (h : ∀ d ∈ ds, d.Ok) {p : Nat} (hp : p < (PSl (linesOf ds)).length) : PathOk (lastOf (ringsOf ds)) (stepsOf (lastOf (ringsOf ds))) p (pairAt ds p).2 (pairAt ds p).1 (((linesOf ds).getD (pairAt ds p).1 []).take (pairAt ds p).2) := by
  have ok := lines_ok h
  rw [last_eq ok (rings_perm ds)]
  have hs := pairAt_some hp
  have := path ok (a := pairAt ds p) (PS_mem.mp (List.mem_of_getElem? hs))
  rw [ix_at hs] at this
  exact this
theorem pairAt_le (p : Nat) : (pairAt ds p).2 ≤ 7 := by
  unfold pairAt
  rw [List.getD_eq_getElem?_getD]
  cases hg : (PSl (linesOf ds))[p]? with
  | none => simp
  | some a =>
    have hm := mem_prs.mp (PS_mem.mp (List.mem_of_getElem? hg))
    have hl : ((linesOf ds).getD a.1 []).length ≤ 7 := by
      rw [List.getD_eq_getElem?_getD]
      cases hg : (linesOf ds)[a.1]? with
      | none => simp
      | some l =>
        obtain ⟨d, _, rfl⟩ := List.mem_map.mp ((sortL_perm _).mem_iff.mp (List.mem_of_getElem? hg))
        exact lineL_len d
    show a.2 ≤ 7
    omega
theorem bnd_le (h : ∀ d ∈ ds, d.Ok) {wd : List Int} (hw : ∀ x ∈ wd, 0 < x) : (bnd (lastOf (ringsOf ds)) wd).1 ≤ (PSl (linesOf ds)).length ∧ (bnd (lastOf (ringsOf ds)) wd).2 ≤ (PSl (linesOf ds)).length := by
  have ok := lines_ok h
  rw [last_eq ok (rings_perm ds), bnd_eq ok wd hw]
  exact ⟨List.countP_le_length, List.countP_le_length⟩
theorem found_list (h : ∀ d ∈ ds, d.Ok) {wd : List Int} (hne : wd ≠ []) (hw : ∀ x ∈ wd, 0 < x) :
    sortL ((List.range ((bnd (lastOf (ringsOf ds)) wd).2 - (bnd (lastOf (ringsOf ds)) wd).1)).map fun i => [((pairAt ds ((bnd (lastOf (ringsOf ds)) wd).1 + i)).1 : Int), ((pairAt ds ((bnd (lastOf (ringsOf ds)) wd).1 + i)).2 : Int)]) = due1 (linesOf ds) wd := by
  have ok := lines_ok h
  have hb := bnd_le h hw
  rw [← found_due ok hne hw, ← last_eq ok (rings_perm ds)]
  generalize (bnd (lastOf (ringsOf ds)) wd).1 = lo at *
  generalize (bnd (lastOf (ringsOf ds)) wd).2 = hi at *
  congr 1
  apply List.ext_getElem?
  intro i
  rw [List.getElem?_map, List.getElem?_map]
  by_cases hi' : i < hi - lo
  · rw [List.getElem?_range hi', List.getElem?_take_of_lt hi', List.getElem?_drop, pairAt_some (by omega)]; rfl
  · rw [List.getElem?_eq_none (by simpa using hi'), List.getElem?_eq_none]
    · rfl
    · rw [List.length_take]; omega
end
theorem fig_ne {n : Int} (h : 1 ≤ n) : fig n ≠ [] := fun e => by
  unfold fig at e
  have := List.map_eq_nil_iff.mp e
  rw [List.filter_eq_nil_iff] at this
  exact this 1 (by simp) (decide_eq_true h)
theorem wFoundD (w : World) {ds : List Drawn5} (h3 : ds.length = 3) (h : ∀ d ∈ ds, d.Ok) (n : Nat) (h1 : 1 ≤ n) (h2 : n < 4096) :
    Fn (TopIn w) pw w 5 (.ref 145) [.list ((lastOf (ringsOf ds)).map .int), .list ((stepsOf (lastOf (ringsOf ds))).map .int), .byt (word n)] (rowD ((due1 (linesOf ds) (fig n)).map Elt.l)) := by
  have hsym : symB (word n) = fig n := sym_word h2
  have hw := fig_pos (n : Int)
  have hb := bnd_le h hw
  have hll := last_len ds
  have htl := turns_len _ fun r hr => (rings_len ds r hr).2
  have hrl : (ringsOf ds).length = 3 := by unfold ringsOf; rw [List.length_map, h3]
  have hpl : (PSl (linesOf ds)).length = (lastOf (ringsOf ds)).length := by rw [last_eq (lines_ok h) (rings_perm ds), List.length_map]
  have := wFound w (lastOf (ringsOf ds)) (stepsOf (lastOf (ringsOf ds))) (word n) (fun p => (pairAt ds p).2) (fun p => (pairAt ds p).1) (fun p => ((linesOf ds).getD (pairAt ds p).1 []).take (pairAt ds p).2)
    (by omega) (by unfold stepsOf; rw [List.length_map, List.length_range]) (word_size n) (fun p => by have := pairAt_le (ds := ds) p; omega) (by rw [hsym]; omega) (by rw [hsym]; omega) (fun p hp1 hp2 => path_at h (by rw [hsym] at hp2; omega))
  rw [hsym] at this
  rw [found_list h (fig_ne (by omega)) hw] at this
  have e : (Mine.D.list ((due1 (linesOf ds) (fig n)).map encL)) = rowD ((due1 (linesOf ds) (fig n)).map Elt.l) := by unfold rowD; rw [List.map_map]; rfl
  rw [e] at this
  exact this
set_option maxHeartbeats 4000000 in
theorem wLaw (w : World) (script : List Int) (hl : script.length ≤ 1000) : Fn (TopIn w) pw w 6 (.ref 160) [.list (script.map .int)] (.bool true) := by
  haveI := upTop w
  refine Fn.of_body (atLaw w) (noLim w) (cdLaw w) rfl bindLaw rfl (by decide) (by decide) rfl rfl rfl rfl fun L => ?_
  show Ex (TopIn w) pw w 5 (callEnvC fdLaw L 160) [("script", .dat (.list (script.map .int)))] _ _
  have hsz := hs24
  have h3 := drawn_len script
  have hok := drawn_ok script
  refine Ex.cons (Ex1.assign (Ev.callF (gDraw w) (fnDraw w) (wDraw w script hl).more (Evs.cons (Ev.name in0) Evs.nil) (by kernel_rfl)) (.inl (by kernel_rfl)) drp0 (by kernel_rfl)) ?_
  generalize drawn script = ds at *
  have hwl := written_len ds
  have hrw := read_written w.params hok
  have hrl := rings_len ds
  have htl := turns_len _ fun r hr => (rings_len ds r hr).2
  have hR : (readL w.params (written ds)).1 = ringsOf ds := hrw
  have hRl : (ringsOf ds).length = 3 := by unfold ringsOf; rw [List.length_map, h3]
  have hll := last_len ds
  refine Ex.cons (Ex1.assign (d := .list ((lastOf (ringsOf ds)).map .int)) (Ev.callF (gLast w) (fnLast w) (wLast w (ringsOf ds) (fun r hr => ⟨(hrl r hr).1, by have := (hrl r hr).2; omega⟩) (by omega) (by omega)).more (Evs.cons (Ev.cast (Ev.callF (gRead w) (fnRead w) (wRead w (written ds) (by omega) (good_written w.params hok)).more
    (Evs.cons (Ev.callF (gWritten w) (fnWritten w) (wWritten w ds (by omega) hok).more (Evs.cons (Ev.name in0) Evs.nil) (by kernel_rfl)) Evs.nil) (by kernel_rfl)) (by rw [hR])) Evs.nil) (by kernel_rfl)) (.inr (by kernel_rfl)) (drpS in0 (by decide) drp0) (by kernel_rfl)) ?_
  have hpth : ∀ i, i < 3 → PathOk (lastOf (ringsOf ds)) (stepsOf (lastOf (ringsOf ds))) i ((linesOf ds).getD i []).length i ((linesOf ds).getD i []) := fun i hi => path_front hok (by unfold linesOf; rw [(sortL_perm _).length_eq, List.length_map]; omega)
  have hfd := fun n h1 h2 => wFoundD w h3 hok n h1 h2
  have hdue := wDue w ds h3 hok
  have hL3 : (linesOf ds).length = 3 := by unfold linesOf; rw [(sortL_perm _).length_eq, List.length_map, h3]
  have hll7 : ∀ i, ((linesOf ds).getD i []).length ≤ 7 := fun i => by
    rw [List.getD_eq_getElem?_getD]
    cases hg : (linesOf ds)[i]? with
    | none => simp
    | some l =>
      obtain ⟨d, _, rfl⟩ := List.mem_map.mp ((sortL_perm _).mem_iff.mp (List.mem_of_getElem? hg))
      exact lineL_len d
  change Fn _ _ _ _ _ _ (.list ((dueRows (linesOf ds) (ds.map fun d => fig d.sought)).map rowD)) at hdue
  have hlast : (lastOf (ringsOf ds)).length ≤ 24 := by omega
  have hst : (stepsOf (lastOf (ringsOf ds))).map Mine.D.int = (List.range (lastOf (ringsOf ds)).length).map fun p => Mine.D.int ((reck (lastOf (ringsOf ds)) ((lastOf (ringsOf ds)).getD p 0) p : Nat) : Int) := by unfold stepsOf; rw [List.map_map]; rfl
  have hsl : (stepsOf (lastOf (ringsOf ds))).length = (lastOf (ringsOf ds)).length := by unfold stepsOf; rw [List.length_map, List.length_range]
  clear hR hRl hll hrl htl hrw hwl
  generalize hstp : stepsOf (lastOf (ringsOf ds)) = steps at *
  generalize lastOf (ringsOf ds) = last at *
  generalize linesOf ds = Ls at *
  have gofor : ∀ {o : OutC} {ss : List Stmt} {Γ : Cx} {env : Env} {n : Str} {ds : List Mine.D}, Ex (TopIn w) pw w 5 env ((n, .dat (.list ds)) :: Γ) ss o → ∀ {es : List Mine.D}, es = ds → Ex (TopIn w) pw w 5 env ((n, if false = true then .own es else .dat (.list es)) :: Γ) ss o := fun h es e => by
    rw [if_neg (by decide), e]; exact h
  have hml : ∀ a ∈ List.range last.length, a < last.length := fun a ha => by simpa using ha
  have hm3 : ∀ a ∈ List.range 3, a < 3 := fun a ha => by simpa using ha
  have hfl : ∀ n : Nat, (List.range n).filter (fun _ => true) = List.range n := fun n => List.filter_eq_self.mpr fun _ _ => rfl
  refine Ex.cons (Ex1.assign (d := .list (steps.map .int)) (Ev.cast (EvF.ev (EvF.comp (xs := List.range last.length) (enc := fun i => .int (i : Nat)) (p := fun _ => true) (f := fun p => Mine.D.int ((reck last (last.getD p 0) p : Nat) : Int)) (Γc := [("last", .dat (.list (last.map .int)))])
      (It.rangeN (b_range w) (Ev.cast (Ev.callB (b_len w) (f_len _ (by rw [List.length_map]; omega)) (Evs.cons (Ev.name in0) Evs.nil) (by kernel_rfl)) (by rw [List.length_map])) (by kernel_rfl) (by omega)) (CellsFull.call _ _ _) (by kernel_rfl) (by kernel_rfl) (capS in0 (by kernel_rfl) cap0) (fun C cl a ha => Tsts.nil)
      (fun C cl a ha hp => Ev.callF (gReck w) (fnReck w) (wReck w last (last.getD a 0) a (by omega)).more (Evs.cons (Ev.name in1) (Evs.cons (Ev.sub (Ev.name in1) (Ev.name in0) (sub_list _ a _ (getInt (hml a ha)) (by have := hml a ha; omega))) (Evs.cons (Ev.name in0) Evs.nil))) (by kernel_rfl)))) (by rw [hfl, ← hst])) (.inr (by kernel_rfl)) (drpS in0 (by decide) (drpS in1 (by decide) drp0)) (by kernel_rfl)) ?_
  refine Ex.cons (Ex1.assignC (xs := List.range 3) (enc := fun i => .int (i : Nat)) (pr := fun _ => true) (f := fun i => Mine.D.list [.int (i : Nat), encL (Ls.getD i [])]) (Γc := [("last", .dat (.list (last.map .int))), ("steps", .dat (.list (steps.map .int)))]) false
      (It.rangeN (b_range w) (Ev.cast Ev.int rfl) (by kernel_rfl) (by omega)) (by kernel_rfl) (by kernel_rfl) (capS in1 (by kernel_rfl) (capS in0 (by kernel_rfl) cap0)) (fun C cl a ha => Tsts.nil)
      (fun C cl a ha hp => Ev.callF (gBack w) (fnBack w) (wBackP w (by omega) hsl (hpth a (hm3 a ha)) (by have := hll7 a; omega)).more (Evs.cons (Ev.name in1) (Evs.cons (Ev.name in2) (Evs.cons (Ev.name in0) Evs.nil))) (by kernel_rfl)) (.inl (by kernel_rfl)) (drpS in0 (by decide) (drpS in1 (by decide) (drpS in2 (by decide) drp0))) (by kernel_rfl)) (gofor ?_ rfl)
  have hdue' : Fn (TopIn w) pw w 4 (.ref 155) [.list (ds.map Drawn5.d)] (.list ((dueRows Ls (ds.map fun d => fig d.sought)).map fun r => .list (r.map eltD))) := hdue
  have hfd2 : ds.filter (fun _ => true) = ds := List.filter_eq_self.mpr fun _ _ => rfl
  have hrl : (dueRows Ls (ds.map fun d => fig d.sought)).map (fun r => Mine.D.list (r.map eltD)) = ((List.range 3).filter (fun _ => true)).map (fun (i : Nat) => Mine.D.list [.int (i : Nat), encL (Ls.getD i [])]) ++ (ds.filter (fun _ => true)).map (fun d => rowD ((due1 Ls (fig d.sought)).map Elt.l)) := by
    unfold dueRows
    rw [hfl, hfd2, hL3, List.map_append, List.map_map, List.map_map, List.map_map]; rfl
  refine Ex.last (Ex1.ret (Ev.cmp (Ev.cast (Ev.bin (Ev.name in0) (EvF.ev (EvF.comp (xs := ds) (enc := Drawn5.d) (p := fun _ => true) (f := fun d => rowD ((due1 Ls (fig d.sought)).map Elt.l)) (Γc := [("last", .dat (.list (last.map .int))), ("steps", .dat (.list (steps.map .int)))])
      (It.of (Ev.name in3) rfl (by rw [List.length_map]; omega)) (CellsFull.call _ _ _) (by kernel_rfl) (by kernel_rfl) (capS in2 (by kernel_rfl) (capS in1 (by kernel_rfl) cap0)) (fun C cl a ha => Tsts.nil)
      (fun C cl a ha hp => Ev.callF (gFound w) (fnFound w) (hfd a.sought (hok a ha).sought.1 (by have := (hok a ha).sought.2; omega)) (Evs.cons (Ev.name in1) (Evs.cons (Ev.name in2) (Evs.cons (Ev.callF (gInt2AP w) (fnInt2AP w) (wAP w a.sought a.sought rfl (by have := (hok a ha).sought.2; omega)).more (Evs.cons (Ev.sub (Ev.name in0) Ev.int (sub_list _ 3 _ rfl (by decide))) Evs.nil) (by kernel_rfl)) Evs.nil))) (by kernel_rfl)))) (o_addl _ _ ?_)) (congrArg Mine.D.list hrl.symm))
    (Ev.callF (gDue w) (fnDue w) hdue'.more (Evs.cons (Ev.name in3) Evs.nil) (by kernel_rfl)) (o_eqRows _)))
  rw [← List.length_append, ← hrl, List.length_map]
  unfold dueRows
  rw [List.length_append, List.length_map, List.length_map, List.length_map, List.length_range]; omega
end Mine
end
section
set_option maxRecDepth 100000
set_option Elab.async false
set_option linter.unusedVariables false
namespace Mine
open PySem PySem.W PySem.Calls PyProof.Rows
theorem rds_well {P : Params} {X : Addr → Prop} {h : Heap} : ∀ (ns : List Int) (vs : List Value), WellAll P h vs (ofPys (ns.map PyData.int)) → Rds X h vs (ns.map Mine.D.int)
  | [], vs, x => by
    simp only [List.map_nil, ofPys] at x
    cases x; exact .nil
  | n :: ns, vs, x => by
    simp only [List.map_cons, ofPys, ofPy] at x
    cases x with
    | cons a b =>
      cases a
      exact .cons (.int _ _) (rds_well ns _ b)
theorem okn_caller : Okn 6 callerA := ⟨rfl, by decide, by decide, rfl⟩
set_option maxHeartbeats 4000000 in
theorem walk_law (d : DefRec) (hd : defOf qV "law" = some (d, [])) : WalkO qV looseV (fun _ _ => True) TopIn PySem.Challenge.rw_wf0076_01.row.toRowW d [] fun f vs => PySem.call f vs := by
  intro w s₀ s₁ mg mb G y a o pm cd doc dV kV h1 h2 h3 h4 h5 hg args vals as hpre hlay hrd hwl hlo
  have hn := defOf_name hd
  rw [hn] at h5
  have hns : s₁.heap.Ns 3 mg := G.T.g
  have ha : a = 160 := by
    rcases gLaw w s₁.heap y with ⟨m', e1, e2⟩ | ⟨m', mb', e1, e2, _⟩
    · rw [e1.eq_nsMap, ← hns.eq_nsMap] at e2
      rw [h5] at e2; cases e2; rfl
    · rw [e1.eq_nsMap, ← hns.eq_nsMap] at e2
      rw [h5] at e2; cases e2
  subst ha
  clear h1 h2 h3 h4 h5 hn hns
  wrow_args hpre hlay hrd hwl hlo
  rename_i ns _ _ _ _ _ _ _ la vs _ _ _ w1 _ _ _ hlen _
  have w2 : Well w.params s₁.heap (.ref la) (.list (ofPys (ns.map PyData.int))) := w1
  cases w2 with
  | list hget hall =>
    have hR : Rds (fun _ => False) s₁.heap [.ref la] [.list (ns.map Mine.D.int)] := .cons (.list ⟨_, hget⟩ (fun h => h) (rds_well ns _ hall)) .nil
    have hl : ns.length ≤ 1000 := by omega
    refine wpAny_mono (wLaw w ns hl (fun _ => False) callerA s₁ _ [.ref la] okn_caller y (fun _ h => h.elim) hR) (fun v s' h => ?_) fun _ _ x => x
    obtain ⟨⟨h', tk, rfl, up⟩, hr⟩ := h
    cases hr
    refine ⟨.inl ⟨_, .bool true, [], rfl, fun _ => rfl, .bool true, ?_, fun _ => ⟨List.nodup_nil, fun _ hm => nomatch hm⟩⟩, .of_keep up, rfl, .of_eq hg⟩
    wrow_post
theorem holds : PySem.Challenge.rw_wf0076_01.Holds := head_of walk_law
end Mine
end
theorem PySem.Challenge.cw_wf0076_01_holds : PySem.Challenge.rw_wf0076_01.Holds :=
  Mine.holds
#print axioms PySem.Challenge.cw_wf0076_01_holds
