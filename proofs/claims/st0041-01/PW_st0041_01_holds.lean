import PyProof.Rows.All
import Wide.All
import OpenK.AllK
import Wide.FinOn
import PySem.Challenge.RW_st0041_01
set_option Elab.async false
section
open PySem PySem.W PyProof.Rows
namespace Mine

/-- the state of the evaluator: the heap as a tree, its size, the tokens -/
structure St where
  tr : BT
  n : Nat
  tk : Nat

def St.abs (life : Life) (gens : Array GenState) (drawn : Drawn) (os : OsState) (s : St) : Shared := ⟨absHeap s.tr s.n life, gens, drawn, s.tk, os⟩

abbrev Ev (α : Type) := Pos → St → Option (Except Value α × Pos × St)

noncomputable def evT (call : Ctx → Pos → St → Option (Result × St)) (prog : Program) (P : Params) (Γ : Ctx) {α : Type} (t : Sem α) : Ev α :=
  Sem.rec (motive := fun _ => Ev α)
    (fun a p s => some (.ok a, p, s))
    (fun e p s => some (.error e, p, s))
    (fun _ _ _ => none)
    (fun _ _ _ => none)
    (fun _ _ ih p s => ih () p s)
    (fun p' _ ih _ s => ih () p' s)
    (fun a _ _ ih p s => @Bool.rec (fun _ => Option (Except Value α × Pos × St)) none
      (match s.tr.get a with
        | some o => match alive o with
          | some o' => ih o' p s
          | none => none
        | none => none) (Nat.blt a s.n))
    (fun a _ f _ ih p s => @Bool.rec (fun _ => Option (Except Value α × Pos × St)) none
      (match s.tr.get a with
        | some o => match alive o with
          | some _ => ih () p ⟨s.tr.set a f, s.n, s.tk⟩
          | none => none
        | none => none) (Nat.blt a s.n))
    (fun o _ ih p s => match (s.tr.ins s.n o).get s.n with
      | some _ => ih s.n p ⟨s.tr.ins s.n o, s.n + 1, s.tk⟩
      | none => none)
    (fun a _ ih p s => @Bool.rec (fun _ => Option (Except Value α × Pos × St)) (ih none p s)
      (match s.tr.get a with
        | some o => ih (alive o) p s
        | none => none) (Nat.blt a s.n))
    (fun _ _ ih p s => ih () p s)
    (fun _ _ _ _ _ => none)
    (fun _ ih p s => ih s.tk p ⟨s.tr, s.n, s.tk + 1⟩)
    (fun _ ih p s => ih ⟨prog, P⟩ p s)
    (fun _ _ _ _ _ _ => none)
    (fun _ _ _ _ _ _ => none)
    (fun c h _ _ _ ih p s => match call (Γ.enter c h p) p s with
      | some (r, s') => ih r p s'
      | none => none)
    (fun own _ ih p s => ih (if own then Γ.own else Γ.handled) p s)
    (fun _ _ _ _ _ => none)
    (fun _ _ _ _ _ => none)
    (fun _ _ _ _ _ _ _ => none)
    (fun _ _ _ _ _ _ _ => none)
    (fun _ ih p s => ih ((Γ.code, p) :: Γ.below) p s)
    (fun _ _ _ _ _ => none)
    (fun _ ih p s => ih 0 p s)
    (fun _ _ _ _ _ _ _ _ => none)
    t

noncomputable def evC (den : Code → Sem Fin) (prog : Program) (P : Params) (n : Nat) : Ctx → Pos → St → Option (Result × St) :=
  Nat.rec (motive := fun _ => Ctx → Pos → St → Option (Result × St)) (fun _ _ _ => none)
    (fun _ ih Γ p s => match evT ih prog P Γ (den Γ.code) p s with
      | some (.ok (.done f), _, s') => some (.ok f, s')
      | some (.ok (.again c), p', s') => match c.quiet with
        | true => ih (Γ.goto c) p' s'
        | false => none
      | some (.error e, _, s') => some (.error e, s')
      | none => none) n

section
variable {den : Code → Sem Fin} {prog : Program} {w : World} {life : Life} {gens : Array GenState} {drawn : Drawn} {os : OsState}

def CallOk (den : Code → Sem Fin) (prog : Program) (w : World) (life : Life) (gens : Array GenState) (drawn : Drawn) (os : OsState) (call : Ctx → Pos → St → Option (Result × St)) : Prop :=
  ∀ Γ p s r s', call Γ p s = some (r, s') → Returns ⟨den, prog, w⟩ Γ p (s.abs life gens drawn os) r (s'.abs life gens drawn os)

theorem blt_lt {a n : Nat} (h : Nat.blt a n = true) : a < n := Nat.le_of_ble_eq_true h
theorem blt_nlt {a n : Nat} (h : Nat.blt a n = false) : ¬ a < n := fun q => by
  rw [show Nat.blt a n = true from Nat.ble_eq_true_of_le q] at h; cases h

theorem evT_wp {call : Ctx → Pos → St → Option (Result × St)} (hc : CallOk den prog w life gens drawn os call) {Γ : Ctx} {α : Type} (t : Sem α) :
    ∀ (p : Pos) (s : St) (x : Except Value α) (p' : Pos) (s' : St), evT call prog w.params Γ t p s = some (x, p', s') →
      ∀ (Q : α → Pos → Shared → Prop) (E : Value → Pos → Shared → Prop),
        (match x with | .ok a => Q a p' (s'.abs life gens drawn os) | .error e => E e p' (s'.abs life gens drawn os)) →
        Sem.wp ⟨den, prog, w⟩ Γ t Q E p (s.abs life gens drawn os) := by
  induction t with
  | pure a =>
    intro p s x p' s' h Q E hq
    have h' : some (Except.ok a, p, s) = some (x, p', s') := h
    cases h'
    rw [Sem.wp]; exact hq
  | raise e =>
    intro p s x p' s' h Q E hq
    have h' : some (Except.error e, p, s) = some (x, p', s') := h
    cases h'
    rw [Sem.wp]; exact hq
  | unsupported | finish | register | choose | os | newGen | genState | resume | «yield» | fork | await => intro p s x p' s' h; exact absurd h (by intro z; cases z)
  | rule tag k ih => intro p s x p' s' h Q E hq; rw [Sem.wp]; exact ih () p s x p' s' h Q E hq
  | «at» q k ih => intro p s x p' s' h Q E hq; rw [Sem.wp]; exact ih () q s x p' s' h Q E hq
  | point l k ih => intro p s x p' s' h Q E hq; rw [Sem.wp]; exact ih () p s x p' s' h Q E hq
  | fresh k ih => intro p s x p' s' h Q E hq; rw [Sem.wp]; exact ih s.tk p ⟨s.tr, s.n, s.tk + 1⟩ x p' s' h Q E hq
  | ask k ih => intro p s x p' s' h Q E hq; rw [Sem.wp]; exact ih ⟨prog, w.params⟩ p s x p' s' h Q E hq
  | handled own k ih => intro p s x p' s' h Q E hq; rw [Sem.wp]; exact ih _ p s x p' s' h Q E hq
  | stack k ih => intro p s x p' s' h Q E hq; rw [Sem.wp]; exact ih _ p s x p' s' h Q E hq
  | thread k ih => intro p s x p' s' h Q E hq; rw [Sem.wp]; exact ih 0 p s x p' s' h Q E hq
  | load a part k ih =>
    intro p s x p' s' h Q E hq
    have h' : @Bool.rec (fun _ => Option (Except Value α × Pos × St)) none (match s.tr.get a with | some o => (match alive o with | some o' => evT call prog w.params Γ (k o') p s | none => none) | none => none) (Nat.blt a s.n) = some (x, p', s') := h
    cases e : Nat.blt a s.n with
    | false => rw [e] at h'; cases h'
    | true =>
      rw [e] at h'
      dsimp only at h'
      cases g : s.tr.get a with
      | none => rw [g] at h'; cases h'
      | some o =>
        rw [g] at h'
        dsimp only at h'
        cases al : alive o with
        | none => rw [al] at h'; cases h'
        | some o' =>
          rw [al] at h'
          rw [Sem.wp]
          exact ⟨o', (abs_get (life := life) (blt_lt e) g).trans al, ih o' p s x p' s' h' Q E hq⟩
  | update a part f k ih =>
    intro p s x p' s' h Q E hq
    have h' : @Bool.rec (fun _ => Option (Except Value α × Pos × St)) none (match s.tr.get a with | some o => (match alive o with | some _ => evT call prog w.params Γ (k ()) p ⟨s.tr.set a f, s.n, s.tk⟩ | none => none) | none => none) (Nat.blt a s.n) = some (x, p', s') := h
    cases e : Nat.blt a s.n with
    | false => rw [e] at h'; cases h'
    | true =>
      rw [e] at h'
      dsimp only at h'
      cases g : s.tr.get a with
      | none => rw [g] at h'; cases h'
      | some o =>
        rw [g] at h'
        dsimp only at h'
        cases al : alive o with
        | none => rw [al] at h'; cases h'
        | some o' =>
          rw [al] at h'
          rw [Sem.wp]
          refine ⟨?_, ?_⟩
          · show ((absHeap s.tr s.n life).get? a).isSome
            rw [abs_get (blt_lt e) g, al]; rfl
          · have q := ih () p ⟨s.tr.set a f, s.n, s.tk⟩ x p' s' h' Q E hq
            have e2 : (St.mk (s.tr.set a f) s.n s.tk).abs life gens drawn os = { (s.abs life gens drawn os) with heap := (s.abs life gens drawn os).heap.update a f } := by
              unfold St.abs
              rw [absHeap_set g]
            rw [e2] at q
            exact q
  | alloc o k ih =>
    intro p s x p' s' h Q E hq
    have h' : (match (s.tr.ins s.n o).get s.n with | some _ => evT call prog w.params Γ (k s.n) p ⟨s.tr.ins s.n o, s.n + 1, s.tk⟩ | none => none) = some (x, p', s') := h
    cases g : (s.tr.ins s.n o).get s.n with
    | none => rw [g] at h'; cases h'
    | some o' =>
      rw [g] at h'
      rw [Sem.wp]
      have q := ih s.n p ⟨s.tr.ins s.n o, s.n + 1, s.tk⟩ x p' s' h' Q E hq
      have e2 : (St.mk (s.tr.ins s.n o) (s.n + 1) s.tk).abs life gens drawn os = { (s.abs life gens drawn os) with heap := (s.abs life gens drawn os).heap.push o } := by
        unfold St.abs
        rw [absHeap_ins (by rw [g]; rfl)]
      have e3 : (s.abs life gens drawn os).heap.objs.size = s.n := absHeap_size _ _ _
      rw [e2] at q
      rw [e3]
      exact q
  | loadIfAlive a k ih =>
    intro p s x p' s' h Q E hq
    have h' : @Bool.rec (fun _ => Option (Except Value α × Pos × St)) (evT call prog w.params Γ (k none) p s) (match s.tr.get a with | some o => evT call prog w.params Γ (k (alive o)) p s | none => none) (Nat.blt a s.n) = some (x, p', s') := h
    rw [Sem.wp]
    cases e : Nat.blt a s.n with
    | false =>
      rw [e] at h'
      have g : (s.abs life gens drawn os).heap.get? a = none := abs_get_none (blt_nlt e)
      rw [g]
      exact ih none p s x p' s' h' Q E hq
    | true =>
      rw [e] at h'
      dsimp only at h'
      cases g : s.tr.get a with
      | none => rw [g] at h'; cases h'
      | some o =>
        rw [g] at h'
        have g' : (s.abs life gens drawn os).heap.get? a = alive o := abs_get (blt_lt e) g
        rw [g']
        exact ih (alive o) p s x p' s' h' Q E hq
  | call c hd g l k ih =>
    intro p s x p' s' h Q E hq
    have h' : (match call (Γ.enter c hd p) p s with | some (r, s₁) => evT call prog w.params Γ (k r) p s₁ | none => none) = some (x, p', s') := h
    cases g : call (Γ.enter c hd p) p s with
    | none => rw [g] at h'; cases h'
    | some rs =>
      obtain ⟨r, s₁⟩ := rs
      rw [g] at h'
      rw [Sem.wp]
      exact ⟨r, s₁.abs life gens drawn os, hc _ _ _ _ _ g, ih r p s₁ x p' s' h' Q E hq⟩

theorem evC_ok : ∀ n : Nat, CallOk den prog w life gens drawn os (evC den prog w.params n)
  | 0 => fun _ _ _ _ _ h => by cases h
  | n + 1 => fun Γ p s r s' h => by
    have ih := evC_ok n
    have h' : (match evT (evC den prog w.params n) prog w.params Γ (den Γ.code) p s with
      | some (.ok (.done f), _, s') => some (.ok f, s')
      | some (.ok (.again c), p', s') => (match c.quiet with
        | true => evC den prog w.params n (Γ.goto c) p' s'
        | false => none)
      | some (.error e, _, s') => some (.error e, s')
      | none => none) = some (r, s') := h
    have key : wpCode ⟨den, prog, w⟩ Γ (fun r' s'' => r' = r ∧ s'' = s'.abs life gens drawn os) p (s.abs life gens drawn os) := by
      rw [wpCode_iff_wp]
      cases g : evT (evC den prog w.params n) prog w.params Γ (den Γ.code) p s with
      | none => rw [g] at h'; cases h'
      | some y =>
        obtain ⟨x, p₁, s₁⟩ := y
        rw [g] at h'
        refine evT_wp ih (den Γ.code) p s x p₁ s₁ g _ _ ?_
        cases x with
        | error e =>
          cases h'
          exact ⟨rfl, rfl⟩
        | ok fin =>
          cases fin with
          | done f => cases h'; exact ⟨rfl, rfl⟩
          | again c =>
            dsimp only at h'
            cases hq : c.quiet with
            | false => rw [hq] at h'; cases h'
            | true =>
              rw [hq] at h'
              exact ⟨hq, r, s'.abs life gens drawn os, ih _ _ _ _ _ h', rfl, rfl⟩
    obtain ⟨r', s'', a, rfl, rfl⟩ := key
    exact a
end
end Mine
end
section
open PySem PySem.W PyProof.Rows
namespace Mine

def entL : Nat → List (Int × Str) → List DictEntry
  | _, [] => []
  | t, (k, v) :: r => ⟨hashInt k, .int k t, .str v (t + 1)⟩ :: entL (t + 3) r
def entS : Nat → List (Int × Str) → List DictEntry
  | _, [] => []
  | t, (k, v) :: r => ⟨hashInt k, .int k t, .str v (t + 1)⟩ :: entS (t + 2) r
theorem entL_length : ∀ (t : Nat) (l : List (Int × Str)), (entL t l).length = l.length
  | _, [] => rfl
  | t, (k, v) :: r => by simp [entL, entL_length]
theorem entS_length : ∀ (t : Nat) (l : List (Int × Str)), (entS t l).length = l.length
  | _, [] => rfl
  | t, (k, v) :: r => by simp [entS, entS_length]

def keyI (e : DictEntry) : Int := match e.key with
  | .int k _ => k
  | _ => 0
theorem entL_keys : ∀ (t : Nat) (l : List (Int × Str)), (entL t l).map keyI = l.map (·.1)
  | _, [] => rfl
  | t, (k, v) :: r => by simp [entL, entL_keys, keyI]
theorem entS_keys : ∀ (t : Nat) (l : List (Int × Str)), (entS t l).map keyI = l.map (·.1)
  | _, [] => rfl
  | t, (k, v) :: r => by simp [entS, entS_keys, keyI]

/-- entries of int keys, rightly hashed -/
def Good (es : List DictEntry) : Prop := ∀ e ∈ es, ∃ k t, e.key = .int k t ∧ e.hash = hashInt k
theorem Good.nil : Good [] := fun _ h => nomatch h
theorem Good.cons {e : DictEntry} {es : List DictEntry} (h : ∃ k t, e.key = .int k t ∧ e.hash = hashInt k) (g : Good es) : Good (e :: es) := fun x hx => by
  rcases List.mem_cons.mp hx with rfl | hx
  · exact h
  · exact g x hx
theorem Good.app {a b : List DictEntry} (x : Good a) (y : Good b) : Good (a ++ b) := fun e he => (List.mem_append.mp he).elim (x e) (y e)
theorem entL_good : ∀ (t : Nat) (l : List (Int × Str)), Good (entL t l)
  | _, [] => .nil
  | t, (k, v) :: r => .cons ⟨k, t, rfl, rfl⟩ (entL_good (t + 3) r)
theorem entS_good : ∀ (t : Nat) (l : List (Int × Str)), Good (entS t l)
  | _, [] => .nil
  | t, (k, v) :: r => .cons ⟨k, t, rfl, rfl⟩ (entS_good (t + 2) r)

abbrev dO (es : List DictEntry) : Obj := { cls := .type "dict", data := .dict es.toArray es.length }

section
variable {prog : Program} {w : World} {A : Around} {E : Value → Shared → Prop} {life : Life} {gens : Array GenState} {drawn : Drawn} {os : OsState}

abbrev Sh (life : Life) (gens : Array GenState) (drawn : Drawn) (os : OsState) (L : List Obj) (tk : Nat) : Shared := ⟨⟨L.toArray, life⟩, gens, drawn, tk, os⟩

theorem sh_get {L1 L2 : List Obj} {es : List DictEntry} : (⟨(L1 ++ dO es :: L2).toArray, life⟩ : Heap).get? L1.length = some (dO es) := by
  unfold Heap.get?
  simp
theorem sh_upd {L1 L2 : List Obj} {o : Obj} (f : Obj → Obj) : (⟨(L1 ++ o :: L2).toArray, life⟩ : Heap).update L1.length f = ⟨(L1 ++ f o :: L2).toArray, life⟩ := by
  unfold Heap.update
  simp only [List.modify_toArray]
  congr 2
  induction L1 with
  | nil => rfl
  | cons a l ih => simp only [List.cons_append, List.length_cons, List.modify_succ_cons, ih]
theorem map_push (es : List DictEntry) (e : DictEntry) : Obj.mapDictKeys (·.push e) (dO es) = dO (es ++ [e]) := by
  show ({ cls := .type "dict", data := .dict (es.toArray.push e) (es.length + 1) } : Obj) = _
  simp

theorem find_none {es : List DictEntry} {k : Int} (hf : ∀ e ∈ es, keyI e ≠ k) (hg : Good es) : (es.toArray.findIdx? fun e => Value.isInt k e.key) = none := by
  simp only [List.findIdx?_toArray, List.findIdx?_eq_none_iff]
  intro e he
  obtain ⟨j, t, e1, _⟩ := hg e he
  have := hf e he
  unfold keyI at this
  rw [e1] at this ⊢
  simpa [Value.isInt] using this

theorem setHashed {L1 L2 : List Obj} {es : List DictEntry} {k : Int} {t : Tok} {v : Value} {tk : Nat} {Q : Unit → Shared → Prop} (hg : Good es) (hf : ∀ e ∈ es, keyI e ≠ k) (hz : es.length ≤ sizeLine)
    (h : Q () (Sh life gens drawn os (L1 ++ dO (es ++ [⟨hashInt k, .int k t, v⟩]) :: L2) tk)) :
    wpAny (model prog w) A (dictSetHashed L1.length (.int k t) (hashInt k) v) Q E (Sh life gens drawn os (L1 ++ dO es :: L2) tk) := by
  unfold dictSetHashed
  refine wpAny_holding ?_
  refine wpAny_bind (wpAny_dictFind_of (knd := intKind prog w) (k := k) (by simp [intKind, Value.isInt]) sh_get rfl (fun e he => ?_) ?_)
  · obtain ⟨j, u, e1, e2⟩ := hg e (by simpa using he)
    exact ⟨j, by rw [e1]; simp [intKind, Value.isInt], e2⟩
  · rw [show (es.toArray.findIdx? fun e => (intKind prog w).is k e.key) = none from find_none hf hg]
    refine wpAny_bind (wpAny_rule ?_)
    refine wpAny_updateDictKeys (o := dO es) sh_get rfl ?_ (hz := by simpa using hz)
    show Q () ⟨(⟨(L1 ++ dO es :: L2).toArray, life⟩ : Heap).update L1.length _, gens, drawn, tk, os⟩
    rw [sh_upd, map_push]
    exact h

theorem putNew {L1 L2 : List Obj} {es : List DictEntry} {k : Int} {t : Tok} {v : Value} {tk : Nat} {Q : Unit → Shared → Prop} (hg : Good es) (hf : ∀ e ∈ es, keyI e ≠ k) (hz : es.length ≤ sizeLine)
    (h : Q () (Sh life gens drawn os (L1 ++ dO (es ++ [⟨hashInt k, .int k t, v⟩]) :: L2) tk)) :
    wpAny (model prog w) A (dictPut L1.length (hashInt k) (.int k t) v) Q E (Sh life gens drawn os (L1 ++ dO es :: L2) tk) := by
  unfold dictPut
  refine wpAny_bind (wpAny_dictFind_of (knd := intKind prog w) (k := k) (by simp [intKind, Value.isInt]) sh_get rfl (fun e he => ?_) ?_)
  · obtain ⟨j, u, e1, e2⟩ := hg e (by simpa using he)
    exact ⟨j, by rw [e1]; simp [intKind, Value.isInt], e2⟩
  · rw [show (es.toArray.findIdx? fun e => (intKind prog w).is k e.key) = none from find_none hf hg]
    refine wpAny_updateDictKeys (o := dO es) sh_get rfl ?_ (hz := by simpa using hz)
    show Q () ⟨(⟨(L1 ++ dO es :: L2).toArray, life⟩ : Heap).update L1.length _, gens, drawn, tk, os⟩
    rw [sh_upd, map_push]
    exact h

theorem setNew {L1 L2 : List Obj} {es : List DictEntry} {k : Int} {t : Tok} {v : Value} {tk : Nat} {Q : Unit → Shared → Prop} (hg : Good es) (hf : ∀ e ∈ es, keyI e ≠ k) (hz : es.length ≤ sizeLine)
    (h : Q () (Sh life gens drawn os (L1 ++ dO (es ++ [⟨hashInt k, .int k t, v⟩]) :: L2) (tk + 1))) :
    wpAny (model prog w) A (dictSet L1.length (.int k t) v) Q E (Sh life gens drawn os (L1 ++ dO es :: L2) tk) := by
  unfold dictSet
  refine wpAny_holding (wpAny_bind (wpAny_pyHash_int ?_))
  exact setHashed hg hf hz h

/-- a pair of the display, as the trees that its key and its value are -/
abbrev trees (pd : Pos) (kv : Int × Str) : Sem Value × Sem Value := (mkInt kv.1, do let x ← mkText kv.2; standAt pd; pure x)
theorem tree_key {k : Int} {s : Shared} {Q : Value → Shared → Prop} (h : Q (.int k s.toks) { s with toks := s.toks + 1 }) : wpAny (model prog w) A (mkInt k) Q E s := wpAny_mkInt h
theorem tree_val {pd : Pos} {v : Str} {s : Shared} {Q : Value → Shared → Prop} (h : Q (.str v s.toks) { s with toks := s.toks + 1 }) : wpAny (model prog w) A (do let x ← mkText v; standAt pd; pure x : Sem Value) Q E s := by
  exact fun _ _ _ => h

/-- the short road of a sub-display: all pairs first, then all stores -/
theorem evalPairs_run {pd : Pos} : ∀ (kvs : List (Int × Str)) (s : Shared) (Q : List (Value × Value) → Shared → Prop),
    Q ((entS s.toks kvs).map fun e => (e.key, e.val)) { s with toks := s.toks + 2 * kvs.length } → wpAny (model prog w) A (evalPairs (kvs.map (trees pd))) Q E s
  | [], s, Q, h => wpAny_pure h
  | (k, v) :: r, s, Q, h => by
    refine evalPairs_cons (tree_key (tree_val ?_))
    refine evalPairs_run r _ _ ?_
    have e : s.toks + 1 + 1 + 2 * r.length = s.toks + 2 * ((k, v) :: r).length := by simp; omega
    rw [← e] at h
    exact h

theorem storeAll_run {L1 L2 : List Obj} : ∀ (kvs : List (Int × Str)) (t : Nat) (es : List DictEntry) (tk : Nat) (Q : PUnit → Shared → Prop), Good es → (es.map keyI ++ kvs.map (·.1)).Pairwise (· < ·) → es.length + kvs.length ≤ sizeLine →
    Q PUnit.unit (Sh life gens drawn os (L1 ++ dO (es ++ entS t kvs) :: L2) (tk + kvs.length)) →
    wpAny (model prog w) A (forIn ((entS t kvs).map fun e => (e.key, e.val)) PUnit.unit fun (x : Value × Value) (_ : PUnit) => (do dictSet L1.length x.1 x.2; pure (ForInStep.yield PUnit.unit) : Sem (ForInStep PUnit))) Q E (Sh life gens drawn os (L1 ++ dO es :: L2) tk)
  | [], t, es, tk, Q, hg, hs, hz, h => by
    rw [show entS t [] = [] from rfl, List.map_nil, List.forIn_nil]
    exact wpAny_pure (by simpa [entS] using h)
  | (k, v) :: r, t, es, tk, Q, hg, hs, hz, h => by
    show wpAny _ _ (forIn ((Value.int k t, Value.str v (t + 1)) :: (entS (t + 2) r).map fun e => (e.key, e.val)) _ _) _ _ _
    rw [List.forIn_cons]
    have hf : ∀ e ∈ es, keyI e ≠ k := fun e he => by
      have := (List.pairwise_append.mp hs).2.2 (keyI e) (List.mem_map_of_mem he) k (by simp)
      omega
    refine wpAny_bind (wpAny_bind (setNew hg hf (by simp at hz; omega) (wpAny_pure ?_)))
    refine storeAll_run r (t + 2) (es ++ [⟨hashInt k, .int k t, .str v (t + 1)⟩]) (tk + 1) Q (hg.app (.cons ⟨k, t, rfl, rfl⟩ .nil)) ?_ (by simp at hz ⊢; omega) ?_
    · simpa [keyI] using hs
    · have e : tk + 1 + r.length = tk + ((k, v) :: r).length := by simp; omega
      rw [e, List.append_assoc]
      exact h

theorem sub_short {pd : Pos} {L : List Obj} {kvs : List (Int × Str)} {tk : Nat} {Q : Addr → Shared → Prop} (hn : kvs.length ≤ 15) (hs : (kvs.map (·.1)).Pairwise (· < ·))
    (h : Q L.length (Sh life gens drawn os (L ++ [dO (entS tk kvs)]) (tk + 3 * kvs.length))) :
    wpAny (model prog w) A (subDict (kvs.map (trees pd))) Q E (Sh life gens drawn os L tk) := by
  unfold subDict
  refine wpAny_bind (wpAny_alloc ?_)
  have e1 : (Sh life gens drawn os L tk).heap.objs.size = L.length := List.size_toArray
  have e2 : ({ (Sh life gens drawn os L tk) with heap := (Sh life gens drawn os L tk).heap.push { cls := .type "dict", data := .dict #[] } } : Shared) = Sh life gens drawn os (L ++ [dO []]) tk := by
    show Shared.mk (Heap.mk (L.toArray.push _) _) _ _ _ _ = Shared.mk _ _ _ _ _
    simp
  rw [e1, e2]
  refine wpAny_bind (wpAny_holding ?_)
  rw [if_pos (by simpa using hn)]
  refine wpAny_bind (evalPairs_run kvs _ _ (wpAny_holding ?_))
  refine wpAny_bind (storeAll_run (L1 := L) (L2 := []) kvs tk [] _ _ .nil (by simpa using hs) (by rw [sizeLine_eq]; simp; omega) (wpAny_pure (wpAny_pure ?_)))
  have e3 : tk + 2 * kvs.length + kvs.length = tk + 3 * kvs.length := by omega
  rw [List.nil_append, e3]
  exact h

theorem longLoop {pd : Pos} {L1 L2 : List Obj} : ∀ (kvs : List (Int × Str)) (es : List DictEntry) (tk : Nat) (Q : PUnit → Shared → Prop), Good es → (es.map keyI ++ kvs.map (·.1)).Pairwise (· < ·) → es.length + kvs.length ≤ sizeLine →
    Q PUnit.unit (Sh life gens drawn os (L1 ++ dO (es ++ entL tk kvs) :: L2) (tk + 3 * kvs.length)) →
    wpAny (model prog w) A (forIn (kvs.map (trees pd)) PUnit.unit fun (x : Sem Value × Sem Value) (_ : PUnit) => (do
      let kv ← x.1
      let vv ← holding [kv] x.2
      holding [kv, vv] (dictSet L1.length kv vv)
      pure (ForInStep.yield PUnit.unit) : Sem (ForInStep PUnit))) Q E (Sh life gens drawn os (L1 ++ dO es :: L2) tk)
  | [], es, tk, Q, hg, hs, hz, h => by
    rw [List.map_nil, List.forIn_nil]
    exact wpAny_pure (by simpa [entL] using h)
  | (k, v) :: r, es, tk, Q, hg, hs, hz, h => by
    rw [List.map_cons, List.forIn_cons]
    have hf : ∀ e ∈ es, keyI e ≠ k := fun e he => by
      have := (List.pairwise_append.mp hs).2.2 (keyI e) (List.mem_map_of_mem he) k (by simp)
      omega
    refine wpAny_bind (wpAny_bind (tree_key (wpAny_bind (wpAny_holding (tree_val (wpAny_bind (wpAny_holding (setNew hg hf (by simp at hz; omega) (wpAny_pure ?_)))))))))
    refine longLoop r (es ++ [⟨hashInt k, .int k tk, .str v (tk + 1)⟩]) (tk + 3) Q (hg.app (.cons ⟨k, tk, rfl, rfl⟩ .nil)) ?_ (by simp at hz ⊢; omega) ?_
    · simpa [keyI] using hs
    · have e : tk + 3 + 3 * r.length = tk + 3 * ((k, v) :: r).length := by simp; omega
      rw [e, List.append_assoc]
      exact h

theorem sub_long {pd : Pos} {L : List Obj} {kvs : List (Int × Str)} {tk : Nat} {Q : Addr → Shared → Prop} (hn : ¬ kvs.length ≤ 15) (hm : kvs.length ≤ sizeLine) (hs : (kvs.map (·.1)).Pairwise (· < ·))
    (h : Q L.length (Sh life gens drawn os (L ++ [dO (entL tk kvs)]) (tk + 3 * kvs.length))) :
    wpAny (model prog w) A (subDict (kvs.map (trees pd))) Q E (Sh life gens drawn os L tk) := by
  unfold subDict
  refine wpAny_bind (wpAny_alloc ?_)
  have e1 : (Sh life gens drawn os L tk).heap.objs.size = L.length := List.size_toArray
  have e2 : ({ (Sh life gens drawn os L tk) with heap := (Sh life gens drawn os L tk).heap.push { cls := .type "dict", data := .dict #[] } } : Shared) = Sh life gens drawn os (L ++ [dO []]) tk := by
    show Shared.mk (Heap.mk (L.toArray.push _) _) _ _ _ _ = Shared.mk _ _ _ _ _
    simp
  rw [e1, e2]
  refine wpAny_bind (wpAny_holding ?_)
  rw [if_neg (by simpa using hn)]
  refine wpAny_bind (wpAny_rule ?_)
  refine wpAny_bind (longLoop (L1 := L) (L2 := []) kvs [] _ _ .nil (by simpa using hs) (by simpa using hm) (wpAny_pure (wpAny_pure ?_)))
  rw [List.nil_append]
  exact h

theorem sh_get2 {L1 L2 L3 : List Obj} {m es : List DictEntry} : (⟨(L1 ++ dO m :: (L2 ++ dO es :: L3)).toArray, life⟩ : Heap).get? (L1.length + 1 + L2.length) = some (dO es) := by
  have := sh_get (life := life) (L1 := L1 ++ dO m :: L2) (L2 := L3) (es := es)
  simpa [Nat.add_assoc, Nat.add_comm 1] using this

/-- the merge of a sub-display into the display -/
theorem merge_run {L1 L2 : List Obj} {m es : List DictEntry} {a : Addr} {tk : Nat} {Q : Unit → Shared → Prop} (ha : a = L1.length + 1 + L2.length) (hsys : (a == sysModules) = false) (hne : m ≠ []) (hgm : Good m) (hge : Good es)
    (hs : (m.map keyI ++ es.map keyI).Pairwise (· < ·)) (hz : m.length + es.length ≤ sizeLine)
    (h : Q () (Sh life gens drawn os (L1 ++ dO (m ++ es) :: (L2 ++ [dO es])) tk)) :
    wpAny (model prog w) A (mergeMapping L1.length (.ref a) false) Q E (Sh life gens drawn os (L1 ++ dO m :: (L2 ++ [dO es])) tk) := by
  have ht : ∀ m', (Sh life gens drawn os (L1 ++ dO m' :: (L2 ++ [dO es])) tk).TypeIs (.ref a) "dict" := fun m' => ⟨dO es, by rw [ha]; exact sh_get2, rfl⟩
  have hga : ∀ m', (Sh life gens drawn os (L1 ++ dO m' :: (L2 ++ [dO es])) tk).heap.get? a = some (dO es) := fun m' => by rw [ha]; exact sh_get2
  unfold mergeMapping
  refine wpAny_bind (wpAny_isInstance (ht m) isSubtype_dict_dict ?_)
  simp only [if_true]
  refine wpAny_bind (wpAny_specialOf (ht m) F.slot_dict_iter.lookup (wpAny_bind (wpAny_pure ?_)))
  simp only [beq_self_eq_true]
  rw [hsys]
  simp only [Bool.false_eq_true, if_false]
  refine wpAny_bind (wpAny_dictEntries (o := dO m) sh_get rfl ?_)
  have hne' : (m.toArray.isEmpty) = false := by
    cases m with
    | nil => exact absurd rfl hne
    | cons x r => rfl
  rw [hne']
  simp only [Bool.false_eq_true, if_false]
  refine wpAny_bind (wpAny_dictEntries (o := dO es) (hga m) rfl ?_)
  refine wpAny_bind (wpAny_dictEpoch (o := dO es) (hga m) rfl ?_)
  refine wpAny_bind ?_
  refine wpAny_forIn_list _ (fun rest _ s' => ∃ i, i ≤ es.length ∧ rest = List.range' i (es.length - i) ∧ s' = Sh life gens drawn os (L1 ++ dO (m ++ es.take i) :: (L2 ++ [dO es])) tk) _ ?_ ?_ _ _ ⟨0, Nat.zero_le _, by simp [List.range_eq_range'], by simp⟩
  · rintro x rest _ s' ⟨i, hi, hr, rfl⟩
    have hlt : i < es.length := by
      rcases Nat.lt_or_ge i es.length with q | q
      · exact q
      · rw [show es.length - i = 0 by omega] at hr; cases hr
    have hr' : x = i ∧ rest = List.range' (i + 1) (es.length - (i + 1)) := by
      rw [show es.length - i = (es.length - (i + 1)) + 1 by omega, List.range'_succ] at hr
      exact ⟨(List.cons.inj hr).1, (List.cons.inj hr).2⟩
    obtain ⟨rfl, rfl⟩ := hr'
    refine wpAny_bind (wpAny_dictEntries (o := dO es) (hga _) rfl ?_)
    have hx : es.toArray[x]? = some es[x] := by simp [hlt]
    rw [hx]
    obtain ⟨k, t, hk, hh⟩ := hge es[x] (List.getElem_mem hlt)
    have hks : keyI es[x] = k := by unfold keyI; rw [hk]
    have e0 : es[x] = ⟨hashInt k, .int k t, es[x].val⟩ := by
      rcases h0 : es[x] with ⟨a1, a2, a3⟩
      rw [h0] at hk hh
      simp only at hk hh
      rw [hk, hh]
    have htk : es.take (x + 1) = es.take x ++ [es[x]] := by simp
    show wpAny _ _ (do holding [es[x].key, es[x].val] (dictPut L1.length es[x].hash es[x].key es[x].val); _) _ _ _
    rw [hh, hk]
    refine wpAny_bind (wpAny_holding (putNew (hgm.app fun e he => hge e (List.mem_of_mem_take he)) ?_ ?_ ?_))
    · intro e he
      have hsx : ((m.map keyI ++ (es.take x).map keyI) ++ keyI es[x] :: (es.drop (x + 1)).map keyI).Pairwise (· < ·) := by
        rw [List.append_assoc]
        have e1 : (es.take x).map keyI ++ keyI es[x] :: (es.drop (x + 1)).map keyI = es.map keyI := by
          rw [← List.map_cons, ← List.map_append]
          congr 1
          rw [← List.drop_eq_getElem_cons hlt, List.take_append_drop]
        rw [e1]; exact hs
      have hmem : keyI e ∈ m.map keyI ++ (es.take x).map keyI := by
        rw [← List.map_append]; exact List.mem_map_of_mem he
      have := (List.pairwise_append.mp hsx).2.2 _ hmem (keyI es[x]) (by simp)
      omega
    · simp; omega
    · refine wpAny_bind (wpAny_dictEpoch (o := dO es) (hga _) rfl ?_)
      rw [if_neg (by simp)]
      refine wpAny_pure ⟨x + 1, hlt, rfl, ?_⟩
      rw [htk, ← List.append_assoc, ← e0]
  · rintro _ s' ⟨i, hi, hr, rfl⟩
    have hge' : es.length ≤ i := by
      rcases Nat.lt_or_ge i es.length with q | q
      · rw [show es.length - i = (es.length - (i + 1)) + 1 by omega, List.range'_succ] at hr; cases hr
      · exact q
    have : es.take i = es := List.take_of_length_le hge'
    rw [this]
    exact wpAny_pure h

/-- what one flush makes of (the display's entries, the sub-displays, the tokens) -/
def flushed (x : List DictEntry × List Obj × Nat) (c : List (Int × Str)) : List DictEntry × List Obj × Nat :=
  (x.1 ++ (if c.length ≤ 15 then entS x.2.2 c else entL x.2.2 c), x.2.1 ++ [dO (if c.length ≤ 15 then entS x.2.2 c else entL x.2.2 c)], x.2.2 + 3 * c.length)
def allFlushed : List (Int × Str) → List (Int × Str) → List DictEntry × List Obj × Nat → List DictEntry × List Obj × Nat
  | run, [], x => if run.isEmpty then x else flushed x run
  | run, kv :: r, x => if run.length + 1 == 17 then allFlushed [] r (flushed x (run ++ [kv])) else allFlushed (run ++ [kv]) r x

def flushT (main : Option Addr) (run : List (Sem Value × Sem Value)) : Sem (Option Addr) :=
  if run.isEmpty = true then pure main else match main with
    | none => do
      let x ← subDict run
      pure (some x)
    | some d => do
      let sub ← holding [.ref d] (subDict run)
      (holding [.ref d, .ref sub] (mergeMapping d (.ref sub) false)).onRaise fun x => do
        let _ ← holding [.ref d, x] (runValue (.builtin "proto.let_go" {}))
        pure ()
      pure (some d)

theorem sub_run {pd : Pos} {L : List Obj} {c : List (Int × Str)} {tk : Nat} {Q : Addr → Shared → Prop} (hm : c.length ≤ sizeLine) (hs : (c.map (·.1)).Pairwise (· < ·))
    (h : Q L.length (Sh life gens drawn os (L ++ [dO (if c.length ≤ 15 then entS tk c else entL tk c)]) (tk + 3 * c.length))) :
    wpAny (model prog w) A (subDict (c.map (trees pd))) Q E (Sh life gens drawn os L tk) := by
  by_cases hc : c.length ≤ 15
  · rw [if_pos hc] at h; exact sub_short hc hs h
  · rw [if_neg hc] at h; exact sub_long hc hm hs h

theorem flush_some {pd : Pos} {L : List Obj} {m : List DictEntry} {subs : List Obj} {c : List (Int × Str)} {tk : Nat} {Q : Option Addr → Shared → Prop} (hL : sysModules < L.length) (hc : c ≠ []) (hne : m ≠ []) (hgm : Good m)
    (hs : (m.map keyI ++ c.map (·.1)).Pairwise (· < ·)) (hz : m.length + c.length ≤ sizeLine)
    (h : Q (some L.length) (Sh life gens drawn os (L ++ dO (flushed (m, subs, tk) c).1 :: (flushed (m, subs, tk) c).2.1) (flushed (m, subs, tk) c).2.2)) :
    wpAny (model prog w) A (flushT (some L.length) (c.map (trees pd))) Q E (Sh life gens drawn os (L ++ dO m :: subs) tk) := by
  unfold flushT
  rw [if_neg (by simpa using hc)]
  dsimp only
  refine wpAny_bind (wpAny_holding (sub_run (by omega) (List.pairwise_append.mp hs).2.1 ?_))
  have e1 : (L ++ dO m :: subs).length = L.length + 1 + subs.length := by simp; omega
  have e2 : ∀ x, (L ++ dO m :: subs) ++ [x] = L ++ dO m :: (subs ++ [x]) := fun x => by simp
  rw [e1, e2]
  have hk : (if c.length ≤ 15 then entS tk c else entL tk c).map keyI = c.map (·.1) := by split; exact entS_keys _ _; exact entL_keys _ _
  have hlen : (if c.length ≤ 15 then entS tk c else entL tk c).length = c.length := by split; exact entS_length _ _; exact entL_length _ _
  have hg : Good (if c.length ≤ 15 then entS tk c else entL tk c) := by split; exact entS_good _ _; exact entL_good _ _
  refine wpAny_bind (wpAny_onRaise (wpAny_holding (merge_run rfl ?_ hne hgm hg (by rw [hk]; exact hs) (by rw [hlen]; exact hz) (wpAny_pure h))))
  exact beq_eq_false_iff_ne.mpr (Nat.ne_of_gt (Nat.lt_of_lt_of_le hL (by rw [Nat.add_assoc]; exact Nat.le_add_right _ _)))

theorem flushed_facts {x : List DictEntry × List Obj × Nat} {c : List (Int × Str)} (hg : Good x.1) : Good (flushed x c).1 ∧ (flushed x c).1.map keyI = x.1.map keyI ++ c.map (·.1) ∧ (flushed x c).1.length = x.1.length + c.length := by
  unfold flushed
  refine ⟨hg.app ?_, ?_, ?_⟩
  · split; exact entS_good _ _; exact entL_good _ _
  · rw [List.map_append]; congr 1; split; exact entS_keys _ _; exact entL_keys _ _
  · rw [List.length_append]; congr 1; split; exact entS_length _ _; exact entL_length _ _

abbrev LoopF := Option (Sem Value) × Sem Value → Option Addr × List (Sem Value × Sem Value) → Sem (ForInStep (Option Addr × List (Sem Value × Sem Value)))
def IsLoop (pd : Pos) (f : LoopF) : Prop := ∀ (kv : Int × Str) (main : Option Addr) (run : List (Sem Value × Sem Value)), f (some (trees pd kv).1, (trees pd kv).2) (main, run) =
  (if ((run ++ [trees pd kv]).length == 17) = true then (do let main' ← flushT main (run ++ [trees pd kv]); pure (ForInStep.yield (main', []))) else pure (ForInStep.yield (main, run ++ [trees pd kv])))
abbrev itemsOf (pd : Pos) (kvs : List (Int × Str)) := kvs.map fun kv => (some (trees pd kv).1, (trees pd kv).2)
abbrev lastT (x : Option Addr × List (Sem Value × Sem Value)) : Sem Value := do
  match ← flushT x.1 x.2 with
    | some d => pure (Value.ref d)
    | none => newDict

theorem loopSome {pd : Pos} {f : LoopF} (hf : IsLoop pd f) {L : List Obj} (hL : sysModules < L.length) {Q : Value → Shared → Prop} : ∀ (kvs run : List (Int × Str)) (m : List DictEntry) (subs : List Obj) (tk : Nat),
    m ≠ [] → Good m → (m.map keyI ++ (run ++ kvs).map (·.1)).Pairwise (· < ·) → m.length + (run ++ kvs).length ≤ sizeLine →
    (let r := allFlushed run kvs (m, subs, tk); Q (.ref L.length) (Sh life gens drawn os (L ++ dO r.1 :: r.2.1) r.2.2)) →
    wpAny (model prog w) A (forIn (itemsOf pd kvs) (some L.length, run.map (trees pd)) f) (fun x s' => wpAny (model prog w) A (lastT x) Q E s') E (Sh life gens drawn os (L ++ dO m :: subs) tk)
  | [], run, m, subs, tk, hne, hg, hs, hz, h => by
    show wpAny _ _ (forIn [] _ f) _ _ _
    rw [List.forIn_nil]
    refine wpAny_pure ?_
    show wpAny _ _ (do match ← flushT (some L.length) (run.map (trees pd)) with | some d => pure (Value.ref d) | none => newDict) _ _ _
    rw [List.append_nil] at hs hz
    unfold allFlushed at h
    by_cases hr : run = []
    · subst hr
      refine wpAny_bind ?_
      show wpAny _ _ (pure (some L.length)) _ _ _
      exact wpAny_pure (wpAny_pure h)
    · rw [if_neg (by simpa using hr)] at h
      exact wpAny_bind (flush_some hL hr hne hg hs hz (wpAny_pure h))
  | kv :: r, run, m, subs, tk, hne, hg, hs, hz, h => by
    show wpAny _ _ (forIn ((some (trees pd kv).1, (trees pd kv).2) :: itemsOf pd r) _ f) _ _ _
    rw [List.forIn_cons, hf]
    have e1 : run.map (trees pd) ++ [trees pd kv] = (run ++ [kv]).map (trees pd) := by simp
    have e2 : run ++ kv :: r = (run ++ [kv]) ++ r := by simp
    rw [e1]
    rw [e2] at hs hz
    unfold allFlushed at h
    by_cases h17 : run.length + 1 = 17
    · rw [if_pos (by simpa using h17)] at h
      rw [if_pos (by simpa using h17)]
      have hs' := hs
      rw [List.map_append, ← List.append_assoc] at hs'
      have hz' : m.length + (run ++ [kv]).length ≤ sizeLine := by simp at hz ⊢; omega
      refine wpAny_bind (wpAny_bind (flush_some hL (by simp) hne hg (List.pairwise_append.mp hs').1 hz' (wpAny_pure ?_)))
      obtain ⟨g1, g2, g3⟩ := flushed_facts (x := (m, subs, tk)) (c := run ++ [kv]) hg
      exact loopSome hf hL r [] (flushed (m, subs, tk) (run ++ [kv])).1 (flushed (m, subs, tk) (run ++ [kv])).2.1 (flushed (m, subs, tk) (run ++ [kv])).2.2 (by intro q; rw [q] at g3; simp at g3) g1
        (by rw [g2]; simpa using hs') (by rw [g3]; simp at hz ⊢; omega) h
    · rw [if_neg (by simpa using h17)] at h
      rw [if_neg (by simpa using h17)]
      refine wpAny_bind (wpAny_pure ?_)
      exact loopSome hf hL r (run ++ [kv]) m subs tk hne hg hs hz h

theorem loopNone {pd : Pos} {f : LoopF} (hf : IsLoop pd f) {L : List Obj} (hL : sysModules < L.length) {Q : Value → Shared → Prop} {tk : Nat} : ∀ (kvs run : List (Int × Str)), run.length < 17 → 17 ≤ (run ++ kvs).length →
    ((run ++ kvs).map (·.1)).Pairwise (· < ·) → (run ++ kvs).length ≤ sizeLine →
    (let r := allFlushed [] ((run ++ kvs).drop 17) (entL tk ((run ++ kvs).take 17), [], tk + 51); Q (.ref L.length) (Sh life gens drawn os (L ++ dO r.1 :: r.2.1) r.2.2)) →
    wpAny (model prog w) A (forIn (itemsOf pd kvs) (none, run.map (trees pd)) f) (fun x s' => wpAny (model prog w) A (lastT x) Q E s') E (Sh life gens drawn os L tk)
  | [], run, h1, h2, _, _, _ => by rw [List.append_nil] at h2; omega
  | kv :: r, run, h1, h2, hs, hz, h => by
    show wpAny _ _ (forIn ((some (trees pd kv).1, (trees pd kv).2) :: itemsOf pd r) _ f) _ _ _
    rw [List.forIn_cons, hf]
    have e1 : run.map (trees pd) ++ [trees pd kv] = (run ++ [kv]).map (trees pd) := by simp
    have e2 : run ++ kv :: r = (run ++ [kv]) ++ r := by simp
    rw [e1]
    rw [e2] at hs hz h h2
    by_cases h17 : run.length + 1 = 17
    · have hl : (run ++ [kv]).length = 17 := by simpa using h17
      rw [if_pos (by simpa using h17)]
      rw [List.drop_append_of_le_length (Nat.le_of_eq hl.symm), List.take_append_of_le_length (Nat.le_of_eq hl.symm), List.drop_of_length_le (Nat.le_of_eq hl), List.take_of_length_le (Nat.le_of_eq hl), List.nil_append] at h
      have hs' := hs
      rw [List.map_append] at hs'
      refine wpAny_bind (wpAny_bind ?_)
      unfold flushT
      rw [if_neg (by simp)]
      dsimp only
      have hc : ¬ (run ++ [kv]).length ≤ 15 := by omega
      refine wpAny_bind (sub_long hc (by rw [sizeLine_eq]; omega) (List.pairwise_append.mp hs').1 (wpAny_pure (wpAny_pure ?_)))
      rw [hl]
      exact loopSome hf hL r [] (entL tk (run ++ [kv])) [] (tk + 51) (by intro q; have := entL_length tk (run ++ [kv]); rw [q] at this; simp at this) (entL_good _ _)
        (by rw [entL_keys]; simpa using hs') (by rw [entL_length]; simp at hz ⊢; omega) h
    · rw [if_neg (by simpa using h17)]
      refine wpAny_bind (wpAny_pure ?_)
      exact loopNone hf hL r (run ++ [kv]) (by simp; omega) h2 hs hz h

/-- a long display of int keys, rising, and texts -/
theorem disp_run {pd : Pos} {L : List Obj} {kvs : List (Int × Str)} {tk : Nat} {Q : Value → Shared → Prop} (hL : sysModules < L.length) (h17 : 17 ≤ kvs.length) (hs : (kvs.map (·.1)).Pairwise (· < ·)) (hz : kvs.length ≤ sizeLine)
    (h : let r := allFlushed [] (kvs.drop 17) (entL tk (kvs.take 17), [], tk + 51); Q (.ref L.length) (Sh life gens drawn os (L ++ dO r.1 :: r.2.1) r.2.2)) :
    wpAny (model prog w) A (dictDisplay (itemsOf pd kvs)) Q E (Sh life gens drawn os L tk) := by
  unfold dictDisplay
  refine wpAny_bind ?_
  exact loopNone (fun kv main run => rfl) hL kvs [] (by simp) h17 hs hz h

def rising : List Int → Bool
  | a :: b :: r => decide (a < b) && rising (b :: r)
  | _ => true
theorem rising_pairwise : ∀ {l : List Int}, rising l = true → l.Pairwise (· < ·)
  | [], _ => .nil
  | [a], _ => List.pairwise_singleton _ _
  | a :: b :: r, h => by
    unfold rising at h
    obtain ⟨h1, h2⟩ := Bool.and_eq_true_iff.mp h
    have ih := rising_pairwise h2
    have h1 := of_decide_eq_true h1
    refine List.pairwise_cons.mpr ⟨fun x hx => ?_, ih⟩
    rcases List.mem_cons.mp hx with rfl | hx
    · exact h1
    · exact Int.lt_trans h1 ((List.pairwise_cons.mp ih).1 x hx)
end
end Mine
end
section
open PySem PySem.W PyProof.Rows
set_option maxRecDepth 100000
namespace Mine
@[irreducible] noncomputable def prog : Program := PySem.Challenge.rw_st0041_01.prog
noncomputable def fparts : Stmt → Arguments × List Stmt × Scope
  | .FunctionDef _ a b _ _ _ s _ _ _ => (a, b, s)
  | _ => default
noncomputable def topF (i : Nat) : Arguments × List Stmt × Scope := fparts (PySem.Challenge.rw_st0041_01.prog.main.body.getD i (.Pass default))
noncomputable def cbody : Stmt → List Stmt
  | .ClassDef _ _ _ b _ _ _ _ _ _ _ => b
  | _ => []
noncomputable def methF (j : Nat) : Arguments × List Stmt × Scope := fparts ((cbody (PySem.Challenge.rw_st0041_01.prog.main.body.getD 2 (.Pass default))).getD (j + 1) (.Pass default))
noncomputable def dpair : Option Expr × Expr → Int × Str
  | (some (.Constant (.int k) _ _), .Constant (.str v) _ _) => (k, v)
  | _ => default
noncomputable def dparts : Stmt → List (Int × Str)
  | .Assign _ (.Dict ks vs _) _ => (ks.zip vs).map dpair
  | _ => []
noncomputable def dispKV : List (Int × Str) := dparts (prog.main.body.getD 9 (.Pass default))
noncomputable def dispO (i : Nat) : Obj := match i - 113 with
  | 0 => { cls := .type "dict", data := .dict (entL 381 (dispKV.take 646) ++ entS 2319 (dispKV.drop 646)).toArray 650 }
  | 38 => { cls := .type "dict", data := .dict (entS 2319 (dispKV.drop 646)).toArray 4 }
  | j => { cls := .type "dict", data := .dict (entL (381 + 51 * j) ((dispKV.drop (17 * j)).take 17)).toArray 17 }
noncomputable def Tb (P : Params) : BT := (.node (boot_o_0 P) (.node (boot_o_1 P) (.node (boot_o_3 P) (.node (boot_o_7 P) .nil .nil) .nil) (.node (boot_o_5 P) (.node (boot_o_9 P) .nil .nil) .nil)) (.node (boot_o_2 P) (.node (boot_o_4 P) (.node (boot_o_8 P) .nil .nil) .nil) (.node (boot_o_6 P) (.node (boot_o_10 P) .nil .nil) .nil)))
@[irreducible] noncomputable def Sb (P : Params) : St := ⟨Tb P, 11, 181⟩
abbrev pb : Pos := ⟨0, 0, 0, 0⟩
noncomputable def oa_11 : Obj := { cls := Value.type "tuple", data := Data.seq #[] }
noncomputable def oa_12 : Obj := { cls := Value.none, data := Data.fields #[] }
noncomputable def oa_13 : Obj := { cls := Value.type "code", data := Data.fields #[Value.str (Str.ofString "<module>") 182, Value.str (Str.ofString "<module>") 183, Value.str (Str.ofString "/claim/cut.py") 184, Value.int 1 0, Value.int 0 0, Value.int 0 0, Value.int 0 0, Value.int 0 0, Value.ref 11, Value.bool false, Value.int 181 0, Value.ref 12, Value.none, Value.none, Value.none, Value.none, Value.int 185 0, Value.int 1 0, Value.str (Str.ofString "/claim/cut.py") 186] }
noncomputable def oa_14 : Obj := { cls := Value.type "frame", slots := #[some (Value.ref 13), some (Value.ref 3), some (Value.ref 3), none, some (Value.str (Str.ofString "__main__") 164), none, some (Value.ref 0)] }
noncomputable def Ta (P : Params) : BT := (.node (boot_o_0 P) (.node (boot_o_1 P) (.node (boot_o_3 P) (.node (boot_o_7 P) .nil .nil) (.node oa_11 .nil .nil)) (.node (boot_o_5 P) (.node (boot_o_9 P) .nil .nil) (.node oa_13 .nil .nil))) (.node (boot_o_2 P) (.node (boot_o_4 P) (.node (boot_o_8 P) .nil .nil) (.node oa_12 .nil .nil)) (.node (boot_o_6 P) (.node (boot_o_10 P) .nil .nil) (.node oa_14 .nil .nil))))
@[irreducible] noncomputable def Sa (P : Params) : St := ⟨Ta P, 15, 187⟩
abbrev pa : Pos := ⟨0, 0, 0, 0⟩
noncomputable def o6_3 (P : Params) : Obj := { cls := Value.type "dict", data := Data.dict #[{ hash := PyData.keyHash P (Str.ofString "__name__"), key := Value.str (Str.ofString "__name__") 165, val := Value.str (Str.ofString "cpy313.stringprep") 312 }, { hash := PyData.keyHash P (Str.ofString "__doc__"), key := Value.str (Str.ofString "__doc__") 166, val := Value.none }, { hash := PyData.keyHash P (Str.ofString "__package__"), key := Value.str (Str.ofString "__package__") 167, val := Value.none }, { hash := PyData.keyHash P (Str.ofString "__loader__"), key := Value.str (Str.ofString "__loader__") 168, val := Value.builtin "__main__.__loader__#opaque" }, { hash := PyData.keyHash P (Str.ofString "__spec__"), key := Value.str (Str.ofString "__spec__") 169, val := Value.none }, { hash := PyData.keyHash P (Str.ofString "__annotations__"), key := Value.str (Str.ofString "__annotations__") 170, val := Value.ref 6 }, { hash := PyData.keyHash P (Str.ofString "__builtins__"), key := Value.str (Str.ofString "__builtins__") 171, val := Value.ref 4 }, { hash := PyData.keyHash P (Str.ofString "__file__"), key := Value.str (Str.ofString "__file__") 173, val := Value.str (Str.ofString "/claim/cut.py") 172 }, { hash := PyData.keyHash P (Str.ofString "__cached__"), key := Value.str (Str.ofString "__cached__") 174, val := Value.none }, { hash := PyData.keyHash P (Str.ofString "_wall"), key := Value.str (Str.ofString "_wall") 193, val := Value.ref 21 }, { hash := PyData.keyHash P (Str.ofString "Whitespace"), key := Value.str (Str.ofString "Whitespace") 298, val := Value.ref 83 }, { hash := PyData.keyHash P (Str.ofString "CHAR_MAX"), key := Value.str (Str.ofString "CHAR_MAX") 302, val := Value.int 127 301 }, { hash := PyData.keyHash P (Str.ofString "_grouping_intervals"), key := Value.str (Str.ofString "_grouping_intervals") 311, val := Value.ref 94 }] 13 }
noncomputable def o6_12 : Obj := { cls := Value.none, data := Data.fields #[Value.int 1 0, Value.int 0 0, Value.ref 20, Value.int 5 0, Value.int 0 0, Value.ref 27, Value.int 68 0, Value.int 0 0, Value.ref 93] }
noncomputable def o6_15 : Obj := { cls := Value.type "tuple", data := Data.seq #[] }
noncomputable def o6_16 : Obj := { cls := Value.none, data := Data.fields #[] }
noncomputable def o6_17 : Obj := { cls := Value.type "tuple", data := Data.seq #[Value.str (Str.ofString "k") 190] }
noncomputable def o6_18 : Obj := { cls := Value.type "tuple", data := Data.seq #[] }
noncomputable def o6_19 : Obj := ⟨Value.none, none, .func { name := Str.ofString "_wall", qualname := Str.ofString "_wall", params := (topF 0).1, body := .stmts (topF 0).2.1, scope := (topF 0).2.2, globals := 0, closure := [], defaults := Value.none, kwdefaults := Value.none, doc := Value.none, pyModule := Value.none, annotations := none, code := Value.none, closureTuple := Value.none, builtins := 0 }, #[]⟩
noncomputable def o6_20 : Obj := { cls := Value.type "code", data := Data.fields #[Value.str (Str.ofString "_wall") 187, Value.str (Str.ofString "_wall") 188, Value.str (Str.ofString "/claim/cut.py") 189, Value.int 1 0, Value.int 1 0, Value.int 0 0, Value.int 0 0, Value.int 3 0, Value.ref 15, Value.bool true, Value.int 181 0, Value.ref 16, Value.none, Value.ref 17, Value.ref 18, Value.ref 19, Value.int 191 0, Value.int 1 0, Value.str (Str.ofString "/claim/cut.py") 192] }
noncomputable def o6_21 : Obj := ⟨Value.type "function", none, .func { name := Str.ofString "_wall", qualname := Str.ofString "_wall", params := (topF 0).1, body := .stmts (topF 0).2.1, scope := (topF 0).2.2, globals := 3, closure := [], defaults := Value.none, kwdefaults := Value.none, doc := Value.none, pyModule := Value.str (Str.ofString "__main__") 164, annotations := none, code := Value.ref 20, closureTuple := Value.none, builtins := 0 }, #[]⟩
noncomputable def o6_22 : Obj := { cls := Value.type "tuple", data := Data.seq #[] }
noncomputable def o6_23 : Obj := { cls := Value.type "builtin_function_or_method", data := Data.fields #[Value.builtin "type.__prepare__", Value.type "type"] }
noncomputable def o6_24 (P : Params) : Obj := { cls := Value.type "dict", data := Data.dict #[{ hash := PyData.keyHash P (Str.ofString "__module__"), key := Value.str (Str.ofString "__module__") 203, val := Value.str (Str.ofString "cpy313.tabnanny") 194 }, { hash := PyData.keyHash P (Str.ofString "__qualname__"), key := Value.str (Str.ofString "__qualname__") 205, val := Value.str (Str.ofString "Whitespace") 204 }, { hash := PyData.keyHash P (Str.ofString "__firstlineno__"), key := Value.str (Str.ofString "__firstlineno__") 207, val := Value.int 5 206 }, { hash := PyData.keyHash P (Str.ofString "S"), key := Value.str (Str.ofString "S") 211, val := Value.str (Str.ofString " ") 209 }, { hash := PyData.keyHash P (Str.ofString "T"), key := Value.str (Str.ofString "T") 212, val := Value.str (Str.ofString "\t") 210 }, { hash := PyData.keyHash P (Str.ofString "__init__"), key := Value.str (Str.ofString "__init__") 227, val := Value.ref 38 }, { hash := PyData.keyHash P (Str.ofString "longest_run_of_spaces"), key := Value.str (Str.ofString "longest_run_of_spaces") 236, val := Value.ref 45 }, { hash := PyData.keyHash P (Str.ofString "indent_level"), key := Value.str (Str.ofString "indent_level") 248, val := Value.ref 52 }, { hash := PyData.keyHash P (Str.ofString "equal"), key := Value.str (Str.ofString "equal") 256, val := Value.ref 59 }, { hash := PyData.keyHash P (Str.ofString "not_equal_witness"), key := Value.str (Str.ofString "not_equal_witness") 267, val := Value.ref 66 }, { hash := PyData.keyHash P (Str.ofString "less"), key := Value.str (Str.ofString "less") 277, val := Value.ref 73 }, { hash := PyData.keyHash P (Str.ofString "not_less_witness"), key := Value.str (Str.ofString "not_less_witness") 285, val := Value.ref 80 }, { hash := PyData.keyHash P (Str.ofString "__static_attributes__"), key := Value.str (Str.ofString "__static_attributes__") 291, val := Value.ref 81 }] 13 }
noncomputable def o6_25 : Obj := { cls := Value.type "tuple", data := Data.seq #[] }
noncomputable def o6_26 : Obj := { cls := Value.none, data := Data.fields #[Value.int 8 0, Value.int 4 0, Value.ref 37, Value.int 31 0, Value.int 4 0, Value.ref 44, Value.int 35 0, Value.int 4 0, Value.ref 51, Value.int 42 0, Value.int 4 0, Value.ref 58, Value.int 45 0, Value.int 4 0, Value.ref 65, Value.int 53 0, Value.int 4 0, Value.ref 72, Value.int 64 0, Value.int 4 0, Value.ref 79] }
noncomputable def o6_27 : Obj := { cls := Value.type "code", data := Data.fields #[Value.str (Str.ofString "Whitespace") 198, Value.str (Str.ofString "Whitespace") 199, Value.str (Str.ofString "/claim/cut.py") 200, Value.int 5 0, Value.int 0 0, Value.int 0 0, Value.int 0 0, Value.int 0 0, Value.ref 25, Value.bool false, Value.int 181 0, Value.ref 26, Value.none, Value.none, Value.none, Value.none, Value.int 201 0, Value.int 5 0, Value.str (Str.ofString "/claim/cut.py") 202] }
noncomputable def o6_28 : Obj := { cls := Value.type "frame", slots := #[some (Value.ref 27), some (Value.ref 3), some (Value.ref 24), none, some (Value.str (Str.ofString "cpy313.tabnanny") 194), none, some (Value.ref 0)] }
noncomputable def o6_29 : Obj := { cls := Value.type "str_ascii_iterator", data := Data.fields #[Value.none, Value.int 2 0] }
noncomputable def o6_30 : Obj := { cls := Value.type "tuple", data := Data.seq #[] }
noncomputable def o6_31 : Obj := { cls := Value.type "StopIteration", data := Data.fields #[Value.ref 30, Value.none, Value.none, Value.none, Value.bool false, Value.none] }
noncomputable def o6_32 : Obj := { cls := Value.type "tuple", data := Data.seq #[] }
noncomputable def o6_33 : Obj := { cls := Value.none, data := Data.fields #[] }
noncomputable def o6_34 : Obj := { cls := Value.type "tuple", data := Data.seq #[Value.str (Str.ofString "self") 216, Value.str (Str.ofString "ws") 217, Value.str (Str.ofString "S") 218, Value.str (Str.ofString "T") 219, Value.str (Str.ofString "count") 220, Value.str (Str.ofString "b") 221, Value.str (Str.ofString "n") 222, Value.str (Str.ofString "nt") 223, Value.str (Str.ofString "ch") 224] }
noncomputable def o6_35 : Obj := { cls := Value.type "tuple", data := Data.seq #[] }
noncomputable def o6_36 : Obj := ⟨Value.none, none, .func { name := Str.ofString "__init__", qualname := Str.ofString "Whitespace.__init__", params := (methF 0).1, body := .stmts (methF 0).2.1, scope := (methF 0).2.2, globals := 0, closure := [], defaults := Value.none, kwdefaults := Value.none, doc := Value.none, pyModule := Value.none, annotations := none, code := Value.none, closureTuple := Value.none, builtins := 0 }, #[]⟩
noncomputable def o6_37 : Obj := { cls := Value.type "code", data := Data.fields #[Value.str (Str.ofString "__init__") 213, Value.str (Str.ofString "Whitespace.__init__") 214, Value.str (Str.ofString "/claim/cut.py") 215, Value.int 8 0, Value.int 2 0, Value.int 0 0, Value.int 0 0, Value.int 3 0, Value.ref 32, Value.bool true, Value.int 181 0, Value.ref 33, Value.none, Value.ref 34, Value.ref 35, Value.ref 36, Value.int 225 0, Value.int 8 0, Value.str (Str.ofString "/claim/cut.py") 226] }
noncomputable def o6_38 : Obj := ⟨Value.type "function", none, .func { name := Str.ofString "__init__", qualname := Str.ofString "Whitespace.__init__", params := (methF 0).1, body := .stmts (methF 0).2.1, scope := (methF 0).2.2, globals := 3, closure := [], defaults := Value.none, kwdefaults := Value.none, doc := Value.none, pyModule := Value.str (Str.ofString "cpy313.tabnanny") 194, annotations := none, code := Value.ref 37, closureTuple := Value.none, builtins := 0 }, #[]⟩
noncomputable def o6_39 : Obj := { cls := Value.type "tuple", data := Data.seq #[] }
noncomputable def o6_40 : Obj := { cls := Value.none, data := Data.fields #[] }
noncomputable def o6_41 : Obj := { cls := Value.type "tuple", data := Data.seq #[Value.str (Str.ofString "self") 231, Value.str (Str.ofString "count") 232, Value.str (Str.ofString "trailing") 233] }
noncomputable def o6_42 : Obj := { cls := Value.type "tuple", data := Data.seq #[] }
noncomputable def o6_43 : Obj := ⟨Value.none, none, .func { name := Str.ofString "longest_run_of_spaces", qualname := Str.ofString "Whitespace.longest_run_of_spaces", params := (methF 1).1, body := .stmts (methF 1).2.1, scope := (methF 1).2.2, globals := 0, closure := [], defaults := Value.none, kwdefaults := Value.none, doc := Value.none, pyModule := Value.none, annotations := none, code := Value.none, closureTuple := Value.none, builtins := 0 }, #[]⟩
noncomputable def o6_44 : Obj := { cls := Value.type "code", data := Data.fields #[Value.str (Str.ofString "longest_run_of_spaces") 228, Value.str (Str.ofString "Whitespace.longest_run_of_spaces") 229, Value.str (Str.ofString "/claim/cut.py") 230, Value.int 31 0, Value.int 1 0, Value.int 0 0, Value.int 0 0, Value.int 3 0, Value.ref 39, Value.bool true, Value.int 181 0, Value.ref 40, Value.none, Value.ref 41, Value.ref 42, Value.ref 43, Value.int 234 0, Value.int 31 0, Value.str (Str.ofString "/claim/cut.py") 235] }
noncomputable def o6_45 : Obj := ⟨Value.type "function", none, .func { name := Str.ofString "longest_run_of_spaces", qualname := Str.ofString "Whitespace.longest_run_of_spaces", params := (methF 1).1, body := .stmts (methF 1).2.1, scope := (methF 1).2.2, globals := 3, closure := [], defaults := Value.none, kwdefaults := Value.none, doc := Value.none, pyModule := Value.str (Str.ofString "cpy313.tabnanny") 194, annotations := none, code := Value.ref 44, closureTuple := Value.none, builtins := 0 }, #[]⟩
noncomputable def o6_46 : Obj := { cls := Value.type "tuple", data := Data.seq #[] }
noncomputable def o6_47 : Obj := { cls := Value.none, data := Data.fields #[] }
noncomputable def o6_48 : Obj := { cls := Value.type "tuple", data := Data.seq #[Value.str (Str.ofString "self") 240, Value.str (Str.ofString "tabsize") 241, Value.str (Str.ofString "count") 242, Value.str (Str.ofString "trailing") 243, Value.str (Str.ofString "il") 244, Value.str (Str.ofString "i") 245] }
noncomputable def o6_49 : Obj := { cls := Value.type "tuple", data := Data.seq #[] }
noncomputable def o6_50 : Obj := ⟨Value.none, none, .func { name := Str.ofString "indent_level", qualname := Str.ofString "Whitespace.indent_level", params := (methF 2).1, body := .stmts (methF 2).2.1, scope := (methF 2).2.2, globals := 0, closure := [], defaults := Value.none, kwdefaults := Value.none, doc := Value.none, pyModule := Value.none, annotations := none, code := Value.none, closureTuple := Value.none, builtins := 0 }, #[]⟩
noncomputable def o6_51 : Obj := { cls := Value.type "code", data := Data.fields #[Value.str (Str.ofString "indent_level") 237, Value.str (Str.ofString "Whitespace.indent_level") 238, Value.str (Str.ofString "/claim/cut.py") 239, Value.int 35 0, Value.int 2 0, Value.int 0 0, Value.int 0 0, Value.int 3 0, Value.ref 46, Value.bool true, Value.int 181 0, Value.ref 47, Value.none, Value.ref 48, Value.ref 49, Value.ref 50, Value.int 246 0, Value.int 35 0, Value.str (Str.ofString "/claim/cut.py") 247] }
noncomputable def o6_52 : Obj := ⟨Value.type "function", none, .func { name := Str.ofString "indent_level", qualname := Str.ofString "Whitespace.indent_level", params := (methF 2).1, body := .stmts (methF 2).2.1, scope := (methF 2).2.2, globals := 3, closure := [], defaults := Value.none, kwdefaults := Value.none, doc := Value.none, pyModule := Value.str (Str.ofString "cpy313.tabnanny") 194, annotations := none, code := Value.ref 51, closureTuple := Value.none, builtins := 0 }, #[]⟩
noncomputable def o6_53 : Obj := { cls := Value.type "tuple", data := Data.seq #[] }
noncomputable def o6_54 : Obj := { cls := Value.none, data := Data.fields #[] }
noncomputable def o6_55 : Obj := { cls := Value.type "tuple", data := Data.seq #[Value.str (Str.ofString "self") 252, Value.str (Str.ofString "other") 253] }
noncomputable def o6_56 : Obj := { cls := Value.type "tuple", data := Data.seq #[] }
noncomputable def o6_57 : Obj := ⟨Value.none, none, .func { name := Str.ofString "equal", qualname := Str.ofString "Whitespace.equal", params := (methF 3).1, body := .stmts (methF 3).2.1, scope := (methF 3).2.2, globals := 0, closure := [], defaults := Value.none, kwdefaults := Value.none, doc := Value.none, pyModule := Value.none, annotations := none, code := Value.none, closureTuple := Value.none, builtins := 0 }, #[]⟩
noncomputable def o6_58 : Obj := { cls := Value.type "code", data := Data.fields #[Value.str (Str.ofString "equal") 249, Value.str (Str.ofString "Whitespace.equal") 250, Value.str (Str.ofString "/claim/cut.py") 251, Value.int 42 0, Value.int 2 0, Value.int 0 0, Value.int 0 0, Value.int 3 0, Value.ref 53, Value.bool true, Value.int 181 0, Value.ref 54, Value.none, Value.ref 55, Value.ref 56, Value.ref 57, Value.int 254 0, Value.int 42 0, Value.str (Str.ofString "/claim/cut.py") 255] }
noncomputable def o6_59 : Obj := ⟨Value.type "function", none, .func { name := Str.ofString "equal", qualname := Str.ofString "Whitespace.equal", params := (methF 3).1, body := .stmts (methF 3).2.1, scope := (methF 3).2.2, globals := 3, closure := [], defaults := Value.none, kwdefaults := Value.none, doc := Value.none, pyModule := Value.str (Str.ofString "cpy313.tabnanny") 194, annotations := none, code := Value.ref 58, closureTuple := Value.none, builtins := 0 }, #[]⟩
noncomputable def o6_60 : Obj := { cls := Value.type "tuple", data := Data.seq #[] }
noncomputable def o6_61 : Obj := { cls := Value.none, data := Data.fields #[] }
noncomputable def o6_62 : Obj := { cls := Value.type "tuple", data := Data.seq #[Value.str (Str.ofString "self") 260, Value.str (Str.ofString "other") 261, Value.str (Str.ofString "n") 262, Value.str (Str.ofString "a") 263, Value.str (Str.ofString "ts") 264] }
noncomputable def o6_63 : Obj := { cls := Value.type "tuple", data := Data.seq #[] }
noncomputable def o6_64 : Obj := ⟨Value.none, none, .func { name := Str.ofString "not_equal_witness", qualname := Str.ofString "Whitespace.not_equal_witness", params := (methF 4).1, body := .stmts (methF 4).2.1, scope := (methF 4).2.2, globals := 0, closure := [], defaults := Value.none, kwdefaults := Value.none, doc := Value.none, pyModule := Value.none, annotations := none, code := Value.none, closureTuple := Value.none, builtins := 0 }, #[]⟩
noncomputable def o6_65 : Obj := { cls := Value.type "code", data := Data.fields #[Value.str (Str.ofString "not_equal_witness") 257, Value.str (Str.ofString "Whitespace.not_equal_witness") 258, Value.str (Str.ofString "/claim/cut.py") 259, Value.int 45 0, Value.int 2 0, Value.int 0 0, Value.int 0 0, Value.int 3 0, Value.ref 60, Value.bool true, Value.int 181 0, Value.ref 61, Value.none, Value.ref 62, Value.ref 63, Value.ref 64, Value.int 265 0, Value.int 45 0, Value.str (Str.ofString "/claim/cut.py") 266] }
noncomputable def o6_66 : Obj := ⟨Value.type "function", none, .func { name := Str.ofString "not_equal_witness", qualname := Str.ofString "Whitespace.not_equal_witness", params := (methF 4).1, body := .stmts (methF 4).2.1, scope := (methF 4).2.2, globals := 3, closure := [], defaults := Value.none, kwdefaults := Value.none, doc := Value.none, pyModule := Value.str (Str.ofString "cpy313.tabnanny") 194, annotations := none, code := Value.ref 65, closureTuple := Value.none, builtins := 0 }, #[]⟩
noncomputable def o6_67 : Obj := { cls := Value.type "tuple", data := Data.seq #[] }
noncomputable def o6_68 : Obj := { cls := Value.none, data := Data.fields #[] }
noncomputable def o6_69 : Obj := { cls := Value.type "tuple", data := Data.seq #[Value.str (Str.ofString "self") 271, Value.str (Str.ofString "other") 272, Value.str (Str.ofString "n") 273, Value.str (Str.ofString "ts") 274] }
noncomputable def o6_70 : Obj := { cls := Value.type "tuple", data := Data.seq #[] }
noncomputable def o6_71 : Obj := ⟨Value.none, none, .func { name := Str.ofString "less", qualname := Str.ofString "Whitespace.less", params := (methF 5).1, body := .stmts (methF 5).2.1, scope := (methF 5).2.2, globals := 0, closure := [], defaults := Value.none, kwdefaults := Value.none, doc := Value.none, pyModule := Value.none, annotations := none, code := Value.none, closureTuple := Value.none, builtins := 0 }, #[]⟩
noncomputable def o6_72 : Obj := { cls := Value.type "code", data := Data.fields #[Value.str (Str.ofString "less") 268, Value.str (Str.ofString "Whitespace.less") 269, Value.str (Str.ofString "/claim/cut.py") 270, Value.int 53 0, Value.int 2 0, Value.int 0 0, Value.int 0 0, Value.int 3 0, Value.ref 67, Value.bool true, Value.int 181 0, Value.ref 68, Value.none, Value.ref 69, Value.ref 70, Value.ref 71, Value.int 275 0, Value.int 53 0, Value.str (Str.ofString "/claim/cut.py") 276] }
noncomputable def o6_73 : Obj := ⟨Value.type "function", none, .func { name := Str.ofString "less", qualname := Str.ofString "Whitespace.less", params := (methF 5).1, body := .stmts (methF 5).2.1, scope := (methF 5).2.2, globals := 3, closure := [], defaults := Value.none, kwdefaults := Value.none, doc := Value.none, pyModule := Value.str (Str.ofString "cpy313.tabnanny") 194, annotations := none, code := Value.ref 72, closureTuple := Value.none, builtins := 0 }, #[]⟩
noncomputable def o6_74 : Obj := { cls := Value.type "tuple", data := Data.seq #[] }
noncomputable def o6_75 : Obj := { cls := Value.none, data := Data.fields #[] }
noncomputable def o6_76 : Obj := { cls := Value.type "tuple", data := Data.seq #[Value.str (Str.ofString "self") 281, Value.str (Str.ofString "other") 282] }
noncomputable def o6_77 : Obj := { cls := Value.type "tuple", data := Data.seq #[] }
noncomputable def o6_78 : Obj := ⟨Value.none, none, .func { name := Str.ofString "not_less_witness", qualname := Str.ofString "Whitespace.not_less_witness", params := (methF 6).1, body := .stmts (methF 6).2.1, scope := (methF 6).2.2, globals := 0, closure := [], defaults := Value.none, kwdefaults := Value.none, doc := Value.none, pyModule := Value.none, annotations := none, code := Value.none, closureTuple := Value.none, builtins := 0 }, #[]⟩
noncomputable def o6_79 : Obj := { cls := Value.type "code", data := Data.fields #[Value.str (Str.ofString "not_less_witness") 278, Value.str (Str.ofString "Whitespace.not_less_witness") 279, Value.str (Str.ofString "/claim/cut.py") 280, Value.int 64 0, Value.int 2 0, Value.int 0 0, Value.int 0 0, Value.int 3 0, Value.ref 74, Value.bool true, Value.int 181 0, Value.ref 75, Value.none, Value.ref 76, Value.ref 77, Value.ref 78, Value.int 283 0, Value.int 64 0, Value.str (Str.ofString "/claim/cut.py") 284] }
noncomputable def o6_80 : Obj := ⟨Value.type "function", none, .func { name := Str.ofString "not_less_witness", qualname := Str.ofString "Whitespace.not_less_witness", params := (methF 6).1, body := .stmts (methF 6).2.1, scope := (methF 6).2.2, globals := 3, closure := [], defaults := Value.none, kwdefaults := Value.none, doc := Value.none, pyModule := Value.str (Str.ofString "cpy313.tabnanny") 194, annotations := none, code := Value.ref 79, closureTuple := Value.none, builtins := 0 }, #[]⟩
noncomputable def o6_81 : Obj := { cls := Value.type "tuple", data := Data.seq #[Value.str (Str.ofString "is_simple") 286, Value.str (Str.ofString "n") 287, Value.str (Str.ofString "norm") 288, Value.str (Str.ofString "nt") 289, Value.str (Str.ofString "raw") 290] }
noncomputable def o6_82 (P : Params) : Obj := { cls := Value.type "dict", data := Data.dict #[{ hash := PyData.keyHash P (Str.ofString "__module__"), key := Value.str (Str.ofString "__module__") 203, val := Value.str (Str.ofString "cpy313.tabnanny") 194 }, { hash := PyData.keyHash P (Str.ofString "__firstlineno__"), key := Value.str (Str.ofString "__firstlineno__") 207, val := Value.int 5 206 }, { hash := PyData.keyHash P (Str.ofString "S"), key := Value.str (Str.ofString "S") 211, val := Value.str (Str.ofString " ") 209 }, { hash := PyData.keyHash P (Str.ofString "T"), key := Value.str (Str.ofString "T") 212, val := Value.str (Str.ofString "\t") 210 }, { hash := PyData.keyHash P (Str.ofString "__init__"), key := Value.str (Str.ofString "__init__") 227, val := Value.ref 38 }, { hash := PyData.keyHash P (Str.ofString "longest_run_of_spaces"), key := Value.str (Str.ofString "longest_run_of_spaces") 236, val := Value.ref 45 }, { hash := PyData.keyHash P (Str.ofString "indent_level"), key := Value.str (Str.ofString "indent_level") 248, val := Value.ref 52 }, { hash := PyData.keyHash P (Str.ofString "equal"), key := Value.str (Str.ofString "equal") 256, val := Value.ref 59 }, { hash := PyData.keyHash P (Str.ofString "not_equal_witness"), key := Value.str (Str.ofString "not_equal_witness") 267, val := Value.ref 66 }, { hash := PyData.keyHash P (Str.ofString "less"), key := Value.str (Str.ofString "less") 277, val := Value.ref 73 }, { hash := PyData.keyHash P (Str.ofString "not_less_witness"), key := Value.str (Str.ofString "not_less_witness") 285, val := Value.ref 80 }, { hash := PyData.keyHash P (Str.ofString "__static_attributes__"), key := Value.str (Str.ofString "__static_attributes__") 291, val := Value.ref 81 }, { hash := PyData.keyHash P (Str.ofString "__dict__"), key := Value.str (Str.ofString "__dict__") 293, val := Value.ref 84 }, { hash := PyData.keyHash P (Str.ofString "__weakref__"), key := Value.str (Str.ofString "__weakref__") 295, val := Value.ref 85 }, { hash := PyData.keyHash P (Str.ofString "__doc__"), key := Value.str (Str.ofString "__doc__") 296, val := Value.none }] 4 }
noncomputable def o6_83 : Obj := { cls := Value.type "type", data := Data.cls { name := Str.ofString "Whitespace", bases := [Value.type "object"], mro := [Value.ref 83, Value.type "object"], ns := 82, qualname := Str.ofString "Whitespace" }, slots := #[none, none, some (Value.str (Str.ofString "Whitespace") 196), some (Value.str (Str.ofString "Whitespace") 204), some (Value.builtin "object.__new__"), some (Value.bool true)] }
noncomputable def o6_84 : Obj := { cls := Value.type "getset_descriptor", data := Data.fields #[Value.str (Str.ofString "__dict__") 292, Value.ref 83, Value.builtin "function.__dict__", Value.builtin "function.__dict__#set"] }
noncomputable def o6_85 : Obj := { cls := Value.type "getset_descriptor", data := Data.fields #[Value.str (Str.ofString "__weakref__") 294, Value.ref 83, Value.builtin "ExceptionGroup.__weakref__", Value.none] }
noncomputable def o6_86 : Obj := { cls := Value.type "super", data := Data.fields #[Value.ref 83, Value.ref 83, Value.ref 83] }
noncomputable def o6_87 : Obj := { cls := Value.type "builtin_function_or_method", data := Data.fields #[Value.builtin "object.__init_subclass__", Value.ref 83] }
noncomputable def o6_88 : Obj := { cls := Value.type "tuple", data := Data.seq #[] }
noncomputable def o6_89 : Obj := { cls := Value.none, data := Data.fields #[] }
noncomputable def o6_90 : Obj := { cls := Value.type "tuple", data := Data.seq #[Value.str (Str.ofString "grouping") 306, Value.str (Str.ofString "last_interval") 307, Value.str (Str.ofString "interval") 308] }
noncomputable def o6_91 : Obj := { cls := Value.type "tuple", data := Data.seq #[] }
noncomputable def o6_92 : Obj := ⟨Value.none, none, .func { name := Str.ofString "_grouping_intervals", qualname := Str.ofString "_grouping_intervals", params := (topF 5).1, body := .stmts (topF 5).2.1, scope := (topF 5).2.2, globals := 0, closure := [], defaults := Value.none, kwdefaults := Value.none, doc := Value.none, pyModule := Value.none, annotations := none, code := Value.none, closureTuple := Value.none, builtins := 0 }, #[]⟩
noncomputable def o6_93 : Obj := { cls := Value.type "code", data := Data.fields #[Value.str (Str.ofString "_grouping_intervals") 303, Value.str (Str.ofString "_grouping_intervals") 304, Value.str (Str.ofString "/claim/cut.py") 305, Value.int 68 0, Value.int 1 0, Value.int 0 0, Value.int 0 0, Value.int 35 0, Value.ref 88, Value.bool true, Value.int 181 0, Value.ref 89, Value.none, Value.ref 90, Value.ref 91, Value.ref 92, Value.int 309 0, Value.int 68 0, Value.str (Str.ofString "/claim/cut.py") 310] }
noncomputable def o6_94 : Obj := ⟨Value.type "function", none, .func { name := Str.ofString "_grouping_intervals", qualname := Str.ofString "_grouping_intervals", params := (topF 5).1, body := .stmts (topF 5).2.1, scope := (topF 5).2.2, globals := 3, closure := [], defaults := Value.none, kwdefaults := Value.none, doc := Value.none, pyModule := Value.str (Str.ofString "cpy313.locale") 299, annotations := none, code := Value.ref 93, closureTuple := Value.none, builtins := 0 }, #[]⟩
noncomputable def T6 (P : Params) : BT := (.node (boot_o_0 P) (.node (boot_o_1 P) (.node (o6_3 P) (.node (boot_o_7 P) (.node o6_15 (.node o6_31 (.node o6_63 .nil .nil) .nil) (.node o6_47 (.node o6_79 .nil .nil) .nil)) (.node o6_23 (.node o6_39 (.node o6_71 .nil .nil) .nil) (.node o6_55 (.node o6_87 .nil .nil) .nil))) (.node oa_11 (.node o6_19 (.node o6_35 (.node o6_67 .nil .nil) .nil) (.node o6_51 (.node o6_83 .nil .nil) .nil)) (.node o6_27 (.node o6_43 (.node o6_75 .nil .nil) .nil) (.node o6_59 (.node o6_91 .nil .nil) .nil)))) (.node (boot_o_5 P) (.node (boot_o_9 P) (.node o6_17 (.node o6_33 (.node o6_65 .nil .nil) .nil) (.node o6_49 (.node o6_81 .nil .nil) .nil)) (.node o6_25 (.node o6_41 (.node o6_73 .nil .nil) .nil) (.node o6_57 (.node o6_89 .nil .nil) .nil))) (.node oa_13 (.node o6_21 (.node o6_37 (.node o6_69 .nil .nil) .nil) (.node o6_53 (.node o6_85 .nil .nil) .nil)) (.node o6_29 (.node o6_45 (.node o6_77 .nil .nil) .nil) (.node o6_61 (.node o6_93 .nil .nil) .nil))))) (.node (boot_o_2 P) (.node (boot_o_4 P) (.node (boot_o_8 P) (.node o6_16 (.node o6_32 (.node o6_64 .nil .nil) .nil) (.node o6_48 (.node o6_80 .nil .nil) .nil)) (.node (o6_24 P) (.node o6_40 (.node o6_72 .nil .nil) .nil) (.node o6_56 (.node o6_88 .nil .nil) .nil))) (.node o6_12 (.node o6_20 (.node o6_36 (.node o6_68 .nil .nil) .nil) (.node o6_52 (.node o6_84 .nil .nil) .nil)) (.node o6_28 (.node o6_44 (.node o6_76 .nil .nil) .nil) (.node o6_60 (.node o6_92 .nil .nil) .nil)))) (.node (boot_o_6 P) (.node (boot_o_10 P) (.node o6_18 (.node o6_34 (.node o6_66 .nil .nil) .nil) (.node o6_50 (.node (o6_82 P) .nil .nil) .nil)) (.node o6_26 (.node o6_42 (.node o6_74 .nil .nil) .nil) (.node o6_58 (.node o6_90 .nil .nil) .nil))) (.node oa_14 (.node o6_22 (.node o6_38 (.node o6_70 .nil .nil) .nil) (.node o6_54 (.node o6_86 .nil .nil) .nil)) (.node o6_30 (.node o6_46 (.node o6_78 .nil .nil) .nil) (.node o6_62 (.node o6_94 .nil .nil) .nil))))))
@[irreducible] noncomputable def S6 (P : Params) : St := ⟨T6 P, 95, 314⟩
abbrev p6 : Pos := ⟨80, 0, 80, 8⟩
noncomputable def o7_3 (P : Params) : Obj := { cls := Value.type "dict", data := Data.dict #[{ hash := PyData.keyHash P (Str.ofString "__name__"), key := Value.str (Str.ofString "__name__") 165, val := Value.str (Str.ofString "cpy313.stringprep") 312 }, { hash := PyData.keyHash P (Str.ofString "__doc__"), key := Value.str (Str.ofString "__doc__") 166, val := Value.none }, { hash := PyData.keyHash P (Str.ofString "__package__"), key := Value.str (Str.ofString "__package__") 167, val := Value.none }, { hash := PyData.keyHash P (Str.ofString "__loader__"), key := Value.str (Str.ofString "__loader__") 168, val := Value.builtin "__main__.__loader__#opaque" }, { hash := PyData.keyHash P (Str.ofString "__spec__"), key := Value.str (Str.ofString "__spec__") 169, val := Value.none }, { hash := PyData.keyHash P (Str.ofString "__annotations__"), key := Value.str (Str.ofString "__annotations__") 170, val := Value.ref 6 }, { hash := PyData.keyHash P (Str.ofString "__builtins__"), key := Value.str (Str.ofString "__builtins__") 171, val := Value.ref 4 }, { hash := PyData.keyHash P (Str.ofString "__file__"), key := Value.str (Str.ofString "__file__") 173, val := Value.str (Str.ofString "/claim/cut.py") 172 }, { hash := PyData.keyHash P (Str.ofString "__cached__"), key := Value.str (Str.ofString "__cached__") 174, val := Value.none }, { hash := PyData.keyHash P (Str.ofString "_wall"), key := Value.str (Str.ofString "_wall") 193, val := Value.ref 21 }, { hash := PyData.keyHash P (Str.ofString "Whitespace"), key := Value.str (Str.ofString "Whitespace") 298, val := Value.ref 83 }, { hash := PyData.keyHash P (Str.ofString "CHAR_MAX"), key := Value.str (Str.ofString "CHAR_MAX") 302, val := Value.int 127 301 }, { hash := PyData.keyHash P (Str.ofString "_grouping_intervals"), key := Value.str (Str.ofString "_grouping_intervals") 311, val := Value.ref 94 }, { hash := PyData.keyHash P (Str.ofString "b1_set"), key := Value.str (Str.ofString "b1_set") 373, val := Value.ref 102 }] 14 }
noncomputable def o7_95 : Obj := { cls := Value.type "list", data := Data.seq #[Value.int 173 314, Value.int 847 315, Value.int 6150 316, Value.int 6155 317, Value.int 6156 318, Value.int 6157 319, Value.int 8203 320, Value.int 8204 321, Value.int 8205 322, Value.int 8288 323, Value.int 65279 324] }
noncomputable def o7_96 : Obj := { cls := Value.type "range", data := Data.fields #[Value.int 65024 325, Value.int 65040 326, Value.int 1 327] }
noncomputable def o7_97 : Obj := { cls := Value.type "list", data := Data.seq #[Value.int 65024 330, Value.int 65025 331, Value.int 65026 332, Value.int 65027 333, Value.int 65028 334, Value.int 65029 335, Value.int 65030 336, Value.int 65031 337, Value.int 65032 338, Value.int 65033 339, Value.int 65034 340, Value.int 65035 341, Value.int 65036 342, Value.int 65037 343, Value.int 65038 344, Value.int 65039 345] 18 }
noncomputable def o7_98 : Obj := { cls := Value.type "range_iterator", data := Data.fields #[Value.int 65040 0, Value.int 0 0, Value.int 1 0] }
noncomputable def o7_99 : Obj := { cls := Value.type "tuple", data := Data.seq #[] }
noncomputable def o7_100 : Obj := { cls := Value.type "StopIteration", data := Data.fields #[Value.ref 99, Value.none, Value.none, Value.none, Value.bool false, Value.none] }
noncomputable def o7_101 : Obj := { cls := Value.type "list", data := Data.seq #[Value.int 173 314, Value.int 847 315, Value.int 6150 316, Value.int 6155 317, Value.int 6156 318, Value.int 6157 319, Value.int 8203 320, Value.int 8204 321, Value.int 8205 322, Value.int 8288 323, Value.int 65279 324, Value.int 65024 330, Value.int 65025 331, Value.int 65026 332, Value.int 65027 333, Value.int 65028 334, Value.int 65029 335, Value.int 65030 336, Value.int 65031 337, Value.int 65032 338, Value.int 65033 339, Value.int 65034 340, Value.int 65035 341, Value.int 65036 342, Value.int 65037 343, Value.int 65038 344, Value.int 65039 345] }
noncomputable def o7_102 (P : Params) : Obj := { cls := Value.type "set", data := Data.set #[(65024, Value.int 65024 330), (65025, Value.int 65025 331), (65026, Value.int 65026 332), (65027, Value.int 65027 333), (65028, Value.int 65028 334), (65029, Value.int 65029 335), (6150, Value.int 6150 316), (65030, Value.int 65030 336), (65031, Value.int 65031 337), (65032, Value.int 65032 338), (65033, Value.int 65033 339), (6155, Value.int 6155 317), (6156, Value.int 6156 318), (6157, Value.int 6157 319), (8203, Value.int 8203 320), (8204, Value.int 8204 321), (8205, Value.int 8205 322), (65034, Value.int 65034 340), (65035, Value.int 65035 341), (65036, Value.int 65036 342), (65037, Value.int 65037 343), (65038, Value.int 65038 344), (65039, Value.int 65039 345), (173, Value.int 173 314), (847, Value.int 847 315), (8288, Value.int 8288 323), (65279, Value.int 65279 324)] 29 { mask := 127, place := #[0, 1, 2, 3, 4, 5, 6, 7, 8, 9, 10, 11, 12, 13, 14, 15, 16, 17, 18, 19, 20, 21, 22, 45, 79, 96, 127], dummies := #[], finger := 0, led := !P.followText "set-order", moves := 2, plain := true } }
noncomputable def o7_103 : Obj := { cls := Value.type "list_iterator", data := Data.fields #[Value.none, Value.int 27 0] }
noncomputable def o7_104 : Obj := { cls := Value.type "tuple", data := Data.seq #[] }
noncomputable def o7_105 : Obj := { cls := Value.type "StopIteration", data := Data.fields #[Value.ref 104, Value.none, Value.none, Value.none, Value.bool false, Value.none] }
noncomputable def T7 (P : Params) : BT := (.node (boot_o_0 P) (.node (boot_o_1 P) (.node (o7_3 P) (.node (boot_o_7 P) (.node o6_15 (.node o6_31 (.node o6_63 .nil .nil) (.node o7_95 .nil .nil)) (.node o6_47 (.node o6_79 .nil .nil) .nil)) (.node o6_23 (.node o6_39 (.node o6_71 .nil .nil) (.node o7_103 .nil .nil)) (.node o6_55 (.node o6_87 .nil .nil) .nil))) (.node oa_11 (.node o6_19 (.node o6_35 (.node o6_67 .nil .nil) (.node o7_99 .nil .nil)) (.node o6_51 (.node o6_83 .nil .nil) .nil)) (.node o6_27 (.node o6_43 (.node o6_75 .nil .nil) .nil) (.node o6_59 (.node o6_91 .nil .nil) .nil)))) (.node (boot_o_5 P) (.node (boot_o_9 P) (.node o6_17 (.node o6_33 (.node o6_65 .nil .nil) (.node o7_97 .nil .nil)) (.node o6_49 (.node o6_81 .nil .nil) .nil)) (.node o6_25 (.node o6_41 (.node o6_73 .nil .nil) (.node o7_105 .nil .nil)) (.node o6_57 (.node o6_89 .nil .nil) .nil))) (.node oa_13 (.node o6_21 (.node o6_37 (.node o6_69 .nil .nil) (.node o7_101 .nil .nil)) (.node o6_53 (.node o6_85 .nil .nil) .nil)) (.node o6_29 (.node o6_45 (.node o6_77 .nil .nil) .nil) (.node o6_61 (.node o6_93 .nil .nil) .nil))))) (.node (boot_o_2 P) (.node (boot_o_4 P) (.node (boot_o_8 P) (.node o6_16 (.node o6_32 (.node o6_64 .nil .nil) (.node o7_96 .nil .nil)) (.node o6_48 (.node o6_80 .nil .nil) .nil)) (.node (o6_24 P) (.node o6_40 (.node o6_72 .nil .nil) (.node o7_104 .nil .nil)) (.node o6_56 (.node o6_88 .nil .nil) .nil))) (.node o6_12 (.node o6_20 (.node o6_36 (.node o6_68 .nil .nil) (.node o7_100 .nil .nil)) (.node o6_52 (.node o6_84 .nil .nil) .nil)) (.node o6_28 (.node o6_44 (.node o6_76 .nil .nil) .nil) (.node o6_60 (.node o6_92 .nil .nil) .nil)))) (.node (boot_o_6 P) (.node (boot_o_10 P) (.node o6_18 (.node o6_34 (.node o6_66 .nil .nil) (.node o7_98 .nil .nil)) (.node o6_50 (.node (o6_82 P) .nil .nil) .nil)) (.node o6_26 (.node o6_42 (.node o6_74 .nil .nil) .nil) (.node o6_58 (.node o6_90 .nil .nil) .nil))) (.node oa_14 (.node o6_22 (.node o6_38 (.node o6_70 .nil .nil) (.node (o7_102 P) .nil .nil)) (.node o6_54 (.node o6_86 .nil .nil) .nil)) (.node o6_30 (.node o6_46 (.node o6_78 .nil .nil) .nil) (.node o6_62 (.node o6_94 .nil .nil) .nil))))))
@[irreducible] noncomputable def S7 (P : Params) : St := ⟨T7 P, 106, 374⟩
abbrev p7 : Pos := ⟨81, 0, 81, 6⟩
noncomputable def o8_3 (P : Params) : Obj := { cls := Value.type "dict", data := Data.dict #[{ hash := PyData.keyHash P (Str.ofString "__name__"), key := Value.str (Str.ofString "__name__") 165, val := Value.str (Str.ofString "cpy313.stringprep") 312 }, { hash := PyData.keyHash P (Str.ofString "__doc__"), key := Value.str (Str.ofString "__doc__") 166, val := Value.none }, { hash := PyData.keyHash P (Str.ofString "__package__"), key := Value.str (Str.ofString "__package__") 167, val := Value.none }, { hash := PyData.keyHash P (Str.ofString "__loader__"), key := Value.str (Str.ofString "__loader__") 168, val := Value.builtin "__main__.__loader__#opaque" }, { hash := PyData.keyHash P (Str.ofString "__spec__"), key := Value.str (Str.ofString "__spec__") 169, val := Value.none }, { hash := PyData.keyHash P (Str.ofString "__annotations__"), key := Value.str (Str.ofString "__annotations__") 170, val := Value.ref 6 }, { hash := PyData.keyHash P (Str.ofString "__builtins__"), key := Value.str (Str.ofString "__builtins__") 171, val := Value.ref 4 }, { hash := PyData.keyHash P (Str.ofString "__file__"), key := Value.str (Str.ofString "__file__") 173, val := Value.str (Str.ofString "/claim/cut.py") 172 }, { hash := PyData.keyHash P (Str.ofString "__cached__"), key := Value.str (Str.ofString "__cached__") 174, val := Value.none }, { hash := PyData.keyHash P (Str.ofString "_wall"), key := Value.str (Str.ofString "_wall") 193, val := Value.ref 21 }, { hash := PyData.keyHash P (Str.ofString "Whitespace"), key := Value.str (Str.ofString "Whitespace") 298, val := Value.ref 83 }, { hash := PyData.keyHash P (Str.ofString "CHAR_MAX"), key := Value.str (Str.ofString "CHAR_MAX") 302, val := Value.int 127 301 }, { hash := PyData.keyHash P (Str.ofString "_grouping_intervals"), key := Value.str (Str.ofString "_grouping_intervals") 311, val := Value.ref 94 }, { hash := PyData.keyHash P (Str.ofString "b1_set"), key := Value.str (Str.ofString "b1_set") 373, val := Value.ref 102 }, { hash := PyData.keyHash P (Str.ofString "in_table_b1"), key := Value.str (Str.ofString "in_table_b1") 380, val := Value.ref 112 }] 15 }
noncomputable def o8_12 : Obj := { cls := Value.none, data := Data.fields #[Value.int 1 0, Value.int 0 0, Value.ref 20, Value.int 5 0, Value.int 0 0, Value.ref 27, Value.int 68 0, Value.int 0 0, Value.ref 93, Value.int 82 0, Value.int 0 0, Value.ref 111] }
noncomputable def o8_106 : Obj := { cls := Value.type "tuple", data := Data.seq #[] }
noncomputable def o8_107 : Obj := { cls := Value.none, data := Data.fields #[] }
noncomputable def o8_108 : Obj := { cls := Value.type "tuple", data := Data.seq #[Value.str (Str.ofString "code") 377] }
noncomputable def o8_109 : Obj := { cls := Value.type "tuple", data := Data.seq #[] }
noncomputable def o8_110 : Obj := ⟨Value.none, none, .func { name := Str.ofString "in_table_b1", qualname := Str.ofString "in_table_b1", params := (topF 8).1, body := .stmts (topF 8).2.1, scope := (topF 8).2.2, globals := 0, closure := [], defaults := Value.none, kwdefaults := Value.none, doc := Value.none, pyModule := Value.none, annotations := none, code := Value.none, closureTuple := Value.none, builtins := 0 }, #[]⟩
noncomputable def o8_111 : Obj := { cls := Value.type "code", data := Data.fields #[Value.str (Str.ofString "in_table_b1") 374, Value.str (Str.ofString "in_table_b1") 375, Value.str (Str.ofString "/claim/cut.py") 376, Value.int 82 0, Value.int 1 0, Value.int 0 0, Value.int 0 0, Value.int 3 0, Value.ref 106, Value.bool true, Value.int 181 0, Value.ref 107, Value.none, Value.ref 108, Value.ref 109, Value.ref 110, Value.int 378 0, Value.int 82 0, Value.str (Str.ofString "/claim/cut.py") 379] }
noncomputable def o8_112 : Obj := ⟨Value.type "function", none, .func { name := Str.ofString "in_table_b1", qualname := Str.ofString "in_table_b1", params := (topF 8).1, body := .stmts (topF 8).2.1, scope := (topF 8).2.2, globals := 3, closure := [], defaults := Value.none, kwdefaults := Value.none, doc := Value.none, pyModule := Value.str (Str.ofString "cpy313.stringprep") 312, annotations := none, code := Value.ref 111, closureTuple := Value.none, builtins := 0 }, #[]⟩
noncomputable def T8 (P : Params) : BT := (.node (boot_o_0 P) (.node (boot_o_1 P) (.node (o8_3 P) (.node (boot_o_7 P) (.node o6_15 (.node o6_31 (.node o6_63 .nil .nil) (.node o7_95 .nil .nil)) (.node o6_47 (.node o6_79 .nil .nil) (.node o8_111 .nil .nil))) (.node o6_23 (.node o6_39 (.node o6_71 .nil .nil) (.node o7_103 .nil .nil)) (.node o6_55 (.node o6_87 .nil .nil) .nil))) (.node oa_11 (.node o6_19 (.node o6_35 (.node o6_67 .nil .nil) (.node o7_99 .nil .nil)) (.node o6_51 (.node o6_83 .nil .nil) .nil)) (.node o6_27 (.node o6_43 (.node o6_75 .nil .nil) (.node o8_107 .nil .nil)) (.node o6_59 (.node o6_91 .nil .nil) .nil)))) (.node (boot_o_5 P) (.node (boot_o_9 P) (.node o6_17 (.node o6_33 (.node o6_65 .nil .nil) (.node o7_97 .nil .nil)) (.node o6_49 (.node o6_81 .nil .nil) .nil)) (.node o6_25 (.node o6_41 (.node o6_73 .nil .nil) (.node o7_105 .nil .nil)) (.node o6_57 (.node o6_89 .nil .nil) .nil))) (.node oa_13 (.node o6_21 (.node o6_37 (.node o6_69 .nil .nil) (.node o7_101 .nil .nil)) (.node o6_53 (.node o6_85 .nil .nil) .nil)) (.node o6_29 (.node o6_45 (.node o6_77 .nil .nil) (.node o8_109 .nil .nil)) (.node o6_61 (.node o6_93 .nil .nil) .nil))))) (.node (boot_o_2 P) (.node (boot_o_4 P) (.node (boot_o_8 P) (.node o6_16 (.node o6_32 (.node o6_64 .nil .nil) (.node o7_96 .nil .nil)) (.node o6_48 (.node o6_80 .nil .nil) (.node o8_112 .nil .nil))) (.node (o6_24 P) (.node o6_40 (.node o6_72 .nil .nil) (.node o7_104 .nil .nil)) (.node o6_56 (.node o6_88 .nil .nil) .nil))) (.node o8_12 (.node o6_20 (.node o6_36 (.node o6_68 .nil .nil) (.node o7_100 .nil .nil)) (.node o6_52 (.node o6_84 .nil .nil) .nil)) (.node o6_28 (.node o6_44 (.node o6_76 .nil .nil) (.node o8_108 .nil .nil)) (.node o6_60 (.node o6_92 .nil .nil) .nil)))) (.node (boot_o_6 P) (.node (boot_o_10 P) (.node o6_18 (.node o6_34 (.node o6_66 .nil .nil) (.node o7_98 .nil .nil)) (.node o6_50 (.node (o6_82 P) .nil .nil) .nil)) (.node o6_26 (.node o6_42 (.node o6_74 .nil .nil) (.node o8_106 .nil .nil)) (.node o6_58 (.node o6_90 .nil .nil) .nil))) (.node oa_14 (.node o6_22 (.node o6_38 (.node o6_70 .nil .nil) (.node (o7_102 P) .nil .nil)) (.node o6_54 (.node o6_86 .nil .nil) .nil)) (.node o6_30 (.node o6_46 (.node o6_78 .nil .nil) (.node o8_110 .nil .nil)) (.node o6_62 (.node o6_94 .nil .nil) .nil))))))
@[irreducible] noncomputable def S8 (P : Params) : St := ⟨T8 P, 113, 381⟩
abbrev p8 : Pos := ⟨82, 0, 83, 30⟩
noncomputable def o9_3 (P : Params) : Obj := { cls := Value.type "dict", data := Data.dict #[{ hash := PyData.keyHash P (Str.ofString "__name__"), key := Value.str (Str.ofString "__name__") 165, val := Value.str (Str.ofString "cpy313.stringprep") 312 }, { hash := PyData.keyHash P (Str.ofString "__doc__"), key := Value.str (Str.ofString "__doc__") 166, val := Value.none }, { hash := PyData.keyHash P (Str.ofString "__package__"), key := Value.str (Str.ofString "__package__") 167, val := Value.none }, { hash := PyData.keyHash P (Str.ofString "__loader__"), key := Value.str (Str.ofString "__loader__") 168, val := Value.builtin "__main__.__loader__#opaque" }, { hash := PyData.keyHash P (Str.ofString "__spec__"), key := Value.str (Str.ofString "__spec__") 169, val := Value.none }, { hash := PyData.keyHash P (Str.ofString "__annotations__"), key := Value.str (Str.ofString "__annotations__") 170, val := Value.ref 6 }, { hash := PyData.keyHash P (Str.ofString "__builtins__"), key := Value.str (Str.ofString "__builtins__") 171, val := Value.ref 4 }, { hash := PyData.keyHash P (Str.ofString "__file__"), key := Value.str (Str.ofString "__file__") 173, val := Value.str (Str.ofString "/claim/cut.py") 172 }, { hash := PyData.keyHash P (Str.ofString "__cached__"), key := Value.str (Str.ofString "__cached__") 174, val := Value.none }, { hash := PyData.keyHash P (Str.ofString "_wall"), key := Value.str (Str.ofString "_wall") 193, val := Value.ref 21 }, { hash := PyData.keyHash P (Str.ofString "Whitespace"), key := Value.str (Str.ofString "Whitespace") 298, val := Value.ref 83 }, { hash := PyData.keyHash P (Str.ofString "CHAR_MAX"), key := Value.str (Str.ofString "CHAR_MAX") 302, val := Value.int 127 301 }, { hash := PyData.keyHash P (Str.ofString "_grouping_intervals"), key := Value.str (Str.ofString "_grouping_intervals") 311, val := Value.ref 94 }, { hash := PyData.keyHash P (Str.ofString "b1_set"), key := Value.str (Str.ofString "b1_set") 373, val := Value.ref 102 }, { hash := PyData.keyHash P (Str.ofString "in_table_b1"), key := Value.str (Str.ofString "in_table_b1") 380, val := Value.ref 112 }, { hash := PyData.keyHash P (Str.ofString "b3_exceptions"), key := Value.str (Str.ofString "b3_exceptions") 2331, val := Value.ref 113 }] 16 }
noncomputable def T9 (P : Params) : BT := (.node (boot_o_0 P) (.node (boot_o_1 P) (.node (o9_3 P) (.node (boot_o_7 P) (.node o6_15 (.node o6_31 (.node o6_63 (.node (dispO 127) .nil .nil) .nil) (.node o7_95 .nil .nil)) (.node o6_47 (.node o6_79 (.node (dispO 143) .nil .nil) .nil) (.node o8_111 .nil .nil))) (.node o6_23 (.node o6_39 (.node o6_71 (.node (dispO 135) .nil .nil) .nil) (.node o7_103 .nil .nil)) (.node o6_55 (.node o6_87 (.node (dispO 151) .nil .nil) .nil) (.node (dispO 119) .nil .nil)))) (.node oa_11 (.node o6_19 (.node o6_35 (.node o6_67 (.node (dispO 131) .nil .nil) .nil) (.node o7_99 .nil .nil)) (.node o6_51 (.node o6_83 (.node (dispO 147) .nil .nil) .nil) (.node (dispO 115) .nil .nil))) (.node o6_27 (.node o6_43 (.node o6_75 (.node (dispO 139) .nil .nil) .nil) (.node o8_107 .nil .nil)) (.node o6_59 (.node o6_91 .nil .nil) (.node (dispO 123) .nil .nil))))) (.node (boot_o_5 P) (.node (boot_o_9 P) (.node o6_17 (.node o6_33 (.node o6_65 (.node (dispO 129) .nil .nil) .nil) (.node o7_97 .nil .nil)) (.node o6_49 (.node o6_81 (.node (dispO 145) .nil .nil) .nil) (.node (dispO 113) .nil .nil))) (.node o6_25 (.node o6_41 (.node o6_73 (.node (dispO 137) .nil .nil) .nil) (.node o7_105 .nil .nil)) (.node o6_57 (.node o6_89 .nil .nil) (.node (dispO 121) .nil .nil)))) (.node oa_13 (.node o6_21 (.node o6_37 (.node o6_69 (.node (dispO 133) .nil .nil) .nil) (.node o7_101 .nil .nil)) (.node o6_53 (.node o6_85 (.node (dispO 149) .nil .nil) .nil) (.node (dispO 117) .nil .nil))) (.node o6_29 (.node o6_45 (.node o6_77 (.node (dispO 141) .nil .nil) .nil) (.node o8_109 .nil .nil)) (.node o6_61 (.node o6_93 .nil .nil) (.node (dispO 125) .nil .nil)))))) (.node (boot_o_2 P) (.node (boot_o_4 P) (.node (boot_o_8 P) (.node o6_16 (.node o6_32 (.node o6_64 (.node (dispO 128) .nil .nil) .nil) (.node o7_96 .nil .nil)) (.node o6_48 (.node o6_80 (.node (dispO 144) .nil .nil) .nil) (.node o8_112 .nil .nil))) (.node (o6_24 P) (.node o6_40 (.node o6_72 (.node (dispO 136) .nil .nil) .nil) (.node o7_104 .nil .nil)) (.node o6_56 (.node o6_88 .nil .nil) (.node (dispO 120) .nil .nil)))) (.node o8_12 (.node o6_20 (.node o6_36 (.node o6_68 (.node (dispO 132) .nil .nil) .nil) (.node o7_100 .nil .nil)) (.node o6_52 (.node o6_84 (.node (dispO 148) .nil .nil) .nil) (.node (dispO 116) .nil .nil))) (.node o6_28 (.node o6_44 (.node o6_76 (.node (dispO 140) .nil .nil) .nil) (.node o8_108 .nil .nil)) (.node o6_60 (.node o6_92 .nil .nil) (.node (dispO 124) .nil .nil))))) (.node (boot_o_6 P) (.node (boot_o_10 P) (.node o6_18 (.node o6_34 (.node o6_66 (.node (dispO 130) .nil .nil) .nil) (.node o7_98 .nil .nil)) (.node o6_50 (.node (o6_82 P) (.node (dispO 146) .nil .nil) .nil) (.node (dispO 114) .nil .nil))) (.node o6_26 (.node o6_42 (.node o6_74 (.node (dispO 138) .nil .nil) .nil) (.node o8_106 .nil .nil)) (.node o6_58 (.node o6_90 .nil .nil) (.node (dispO 122) .nil .nil)))) (.node oa_14 (.node o6_22 (.node o6_38 (.node o6_70 (.node (dispO 134) .nil .nil) .nil) (.node (o7_102 P) .nil .nil)) (.node o6_54 (.node o6_86 (.node (dispO 150) .nil .nil) .nil) (.node (dispO 118) .nil .nil))) (.node o6_30 (.node o6_46 (.node o6_78 (.node (dispO 142) .nil .nil) .nil) (.node o8_110 .nil .nil)) (.node o6_62 (.node o6_94 .nil .nil) (.node (dispO 126) .nil .nil)))))))
noncomputable def T9d (P : Params) : BT := (.node (boot_o_0 P) (.node (boot_o_1 P) (.node (o8_3 P) (.node (boot_o_7 P) (.node o6_15 (.node o6_31 (.node o6_63 (.node (dispO 127) .nil .nil) .nil) (.node o7_95 .nil .nil)) (.node o6_47 (.node o6_79 (.node (dispO 143) .nil .nil) .nil) (.node o8_111 .nil .nil))) (.node o6_23 (.node o6_39 (.node o6_71 (.node (dispO 135) .nil .nil) .nil) (.node o7_103 .nil .nil)) (.node o6_55 (.node o6_87 (.node (dispO 151) .nil .nil) .nil) (.node (dispO 119) .nil .nil)))) (.node oa_11 (.node o6_19 (.node o6_35 (.node o6_67 (.node (dispO 131) .nil .nil) .nil) (.node o7_99 .nil .nil)) (.node o6_51 (.node o6_83 (.node (dispO 147) .nil .nil) .nil) (.node (dispO 115) .nil .nil))) (.node o6_27 (.node o6_43 (.node o6_75 (.node (dispO 139) .nil .nil) .nil) (.node o8_107 .nil .nil)) (.node o6_59 (.node o6_91 .nil .nil) (.node (dispO 123) .nil .nil))))) (.node (boot_o_5 P) (.node (boot_o_9 P) (.node o6_17 (.node o6_33 (.node o6_65 (.node (dispO 129) .nil .nil) .nil) (.node o7_97 .nil .nil)) (.node o6_49 (.node o6_81 (.node (dispO 145) .nil .nil) .nil) (.node (dispO 113) .nil .nil))) (.node o6_25 (.node o6_41 (.node o6_73 (.node (dispO 137) .nil .nil) .nil) (.node o7_105 .nil .nil)) (.node o6_57 (.node o6_89 .nil .nil) (.node (dispO 121) .nil .nil)))) (.node oa_13 (.node o6_21 (.node o6_37 (.node o6_69 (.node (dispO 133) .nil .nil) .nil) (.node o7_101 .nil .nil)) (.node o6_53 (.node o6_85 (.node (dispO 149) .nil .nil) .nil) (.node (dispO 117) .nil .nil))) (.node o6_29 (.node o6_45 (.node o6_77 (.node (dispO 141) .nil .nil) .nil) (.node o8_109 .nil .nil)) (.node o6_61 (.node o6_93 .nil .nil) (.node (dispO 125) .nil .nil)))))) (.node (boot_o_2 P) (.node (boot_o_4 P) (.node (boot_o_8 P) (.node o6_16 (.node o6_32 (.node o6_64 (.node (dispO 128) .nil .nil) .nil) (.node o7_96 .nil .nil)) (.node o6_48 (.node o6_80 (.node (dispO 144) .nil .nil) .nil) (.node o8_112 .nil .nil))) (.node (o6_24 P) (.node o6_40 (.node o6_72 (.node (dispO 136) .nil .nil) .nil) (.node o7_104 .nil .nil)) (.node o6_56 (.node o6_88 .nil .nil) (.node (dispO 120) .nil .nil)))) (.node o8_12 (.node o6_20 (.node o6_36 (.node o6_68 (.node (dispO 132) .nil .nil) .nil) (.node o7_100 .nil .nil)) (.node o6_52 (.node o6_84 (.node (dispO 148) .nil .nil) .nil) (.node (dispO 116) .nil .nil))) (.node o6_28 (.node o6_44 (.node o6_76 (.node (dispO 140) .nil .nil) .nil) (.node o8_108 .nil .nil)) (.node o6_60 (.node o6_92 .nil .nil) (.node (dispO 124) .nil .nil))))) (.node (boot_o_6 P) (.node (boot_o_10 P) (.node o6_18 (.node o6_34 (.node o6_66 (.node (dispO 130) .nil .nil) .nil) (.node o7_98 .nil .nil)) (.node o6_50 (.node (o6_82 P) (.node (dispO 146) .nil .nil) .nil) (.node (dispO 114) .nil .nil))) (.node o6_26 (.node o6_42 (.node o6_74 (.node (dispO 138) .nil .nil) .nil) (.node o8_106 .nil .nil)) (.node o6_58 (.node o6_90 .nil .nil) (.node (dispO 122) .nil .nil)))) (.node oa_14 (.node o6_22 (.node o6_38 (.node o6_70 (.node (dispO 134) .nil .nil) .nil) (.node (o7_102 P) .nil .nil)) (.node o6_54 (.node o6_86 (.node (dispO 150) .nil .nil) .nil) (.node (dispO 118) .nil .nil))) (.node o6_30 (.node o6_46 (.node o6_78 (.node (dispO 142) .nil .nil) .nil) (.node o8_110 .nil .nil)) (.node o6_62 (.node o6_94 .nil .nil) (.node (dispO 126) .nil .nil)))))))
@[irreducible] noncomputable def S9d (P : Params) : St := ⟨T9d P, 152, 2331⟩
@[irreducible] noncomputable def S9 (P : Params) : St := ⟨T9 P, 152, 2332⟩
abbrev p9 : Pos := ⟨84, 0, 84, 13⟩
noncomputable def o15_3 (P : Params) : Obj := { cls := Value.type "dict", data := Data.dict #[{ hash := PyData.keyHash P (Str.ofString "__name__"), key := Value.str (Str.ofString "__name__") 165, val := Value.str (Str.ofString "law_st0041_01") 2340 }, { hash := PyData.keyHash P (Str.ofString "__doc__"), key := Value.str (Str.ofString "__doc__") 166, val := Value.none }, { hash := PyData.keyHash P (Str.ofString "__package__"), key := Value.str (Str.ofString "__package__") 167, val := Value.none }, { hash := PyData.keyHash P (Str.ofString "__loader__"), key := Value.str (Str.ofString "__loader__") 168, val := Value.builtin "__main__.__loader__#opaque" }, { hash := PyData.keyHash P (Str.ofString "__spec__"), key := Value.str (Str.ofString "__spec__") 169, val := Value.none }, { hash := PyData.keyHash P (Str.ofString "__annotations__"), key := Value.str (Str.ofString "__annotations__") 170, val := Value.ref 6 }, { hash := PyData.keyHash P (Str.ofString "__builtins__"), key := Value.str (Str.ofString "__builtins__") 171, val := Value.ref 4 }, { hash := PyData.keyHash P (Str.ofString "__file__"), key := Value.str (Str.ofString "__file__") 173, val := Value.str (Str.ofString "/claim/cut.py") 172 }, { hash := PyData.keyHash P (Str.ofString "__cached__"), key := Value.str (Str.ofString "__cached__") 174, val := Value.none }, { hash := PyData.keyHash P (Str.ofString "_wall"), key := Value.str (Str.ofString "_wall") 193, val := Value.ref 21 }, { hash := PyData.keyHash P (Str.ofString "Whitespace"), key := Value.str (Str.ofString "Whitespace") 298, val := Value.ref 83 }, { hash := PyData.keyHash P (Str.ofString "CHAR_MAX"), key := Value.str (Str.ofString "CHAR_MAX") 302, val := Value.int 127 301 }, { hash := PyData.keyHash P (Str.ofString "_grouping_intervals"), key := Value.str (Str.ofString "_grouping_intervals") 311, val := Value.ref 94 }, { hash := PyData.keyHash P (Str.ofString "b1_set"), key := Value.str (Str.ofString "b1_set") 373, val := Value.ref 102 }, { hash := PyData.keyHash P (Str.ofString "in_table_b1"), key := Value.str (Str.ofString "in_table_b1") 380, val := Value.ref 112 }, { hash := PyData.keyHash P (Str.ofString "b3_exceptions"), key := Value.str (Str.ofString "b3_exceptions") 2331, val := Value.ref 113 }, { hash := PyData.keyHash P (Str.ofString "map_table_b3"), key := Value.str (Str.ofString "map_table_b3") 2339, val := Value.ref 158 }, { hash := PyData.keyHash P (Str.ofString "_law_typed"), key := Value.str (Str.ofString "_law_typed") 2356, val := Value.ref 165 }, { hash := PyData.keyHash P (Str.ofString "_law_word"), key := Value.str (Str.ofString "_law_word") 2362, val := Value.ref 170 }, { hash := PyData.keyHash P (Str.ofString "_law_column"), key := Value.str (Str.ofString "_law_column") 2368, val := Value.ref 175 }, { hash := PyData.keyHash P (Str.ofString "law"), key := Value.str (Str.ofString "law") 2374, val := Value.ref 180 }] 21 }
noncomputable def o15_12 : Obj := { cls := Value.none, data := Data.fields #[Value.int 1 0, Value.int 0 0, Value.ref 20, Value.int 5 0, Value.int 0 0, Value.ref 27, Value.int 68 0, Value.int 0 0, Value.ref 93, Value.int 82 0, Value.int 0 0, Value.ref 111, Value.int 85 0, Value.int 0 0, Value.ref 157, Value.int 91 0, Value.int 0 0, Value.ref 164, Value.int 102 0, Value.int 0 0, Value.ref 169, Value.int 107 0, Value.int 0 0, Value.ref 174, Value.int 109 0, Value.int 0 0, Value.ref 179] }
noncomputable def o15_152 : Obj := { cls := Value.type "tuple", data := Data.seq #[] }
noncomputable def o15_153 : Obj := { cls := Value.none, data := Data.fields #[] }
noncomputable def o15_154 : Obj := { cls := Value.type "tuple", data := Data.seq #[Value.str (Str.ofString "code") 2335, Value.str (Str.ofString "r") 2336] }
noncomputable def o15_155 : Obj := { cls := Value.type "tuple", data := Data.seq #[] }
noncomputable def o15_156 : Obj := ⟨Value.none, none, .func { name := Str.ofString "map_table_b3", qualname := Str.ofString "map_table_b3", params := (topF 10).1, body := .stmts (topF 10).2.1, scope := (topF 10).2.2, globals := 0, closure := [], defaults := Value.none, kwdefaults := Value.none, doc := Value.none, pyModule := Value.none, annotations := none, code := Value.none, closureTuple := Value.none, builtins := 0 }, #[]⟩
noncomputable def o15_157 : Obj := { cls := Value.type "code", data := Data.fields #[Value.str (Str.ofString "map_table_b3") 2332, Value.str (Str.ofString "map_table_b3") 2333, Value.str (Str.ofString "/claim/cut.py") 2334, Value.int 85 0, Value.int 1 0, Value.int 0 0, Value.int 0 0, Value.int 3 0, Value.ref 152, Value.bool true, Value.int 181 0, Value.ref 153, Value.none, Value.ref 154, Value.ref 155, Value.ref 156, Value.int 2337 0, Value.int 85 0, Value.str (Str.ofString "/claim/cut.py") 2338] }
noncomputable def o15_158 : Obj := ⟨Value.type "function", none, .func { name := Str.ofString "map_table_b3", qualname := Str.ofString "map_table_b3", params := (topF 10).1, body := .stmts (topF 10).2.1, scope := (topF 10).2.2, globals := 3, closure := [], defaults := Value.none, kwdefaults := Value.none, doc := Value.none, pyModule := Value.str (Str.ofString "cpy313.stringprep") 312, annotations := none, code := Value.ref 157, closureTuple := Value.none, builtins := 0 }, #[]⟩
noncomputable def o15_159 : Obj := { cls := Value.type "tuple", data := Data.seq #[] }
noncomputable def o15_160 : Obj := { cls := Value.none, data := Data.fields #[] }
noncomputable def o15_161 : Obj := { cls := Value.type "tuple", data := Data.seq #[Value.str (Str.ofString "letter") 2345, Value.str (Str.ofString "seed") 2346, Value.str (Str.ofString "eyes") 2347, Value.str (Str.ofString "pees") 2348, Value.str (Str.ofString "low") 2349, Value.str (Str.ofString "k") 2350, Value.str (Str.ofString "unseen") 2351, Value.str (Str.ofString "one") 2352, Value.str (Str.ofString "two") 2353] }
noncomputable def o15_162 : Obj := { cls := Value.type "tuple", data := Data.seq #[] }
noncomputable def o15_163 : Obj := ⟨Value.none, none, .func { name := Str.ofString "_law_typed", qualname := Str.ofString "_law_typed", params := (topF 12).1, body := .stmts (topF 12).2.1, scope := (topF 12).2.2, globals := 0, closure := [], defaults := Value.none, kwdefaults := Value.none, doc := Value.none, pyModule := Value.none, annotations := none, code := Value.none, closureTuple := Value.none, builtins := 0 }, #[]⟩
noncomputable def o15_164 : Obj := { cls := Value.type "code", data := Data.fields #[Value.str (Str.ofString "_law_typed") 2342, Value.str (Str.ofString "_law_typed") 2343, Value.str (Str.ofString "/claim/cut.py") 2344, Value.int 91 0, Value.int 2 0, Value.int 0 0, Value.int 0 0, Value.int 3 0, Value.ref 159, Value.bool true, Value.int 181 0, Value.ref 160, Value.none, Value.ref 161, Value.ref 162, Value.ref 163, Value.int 2354 0, Value.int 91 0, Value.str (Str.ofString "/claim/cut.py") 2355] }
noncomputable def o15_165 : Obj := ⟨Value.type "function", none, .func { name := Str.ofString "_law_typed", qualname := Str.ofString "_law_typed", params := (topF 12).1, body := .stmts (topF 12).2.1, scope := (topF 12).2.2, globals := 3, closure := [], defaults := Value.none, kwdefaults := Value.none, doc := Value.none, pyModule := Value.str (Str.ofString "law_st0041_01") 2340, annotations := none, code := Value.ref 164, closureTuple := Value.none, builtins := 0 }, #[]⟩
noncomputable def o15_166 : Obj := { cls := Value.type "tuple", data := Data.seq #[] }
noncomputable def o15_167 : Obj := { cls := Value.none, data := Data.fields #[] }
noncomputable def o15_168 : Obj := ⟨Value.none, none, .func { name := Str.ofString "_law_word", qualname := Str.ofString "_law_word", params := (topF 13).1, body := .stmts (topF 13).2.1, scope := (topF 13).2.2, globals := 0, closure := [], defaults := Value.none, kwdefaults := Value.none, doc := Value.none, pyModule := Value.none, annotations := none, code := Value.none, closureTuple := Value.none, builtins := 0 }, #[]⟩
noncomputable def o15_169 : Obj := { cls := Value.type "code", data := Data.fields #[Value.str (Str.ofString "_law_word") 2357, Value.str (Str.ofString "_law_word") 2358, Value.str (Str.ofString "/claim/cut.py") 2359, Value.int 102 0, Value.int 2 0, Value.int 0 0, Value.int 0 0, Value.int 3 0, Value.ref 166, Value.bool true, Value.int 181 0, Value.ref 167, Value.none, Value.none, Value.none, Value.ref 168, Value.int 2360 0, Value.int 102 0, Value.str (Str.ofString "/claim/cut.py") 2361] }
noncomputable def o15_170 : Obj := ⟨Value.type "function", none, .func { name := Str.ofString "_law_word", qualname := Str.ofString "_law_word", params := (topF 13).1, body := .stmts (topF 13).2.1, scope := (topF 13).2.2, globals := 3, closure := [], defaults := Value.none, kwdefaults := Value.none, doc := Value.none, pyModule := Value.str (Str.ofString "law_st0041_01") 2340, annotations := none, code := Value.ref 169, closureTuple := Value.none, builtins := 0 }, #[]⟩
noncomputable def o15_171 : Obj := { cls := Value.type "tuple", data := Data.seq #[] }
noncomputable def o15_172 : Obj := { cls := Value.none, data := Data.fields #[] }
noncomputable def o15_173 : Obj := ⟨Value.none, none, .func { name := Str.ofString "_law_column", qualname := Str.ofString "_law_column", params := (topF 14).1, body := .stmts (topF 14).2.1, scope := (topF 14).2.2, globals := 0, closure := [], defaults := Value.none, kwdefaults := Value.none, doc := Value.none, pyModule := Value.none, annotations := none, code := Value.none, closureTuple := Value.none, builtins := 0 }, #[]⟩
noncomputable def o15_174 : Obj := { cls := Value.type "code", data := Data.fields #[Value.str (Str.ofString "_law_column") 2363, Value.str (Str.ofString "_law_column") 2364, Value.str (Str.ofString "/claim/cut.py") 2365, Value.int 107 0, Value.int 3 0, Value.int 0 0, Value.int 0 0, Value.int 3 0, Value.ref 171, Value.bool true, Value.int 181 0, Value.ref 172, Value.none, Value.none, Value.none, Value.ref 173, Value.int 2366 0, Value.int 107 0, Value.str (Str.ofString "/claim/cut.py") 2367] }
noncomputable def o15_175 : Obj := ⟨Value.type "function", none, .func { name := Str.ofString "_law_column", qualname := Str.ofString "_law_column", params := (topF 14).1, body := .stmts (topF 14).2.1, scope := (topF 14).2.2, globals := 3, closure := [], defaults := Value.none, kwdefaults := Value.none, doc := Value.none, pyModule := Value.str (Str.ofString "law_st0041_01") 2340, annotations := none, code := Value.ref 174, closureTuple := Value.none, builtins := 0 }, #[]⟩
noncomputable def o15_176 : Obj := { cls := Value.type "tuple", data := Data.seq #[] }
noncomputable def o15_177 : Obj := { cls := Value.none, data := Data.fields #[] }
noncomputable def o15_178 : Obj := ⟨Value.none, none, .func { name := Str.ofString "law", qualname := Str.ofString "law", params := (topF 15).1, body := .stmts (topF 15).2.1, scope := (topF 15).2.2, globals := 0, closure := [], defaults := Value.none, kwdefaults := Value.none, doc := Value.none, pyModule := Value.none, annotations := none, code := Value.none, closureTuple := Value.none, builtins := 0 }, #[]⟩
noncomputable def o15_179 : Obj := { cls := Value.type "code", data := Data.fields #[Value.str (Str.ofString "law") 2369, Value.str (Str.ofString "law") 2370, Value.str (Str.ofString "/claim/cut.py") 2371, Value.int 109 0, Value.int 1 0, Value.int 0 0, Value.int 0 0, Value.int 3 0, Value.ref 176, Value.bool true, Value.int 181 0, Value.ref 177, Value.none, Value.none, Value.none, Value.ref 178, Value.int 2372 0, Value.int 109 0, Value.str (Str.ofString "/claim/cut.py") 2373] }
noncomputable def o15_180 : Obj := ⟨Value.type "function", none, .func { name := Str.ofString "law", qualname := Str.ofString "law", params := (topF 15).1, body := .stmts (topF 15).2.1, scope := (topF 15).2.2, globals := 3, closure := [], defaults := Value.none, kwdefaults := Value.none, doc := Value.none, pyModule := Value.str (Str.ofString "law_st0041_01") 2340, annotations := none, code := Value.ref 179, closureTuple := Value.none, builtins := 0 }, #[]⟩
noncomputable def T15 (P : Params) : BT := (.node (boot_o_0 P) (.node (boot_o_1 P) (.node (o15_3 P) (.node (boot_o_7 P) (.node o6_15 (.node o6_31 (.node o6_63 (.node (dispO 127) .nil .nil) .nil) (.node o7_95 (.node o15_159 .nil .nil) .nil)) (.node o6_47 (.node o6_79 (.node (dispO 143) .nil .nil) .nil) (.node o8_111 (.node o15_175 .nil .nil) .nil))) (.node o6_23 (.node o6_39 (.node o6_71 (.node (dispO 135) .nil .nil) .nil) (.node o7_103 (.node o15_167 .nil .nil) .nil)) (.node o6_55 (.node o6_87 (.node (dispO 151) .nil .nil) .nil) (.node (dispO 119) .nil .nil)))) (.node oa_11 (.node o6_19 (.node o6_35 (.node o6_67 (.node (dispO 131) .nil .nil) .nil) (.node o7_99 (.node o15_163 .nil .nil) .nil)) (.node o6_51 (.node o6_83 (.node (dispO 147) .nil .nil) .nil) (.node (dispO 115) (.node o15_179 .nil .nil) .nil))) (.node o6_27 (.node o6_43 (.node o6_75 (.node (dispO 139) .nil .nil) .nil) (.node o8_107 (.node o15_171 .nil .nil) .nil)) (.node o6_59 (.node o6_91 (.node o15_155 .nil .nil) .nil) (.node (dispO 123) .nil .nil))))) (.node (boot_o_5 P) (.node (boot_o_9 P) (.node o6_17 (.node o6_33 (.node o6_65 (.node (dispO 129) .nil .nil) .nil) (.node o7_97 (.node o15_161 .nil .nil) .nil)) (.node o6_49 (.node o6_81 (.node (dispO 145) .nil .nil) .nil) (.node (dispO 113) (.node o15_177 .nil .nil) .nil))) (.node o6_25 (.node o6_41 (.node o6_73 (.node (dispO 137) .nil .nil) .nil) (.node o7_105 (.node o15_169 .nil .nil) .nil)) (.node o6_57 (.node o6_89 (.node o15_153 .nil .nil) .nil) (.node (dispO 121) .nil .nil)))) (.node oa_13 (.node o6_21 (.node o6_37 (.node o6_69 (.node (dispO 133) .nil .nil) .nil) (.node o7_101 (.node o15_165 .nil .nil) .nil)) (.node o6_53 (.node o6_85 (.node (dispO 149) .nil .nil) .nil) (.node (dispO 117) .nil .nil))) (.node o6_29 (.node o6_45 (.node o6_77 (.node (dispO 141) .nil .nil) .nil) (.node o8_109 (.node o15_173 .nil .nil) .nil)) (.node o6_61 (.node o6_93 (.node o15_157 .nil .nil) .nil) (.node (dispO 125) .nil .nil)))))) (.node (boot_o_2 P) (.node (boot_o_4 P) (.node (boot_o_8 P) (.node o6_16 (.node o6_32 (.node o6_64 (.node (dispO 128) .nil .nil) .nil) (.node o7_96 (.node o15_160 .nil .nil) .nil)) (.node o6_48 (.node o6_80 (.node (dispO 144) .nil .nil) .nil) (.node o8_112 (.node o15_176 .nil .nil) .nil))) (.node (o6_24 P) (.node o6_40 (.node o6_72 (.node (dispO 136) .nil .nil) .nil) (.node o7_104 (.node o15_168 .nil .nil) .nil)) (.node o6_56 (.node o6_88 (.node o15_152 .nil .nil) .nil) (.node (dispO 120) .nil .nil)))) (.node o15_12 (.node o6_20 (.node o6_36 (.node o6_68 (.node (dispO 132) .nil .nil) .nil) (.node o7_100 (.node o15_164 .nil .nil) .nil)) (.node o6_52 (.node o6_84 (.node (dispO 148) .nil .nil) .nil) (.node (dispO 116) (.node o15_180 .nil .nil) .nil))) (.node o6_28 (.node o6_44 (.node o6_76 (.node (dispO 140) .nil .nil) .nil) (.node o8_108 (.node o15_172 .nil .nil) .nil)) (.node o6_60 (.node o6_92 (.node o15_156 .nil .nil) .nil) (.node (dispO 124) .nil .nil))))) (.node (boot_o_6 P) (.node (boot_o_10 P) (.node o6_18 (.node o6_34 (.node o6_66 (.node (dispO 130) .nil .nil) .nil) (.node o7_98 (.node o15_162 .nil .nil) .nil)) (.node o6_50 (.node (o6_82 P) (.node (dispO 146) .nil .nil) .nil) (.node (dispO 114) (.node o15_178 .nil .nil) .nil))) (.node o6_26 (.node o6_42 (.node o6_74 (.node (dispO 138) .nil .nil) .nil) (.node o8_106 (.node o15_170 .nil .nil) .nil)) (.node o6_58 (.node o6_90 (.node o15_154 .nil .nil) .nil) (.node (dispO 122) .nil .nil)))) (.node oa_14 (.node o6_22 (.node o6_38 (.node o6_70 (.node (dispO 134) .nil .nil) .nil) (.node (o7_102 P) (.node o15_166 .nil .nil) .nil)) (.node o6_54 (.node o6_86 (.node (dispO 150) .nil .nil) .nil) (.node (dispO 118) .nil .nil))) (.node o6_30 (.node o6_46 (.node o6_78 (.node (dispO 142) .nil .nil) .nil) (.node o8_110 (.node o15_174 .nil .nil) .nil)) (.node o6_62 (.node o6_94 (.node o15_158 .nil .nil) .nil) (.node (dispO 126) .nil .nil)))))))
@[irreducible] noncomputable def S15 (P : Params) : St := ⟨T15 P, 181, 2375⟩
abbrev p15 : Pos := ⟨109, 0, 140, 95⟩
noncomputable def H15 (P : Params) : Heap := ⟨⟨[(boot_o_0 P), (boot_o_1 P), (boot_o_2 P), (o15_3 P), (boot_o_4 P), (boot_o_5 P), (boot_o_6 P), (boot_o_7 P), (boot_o_8 P), (boot_o_9 P), (boot_o_10 P), oa_11, o15_12, oa_13, oa_14, o6_15, o6_16, o6_17, o6_18, o6_19, o6_20, o6_21, o6_22, o6_23, (o6_24 P), o6_25, o6_26, o6_27, o6_28, o6_29, o6_30, o6_31, o6_32, o6_33, o6_34, o6_35, o6_36, o6_37, o6_38, o6_39, o6_40, o6_41, o6_42, o6_43, o6_44, o6_45, o6_46, o6_47, o6_48, o6_49, o6_50, o6_51, o6_52, o6_53, o6_54, o6_55, o6_56, o6_57, o6_58, o6_59, o6_60, o6_61, o6_62, o6_63, o6_64, o6_65, o6_66, o6_67, o6_68, o6_69, o6_70, o6_71, o6_72, o6_73, o6_74, o6_75, o6_76, o6_77, o6_78, o6_79, o6_80, o6_81, (o6_82 P), o6_83, o6_84, o6_85, o6_86, o6_87, o6_88, o6_89, o6_90, o6_91, o6_92, o6_93, o6_94, o7_95, o7_96, o7_97, o7_98, o7_99, o7_100, o7_101, (o7_102 P), o7_103, o7_104, o7_105, o8_106, o8_107, o8_108, o8_109, o8_110, o8_111, o8_112, (dispO 113), (dispO 114), (dispO 115), (dispO 116), (dispO 117), (dispO 118), (dispO 119), (dispO 120), (dispO 121), (dispO 122), (dispO 123), (dispO 124), (dispO 125), (dispO 126), (dispO 127), (dispO 128), (dispO 129), (dispO 130), (dispO 131), (dispO 132), (dispO 133), (dispO 134), (dispO 135), (dispO 136), (dispO 137), (dispO 138), (dispO 139), (dispO 140), (dispO 141), (dispO 142), (dispO 143), (dispO 144), (dispO 145), (dispO 146), (dispO 147), (dispO 148), (dispO 149), (dispO 150), (dispO 151), o15_152, o15_153, o15_154, o15_155, o15_156, o15_157, o15_158, o15_159, o15_160, o15_161, o15_162, o15_163, o15_164, o15_165, o15_166, o15_167, o15_168, o15_169, o15_170, o15_171, o15_172, o15_173, o15_174, o15_175, o15_176, o15_177, o15_178, o15_179, o15_180]⟩, {}⟩
end Mine
end
section
open PySem PySem.W PyProof.Rows
set_option maxRecDepth 100000
namespace Mine
@[irreducible] noncomputable def den : Code → Sem Fin := PySem.W.Fast.tw11892475500146522536 PySem.W.Fast.tw14364793385576792824
theorem den_eq : den = denote table := by
  unfold den
  rw [← PySem.W.Fast.te11892475500146522536, ← PySem.W.Fast.te14364793385576792824, ← table_eq_tree]
@[irreducible] noncomputable def body : List Stmt := prog.main.body
@[irreducible] noncomputable def env : Env := { scope := prog.main.scope, locals := mainNs, globals := mainNs, cells := [], code := .ref 13, frame := some 14 }
abbrev Γ0 : Ctx := ⟨.builtin "claim.caller" {}, none, none, [], none⟩
@[irreducible] noncomputable def Γ1 : Ctx := ⟨.body body env, none, none, [(.builtin "claim.caller" {}, pa)], none⟩
@[irreducible] noncomputable def st (i : Nat) : Stmt := body.getD i (.Pass default)


theorem run6 : ∀ w : World, evT (evC den prog w.params 20) prog w.params Γ1 (execs (body.take 7) env) pa (Sa w.params) = some (.ok .next, p6, S6 w.params) :=
  fun w => byRow2 "special-get-raises" (P := fun w => evT (evC den prog w.params 20) prog w.params Γ1 (execs (body.take 7) env) pa (Sa w.params) = some (.ok .next, p6, S6 w.params))
    (fun w => by kernel_rfl) (fun w => by kernel_rfl) w
end Mine
end
section
open PySem PySem.W PyProof.Rows
set_option maxRecDepth 100000
namespace Mine
abbrev Q7 (w : World) : Prop := evT (evC den prog w.params 300) prog w.params Γ1 (exec (st 7) env) p6 (S6 w.params) = some (.ok .next, p7, S7 w.params)
theorem run7a (w : World) : Q7 ((w.withFollow "set-order" false).withFollow "special-get-raises" false) := by kernel_rfl
theorem run7b (w : World) : Q7 ((w.withFollow "set-order" false).withFollow "special-get-raises" true) := by kernel_rfl
theorem run7c (w : World) : Q7 ((w.withFollow "set-order" true).withFollow "special-get-raises" false) := by kernel_rfl
theorem run7d (w : World) : Q7 ((w.withFollow "set-order" true).withFollow "special-get-raises" true) := by kernel_rfl
theorem run7 (w : World) : Q7 w :=
  byRow2 "special-get-raises" (P := Q7)
    (fun w => byRow2 "set-order" (P := fun w => Q7 (w.withFollow "special-get-raises" false)) run7a run7c w)
    (fun w => byRow2 "set-order" (P := fun w => Q7 (w.withFollow "special-get-raises" true)) run7b run7d w) w
end Mine
end
section
open PySem PySem.W PyProof.Rows
set_option maxRecDepth 100000
namespace Mine
theorem run8 : ∀ w : World, evT (evC den prog w.params 20) prog w.params Γ1 (exec (st 8) env) p7 (S7 w.params) = some (.ok .next, p8, S8 w.params) := fun w => by kernel_rfl
theorem run15 : ∀ w : World, evT (evC den prog w.params 20) prog w.params Γ1 (execs (body.drop 10) env) p9 (S9 w.params) = some (.ok .next, p15, S15 w.params) := fun w => by kernel_rfl
end Mine
end
section
open PySem PySem.W PyProof.Rows
set_option maxRecDepth 100000
namespace Mine
abbrev pd9 : Pos := ⟨84, 16, 84, 8704⟩
abbrev pn9 : Pos := ⟨84, 0, 84, 13⟩
abbrev ps9 : Pos := ⟨84, 0, 84, 8704⟩
noncomputable def dKs : Stmt → List (Option Expr)
  | .Assign _ (.Dict ks _ _) _ => ks
  | _ => []
noncomputable def dVs : Stmt → List Expr
  | .Assign _ (.Dict _ vs _) _ => vs
  | _ => []
@[irreducible] noncomputable def ks9 : List (Option Expr) := dKs (st 9)
@[irreducible] noncomputable def vs9 : List Expr := dVs (st 9)
theorem st9_is : st 9 = .Assign [.Name "b3_exceptions" pn9] (.Dict ks9 vs9 pd9) ps9 := by kernel_rfl
theorem swaps9 : swapsWith (.Dict ks9 vs9 pd9) (some (.Name "b3_exceptions" pn9)) ps9.line env = pure false := by kernel_rfl
theorem exec9 : exec (st 9) env = (do standAt ps9; let v ← eval (.Dict ks9 vs9 pd9) env; standAt pn9; bindName env "b3_exceptions" v; pure .next) := by
  rw [st9_is]
  exact exec_Assign_Name env _ _ _ _ swaps9
theorem items9 : ((evalEachOpt ks9 env).zip ((evalEach vs9 env).map fun v => (do let x ← v; standAt pd9; pure x : Sem Value))) = itemsOf pd9 dispKV := by kernel_rfl
theorem rise9 : rising (dispKV.map (·.1)) = true := by kernel_rfl
theorem len9 : (decide (17 ≤ dispKV.length) && decide (dispKV.length ≤ 1000)) = true := by kernel_rfl
noncomputable abbrev made9 : List DictEntry × List Obj × Nat := allFlushed [] (dispKV.drop 17) (entL 381 (dispKV.take 17), [], 381 + 51)
@[irreducible] noncomputable def L8 (P : Params) : List Obj := (T8 P).list 113
theorem heap9 (P : Params) : L8 P ++ dO made9.1 :: made9.2.1 = (T9d P).list 152 := by kernel_rfl
theorem toks9 : made9.2.2 = 2331 := by kernel_rfl
theorem store9 (w : World) (p : Pos) : evT (evC den prog w.params 20) prog w.params Γ1 (do standAt pn9; bindName env "b3_exceptions" (.ref 113); pure Flow.next) p (S9d w.params) = some (.ok .next, p9, S9 w.params) := by kernel_rfl

section
variable {w : World} {os : OsState}
abbrev lf : Life := {}
noncomputable abbrev ab (os : OsState) (s : St) : Shared := s.abs {} (Array.mk []) boot_drawn os
theorem model_den : (⟨den, prog, w⟩ : Model) = model prog w := by rw [den_eq]; rfl

theorem by_ev {Γ : Ctx} {α : Type} {t : Sem α} {n : Nat} {p p' : Pos} {s s' : St} {x : α} (h : evT (evC den prog w.params n) prog w.params Γ t p s = some (.ok x, p', s')) {Q : α → Pos → Shared → Prop} {E : Value → Pos → Shared → Prop}
    (hq : Q x p' (ab os s')) : Sem.wp (model prog w) Γ t Q E p (ab os s) := by
  rw [← model_den]
  exact evT_wp (evC_ok n) t p s _ p' s' h Q E hq

theorem wp_execs_app {M : Model} {Γ : Ctx} {en : Env} {Q : Flow → Pos → Shared → Prop} {E : Value → Pos → Shared → Prop} : ∀ (l r : List Stmt) (p : Pos) (s : Shared),
    Sem.wp M Γ (execs l en) (fun f p' s' => match f with | .next => Sem.wp M Γ (execs r en) Q E p' s' | f => Q f p' s') E p s → Sem.wp M Γ (execs (l ++ r) en) Q E p s
  | [], r, p, s, h => h
  | a :: l, r, p, s, h => by
    rw [List.cons_append, execs_cons, Sem.wp_bind']
    rw [execs_cons, Sem.wp_bind'] at h
    refine Sem.wp_mono M Γ _ (fun f p' s' h' => ?_) (fun _ _ _ h' => h') _ _ h
    cases f with
    | next => exact wp_execs_app l r p' s' h'
    | brk => exact h'
    | cont => exact h'
    | ret v => exact h'

theorem wp_exec_cons {M : Model} {Γ : Ctx} {en : Env} {Q : Flow → Pos → Shared → Prop} {E : Value → Pos → Shared → Prop} {a : Stmt} {r : List Stmt} {p : Pos} {s : Shared}
    (h : Sem.wp M Γ (exec a en) (fun f p' s' => f = .next ∧ Sem.wp M Γ (execs r en) Q E p' s') E p s) : Sem.wp M Γ (execs (a :: r) en) Q E p s := by
  rw [execs_cons, Sem.wp_bind']
  refine Sem.wp_mono M Γ _ (fun f p' s' h' => ?_) (fun _ _ _ h' => h') _ _ h
  obtain ⟨rfl, h'⟩ := h'
  exact h'

noncomputable abbrev A1 : Around := ⟨none, frameCount Γ1.below + Γ1.code.weight, none, none, Γ1.units⟩
theorem hand1 : Γ1.handled = none := by kernel_rfl
theorem in1 : Γ1.In A1 := ⟨hand1, Nat.le_refl _, fun _ h => (nomatch h), fun _ h => (nomatch h), Nat.le_refl _⟩

theorem run9 {Q : Flow → Pos → Shared → Prop} {E : Value → Pos → Shared → Prop} {p : Pos} (h : Q .next p9 (ab os (S9 w.params))) : Sem.wp (model prog w) Γ1 (exec (st 9) env) Q E p (ab os (S8 w.params)) := by
  rw [exec9, Sem.wp_bind', Sem.wp_cmd_standAt, Sem.wp_bind', arm_eval_Dict, items9]
  have key : wpAny (model prog w) A1 (do standAt pd9; dictDisplay (itemsOf pd9 dispKV)) (fun v s' => v = .ref 113 ∧ s' = ab os (S9d w.params)) (fun e s' => False) (ab os (S8 w.params)) := by
    refine wpAny_bind (wpAny_standAt ?_)
    have hl := len9
    simp only [Bool.and_eq_true, decide_eq_true_eq] at hl
    have hlen : (L8 w.params).length = 113 := by unfold L8; simp [BT.list]
    have h8 : ab os (S8 w.params) = Sh {} (Array.mk []) boot_drawn os (L8 w.params) 381 := by unfold S8 L8; rfl
    have h9 : ab os (S9d w.params) = Sh {} (Array.mk []) boot_drawn os ((T9d w.params).list 152) 2331 := by unfold S9d; rfl
    rw [h8, h9]
    refine disp_run (by rw [hlen]; decide) hl.1 (rising_pairwise rise9) (by rw [sizeLine_eq]; omega) ?_
    show Value.ref _ = _ ∧ Sh {} (Array.mk []) boot_drawn os (L8 w.params ++ dO made9.1 :: made9.2.1) made9.2.2 = _
    rw [heap9, toks9, hlen]
    exact ⟨rfl, rfl⟩
  refine Sem.wp_mono (model prog w) Γ1 _ (fun v p' s' h' => ?_) (fun _ _ _ e => e.elim) _ _ (key Γ1 _ in1)
  obtain ⟨rfl, rfl⟩ := h'
  exact by_ev (store9 w p') h

theorem body_is : body = body.take 7 ++ (st 7 :: st 8 :: st 9 :: body.drop 10) := by kernel_rfl

theorem body_run {Q : Flow → Pos → Shared → Prop} {E : Value → Pos → Shared → Prop} (h : Q .next p15 (ab os (S15 w.params))) : Sem.wp (model prog w) Γ1 (execs body env) Q E pa (ab os (Sa w.params)) := by
  have hb := body_is
  rw [show execs body env = execs (body.take 7 ++ (st 7 :: st 8 :: st 9 :: body.drop 10)) env from congrArg (fun b => execs b env) hb]
  refine wp_execs_app _ _ _ _ (by_ev (run6 w) ?_)
  refine wp_exec_cons (by_ev (run7 w) ⟨rfl, ?_⟩)
  refine wp_exec_cons (by_ev (run8 w) ⟨rfl, ?_⟩)
  refine wp_exec_cons (run9 ⟨rfl, ?_⟩)
  exact by_ev (run15 w) h
end
end Mine
end
section
open PySem PySem.W PyProof.Rows
set_option maxRecDepth 100000
namespace Mine
theorem runN_last {dn : Code → Sem Fin} {pr : Program} {w : World} {f : Flow} {s'' : Shared} : ∀ (n : Nat) (s : Shared) (t : Thread), runN dn pr w n s t = .halted (.done f) s'' →
    ∃ m s₁ t₁, runN dn pr w m s t = .running s₁ t₁ ∧ step dn pr w s₁ t₁ = .halt (.done f) s''
  | 0, _, _, h => by cases h
  | n + 1, s, t, h => by
    simp only [runN] at h
    cases hs : step dn pr w s t with
    | go s₂ t₂ =>
      simp only [hs] at h
      obtain ⟨m, s₁, t₁, h1, h2⟩ := runN_last n s₂ t₂ h
      exact ⟨m + 1, s₁, t₁, by simp only [runN, hs]; exact h1, h2⟩
    | halt o s₂ =>
      simp only [hs] at h
      injection h with h1 h2
      subst h1 h2
      exact ⟨0, s, t, rfl, hs⟩
theorem through_of_halt {dn : Code → Sem Fin} {pr : Program} {w : World} {f : Flow} {s s'' : Shared} {t : Thread} (h : step dn pr w s t = .halt (.done f) s'') : through t = true := by
  obtain ⟨heap, gens, drawn, toks, os⟩ := s
  obtain ⟨cur, code, pos, stack⟩ := t
  cases cur with
  | pure x =>
    cases x with
    | again c => simp only [step] at h; cases h
    | done g =>
      cases stack with
      | nil => rfl
      | cons fr r => cases fr <;> (simp only [step] at h; cases h)
  | raise e =>
    cases stack with
    | nil => simp only [step, finish] at h; split at h <;> cases h
    | cons fr r => cases fr <;> (simp only [step] at h; cases h)
  | _ => exfalso; revert h; simp only [step]; (repeat' split) <;> (intro h; cases h)

theorem sched_of_wp {pr : Program} {w : World} {c : Code} {t : Sem Fin} {s s' : Shared} {p : Pos} (hz : s.asleep) (hg : s'.gens = #[])
    (h : Sem.wp (model pr w) ⟨c, none, none, [], none⟩ t (Sem.finPost (model pr w) ⟨c, none, none, [], none⟩ fun r s'' => r = .ok (.ret .none) ∧ s'' = s') (fun _ _ _ => False) p s) :
    ∃ n t₁, schedN (denote table) pr w n (.single s ⟨t, c, p, []⟩) = .running (.single s' t₁) ∧ through t₁ = true := by
  have h' : Sem.wp (model pr w) ⟨c, none, none, [], none⟩ t (Sem.finPost (model pr w) ⟨c, none, none, [], none⟩ fun r s'' => (r = .ok (.ret .none) ∧ s'' = s') ∧ leftWithCleanup s''.gens = false)
      (fun e _ s'' => ((Except.error e : Result) = .ok (.ret .none) ∧ s'' = s') ∧ leftWithCleanup s''.gens = false) p s := by
    rw [Sem.wp_iff_runs (model pr w) ⟨c, none, none, [], none⟩ t (fun r s'' => (r = .ok (.ret .none) ∧ s'' = s') ∧ leftWithCleanup s''.gens = false)]
    have h2 : Sem.wp (model pr w) ⟨c, none, none, [], none⟩ t (Sem.finPost (model pr w) ⟨c, none, none, [], none⟩ fun r s'' => r = .ok (.ret .none) ∧ s'' = s') (fun e _ s'' => (Except.error e : Result) = .ok (.ret .none) ∧ s'' = s') p s :=
      Sem.wp_mono _ _ _ (fun _ _ _ x => x) (fun _ _ _ x => x.elim) _ _ h
    rw [Sem.wp_iff_runs (model pr w) ⟨c, none, none, [], none⟩ t (fun r s'' => r = .ok (.ret .none) ∧ s'' = s')] at h2
    obtain ⟨r, s'', a, b, rfl⟩ := h2
    exact ⟨r, s'', a, ⟨b, rfl⟩, by rw [hg]; simp [leftWithCleanup]⟩
  obtain ⟨n, r, s₁, hn, rfl, rfl⟩ := (wp_iff_halts t (fun r s'' => r = .ok (.ret .none) ∧ s'' = s') p s).mp h'
  obtain ⟨s'', hr, hf, hc⟩ := runNI_real (denote table) pr w hn (outcomeOf_ends _)
  obtain rfl := Shared.eq_of_forget_eq hf hg
  have hne : ∀ k s₂, runN (denote table) pr w k s ⟨t, c, p, []⟩ ≠ .halted (.unsupported "lifetime:generator-with-cleanup-left-suspended") s₂ := by
    intro k s₂ hk
    have a := runN_mono (denote table) pr w n k s _ _ s'' hr
    have b := runN_mono (denote table) pr w k n s _ _ s₂ hk
    rw [Nat.add_comm, b] at a
    injection a with a1 _
    cases a1
  obtain ⟨m, s₂, t₁, h1, h2⟩ := runN_last n s _ hr
  have h3 := step_halt_same (denote table) pr w _ _ _ _ h2
  rw [h3]
  refine ⟨m, t₁, ?_, through_of_halt h2⟩
  rw [schedN_eq_runN (denote table) pr w s _ hz ⟨hc, hne⟩ m, h1]
  rfl
end Mine
end
section
open PySem PySem.W PyProof.Rows
set_option maxRecDepth 100000
namespace Mine
noncomputable def kept (i : Nat) : Stmt := PySem.Challenge.rw_st0041_01.prog.main.body.getD i (.Pass default)
noncomputable def q : Program := { PySem.Challenge.rw_st0041_01.prog with main := { PySem.Challenge.rw_st0041_01.prog.main with body := [kept 0, kept 2, kept 4, kept 5, kept 8, kept 10, kept 12, kept 13, kept 14, kept 15] } }
abbrev loose : List Str := ["Whitespace", "b1_set", "b3_exceptions"]
noncomputable abbrev Xt (s : Shared) : Bool := xlAt q [] s && recOk [] s
@[irreducible] noncomputable def s15 (w : World) (os : OsState) : Shared := ⟨H15 w.params, Array.mk [], boot_drawn, 2375, os⟩
@[irreducible] noncomputable def s00 (w : World) (os : OsState) : Shared := ⟨boot_heap w.params, Array.mk [], boot_drawn, boot_toks, os⟩
theorem s15_is (w : World) (os : OsState) : ab os (S15 w.params) = s15 w os := by kernel_rfl
theorem s00_is (w : World) (os : OsState) : ab os (Sb w.params) = s00 w os := by kernel_rfl
theorem mods0 : importedModules prog.main.body = [] := by kernel_rfl
theorem look_st (w : World) (os : OsState) : staticsOk [] (s00 w os).heap (s15 w os).heap = true := by kernel_rfl
theorem look_nb (w : World) (os : OsState) : namesBound prog (s15 w os).heap = true := by kernel_rfl
theorem look_gd (w : World) (os : OsState) : gensDone (s15 w os) = true := by kernel_rfl
theorem look_lk (w : World) (os : OsState) : laidKept (s00 w os).heap (s15 w os).heap = true := by kernel_rfl
theorem look_open (w : World) (os : OsState) : openSeen q loose [] Xt true (s15 w os) = openGood q loose := by kernel_rfl
end Mine
end
section
open PySem PySem.W PyProof.Rows
set_option maxRecDepth 100000
namespace Mine
noncomputable def K1 : Params → Frag := by
  refine' (fun (a0 : Arguments) (b0 : List Stmt) (s0 : Scope) (_ : (topF 0) = (a0, b0, s0)) (a1 : Arguments) (b1 : List Stmt) (s1 : Scope) (_ : (methF 0) = (a1, b1, s1)) (a2 : Arguments) (b2 : List Stmt) (s2 : Scope) (_ : (methF 1) = (a2, b2, s2)) (a3 : Arguments) (b3 : List Stmt) (s3 : Scope) (_ : (methF 2) = (a3, b3, s3)) (a4 : Arguments) (b4 : List Stmt) (s4 : Scope) (_ : (methF 3) = (a4, b4, s4)) (a5 : Arguments) (b5 : List Stmt) (s5 : Scope) (_ : (methF 4) = (a5, b5, s5)) (a6 : Arguments) (b6 : List Stmt) (s6 : Scope) (_ : (methF 5) = (a6, b6, s6)) (a7 : Arguments) (b7 : List Stmt) (s7 : Scope) (_ : (methF 6) = (a7, b7, s7)) (a8 : Arguments) (b8 : List Stmt) (s8 : Scope) (_ : (topF 5) = (a8, b8, s8)) (a9 : Arguments) (b9 : List Stmt) (s9 : Scope) (_ : (topF 8) = (a9, b9, s9)) (a10 : Arguments) (b10 : List Stmt) (s10 : Scope) (_ : (topF 10) = (a10, b10, s10)) (a11 : Arguments) (b11 : List Stmt) (s11 : Scope) (_ : (topF 12) = (a11, b11, s11)) (a12 : Arguments) (b12 : List Stmt) (s12 : Scope) (_ : (topF 13) = (a12, b12, s12)) (a13 : Arguments) (b13 : List Stmt) (s13 : Scope) (_ : (topF 14) = (a13, b13, s13)) (a14 : Arguments) (b14 : List Stmt) (s14 : Scope) (_ : (topF 15) = (a14, b14, s14)) => (fun P => (nat_lit 2, (boot_o_2 P)) :: (nat_lit 3, (o15_3 P)) :: (nat_lit 6, (boot_o_6 P)) :: (nat_lit 15, o6_15) :: (nat_lit 17, o6_17) :: (nat_lit 18, o6_18) :: (nat_lit 20, o6_20) :: (nat_lit 21, (⟨Value.type "function", none, .func { name := Str.ofString "_wall", qualname := Str.ofString "_wall", params := a0, body := .stmts b0, scope := s0, globals := 3, closure := [], defaults := Value.none, kwdefaults := Value.none, doc := Value.none, pyModule := Value.str (Str.ofString "__main__") 164, annotations := none, code := Value.ref 20, closureTuple := Value.none, builtins := 0 }, #[]⟩ : Obj)) :: (nat_lit 32, o6_32) :: (nat_lit 34, o6_34) :: (nat_lit 35, o6_35) :: (nat_lit 37, o6_37) :: (nat_lit 38, (⟨Value.type "function", none, .func { name := Str.ofString "__init__", qualname := Str.ofString "Whitespace.__init__", params := a1, body := .stmts b1, scope := s1, globals := 3, closure := [], defaults := Value.none, kwdefaults := Value.none, doc := Value.none, pyModule := Value.str (Str.ofString "cpy313.tabnanny") 194, annotations := none, code := Value.ref 37, closureTuple := Value.none, builtins := 0 }, #[]⟩ : Obj)) :: (nat_lit 39, o6_39) :: (nat_lit 41, o6_41) :: (nat_lit 42, o6_42) :: (nat_lit 44, o6_44) :: (nat_lit 45, (⟨Value.type "function", none, .func { name := Str.ofString "longest_run_of_spaces", qualname := Str.ofString "Whitespace.longest_run_of_spaces", params := a2, body := .stmts b2, scope := s2, globals := 3, closure := [], defaults := Value.none, kwdefaults := Value.none, doc := Value.none, pyModule := Value.str (Str.ofString "cpy313.tabnanny") 194, annotations := none, code := Value.ref 44, closureTuple := Value.none, builtins := 0 }, #[]⟩ : Obj)) :: (nat_lit 46, o6_46) :: (nat_lit 48, o6_48) :: (nat_lit 49, o6_49) :: (nat_lit 51, o6_51) :: (nat_lit 52, (⟨Value.type "function", none, .func { name := Str.ofString "indent_level", qualname := Str.ofString "Whitespace.indent_level", params := a3, body := .stmts b3, scope := s3, globals := 3, closure := [], defaults := Value.none, kwdefaults := Value.none, doc := Value.none, pyModule := Value.str (Str.ofString "cpy313.tabnanny") 194, annotations := none, code := Value.ref 51, closureTuple := Value.none, builtins := 0 }, #[]⟩ : Obj)) :: (nat_lit 53, o6_53) :: (nat_lit 55, o6_55) :: (nat_lit 56, o6_56) :: (nat_lit 58, o6_58) :: (nat_lit 59, (⟨Value.type "function", none, .func { name := Str.ofString "equal", qualname := Str.ofString "Whitespace.equal", params := a4, body := .stmts b4, scope := s4, globals := 3, closure := [], defaults := Value.none, kwdefaults := Value.none, doc := Value.none, pyModule := Value.str (Str.ofString "cpy313.tabnanny") 194, annotations := none, code := Value.ref 58, closureTuple := Value.none, builtins := 0 }, #[]⟩ : Obj)) :: (nat_lit 60, o6_60) :: (nat_lit 62, o6_62) :: (nat_lit 63, o6_63) :: (nat_lit 65, o6_65) :: (nat_lit 66, (⟨Value.type "function", none, .func { name := Str.ofString "not_equal_witness", qualname := Str.ofString "Whitespace.not_equal_witness", params := a5, body := .stmts b5, scope := s5, globals := 3, closure := [], defaults := Value.none, kwdefaults := Value.none, doc := Value.none, pyModule := Value.str (Str.ofString "cpy313.tabnanny") 194, annotations := none, code := Value.ref 65, closureTuple := Value.none, builtins := 0 }, #[]⟩ : Obj)) :: (nat_lit 67, o6_67) :: (nat_lit 69, o6_69) :: (nat_lit 70, o6_70) :: (nat_lit 72, o6_72) :: (nat_lit 73, (⟨Value.type "function", none, .func { name := Str.ofString "less", qualname := Str.ofString "Whitespace.less", params := a6, body := .stmts b6, scope := s6, globals := 3, closure := [], defaults := Value.none, kwdefaults := Value.none, doc := Value.none, pyModule := Value.str (Str.ofString "cpy313.tabnanny") 194, annotations := none, code := Value.ref 72, closureTuple := Value.none, builtins := 0 }, #[]⟩ : Obj)) :: (nat_lit 74, o6_74) :: (nat_lit 76, o6_76) :: (nat_lit 77, o6_77) :: (nat_lit 79, o6_79) :: (nat_lit 80, (⟨Value.type "function", none, .func { name := Str.ofString "not_less_witness", qualname := Str.ofString "Whitespace.not_less_witness", params := a7, body := .stmts b7, scope := s7, globals := 3, closure := [], defaults := Value.none, kwdefaults := Value.none, doc := Value.none, pyModule := Value.str (Str.ofString "cpy313.tabnanny") 194, annotations := none, code := Value.ref 79, closureTuple := Value.none, builtins := 0 }, #[]⟩ : Obj)) :: (nat_lit 81, o6_81) :: (nat_lit 82, (o6_82 P)) :: (nat_lit 83, o6_83) :: (nat_lit 84, o6_84) :: (nat_lit 85, o6_85) :: (nat_lit 88, o6_88) :: (nat_lit 90, o6_90) :: (nat_lit 91, o6_91) :: (nat_lit 93, o6_93) :: (nat_lit 94, (⟨Value.type "function", none, .func { name := Str.ofString "_grouping_intervals", qualname := Str.ofString "_grouping_intervals", params := a8, body := .stmts b8, scope := s8, globals := 3, closure := [], defaults := Value.none, kwdefaults := Value.none, doc := Value.none, pyModule := Value.str (Str.ofString "cpy313.locale") 299, annotations := none, code := Value.ref 93, closureTuple := Value.none, builtins := 0 }, #[]⟩ : Obj)) :: (nat_lit 102, (o7_102 P)) :: (nat_lit 106, o8_106) :: (nat_lit 108, o8_108) :: (nat_lit 109, o8_109) :: (nat_lit 111, o8_111) :: (nat_lit 112, (⟨Value.type "function", none, .func { name := Str.ofString "in_table_b1", qualname := Str.ofString "in_table_b1", params := a9, body := .stmts b9, scope := s9, globals := 3, closure := [], defaults := Value.none, kwdefaults := Value.none, doc := Value.none, pyModule := Value.str (Str.ofString "cpy313.stringprep") 312, annotations := none, code := Value.ref 111, closureTuple := Value.none, builtins := 0 }, #[]⟩ : Obj)) :: (nat_lit 113, (dispO 113)) :: (nat_lit 152, o15_152) :: (nat_lit 154, o15_154) :: (nat_lit 155, o15_155) :: (nat_lit 157, o15_157) :: (nat_lit 158, (⟨Value.type "function", none, .func { name := Str.ofString "map_table_b3", qualname := Str.ofString "map_table_b3", params := a10, body := .stmts b10, scope := s10, globals := 3, closure := [], defaults := Value.none, kwdefaults := Value.none, doc := Value.none, pyModule := Value.str (Str.ofString "cpy313.stringprep") 312, annotations := none, code := Value.ref 157, closureTuple := Value.none, builtins := 0 }, #[]⟩ : Obj)) :: (nat_lit 159, o15_159) :: (nat_lit 161, o15_161) :: (nat_lit 162, o15_162) :: (nat_lit 164, o15_164) :: (nat_lit 165, (⟨Value.type "function", none, .func { name := Str.ofString "_law_typed", qualname := Str.ofString "_law_typed", params := a11, body := .stmts b11, scope := s11, globals := 3, closure := [], defaults := Value.none, kwdefaults := Value.none, doc := Value.none, pyModule := Value.str (Str.ofString "law_st0041_01") 2340, annotations := none, code := Value.ref 164, closureTuple := Value.none, builtins := 0 }, #[]⟩ : Obj)) :: (nat_lit 166, o15_166) :: (nat_lit 169, o15_169) :: (nat_lit 170, (⟨Value.type "function", none, .func { name := Str.ofString "_law_word", qualname := Str.ofString "_law_word", params := a12, body := .stmts b12, scope := s12, globals := 3, closure := [], defaults := Value.none, kwdefaults := Value.none, doc := Value.none, pyModule := Value.str (Str.ofString "law_st0041_01") 2340, annotations := none, code := Value.ref 169, closureTuple := Value.none, builtins := 0 }, #[]⟩ : Obj)) :: (nat_lit 171, o15_171) :: (nat_lit 174, o15_174) :: (nat_lit 175, (⟨Value.type "function", none, .func { name := Str.ofString "_law_column", qualname := Str.ofString "_law_column", params := a13, body := .stmts b13, scope := s13, globals := 3, closure := [], defaults := Value.none, kwdefaults := Value.none, doc := Value.none, pyModule := Value.str (Str.ofString "law_st0041_01") 2340, annotations := none, code := Value.ref 174, closureTuple := Value.none, builtins := 0 }, #[]⟩ : Obj)) :: (nat_lit 176, o15_176) :: (nat_lit 179, o15_179) :: (nat_lit 180, (⟨Value.type "function", none, .func { name := Str.ofString "law", qualname := Str.ofString "law", params := a14, body := .stmts b14, scope := s14, globals := 3, closure := [], defaults := Value.none, kwdefaults := Value.none, doc := Value.none, pyModule := Value.str (Str.ofString "law_st0041_01") 2340, annotations := none, code := Value.ref 179, closureTuple := Value.none, builtins := 0 }, #[]⟩ : Obj)) :: [] : Params → Frag)) _ _ _ ?h0 _ _ _ ?h1 _ _ _ ?h2 _ _ _ ?h3 _ _ _ ?h4 _ _ _ ?h5 _ _ _ ?h6 _ _ _ ?h7 _ _ _ ?h8 _ _ _ ?h9 _ _ _ ?h10 _ _ _ ?h11 _ _ _ ?h12 _ _ _ ?h13 _ _ _ ?h14
  case h0 => ((conv => lhs; whnf))
  case h1 => ((conv => lhs; whnf))
  case h2 => ((conv => lhs; whnf))
  case h3 => ((conv => lhs; whnf))
  case h4 => ((conv => lhs; whnf))
  case h5 => ((conv => lhs; whnf))
  case h6 => ((conv => lhs; whnf))
  case h7 => ((conv => lhs; whnf))
  case h8 => ((conv => lhs; whnf))
  case h9 => ((conv => lhs; whnf))
  case h10 => ((conv => lhs; whnf))
  case h11 => ((conv => lhs; whnf))
  case h12 => ((conv => lhs; whnf))
  case h13 => ((conv => lhs; whnf))
  case h14 => ((conv => lhs; whnf))
noncomputable def K : Params → Frag := fun P => by
  refine' (fun (l : Frag) (_ : K1 P = l) => l) _ ?h
  case h => (conv => lhs; whnf)
abbrev Kas : List Addr := [nat_lit 2, nat_lit 3, nat_lit 6, nat_lit 15, nat_lit 17, nat_lit 18, nat_lit 20, nat_lit 21, nat_lit 32, nat_lit 34, nat_lit 35, nat_lit 37, nat_lit 38, nat_lit 39, nat_lit 41, nat_lit 42, nat_lit 44, nat_lit 45, nat_lit 46, nat_lit 48, nat_lit 49, nat_lit 51, nat_lit 52, nat_lit 53, nat_lit 55, nat_lit 56, nat_lit 58, nat_lit 59, nat_lit 60, nat_lit 62, nat_lit 63, nat_lit 65, nat_lit 66, nat_lit 67, nat_lit 69, nat_lit 70, nat_lit 72, nat_lit 73, nat_lit 74, nat_lit 76, nat_lit 77, nat_lit 79, nat_lit 80, nat_lit 81, nat_lit 82, nat_lit 83, nat_lit 84, nat_lit 85, nat_lit 88, nat_lit 90, nat_lit 91, nat_lit 93, nat_lit 94, nat_lit 102, nat_lit 106, nat_lit 108, nat_lit 109, nat_lit 111, nat_lit 112, nat_lit 113, nat_lit 152, nat_lit 154, nat_lit 155, nat_lit 157, nat_lit 158, nat_lit 159, nat_lit 161, nat_lit 162, nat_lit 164, nat_lit 165, nat_lit 166, nat_lit 169, nat_lit 170, nat_lit 171, nat_lit 174, nat_lit 175, nat_lit 176, nat_lit 179, nat_lit 180]
theorem K_as (P : Params) : Kas = (K P).map (·.1) := by kernel_rfl
theorem K_at (w : World) (os : OsState) : Kas.map (s15 w os).heap.get? = (K w.params).map fun p => some p.2 := by kernel_rfl
theorem K_in (w : World) (os : OsState) : (K w.params).In (s15 w os).heap := Frag.in_of (K_as _) (K_at w os)

theorem pre0 (w : World) : evT (evC den prog w.params 20) prog w.params Γ0 (do let code ← moduleCode prog.main; let frame ← newBodyFrame code mainNs mainNs; pure (code, frame)) default (Sb w.params) = some (.ok (.ref 13, 14), pa, Sa w.params) := by kernel_rfl
theorem block0 (w : World) : evT (evC den prog w.params 20) prog w.params Γ1 (blockStart body env) pa (Sa w.params) = some (.ok (), pa, Sa w.params) := by kernel_rfl
noncomputable abbrev stubRest (code : Value) (frame : Addr) : Sem Fin := do
  let _ ← run (.body (behindTheImports prog) { scope := prog.main.scope, locals := mainNs, globals := mainNs, cells := [], code, frame := some frame })
  ret .none
theorem stub_is : topStub prog = ⟨do let code ← moduleCode prog.main; let frame ← newBodyFrame code mainNs mainNs; stubRest code frame, .builtin "claim.caller" {}, default, []⟩ := rfl
theorem behind_is : behindTheImports prog = body := by kernel_rfl
theorem env_is : ({ scope := prog.main.scope, locals := mainNs, globals := mainNs, cells := [], code := .ref 13, frame := some 14 } : Env) = env := by kernel_rfl
theorem enter_is : Γ0.enter (.body body env) none pa = Γ1 := by kernel_rfl
theorem code1_is : Γ1.code = .body body env := by kernel_rfl
theorem den_body : (model prog w).den (.body body env) = (blockStart body env).bind (fun _ => ((execs body env).onRaise (leaving env)).bind fun f => (Sem.pure (Fin.done f) : Sem Fin)) := rfl
theorem top_wp (w : World) (os : OsState) : Sem.wp (model prog w) Γ0 (topStub prog).cur (Sem.finPost (model prog w) Γ0 fun r s'' => r = .ok (.ret .none) ∧ s'' = s15 w os) (fun _ _ _ => False) default (s00 w os) := by
  rw [stub_is, ← s00_is]
  show Sem.wp _ _ (do let code ← moduleCode prog.main; let frame ← newBodyFrame code mainNs mainNs; stubRest code frame) _ _ _ _
  have h1 := by_ev (os := os) (pre0 w) (Q := fun x p s => x = (.ref 13, 14) ∧ p = pa ∧ s = ab os (Sa w.params)) (E := fun _ _ _ => False) ⟨rfl, rfl, rfl⟩
  rw [Sem.wp_bind'] at h1 ⊢
  refine Sem.wp_mono _ _ _ (fun code p s h1 => ?_) (fun _ _ _ e => e) _ _ h1
  rw [Sem.wp_bind'] at h1 ⊢
  refine Sem.wp_mono _ _ _ (fun frame p s h1 => ?_) (fun _ _ _ e => e) _ _ h1
  rw [Sem.wp_pure'] at h1
  obtain ⟨h2, rfl, rfl⟩ := h1
  obtain ⟨rfl, rfl⟩ := Prod.mk.inj h2
  rw [Sem.wp_bind', behind_is, env_is, Sem.wp_run, wpCode_iff_wp, enter_is, code1_is, den_body]
  rw [Sem.wp_bind]
  refine by_ev (block0 w) ?_
  rw [Sem.wp_bind, Sem.wp_onRaise]
  refine body_run ?_
  rw [Sem.wp_pure]
  simp only [Sem.finPost]
  rw [s15_is]
  show Sem.wp (model prog w) Γ0 (Sem.pure (Fin.done (.ret .none))) _ _ pa _
  rw [Sem.wp_pure]
  simp only [Sem.finPost, and_self]
theorem asleep0 (w : World) (os : OsState) : (s00 w os).asleep := by unfold s00; exact ⟨rfl, rfl⟩
theorem asleep15 (w : World) (os : OsState) : (s15 w os).asleep := by unfold s15; exact ⟨rfl, rfl⟩
theorem gens15 (w : World) (os : OsState) : (s15 w os).gens = #[] := by unfold s15; rfl
theorem gens0 (w : World) (os : OsState) : (s00 w os).gens = #[] := by unfold s00; rfl
theorem top_sched (w : World) (os : OsState) : ∃ n t₁, schedN (denote table) prog w n (.single (s00 w os) (topStub prog)) = .running (.single (s15 w os) t₁) ∧ through t₁ = true := by
  have h := top_wp w os
  rw [stub_is] at h ⊢
  exact sched_of_wp (asleep0 w os) (gens15 w os) h

theorem kept0 (w : World) (os : OsState) (b : Addr) (o : Obj) (h : (s00 w os).heap.get? b = some o) (hn : ¬ theTopsOwn (s00 w os).heap b) : (s15 w os).heap.get? b = some o := by
  have hb : b < 11 := by
    have := Heap.lt_size h
    rwa [show (s00 w os).heap.objs.size = 11 from by unfold s00; rfl] at this
  have h0 : (s00 w os).heap = boot_heap w.params := by unfold s00; rfl
  have h1 : (s15 w os).heap = H15 w.params := by unfold s15; rfl
  have n3 : b ≠ 3 := fun e => hn (.inl e)
  have n2 : b ≠ 2 := fun e => hn (.inr (.inl e))
  rw [h0] at h
  rw [h1]
  have hc : ∀ n : Nat, n < 11 → n ≠ 3 → n ≠ 2 → (n = 0 ∨ n = 1 ∨ n = 4 ∨ n = 5 ∨ n = 6 ∨ n = 7 ∨ n = 8 ∨ n = 9 ∨ n = 10) := by omega
  have hc := hc b hb n3 n2
  rcases hc with rfl | rfl | rfl | rfl | rfl | rfl | rfl | rfl | rfl <;> (rw [← h]; kernel_rfl)

theorem ground15 (w : World) (os : OsState) : Ground q loose [] (XL q []) w (s15 w os) ((s15 w os).heap.nsMap mainGlobals) ((s15 w os).heap.nsMap builtinsNs) (s15 w os).heap ∧ (s15 w os).heap.isNs mainGlobals = true ∧
    staticsAccountedI (s15 w os).heap [] ∧ keysAreStrs (s15 w os).heap mainNs ∧ builtinsAsBooted (s15 w os).heap ∧ builtinsGlobalAsBooted (s15 w os).heap := by
  obtain ⟨a, _, b, c, d, e, f⟩ := ground_of_open (w := w) (Xt := Xt) (XP := XL q []) (g0 := true) (fun s e => xl_of s (Bool.and_eq_true_iff.mp e).1) (by kernel_rfl : chainsOk q = true) (look_open w os)
  exact ⟨a, b, c, d, e, f⟩

theorem ran15 (w : World) (os : OsState) : TopRan prog w (s00 w os) (s15 w os) := by
  obtain ⟨_, _, c, d, e, f⟩ := ground15 w os
  refine ⟨top_sched w os, by unfold s00 s15; rfl, by unfold s00 s15; rfl, kept0 w os, by rw [mods0]; exact c, by rw [mods0]; exact statics_of_ok (look_st w os), d, e, f, gens_of_done (look_gd w os), names_of_bound (look_nb w os), laid_of_kept (look_lk w os)⟩

theorem opening_is : opening prog = plainProg prog.main.scope.names := by kernel_rfl
theorem fence_is (s : Shared) : fenceModules? prog s = some s := by kernel_rfl

theorem behind (w : World) : (∃ s, AfterRun (opening prog) w s) ∧ ∀ s, AfterRun (opening prog) w s → ∃ os, fenceModules? prog s = some (s00 w os) := by
  have h := boot_open (p := prog) (N := 600) opening_is rfl fence_is w
  rw [← table_eq_tree] at h
  obtain ⟨s₀, h1, h2⟩ := Option.map_eq_some_iff.mp h
  obtain ⟨s, h3, h4⟩ := Option.bind_eq_some_iff.mp h1
  have A := AfterImport.of_importEnds h3
  refine ⟨⟨s, A⟩, fun s' hs' => ?_⟩
  obtain rfl : s' = s := AfterImport.unique hs' A
  rw [fence_is] at h4 ⊢
  cases h4
  obtain ⟨heap, gens, drawn, toks, os⟩ := s₀
  refine ⟨os, ?_⟩
  obtain ⟨rfl, rfl, rfl, rfl⟩ : heap = boot_heap w.params ∧ gens = Array.mk [] ∧ drawn = boot_drawn ∧ toks = boot_toks := by simpa using h2
  unfold s00
  rfl
end Mine
end
section
open PySem PySem.W PyProof.Rows
set_option maxRecDepth 100000
namespace Mine
abbrev rw1 : OpenRow := PySem.Challenge.rw_st0041_01.row
theorem prog_is : rw1.prog = prog := by kernel_rfl

theorem my_holds (said : rw1.wellSaid = true) {d : DefRec} {kwd : List (Str × Expr)} (hdef : defOf q rw1.name = some (d, kwd)) (hp : rw1.prog.theDef rw1.name = some (d.params, d.body, d.scope))
    (hk : kwWritten? d.params.kwonlyargs d.params.kw_defaults = some kwd) (ok : (opensWell rw1.prog && (frees rw1.toRowW && rw1.within.isEmpty)) = true) (hb : rw1.prog.bare) (hw : rw1.toRowW.promised)
    (call : WalkO q loose (XL q []) (fun w h => (K w.params).In h) rw1.toRowW d kwd fun f vs => PySem.call f vs) : rw1.Holds := by
  obtain ⟨o1, k5⟩ := Bool.and_eq_true_iff.mp ok
  obtain ⟨k5, k6⟩ := Bool.and_eq_true_iff.mp k5
  obtain ⟨hsame, hu, ha, hap, hm⟩ := frees_parts k5
  have hname := defOf_name hdef
  refine ⟨said, hw, ⟨hb, o1, rfl⟩, hw.witness, fun w => ?_⟩
  obtain ⟨b1, b2⟩ := behind w
  show (∃ s, AfterRun (opening rw1.prog) w s) ∧ ∀ s, AfterRun (opening rw1.prog) w s → _
  rw [prog_is]
  refine ⟨b1, fun s hs => ?_⟩
  obtain ⟨os, hf⟩ := b2 s hs
  obtain ⟨G, hg, _⟩ := ground15 w os
  have hT := ran15 w os
  have RF : RecFacts rw1.records (s15 w os).heap := recFacts_nil rfl
  have hT1 : TopRan rw1.prog w (s00 w os) (s15 w os) := by rw [prog_is]; exact hT
  refine ⟨s00 w os, by show fenceModules? rw1.prog s = _; rw [prog_is]; exact hf, gens0 w os, s15 w os, hT1, fun n hn => ?_, RF.1, RF.2.1, ?_⟩
  · obtain rfl : n = rw1.name := by
      have : n ∈ [rw1.name] := hn
      simpa using this
    exact pinned_of_view hg G hdef hp hk
  · refine ClaimW.callFrom_of_specG (c := rw1.claim) (asleep15 w os) (gens15 w os) fun args hpre hlay ord hord => ?_
    have hgr : Ground q loose rw1.records (XL q []) w (s15 w os) _ _ (s15 w os).heap := RF.ground G
    obtain ⟨⟨vs, s₁⟩, hlaid⟩ := Option.isSome_iff_exists.mp (layAllW_isSome (P := w.params) (ord := ord) hgr.has args rw1.args (s15 w os) (pre_splitW hpre).1)
    have keeps := layAllW_keeps _ _ _ hlaid
    have hal := layAllW_rest _ _ _ hlaid
    obtain ⟨as, hrd, hin, hold⟩ := reads_layAllW hord _ _ _ hlaid hlay s₁.heap (fun _ _ e => e)
    have L : Laid rw1.records w (s15 w os) s₁ args vs as := ⟨⟨ord, hord, hlaid⟩, hrd, hin, hold, keeps, hal.1.trans (gens15 w os), hal.2.2.1⟩
    have G₁ := hgr.keeps (XL.keeps) keeps
    obtain ⟨a, o, pm, cd, doc, dV, kV, h1, h2, h3, h4, h5⟩ := G₁.fn hdef
    have hc := call w (s15 w os) s₁ _ _ G₁ (Frag.In.keeps (K_in w os) keeps) a o pm cd doc dV kV h2 h3 h4 h5 (hname ▸ h1) L.gens args vs as hpre hlay L.reads L.well (L.low hgr.low)
    have hi := ident_freeW hu ha hap
    have hwi : rw1.claim.within = [] := List.isEmpty_iff.mp k6
    have hkept : ∀ (s' : Shared), (∀ b o, s₁.heap.get? b = some o → asItWas s₁.heap s'.heap b o) → (rw1.writes = true → namesKept rw1.prog rw1.keeps (s15 w os).heap s'.heap ∧ ∀ x ∈ rw1.records, ∀ a, classAt (s15 w os).heap x.1 = some a → recordClass s'.heap a x.1 (x.2.map (·.1)) = true) :=
      fun s' _ q => by cases q
    refine ⟨vs, s₁, hlaid, ?_⟩
    have hf1 : s₁.heap.Ns mainGlobals ((s15 w os).heap.nsMap mainGlobals) := G₁.T.g
    refine wpAny_bind (wpAny_nsGet hf1 ?_)
    rw [h1]
    refine wpAny_bind (wpAny_mono hc (fun v s' g => wpAny_pure ⟨_, rfl, ?_⟩) fun e s' g => ?_)
    · have z := g.laid (c := rw1.claim) hsame hwi hi L
      exact ⟨z.1, z.2.1, z.2.2, hkept s' g.2.1.old⟩
    · have z := g.laid (c := rw1.claim) hsame hwi hi L
      exact ⟨z.1, z.2.1, z.2.2, hkept s' g.2.1.old⟩
end Mine
end
section
open PySem PySem.W PyProof.Rows
namespace Mine
/-- what every contract of a def is told of the place where it is called -/
structure Here (w : World) (A₀ : Around) (base : Heap) (outer : List Env) (h₀ : Heap) (L : Addr) (m : Str → Option Value) (news : List (Addr × Obj)) (h : Heap) : Prop where
  B : Below A₀ base outer h₀
  F : Fr h₀ L h m
  X : (K w.params).In h₀
  N : News h₀ L h news
  T : ∃ p loose mean mg mb, Top p loose mean mg mb h₀
abbrev tupO (its : List Value) (n : Nat) : Obj := { cls := .type "tuple", data := .seq its.toArray n }
section
variable {prog : Program} {w : World} {A : Around} {E : Value → Shared → Prop} {s : Shared}
theorem tup_item {h₀ : Heap} {L : Addr} {news : List (Addr × Obj)} {t : Addr} {vs : List Value} {ns : List Int} {n : Nat} {k : Int} {u : Tok} {value slice : PySem.Expr} {Q : Value → Shared → Prop} (N : News h₀ L s.heap news) (hm : (t, tupO vs n) ∈ news) (hi : IntsAre vs ns)
    (h0 : 0 ≤ k) (h1 : k < ns.length) (hz : (ns.length : Int) < 2 ^ 62) (h : ∀ tk, Q (.int (ns.getD k.toNat 0) tk) s)
    (hs : subscripted slice false (.ref t) (.int k u) = operate [.ref t, .int k u] (getItem (.ref t) (.int k u)) := by with_unfolding_all rfl) :
    wpAny (model prog w) A (subscriptTail value slice (.ref t) (.int k u)) Q E s := by
  have hl : k.toNat < ns.length := by omega
  obtain ⟨tk, hx⟩ := hi.get k.toNat (ns[k.toNat]) (by simp [hl])
  have e : ns.getD k.toNat 0 = ns[k.toNat] := by simp [List.getD, hl]
  have hlen : vs.length = ns.length := hi.length
  refine item_tupleT (News.isTup N hm) (by omega) (by omega) (j := k.toNat) (by rw [hlen]; exact seqIndex_of h0 h1) hx (hs := hs) ?_
  have := h tk
  rwa [e] at this
theorem mul_ok {a b : Int} (h1 : -(2 ^ 64) < b) (h2 : b < 2 ^ 64) : IntMulOk a b := IntMulOk.of_right (intBits_le_64 h1 h2)
theorem mul_okL {a b : Int} (h1 : -(2 ^ 64) < a) (h2 : a < 2 ^ 64) : IntMulOk a b := IntMulOk.of_left (intBits_le_64 h1 h2)
end
theorem getD_bd {α : Type} {P : α → Prop} {l : List α} {d : α} (h : ∀ c ∈ l, P c) (h0 : P d) (i : Nat) : P (l.getD i d) := by
  by_cases hi : i < l.length
  · rw [show l.getD i d = l[i] from by simp [List.getD, hi]]; exact h _ (List.getElem_mem hi)
  · rw [show l.getD i d = d from by simp [List.getD, Nat.not_lt.mp hi]]; exact h0
/-- a mark on a goal at which the walk is to stop -/
def Halt (P : Prop) : Prop := P
theorem Halt.out {P : Prop} (h : Halt P) : P := h
end Mine
end
section
open PySem PySem.W PyProof.Rows
namespace Mine
theorem calmW2 : True := by
  w_top off
  exact trivial
local macro_rules | `(tactic| walk_at "call builtin:len") => `(tactic| (k_here; (with_reducible show wpAny _ _ (call (Value.builtin "len") [Value.ref _]) _ _ _); (refine len_tuple (News.isTup (by k_asm) (by k_mem)) (by (simp only [List.size_toArray]; omega)) ?_)))
set_option maxRecDepth 100000 in
set_option maxHeartbeats 8000000 in
theorem c_longest {w : World} {p : Program} {loose : List Str} {mean : ExcName → Option Value} {mg mb : Str → Option Value} (dp un : Nat) (gd : Option (List Code)) (cn : Str) (cs : Scope) (a : Addr) (ccd : Value) (cl : List (Str × Addr)) (outer : List Env)
    (A₀ : Around) (base h₀ : Heap) (L : Addr) (m : Str → Option Value) (s : Shared) (Q E : Value → Shared → Prop)
    (x dx nm ct : Addr) (e1 e2 e3 e5 : DictEntry) (hn : Int) (tn : Tok) (cnt : List Value) (b : Int) (tb : Tok) (n1 n2 : Nat) (rest : List (Addr × Obj))
    (B : Below A₀ base outer h₀) (F : Fr h₀ L s.heap m) (X : (K w.params).In h₀)
    (N : News h₀ L s.heap ((x, instObj 83 dx) :: (dx, dictOf [e1, e2, e3, ⟨hn, .str "norm" tn, .ref nm⟩, e5] 5) :: (nm, tupO [.ref ct, .int b tb] n1) :: (ct, tupO cnt n2) :: rest))
    (k1 : ∃ h t v, e1 = ⟨h, .str "raw" t, v⟩) (k2 : ∃ h t v, e2 = ⟨h, .str "n" t, v⟩) (k3 : ∃ h t v, e3 = ⟨h, .str "nt" t, v⟩)
    (T : Top p loose mean mg mb h₀) (hk : cs.kind = .function)
    (hfit : cnt.length < 2 ^ 20) (hb : -(2 ^ 40) < b ∧ b < 2 ^ 40) (hd : dp + 1 < recursionLimit) (hu : un + 8 < cLine)
    (hret : ∀ (t : Tok) (h' : Heap) (tk' : Nat), Fr h₀ L h' m → News h₀ L h' ((x, instObj 83 dx) :: (dx, dictOf [e1, e2, e3, ⟨hn, .str "norm" tn, .ref nm⟩, e5] 5) :: (nm, tupO [.ref ct, .int b tb] n1) :: (ct, tupO cnt n2) :: rest) →
      Q (.int (max ((cnt.length : Int) - 1) b) t) { s with heap := h', toks := tk' }) :
    wpAny (model rw1.prog w) (ktrTop dp un gd cn cs L a ccd cl outer) (call (.ref 45) [.ref x]) Q E s := by
  obtain ⟨_, _, _, rfl⟩ := k1
  obtain ⟨_, _, _, rfl⟩ := k2
  obtain ⟨_, _, _, rfl⟩ := k3
  revert X
  k_fill
  intro X
  refine wpAny_call ?_
  k_dflt cell_enter
  k_steps
  all_goals cb_end hret
end Mine
end
section
open PySem PySem.W PyProof.Rows
namespace Mine
theorem calmW3 : True := by
  w_top off
  exact trivial
local macro_rules | `(tactic| walk_at "call builtin:len") => `(tactic| (k_here; (with_reducible show wpAny _ _ (call (Value.builtin "len") [Value.ref _]) _ _ _); (refine len_tuple (News.isTup (by k_asm) (by k_mem)) (by (simp only [List.size_toArray]; omega)) ?_)))
local macro_rules | `(tactic| walk_at "pyIter ref") => `(tactic| (refine Halt.out ?_))
local macro_rules | `(tactic| walk_at "subscriptTail") => `(tactic| (k_here; (refine tup_item (by k_asm) (by k_mem) (by assumption) ?_ ?_ ?_ (fun tk9 => ?_) <;> first | (show wpAny _ _ _ _ _ _; done) | omega | skip)))
/-- what indent_level answers -/
def indentP (b ts : Int) (cs' : List Int) (nt : Int) : Int :=
  b + ts * (((rangeKs ts ((cs'.length : Int) - ts).toNat).map fun i => i.fdiv ts * cs'.getD i.toNat 0).sum + nt)
set_option maxRecDepth 100000 in
set_option maxHeartbeats 8000000 in
theorem c_indent {w : World} {p : Program} {loose : List Str} {mean : ExcName → Option Value} {mg mb : Str → Option Value} (dp un : Nat) (gd : Option (List Code)) (cn : Str) (cs : Scope) (a : Addr) (ccd : Value) (cl : List (Str × Addr)) (outer : List Env)
    (A₀ : Around) (base h₀ : Heap) (L : Addr) (m : Str → Option Value) (s : Shared) (Q E : Value → Shared → Prop)
    (x dx nm ct : Addr) (e1 e2 e5 : DictEntry) (ht hn : Int) (tt tn : Tok) (nt : Int) (tnt : Tok) (cnt : List Value) (cs' : List Int) (b : Int) (tb : Tok) (n1 n2 : Nat) (rest : List (Addr × Obj)) (ts : Int) (tts : Tok)
    (B : Below A₀ base outer h₀) (F : Fr h₀ L s.heap m) (X : (K w.params).In h₀)
    (N : News h₀ L s.heap ((x, instObj 83 dx) :: (dx, dictOf [e1, e2, ⟨ht, .str "nt" tt, .int nt tnt⟩, ⟨hn, .str "norm" tn, .ref nm⟩, e5] 5) :: (nm, tupO [.ref ct, .int b tb] n1) :: (ct, tupO cnt n2) :: rest))
    (k1 : ∃ h t v, e1 = ⟨h, .str "raw" t, v⟩) (k2 : ∃ h t v, e2 = ⟨h, .str "n" t, v⟩) (hi : IntsAre cnt cs')
    (T : Top p loose mean mg mb h₀) (hk : cs.kind = .function)
    (hts : 1 ≤ ts ∧ ts < 2 ^ 20) (hc : ∀ c ∈ cs', 0 ≤ c ∧ c < 2 ^ 20)
    (hfit : cnt.length < 2 ^ 20) (hb : 0 ≤ b ∧ b < 2 ^ 20) (hnt : 0 ≤ nt ∧ nt < 2 ^ 20) (hd : dp + 1 < recursionLimit) (hu : un + 8 < cLine)
    (hret : ∀ (t : Tok) (h' : Heap) (tk' : Nat), Fr h₀ L h' m → News h₀ L h' ((x, instObj 83 dx) :: (dx, dictOf [e1, e2, ⟨ht, .str "nt" tt, .int nt tnt⟩, ⟨hn, .str "norm" tn, .ref nm⟩, e5] 5) :: (nm, tupO [.ref ct, .int b tb] n1) :: (ct, tupO cnt n2) :: rest) →
      Q (.int (indentP b ts cs' nt) t) { s with heap := h', toks := tk' }) :
    wpAny (model rw1.prog w) (ktrTop dp un gd cn cs L a ccd cl outer) (call (.ref 52) [.ref x, .int ts tts]) Q E s := by
  obtain ⟨_, _, _, rfl⟩ := k1
  obtain ⟨_, _, _, rfl⟩ := k2
  have hlen := hi.length
  revert X
  k_fill
  intro X
  refine wpAny_call ?_
  k_dflt cell_enter
  k_steps
  unfold Halt
  rename IntsAre cnt cs' => hi
  refine' kst_range (σ := Int × Tok) (fun _ => _) (fun c => [(Str.ofString "il", Value.int c.1 c.2)]) (fun _ => True) [Str.ofString "il"] (fun pre c => c.1 = (pre.map (fun i => Int.fdiv i ts * cs'.getD i.toNat 0)).sum) (0, _) (by rfl) (by assumption) ?hsm (rangeSize_nat _ _) (by assumption) (by assumption) trivial ?hk ?hp ?turn ?done
  case hsm => exact small_one (by omega) (by omega) (by (try simp only [List.size_toArray]); omega) (by (try simp only [List.size_toArray]); omega)
  case hk => intro p hp; rw [List.mem_singleton] at hp; subst hp; rfl
  case hp => rfl
  case turn =>
    rintro ⟨il, til⟩ pre k t u h tk' own hk' hlt hoff _ hP F2 N2
    (try dsimp only at F2 N2)
    k_steps
    have hcg := getD_bd hc (d := 0) (by omega) k.toNat
    refine PyProof.Rows.mul_int ?_ (mul_ok (by omega) (by omega))
    dsimp only
    k_steps
    refine kst_end (il + k.fdiv ts * cs'.getD k.toNat 0, tk' + 1 + 1) (by assumption) (by assumption) (fun p hp => List.mem_append_left _ hp) (fun p hp => List.mem_append_right _ hp) rfl trivial ?_ ?_ ?_
    · intro p hp; rw [List.mem_singleton] at hp; subst hp; rfl
    · intro z h1 h2 h3
      have hz := h2 _ (List.mem_singleton_self _)
      dsimp only at hz
      dsimp only
      rw [if_neg hz, if_neg h1]
      dsimp only [kstB]
      rw [if_neg hz, h3]
      simp
    · show il + _ = _
      rw [List.map_append, List.sum_append]
      simp only at hP
      simp [hP]
  case done =>
    rintro ⟨il, til⟩ u h tk' _ hP F2 N2
    (try dsimp only at F2 N2)
    k_steps
    simp only at hP
    subst hP
    all_goals cb_end hret
end Mine
end
section
open PySem PySem.W PyProof.Rows PyProof.V PySem.Spec
namespace Mine
section
variable {prog : Program} {w : World} {A : Around} {E : Value → Shared → Prop} {s : Shared}
theorem pyIter_strX {x : Str} {t : Tok} {Q : Value → Shared → Prop}
    (hQ : ∀ (o : Obj) (St : Nat → Heap → Prop), (∀ A' : Around, A'.handled = none → Walks prog w A' s.heap.objs.size [s.heap.objs.size] [s.heap.objs.size] x.cps.size (SignAt x) St) → (∀ i h, St i h → ∃ o, h.get? s.heap.objs.size = some o) → St 0 (s.heap.push o) →
      Q (.ref s.heap.objs.size) { s with heap := s.heap.push o }) : wpAny (model prog w) A (pyIter (.str x t)) Q E s := by
  cases ha : x.cps.all (· < 128)
  · exact wpAny_pyIter_wide ha (hQ _ _ (fun A' hA => Walks.strWide hA _ x t) (fun _ _ ⟨o, ho, _⟩ => ⟨o, ho⟩) ⟨_, Heap.get?_push_size _ rfl, rfl, rfl⟩)
  · exact wpAny_pyIter_ascii ha (hQ _ _ (fun A' hA => Walks.strAscii hA _ x t) (fun _ _ ⟨o, ho, _⟩ => ⟨o, ho⟩) ⟨_, Heap.get?_push_size _ rfl, rfl, rfl⟩)
variable {env : Env} {h₀ : Heap} {x : Str} {body : List Stmt} {Q : Flow → Shared → Prop}
/-- the state of a loop over a text whose ledger may change its addresses -/
def StT {σ : Type} (Led : σ → List (Addr × Obj)) (ps : σ → List (Str × Value)) (Facts : σ → Prop) (x : Str) (stored : List Str) (m₀ : Str → Option Value) (P : List Nat → σ → Prop) (pre : List Nat) (m : Str → Option Value) (nx : List (Addr × Obj)) : Prop :=
  ∃ c : σ, nx = Led c ∧ Facts c ∧ (∀ p ∈ ps c, m p.1 = some p.2) ∧ (∀ z, z ≠ x → (∀ p ∈ ps c, z ≠ p.1) → stored.contains z = false → m z = m₀ z) ∧ P pre c
theorem st_textG {σ : Type} {xt : Str} {tx : Tok} {m₀ : Str → Option Value} {news : List (Addr × Obj)} (Led : σ → List (Addr × Obj)) (ps : σ → List (Str × Value)) (Facts : σ → Prop) (stored : List Str) (P : List Nat → σ → Prop) (c₀ : σ)
    (hh : A.handled = none) (F : Fr h₀ env.locals s.heap m₀) (N : News h₀ env.locals s.heap news) (hn : ∀ p ∈ Led c₀, p ∈ news) (hf : Facts c₀) (hk : ∀ p ∈ ps c₀, m₀ p.1 = some p.2) (hp : P [] c₀)
    (turn : ∀ (c : σ) (pre post : List Nat) (n : Nat) t (u : Str → Option Value) h tk own, xt.cps.toList = pre ++ n :: post → OwnOff own ((Led c).map (·.1)) → Facts c → P pre c →
      Fr h₀ env.locals h (fun y => if y = x then some (.str ⟨#[n]⟩ t) else kstB (fun z => if stored.contains z then u z else m₀ z) (ps c) y) → News h₀ env.locals h (Led c ++ own) →
      wpAny (model prog w) A (execs body env) (InvPostG h₀ env.locals (StT Led ps Facts x stored m₀ P (pre ++ [n])) own { s with heap := h, toks := tk } Q) E { s with heap := h, toks := tk })
    (done : ∀ (c : σ) (u : Str → Option Value) h tk, Facts c → P xt.cps.toList c → Fr h₀ env.locals h (fun y => if y = x then u y else kstB (fun z => if stored.contains z then u z else m₀ z) (ps c) y) → News h₀ env.locals h (Led c) → Q .next { s with heap := h, toks := tk }) :
    wpAny (model prog w) A (pyIter (.str xt tx)) (fun it s₂ => LoopAtV prog w A h₀ env x body Q E it s₂) E s := by
  refine pyIter_strX fun o St hW hob hst => ?_
  have W := hW A hh
  have N₀ : News h₀ env.locals s.heap (Led c₀) := fun p hp => N p (hn p hp)
  refine kdr_loop (fun i m nx => StT Led ps Facts x stored m₀ P (xt.cps.toList.take i) m nx) W (fun _ h => h) (fun _ h => h) ?_ ?_ ?_ ?_ hst (F.push _) (fun p hp => ⟨Heap.get?_push_of_some _ (N₀ p hp).1, (N₀ p hp).2⟩) ⟨c₀, rfl, hf, hk, fun _ _ _ _ => rfl, by simpa using hp⟩ ?_ ?_
  · intro i h hi b hb
    rw [List.mem_singleton.mp hb]
    exact hob _ _ hi
  · intro hm
    exact absurd F.ns.lt ((List.mem_singleton.mp hm) ▸ Nat.lt_irrefl _)
  · intro b' hb
    rw [List.mem_singleton.mp hb]
    exact next_is_new F
  · intro p hp hI
    exact absurd (Heap.lt_size (N₀ p hp).1) ((List.mem_singleton.mp hI) ▸ Nat.lt_irrefl _)
  · rintro i v m₁ nx h tk own hi ⟨n, u, hn', rfl⟩ hoff ⟨c, rfl, hf', h1, h2, hp'⟩ F₁ N₁
    have hn2 : xt.cps.toList[i]? = some n := by simpa using hn'
    have hs : xt.cps.toList.take (i + 1) = xt.cps.toList.take i ++ [n] := by simp [List.take_add_one, hn2]
    have e : xt.cps.toList = xt.cps.toList.take i ++ n :: xt.cps.toList.drop (i + 1) := by
      have ht := List.take_append_drop (i + 1) xt.cps.toList
      rw [hs, List.append_assoc] at ht
      exact ht.symm
    rw [hs]
    exact turn c _ _ n u m₁ h tk own e hoff hf' hp' (kst_fr h1 h2 F₁) N₁
  · rintro m₁ nx h tk ⟨c, rfl, hf', h1, h2, hp'⟩ F₁ N₁
    rw [List.take_of_length_le (by simp)] at hp'
    exact done c m₁ h tk hf' hp' (kst_frOut h1 h2 F₁) N₁
theorem st_endG {σ : Type} {Led : σ → List (Addr × Obj)} {ps : σ → List (Str × Value)} {Facts : σ → Prop} {stored : List Str} {m₀ : Str → Option Value} {P : List Nat → σ → Prop} {pre : List Nat} (c : σ) {L : Addr} {m' : Str → Option Value} {own news' : List (Addr × Obj)} {s₁ : Shared} {h' : Heap} {tk : Nat}
    (F : Fr h₀ L h' m') (N : News h₀ L h' news') (hn : ∀ p ∈ Led c, p ∈ news') (ho : ∀ p ∈ own, p ∈ news') (ha : OwnOff own ((Led c).map (·.1))) (hf : Facts c) (hk : ∀ p ∈ ps c, m' p.1 = some p.2) (hr : ∀ z, z ≠ x → (∀ p ∈ ps c, z ≠ p.1) → stored.contains z = false → m' z = m₀ z) (hp : P pre c) :
    InvEndG h₀ L (StT Led ps Facts x stored m₀ P pre) own s₁ { s₁ with heap := h', toks := tk } :=
  InvEndG.intro F N ⟨c, rfl, hf, hk, hr, hp⟩ ha hn ho
end
end Mine
end
section
open PySem PySem.W PyProof.Rows
namespace Mine
local macro_rules | `(tactic| walk_at "no such key") => `(tactic| skip)
theorem calmW4 : True := by
  w_top off
  exact trivial
local macro_rules | `(tactic| walk_at "call builtin:len") => `(tactic| (k_here; (with_reducible show wpAny _ _ (call (Value.builtin "len") [Value.ref _]) _ _ _); (refine len_tuple (News.isTup (by k_asm) (by k_mem)) (by (simp only [List.size_toArray]; omega)) ?_)))
local macro_rules | `(tactic| walk_at "call builtin:len") => `(tactic| (k_here; (with_reducible show wpAny _ _ (call (Value.builtin "len") [Value.ref _]) _ _ _); (refine kst_len (by k_asm) (by k_mem) (by with_reducible assumption) (by omega) ?_)))
local macro_rules | `(tactic| walk_at "pyIter str") => `(tactic| (refine Halt.out ?_))
theorem allne_lt {d d' : Addr} : ∀ {l : List (Addr × Obj)}, AllLt d l → @LE.le Nat _ d d' → ∀ p ∈ l, p.1 ≠ d'
  | [], _, _ => fun p hp => nomatch hp
  | q :: r, h, e => fun p hp => by
    rcases List.mem_cons.mp hp with rfl | hp
    · exact Nat.ne_of_lt (Nat.lt_of_lt_of_le h.1 e)
    · exact allne_lt h.2 e p hp
theorem ne_cls {g h : Heap} {L a b : Addr} {o o' : Obj} {news : List (Addr × Obj)} (N : News g L h news) (h1 : (a, o) ∈ news) (h2 : (b, o') ∈ news) (hc : o.cls ≠ o'.cls) : a ≠ b := by
  rintro rfl
  have e := (N _ h1).1.symm.trans (N _ h2).1
  exact hc (congrArg Obj.cls (Option.some.inj e))
theorem tup_ne_dict : (Value.type "tuple") ≠ Value.type "dict" := by
  intro h
  injection h with h
  exact absurd h (by decide)
local macro_rules | `(tactic| k_ne) => `(tactic| (refine neN ?_; (try dsimp only); refine' ne_cls ?na ?nb ?nc ?nd; (case na => k_asm); (case nb => k_mem); (case nc => k_mem); (case nd => exact tup_ne_dict)))
local macro_rules | `(tactic| k_ne) => `(tactic| (refine neN ?_; (try dsimp only); omega))
local macro_rules | `(tactic| k_all) => `(tactic| (refine' List.forall_mem_append.mpr ⟨?aa, ?ab⟩; (case aa => k_all); (case ab => with_reducible assumption)))
local macro_rules | `(tactic| k_all) => `(tactic| (refine' allne_lt ?aa ?ab; (case aa => with_reducible assumption); (case ab => (try dsimp only); omega)))
structure WSt where
  lst : Addr
  vals : List Value
  cap : Nat
  ns : List Int
  b : Int
  n : Int
  nt : Int
  tb : Tok
  tn : Tok
  tt : Tok
structure PS where
  ns : List Int
  b : Int
  n : Int
  nt : Int
abbrev addAt (l : List Int) (k : Nat) : List Int := l.set k (l.getD k 0 + 1)
abbrev longer (l : List Int) (b : Int) : List Int := l ++ (List.replicate (b - l.length + 1).toNat [(0 : Int)]).flatten
def psStep (p : PS) (c : Nat) : PS :=
  if c = 32 then ⟨p.ns, p.b + 1, p.n + 1, p.nt⟩
  else ⟨addAt (if (p.ns.length : Int) ≤ p.b then longer p.ns p.b else p.ns) p.b.toNat, 0, p.n + 1, p.nt + 1⟩
theorem addAt_len {l : List Int} {k : Nat} : (addAt l k).length = l.length := List.length_set
theorem addAt_bd {l : List Int} {k : Nat} {N : Int} (h0 : 0 ≤ N) (h : ∀ c ∈ l, 0 ≤ c ∧ c ≤ N) : ∀ c ∈ addAt l k, 0 ≤ c ∧ c ≤ N + 1 := by
  intro c hc
  have hg := getD_bd h (d := 0) (by omega) k
  rcases List.mem_or_eq_of_mem_set hc with hc | rfl
  · have := h c hc
    omega
  · omega
theorem longer_bd {l : List Int} {b : Int} {N : Int} (h0 : 0 ≤ N) (h : ∀ c ∈ l, 0 ≤ c ∧ c ≤ N) : ∀ c ∈ longer l b, 0 ≤ c ∧ c ≤ N := by
  intro c hc
  rcases List.mem_append.mp hc with hc | hc
  · exact h c hc
  · simp at hc
    omega
theorem longer_len {l : List Int} {b : Int} (h : (l.length : Int) ≤ b) : ((longer l b).length : Int) = b + 1 := by
  simp
  omega
def psOf (l : List Nat) : PS := l.foldl psStep ⟨[], 0, 0, 0⟩
theorem sgn_eq {c : Nat} {x : String} {k : Nat} (h : (({ cps := #[c] } : Str) == Str.ofString x) = true) (e : (Str.ofString x).cps = #[k] := by decide) : c = k := by
  have h1 : ({ cps := #[c] } : Str) = Str.ofString x := eq_of_beq h
  have h2 := congrArg Str.cps h1
  rw [e] at h2
  simpa using h2
theorem pre_eq {P : Nat → Prop} {y : Nat} (hy : ¬ P y) : ∀ {a c : List Nat} {x : Nat} {b d : List Nat}, a ++ x :: b = c ++ y :: d → (∀ z ∈ a, P z) → ¬ P x → (∀ z ∈ c, P z) → a = c
  | [], [], _, _, _, _, _, _, _ => rfl
  | [], q :: c, x, _, _, e, _, hx, hc => by
    injection e with e1 e2
    exact absurd (hc q List.mem_cons_self) (e1 ▸ hx)
  | q :: a, [], x, _, _, e, ha, _, _ => by
    injection e with e1 e2
    exact absurd (ha q List.mem_cons_self) (e1 ▸ hy)
  | q :: a, r :: c, x, _, _, e, ha, hx, hc => by
    injection e with e1 e2
    rw [e1, pre_eq hy e2 (fun z hz => ha z (List.mem_cons_of_mem _ hz)) hx (fun z hz => hc z (List.mem_cons_of_mem _ hz))]
/-- a Whitespace object that stands in the ledger -/
inductive Ws (news : List (Addr × Obj)) (x : Addr) (p : PS) : Prop where
  | mk (dx nm ct : Addr) (h1 : Int) (t1 : Tok) (v1 : Value) (h2 : Int) (t2 u2 : Tok) (h3 : Int) (t3 u3 : Tok) (h4 : Int) (t4 : Tok) (h5 : Int) (t5 : Tok) (cnt : List Value) (tb : Tok) (n1 n2 : Nat)
    (f0 : (x, instObj 83 dx) ∈ news)
    (f1 : (dx, dictOf [⟨h1, .str (Str.ofString "raw") t1, v1⟩, ⟨h2, .str (Str.ofString "n") t2, .int p.n u2⟩, ⟨h3, .str (Str.ofString "nt") t3, .int p.nt u3⟩, ⟨h4, .str (Str.ofString "norm") t4, .ref nm⟩, ⟨h5, .str (Str.ofString "is_simple") t5, .bool (decide ((p.ns.length : Int) ≤ 1))⟩] 5) ∈ news)
    (f2 : (nm, tupO [.ref ct, .int p.b tb] n1) ∈ news) (f3 : (ct, tupO cnt n2) ∈ news) (f4 : IntsAre cnt p.ns) : Ws news x p
theorem ws_end {h₀ h' : Heap} {L : Addr} {m : Str → Option Value} {s : Shared} {Q : Value → Shared → Prop} {p : PS} {rest own : List (Addr × Obj)} {tk' : Nat} {nm ct x dx : Addr} {l : Addr × Obj} {cnt : List Value} {n1 n2 : Nat} {tb : Tok} {h1 h2 h3 h4 h5 : Int} {t1 t2 t3 t4 t5 u2 u3 : Tok} {v1 : Value}
    (hret : ∀ (x : Addr) (h' : Heap) (tk' : Nat) (tl : List (Addr × Obj)), Fr h₀ L h' m → News h₀ L h' (tl ++ rest) → Ws tl x p → Q (.ref x) { s with heap := h', toks := tk' })
    (F : Fr h₀ L h' m) (N : News h₀ L h' ((nm, tupO [.ref ct, .int p.b tb] n1) :: (ct, tupO cnt n2) :: l :: (x, instObj 83 dx) :: (dx, dictOf [⟨h1, .str (Str.ofString "raw") t1, v1⟩, ⟨h2, .str (Str.ofString "n") t2, .int p.n u2⟩, ⟨h3, .str (Str.ofString "nt") t3, .int p.nt u3⟩, ⟨h4, .str (Str.ofString "norm") t4, .ref nm⟩, ⟨h5, .str (Str.ofString "is_simple") t5, .bool (decide ((p.ns.length : Int) ≤ 1))⟩] 5) :: (rest ++ own)))
    (hi : IntsAre cnt p.ns) : Q (.ref x) { s with heap := h', toks := tk' } := by
  refine hret x h' tk' [(nm, tupO [.ref ct, .int p.b tb] n1), (ct, tupO cnt n2), (x, instObj 83 dx), (dx, dictOf [⟨h1, .str (Str.ofString "raw") t1, v1⟩, ⟨h2, .str (Str.ofString "n") t2, .int p.n u2⟩, ⟨h3, .str (Str.ofString "nt") t3, .int p.nt u3⟩, ⟨h4, .str (Str.ofString "norm") t4, .ref nm⟩, ⟨h5, .str (Str.ofString "is_simple") t5, .bool (decide ((p.ns.length : Int) ≤ 1))⟩] 5)] F (kst_newsOf N ?_) ⟨dx, nm, ct, h1, t1, v1, h2, t2, u2, h3, t3, u3, h4, t4, h5, t5, cnt, tb, n1, n2, ?_, ?_, ?_, ?_, hi⟩
  · intro p hp
    simp only [List.cons_append, List.nil_append, List.mem_cons, List.mem_append] at hp ⊢
    rcases hp with h | h | h | h | h
    · exact .inl h
    · exact .inr (.inl h)
    · exact .inr (.inr (.inr (.inl h)))
    · exact .inr (.inr (.inr (.inr (.inl h))))
    · exact .inr (.inr (.inr (.inr (.inr (.inl h)))))
  · exact .tail _ (.tail _ (.head _))
  · exact .tail _ (.tail _ (.tail _ (.head _)))
  · exact .head _
  · exact .tail _ (.head _)
abbrev ledW (x' d' : Addr) (dx : Obj) (rest : List (Addr × Obj)) (c : WSt) : List (Addr × Obj) := (c.lst, listOf c.vals.toArray c.cap) :: (x', instObj 83 d') :: (d', dx) :: rest
theorem ledW_of {g h : Heap} {L l x' d' : Addr} {D : Addr × Obj} {dx : Obj} {rest : List (Addr × Obj)} {k : Nat} {b n nt : Int} {tb tn tt : Tok} (N : News g L h ((l, listOf #[] k) :: D :: (x', instObj 83 d') :: (d', dx) :: rest)) :
    News g L h (ledW x' d' dx rest ⟨l, [], k, [], b, n, nt, tb, tn, tt⟩) := fun p hp => N p (by
  rcases List.mem_cons.mp hp with rfl | hp
  · exact List.mem_cons_self
  · exact List.mem_cons_of_mem _ (List.mem_cons_of_mem _ hp))
set_option maxRecDepth 100000 in
set_option maxHeartbeats 8000000 in
theorem c_init {w : World} {p : Program} {loose : List Str} {mean : ExcName → Option Value} {mg mb : Str → Option Value} (dp un : Nat) (gd : Option (List Code)) (cn : Str) (cs : Scope) (a : Addr) (ccd : Value) (cl : List (Str × Addr)) (outer : List Env)
    (A₀ : Around) (base h₀ : Heap) (L : Addr) (m : Str → Option Value) (s : Shared) (Q E : Value → Shared → Prop)
    (rest : List (Addr × Obj)) (ws : Str) (tw : Tok)
    (B : Below A₀ base outer h₀) (F : Fr h₀ L s.heap m) (X : (K w.params).In h₀)
    (N : News h₀ L s.heap rest)
    (T : Top p loose mean mg mb h₀) (hk : cs.kind = .function)
    (pre0 post0 : List Nat) (htx : ws.cps.toList = pre0 ++ 120 :: post0) (hpre0 : ∀ c ∈ pre0, c = 32 ∨ c = 9) (hfit : ws.length < 2 ^ 20) (hd : dp + 1 < recursionLimit) (hu : un + 8 < cLine)
    (hret : ∀ (x : Addr) (h' : Heap) (tk' : Nat) (tl : List (Addr × Obj)), Fr h₀ L h' m → News h₀ L h' (tl ++ rest) → Ws tl x (psOf pre0) →
      Q (.ref x) { s with heap := h', toks := tk' }) :
    wpAny (model rw1.prog w) (ktrTop dp un gd cn cs L a ccd cl outer) (call (.ref 83) [.str ws tw]) Q E s := by
  revert X
  k_fill
  intro X
  refine' call_cls ?k1 ?k2 ?k3 ?k4 ?k5 ?k6 ?_
  case k1 => k_asm
  case k2 => k_asm
  case k3 => k_asm
  case k4 => k_dflt k_is
  case k5 => k_dflt k_is
  case k6 => k_dflt k_is
  intro x' d' h' F' N' l1 l2
  replace l1 := allLt_of l1
  replace l2 := ltN l2
  k_dflt cell_enter
  k_steps
  unfold Halt
  refine' st_textG (σ := WSt) (ledW x' d' _ rest) (fun c => [(Str.ofString "count", .ref c.lst), (Str.ofString "b", .int c.b c.tb), (Str.ofString "n", .int c.n c.tn), (Str.ofString "nt", .int c.nt c.tt)]) (fun c => IntsAre c.vals c.ns ∧ @LT.lt Nat _ x' c.lst ∧ 0 ≤ c.b) [Str.ofString "count", Str.ofString "b", Str.ofString "n", Str.ofString "nt"] (fun pre c => psOf pre = ⟨c.ns, c.b, c.n, c.nt⟩ ∧ (∀ ch ∈ pre, ch = 32 ∨ ch = 9) ∧ c.b ≤ pre.length ∧ c.n = pre.length ∧ c.nt ≤ pre.length ∧ c.ns.length ≤ pre.length + 1 ∧ ∀ k ∈ c.ns, 0 ≤ k ∧ k ≤ pre.length) ⟨_, [], _, [], 0, 0, 0, _, _, _⟩ (by rfl) (by assumption) (ledW_of (by assumption)) (fun _ h => h) ?hf ?hk ?hp ?turn ?done
  case hk =>
    intro p hp
    simp only [List.mem_cons, List.not_mem_nil, or_false] at hp
    rcases hp with rfl | rfl | rfl | rfl <;> rfl
  case hf => refine ⟨.nil, ?_, ?_⟩ <;> (dsimp only; omega)
  case hp => exact ⟨rfl, List.forall_mem_nil _, Int.le_refl _, rfl, Int.le_refl _, Nat.zero_le _, List.forall_mem_nil _⟩
  case turn => 
    rintro ⟨lst, vals, cap, ns, b, n, nt, tb, tn, tt⟩ pre post ch t u h tk own hxs hoff ⟨hi, hlt, hb⟩ ⟨hP, hws, hb', hn', hnt', hlen', hks⟩ F2 N2
    (try dsimp only [ledW] at F2 N2 hoff); (try dsimp only at F2 N2 hi hlt hb hb' hn' hnt' hlen' hks hoff hP)
    simp only [List.cons_append] at N2
    have o1 : ∀ p ∈ own, p.1 ≠ lst := hoff.ne List.mem_cons_self
    have o2 : ∀ p ∈ own, p.1 ≠ d' := hoff.ne (List.mem_cons_of_mem _ (List.mem_cons_of_mem _ List.mem_cons_self))
    have hvl : vals.length = ns.length := hi.length
    have hxl : pre.length + 1 + post.length = ws.length := by
      have := congrArg List.length hxs
      simp only [List.length_append, List.length_cons, Array.length_toList] at this
      have e : ws.length = ws.cps.size := rfl
      omega
    k_steps
    case _ =>
      rename (({ cps := #[ch] } : Str) == Str.ofString " ") = true => hc
      have hc := sgn_eq (k := 32) hc
      subst hc
      refine' st_endG ⟨lst, vals, cap, ns, b + 1, n + 1, nt, _, _, tt⟩ (by assumption) (by assumption) ?hn ?ho ?ha ?hf ?hk ?hr ?hp
      case hk =>
        intro p hp
        simp only [List.mem_cons, List.not_mem_nil, or_false] at hp
        rcases hp with rfl | rfl | rfl | rfl <;> rfl
      case hn => exact fun p hp => (List.mem_append_left _ hp : p ∈ _ ++ own)
      case ho => exact fun p hp => (List.mem_append_right (_ :: _ :: _ :: rest) hp)
      case ha => exact hoff
      case hf => exact ⟨hi, hlt, by dsimp only; omega⟩
      case hr =>
        intro z h1 h2 h3
        have z1 := h2 _ List.mem_cons_self
        have z2 := h2 _ (List.mem_cons_of_mem _ List.mem_cons_self)
        have z3 := h2 _ (List.mem_cons_of_mem _ (List.mem_cons_of_mem _ List.mem_cons_self))
        have z4 := h2 _ (List.mem_cons_of_mem _ (List.mem_cons_of_mem _ (List.mem_cons_of_mem _ List.mem_cons_self)))
        dsimp only at z1 z2 z3 z4
        dsimp only [kstB]
        simp only [if_neg z1, if_neg z2, if_neg z3, if_neg z4, if_neg h1, h3]
        rfl
      case hp =>
        refine ⟨?_, ?_, ?_, ?_, ?_, ?_, ?_⟩
        · rw [psOf, List.foldl_append, ← psOf, hP]; rfl
        · intro c hc
          rcases List.mem_append.mp hc with hc | hc
          · exact hws c hc
          · rw [List.mem_singleton.mp hc]; exact .inl rfl
        all_goals (simp only [List.length_append, List.length_singleton]; try omega)
        intro k hk
        have := hks k hk
        omega
    case _ =>
      rename (({ cps := #[ch] } : Str) == Str.ofString "\t") = true => hc
      have hc := sgn_eq (k := 9) hc
      subst hc
      rename (_ : Int) ≤ b => hlb
      rename IntsAre _ (List.set _ _ _) => hI
      rename _ ∧ _ ∧ _ ∧ _ ∧ _ ∧ AllLt _ (rest ++ own) => l9
      refine' st_endG ⟨_, _, 0, addAt (longer ns b) b.toNat, 0, n + 1, nt + 1, _, _, _⟩ (by assumption) (by assumption) ?hn ?ho ?ha ⟨hI, ?hf1, ?hf2⟩ ?hk ?hr ?hp
      case hk =>
        intro p hp
        simp only [List.mem_cons, List.not_mem_nil, or_false] at hp
        rcases hp with rfl | rfl | rfl | rfl <;> rfl
      case hf1 => dsimp only; omega
      case hf2 => dsimp only; omega
      case hn =>
        intro p hp
        simp only [ledW, List.mem_cons, List.mem_append] at hp ⊢
        rcases hp with h | h | h | h <;> (repeat (first | exact h | exact .inl h | refine .inr ?_))
      case ho =>
        intro p hp
        simp only [List.mem_cons, List.mem_append]
        repeat (first | exact hp | refine .inr ?_)
      case ha =>
        intro p hp q hq
        rcases List.mem_cons.mp hq with rfl | hq
        · exact Nat.ne_of_lt (kst_ltOf l9.2.2.2.2.2 p (List.mem_append_right _ hp))
        · exact hoff p hp q (List.mem_cons_of_mem _ hq)
      case hr =>
        intro z h1 h2 h3
        have z1 := h2 _ List.mem_cons_self
        have z2 := h2 _ (List.mem_cons_of_mem _ List.mem_cons_self)
        have z3 := h2 _ (List.mem_cons_of_mem _ (List.mem_cons_of_mem _ List.mem_cons_self))
        have z4 := h2 _ (List.mem_cons_of_mem _ (List.mem_cons_of_mem _ (List.mem_cons_of_mem _ List.mem_cons_self)))
        dsimp only at z1 z2 z3 z4
        dsimp only [kstB]
        simp only [if_neg z1, if_neg z2, if_neg z3, if_neg z4, if_neg h1, h3]
        rfl
      case hp =>
        have h7 := longer_len hlb
        refine ⟨?_, ?_, ?_, ?_, ?_, ?_, ?_⟩
        · rw [psOf, List.foldl_append, ← psOf, hP]
          simp only [List.foldl_cons, List.foldl_nil, psStep]
          rw [if_neg (by decide), if_pos hlb]
        · intro c hc
          rcases List.mem_append.mp hc with hc | hc
          · exact hws c hc
          · rw [List.mem_singleton.mp hc]; exact .inr rfl
        · simp only [List.length_append, List.length_singleton]; omega
        · simp only [List.length_append, List.length_singleton]; omega
        · simp only [List.length_append, List.length_singleton]; omega
        · show (addAt (longer ns b) b.toNat).length ≤ _
          have e9 : (pre ++ [9]).length = pre.length + 1 := by simp
          rw [addAt_len]
          omega
        · simp only [List.length_append, List.length_singleton]
          exact addAt_bd (by omega) (longer_bd (by omega) hks)
    case _ =>
      rename (({ cps := #[ch] } : Str) == Str.ofString "\t") = true => hc
      have hc := sgn_eq (k := 9) hc
      subst hc
      rename ¬ (_ : Int) ≤ b => hlb
      rename IntsAre _ (List.set _ _ _) => hI
      refine' st_endG ⟨_, _, cap, addAt ns b.toNat, 0, n + 1, nt + 1, _, _, _⟩ (by assumption) (by assumption) ?hn ?ho ?ha ⟨hI, ?hf1, ?hf2⟩ ?hk ?hr ?hp
      case hk =>
        intro p hp
        simp only [List.mem_cons, List.not_mem_nil, or_false] at hp
        rcases hp with rfl | rfl | rfl | rfl <;> rfl
      case hf1 => dsimp only; omega
      case hf2 => dsimp only; omega
      case hn =>
        intro p hp
        simp only [ledW, List.mem_cons, List.mem_append] at hp ⊢
        rcases hp with h | h | h | h <;> (repeat (first | exact h | exact .inl h | refine .inr ?_))
      case ho =>
        intro p hp
        simp only [List.mem_cons, List.mem_append]
        repeat (first | exact hp | refine .inr ?_)
      case ha => exact hoff
      case hr =>
        intro z h1 h2 h3
        have z1 := h2 _ List.mem_cons_self
        have z2 := h2 _ (List.mem_cons_of_mem _ List.mem_cons_self)
        have z3 := h2 _ (List.mem_cons_of_mem _ (List.mem_cons_of_mem _ List.mem_cons_self))
        have z4 := h2 _ (List.mem_cons_of_mem _ (List.mem_cons_of_mem _ (List.mem_cons_of_mem _ List.mem_cons_self)))
        dsimp only at z1 z2 z3 z4
        dsimp only [kstB]
        simp only [if_neg z1, if_neg z2, if_neg z3, if_neg z4, if_neg h1, h3]
        rfl
      case hp =>
        refine ⟨?_, ?_, ?_, ?_, ?_, ?_, ?_⟩
        · rw [psOf, List.foldl_append, ← psOf, hP]
          simp only [List.foldl_cons, List.foldl_nil, psStep]
          rw [if_neg (by decide), if_neg hlb]
        · intro c hc
          rcases List.mem_append.mp hc with hc | hc
          · exact hws c hc
          · rw [List.mem_singleton.mp hc]; exact .inr rfl
        · simp only [List.length_append, List.length_singleton]; omega
        · simp only [List.length_append, List.length_singleton]; omega
        · simp only [List.length_append, List.length_singleton]; omega
        · show (addAt ns b.toNat).length ≤ _
          have e9 : (pre ++ [9]).length = pre.length + 1 := by simp
          rw [addAt_len]
          omega
        · simp only [List.length_append, List.length_singleton]
          exact addAt_bd (by omega) hks
    case _ =>
      rename (({ cps := #[ch] } : Str) == Str.ofString " ") = false => hc1
      rename (({ cps := #[ch] } : Str) == Str.ofString "\t") = false => hc2
      have c1 : ch ≠ 32 := by rintro rfl; exact absurd hc1 (by decide)
      have c2 : ch ≠ 9 := by rintro rfl; exact absurd hc2 (by decide)
      have hpp : pre = pre0 := pre_eq (P := fun c => c = 32 ∨ c = 9) (y := 120) (by decide) (hxs.symm.trans htx) hws (by omega) hpre0
      subst hpp
      rename News h₀ L _ _ => N9
      rw [hP] at hret
      exact ws_end hret (by assumption) N9 hi
  case done =>
    rintro c u h tk _ ⟨_, hws, _⟩ _ _
    have := hws 120 (by rw [htx]; simp)
    omega
end Mine
end
section
open PySem PySem.W PyProof.Rows
namespace Mine
theorem news4 {g h : Heap} {L : Addr} {news : List (Addr × Obj)} {a b c d : Addr × Obj} (N : News g L h news) (ha : a ∈ news) (hb : b ∈ news) (hc : c ∈ news) (hd : d ∈ news) : News g L h (a :: b :: c :: d :: news) := fun p hp => N p (by
  simp only [List.mem_cons] at hp
  rcases hp with rfl | rfl | rfl | rfl | hp <;> assumption)
theorem of_news4 {g h : Heap} {L : Addr} {news : List (Addr × Obj)} {a b c d : Addr × Obj} (N : News g L h (a :: b :: c :: d :: news)) : News g L h news := fun p hp => N p (.tail _ (.tail _ (.tail _ (.tail _ hp))))
theorem Ws.mono {news news' : List (Addr × Obj)} {x : Addr} {p : PS} (W : Ws news x p) (h : ∀ q ∈ news, q ∈ news') : Ws news' x p := by
  obtain ⟨dx, nm, ct, h1, t1, v1, h2, t2, u2, h3, t3, u3, h4, t4, h5, t5, cnt, tb, n1, n2, m1, m2, m3, m4, hi⟩ := W
  exact ⟨dx, nm, ct, h1, t1, v1, h2, t2, u2, h3, t3, u3, h4, t4, h5, t5, cnt, tb, n1, n2, h _ m1, h _ m2, h _ m3, h _ m4, hi⟩
theorem g_longest {w : World} {p : Program} {loose : List Str} {mean : ExcName → Option Value} {mg mb : Str → Option Value} (dp un : Nat) (gd : Option (List Code)) (cn : Str) (cs : Scope) (a : Addr) (ccd : Value) (cl : List (Str × Addr)) (outer : List Env)
    (A₀ : Around) (base h₀ : Heap) (L : Addr) (m : Str → Option Value) (s : Shared) (Q E : Value → Shared → Prop)
    (x : Addr) (ps : PS) (news : List (Addr × Obj))
    (B : Below A₀ base outer h₀) (F : Fr h₀ L s.heap m) (X : (K w.params).In h₀) (N : News h₀ L s.heap news) (W : Ws news x ps)
    (T : Top p loose mean mg mb h₀) (hk : cs.kind = .function)
    (hfit : ps.ns.length < 2 ^ 20) (hb : 0 ≤ ps.b ∧ ps.b < 2 ^ 20) (hd : dp + 1 < recursionLimit) (hu : un + 8 < cLine)
    (hret : ∀ (t : Tok) (h' : Heap) (tk' : Nat), Fr h₀ L h' m → News h₀ L h' news → Q (.int (max ((ps.ns.length : Int) - 1) ps.b) t) { s with heap := h', toks := tk' }) :
    wpAny (model rw1.prog w) (ktrTop dp un gd cn cs L a ccd cl outer) (call (.ref 45) [.ref x]) Q E s := by
  obtain ⟨dx, nm, ct, h1, t1, v1, h2, t2, u2, h3, t3, u3, h4, t4, h5, t5, cnt, tb, n1, n2, m1, m2, m3, m4, hi⟩ := W
  have hl := hi.length
  exact c_longest dp un gd cn cs a ccd cl outer A₀ base h₀ L m s Q E x dx nm ct _ _ _ _ h4 t4 cnt ps.b tb n1 n2 news B F X (news4 N m1 m2 m3 m4) ⟨_, _, _, rfl⟩ ⟨_, _, _, rfl⟩ ⟨_, _, _, rfl⟩ T hk (by omega) (by omega) hd hu
    (fun t h' tk' F' N' => by rw [hl]; exact hret t h' tk' F' (of_news4 N'))
theorem g_indent {w : World} {p : Program} {loose : List Str} {mean : ExcName → Option Value} {mg mb : Str → Option Value} (dp un : Nat) (gd : Option (List Code)) (cn : Str) (cs : Scope) (a : Addr) (ccd : Value) (cl : List (Str × Addr)) (outer : List Env)
    (A₀ : Around) (base h₀ : Heap) (L : Addr) (m : Str → Option Value) (s : Shared) (Q E : Value → Shared → Prop)
    (x : Addr) (ps : PS) (news : List (Addr × Obj)) (ts : Int) (tts : Tok)
    (B : Below A₀ base outer h₀) (F : Fr h₀ L s.heap m) (X : (K w.params).In h₀) (N : News h₀ L s.heap news) (W : Ws news x ps)
    (T : Top p loose mean mg mb h₀) (hk : cs.kind = .function) (hts : 1 ≤ ts ∧ ts < 2 ^ 20) (hc : ∀ c ∈ ps.ns, 0 ≤ c ∧ c < 2 ^ 20) (hnt : 0 ≤ ps.nt ∧ ps.nt < 2 ^ 20)
    (hfit : ps.ns.length < 2 ^ 20) (hb : 0 ≤ ps.b ∧ ps.b < 2 ^ 20) (hd : dp + 1 < recursionLimit) (hu : un + 8 < cLine)
    (hret : ∀ (t : Tok) (h' : Heap) (tk' : Nat), Fr h₀ L h' m → News h₀ L h' news → Q (.int (indentP ps.b ts ps.ns ps.nt) t) { s with heap := h', toks := tk' }) :
    wpAny (model rw1.prog w) (ktrTop dp un gd cn cs L a ccd cl outer) (call (.ref 52) [.ref x, .int ts tts]) Q E s := by
  obtain ⟨dx, nm, ct, h1, t1, v1, h2, t2, u2, h3, t3, u3, h4, t4, h5, t5, cnt, tb, n1, n2, m1, m2, m3, m4, hi⟩ := W
  have hl := hi.length
  exact c_indent dp un gd cn cs a ccd cl outer A₀ base h₀ L m s Q E x dx nm ct _ _ _ h3 h4 t3 t4 ps.nt u3 cnt ps.ns ps.b tb n1 n2 news ts tts B F X (news4 N m1 m2 m3 m4) ⟨_, _, _, rfl⟩ ⟨_, _, _, rfl⟩ hi T hk hts hc (by omega) hb hnt hd hu
    (fun t h' tk' F' N' => hret t h' tk' F' (of_news4 N'))
end Mine
end
section
open PySem PySem.W PyProof.Rows
namespace Mine
local macro_rules | `(tactic| walk_at "no such key") => `(tactic| skip)
theorem calmW6 : True := by
  w_top off
  exact trivial
local macro_rules | `(tactic| walk_at "call ref") => `(tactic| (refine Halt.out ?_))
local macro_rules | `(tactic| walk_at "call ref") => `(tactic| (k_here; k_dflt (refine' g_longest _ _ _ _ _ _ _ _ _ _ _ _ _ _ _ _ _ _ _ _ ?gB ?gF ?gX ?gN ?gW ?gT rfl ?g1 ?g2 ?g3 ?g4 ?_; (case gB => k_asm); (case gF => k_asm); (case gX => assumption); (case gN => k_asm); (case gW => (refine Ws.mono (by assumption) ?_; intro q9 hq9; (repeat (first | exact hq9 | refine .tail _ ?_)))); (case gT => assumption); (case g1 => omega); (case g2 => omega); (case g3 => (simp only []; omega)); (case g4 => (simp only []; omega))); intro t9 h9 tk9 F9 N9))
local macro_rules | `(tactic| walk_at "call ref") => `(tactic| (k_here; k_dflt (refine' g_indent _ _ _ _ _ _ _ _ _ _ _ _ _ _ _ _ _ _ _ _ _ _ ?gB ?gF ?gX ?gN ?gW ?gT rfl ?g0 ?gc ?gn ?g1 ?g2 ?g3 ?g4 ?_; (case gB => k_asm); (case gF => k_asm); (case gX => assumption); (case gN => k_asm); (case gW => (refine Ws.mono (by assumption) ?_; intro q9 hq9; (repeat (first | exact hq9 | exact List.mem_append_left _ hq9 | refine .tail _ ?_)))); (case gT => assumption); (case g0 => omega); (case gc => assumption); (case gn => omega); (case g1 => omega); (case g2 => omega); (case g3 => (simp only []; omega)); (case g4 => (simp only []; omega))); intro t9 h9 tk9 F9 N9))
local macro_rules | `(tactic| walk_at "pyIter ref") => `(tactic| (refine Halt.out ?_))
/-- the longest run that two leads have -/
abbrev longP (px py : PS) : Int := if max ((py.ns.length : Int) - 1) py.b > max ((px.ns.length : Int) - 1) px.b then max ((py.ns.length : Int) - 1) py.b else max ((px.ns.length : Int) - 1) px.b
/-- what less answers of leads that are not simple -/
def lessP (px py : PS) : Bool :=
  if py.n ≤ px.n then false
  else (rangeKs 2 (longP px py + 1 + 1 - 2).toNat).all fun ts => decide (indentP px.b ts px.ns px.nt < indentP py.b ts py.ns py.nt)
theorem rangeKs_mem {a k : Int} {n i : Nat} (e : k = a + (i : Int)) (h : i < n) : k ∈ rangeKs a n := by
  subst e
  simp [rangeKs]
  exact ⟨i, h, rfl⟩
theorem rangeKs_bd {a k : Int} {n : Nat} (h : k ∈ rangeKs a n) : a ≤ k ∧ k < a + n := by
  simp [rangeKs] at h
  obtain ⟨i, h1, h2⟩ := h
  omega
/-- the bounds of a parse -/
def PS.Ok (p : PS) : Prop := p.ns.length < 2 ^ 19 ∧ (0 ≤ p.b ∧ p.b < 2 ^ 19) ∧ (0 ≤ p.nt ∧ p.nt < 2 ^ 19) ∧ (0 ≤ p.n ∧ p.n < 2 ^ 19) ∧ ∀ c ∈ p.ns, 0 ≤ c ∧ c < 2 ^ 20
set_option maxRecDepth 100000 in
set_option maxHeartbeats 8000000 in
theorem c_less {w : World} {p : Program} {loose : List Str} {mean : ExcName → Option Value} {mg mb : Str → Option Value} (dp un : Nat) (gd : Option (List Code)) (cn : Str) (cs : Scope) (a : Addr) (ccd : Value) (cl : List (Str × Addr)) (outer : List Env)
    (A₀ : Around) (base h₀ : Heap) (L : Addr) (m : Str → Option Value) (s : Shared) (Q E : Value → Shared → Prop)
    (x y : Addr) (px py : PS) (news : List (Addr × Obj))
    (B : Below A₀ base outer h₀) (F : Fr h₀ L s.heap m) (X : (K w.params).In h₀) (N : News h₀ L s.heap news) (Wx : Ws news x px) (Wy : Ws news y py)
    (T : Top p loose mean mg mb h₀) (hk : cs.kind = .function) (ox : px.Ok) (oy : py.Ok) (hsx : ¬ (px.ns.length : Int) ≤ 1) (hd : dp + 2 < recursionLimit) (hu : un + 16 < cLine)
    (hret : ∀ (h' : Heap) (tk' : Nat), Fr h₀ L h' m → News h₀ L h' news → Q (.bool (lessP px py)) { s with heap := h', toks := tk' }) :
    wpAny (model rw1.prog w) (ktrTop dp un gd cn cs L a ccd cl outer) (call (.ref 73) [.ref x, .ref y]) Q E s := by
  obtain ⟨f1, f2, f5, f7, f9⟩ := ox
  obtain ⟨f3, f4, f6, f8, f10⟩ := oy
  obtain ⟨dx, nm, ct, h1, t1, v1, h2, t2, u2, h3, t3, u3, h4, t4, h5, t5, cnt, tb, n1, n2, m1, m2, m3, m4, hi⟩ := id Wx
  obtain ⟨dx', nm', ct', h1', t1', v1', h2', t2', u2', h3', t3', u3', h4', t4', h5', t5', cnt', tb', n1', n2', m1', m2', m3', m4', hi'⟩ := id Wy
  replace N : News h₀ L s.heap (_ :: _ :: _ :: _ :: _ :: _ :: _ :: _ :: news) := news4 (news4 N m1' m2' m3' m4') (.tail _ (.tail _ (.tail _ (.tail _ m1)))) (.tail _ (.tail _ (.tail _ (.tail _ m2)))) (.tail _ (.tail _ (.tail _ (.tail _ m3)))) (.tail _ (.tail _ (.tail _ (.tail _ m4))))
  revert X
  k_fill
  intro X
  refine wpAny_call ?_
  k_dflt cell_enter
  k_steps
  case _ =>
    have e : lessP px py = false := by unfold lessP; rw [if_pos (by assumption)]
    rw [e] at hret
    exact hret _ _ (by assumption) (of_news4 (of_news4 (by assumption)))
  unfold Halt
  refine' kst_range (σ := Unit) (fun _ => _) (fun _ => []) (fun _ => True) [] (fun pre _ => ∀ i ∈ pre, indentP px.b i px.ns px.nt < indentP py.b i py.ns py.nt) () (by rfl) (by assumption) ?hsm (rangeSize_nat _ _) (by assumption) (by assumption) trivial ?hk ?hp ?turn ?done
  case hsm => exact small_one (by omega) (by omega) (by omega) (by omega)
  case hk => exact fun _ h => nomatch h
  case hp => exact fun _ h => nomatch h
  case turn =>
    rintro ⟨⟩ pre k t u h tk' own hk' hlt hoff _ hP F2 N2
    (try dsimp only at F2 N2)
    simp only [List.cons_append] at N2
    k_steps
    case _ =>
      have e : lessP px py = false := by
        unfold lessP
        rw [if_neg (by assumption), Bool.eq_false_iff]
        intro hc
        have := of_decide_eq_true (List.all_eq_true.mp hc k (rangeKs_mem hk' hlt))
        omega
      rw [e] at hret
      exact hret _ _ (by assumption) (kst_newsOf (by assumption) (fun q hq => .tail _ (.tail _ (.tail _ (.tail _ (.tail _ (.tail _ (.tail _ (.tail _ (List.mem_append_left _ hq))))))))))
    refine' kst_end () (by assumption) (by assumption) (fun p hp => (List.mem_append_left own hp : p ∈ (_ :: _ :: _ :: _ :: _ :: _ :: _ :: _ :: news) ++ own)) (fun p hp => .tail _ (.tail _ (.tail _ (.tail _ (.tail _ (.tail _ (.tail _ (.tail _ (List.mem_append_right news hp))))))))) rfl trivial ?e1 ?e2 ?e3
    case e1 => exact fun _ h => nomatch h
    case e2 =>
      intro z h1 h2 h3
      rw [if_neg h1]
      dsimp only [kstB]
      rw [h3]
      rfl
    case e3 =>
      intro i hi
      rcases List.mem_append.mp hi with hi | hi
      · exact hP i hi
      · rw [List.mem_singleton.mp hi]
        omega
  case done =>
    rintro ⟨⟩ u h tk' _ hP F2 N2
    (try dsimp only at F2 N2)
    k_steps
    have e : lessP px py = true := by
      unfold lessP
      rw [if_neg (by assumption), List.all_eq_true]
      exact fun i hi => decide_eq_true (hP i hi)
    rw [e] at hret
    exact hret _ _ (by assumption) (of_news4 (of_news4 (by assumption)))
end Mine
end
section
open PySem PySem.W PyProof.Rows PyProof.V PySem.Spec
namespace Mine
theorem calmW7 : True := by
  w_top off
  exact trivial
theorem ints_dat {news : List (Addr × Obj)} : ∀ {vs : List Value} {ns : List Int}, IntsAre vs ns → DatAll news vs (ns.map Dat.int)
  | _, _, .nil => .nil
  | _, _, .cons n t r => .cons (.int n t) (ints_dat r)
theorem map_int_inj : ∀ {a b : List Int}, a.map Dat.int = b.map Dat.int → a = b
  | [], [], _ => rfl
  | [], _ :: _, h => by simp at h
  | _ :: _, [], h => by simp at h
  | x :: a, y :: b, h => by
    simp only [List.map_cons, List.cons.injEq, Dat.int.injEq] at h
    rw [h.1, map_int_inj h.2]
section
variable {prog : Program} {w : World} {A : Around} {E : Value → Shared → Prop} {s : Shared} {h₀ : Heap} {L a b : Addr} {news : List (Addr × Obj)} {xs ys : List Value} {ka kb : Nat} {ds es : List Dat} {Q : Value → Shared → Prop}
theorem tup_eq (N : News h₀ L s.heap news) (ma : (a, tupO xs ka) ∈ news) (Da : DatAll news xs ds) (mb : (b, tupO ys kb) ∈ news) (Db : DatAll news ys es)
    (ha : ∀ d ∈ ds, kqdOk 8 d = true) (hb : ∀ d ∈ es, kqdOk 8 d = true) (hu : A.units + 64 < cLine) (r : Bool) (hr : r = true ↔ ds = es) (h : Q (.bool r) s) : wpAny (model prog w) A (compareOp .Eq (.ref a) (.ref b)) Q E s := by
  obtain ⟨as, ra⟩ := kqd_all N 8 Da ha
  obtain ⟨bs, rb⟩ := kqd_all N 8 Db hb
  have la := kqd_lay 9 (.tuple ds) (by simpa [kqdOk] using ha)
  have lb := kqd_lay 9 (.tuple es) (by simpa [kqdOk] using hb)
  have q := kqd_eqv 9 (.tuple ds) (.tuple es) 9 (by simpa [kqdOk] using ha) (by simpa [kqdOk] using hb)
  rw [Dat.tuple.injEq] at q
  rw [kqdP] at la lb q
  rw [kqdP] at q
  have e : PyData.eqv (.tuple (kqdPs ds)) (.tuple (kqdPs es)) = r := by
    rw [Bool.eq_iff_iff, q, hr]
  refine eq_dataH (reads_tuple_at (N.get ma) rfl rfl (by simpa using ra)) (reads_tuple_at (N.get mb) rfl rfl (by simpa using rb)) ?_ ?_ hu (by rw [e]; exact h)
  · unfold SeqAt.shaped; rw [la.1, Bool.true_and]; exact decide_eq_true (Nat.le_trans la.2 (by decide))
  · unfold SeqAt.shaped; rw [lb.1, Bool.true_and]; exact decide_eq_true (Nat.le_trans lb.2 (by decide))
end
theorem ok_norm (ns : List Int) (b : Int) : ∀ d ∈ [Dat.tuple (ns.map Dat.int), Dat.int b], kqdOk 8 d = true := by
  intro d hd
  simp only [List.mem_cons, List.not_mem_nil, or_false] at hd
  rcases hd with rfl | rfl
  · simp [kqdOk]
  · rfl
local macro_rules | `(tactic| walk_at "compareOp Eq ref ref") => `(tactic| (refine Halt.out ?_))
set_option maxRecDepth 100000 in
set_option maxHeartbeats 8000000 in
theorem c_equal {w : World} {p : Program} {loose : List Str} {mean : ExcName → Option Value} {mg mb : Str → Option Value} (dp un : Nat) (gd : Option (List Code)) (cn : Str) (cs : Scope) (a : Addr) (ccd : Value) (cl : List (Str × Addr)) (outer : List Env)
    (A₀ : Around) (base h₀ : Heap) (L : Addr) (m : Str → Option Value) (s : Shared) (Q E : Value → Shared → Prop)
    (x y : Addr) (px py : PS) (news : List (Addr × Obj))
    (B : Below A₀ base outer h₀) (F : Fr h₀ L s.heap m) (X : (K w.params).In h₀) (N : News h₀ L s.heap news) (Wx : Ws news x px) (Wy : Ws news y py)
    (T : Top p loose mean mg mb h₀) (hk : cs.kind = .function) (hd : dp + 2 < recursionLimit) (hu : un + 128 < cLine)
    (hret : ∀ (h' : Heap) (tk' : Nat), Fr h₀ L h' m → News h₀ L h' news → Q (.bool (decide (px.ns = py.ns ∧ px.b = py.b))) { s with heap := h', toks := tk' }) :
    wpAny (model rw1.prog w) (ktrTop dp un gd cn cs L a ccd cl outer) (call (.ref 59) [.ref x, .ref y]) Q E s := by
  obtain ⟨dx, nm, ct, h1, t1, v1, h2, t2, u2, h3, t3, u3, h4, t4, h5, t5, cnt, tb, n1, n2, m1, m2, m3, m4, hi⟩ := id Wx
  obtain ⟨dx', nm', ct', h1', t1', v1', h2', t2', u2', h3', t3', u3', h4', t4', h5', t5', cnt', tb', n1', n2', m1', m2', m3', m4', hi'⟩ := id Wy
  replace N : News h₀ L s.heap (_ :: _ :: _ :: _ :: _ :: _ :: _ :: _ :: news) := news4 (news4 N m1' m2' m3' m4') (.tail _ (.tail _ (.tail _ (.tail _ m1)))) (.tail _ (.tail _ (.tail _ (.tail _ m2)))) (.tail _ (.tail _ (.tail _ (.tail _ m3)))) (.tail _ (.tail _ (.tail _ (.tail _ m4))))
  revert X
  k_fill
  intro X
  refine wpAny_call ?_
  k_dflt cell_enter
  k_steps
  unfold Halt
  k_dflt (refine' tup_eq (ds := [.tuple (px.ns.map Dat.int), .int px.b]) (es := [.tuple (py.ns.map Dat.int), .int py.b]) ?N ?ma ?Da ?mb ?Db (ok_norm _ _) (ok_norm _ _) ?hu (decide (px.ns = py.ns ∧ px.b = py.b)) ?hr ?_)
  case N => k_asm
  case ma => k_mem
  case mb => k_mem
  case Da => refine .cons (.tuple (by k_mem) (ints_dat (by assumption))) (.cons (.int _ _) .nil)
  case Db => refine .cons (.tuple (by k_mem) (ints_dat (by assumption))) (.cons (.int _ _) .nil)
  case hu => ke_room
  case hr =>
    rw [decide_eq_true_iff]
    constructor
    · rintro ⟨h1, h2⟩; rw [h1, h2]
    · intro h
      simp only [List.cons.injEq, Dat.tuple.injEq, Dat.int.injEq, and_true] at h
      exact ⟨map_int_inj h.1, h.2⟩
  all_goals k_steps
  all_goals exact hret _ _ (by assumption) (of_news4 (of_news4 (by assumption)))
end Mine
end
section
open PySem PySem.W PyProof.Rows PyProof.V PySem.Spec
namespace Mine
theorem calmW8 : True := by
  w_top off
  exact trivial
local macro_rules | `(tactic| walk_at "call ref") => `(tactic| (refine Halt.out ?_))
local macro_rules | `(tactic| walk_at "call ref") => `(tactic| (k_here; k_dflt (refine' g_longest _ _ _ _ _ _ _ _ _ _ _ _ _ _ _ _ _ _ _ _ ?gB ?gF ?gX ?gN ?gW ?gT rfl ?g1 ?g2 ?g3 ?g4 ?_; (case gB => k_asm); (case gF => k_asm); (case gX => assumption); (case gN => k_asm); (case gW => (refine Ws.mono (by assumption) ?_; intro q9 hq9; (repeat (first | exact hq9 | refine .tail _ ?_)))); (case gT => assumption); (case g1 => omega); (case g2 => omega); (case g3 => (simp only []; omega)); (case g4 => (simp only []; omega))); intro t9 h9 tk9 F9 N9))
local macro_rules | `(tactic| walk_at "call ref") => `(tactic| (k_here; k_dflt (refine' g_indent _ _ _ _ _ _ _ _ _ _ _ _ _ _ _ _ _ _ _ _ _ _ ?gB ?gF ?gX ?gN ?gW ?gT rfl ?g0 ?gc ?gn ?g1 ?g2 ?g3 ?g4 ?_; (case gB => k_asm); (case gF => k_asm); (case gX => assumption); (case gN => k_asm); (case gW => (refine Ws.mono (by assumption) ?_; intro q9 hq9; (repeat (first | exact hq9 | exact List.mem_append_left _ hq9 | refine .tail _ ?_)))); (case gT => assumption); (case g0 => omega); (case gc => assumption); (case gn => omega); (case g1 => omega); (case g2 => omega); (case g3 => (simp only []; omega)); (case g4 => (simp only []; omega))); intro t9 h9 tk9 F9 N9))
local macro_rules | `(tactic| walk_at "pyIter ref") => `(tactic| (refine Halt.out ?_))
local macro_rules | `(tactic| k_all) => `(tactic| (with_reducible assumption))
local macro_rules | `(tactic| k_all) => `(tactic| (refine' List.forall_mem_append.mpr ⟨?aa, ?ab⟩; (case aa => with_reducible assumption); (case ab => k_all)))
local macro_rules | `(tactic| k_ne) => `(tactic| (refine neN ?_; (try dsimp only); omega))
local macro_rules | `(tactic| size_fits) => `(tactic| (simp only [List.size_toArray, PySem.sizeLine_eq]; omega))
/-- a row of three numbers -/
abbrev rowD (r : Int × Int × Int) : Dat := .tuple [.int r.1, .int r.2.1, .int r.2.2]
/-- what not_equal_witness names -/
def witP (px py : PS) (ks : List Int) : List (Int × Int × Int) := ks.filterMap fun ts => if indentP px.b ts px.ns px.nt ≠ indentP py.b ts py.ns py.nt then some (ts, indentP px.b ts px.ns px.nt, indentP py.b ts py.ns py.nt) else none
structure WtSt where
  vals : List Value
  cap : Nat
  rows : List (Int × Int × Int)
theorem hn_of {a : Addr × Obj} {cst : List (Addr × Obj)} : ∀ p ∈ [a] ++ (cst ++ []), p ∈ a :: cst := by
  intro p hp
  simpa using hp
theorem adr_of {σ : Type} {l : Addr} (f : σ → Obj) {cst : List (Addr × Obj)} (c : σ) : ([(l, f c)] ++ cst).map (·.1) = l :: cst.map (·.1) := rfl
theorem head_name {g h : Heap} {L l : Addr} {o : Obj} {news : List (Addr × Obj)} {P : Prop} (_ : News g L h ((l, o) :: news)) (k : ∀ l', l' = l → P) : P := k l rfl
theorem wt_add {g h' : Heap} {x : Str} {m₀ m' : Str → Option Value} {P : List Int → WtSt → Prop} {pre : List Int} {l L D : Addr} {o' : Obj} {cst tl own : List (Addr × Obj)} {vals : List Value} {cap nn : Nat} {rows : List (Int × Int × Int)} {r : Int × Int × Int} {t1 t2 t3 : Tok} {s₁ : Shared} {tk : Nat}
    (hsep : KdSep own tl (l :: cst.map (·.1))) (hD : DatAll (cst ++ tl) vals (rows.map rowD)) (l1 : AllLt D ((l, o') :: (cst ++ (tl ++ own)))) (F : Fr g L h' m')
    (N : News g L h' ((D, tupO [.int r.1 t1, .int r.2.1 t2, .int r.2.2 t3] nn) :: (l, listOf (vals ++ [Value.ref D]).toArray (cap + 1)) :: (cst ++ (tl ++ own))))
    (hr : ∀ z, z ≠ x → m' z = m₀ z) (hp : P pre ⟨vals ++ [.ref D], cap + 1, rows ++ [r]⟩) :
    InvEndG g L (KdS (fun c : WtSt => [(l, listOf c.vals.toArray c.cap)]) cst (fun _ => []) (fun led c => DatAll led c.vals (c.rows.map rowD)) x [] m₀ P (l :: cst.map (·.1)) pre) own s₁ { s₁ with heap := h', toks := tk } := by
  refine kd_end ⟨vals ++ [.ref D], cap + 1, rows ++ [r]⟩ [(D, tupO [.int r.1 t1, .int r.2.1 t2, .int r.2.2 t3] nn)] hsep F N ?_ ?_ rfl ?_ ?_ (fun _ h => nomatch h) (fun z h1 _ _ => hr z h1) ?_ hp
  · intro p hp
    simp only [List.cons_append, List.nil_append, List.mem_cons, List.mem_append] at hp ⊢
    rcases hp with h | h | h | h
    · exact .inr (.inl h)
    · exact .inr (.inr (.inl h))
    · exact .inl h
    · exact .inr (.inr (.inr (.inl h)))
  · intro p hp
    simp only [List.mem_cons, List.mem_append]
    exact .inr (.inr (.inr (.inr hp)))
  · intro q hq b hb
    rw [List.mem_singleton.mp hq]
    rcases List.mem_cons.mp hb with rfl | hb
    · exact Nat.ne_of_lt l1.1
    · obtain ⟨p, hp, rfl⟩ := List.mem_map.mp hb
      exact Nat.ne_of_lt (kst_ltOf l1.2 p (List.mem_append_left _ hp))
  · intro q hq p hp
    rw [List.mem_singleton.mp hq]
    exact Nat.ne_of_lt (kst_ltOf l1.2 p (List.mem_append_right _ (List.mem_append_right _ hp)))
  · rw [List.map_append]
    exact (hD.mono kd_sub).append (.one (.tuple (kd_new (List.mem_singleton_self _)) (.cons (.int _ _) (.cons (.int _ _) (.cons (.int _ _) .nil)))))
theorem wt_same {g h' : Heap} {x : Str} {m₀ m' : Str → Option Value} {P : List Int → WtSt → Prop} {pre : List Int} {l L : Addr} {cst tl own : List (Addr × Obj)} {vals : List Value} {cap : Nat} {rows : List (Int × Int × Int)} {s₁ : Shared} {tk : Nat}
    (hsep : KdSep own tl (l :: cst.map (·.1))) (hD : DatAll (cst ++ tl) vals (rows.map rowD)) (F : Fr g L h' m')
    (N : News g L h' ((l, listOf vals.toArray cap) :: (cst ++ (tl ++ own))))
    (hr : ∀ z, z ≠ x → m' z = m₀ z) (hp : P pre ⟨vals, cap, rows⟩) :
    InvEndG g L (KdS (fun c : WtSt => [(l, listOf c.vals.toArray c.cap)]) cst (fun _ => []) (fun led c => DatAll led c.vals (c.rows.map rowD)) x [] m₀ P (l :: cst.map (·.1)) pre) own s₁ { s₁ with heap := h', toks := tk } := by
  refine kd_end ⟨vals, cap, rows⟩ [] hsep F N ?_ ?_ rfl (fun _ h => nomatch h) (fun _ h => nomatch h) (fun _ h => nomatch h) (fun z h1 _ _ => hr z h1) hD hp
  · intro p hp
    simp only [List.cons_append, List.nil_append, List.mem_cons, List.mem_append] at hp ⊢
    rcases hp with h | h | h
    · exact .inl h
    · exact .inr (.inl h)
    · exact .inr (.inr (.inl h))
  · intro p hp
    simp only [List.mem_cons, List.mem_append]
    exact .inr (.inr (.inr hp))
theorem wt_fin {h₀ h' : Heap} {L l : Addr} {m : Str → Option Value} {news cst tl : List (Addr × Obj)} {vals : List Value} {cap tk : Nat} {rows : List (Int × Int × Int)} {s : Shared} {Q : Value → Shared → Prop}
    (hret : ∀ (a : Addr) (h' : Heap) (tk' : Nat) (vals : List Value) (cap : Nat) (tl : List (Addr × Obj)), Fr h₀ L h' m → News h₀ L h' (tl ++ news) → (a, listOf vals.toArray cap) ∈ tl → DatAll (tl ++ news) vals (rows.map rowD) → Q (.ref a) { s with heap := h', toks := tk' })
    (hD : DatAll (cst ++ tl) vals (rows.map rowD)) (F : Fr h₀ L h' m) (N : News h₀ L h' ((l, listOf vals.toArray cap) :: (cst ++ tl))) (hc : ∀ p ∈ news, p ∈ cst) : Q (.ref l) { s with heap := h', toks := tk } := by
  refine hret l h' tk vals cap ((l, listOf vals.toArray cap) :: (cst ++ tl)) F (kst_newsOf N ?_) List.mem_cons_self (hD.mono ?_)
  · intro p hp
    rcases List.mem_append.mp hp with hp | hp
    · exact hp
    · exact List.mem_cons_of_mem _ (List.mem_append_left _ (hc p hp))
  · intro p hp
    exact List.mem_append_left _ (List.mem_cons_of_mem _ hp)
set_option maxRecDepth 100000 in
set_option maxHeartbeats 8000000 in
theorem c_witness {w : World} {p : Program} {loose : List Str} {mean : ExcName → Option Value} {mg mb : Str → Option Value} (dp un : Nat) (gd : Option (List Code)) (cn : Str) (cs : Scope) (a : Addr) (ccd : Value) (cl : List (Str × Addr)) (outer : List Env)
    (A₀ : Around) (base h₀ : Heap) (L : Addr) (m : Str → Option Value) (s : Shared) (Q E : Value → Shared → Prop)
    (x y : Addr) (px py : PS) (news : List (Addr × Obj))
    (B : Below A₀ base outer h₀) (F : Fr h₀ L s.heap m) (X : (K w.params).In h₀) (N : News h₀ L s.heap news) (Wx : Ws news x px) (Wy : Ws news y py)
    (T : Top p loose mean mg mb h₀) (hk : cs.kind = .function) (ox : px.Ok) (oy : py.Ok) (hd : dp + 2 < recursionLimit) (hu : un + 128 < cLine)
    (hret : ∀ (a : Addr) (h' : Heap) (tk' : Nat) (vals : List Value) (cap : Nat) (tl : List (Addr × Obj)), Fr h₀ L h' m → News h₀ L h' (tl ++ news) → (a, listOf vals.toArray cap) ∈ tl → DatAll (tl ++ news) vals ((witP px py (rangeKs 1 (longP px py + 1 + 1 - 1).toNat)).map rowD) → Q (.ref a) { s with heap := h', toks := tk' }) :
    wpAny (model rw1.prog w) (ktrTop dp un gd cn cs L a ccd cl outer) (call (.ref 66) [.ref x, .ref y]) Q E s := by
  obtain ⟨f1, f2, f5, f7, f9⟩ := ox
  obtain ⟨f3, f4, f6, f8, f10⟩ := oy
  obtain ⟨dx, nm, ct, h1, t1, v1, h2, t2, u2, h3, t3, u3, h4, t4, h5, t5, cnt, tb, n1, n2, m1, m2, m3, m4, hi⟩ := id Wx
  obtain ⟨dx', nm', ct', h1', t1', v1', h2', t2', u2', h3', t3', u3', h4', t4', h5', t5', cnt', tb', n1', n2', m1', m2', m3', m4', hi'⟩ := id Wy
  replace N : News h₀ L s.heap (_ :: _ :: _ :: _ :: _ :: _ :: _ :: _ :: news) := news4 (news4 N m1' m2' m3' m4') (.tail _ (.tail _ (.tail _ (.tail _ m1)))) (.tail _ (.tail _ (.tail _ (.tail _ m2)))) (.tail _ (.tail _ (.tail _ (.tail _ m3)))) (.tail _ (.tail _ (.tail _ (.tail _ m4))))
  revert X
  k_fill
  intro X
  refine wpAny_call ?_
  k_dflt cell_enter
  k_steps
  unfold Halt
  rename News _ _ _ ((_, listOf #[] 0) :: _) => N9
  rename _ ∧ _ ∧ _ ∧ _ ∧ _ ∧ _ ∧ _ ∧ _ ∧ AllLt _ news => l9
  refine head_name N9 fun l el => ?_
  subst el
  refine' kd_range (σ := WtSt) (fun c => [(l, listOf c.vals.toArray c.cap)]) ?cst (fun _ => []) (fun led c => DatAll led c.vals (c.rows.map rowD)) [] (fun pre c => c.rows = witP px py pre ∧ c.rows.length ≤ pre.length) _ ⟨[], 0, []⟩ (by rfl) (by assumption) ?hsm (rangeSize_nat _ _) (by assumption) N9 hn_of (adr_of (fun c : WtSt => listOf c.vals.toArray c.cap)) .nil ?hk ?hp ?turn ?done
  case hsm => exact small_one (by omega) (by omega) (by omega) (by omega)
  case hk => exact fun _ h => nomatch h
  case hp => exact ⟨rfl, Nat.le_refl _⟩
  case turn =>
    rintro ⟨vals, cap, rows⟩ tl pre k t u h tk' own hk' hlt hsep hoff hD ⟨hP, hP2⟩ F2 N2
    dsimp only at hD hP hP2
    (try dsimp only at F2 N2)
    simp only [List.cons_append, List.nil_append] at N2
    have hvl : vals.length = rows.length := by have := hD.length; rwa [List.length_map] at this
    have o1 : ∀ p ∈ own, p.1 ≠ l := hsep.one.ne List.mem_cons_self
    have o2 : ∀ p ∈ tl, p.1 ≠ l := hsep.three.ne List.mem_cons_self
    have o3 : ∀ p ∈ news, p.1 ≠ l := allne_lt l9.2.2.2.2.2.2.2.2 (Nat.le_refl _)
    k_steps
    case _ =>
      rename News _ _ _ ((_, _) :: (l, _) :: _) => N3
      simp only [List.push_toArray] at N3
      rename _ ∧ _ ∧ _ ∧ _ ∧ _ ∧ _ ∧ _ ∧ _ ∧ _ ∧ AllLt _ (news ++ (tl ++ own)) => l1
      refine wt_add (r := (k, indentP px.b k px.ns px.nt, indentP py.b k py.ns py.nt)) (o' := listOf #[] 0) hsep hD l1 (by assumption) N3 ?_ ⟨?_, ?_⟩
      · intro z h1
        rw [if_neg h1]
        rfl
      · show rows ++ _ = _
        rw [hP, witP, witP, List.filterMap_append, List.filterMap_cons, if_pos (by assumption)]
        rfl
      · simp only [List.length_append, List.length_singleton]; omega
    case _ =>
      refine wt_same hsep hD (by assumption) (by assumption) ?_ ⟨?_, ?_⟩
      · intro z h1
        rw [if_neg h1]
        rfl
      · show rows = _
        rw [hP, witP, witP, List.filterMap_append, List.filterMap_cons, if_neg (not_not_intro (by assumption))]
        exact (List.append_nil _).symm
      · simp only [List.length_append, List.length_singleton]; omega
  case done =>
    rintro ⟨vals, cap, rows⟩ tl u h tk' hoff hD ⟨hP, hP2⟩ F2 N2
    dsimp only at hD hP hP2
    (try dsimp only at F2 N2)
    k_steps
    rename News h₀ _ _ _ => N3
    subst hP
    exact wt_fin hret hD (by assumption) N3 (fun q hq => .tail _ (.tail _ (.tail _ (.tail _ (.tail _ (.tail _ (.tail _ (.tail _ hq))))))))
end Mine
end
section
open PySem PySem.W PyProof.Rows PyProof.V PySem.Spec
namespace Mine
theorem calmW9 : True := by
  w_top off
  exact trivial
/-- the entries of the set -/
def b1s : List Int := [173, 847, 6150, 6155, 6156, 6157, 8203, 8204, 8205, 8288, 65279, 65024, 65025, 65026, 65027, 65028, 65029, 65030, 65031, 65032, 65033, 65034, 65035, 65036, 65037, 65038, 65039]
def inB1 (k : Int) : Bool := b1s.contains k
def setEs (o : Obj) : List (Int × Value) := match o.data with
  | .set es _ _ => es.toList
  | _ => []
def setOk (l : List (Int × Value)) : Bool := l.all fun e => match e.2 with
  | .int k _ => hashInt k == e.1 && b1s.contains k
  | _ => false
def setAll (l : List (Int × Value)) : Bool := b1s.all fun k => l.any fun e => Value.isInt k e.2
theorem set_of {prog : Program} {w : World} {o : Obj} (hx : o.ExactSet) {es : Array (Int × Value)} {ep : Nat} {t : SetTable} (hd : o.data = .set es ep t) (h1 : setOk es.toList = true) (h2 : setAll es.toList = true) (h3 : es.size = 27) (h4 : t.fits es.size = true) :
    o.SetObjOf (PySem.intKind prog w) inB1 27 := by
  refine ⟨hx, es, ep, t, hd, fun e he => ?_, fun k => ⟨fun h => ?_, fun ⟨e, he, hk⟩ => ?_⟩, h3, h4⟩
  · have := List.all_eq_true.mp h1 e he
    obtain ⟨eh, ev⟩ := e
    cases ev <;> simp at this
    rename_i k t
    exact ⟨⟨k, by simp [PySem.intKind, Value.isInt], this.1.symm⟩, rfl⟩
  · have := List.all_eq_true.mp h2 k (by simpa [inB1] using h)
    obtain ⟨e, he, hk⟩ := List.any_eq_true.mp this
    exact ⟨e, he, hk⟩
  · have := List.all_eq_true.mp h1 e he
    obtain ⟨eh, ev⟩ := e
    cases ev <;> simp at this
    rename_i k' t
    have hk' : k' = k := by simpa [PySem.intKind, Value.isInt] using hk
    subst hk'
    simpa [inB1] using this.2
theorem K_102 (P : Params) : (K P).lookup 102 = some (o7_102 P) := by kernel_rfl
theorem set_obj (P : Params) (prog : Program) (w : World) : (o7_102 P).SetObjOf (PySem.intKind prog w) inB1 27 := by
  refine set_of ⟨rfl, rfl, rfl⟩ rfl ?_ ?_ rfl ?_
  · kernel_rfl
  · kernel_rfl
  · kernel_rfl
def dictEs (o : Obj) : List DictEntry := match o.data with
  | .dict es _ => es.toList
  | _ => []
def dictOk (l : List DictEntry) : Bool := l.all fun e => match e.key with
  | .int k _ => hashInt k == e.hash
  | _ => false
theorem K_113 (P : Params) : (K P).lookup 113 = some (dispO 113) := by kernel_rfl
theorem disp_ok : dictOk (dictEs (dispO 113)) = true := by kernel_rfl
/-- what the second table says of a sign -/
noncomputable def b3F (k : Int) : Option Value := ((dictEs (dispO 113)).find? fun e => Value.isInt k e.key).map (·.val)
theorem map_of {prog : Program} {w : World} {h : Heap} (ho : h.get? 113 = some (dispO 113)) : h.MapOf (PySem.intKind prog w) 113 b3F := by
  refine ⟨dispO 113, (dictEs (dispO 113)).toArray, _, ho, ⟨by kernel_rfl, by kernel_rfl, by kernel_rfl⟩, (by kernel_rfl : (dispO 113).data = .dict (dictEs (dispO 113)).toArray (match (dispO 113).data with | .dict _ n => n | _ => 0)), fun e he => ?_, fun k => by rw [findBy, List.find?_toArray]; rfl⟩
  have := List.all_eq_true.mp disp_ok e (by simpa using he)
  obtain ⟨eh, ev, v⟩ := e
  cases ev <;> simp at this
  rename_i k t
  exact ⟨k, by simp [PySem.intKind, Value.isInt], this.symm⟩
theorem set_at {w : World} {A₀ : Around} {base g h : Heap} {L : Addr} {m : Str → Option Value} {P : Params} (X : (K P).In g) (F : Fr g L h m) (prog : Program) : h.SetOf (PySem.intKind prog w) 102 inB1 27 :=
  (set_obj P prog w).setOf (F.keep _ _ (X _ _ (K_102 P))) (by decide)
theorem dict_at {w : World} {g h : Heap} {L : Addr} {m : Str → Option Value} {P : Params} (X : (K P).In g) (F : Fr g L h m) (prog : Program) : h.MapOf (PySem.intKind prog w) 113 b3F :=
  map_of (F.keep _ _ (X _ _ (K_113 P)))
section
variable {prog : Program} {w : World} {A : Around} {E : Value → Shared → Prop} {s : Shared} {P : Params}
theorem get_meth {g : Heap} {L : Addr} {m : Str → Option Value} {pl : Sem Bool} {Q : Value × List Value → Shared → Prop} (X : (K P).In g) (F : Fr g L s.heap m) (h : Q (.builtin "dict.get", [.ref 113]) s) : wpAny (model prog w) A (getMethod (.ref 113) "get" pl) Q E s :=
  have hm := dict_at (w := w) X F prog
  getMethod_builtin hm.typeIs PySem.F.plainAttrs_dict PySem.F.slot_dict_get PySem.F.type_dict_get hm.noDict h
theorem get_call {g : Heap} {L : Addr} {m : Str → Option Value} {k : Int} {t : Tok} {Q : Value → Shared → Prop} (X : (K P).In g) (F : Fr g L s.heap m) (x : Option Value) (hl : b3F k = x) (h : Q (x.getD .none) { s with toks := s.toks + 1 }) : wpAny (model prog w) A (call (.builtin "dict.get") [.ref 113, .int k t]) Q E s :=
  have hm := dict_at (w := w) X F prog
  call_meetsIn PySem.F.slot_dict_get hm.typeIs PySem.F.entry_dict_get (PySem.F.args_dict_get_2 _ _) (meets_dict_get (PySem.intKind prog w) 113 (intKind_is _ _ _ _) (by decide)) ⟨_, hm, by rw [hl]; exact h⟩
theorem set_call {g : Heap} {L : Addr} {m : Str → Option Value} {k : Int} {t : Tok} {Q : Value → Shared → Prop} (X : (K P).In g) (F : Fr g L s.heap m) (h : Q (.bool (inB1 k)) { s with toks := s.toks + 1 }) : wpAny (model prog w) A (compareOp .In (.int k t) (.ref 102)) Q E s :=
  wpAny_inSet_of (intKind_is _ _ _ _) rfl (set_at (w := w) (A₀ := A) (base := g) X F prog) h
end
local macro_rules | `(tactic| walk_at "compareOp In int ref") => `(tactic| (k_here; k_dflt (refine set_call (by assumption) (by k_asm) ?_)))
local macro_rules | `(tactic| walk_at "call builtin:dict.get") => `(tactic| (k_here; k_dflt (refine get_call (by assumption) (by k_asm) _ (by assumption) ?_); dsimp only [Option.getD]))
local macro_rules | `(tactic| walk_at "getMethod ref") => `(tactic| (k_here; k_dflt (refine get_meth (by assumption) (by k_asm) ?_)))
set_option maxRecDepth 100000 in
set_option maxHeartbeats 8000000 in
theorem c_inb1 {w : World} {p : Program} {loose : List Str} {mean : ExcName → Option Value} {mg mb : Str → Option Value} (dp un : Nat) (gd : Option (List Code)) (cn : Str) (cs : Scope) (a : Addr) (ccd : Value) (cl : List (Str × Addr)) (outer : List Env)
    (A₀ : Around) (base h₀ : Heap) (L : Addr) (m : Str → Option Value) (s : Shared) (Q E : Value → Shared → Prop)
    (n : Nat) (tn : Tok) (news : List (Addr × Obj))
    (B : Below A₀ base outer h₀) (F : Fr h₀ L s.heap m) (X : (K w.params).In h₀) (N : News h₀ L s.heap news)
    (T : Top p loose mean mg mb h₀) (hk : cs.kind = .function)  (hd : dp + 2 < recursionLimit) (hu : un + 128 < cLine)
    (hret : ∀ (h' : Heap) (tk' : Nat), Fr h₀ L h' m → News h₀ L h' news → Q (.bool (inB1 n)) { s with heap := h', toks := tk' }) :
    wpAny (model rw1.prog w) (ktrTop dp un gd cn cs L a ccd cl outer) (call (.ref 112) [.str ⟨#[n]⟩ tn]) Q E s := by
  revert X
  k_fill
  intro X
  have X0 := X
  refine wpAny_call ?_
  k_dflt cell_enter
  k_steps
  all_goals exact hret _ _ (by assumption) (by assumption)
set_option maxRecDepth 100000 in
set_option maxHeartbeats 8000000 in
theorem c_mapD {w : World} {p : Program} {loose : List Str} {mean : ExcName → Option Value} {mg mb : Str → Option Value} (dp un : Nat) (gd : Option (List Code)) (cn : Str) (cs : Scope) (a : Addr) (ccd : Value) (cl : List (Str × Addr)) (outer : List Env)
    (A₀ : Around) (base h₀ : Heap) (L : Addr) (m : Str → Option Value) (s : Shared) (Q E : Value → Shared → Prop)
    (n : Nat) (tn : Tok) (x : Str) (tx : Tok) (news : List (Addr × Obj))
    (B : Below A₀ base outer h₀) (F : Fr h₀ L s.heap m) (X : (K w.params).In h₀) (N : News h₀ L s.heap news)
    (T : Top p loose mean mg mb h₀) (hk : cs.kind = .function) (hv : b3F n = some (.str x tx)) (hd : dp + 2 < recursionLimit) (hu : un + 128 < cLine)
    (hret : ∀ (h' : Heap) (tk' : Nat) (t' : Tok), Fr h₀ L h' m → News h₀ L h' news → Q (.str x t') { s with heap := h', toks := tk' }) :
    wpAny (model rw1.prog w) (ktrTop dp un gd cn cs L a ccd cl outer) (call (.ref 158) [.str ⟨#[n]⟩ tn]) Q E s := by
  revert X
  k_fill
  intro X
  have X0 := X
  refine wpAny_call ?_
  k_dflt cell_enter
  k_steps
  all_goals exact hret _ _ _ (by assumption) (by assumption)
def textOf (v : Option Value) : Option Str := match v with
  | some (.str x _) => some x
  | _ => none
theorem b3_all : [13259, 13271, 8459, 8460, 8461, 119815, 119867, 8473, 119823, 119875, 119927, 120031].map (fun k => textOf (b3F k)) = ["hp", "ph", "h", "h", "h", "h", "h", "p", "p", "p", "p", "p"].map fun x => some (Str.ofString x) := by kernel_rfl
theorem b3_not : [72, 80].map (fun k => (b3F k).isNone) = [true, true] := by kernel_rfl
theorem text_of {v : Option Value} {x : Str} (h : textOf v = some x) : ∃ t, v = some (.str x t) := by
  match v, h with
  | some (.str y t), h =>
    injection h with h
    exact ⟨t, by rw [h]⟩
theorem b3_72 : b3F 72 = none := by
  have h := b3_not
  injection h with h _
  exact Option.isNone_iff_eq_none.mp h
theorem b3_80 : b3F 80 = none := by
  have h := b3_not
  injection h with _ h
  injection h with h _
  exact Option.isNone_iff_eq_none.mp h
set_option maxRecDepth 100000 in
set_option maxHeartbeats 8000000 in
theorem c_mapL72 {w : World} {p : Program} {loose : List Str} {mean : ExcName → Option Value} {mg mb : Str → Option Value} (dp un : Nat) (gd : Option (List Code)) (cn : Str) (cs : Scope) (a : Addr) (ccd : Value) (cl : List (Str × Addr)) (outer : List Env)
    (A₀ : Around) (base h₀ : Heap) (L : Addr) (m : Str → Option Value) (s : Shared) (Q E : Value → Shared → Prop)
    (tn : Tok) (news : List (Addr × Obj))
    (B : Below A₀ base outer h₀) (F : Fr h₀ L s.heap m) (X : (K w.params).In h₀) (N : News h₀ L s.heap news)
    (T : Top p loose mean mg mb h₀) (hk : cs.kind = .function)  (hd : dp + 2 < recursionLimit) (hu : un + 128 < cLine)
    (hret : ∀ (h' : Heap) (tk' : Nat) (t' : Tok), Fr h₀ L h' m → News h₀ L h' news → Q (.str (Str.ofString "h") t') { s with heap := h', toks := tk' }) :
    wpAny (model rw1.prog w) (ktrTop dp un gd cn cs L a ccd cl outer) (call (.ref 158) [.str ⟨#[72]⟩ tn]) Q E s := by
  have hv := b3_72
  revert X
  k_fill
  intro X
  have X0 := X
  refine wpAny_call ?_
  k_dflt cell_enter
  k_steps
  all_goals exact hret _ _ _ (by assumption) (by assumption)
set_option maxRecDepth 100000 in
set_option maxHeartbeats 8000000 in
theorem c_mapL80 {w : World} {p : Program} {loose : List Str} {mean : ExcName → Option Value} {mg mb : Str → Option Value} (dp un : Nat) (gd : Option (List Code)) (cn : Str) (cs : Scope) (a : Addr) (ccd : Value) (cl : List (Str × Addr)) (outer : List Env)
    (A₀ : Around) (base h₀ : Heap) (L : Addr) (m : Str → Option Value) (s : Shared) (Q E : Value → Shared → Prop)
    (tn : Tok) (news : List (Addr × Obj))
    (B : Below A₀ base outer h₀) (F : Fr h₀ L s.heap m) (X : (K w.params).In h₀) (N : News h₀ L s.heap news)
    (T : Top p loose mean mg mb h₀) (hk : cs.kind = .function)  (hd : dp + 2 < recursionLimit) (hu : un + 128 < cLine)
    (hret : ∀ (h' : Heap) (tk' : Nat) (t' : Tok), Fr h₀ L h' m → News h₀ L h' news → Q (.str (Str.ofString "p") t') { s with heap := h', toks := tk' }) :
    wpAny (model rw1.prog w) (ktrTop dp un gd cn cs L a ccd cl outer) (call (.ref 158) [.str ⟨#[80]⟩ tn]) Q E s := by
  have hv := b3_80
  revert X
  k_fill
  intro X
  have X0 := X
  refine wpAny_call ?_
  k_dflt cell_enter
  k_steps
  all_goals exact hret _ _ _ (by assumption) (by assumption)
end Mine
end
section
open PySem PySem.W PyProof.Rows PyProof.V PySem.Spec
namespace Mine
section
variable {prog : Program} {w : World} {A : Around} {E : Value → Shared → Prop} {s : Shared} {h₀ : Heap} {L : Addr} {m : Str → Option Value} {env : Env} {elt : PySem.Expr} {x : Str} {scope : Scope} {cl : List (Str × Addr)}
theorem pyIter_strY {x : Str} {t : Tok} {Q : Value → Shared → Prop}
    (hQ : ∀ (o : Obj) (St : Nat → Heap → Prop), (∀ A' : Around, A'.handled = none → Walks prog w A' s.heap.objs.size [s.heap.objs.size] [s.heap.objs.size] x.cps.size (SignAt x) St) → (∀ i h, St i h → ∃ o, h.get? s.heap.objs.size = some o) → (∀ i h h' o, St i h → h.get? s.heap.objs.size = some o → h'.get? s.heap.objs.size = some o → St i h') → St 0 (s.heap.push o) →
      Q (.ref s.heap.objs.size) { s with heap := s.heap.push o }) : wpAny (model prog w) A (pyIter (.str x t)) Q E s := by
  have stable : ∀ (c : String) (i : Nat) (h h' : Heap) (o : Obj), h.IsStrIter s.heap.objs.size c x t i → h.get? s.heap.objs.size = some o → h'.get? s.heap.objs.size = some o → h'.IsStrIter s.heap.objs.size c x t i := by
    rintro c i h h' o ⟨o', q, r⟩ e e'
    rw [e] at q
    cases q
    exact ⟨o, e', r⟩
  cases ha : x.cps.all (· < 128)
  · exact wpAny_pyIter_wide ha (hQ _ _ (fun A' hA => Walks.strWide hA _ x t) (fun _ _ ⟨o, ho, _⟩ => ⟨o, ho⟩) (fun i h h' o => stable _ i h h' o) ⟨_, Heap.get?_push_size _ rfl, rfl, rfl⟩)
  · exact wpAny_pyIter_ascii ha (hQ _ _ (fun A' hA => Walks.strAscii hA _ x t) (fun _ _ ⟨o, ho, _⟩ => ⟨o, ho⟩) (fun i h h' o => stable _ i h h' o) ⟨_, Heap.get?_push_size _ rfl, rfl, rfl⟩)
/-- what a list comprehension over a text is told of its source -/
def SrcT (prog : Program) (w : World) (A : Around) (h₀ : Heap) (L : Addr) (m : Str → Option Value) (env : Env) (elt : PySem.Expr) (x : Str) (scope : Scope) (cl : List (Str × Addr)) (Q : Value → Shared → Prop) (xv : Value) (s₁ : Shared) : Prop :=
  ∃ (tx : Str) (t : Tok) (news : List (Addr × Obj)), xv = .str tx t ∧ A.handled = none ∧ Fr h₀ L s₁.heap m ∧ News h₀ L s₁.heap news ∧ tx.cps.size ≤ sizeLine ∧
    ∀ g, LCg.CompRest prog w A h₀ L m env elt x scope cl { s₁ with heap := g } (fun _ => True) (SignAt tx) (LCg.FinE h₀ L m { s₁ with heap := g } Q) tx.cps.size 0 [] news
theorem ListComp_T {iter : PySem.Expr} {px : Pos} {pos : Pos} {Q : Value → Shared → Prop} (_F₀ : Fr h₀ L s.heap m)
    (hclos : closureFor scope env = pure cl) (hcell : ∀ y ∈ scope.names, y.2 ≠ .cell) (hkind : scope.kind = .function)
    (hnames : ∀ y ∈ scope.names, y.2 = .local → scope.names.lookup y.1 = some .local) (hx : scope.names.lookup x = some .local)
    (h : wpAny (model prog w) A (eval iter env) (SrcT prog w A h₀ L m env elt x scope cl Q) E s)
    (hs : ∀ x, foldedSetIterable iter env x = pure x := by intro _; rfl) :
    wpAny (model prog w) A (eval (.ListComp elt [⟨.Name x px, iter, [], 0⟩] scope pos) env) Q E s := by
  rw [eval_ListComp]
  refine wpAny_comprehension_free (use := none) rfl hs hclos hkind hnames (wpAny_mono h (fun xv s₁ h₁ => ?_) fun _ _ e => e)
  obtain ⟨tx, t, news, rfl, hh, F, N, hsz, R⟩ := h₁
  refine pyIter_strY fun o St hW hob hstb hst => ?_
  have up : ∀ b ob, s₁.heap.get? b = some ob → (s₁.heap.push o).get? b = some ob := fun b ob e => Heap.get?_push_of_some _ e
  refine LCg.block_U (S := fun _ => True) (hW A hh) hsz hob (fun i h h' o _ st e e' _ _ _ => hstb i h h' o st e e') hcell hkind hx hst (fun b hb => ?_)
    (F.keeps up) (N.grown up) (Nat.ne_of_lt F.ns.lt) (next_is_new F) (fun p hp => Nat.ne_of_lt (Heap.lt_size (N p hp).1)) trivial (R _) ?_
  · rw [List.mem_singleton.mp hb]
    show s₁.heap.objs.size < (s₁.heap.push _).objs.size
    rw [Heap.size_push]; exact Nat.lt_succ_self _
  · intro D C h tk m' ys news' F' N' o1 hn hC₀ hD₀ hCL hDL hCD offC fin
    refine ⟨m', hn, fun h'' hs'' => fin D h'' tk (F'.change hs'' hCL hC₀) (fun p hp => ?_) o1⟩
    refine ⟨hs''.extBut _ _ ?_ (N' p hp).1, (N' p hp).2⟩
    rcases List.mem_cons.mp hp with rfl | hp
    · exact Ne.symm hCD
    · exact offC p hp
/-- the turns of a comprehension whose items are told by a relation, over a ledger that stays -/
theorem ctr_rest {S : List (Addr × Obj) → Prop} {P : Nat → Value → Prop} {Fin : List Value → List (Addr × Obj) → Prop} {news : List (Addr × Obj)} {n : Nat} (R : Nat → Value → Prop)
    (turn : ∀ i v I oI C oC D m₂ ys h tk (E' : Value → Shared → Prop), i < n → P i v → LCg.NsObj oC m₂ → m₂ x = some v → Fr h₀ L h m → News h₀ L h ((I, oI) :: (C, oC) :: (D, LCg.lst ys) :: news) → LCg.Off3 I C D news → ((@Ne Nat I C) ∧ (@Ne Nat I D) ∧ (@Ne Nat C D)) →
      wpAny (model prog w) A (eval elt (compEnvC scope cl C env)) (LCg.CompEnd h₀ L m { s with heap := h, toks := tk } I oI C oC D (LCg.lst ys) S (fun y news' => news' = news ∧ R i y)) E' { s with heap := h, toks := tk })
    (fin : ∀ ys, ys.length = n → (∀ i y, ys[i]? = some y → R i y) → Fin ys news) : LCg.CompRest prog w A h₀ L m env elt x scope cl s S P Fin n 0 [] news := by
  have key : ∀ (j i : Nat) (ys : List Value), i + j = n → ys.length = i → (∀ i y, ys[i]? = some y → R i y) → LCg.CompRest prog w A h₀ L m env elt x scope cl s S P Fin j i ys news := by
    intro j
    induction j with
    | zero => intro i ys hi hl hy; exact LCg.CompRest.zero (fin ys (by omega) hy)
    | succ j ih =>
      intro i ys hi hl hy
      refine LCg.CompRest.succ ?_
      intro v I oI C oC D m₂ h tk E' hv hC hx F N off ne
      refine wpAny_mono (turn i v I oI C oC D m₂ ys h tk E' (by omega) hv hC hx F N off ne) (fun y s₂ hq => ?_) fun _ _ e => e
      obtain ⟨h', tk', nw, e, F', N', off', hS, hn, hr⟩ := hq
      rw [hn] at N' off' hS
      refine ⟨h', tk', news, e, F', N', off', hS, ih (i + 1) _ (by omega) (by simp [hl]) ?_⟩
      intro k z hz
      rw [List.getElem?_append] at hz
      split at hz
      · exact hy k z hz
      · rename_i hk
        have : k = i := by
          rcases Nat.lt_trichotomy k i with h | h | h
          · omega
          · exact h
          · rw [List.getElem?_eq_none (by simp; omega)] at hz; cases hz
        subst this
        rw [hl, Nat.sub_self] at hz
        cases hz
        exact hr
  exact key n 0 [] (by omega) rfl (fun i y h => by simp at h)
end
end Mine
end
section
open PySem PySem.W PyProof.Rows PyProof.V PySem.Spec
namespace Mine
section
variable {prog : Program} {w : World} {A : Around} {E : Value → Shared → Prop} {s : Shared} {env : Env} {h₀ : Heap} {target : PySem.Expr} {body : List Stmt} {Q : Flow → Shared → Prop}
/-- a loop with any target, told by a state of its names and its ledger -/
theorem tn_loop {I : Addr} {fp wr : List Addr} {n : Nat} {P Md : Nat → Value → Heap → Prop} {St : Nat → Heap → Prop} {m₀ : Str → Option Value} {news : List (Addr × Obj)} (J : Nat → (Str → Option Value) → List (Addr × Obj) → Prop)
    (W : KTurns prog w A target I fp wr n P Md St) (hfw : ∀ a ∈ fp, a ∈ wr) (hob : ∀ i h, St i h → ∀ b ∈ wr, ∃ o, h.get? b = some o) (hLf : env.locals ∉ fp) (hwr : ∀ b ∈ wr, h₀.get? b = none) (hnw : ∀ p ∈ news, p.1 ∉ wr) (hst : St 0 s.heap)
    (F : Fr h₀ env.locals s.heap m₀) (N : News h₀ env.locals s.heap news) (hj : J 0 m₀ news)
    (turn : ∀ i v m₁ nx h tk own, i < n → P i v h → OwnOff own (nx.map (·.1)) → J i m₁ nx → Fr h₀ env.locals h m₁ → News h₀ env.locals h (nx ++ own) →
      wpAny (model prog w) A (assign target env v) (fun _ s₂ => wpAny (model prog w) A (execs body env) (InvPostG h₀ env.locals (J (i + 1)) own { s with heap := h, toks := tk } Q) E s₂) E { s with heap := h, toks := tk })
    (done : ∀ m₁ nx h tk, J n m₁ nx → Fr h₀ env.locals h m₁ → News h₀ env.locals h nx → Q .next { s with heap := h, toks := tk }) :
    TurnsAt prog w A h₀ env target body Q E (.ref I) s := by
  refine ⟨I, fp, wr, n, P, Md, St, m₀, news, J, rfl, W, hLf, hwr, hnw, hst, F, N, hj, ?_, ?_⟩
  · intro i v m₁ news₁ hh' tk' own hin hP hJ hoff hown _ hmem hst' F₁ N₁
    have hsep : OwnOff own (news₁.map (·.1)) := by
      intro p hp b hb e
      obtain ⟨q, hq, rfl⟩ := List.mem_map.mp hb
      exact hoff q hq (hfw _ (e ▸ hown p hp))
    have N₂ : News h₀ env.locals hh' (news₁ ++ own) := fun p hp => N₁ p ((List.mem_append.mp hp).elim (fun h => List.mem_append.mpr (.inr h)) fun h => List.mem_append.mpr (.inl h))
    refine wpAny_mono (turn i v m₁ news₁ hh' tk' own hin hP hsep hJ F₁ N₂) (fun _ s₃ q => wpAny_mono q (fun f s₂ p => ?_) fun _ _ e => e) fun _ _ e => e
    have fin : InvEndG h₀ env.locals (J (i + 1)) own { s with heap := hh', toks := tk' } s₂ → LoopStepU h₀ env.locals wr own (J (i + 1)) { s with heap := hh', toks := tk' } .next s₂ := by
      rintro ⟨h', tk, m', news', nx, e, F', N', hn, ho, ha, hm⟩
      refine ⟨rfl, h', tk, m', nx, e, F', fun p hp => N' p ((List.mem_append.mp hp).elim (ho p) (hn p)), fun p hp hq => ?_, hm⟩
      obtain ⟨o, hbo⟩ := hob _ _ hst' _ hq
      exact ha _ (hmem _ (W.sub _ hq) (hwr _ hq) o hbo) p.1 (List.mem_map.mpr ⟨p, hp, rfl⟩) rfl
    cases f with
    | ret v => exact .ret p
    | brk => exact .brk p
    | next => exact .next (fin p)
    | cont => exact .cont (fin p)
  · intro h' tk m' news' F' N' _ hJ
    exact done m' news' h' tk hJ F' N'
theorem tn_range {x : Str} {px : Pos} {r : Addr} {a₀ b₀ : Int} {t₀ u₀ v₀ : Tok} {n : Nat} {m₀ : Str → Option Value} {news news₀ : List (Addr × Obj)} (J : Nat → (Str → Option Value) → List (Addr × Obj) → Prop)
    (hh : A.handled = none) (hr : IsRange s.heap r a₀ b₀ 1 t₀ u₀ v₀) (hsmall : Builtin.Range.small a₀ b₀ 1 = true) (hsz : Builtin.Range.rangeSize a₀ b₀ 1 = (n : Int))
    (F : Fr h₀ env.locals s.heap m₀) (N : News h₀ env.locals s.heap news₀) (hn : ∀ p ∈ news, p ∈ news₀) (hj : J 0 m₀ news)
    (turn : ∀ i t m₁ nx h tk own, i < n → OwnOff own (nx.map (·.1)) → J i m₁ nx → Fr h₀ env.locals h m₁ → News h₀ env.locals h (nx ++ own) →
      wpAny (model prog w) A (assign (.Name x px) env (.int (a₀ + (i : Int)) t)) (fun _ s₂ => wpAny (model prog w) A (execs body env) (InvPostG h₀ env.locals (J (i + 1)) own { s with heap := h, toks := tk } Q) E s₂) E { s with heap := h, toks := tk })
    (done : ∀ m₁ nx h tk, J n m₁ nx → Fr h₀ env.locals h m₁ → News h₀ env.locals h nx → Q .next { s with heap := h, toks := tk }) :
    wpAny (model prog w) A (pyIter (.ref r)) (fun it s₂ => TurnsAt prog w A h₀ env (.Name x px) body Q E it s₂) E s := by
  refine wpAny_pyIter_range hr hsmall ?_
  have W : Walks prog w A s.heap.objs.size [s.heap.objs.size] [s.heap.objs.size] n (fun i v => i < n ∧ ∃ t, v = .int (a₀ + i * 1) t)
      (fun i h => IsRangeIter h s.heap.objs.size (a₀ + (i : Nat) * 1) ((n : Int) - (i : Nat)) 1) := (Walks.range hh _ a₀ 1 n).bound
  have N' : News h₀ env.locals s.heap news := fun p hp => N p (hn p hp)
  refine tn_loop J (KTurns.ofWalks (target := .Name x px) W (fun i v s Q E _ h => ?_)) (fun _ h => h) ?_ ?_ ?_ ?_ ?_ (F.push _) (fun p hp => ⟨Heap.get?_push_of_some _ (N' p hp).1, (N' p hp).2⟩) hj ?_ ?_
  · exact wpAny_pure h
  · intro i h hi b hb
    rw [List.mem_singleton.mp hb]
    exact ⟨_, hi⟩
  · intro hm
    exact absurd F.ns.lt ((List.mem_singleton.mp hm) ▸ Nat.lt_irrefl _)
  · intro b hb
    rw [List.mem_singleton.mp hb]
    exact next_is_new F
  · intro p hp hI
    exact absurd (Heap.lt_size (N' p hp).1) ((List.mem_singleton.mp hI) ▸ Nat.lt_irrefl _)
  · show IsRangeIter _ _ _ _ _
    rw [hsz]
    simpa using Heap.get?_push_size _ rfl
  · rintro i v m₁ nx h tk own hi ⟨_, t, rfl⟩ hoff hJ F₁ N₁
    rw [Int.mul_one]
    exact turn i t m₁ nx h tk own hi hoff hJ F₁ N₁
  · exact fun m₁ nx h tk hJ F₁ N₁ => done m₁ nx h tk hJ F₁ N₁
end
end Mine
end
section
open PySem PySem.W PyProof.Rows PyProof.V PySem.Spec
namespace Mine
theorem calmW10 : True := by
  w_top off
  exact trivial
theorem fm_lt (x : Int) {m : Int} (h : 0 < m) : (x.fmod m).toNat < m.toNat := by
  have h1 := Int.fmod_lt_of_pos x h
  omega
section
variable {prog : Program} {w : World} {A : Around} {E : Value → Shared → Prop} {s : Shared}
theorem chr_pick {l : List Int} {i : Nat} {u : Tok} {Q : Value → Shared → Prop} (hl : (l.all fun x => decide (0 ≤ x ∧ x < 1114112)) = true) (hi : i < l.length)
    (h : ∀ (n : Nat) (t : Tok) (tk : Nat), (n : Int) ∈ l → Q (.str ⟨#[n]⟩ t) { s with toks := tk }) : wpAny (model prog w) A (call (.builtin "chr") [.int (l.getD i 0) u]) Q E s := by
  have e : l.getD i 0 = l[i] := by simp [List.getD, hi]
  have hm : l[i] ∈ l := List.getElem_mem hi
  have hb := of_decide_eq_true (List.all_eq_true.mp hl _ hm)
  rw [e]
  refine chr_of_range (by omega) (by omega) ?_
  refine h _ _ _ ?_
  rw [Int.toNat_of_nonneg hb.1]
  exact hm
end
local macro_rules | `(tactic| walk_at "call builtin:chr") => `(tactic| (k_here; (refine chr_pick (by decide) (by (simp only [List.length_cons, List.length_nil]; first | omega | exact fm_lt _ (by decide))) ?_); intro n9 t9 tk9 hn9))
abbrev eyesL : List Int := [72, 8459, 8460, 8461, 119815, 119867]
abbrev peesL : List Int := [80, 8473, 119823, 119875, 119927, 120031]
/-- what a letter may be typed as -/
def TypedOk (b : Bool) (x : Str) : Prop := x = ⟨#[if b then 13259 else 13271]⟩ ∨ ∃ e u p : Nat, (e : Int) ∈ eyesL ∧ inB1 u = true ∧ (p : Int) ∈ peesL ∧ x = if b then ⟨#[e]⟩ ++ ⟨#[u]⟩ ++ ⟨#[p]⟩ else ⟨#[p]⟩ ++ ⟨#[u]⟩ ++ ⟨#[e]⟩
theorem low_in {k : Int} (h : k ∈ [173, 847, 6150, 6155, 6156, 6157, 8203, 8204, 8205, 8288, 65279]) : inB1 k = true :=
  List.contains_iff_mem.mpr (List.mem_append_left [65024, 65025, 65026, 65027, 65028, 65029, 65030, 65031, 65032, 65033, 65034, 65035, 65036, 65037, 65038, 65039] h)
theorem high_all : ∀ j : Nat, j < 16 → inB1 (((65013 + (11 + (j : Int))).toNat : Nat) : Int) = true := by decide +kernel
theorem high_in {x : Int} (h : ¬ x.fmod 27 < 11) : inB1 (((65013 + x.fmod 27).toNat : Nat) : Int) = true := by
  have h1 := Int.fmod_lt_of_pos x (by decide : (0 : Int) < 27)
  obtain ⟨j, hj, hk⟩ : ∃ j : Nat, j < 16 ∧ x.fmod 27 = 11 + (j : Int) := ⟨(x.fmod 27 - 11).toNat, by omega, by omega⟩
  rw [hk]
  exact high_all j hj
section
variable {b : Bool} {e u p : Nat} {x : Int}
theorem okA (h : b = true) : TypedOk b ⟨#[Int.toNat 13259]⟩ := by subst h; exact .inl rfl
theorem okB (h : b = false) : TypedOk b ⟨#[Int.toNat 13271]⟩ := by subst h; exact .inl rfl
theorem okC (h : b = true) (he : (e : Int) ∈ eyesL) (hu : (u : Int) ∈ [173, 847, 6150, 6155, 6156, 6157, 8203, 8204, 8205, 8288, 65279]) (hp : (p : Int) ∈ peesL) : TypedOk b (⟨#[e]⟩ ++ ⟨#[u]⟩ ++ ⟨#[p]⟩) := by
  subst h; exact .inr ⟨e, u, p, he, low_in hu, hp, rfl⟩
theorem okD (h : b = false) (he : (e : Int) ∈ eyesL) (hu : (u : Int) ∈ [173, 847, 6150, 6155, 6156, 6157, 8203, 8204, 8205, 8288, 65279]) (hp : (p : Int) ∈ peesL) : TypedOk b (⟨#[p]⟩ ++ ⟨#[u]⟩ ++ ⟨#[e]⟩) := by
  subst h; exact .inr ⟨e, u, p, he, low_in hu, hp, rfl⟩
theorem okE (h : b = true) (he : (e : Int) ∈ eyesL) (hu : ¬ x.fmod 27 < 11) (hp : (p : Int) ∈ peesL) : TypedOk b (⟨#[e]⟩ ++ ⟨#[(65013 + x.fmod 27).toNat]⟩ ++ ⟨#[p]⟩) := by
  subst h; exact .inr ⟨e, _, p, he, high_in hu, hp, rfl⟩
theorem okF (h : b = false) (he : (e : Int) ∈ eyesL) (hu : ¬ x.fmod 27 < 11) (hp : (p : Int) ∈ peesL) : TypedOk b (⟨#[p]⟩ ++ ⟨#[(65013 + x.fmod 27).toNat]⟩ ++ ⟨#[e]⟩) := by
  subst h; exact .inr ⟨e, _, p, he, high_in hu, hp, rfl⟩
end
theorem of_news3 {g h : Heap} {L : Addr} {news : List (Addr × Obj)} {a b c : Addr × Obj} (N : News g L h (a :: b :: c :: news)) : News g L h news := fun p hp => N p (.tail _ (.tail _ (.tail _ hp)))
set_option maxRecDepth 100000 in
set_option maxHeartbeats 8000000 in
theorem c_typed {w : World} {p : Program} {loose : List Str} {mean : ExcName → Option Value} {mg mb : Str → Option Value} (dp un : Nat) (gd : Option (List Code)) (cn : Str) (cs : Scope) (a : Addr) (ccd : Value) (cl : List (Str × Addr)) (outer : List Env)
    (A₀ : Around) (base h₀ : Heap) (L : Addr) (m : Str → Option Value) (s : Shared) (Q E : Value → Shared → Prop)
    (letter : Str) (tl : Tok) (seed : Int) (ts : Tok) (b : Bool) (news : List (Addr × Obj))
    (B : Below A₀ base outer h₀) (F : Fr h₀ L s.heap m) (X : (K w.params).In h₀) (N : News h₀ L s.heap news)
    (T : Top p loose mean mg mb h₀) (hk : cs.kind = .function) (hb : (letter == Str.ofString "h") = b) (hd : dp + 2 < recursionLimit) (hu : un + 128 < cLine)
    (hret : ∀ (x : Str) (h' : Heap) (tk' : Nat) (t' : Tok), TypedOk b x → Fr h₀ L h' m → News h₀ L h' news → Q (.str x t') { s with heap := h', toks := tk' }) :
    wpAny (model rw1.prog w) (ktrTop dp un gd cn cs L a ccd cl outer) (call (.ref 165) [.str letter tl, .int seed ts]) Q E s := by
  revert X
  k_fill
  intro X
  have X0 := X
  refine wpAny_call ?_
  k_dflt cell_enter
  k_steps
  case _ => exact hret _ _ _ _ (okA (hb.symm.trans (by assumption))) (by assumption) (of_news3 (by assumption))
  case _ => exact hret _ _ _ _ (okB (hb.symm.trans (by assumption))) (by assumption) (of_news3 (by assumption))
  case _ => exact hret _ _ _ _ (okC (hb.symm.trans (by assumption)) (by assumption) (by assumption) (by assumption)) (by assumption) (of_news3 (by assumption))
  case _ => exact hret _ _ _ _ (okD (hb.symm.trans (by assumption)) (by assumption) (by assumption) (by assumption)) (by assumption) (of_news3 (by assumption))
  case _ => exact hret _ _ _ _ (okE (hb.symm.trans (by assumption)) (by assumption) (by assumption) (by assumption)) (by assumption) (of_news3 (by assumption))
  case _ => exact hret _ _ _ _ (okF (hb.symm.trans (by assumption)) (by assumption) (by assumption) (by assumption)) (by assumption) (of_news3 (by assumption))
end Mine
end
section
open PySem PySem.W PyProof.Rows PyProof.V PySem.Spec
namespace Mine
def grow (l : List Nat) : List Nat := l.flatMap fun c => if c = 104 then [104, 112] else [112, 104]
def growN : Nat → List Nat → List Nat
  | 0, l => l
  | n + 1, l => grow (growN n l)
theorem grow_len (l : List Nat) : (grow l).length = 2 * l.length := by
  induction l with
  | nil => rfl
  | cons c l ih =>
    rw [grow, List.flatMap_cons, List.length_append, ← grow, ih, List.length_cons]
    split <;> (simp only [List.length_cons, List.length_nil]; omega)
theorem growN_len (l : List Nat) : ∀ i, (growN i l).length = 2 ^ i * l.length
  | 0 => by simp [growN]
  | i + 1 => by rw [growN, grow_len, growN_len l i, Nat.pow_succ, Nat.mul_comm (2 ^ i) 2, Nat.mul_assoc]
theorem pow3 {i : Nat} (h : i < 3) : 2 ^ i ≤ 4 := by
  have : i = 0 ∨ i = 1 ∨ i = 2 := by omega
  rcases this with rfl | rfl | rfl <;> decide
theorem join_cps : ∀ (zs : List Str), (Txt.join (Str.ofString "") zs).cps.toList = zs.flatMap (·.cps.toList) := by
  intro zs
  have e : Txt.join (Str.ofString "") zs = Str.join ⟨#[]⟩ zs := eq_of_beq (join_closes rfl)
  rw [e]
  induction zs with
  | nil => rfl
  | cons z zs ih =>
    rw [PyProof.Rows.join_nil_cons, List.flatMap_cons, ← ih (eq_of_beq (join_closes rfl))]
    show (z.cps ++ (Str.join ⟨#[]⟩ zs).cps).toList = _
    rw [Array.toList_append]
/-- what a sign becomes -/
def foldC (n : Nat) : List Nat := if inB1 n then [] else if n = 13259 then [104, 112] else if n = 13271 then [112, 104] else if (n : Int) ∈ eyesL then [104] else [112]
/-- the signs that are typed -/
def Dom (n : Nat) : Prop := n = 13259 ∨ n = 13271 ∨ (n : Int) ∈ eyesL ∨ (n : Int) ∈ peesL ∨ inB1 n = true
theorem eye_n {n : Nat} (h : (n : Int) ∈ eyesL) : n = 72 ∨ n = 8459 ∨ n = 8460 ∨ n = 8461 ∨ n = 119815 ∨ n = 119867 := by
  simp only [eyesL, List.mem_cons, List.not_mem_nil, or_false] at h
  rcases h with h | h | h | h | h | h
  · exact .inl (Int.ofNat.inj h)
  · exact .inr (.inl (Int.ofNat.inj h))
  · exact .inr (.inr (.inl (Int.ofNat.inj h)))
  · exact .inr (.inr (.inr (.inl (Int.ofNat.inj h))))
  · exact .inr (.inr (.inr (.inr (.inl (Int.ofNat.inj h)))))
  · exact .inr (.inr (.inr (.inr (.inr (Int.ofNat.inj h)))))
theorem pee_n {n : Nat} (h : (n : Int) ∈ peesL) : n = 80 ∨ n = 8473 ∨ n = 119823 ∨ n = 119875 ∨ n = 119927 ∨ n = 120031 := by
  simp only [peesL, List.mem_cons, List.not_mem_nil, or_false] at h
  rcases h with h | h | h | h | h | h
  · exact .inl (Int.ofNat.inj h)
  · exact .inr (.inl (Int.ofNat.inj h))
  · exact .inr (.inr (.inl (Int.ofNat.inj h)))
  · exact .inr (.inr (.inr (.inl (Int.ofNat.inj h))))
  · exact .inr (.inr (.inr (.inr (.inl (Int.ofNat.inj h)))))
  · exact .inr (.inr (.inr (.inr (.inr (Int.ofNat.inj h)))))
theorem fold_eye {n : Nat} (h : (n : Int) ∈ eyesL) : foldC n = [104] := by
  rcases eye_n h with rfl | rfl | rfl | rfl | rfl | rfl <;> decide
theorem fold_pee {n : Nat} (h : (n : Int) ∈ peesL) : foldC n = [112] := by
  rcases pee_n h with rfl | rfl | rfl | rfl | rfl | rfl <;> decide
theorem fold_typed {b : Bool} {z : Str} (h : TypedOk b z) : z.cps.toList.flatMap foldC = if b then [104, 112] else [112, 104] := by
  rcases h with rfl | ⟨e, u, p, he, hu, hp, rfl⟩
  · cases b <;> decide
  · have h1 : foldC u = [] := by rw [foldC, if_pos hu]
    have h2 := fold_eye he
    have h3 := fold_pee hp
    cases b
    · show ([p] ++ [u] ++ [e]).flatMap foldC = _
      simp [h1, h2, h3]
    · show ([e] ++ [u] ++ [p]).flatMap foldC = _
      simp [h1, h2, h3]
theorem dom_typed {b : Bool} {z : Str} (h : TypedOk b z) : ∀ n ∈ z.cps.toList, Dom n := by
  rcases h with rfl | ⟨e, u, p, he, hu, hp, rfl⟩
  · intro n hn
    cases b
    · exact .inr (.inl (by simpa using hn))
    · exact .inl (by simpa using hn)
  · intro n hn
    have h3 : n = e ∨ n = u ∨ n = p := by
      cases b
      · have : n ∈ [p] ++ [u] ++ [e] := hn
        simp at this
        rcases this with h | h | h
        · exact .inr (.inr h)
        · exact .inr (.inl h)
        · exact .inl h
      · have : n ∈ [e] ++ [u] ++ [p] := hn
        simpa using this
    rcases h3 with rfl | rfl | rfl
    · exact .inr (.inr (.inl he))
    · exact .inr (.inr (.inr (.inr hu)))
    · exact .inr (.inr (.inr (.inl hp)))
theorem len_typed {b : Bool} {z : Str} (h : TypedOk b z) : z.length ≤ 3 := by
  rcases h with rfl | ⟨e, u, p, he, hu, hp, rfl⟩
  · show 1 ≤ 3; decide
  · cases b <;> (show 3 ≤ 3; decide)
/-- the typed letters -/
def TyR (l : List Nat) (i : Nat) (y : Value) : Prop := ∃ (z : Str) (t : Tok), y = .str z t ∧ TypedOk (decide (l[i]? = some 104)) z
/-- the texts of items that are told by a relation -/
theorem strs_of {R : Nat → Str → Prop} : ∀ {ys : List Value} {k : Nat}, (∀ i y, ys[i]? = some y → ∃ z t, y = .str z t ∧ R (k + i) z) → ∃ zs, StrsAre ys zs ∧ zs.length = ys.length ∧ ∀ i z, zs[i]? = some z → R (k + i) z
  | [], _, _ => ⟨[], .nil, rfl, fun i z h => by simp at h⟩
  | y :: ys, k, h => by
    obtain ⟨z, t, rfl, hz⟩ := h 0 _ rfl
    obtain ⟨zs, h1, h2, h3⟩ := strs_of (R := R) (ys := ys) (k := k + 1) (fun i y hy => by
      have := h (i + 1) y (by simpa using hy)
      rwa [show k + (i + 1) = k + 1 + i from by omega] at this)
    refine ⟨z :: zs, .cons z t h1, by simp [h2], fun i x hx => ?_⟩
    cases i with
    | zero => cases hx; exact hz
    | succ i =>
      have := h3 i x (by simpa using hx)
      rwa [show k + 1 + i = k + (i + 1) from by omega] at this
theorem fold_all : ∀ {l : List Nat} {zs : List Str}, zs.length = l.length → (∀ (i : Nat) (z : Str), zs[i]? = some z → TypedOk (decide (l[i]? = some 104)) z) → (zs.flatMap (·.cps.toList)).flatMap foldC = grow l
  | [], [], _, _ => rfl
  | [], _ :: _, h, _ => by simp at h
  | _ :: _, [], h, _ => by simp at h
  | c :: l, z :: zs, h, hz => by
    have h1 := fold_typed (hz 0 z rfl)
    have h2 := fold_all (l := l) (zs := zs) (by simpa using h) (fun i x hx => by simpa using hz (i + 1) x (by simpa using hx))
    rw [List.flatMap_cons, List.flatMap_append, h1, h2]
    show _ = (if c = 104 then [104, 112] else [112, 104]) ++ grow l
    congr 1
    by_cases hc : c = 104 <;> simp [hc]
theorem dom_all {l : List Nat} {zs : List Str} (hz : ∀ (i : Nat) (z : Str), zs[i]? = some z → TypedOk (decide (l[i]? = some 104)) z) : ∀ n ∈ zs.flatMap (·.cps.toList), Dom n := by
  intro n hn
  obtain ⟨z, hm, hn⟩ := List.mem_flatMap.mp hn
  obtain ⟨i, hi⟩ := List.getElem?_of_mem hm
  exact dom_typed (hz i z hi) n hn
theorem len_sum {k : Nat} : ∀ {zs : List Str}, (∀ (i : Nat) (z : Str), zs[i]? = some z → z.length ≤ k) → (zs.map (·.length)).sum ≤ k * zs.length
  | [], _ => by simp
  | z :: zs, h => by
    have h1 := h 0 z rfl
    have h2 := len_sum (k := k) (zs := zs) (fun i x hx => h (i + 1) x (by simpa using hx))
    simp only [List.map_cons, List.sum_cons, List.length_cons, Nat.mul_succ]
    omega
theorem flat_len : ∀ (zs : List Str), (zs.flatMap (·.cps.toList)).length = (zs.map (·.length)).sum
  | [] => rfl
  | z :: zs => by
    rw [List.flatMap_cons, List.length_append, flat_len zs, List.map_cons, List.sum_cons]
    simp [Str.length]
/-- the prepared signs -/
theorem flat_fold : ∀ {l : List Nat} {zs : List Str}, zs.length = l.length → (∀ (i : Nat) (z : Str), zs[i]? = some z → ∃ n, l[i]? = some n ∧ z.cps.toList = foldC n) → zs.flatMap (·.cps.toList) = l.flatMap foldC
  | [], [], _, _ => rfl
  | [], _ :: _, h, _ => by simp at h
  | _ :: _, [], h, _ => by simp at h
  | c :: l, z :: zs, h, hz => by
    obtain ⟨n, h0, h1⟩ := hz 0 z rfl
    cases h0
    have h2 := flat_fold (l := l) (zs := zs) (by simpa using h) (fun i x hx => by simpa using hz (i + 1) x (by simpa using hx))
    rw [List.flatMap_cons, List.flatMap_cons, h1, h2]
theorem isH {x : Str} {k : Nat} (h : k < x.length) : (Txt.item x (0 + (k : Int)) == Str.ofString "h") = decide (x.cps.toList[k]? = some 104) := by
  have h' : k < x.cps.size := h
  rw [item_meets ⟨by omega, by omega⟩]
  have e : x.cps.getD (0 + (k : Int)).toNat 0 = x.cps[k] := by
    have : (0 + (k : Int)).toNat = k := by omega
    rw [this]
    simp [h']
  rw [e]
  have e2 : x.cps.toList[k]? = some x.cps[k] := by simp [h']
  rw [e2, Bool.eq_iff_iff, beq_iff_eq, decide_eq_true_iff]
  constructor
  · intro q
    have := congrArg Str.cps q
    rw [show (Str.ofString "h").cps = #[104] from by decide] at this
    simp at this
    simp [this]
  · intro q
    have q' : x.cps[k] = 104 := Option.some.inj q
    rw [q']
    decide
theorem hok0 {a b : Nat} (h : a ≤ 16777216) : a + b * (Str.ofString "").length ≤ 16777216 := by
  have : (Str.ofString "").length = 0 := by decide
  rw [this]
  omega
theorem b3_tell {n : Nat} (h : n = 13259 ∨ n = 13271 ∨ n = 8459 ∨ n = 8460 ∨ n = 8461 ∨ n = 119815 ∨ n = 119867 ∨ n = 8473 ∨ n = 119823 ∨ n = 119875 ∨ n = 119927 ∨ n = 120031) : ∃ x t, b3F n = some (.str x t) ∧ x.cps.toList = foldC n := by
  have a := b3_all
  simp only [List.map_cons, List.map_nil, List.cons.injEq, and_true] at a
  obtain ⟨a1, a2, a3, a4, a5, a6, a7, a8, a9, a10, a11, a12⟩ := a
  rcases h with rfl | rfl | rfl | rfl | rfl | rfl | rfl | rfl | rfl | rfl | rfl | rfl
  · obtain ⟨t, e⟩ := text_of a1; exact ⟨_, t, e, by decide⟩
  · obtain ⟨t, e⟩ := text_of a2; exact ⟨_, t, e, by decide⟩
  · obtain ⟨t, e⟩ := text_of a3; exact ⟨_, t, e, by decide⟩
  · obtain ⟨t, e⟩ := text_of a4; exact ⟨_, t, e, by decide⟩
  · obtain ⟨t, e⟩ := text_of a5; exact ⟨_, t, e, by decide⟩
  · obtain ⟨t, e⟩ := text_of a6; exact ⟨_, t, e, by decide⟩
  · obtain ⟨t, e⟩ := text_of a7; exact ⟨_, t, e, by decide⟩
  · obtain ⟨t, e⟩ := text_of a8; exact ⟨_, t, e, by decide⟩
  · obtain ⟨t, e⟩ := text_of a9; exact ⟨_, t, e, by decide⟩
  · obtain ⟨t, e⟩ := text_of a10; exact ⟨_, t, e, by decide⟩
  · obtain ⟨t, e⟩ := text_of a11; exact ⟨_, t, e, by decide⟩
  · obtain ⟨t, e⟩ := text_of a12; exact ⟨_, t, e, by decide⟩
theorem dom_cases {n : Nat} (h : Dom n) (hu : ¬ inB1 n = true) : n = 72 ∨ n = 80 ∨ (n = 13259 ∨ n = 13271 ∨ n = 8459 ∨ n = 8460 ∨ n = 8461 ∨ n = 119815 ∨ n = 119867 ∨ n = 8473 ∨ n = 119823 ∨ n = 119875 ∨ n = 119927 ∨ n = 120031) := by
  rcases h with h | h | h | h | h
  · exact .inr (.inr (.inl h))
  · exact .inr (.inr (.inr (.inl h)))
  · clear hu
    rcases eye_n h with rfl | rfl | rfl | rfl | rfl | rfl <;> decide
  · clear hu
    rcases pee_n h with rfl | rfl | rfl | rfl | rfl | rfl <;> decide
  · exact absurd h hu
theorem c_map {w : World} {p : Program} {loose : List Str} {mean : ExcName → Option Value} {mg mb : Str → Option Value} (dp un : Nat) (gd : Option (List Code)) (cn : Str) (cs : Scope) (a : Addr) (ccd : Value) (cl : List (Str × Addr)) (outer : List Env)
    (A₀ : Around) (base h₀ : Heap) (L : Addr) (m : Str → Option Value) (s : Shared) (Q E : Value → Shared → Prop)
    (n : Nat) (tn : Tok) (news : List (Addr × Obj))
    (B : Below A₀ base outer h₀) (F : Fr h₀ L s.heap m) (X : (K w.params).In h₀) (N : News h₀ L s.heap news)
    (T : Top p loose mean mg mb h₀) (hk : cs.kind = .function) (hdom : Dom n) (hun : ¬ inB1 n = true) (hd : dp + 2 < recursionLimit) (hu : un + 128 < cLine)
    (hret : ∀ (z : Str) (h' : Heap) (tk' : Nat) (t' : Tok), z.cps.toList = foldC n → Fr h₀ L h' m → News h₀ L h' news → Q (.str z t') { s with heap := h', toks := tk' }) :
    wpAny (model rw1.prog w) (ktrTop dp un gd cn cs L a ccd cl outer) (call (.ref 158) [.str ⟨#[n]⟩ tn]) Q E s := by
  rcases dom_cases hdom hun with rfl | rfl | h
  · exact c_mapL72 dp un gd cn cs a ccd cl outer A₀ base h₀ L m s Q E tn news B F X N T hk hd hu (fun h' tk' t' F' N' => hret _ h' tk' t' (by decide) F' N')
  · exact c_mapL80 dp un gd cn cs a ccd cl outer A₀ base h₀ L m s Q E tn news B F X N T hk hd hu (fun h' tk' t' F' N' => hret _ h' tk' t' (by decide) F' N')
  · obtain ⟨x, tx, hv, hx⟩ := b3_tell h
    exact c_mapD dp un gd cn cs a ccd cl outer A₀ base h₀ L m s Q E n tn x tx news B F X N T hk hv hd hu (fun h' tk' t' F' N' => hret _ h' tk' t' hx F' N')
section
variable {prog : Program} {w : World} {A : Around} {E : Value → Shared → Prop} {s : Shared} {h₀ : Heap} {L : Addr}
theorem join_N {D : Addr} {ys : List Value} {zs : List Str} {news : List (Addr × Obj)} {t : Tok} {Q : Value → Shared → Prop} (N : News h₀ L s.heap news) (hm : (D, LCg.lst ys) ∈ news) (hi : StrsAre ys zs) (hok : (zs.map (·.length)).sum ≤ 16777216)
    (h : ∀ t' k, Q (.str (Txt.join (Str.ofString "") zs) t') { s with toks := k }) : wpAny (model prog w) A (call (.builtin "str.join") [.str (Str.ofString "") t, .ref D]) Q E s :=
  join_list (items := ys.toArray) ⟨_, (N _ hm).1, rfl, _, rfl⟩ (by simpa using hi) (hok0 hok) h
end
end Mine
end
section
open PySem PySem.W PyProof.Rows PyProof.V PySem.Spec
namespace Mine
theorem calmW11 : True := by
  w_top off
  exact trivial
local macro_rules | `(tactic| walk_at "call ref") => `(tactic| (k_here; k_dflt (refine' c_typed _ _ _ _ _ _ _ _ _ _ _ _ _ _ _ _ _ _ _ _ _ _ _ ?gB ?gF ?gX ?gN ?gT rfl ?hb ?g1 ?g2 ?_; (case gB => k_asm); (case gF => k_asm); (case gX => assumption); (case gN => k_asm); (case gT => assumption); (case hb => exact isH (by assumption)); (case g1 => omega); (case g2 => first | omega | (unfold ktrTop; (try dsimp only); omega))); intro z9 h9 tk9 t9 hz9 F9 N9))
local macro_rules | `(tactic| walk_at "call ref") => `(tactic| (k_here; k_dflt (refine' c_inb1 _ _ _ _ _ _ _ _ _ _ _ _ _ _ _ _ _ _ _ _ ?gB ?gF ?gX ?gN ?gT rfl  ?g1 ?g2 ?_; (case gB => k_asm); (case gF => k_asm); (case gX => assumption); (case gN => k_asm); (case gT => assumption); (case g1 => omega); (case g2 => first | omega | (unfold ktrTop; (try dsimp only); omega))); intro h9 tk9 F9 N9))
local macro_rules | `(tactic| walk_at "call ref") => `(tactic| (k_here; k_dflt (refine' c_map _ _ _ _ _ _ _ _ _ _ _ _ _ _ _ _ _ _ _ _ ?gB ?gF ?gX ?gN ?gT rfl ?ha ?hb ?g1 ?g2 ?_; (case gB => k_asm); (case gF => k_asm); (case gX => assumption); (case gN => k_asm); (case gT => assumption); (case ha => assumption); (case hb => first | assumption | (rw [Bool.not_eq_true]; assumption)); (case g1 => omega); (case g2 => first | omega | (unfold ktrTop; (try dsimp only); omega))); intro z9 h9 tk9 t9 hz9 F9 N9))
local macro_rules | `(tactic| walk_at "eval ListComp") => `(tactic| (refine Halt.out ?_))
local macro_rules | `(tactic| walk_at "pyIter ref") => `(tactic| (refine Halt.out ?_))
local macro_rules | `(tactic| walk_at "exec For Name Call cons nil") => `(tactic| (k_here; (rename Fr _ _ _ _ => lF'); (with_unfolding_all refine' For_turns lF' ?_; k_whole)))
local macro_rules | `(tactic| walk_at "CompSrc") => `(tactic| (refine Halt.out ?_))
local macro_rules | `(tactic| walk_at "SrcT") => `(tactic| (refine Halt.out ?_))
local macro_rules | `(tactic| walk_at "CompEnd") => `(tactic| (refine Halt.out ?_))
local macro_rules | `(tactic| walk_at "call builtin:str.join") => `(tactic| (refine Halt.out ?_))
local macro_rules | `(tactic| k_all) => `(tactic| (with_reducible assumption))
local macro_rules | `(tactic| k_all) => `(tactic| (refine' List.forall_mem_append.mpr ⟨?aa, ?ab⟩; (case aa => with_reducible assumption); (case ab => k_all)))
local macro_rules | `(tactic| k_ne) => `(tactic| (refine neN ?_; (try dsimp only); omega))
theorem ne_up {L : Addr} {news : List (Addr × Obj)} (h : ∀ p ∈ news, @LT.lt Nat _ p.1 L) : (∀ p ∈ news, p.1 ≠ L + 1) ∧ (∀ p ∈ news, p.1 ≠ L + 1 + 1) ∧ ∀ p ∈ news, p.1 ≠ L + 1 + 1 + 1 := by
  refine ⟨fun p hp => ?_, fun p hp => ?_, fun p hp => ?_⟩ <;> (have := h p hp; exact Nat.ne_of_lt (by omega))
/-- the state of the loop of _law_word -/
def JW (L : Addr) (news : List (Addr × Obj)) (seed : Int) (wl : List Nat) (i : Nat) (_ : Str → Option Value) (nx : List (Addr × Obj)) : Prop :=
  ∃ (o1 o2 o3 : Obj) (x : Str) (tx tsd : Tok) (c : Option Value), nx = (L + 1 + 1 + 1, o1) :: (L + 1 + 1, o2) :: (L + 1, o3) :: news ∧ o1.data = .cell c ∧ o2.data = .cell (some (.int seed tsd)) ∧ o3.data = .cell (some (.str x tx)) ∧ x.cps.toList = growN i wl
/-- the prepared signs -/
def MpR (l : List Nat) (i : Nat) (y : Value) : Prop := ∃ (z : Str) (t : Tok), y = .str z t ∧ ∃ n, l[i]? = some n ∧ z.cps.toList = foldC n
theorem foldC_len (n : Nat) : (foldC n).length ≤ 2 := by
  unfold foldC
  repeat' split
  all_goals decide
theorem fold_in {n : Nat} {x : Str} (h : inB1 n = true) (e : x.cps.toList = []) : x.cps.toList = foldC n := by rw [foldC, if_pos h, e]
theorem news_tl {g h : Heap} {L : Addr} {news : List (Addr × Obj)} {a : Addr × Obj} (N : News g L h (a :: news)) : News g L h news := fun p hp => N p (.tail _ hp)
set_option maxRecDepth 100000 in
set_option maxHeartbeats 8000000 in
theorem c_word {w : World} {p : Program} {loose : List Str} {mean : ExcName → Option Value} {mg mb : Str → Option Value} (dp un : Nat) (gd : Option (List Code)) (cn : Str) (cs : Scope) (a : Addr) (ccd : Value) (cl : List (Str × Addr)) (outer : List Env)
    (A₀ : Around) (base h₀ : Heap) (L : Addr) (m : Str → Option Value) (s : Shared) (Q E : Value → Shared → Prop)
    (word : Str) (tl : Tok) (seed : Int) (ts : Tok) (news : List (Addr × Obj))
    (B : Below A₀ base outer h₀) (F : Fr h₀ L s.heap m) (X : (K w.params).In h₀) (N : News h₀ L s.heap news)
    (T : Top p loose mean mg mb h₀) (hk : cs.kind = .function) (hwl : word.cps.toList.length = 1) (hd : dp + 3 < recursionLimit) (hu : un + 256 < cLine)
    (hret : ∀ (x : Str) (h' : Heap) (tk' : Nat) (t' : Tok), x.cps.toList = growN 3 word.cps.toList → Fr h₀ L h' m → News h₀ L h' news → Q (.str x t') { s with heap := h', toks := tk' }) :
    wpAny (model rw1.prog w) (ktrTop dp un gd cn cs L a ccd cl outer) (call (.ref 170) [.str word tl, .int seed ts]) Q E s := by
  revert X
  k_fill
  intro X
  have X0 := X
  refine wpAny_call ?_
  k_dflt (refine' code_defC ?k1 ?k2 ?k3 ?k4 ?k5 ?kA ?kF ?kK ?k6 ?k7 ?k8 ?k9 ?kB ?kD ?_ ?c2 ?c3 ?c4; (case kA => exact rfl); (case kF => exact rfl); (case kK => assumption); (case k1 => k_asm); (case k2 => k_asm); (case k3 => k_asm); (case k4 => k_asm); (case k5 => k_asm); (case k6 => k_is); (case k7 => k_is); (case k8 => ktr_room); (case k9 => exact BindsTo.of_eq rfl); (case kB => exact rfl); (case kD => decide +kernel); (case c2 => exact rfl); (case c3 => exact rfl); (case c4 => exact rfl); k_whole; intro g' L' h' tk' cells' FG' F' N' Y' B' X' T' l1; (try k_lt l1); k_cells Y'; (try simp only [List.cons_append, List.nil_append] at N'); (try dsimp only); (try k_lift B'); (try k_fold))
  k_steps
  unfold Halt
  rename News _ _ _ ((L' + 1 + 1 + 1, _) :: _) => N9
  rename Obj.data _ = Data.cell (bindC _ _ _ (Str.ofString "word")) => dw
  rename Obj.data _ = Data.cell (bindC _ _ _ (Str.ofString "seed")) => dsd
  rename Obj.data _ = Data.cell (bindC _ _ _ (Str.ofString "step")) => dst
  refine' tn_range (JW L' news seed word.cps.toList) (by rfl) (by assumption) (by decide) (by first | rfl | decide) (by assumption) N9 (fun _ h => h) ⟨_, _, _, word, tl, ts, _, rfl, dst, dsd, dw, rfl⟩ ?turn ?done
  case turn =>
    rintro i t m₁ nx h tk own hi hoff ⟨o1, o2, o3, x, tx, tsd, c, rfl, d1, d2, d3, hx⟩ F2 N2
    simp only [List.cons_append] at N2
    have q1 : ∀ p ∈ own, p.1 ≠ L' + 1 + 1 + 1 := hoff.ne List.mem_cons_self
    have q2 : ∀ p ∈ own, p.1 ≠ L' + 1 + 1 := hoff.ne (List.mem_cons_of_mem _ List.mem_cons_self)
    have q3 : ∀ p ∈ own, p.1 ≠ L' + 1 := hoff.ne (List.mem_cons_of_mem _ (List.mem_cons_of_mem _ List.mem_cons_self))
    obtain ⟨r3, r2, r1⟩ := ne_up l1
    have hlx : x.length ≤ 4 := by
      have h1 := congrArg List.length hx
      rw [growN_len, hwl, Nat.mul_one] at h1
      have h2 := pow3 hi
      have e : x.length = x.cps.toList.length := by simp [Str.length]
      omega
    k_steps
    unfold Halt
    k_dflt (refine LCg.ListComp_U (F₀ := by k_asm) (by with_unfolding_all rfl) (by decide) (by rfl) (by decide) (by rfl) ?_)
    k_steps
    unfold Halt
    refine LCg.CompSrc.range (n := x.length) (by rfl) (by k_asm) (by k_asm) (by assumption) ?hsm ?hrs ?hsz ?_
    case hsm => exact small_one (by omega) (by omega) (by omega) (by omega)
    case hrs => rw [rangeSize_nat]; omega
    case hsz => rw [PySem.sizeLine_eq]; omega
    intro g9
    refine ctr_rest (TyR x.cps.toList) ?_ ?_
    · rintro k v I oI C oC D m₂ ys h3 tk3 E3 hkn ⟨t3, rfl⟩ hC hx3 F3 N3 off3 ne3
      k_steps
      unfold Halt
      rename News g' L' _ ((I, _) :: _) => N4
      rename TypedOk _ _ => hz4
      exact LCg.CompEnd.intro (by assumption) N4 _ (fun p hp => hp) off3 trivial ⟨rfl, _, _, rfl, hz4⟩
    · intro ys hys hyR
      obtain ⟨zs, hS, hzl, hzR⟩ := strs_of (R := fun i z => TypedOk (decide (x.cps.toList[i]? = some 104)) z) (k := 0) (fun i y hy => by rw [Nat.zero_add]; exact hyR i y hy)
      simp only [Nat.zero_add] at hzR
      unfold LCg.FinE
      intro D9 h9 tk9 F9 N9 o9
      k_steps
      unfold Halt
      refine join_N N9 List.mem_cons_self hS ?_ ?_
      · have := len_sum (k := 3) (zs := zs) (fun i z hz => len_typed (hzR i z hz))
        omega
      intro t9 k9
      have N6 := news_tl N9
      clear N9
      k_steps
      unfold Halt
      have ejn := join_cps zs
      have hjl : (Txt.join (Str.ofString "") zs).cps.size ≤ 12 := by
        have h1 := len_sum (k := 3) (zs := zs) (fun i z hz => len_typed (hzR i z hz))
        have h2 := congrArg List.length ejn
        rw [flat_len] at h2
        simp only [Array.length_toList] at h2
        omega
      have hzx : zs.length = x.cps.toList.length := by
        rw [hzl, hys]
        simp [Str.length]
      have hfold : (Txt.join (Str.ofString "") zs).cps.toList.flatMap foldC = grow x.cps.toList := by rw [ejn]; exact fold_all hzx hzR
      have hdm : ∀ n ∈ (Txt.join (Str.ofString "") zs).cps.toList, Dom n := by rw [ejn]; exact dom_all hzR
      k_dflt (refine ListComp_T (by k_asm) (by with_unfolding_all rfl) (by decide) (by rfl) (by decide) (by rfl) ?_)
      k_steps
      unfold Halt
      refine ⟨_, _, _, rfl, by rfl, by assumption, by assumption, by (rw [PySem.sizeLine_eq]; omega), fun g8 => ?_⟩
      refine ctr_rest (MpR (Txt.join (Str.ofString "") zs).cps.toList) ?_ ?_
      · rintro k v I oI C oC D m₂ ys h3 tk3 E3 hkn ⟨n, t3, hn, rfl⟩ hC hx3 F3 N3 off3 ne3
        have hn' : (Txt.join (Str.ofString "") zs).cps.toList[k]? = some n := by simpa using hn
        have hdn := hdm n (List.mem_of_getElem? hn')
        k_steps
        case _ =>
          unfold Halt
          rename News g' L' _ ((I, _) :: _) => N4
          rename inB1 _ = true => hu4
          exact LCg.CompEnd.intro (by assumption) N4 _ (fun p hp => hp) off3 trivial ⟨rfl, _, _, rfl, n, hn', fold_in hu4 rfl⟩
        case _ =>
          unfold Halt
          rename News g' L' _ ((I, _) :: _) => N4
          rename _ = foldC _ => hz4
          exact LCg.CompEnd.intro (by assumption) N4 _ (fun p hp => hp) off3 trivial ⟨rfl, _, _, rfl, n, hn', hz4⟩
      · intro ys2 hys2 hyR2
        obtain ⟨zs2, hS2, hzl2, hzR2⟩ := strs_of (R := fun i z => ∃ n, (Txt.join (Str.ofString "") zs).cps.toList[i]? = some n ∧ z.cps.toList = foldC n) (k := 0) (fun i y hy => by rw [Nat.zero_add]; exact hyR2 i y hy)
        simp only [Nat.zero_add] at hzR2
        have hff := flat_fold (l := (Txt.join (Str.ofString "") zs).cps.toList) (zs := zs2) (by rw [hzl2, hys2]; simp) hzR2
        unfold LCg.FinE
        intro D8 h8 tk8 F8 N8 o8
        k_steps
        unfold Halt
        refine join_N N8 List.mem_cons_self hS2 ?_ ?_
        · have := len_sum (k := 2) (zs := zs2) (fun i z hz => by
            obtain ⟨n, _, e⟩ := hzR2 i z hz
            have h1 := foldC_len n
            rw [← e] at h1
            simpa [Str.length] using h1)
          omega
        intro t8 k8
        have N7 := news_tl N8
        clear N8
        k_steps
        rename News g' L' _ ((L' + 1 + 1 + 1, _) :: _) => N5
        rename Obj.data _ = Data.cell (some (Value.str (Txt.join (Str.ofString "") zs2) _)) => dw5
        rename Obj.data _ = Data.cell (some (Value.int (0 + (i : Int)) _)) => ds5
        exact InvEndG.intro (by assumption) N5 ⟨_, _, _, _, _, _, _, rfl, ds5, d2, dw5, by rw [join_cps, hff, hfold, hx]; rfl⟩ hoff (fun p hp => (List.mem_append_left own hp : p ∈ (_ :: _ :: _ :: news) ++ own)) (fun p hp => .tail _ (.tail _ (.tail _ (List.mem_append_right news hp))))
  case done =>
    rintro m₁ nx h tk ⟨o1, o2, o3, x, tx, tsd, c, rfl, d1, d2, d3, hx⟩ F2 N2
    k_steps
    exact hret _ _ _ _ hx (by assumption) (of_news3 (by assumption))
end Mine
end
section
open PySem PySem.W PyProof.Rows PyProof.V PySem.Spec
namespace Mine
theorem calmW12 : True := by
  w_top off
  exact trivial
local macro_rules | `(tactic| walk_at "eval ListComp") => `(tactic| (refine Halt.out ?_))
local macro_rules | `(tactic| walk_at "CompSrc") => `(tactic| (refine Halt.out ?_))
local macro_rules | `(tactic| walk_at "CompEnd") => `(tactic| (refine Halt.out ?_))
local macro_rules | `(tactic| walk_at "call builtin:sum") => `(tactic| (refine Halt.out ?_))
/-- the column, told run by run by division -/
def colP (tail size : Int) (ns : List Int) : Int := tail + size * (ns.map fun m => m.fdiv size + 1).sum
theorem ints_map {f : Int → Int} : ∀ {ys : List Value} {ns : List Int}, ys.length = ns.length → (∀ (i : Nat) (y : Value), ys[i]? = some y → ∃ n t, ns[i]? = some n ∧ y = .int (f n) t) → IntsAre ys (ns.map f)
  | [], [], _, _ => .nil
  | [], _ :: _, h, _ => by simp at h
  | _ :: _, [], h, _ => by simp at h
  | y :: ys, n :: ns, h, hy => by
    obtain ⟨n', t, h1, rfl⟩ := hy 0 y rfl
    cases h1
    exact .cons _ t (ints_map (by simpa using h) fun i z hz => by simpa using hy (i + 1) z (by simpa using hz))
/-- an item of the column -/
def ColR (size : Int) (ns : List Int) (i : Nat) (y : Value) : Prop := ∃ n t, ns[i]? = some n ∧ y = .int (n.fdiv size + 1) t
theorem news_tl2 {g h : Heap} {L : Addr} {news : List (Addr × Obj)} {a b : Addr × Obj} (N : News g L h (a :: b :: news)) : News g L h news := fun p hp => N p (.tail _ (.tail _ hp))
set_option maxRecDepth 100000 in
set_option maxHeartbeats 8000000 in
theorem c_column {w : World} {p : Program} {loose : List Str} {mean : ExcName → Option Value} {mg mb : Str → Option Value} (dp un : Nat) (gd : Option (List Code)) (cn : Str) (cs : Scope) (a : Addr) (ccd : Value) (cl : List (Str × Addr)) (outer : List Env)
    (A₀ : Around) (base h₀ : Heap) (L : Addr) (m : Str → Option Value) (s : Shared) (Q E : Value → Shared → Prop)
    (ad : Addr) (tail : Int) (tt : Tok) (size : Int) (ts : Tok) (vs : List Value) (ns : List Int) (cap : Nat) (news : List (Addr × Obj))
    (B : Below A₀ base outer h₀) (F : Fr h₀ L s.heap m) (X : (K w.params).In h₀) (N : News h₀ L s.heap news)
    (T : Top p loose mean mg mb h₀) (hk : cs.kind = .function) (hm : (ad, listOf vs.toArray cap) ∈ news) (hi : IntsAre vs ns) (hlen : ns.length ≤ 64) (hns : ∀ m ∈ ns, 0 ≤ m ∧ m < 2 ^ 20) (hsz : 1 ≤ size ∧ size < 2 ^ 20) (htl : 0 ≤ tail ∧ tail < 2 ^ 20) (hd : dp + 2 < recursionLimit) (hu : un + 128 < cLine)
    (hret : ∀ (h' : Heap) (tk' : Nat) (t' : Tok), Fr h₀ L h' m → News h₀ L h' news → Q (.int (colP tail size ns) t') { s with heap := h', toks := tk' }) :
    wpAny (model rw1.prog w) (ktrTop dp un gd cn cs L a ccd cl outer) (call (.ref 175) [.ref ad, .int tail tt, .int size ts]) Q E s := by
  revert X
  k_fill
  intro X
  have X0 := X
  refine wpAny_call ?_
  k_dflt (refine' code_defC ?k1 ?k2 ?k3 ?k4 ?k5 ?kA ?kF ?kK ?k6 ?k7 ?k8 ?k9 ?kB ?kD ?_ ?c2 ?c3 ?c4; (case kA => exact rfl); (case kF => exact rfl); (case kK => assumption); (case k1 => k_asm); (case k2 => k_asm); (case k3 => k_asm); (case k4 => k_asm); (case k5 => k_asm); (case k6 => k_is); (case k7 => k_is); (case k8 => ktr_room); (case k9 => exact BindsTo.of_eq rfl); (case kB => exact rfl); (case kD => decide +kernel); (case c2 => exact rfl); (case c3 => exact rfl); (case c4 => exact rfl); k_whole; intro g' L' h' tk' cells' FG' F' N' Y' B' X' T' l1; (try k_lt l1); k_cells Y'; (try simp only [List.cons_append, List.nil_append] at N'); (try dsimp only); (try k_lift B'); (try k_fold))
  k_steps
  unfold Halt
  rename News g' L' _ ((L' + 1, _) :: news) => N8
  have hvl : vs.length = ns.length := hi.length
  k_dflt (refine LCg.ListComp_U (F₀ := by k_asm) (by with_unfolding_all rfl) (by decide) (by rfl) (by decide) (by rfl) ?_)
  k_steps
  unfold Halt
  refine LCg.CompSrc.ledger (k := cap) (its := vs.toArray) (by rfl) (by k_asm) N8 (List.mem_cons_of_mem _ hm) ?hsz ?_
  case hsz => rw [PySem.sizeLine_eq, List.size_toArray]; omega
  intro g9
  refine ctr_rest (ColR size ns) ?_ ?_
  · rintro k v I oI C oC D m₂ ys h3 tk3 E3 hkn hv hC hx3 F3 N3 off3 ne3
    obtain ⟨n, t3, rfl, hn⟩ := IntsAre.at hi k v (by simpa using hv)
    k_steps
    unfold Halt
    rename News g' L' _ ((I, _) :: _) => N4
    exact LCg.CompEnd.intro (by assumption) N4 _ (fun p hp => hp) off3 (.inr ⟨_, List.mem_cons_of_mem _ hm, rfl, _, rfl⟩) ⟨rfl, _, _, hn, rfl⟩
  · intro ys hys hyR
    have hI := ints_map (f := fun m => m.fdiv size + 1) (ns := ns) (by rw [hys, List.size_toArray, hvl]) hyR
    unfold LCg.FinE
    intro D9 h9 tk9 F9 N9 o9
    k_steps
    unfold Halt
    refine LSm.sum_ints (m := _) (by k_asm) N9 (by rfl) ⟨_, (N9 _ List.mem_cons_self).1, rfl, _, rfl⟩ hI ?_
    intro h7 tk7 t7 F7 N7
    k_steps
    exact hret _ _ _ (by assumption) (news_tl2 (by assumption))
end Mine
end
section
open PySem PySem.W PyProof.Rows Mine
namespace Mine
theorem calmW13 : True := by
  w_top off
  exact trivial
/-- what law's end must show -/
def Good1 (s₁ : Shared) (r : Result) (s' : Shared) : Prop := r = .ok (.ret (.bool true)) ∧ (∀ b o, s₁.heap.get? b = some o → s'.heap.get? b = some o) ∧ s'.os = s₁.os ∧ AllBare s'.gens
theorem good1_end {s₀ s₁ s' : Shared} {args : List WData} {r : Result} (h : Good1 s₁ r s') : GoodWG rw1.claim (classAt s₀.heap) (ExcName.means s₀.heap) args s₁ r s' := by
  obtain ⟨rfl, h1, h2, h3⟩ := h
  refine ⟨.inl ⟨_, .bool true, [], rfl, fun _ => rfl, ?_, ?_, ?_⟩, .of_keep h1, h2, h3⟩
  · exact .bool true
  · kernel_rfl
  · intro _
    exact ⟨List.nodup_nil, fun a h => nomatch h⟩
set_option maxRecDepth 100000 in
/-- the law is well said: look by look, so that no step of the kernel is long -/
theorem law_said : PySem.Challenge.rw_st0041_01.wellSaid = true := by
  unfold OpenLaw.wellSaid
  repeat' with_reducible refine look_both ?_ ?_
  case refine_1.refine_1.refine_1.refine_1.refine_1.refine_1.refine_1.refine_1.refine_1.refine_1.refine_1.refine_1.refine_1.refine_1.refine_1.refine_1.refine_1.refine_1 =>
    unfold OpenRow.wellSaid OpenRow.partSaid looksOpen
    repeat' with_reducible refine look_both ?_ ?_
    all_goals decide +kernel
  all_goals decide +kernel
set_option maxRecDepth 100000 in
set_option maxHeartbeats 8000000 in
noncomputable def RH : { R : Prop // R → PySem.Challenge.rw_st0041_01.Holds } := by
  refine ⟨?R, ?h⟩
  case h =>
    intro r
    w_on
    refine holds_law law_said fun said => ?_
    refine my_holds (by assumption) (by rfl) (by rfl) (by rfl) (by decide +kernel) ⟨rfl, rfl, rfl, rfl, rfl, by decide +kernel⟩ ?hw ?hc
    case hw => w_witness2
    clear said
    k_fill
    intro w s₀ s₁ mg mb G KX fa o pm cd doc dV kV ho hd hcd hD hmg hg args vals as hpre hlay hrd hwl hlo
    refine Ground.open G ?_
    intro T B D TE TW
    try (refine guard_noD D (by decide +kernel) ?_; clear D)
    have TA := at_of_top T
    try (obtain ⟨_, _, he, B0⟩ := based_of_top T rfl hmg ho hd; have he' : cd = _ := he; subst he'; clear he)
    clear hmg
    wrow_args hpre hlay hrd hwl hlo
    all_goals (
      first | refine callC_kw (enter_call ?_) | refine enter_call ?_ | refine callC_kw (enter_callW ?_) | refine enter_callW ?_ | w_how
      w_top on
      refine codeAny_mono ?_ (fun _ _ g => good1_end (s₀ := s₀) g)
      have K0 := below_caller (Top.heap T)
      w_call any ho hd hcd hD T F
      clear hd TA
      k_drop)
    obtain ⟨p', loose', mean', T'⟩ : ∃ (p' : Program) (loose' : List Str) (mean' : ExcName → Option Value), Top p' loose' mean' mg mb s₁.heap := ⟨_, _, _, T⟩
    have K0' : Below callerA s₁.heap [] s₁.heap := K0
    rename s₁.heap.IsList _ _ => hL9
    rename IntsAre _ _ => hI9
    rename ¬ ((63 : Nat) : Int) < _ => hc9
    rename News _ _ _ _ => N9
    rename Obj.data _ = Data.cell (bindC _ _ _ (Str.ofString "script")) => d1
    rename Obj.data _ = Data.cell (bindC _ _ _ (Str.ofString "begun")) => d2
    rename Obj.data _ = Data.cell (bindC _ _ _ (Str.ofString "step")) => d3
    rename Obj.data _ = Data.cell (bindC _ _ _ (Str.ofString "tails")) => d4
    rename Obj.data _ = Data.cell (bindC _ _ _ (Str.ofString "hands")) => d5
    rename Obj.data _ = Data.cell (bindC _ _ _ (Str.ofString "gap")) => d6
    (try (rename Well _ _ _ _ => z; clear z))
    (try (rename Reads _ _ _ _ => z; clear z))
    (try (rename ReadsAllW _ _ _ _ _ _ => z; clear z))
    (try (rename ReadsAll _ _ _ _ => z; clear z))
    (try (rename CellsAre _ _ _ => z; clear z))
    (try clear hcd); (try clear hD); (try clear K0); (try clear TE); (try clear TW); (try clear B); (try clear T); (try clear ho); (try clear G)
    repeat (rename (_ : Bool) = true => z; clear z)
    (try (rename True => z; clear z))
    rename_i a13 a12 ns a10 a9 ad vs a6 hh tkk o6 o5 o4 o3 o2 o1
    revert w s₀ s₁ mg mb KX fa o pm doc hg a13 a12 ns a10 a9 ad vs a6 hL9 hI9 hc9 hh tkk F o6 o5 o4 o3 o2 o1 d6 d5 d4 d3 d2 d1 N9 p' loose' mean' T' K0'
    exact r
end Mine
end
section
open PySem PySem.W PyProof.Rows PyProof.V PySem.Spec
namespace Mine
theorem calmW14 : True := by
  w_top off
  exact trivial
local macro_rules | `(tactic| walk_at "exec Assign cons ListComp") => `(tactic| (refine Halt.out ?_))
local macro_rules | `(tactic| walk_at "exec For Tuple Call") => `(tactic| (refine Halt.out ?_))
local macro_rules | `(tactic| walk_at "exec For Tuple Call cons nil") => `(tactic| (refine Halt.out ?_))
local macro_rules | `(tactic| walk_at "eval ListComp") => `(tactic| (refine Halt.out ?_))
local macro_rules | `(tactic| walk_at "pyIter ref") => `(tactic| (refine Halt.out ?_))
local macro_rules | `(tactic| walk_at "CompSrc") => `(tactic| (refine Halt.out ?_))
local macro_rules | `(tactic| walk_at "CompEnd") => `(tactic| (refine Halt.out ?_))
local macro_rules | `(tactic| walk_at "call builtin:sum") => `(tactic| (refine Halt.out ?_))
local macro_rules | `(tactic| walk_at "call builtin:str.join") => `(tactic| (refine Halt.out ?_))
/-- an item that is a number -/
def IntR (_ : Nat) (y : Value) : Prop := ∃ z t, y = .int z t
theorem ints_of : ∀ {ys : List Value}, (∀ (i : Nat) (y : Value), ys[i]? = some y → IntR i y) → ∃ zs, IntsAre ys zs ∧ zs.length = ys.length
  | [], _ => ⟨[], .nil, rfl⟩
  | y :: ys, h => by
    obtain ⟨z, t, rfl⟩ := h 0 y rfl
    obtain ⟨zs, h1, h2⟩ := ints_of (ys := ys) (fun i y hy => h (i + 1) y (by simpa using hy))
    exact ⟨z :: zs, .cons z t h1, by simp [h2]⟩
local macro_rules | `(tactic| walk_at "call ref") => `(tactic| (k_here; k_dflt (refine' c_word _ _ _ _ _ _ _ _ _ _ _ _ _ _ _ _ _ _ _ _ _ _ ?gB ?gF ?gX ?gN ?gT rfl ?hl ?g1 ?g2 ?_; (case gB => k_asm); (case gF => k_asm); (case gX => assumption); (case gN => k_asm); (case gT => assumption); (case hl => rfl); (case g1 => exact Nat.le_of_ble_eq_true rfl); (case g2 => exact Nat.le_of_ble_eq_true rfl)); intro x9 h9 tk9 t9 hx9 F9 N9))
/-- a letter of the word that is asked -/
abbrev letF (bg : Int) (k : Nat) : Str := Txt.item (Str.ofString "hp") ((bg + (0 + (k : Int)) + (0 + (k : Int)).fdiv 2 + (0 + (k : Int)).fdiv 4).fmod 2)
def LetR (bg : Int) (i : Nat) (y : Value) : Prop := ∃ t, y = .str (letF bg i) t
theorem strs_are {f : Nat → Str} {n : Nat} {zs : List Str} (h : zs.length = n) (hz : ∀ (i : Nat) (z : Str), zs[i]? = some z → z = f i) : zs = (List.range n).map f := by
  apply List.ext_getElem?
  intro i
  by_cases hi : i < n
  · rw [List.getElem?_eq_getElem (by omega)]
    have := hz i zs[i] (List.getElem?_eq_getElem (by omega))
    simp [hi, this]
  · rw [List.getElem?_eq_none (by omega), List.getElem?_eq_none (by simp; omega)]
theorem word_asked {bg : Int} (hb : bg = 0 ∨ bg = 1) : ((List.range 8).map (letF bg)).flatMap (·.cps.toList) = growN 3 (Txt.item (Str.ofString "hp") bg).cps.toList := by
  rcases hb with rfl | rfl <;> decide +kernel
theorem letF_len {bg : Int} : (((List.range 8).map (letF bg)).map (·.length)).sum ≤ 16777216 := by
  show 8 ≤ 16777216
  decide
/-- law's state ahead of its loop -/
inductive StB (w : World) (s₁ : Shared) (h : Heap) : Prop where
  | mk (mg mb : Str → Option Value) (p : Program) (loose : List Str) (mean : ExcName → Option Value) (u : Str → Option Value) (x : Str) (bg st sp t0 t1 : Int) (lH l1 l0 lT : Addr) (o6 oh ot os ob o1 : Obj) (c6 : Option Value) (tm ts tw ta tb tc td te tf tsp : Tok)
    (f0 : s₁.gens = #[])
    (f1 : (K w.params).In s₁.heap)
    (f2 : Top p loose mean mg mb s₁.heap)
    (f3 : Below callerA s₁.heap [] s₁.heap)
    (f4 : Fr s₁.heap s₁.heap.objs.size h (fun y => if y = Str.ofString "mark" then some (.int 0 tm) else if y = Str.ofString "start" then some (.int st ts) else if y = Str.ofString "word" then some (.str x tw) else u y))
    (f5 : News s₁.heap s₁.heap.objs.size h [(lH, listOf #[.ref l0, .ref l1] 0), (l1, listOf #[.int st ta, .int st tb] 0), (l0, listOf #[.int st tc, .int st td] 0), (lT, listOf #[.int t0 te, .int t1 tf] 0),
    (s₁.heap.objs.size + 1 + 1 + 1 + 1 + 1 + 1, o6), (s₁.heap.objs.size + 1 + 1 + 1 + 1 + 1, oh), (s₁.heap.objs.size + 1 + 1 + 1 + 1, ot), (s₁.heap.objs.size + 1 + 1 + 1, os), (s₁.heap.objs.size + 1 + 1, ob), (s₁.heap.objs.size + 1, o1)])
    (f6 : o6.data = .cell c6)
    (f7 : oh.data = .cell (some (.ref lH)))
    (f8 : ot.data = .cell (some (.ref lT)))
    (f9 : os.data = .cell (some (.int sp tsp)))
    (f10 : (@LT.lt Nat _ (s₁.heap.objs.size + 1 + 1 + 1 + 1 + 1 + 1) lT ∧ @LT.lt Nat _ lT l0 ∧ @LT.lt Nat _ l0 l1 ∧ @LT.lt Nat _ l1 lH))
    (f11 : (1 ≤ st ∧ st ≤ 6))
    (f12 : (1 ≤ sp ∧ sp ≤ 3))
    (f13 : (0 ≤ t0 ∧ t0 ≤ 2))
    (f14 : (0 ≤ t1 ∧ t1 ≤ 2))
    (f15 : (bg = 0 ∨ bg = 1))
    (f16 : x.cps.toList = growN 3 (Txt.item (Str.ofString "hp") bg).cps.toList) : StB w s₁ h
theorem fr_cut {P : Prop} {g h : Heap} {L : Addr} {M : Str → Option Value} {a b c : Str} {va vb vc : Value} (F : Fr g L h M) (e1 : M a = some va) (e2 : M b = some vb) (e3 : M c = some vc)
    (k : ∀ u : Str → Option Value, Fr g L h (fun y => if y = a then some va else if y = b then some vb else if y = c then some vc else u y) → P) : P := by
  refine k M ?_
  have e : (fun y => if y = a then some va else if y = b then some vb else if y = c then some vc else M y) = M := by
    funext y
    by_cases ha : y = a
    · rw [if_pos ha, ha, e1]
    · rw [if_neg ha]
      by_cases hb : y = b
      · rw [if_pos hb, hb, e2]
      · rw [if_neg hb]
        by_cases hc : y = c
        · rw [if_pos hc, hc, e3]
        · rw [if_neg hc]
  rw [e]
  exact F
theorem fm_bd (x : Int) {m : Int} (h : 0 < m) : 0 ≤ x.fmod m ∧ x.fmod m < m := ⟨Int.fmod_nonneg_of_pos x h, Int.fmod_lt_of_pos x h⟩
theorem news_no5 {g h : Heap} {L : Addr} {a b c d e : Addr × Obj} {r : List (Addr × Obj)} (N : News g L h (a :: b :: c :: d :: e :: r)) : News g L h (a :: b :: c :: d :: r) := fun p hp => N p (by
  simp only [List.mem_cons] at hp ⊢
  rcases hp with h | h | h | h | h
  · exact .inl h
  · exact .inr (.inl h)
  · exact .inr (.inr (.inl h))
  · exact .inr (.inr (.inr (.inl h)))
  · exact .inr (.inr (.inr (.inr (.inr h)))))
theorem three_ints {ys : List Value} (hys : ys.length = 3) (h : ∃ ds, IntsAre ys ds ∧ ds.length = ys.length) : ∃ x0 x1 x2 tx0 tx1 tx2, ys = [.int x0 tx0, .int x1 tx1, .int x2 tx2] := by
  obtain ⟨ds, hds, hdl⟩ := h
  clear hdl
  cases hds with
  | nil => cases hys
  | cons x0 tx0 h1 =>
    cases h1 with
    | nil => cases hys
    | cons x1 tx1 h2 =>
      cases h2 with
      | nil => cases hys
      | cons x2 tx2 h3 =>
        cases h3 with
        | nil => exact ⟨x0, x1, x2, tx0, tx1, tx2, rfl⟩
        | cons x3 tx3 h4 =>
          simp only [List.length_cons] at hys
          omega
set_option maxRecDepth 100000 in
set_option maxHeartbeats 8000000 in
noncomputable def RB : { G : World → Shared → Addr → Addr → Heap → Nat → Prop // (∀ w s₁ fa a13 h tk, StB w s₁ h → G w s₁ fa a13 h tk) → RH.1 } := by
  refine ⟨?G, ?h⟩
  case h =>
    intro r
    dsimp only [RH]
    k_fill
    intro w s₀ s₁ mg mb KX fa o pm doc hg a13 a12 ns a10 a9 ad vs a6 hL9 hI9 hc9 hh tkk F o6 o5 o4 o3 o2 o1 d6 d5 d4 d3 d2 d1 N9 p' loose' mean' T' K0'
    try k_fold
    k_steps
    unfold Halt
    k_dflt (refine LCg.Assign_ListComp_U (F₀ := by k_asm) (by rfl) (by with_unfolding_all rfl) (by with_unfolding_all rfl) (by decide) (by rfl) (by decide) (by rfl) (by rfl) (by rfl) ?_)
    k_steps
    unfold Halt
    refine LCg.CompSrc.range (n := 3) (by rfl) (by k_asm) (by k_asm) (by assumption) (by decide) (by first | rfl | decide) (by rw [PySem.sizeLine_eq]; omega) ?_
    intro g9
    refine ctr_rest IntR ?_ ?_
    · rintro k v I oI C oC D m₂ ys h3 tk3 E3 hkn ⟨t3, rfl⟩ hC hx3 F3 N3 off3 ne3
      have hk3 : k = 0 ∨ k = 1 ∨ k = 2 := by omega
      k_steps
      unfold Halt
      rename News _ _ _ ((_, listOf _ 0) :: _) => N4
      refine LSm.sum_ints (by k_asm) N4 (by rfl) ⟨_, (N4 _ List.mem_cons_self).1, rfl, _, rfl⟩ (by first | exact IntsAre.pick hI9 _ _ _ | (simp only [Array.toList_toArray]; exact IntsAre.pick hI9 _ _ _)) ?_
      intro h7 tk7 t7 F7 N7
      clear N4
      k_steps
      unfold Halt
      exact LCg.CompEnd.intro F7 N7 _ (fun p hp => .tail _ (.tail _ hp)) off3 trivial ⟨rfl, _, _, rfl⟩
    · intro ys hys hyR
      obtain ⟨x0, x1, x2, tx0, tx1, tx2, rfl⟩ := three_ints hys (ints_of hyR)
      · skip
        unfold LCg.FinA
        intro D9 h9 tk9 F9 N9' o9
        simp only [LCg.Off1, and_true] at o9
        (try dsimp only)
        k_steps
        unfold Halt
        rename Array.toList _ = growN 3 _ => hx9
        rename Str => x9
        have hbg : (x1.fdiv 3).fmod 2 = 0 ∨ (x1.fdiv 3).fmod 2 = 1 := by
          have h1 := Int.fmod_lt_of_pos (x1.fdiv 3) (by decide : (0 : Int) < 2)
          have h2 := Int.fmod_nonneg_of_pos (x1.fdiv 3) (by decide : (0 : Int) < 2)
          omega
        k_dflt (refine LCg.ListComp_U (F₀ := by k_asm) (by with_unfolding_all rfl) (by decide) (by rfl) (by decide) (by rfl) ?_)
        k_steps
        unfold Halt
        refine LCg.CompSrc.range (n := 8) (by rfl) (by k_asm) (by k_asm) (by assumption) (by decide) (by first | rfl | decide) (by rw [PySem.sizeLine_eq]; omega) ?_
        intro g8
        refine ctr_rest (LetR ((x1.fdiv 3).fmod 2)) ?_ ?_
        · rintro k v I oI C oC D m₂ ys h3 tk3 E3 hkn ⟨t3, rfl⟩ hC hx3 F3 N3 off3 ne3
          k_steps
          unfold Halt
          rename News _ _ _ ((I, _) :: _) => N4
          exact LCg.CompEnd.intro (by assumption) N4 _ (fun p hp => hp) off3 trivial ⟨rfl, _, rfl⟩
        · intro ys2 hys2 hyR2
          obtain ⟨zs, hS, hzl, hzR⟩ := strs_of (R := fun i z => z = letF ((x1.fdiv 3).fmod 2) i) (k := 0) (fun i y hy => by obtain ⟨t, e⟩ := hyR2 i y hy; rw [Nat.zero_add]; exact ⟨_, t, e, rfl⟩)
          simp only [Nat.zero_add] at hzR
          have hzs := strs_are (hzl.trans hys2) hzR
          unfold LCg.FinE
          intro D8 h8 tk8 F8 N8 o8
          simp only [LCg.Off1, and_true] at o8
          k_steps
          unfold Halt
          refine join_N N8 List.mem_cons_self hS (by rw [hzs]; exact letF_len) ?_
          intro t8 k8
          have N7 := news_tl N8
          clear N8
          have hjw : Txt.join (Str.ofString "") zs = x9 := by
            have h1 : (Txt.join (Str.ofString "") zs).cps = x9.cps := by
              apply Array.toList_inj.mp
              rw [join_cps, hzs, hx9]
              exact word_asked hbg
            obtain ⟨a⟩ := x9
            exact congrArg Str.mk h1
          rw [hjw]
          k_steps
          case _ =>
            rename (x9 != x9) = true => hz
            exact absurd hz (by simp)
          unfold Halt
          rename Fr _ _ _ (fun y => if y = Str.ofString "mark" then _ else _) => F5
          rename News _ _ _ [_, _, _, _, _, _, _, _, _, _, _] => N5
          rename Heap => hz9
          generalize tk + 1 + 1 = tkz
          refine r w s₁ fa a13 hz9 tkz ?_
          refine fr_cut (a := Str.ofString "mark") (b := Str.ofString "start") (c := Str.ofString "word") F5 rfl rfl rfl fun u F6 => ?_
          refine ⟨mg, mb, p', loose', mean', u, x9, (x1.fdiv 3).fmod 2, _, _, _, _, _, _, _, _, _, _, _, _, _, _, _, _, _, _, _, _, _, _, _, _, _, hg, KX, T', K0', F6, news_no5 N5, d6, by assumption, by assumption, by assumption, ?_, ?_, ?_, ?_, ?_, hbg, hx9⟩
          · omega
          · have := fm_bd x0 (by decide : (0 : Int) < 6)
            show 1 ≤ 1 + x0.fmod 6 ∧ 1 + x0.fmod 6 ≤ 6
            omega
          · have := fm_bd x1 (by decide : (0 : Int) < 3)
            show 1 ≤ 1 + x1.fmod 3 ∧ 1 + x1.fmod 3 ≤ 3
            omega
          · have := fm_bd x2 (by decide : (0 : Int) < 3)
            show 0 ≤ x2.fmod 3 ∧ x2.fmod 3 ≤ 2
            omega
          · have := fm_bd (x2.fdiv 3) (by decide : (0 : Int) < 3)
            show 0 ≤ (x2.fdiv 3).fmod 3 ∧ (x2.fdiv 3).fmod 3 ≤ 2
            omega
end Mine
end
section
open PySem PySem.W PyProof.Rows PyProof.V PySem.Spec PySem.Calls
namespace Mine
section
variable {prog : Program} {w : World} {A : Around} {E : Value → Shared → Prop} {s : Shared}
theorem nextOf_text {it : Addr} {x : Str} {t : Tok} {i c : Nat} {Q : Value → Shared → Prop} (hit : s.heap.IsStrIter it "str_ascii_iterator" x t i) (hx : x.cps[i]? = some c)
    (hQ : ∀ h', h'.IsStrIter it "str_ascii_iterator" x t (i + 1) → Heap.SameBut it s.heap h' → Q (.str ⟨#[c]⟩ s.toks) { s with heap := h', toks := s.toks + 1 }) :
    wpAny (model prog w) A (Builtin.SmallTypes.nextOf (.ref it)) Q E s := by
  obtain ⟨o, ho, hc, hd⟩ := id hit
  unfold Builtin.SmallTypes.nextOf
  refine wpAny_bind (wpAny_callSpecial?_slot (name := Str.ofString "__next__") hit.typeIs F.slot_str_ascii_iterator_next
    (wpAny_call_entry F.slot_str_ascii_iterator_next hit.typeIs F.entry_str_ascii_iterator_next ?_ (F.args_str_ascii_iterator_next_1 _)))
  show wpAny _ _ (field (.ref it) 0 >>= _) _ _ s
  refine wpAny_bind (wpAny_field ho hd (x := .str x t) rfl ?_)
  show wpAny _ _ (field (.ref it) 1 >>= _) _ _ s
  refine wpAny_bind (wpAny_field ho hd (x := .int i 0) rfl ?_)
  simp only [Int.toNat_natCast, hx]
  refine wpAny_bind (wpAny_setField ho hd (by simp) (wpAny_bind (wpAny_mkStr (wpAny_pure ⟨_, rfl, wpAny_pure (hQ _ ?_ (Heap.SameBut.update ..))⟩) (by show 1 ≤ sizeLine; decide))))
  exact ⟨_, Heap.get?_update_self _ ho (Obj.isFreed_of_fields (Obj.data_mapFields hd _)), (Obj.cls_mapFields ..).trans hc, by
    rw [Obj.data_mapFields hd]; simp [rawInt]⟩
theorem nextOf_textEnd {it : Addr} {x : Str} {t : Tok} {i : Nat} {Q : Value → Shared → Prop} (hh : A.handled = none)
    (hit : s.heap.IsStrIter it "str_ascii_iterator" x t i) (hx : x.cps[i]? = none)
    (hE : ∀ h' e, Heap.ExtBut it s.heap h' → (∃ o, h'.get? e = some o ∧ o.cls = .type "StopIteration") → E (.ref e) { s with heap := h' }) :
    wpAny (model prog w) A (Builtin.SmallTypes.nextOf (.ref it)) Q E s := by
  obtain ⟨o, ho, hc, hd⟩ := id hit
  unfold Builtin.SmallTypes.nextOf
  refine wpAny_bind (wpAny_callSpecial?_slot (name := Str.ofString "__next__") hit.typeIs F.slot_str_ascii_iterator_next
    (wpAny_call_entry F.slot_str_ascii_iterator_next hit.typeIs F.entry_str_ascii_iterator_next ?_ (F.args_str_ascii_iterator_next_1 _)))
  show wpAny _ _ (field (.ref it) 0 >>= _) _ _ s
  refine wpAny_bind (wpAny_field ho hd (x := .str x t) rfl ?_)
  show wpAny _ _ (field (.ref it) 1 >>= _) _ _ s
  refine wpAny_bind (wpAny_field ho hd (x := .int i 0) rfl ?_)
  simp only [Int.toNat_natCast, hx]
  refine wpAny_bind (wpAny_rule (wpAny_bind (wpAny_setField ho hd (by simp) (wpAny_bind (wpAny_letGo ?_)))))
  show wpAny _ _ (newExc (.type "StopIteration") [] >>= _) _ _ _
  refine wpAny_bind ?_
  simp only [newExc, newTuple]
  refine wpAny_bind (wpAny_newObj_type ?_ (by size_fits))
  refine wpAny_bind (m := firstArgMember _ _) (wpAny_of_eq (a := Value.none) (by first | rfl | (simp only [firstArgMember]; rfl)) ?_)
  refine wpAny_newObj_type ?_ (by size_fits)
  simp only [raiseNew]
  refine wpAny_bind (wpAny_bind (wpAny_handled ?_))
  rw [show A.in1.handled = none from hh]
  refine wpAny_pure ?_
  refine wpAny_throw ?_
  exact hE _ _ (fun b o' hb e => Heap.get?_push_of_some _ (Heap.get?_push_of_some _ ((Heap.SameBut.update ..).extBut b o' hb e))) ⟨_, Heap.get?_push_size _ rfl, rfl⟩
/-- a generator's next value -/
theorem nextOf_gen {a : Addr} {g n : Nat} {gs : GenState} {Y : Protocol} {Q : Value → Shared → Prop}
    (hl : s.heap.NoLimit) (hroom : A.depth < recursionLimit)
    (hg : s.heap.IsGen a g) (hgs : s.gens[g]? = some gs)
    (hgo : gs.Goes (model prog w) A.in1 (fun _ _ _ _ => False) Y n (.send .none) (s.setGen g .running))
    (hY : ∀ v s₁ gs', Y (n - 1) (s.setGen g .running) v s₁ (fun r' s'' => match n with
        | 0 => False
        | m + 1 => gs'.Goes (model prog w) A.in1 (fun _ _ _ _ => False) Y m r' s'') → gs'.bare = true → Q v (s₁.setGen g gs')) :
    wpAny (model prog w) A (Builtin.SmallTypes.nextOf (.ref a)) Q E s := by
  unfold Builtin.SmallTypes.nextOf
  refine wpAny_bind (wpAny_callSpecial?_slot (name := Str.ofString "__next__") hg.typeIs slot_gen_next
    (wpAny_call_entry slot_gen_next hg.typeIs entry_gen_next ?_ (args_gen_next _)))
  show wpAny _ _ (Builtin.Generator.genWake (.ref a) (.send .none)) _ _ s
  unfold Builtin.Generator.genWake
  refine wpAny_bind (wpAny_holding (wpAny_genNumber hg (wpAny_bind (wpAny_genState hgs ?_))))
  cases gs with
  | running => exact hgo.elim
  | finished => exact hgo.elim
  | _ =>
    refine wpAny_bind (wpAny_roomToWake hl hroom ?_)
    show wpAny _ _ (.resume g (.send .none) [] _) _ _ s
    refine wpAny_resumeQ hgs hgo (fun x s₁ hx => hx.elim) (fun v s₁ gs' hb hv => ?_)
    exact wpAny_pure ⟨v, rfl, wpAny_pure (hY v s₁ gs' hv hb)⟩
/-- a zip over two iterators of any kind: the next pair -/
theorem zip_next2 {z TI TO i1 i2 : Addr} {a b : Value} {Q : Value → Shared → Prop} (TIz : TI ≠ z) (TOz : TO ≠ z)
    (hz : IsZip s.heap z TI TO .none) (hTI : IsPair s.heap TI (.ref i1) (.ref i2)) (hTO : IsPair s.heap TO a b)
    (h : ∀ hA, Heap.SameBut z s.heap hA → IsZip hA z TI TO .ellipsis → wpAny (model prog w) A.in1 (Builtin.SmallTypes.nextOf (.ref i1)) (fun x sB => IsPair sB.heap TO a b ∧
      ∀ hC, Heap.SameBut TO sB.heap hC → IsPair hC TO x b → wpAny (model prog w) A.in1 (Builtin.SmallTypes.nextOf (.ref i2)) (fun y sD => IsPair sD.heap TO x b ∧ IsZip sD.heap z TI TO .ellipsis ∧
        ∀ h', IsZip h' z TI TO (rawInt sD.heap.objs.size) → IsPair h' TO x y → IsPair h' sD.heap.objs.size x y → h'.objs.size = sD.heap.objs.size + 1 →
          (∀ c o, c ≠ z → c ≠ TO → sD.heap.get? c = some o → h'.get? c = some o) → Q (.ref sD.heap.objs.size) { sD with heap := h' }) (fun _ _ => False) { sB with heap := hC }) (fun _ _ => False) { s with heap := hA }) :
    wpAny (model prog w) A.in1 (Builtin.«zip.__next__» ⟨[.ref z], []⟩) (fun fin s' => ∃ v, fin = .done (.ret v) ∧ Q v s') E s := by
  show wpAny _ _ (field (.ref z) 2 >>= _) _ _ _
  refine wpAny_bind (wpAny_field hz rfl (x := .bool false) rfl ?_)
  show wpAny _ _ (field (.ref z) 3 >>= _) _ _ _
  refine wpAny_bind (wpAny_field hz rfl (x := .ref TI) rfl ?_)
  refine wpAny_bind (wpAny_seqItems hTI rfl ?_)
  show wpAny _ _ (Builtin.SmallTypes.ownedTupleIsFree (.ref z) >>= _) _ _ _
  refine wpAny_bind ?_
  unfold Builtin.SmallTypes.ownedTupleIsFree
  refine wpAny_bind (wpAny_field hz rfl (x := .none) rfl (wpAny_pure ?_))
  simp only [if_true]
  refine wpAny_bind (wpAny_rule ?_)
  refine wpAny_bind (wpAny_field hz rfl (x := .ref TO) rfl ?_)
  refine wpAny_bind (wpAny_setField_rec hz (by simp) fun h₁ hz₁ hs₁ => ?_)
  replace hz₁ : IsZip h₁ z TI TO .ellipsis := hz₁
  refine wpAny_bind ?_
  simp only [List.zipIdx_cons, List.zipIdx_nil, List.forIn_cons, List.forIn_nil]
  refine wpAny_bind (wpAny_bind (wpAny_onRaise ?_))
  show wpAny _ _ (Builtin.SmallTypes.nextOf (.ref i1) >>= _) _ _ _
  refine wpAny_bind (wpAny_mono (h h₁ hs₁ hz₁) (fun x sB hx => wpAny_pure ?_) fun _ _ e => e.elim)
  obtain ⟨hTO₂, hx⟩ := hx
  refine wpAny_bind (wpAny_seqItems hTO₂ rfl ?_)
  refine wpAny_bind (wpAny_updateSeq_pair hTO₂ fun h₃ hTO₃ hs₃ => ?_)
  replace hTO₃ : IsPair h₃ TO x b := hTO₃
  refine wpAny_bind (wpAny_letGo (wpAny_pure ?_))
  refine wpAny_bind (wpAny_bind (wpAny_onRaise ?_))
  show wpAny _ _ (Builtin.SmallTypes.nextOf (.ref i2) >>= _) _ _ _
  refine wpAny_bind (wpAny_mono (hx h₃ hs₃ hTO₃) (fun y sD hy => wpAny_pure ?_) fun _ _ e => e.elim)
  obtain ⟨hTO₄, hz₄, hy⟩ := hy
  refine wpAny_bind (wpAny_seqItems hTO₄ rfl ?_)
  refine wpAny_bind (wpAny_updateSeq_pair hTO₄ fun h₅ hTO₅ hs₅ => ?_)
  replace hTO₅ : IsPair h₅ TO x y := hTO₅
  refine wpAny_bind (wpAny_letGo (wpAny_pure (wpAny_pure ?_)))
  refine wpAny_bind (wpAny_seqItems hTO₅ rfl ?_)
  refine wpAny_bind (wpAny_newTuple ?_)
  have hsz : h₅.objs.size = sD.heap.objs.size := hs₅.1
  have hz₅ : IsZip h₅ z TI TO .ellipsis := hs₅.extBut _ _ TOz.symm hz₄
  have hzlt : z < h₅.objs.size := Heap.lt_size hz₅
  show wpAny _ _ (Builtin.SmallTypes.ownedTupleHandOut (.ref z) (.ref h₅.objs.size) >>= _) _ _ _
  refine wpAny_bind ?_
  unfold Builtin.SmallTypes.ownedTupleHandOut
  have hz₆ : IsZip (h₅.push { cls := .type "tuple", data := .seq #[x, y] }) z TI TO .ellipsis := Heap.get?_push_of_some _ hz₅
  refine wpAny_bind (wpAny_setField_rec hz₆ (by simp) fun h₇ hz₇ hs₇ => ?_)
  replace hz₇ : IsZip h₇ z TI TO (rawInt h₅.objs.size) := hz₇
  refine wpAny_setField_rec hz₇ (by simp) fun h₈ hz₈ hs₈ => ?_
  replace hz₈ : IsZip h₈ z TI TO (rawInt h₅.objs.size) := hz₈
  have up : ∀ c o, c ≠ z → h₅.get? c = some o → h₈.get? c = some o := fun c o c1 e => hs₈.extBut _ _ c1 (hs₇.extBut _ _ c1 (Heap.get?_push_of_some _ e))
  have hT₈ : IsPair h₈ h₅.objs.size x y := hs₈.extBut _ _ (Nat.ne_of_gt hzlt) (hs₇.extBut _ _ (Nat.ne_of_gt hzlt) (Heap.get?_push_size _ rfl))
  have hz8 : h₈.objs.size = h₅.objs.size + 1 := by rw [hs₈.1, hs₇.1, Heap.size_push]
  rw [hsz] at hz₈ hT₈ hz8
  refine wpAny_pure ⟨_, rfl, ?_⟩
  show Q (.ref h₅.objs.size) _
  rw [hsz]
  exact hy h₈ hz₈ (up _ _ TOz hTO₅) hT₈ hz8 fun c o c1 c2 e => up c o c1 (hs₅.extBut _ _ c2 e)
theorem pyNext_zip2 {z TI TO i1 i2 : Addr} {a b : Value} {Q : Option Value → Shared → Prop} (TIz : TI ≠ z) (TOz : TO ≠ z)
    (hz : IsZip s.heap z TI TO .none) (hTI : IsPair s.heap TI (.ref i1) (.ref i2)) (hTO : IsPair s.heap TO a b)
    (h : ∀ hA, Heap.SameBut z s.heap hA → IsZip hA z TI TO .ellipsis → wpAny (model prog w) A.in1 (Builtin.SmallTypes.nextOf (.ref i1)) (fun x sB => IsPair sB.heap TO a b ∧
      ∀ hC, Heap.SameBut TO sB.heap hC → IsPair hC TO x b → wpAny (model prog w) A.in1 (Builtin.SmallTypes.nextOf (.ref i2)) (fun y sD => IsPair sD.heap TO x b ∧ IsZip sD.heap z TI TO .ellipsis ∧
        ∀ h', IsZip h' z TI TO (rawInt sD.heap.objs.size) → IsPair h' TO x y → IsPair h' sD.heap.objs.size x y → h'.objs.size = sD.heap.objs.size + 1 →
          (∀ c o, c ≠ z → c ≠ TO → sD.heap.get? c = some o → h'.get? c = some o) → Q (some (.ref sD.heap.objs.size)) { sD with heap := h' }) (fun _ _ => False) { sB with heap := hC }) (fun _ _ => False) { s with heap := hA }) :
    wpAny (model prog w) A (pyNext (.ref z)) Q E s := by
  have hT : s.TypeIs (.ref z) "zip" := ⟨_, hz, rfl⟩
  unfold pyNext
  exact wpAny_bind (wpAny_attempt (wpAny_callSpecial?_slot (name := Str.ofString "__next__") hT F.slot_zip_next
    (wpAny_call_entry F.slot_zip_next hT F.entry_zip_next
      (zip_next2 (Q := fun v s' => wpAny (model prog w) A (pure (some v)) Q E s') TIz TOz hz hTI hTO (fun hA a1 a2 => wpAny_mono (h hA a1 a2) (fun x sB hx => ⟨hx.1, fun hC b1 b2 => wpAny_mono (hx.2 hC b1 b2) (fun y sD hy => ⟨hy.1, hy.2.1, fun h' c1 c2 c3 c4 c5 => wpAny_pure (hy.2.2 h' c1 c2 c3 c4 c5)⟩) fun _ _ e => e⟩) fun _ _ e => e)) (F.args_zip_next_1 _))))
/-- the text ends first -/
theorem zip_endT {z TI TO i1 : Addr} {i2 : Addr} {x : Str} {t : Tok} {i : Nat} {a b : Value} {Q : Fin → Shared → Prop} (hh : A.handled = none) (i1z : i1 ≠ z)
    (hz : IsZip s.heap z TI TO .none) (hTI : IsPair s.heap TI (.ref i1) (.ref i2)) (hTO : IsPair s.heap TO a b)
    (h1 : s.heap.IsStrIter i1 "str_ascii_iterator" x t i) (hx : x.cps[i]? = none)
    (hE : ∀ h' e, (∀ c o, c ≠ z → c ≠ i1 → s.heap.get? c = some o → h'.get? c = some o) → (∃ o, h'.get? e = some o ∧ o.cls = .type "StopIteration") → E (.ref e) { s with heap := h' }) :
    wpAny (model prog w) A (Builtin.«zip.__next__» ⟨[.ref z], []⟩) Q E s := by
  show wpAny _ _ (field (.ref z) 2 >>= _) _ _ _
  refine wpAny_bind (wpAny_field hz rfl (x := .bool false) rfl ?_)
  show wpAny _ _ (field (.ref z) 3 >>= _) _ _ _
  refine wpAny_bind (wpAny_field hz rfl (x := .ref TI) rfl ?_)
  refine wpAny_bind (wpAny_seqItems hTI rfl ?_)
  show wpAny _ _ (Builtin.SmallTypes.ownedTupleIsFree (.ref z) >>= _) _ _ _
  refine wpAny_bind ?_
  unfold Builtin.SmallTypes.ownedTupleIsFree
  refine wpAny_bind (wpAny_field hz rfl (x := .none) rfl (wpAny_pure ?_))
  simp only [if_true]
  refine wpAny_bind (wpAny_rule ?_)
  refine wpAny_bind (wpAny_field hz rfl (x := .ref TO) rfl ?_)
  refine wpAny_bind (wpAny_setField_rec hz (by simp) fun h₁ hz₁ hs₁ => ?_)
  replace hz₁ : IsZip h₁ z TI TO .ellipsis := hz₁
  refine wpAny_bind ?_
  simp only [List.zipIdx_cons, List.zipIdx_nil, List.forIn_cons, List.forIn_nil]
  refine wpAny_bind (wpAny_bind (wpAny_onRaise ?_))
  show wpAny _ _ (Builtin.SmallTypes.nextOf (.ref i1) >>= _) _ _ _
  have h1₁ : h₁.IsStrIter i1 "str_ascii_iterator" x t i := by
    obtain ⟨o, ho, r⟩ := h1
    exact ⟨o, hs₁.extBut _ _ i1z ho, r⟩
  refine wpAny_bind (nextOf_textEnd hh h1₁ hx fun h₂ e hs₂ he => ?_)
  obtain ⟨oe, hoe, hce⟩ := he
  have hz₂ : IsZip h₂ z TI TO .ellipsis := hs₂ _ _ i1z.symm hz₁
  have hez : e ≠ z := fun x => by subst x; rw [hz₂] at hoe; cases hoe; simp at hce
  refine wpAny_setField_rec hz₂ (by simp) fun h₃ _ hs₃ => hE h₃ e (fun c o c1 c3 x => hs₃.extBut _ _ c1 (hs₂ _ _ c3 (hs₁.extBut _ _ c1 x))) ⟨oe, hs₃.extBut _ _ hez hoe, hce⟩
theorem pyNext_zipEnd {z TI TO i1 i2 : Addr} {x : Str} {t : Tok} {i : Nat} {a b : Value} {Q : Option Value → Shared → Prop} (hh : A.handled = none) (i1z : i1 ≠ z)
    (hz : IsZip s.heap z TI TO .none) (hTI : IsPair s.heap TI (.ref i1) (.ref i2)) (hTO : IsPair s.heap TO a b)
    (h1 : s.heap.IsStrIter i1 "str_ascii_iterator" x t i) (hx : x.cps[i]? = none)
    (hQ : ∀ h', (∀ c o, c ≠ z → c ≠ i1 → s.heap.get? c = some o → h'.get? c = some o) → Q none { s with heap := h' }) : wpAny (model prog w) A (pyNext (.ref z)) Q E s := by
  have hT : s.TypeIs (.ref z) "zip" := ⟨_, hz, rfl⟩
  unfold pyNext
  refine wpAny_bind (wpAny_attempt (wpAny_callSpecial?_slot (name := Str.ofString "__next__") hT F.slot_zip_next
    (wpAny_call_entry F.slot_zip_next hT F.entry_zip_next (zip_endT hh i1z hz hTI hTO h1 hx fun h' e hk he => ?_) (F.args_zip_next_1 _))))
  obtain ⟨o, ho, hc⟩ := he
  refine wpAny_bind (wpAny_isInstance (T := "StopIteration") (b := true) ⟨o, ho, hc⟩ isSubtype_stop ?_)
  exact wpAny_pure (hQ _ hk)
end
abbrev zpH1 (h : Heap) (x : Str) (t : Tok) : Heap := h.push { cls := .type "str_ascii_iterator", data := .fields #[.str x t, .int 0 0] }
abbrev zpH3 (h : Heap) (x : Str) (t : Tok) (g : Addr) : Heap := (zpH1 h x t).push { cls := .type "tuple", data := .seq #[.ref h.objs.size, .ref g] }
abbrev zpH4 (h : Heap) (x : Str) (t : Tok) (g : Addr) : Heap := (zpH3 h x t g).push { cls := .type "tuple", data := .seq #[.none, .none] }
abbrev zpH5 (h : Heap) (x : Str) (t : Tok) (g : Addr) : Heap := (zpH4 h x t g).push { cls := .type "zip", data := .fields #[.none, .bool false, .bool false, .ref (zpH1 h x t).objs.size, .ref (zpH3 h x t g).objs.size] }
section
variable {prog : Program} {w : World} {A : Around} {E : Value → Shared → Prop} {s : Shared}
theorem iterAll2 {x : Str} {t : Tok} {ga : Addr} {gn : Nat} {Q : List Value → Shared → Prop} (ha : x.cps.all (· < 128) = true) (hg : s.heap.IsGen ga gn) (h : Q [.ref s.heap.objs.size, .ref ga] { s with heap := zpH1 s.heap x t }) :
    wpAny (model prog w) A (Builtin.SmallTypes.iterAll [.str x t, .ref ga]) Q E s := by
  unfold Builtin.SmallTypes.iterAll
  simp only [List.forIn_cons, List.forIn_nil]
  refine wpAny_bind (wpAny_bind (wpAny_bind (wpAny_holding (wpAny_pyIter_ascii ha (wpAny_pure ?_)))))
  refine wpAny_bind (wpAny_bind (wpAny_holding (wpAny_pyIter_gen (Heap.IsGen.push hg _) (wpAny_pure (wpAny_pure (wpAny_pure ?_))))))
  exact h
end
theorem newClass_zip (r : List Value) : Builtin.SmallTypes.newClass "zip" ⟨.type "zip" :: r, []⟩ = pure (.type "zip", r) := by
  have hsub := sub_zip
  unfold Builtin.SmallTypes.newClass
  simp only [isType]
  show (pure true >>= _) = _
  simp only [pure_bind, hsub]
  rfl
theorem meets_zipT (x : Str) (t : Tok) (ga : Addr) (gn : Nat) (ha : x.cps.all (· < 128) = true) :
    Meets (Builtin.«zip.__new__» ⟨[.type "zip", .str x t, .ref ga], []⟩) (fun _ R s => s.heap.IsGen ga gn ∧
      R (.ok (.ret (.ref (zpH4 s.heap x t ga).objs.size))) { s with heap := zpH5 s.heap x t ga }) :=
  .of_wp fun prog w A R s h => by
    obtain ⟨hl1, h⟩ := h
    unfold Builtin.«zip.__new__»
    rw [newClass_zip]
    refine wpAny_bind (wpAny_pure ?_)
    show wpAny _ _ (Builtin.SmallTypes.iterAll [.str x t, .ref ga] >>= _) _ _ s
    refine wpAny_bind (iterAll2 ha hl1 ?_)
    refine wpAny_bind (wpAny_newTuple ?_)
    refine wpAny_bind (wpAny_newTuple ?_)
    refine wpAny_bind (m := Builtin.SmallTypes.newRecord _ _) ?_
    refine wpAny_newObj_type (data := .fields #[.none, .bool false, .bool false, .ref _, .ref _]) (wpAny_pure ?_) (by size_fits)
    exact ⟨_, rfl, h⟩
section
variable {prog : Program} {w : World} {A : Around} {E : Value → Shared → Prop} {s : Shared}
theorem call_zipT {x : Str} {t : Tok} {ga : Addr} {gn : Nat} {Q : Value → Shared → Prop} (ha : x.cps.all (· < 128) = true) (hg : s.heap.IsGen ga gn)
    (h : ∀ h', IsZip h' (s.heap.objs.size + 3) (s.heap.objs.size + 1) (s.heap.objs.size + 2) .none → IsPair h' (s.heap.objs.size + 1) (.ref s.heap.objs.size) (.ref ga) →
      IsPair h' (s.heap.objs.size + 2) .none .none → h'.IsStrIter s.heap.objs.size "str_ascii_iterator" x t 0 → h'.objs.size = s.heap.objs.size + 4 →
      (∀ c o, s.heap.get? c = some o → h'.get? c = some o) → Q (.ref (s.heap.objs.size + 3)) { s with heap := h' }) :
    wpAny (model prog w) A (call (.type "zip") [.str x t, .ref ga]) Q E s := by
  refine callType_new F.called_zip (by decide) (F.typeCall_zip_2 _ _) (F.newCall_zip_2 _ _) (fun obj => F.args_object_init_3 obj _ _) F.entry_zip_new
    (meets_zipT x t ga gn ha) ⟨hg, ?_⟩
  have z1 : (zpH1 s.heap x t).objs.size = s.heap.objs.size + 1 := Heap.size_push ..
  have z3 : (zpH3 s.heap x t ga).objs.size = s.heap.objs.size + 2 := by rw [Heap.size_push, z1]
  have z4 : (zpH4 s.heap x t ga).objs.size = s.heap.objs.size + 3 := by rw [Heap.size_push, z3]
  have z5 : (zpH5 s.heap x t ga).objs.size = s.heap.objs.size + 4 := by rw [Heap.size_push, z4]
  have g5 : (zpH5 s.heap x t ga).get? (zpH4 s.heap x t ga).objs.size = some _ := Heap.get?_push_size _ rfl
  have g4 : (zpH5 s.heap x t ga).get? (zpH3 s.heap x t ga).objs.size = some _ := Heap.get?_push_of_some _ (Heap.get?_push_size _ rfl)
  have g3 : (zpH5 s.heap x t ga).get? (zpH1 s.heap x t).objs.size = some _ := Heap.get?_push_of_some _ (Heap.get?_push_of_some _ (Heap.get?_push_size _ rfl))
  have g1 : (zpH5 s.heap x t ga).get? s.heap.objs.size = some _ := Heap.get?_push_of_some _ (Heap.get?_push_of_some _ (Heap.get?_push_of_some _ (Heap.get?_push_size _ rfl)))
  show _ ∧ _
  rw [z1, z3, z4] at g5
  rw [z1] at g3
  rw [z3] at g4
  rw [z4]
  exact ⟨⟨_, g5, rfl⟩, h _ g5 g3 g4 ⟨_, g1, rfl, rfl⟩ z5 fun c o x =>
    Heap.get?_push_of_some _ (Heap.get?_push_of_some _ (Heap.get?_push_of_some _ (Heap.get?_push_of_some _ x)))⟩
end
end Mine
end
section
open PySem PySem.W PyProof.Rows PyProof.V PySem.Spec PySem.Calls
namespace Mine
section
variable {M : Model} {A : Around} {R : GenEnd} {Y : Protocol} {n : Nat} {s₀ : Shared} {c : Code} {fs : List Frame} {s : Shared} {env : Env}
  {K : Flow → Sem Fin} {H : Value → Sem Fin} {gd : Bool → Bool} {lv : List Value → List Value}
theorem seg_stmt {st : Stmt} (h : wpAny M (A.over c fs) (exec st env) (fun f s' => Seg M A R Y n s₀ c (K f) fs s') (fun _ _ => False) s) :
    Seg M A R Y n s₀ c ((exec st env).wrap K H gd lv) fs s := seg_wrap (wpAny_mono h (fun _ _ x => x) fun _ _ e => e.elim)
theorem seg_If {test : PySem.Expr} {body orelse : List Stmt} {pos : Pos}
    (h : wpAny M (A.over c fs) (isTrue test env (eval test env)) (fun b s' => Seg M A R Y n s₀ c ((execs (if b = true then body else orelse) env).wrap K H gd lv) fs s') (fun _ _ => False) s) :
    Seg M A R Y n s₀ c ((exec (.If test body orelse pos) env).wrap K H gd lv) fs s := by
  rw [exec_If]
  refine seg_at ?_
  show Seg M A R Y n s₀ c ((isTrue test env (eval test env) >>= fun b => if b = true then execs body env else execs orelse env).wrap K H gd lv) fs s
  rw [Sem.bind_eq_wrap', Sem.wrap_wrap]
  refine seg_wrap (wpAny_mono h (fun b s' h' => ?_) fun _ _ e => e.elim)
  cases b <;> exact h'
/-- the frame that waits for a loop -/
abbrev ownFr (env : Env) (K : Flow → Sem Fin) (H : Value → Sem Fin) (gd : Bool → Bool) (lv : List Value → List Value) (c : Code) (p : Pos) : Frame :=
  .ret (fun r => ((match r with | .ok f => (.pure f : Sem Flow) | .error e => .raise e).onRaise fun (x : Value) => do
        if (← field x 1) == Value.none then unsupported "frame.own-activation:exception-without-traceback"
        setFlight x env.frame).wrap K H gd lv) none (gd false) (lv []) c p []
theorem seg_For {target iter : PySem.Expr} {body orelse : List Stmt} {pos : Pos}
    (h : wpAny M (A.over c fs) (eval iter env) (fun x s₁ => wpAny M (A.over c fs) (pyIter x) (fun it s₂ => ∀ p, Seg M A R Y n s₀ (.forLoop target it body orelse env) (M.den (.forLoop target it body orelse env)) (ownFr env K H gd lv c p :: fs) s₂) (fun _ _ => False) s₁) (fun _ _ => False) s)
    (hs : ∀ x, foldedSetIterable iter env x = pure x := by intro _; rfl) :
    Seg M A R Y n s₀ c ((exec (.For target iter body orelse pos) env).wrap K H gd lv) fs s := by
  rw [exec_For]
  refine seg_at ?_
  show Seg M A R Y n s₀ c ((eval iter env >>= fun v => foldedSetIterable iter env v >>= fun x => standAt iter.pos >>= fun _ => holding [x] (pyIter x) >>= fun it => runOwn (.forLoop target it body orelse env) env).wrap K H gd lv) fs s
  rw [Sem.bind_eq_wrap', Sem.wrap_wrap]
  refine seg_wrap (wpAny_mono h (fun v s₁ h₁ => ?_) fun _ _ e => e.elim)
  rw [hs v]
  show Seg M A R Y n s₀ c (.at iter.pos fun _ => (holding [v] (pyIter v) >>= fun it => runOwn (.forLoop target it body orelse env) env).wrap K H gd lv) fs s₁
  refine seg_at ?_
  rw [Sem.bind_eq_wrap', Sem.wrap_wrap]
  refine seg_wrap (wpAny_holding (wpAny_mono h₁ (fun it s₂ h₂ => ?_) fun _ _ e => e.elim))
  exact seg_call h₂
end
section
variable {prog : Program} {w : World} {A : Around} {R : GenEnd} {Y : Protocol} {n : Nat} {s₀ : Shared} {fs : List Frame} {s : Shared} {env : Env}
theorem seg_forLoop {x : Str} {px : Pos} {it : Value} {body orelse : List Stmt}
    (h : wpAny (model prog w) (A.over (.forLoop (.Name x px) it body orelse env) fs) (pyNext it) (fun r s₁ => ∃ v, r = some v ∧ wpAny (model prog w) (A.over (.forLoop (.Name x px) it body orelse env) fs) (storeName env x v) (fun _ s₂ =>
        ∀ HX, Seg (model prog w) A R Y n s₀ (.forLoop (.Name x px) it body orelse env) ((execs body env).wrap (fun f => match f with
            | .next | .cont => .pure (.again (.forLoop (.Name x px) it body orelse env))
            | .brk => .pure (.done .next)
            | .ret v => .pure (.done (.ret v))) HX id id) fs s₂) (fun _ _ => False) s₁) (fun _ _ => False) s) :
    Seg (model prog w) A R Y n s₀ (.forLoop (.Name x px) it body orelse env) ((model prog w).den (.forLoop (.Name x px) it body orelse env)) fs s := by
  show Seg _ A R Y n s₀ _ ((forTurn (.Name x px) it body orelse env).onRaise (fun x => do noteFrame x env; theTreesLotGoes x)) fs s
  unfold forTurn
  rw [Sem.onRaise_eq_wrap]
  refine seg_at ?_
  rw [Sem.onRaise_eq_wrap]
  show Seg _ A R Y n s₀ _ ((((pyNext it).wrap .pure _ id id) >>= _).wrap _ _ _ _) fs s
  rw [Sem.bind_eq_wrap', Sem.wrap_wrap, Sem.wrap_wrap]
  refine seg_wrap (wpAny_mono h (fun r s₁ h₁ => ?_) fun _ _ e => e.elim)
  obtain ⟨v, rfl, h₁⟩ := h₁
  show Seg _ A R Y n s₀ _ ((assign (.Name x px) env v >>= _).wrap _ _ _ _) fs s₁
  rw [Sem.bind_eq_wrap', Sem.wrap_wrap]
  refine seg_wrap (wpAny_assign_Name (wpAny_mono h₁ (fun _ s₂ h₂ => ?_) fun _ _ e => e.elim))
  show Seg _ A R Y n s₀ _ ((execs body env >>= _).wrap _ _ _ _) fs s₂
  rw [Sem.bind_eq_wrap', Sem.wrap_wrap]
  rw [Sem.wrap_congr (execs body env) _ _ (K' := fun f => match f with
            | .next | .cont => .pure (.again (.forLoop (.Name x px) it body orelse env))
            | .brk => .pure (.done .next)
            | .ret v => .pure (.done (.ret v))) (H' := _)
        (fun f => by cases f <;> rfl) (fun e => rfl)]
  exact h₂ _
end
end Mine
end
section
open PySem PySem.W PyProof.Rows PyProof.V PySem.Spec PySem.Calls
namespace Mine
theorem calmWGen : True := by
  w_top off
  exact trivial
/-- all that a heap holds beside a base and a frame -/
theorem snap {g h : Heap} {L : Addr} {m : Str → Option Value} (_ : Fr g L h m) : ∃ rs, News g L h rs ∧ ∀ b o, b ≠ L → h.get? b = some o → g.get? b = none → (b, o) ∈ rs := by
  refine ⟨(List.range h.objs.size).filterMap (fun i => if i = L then none else match h.get? i, g.get? i with | some o, none => some (i, o) | _, _ => none), ?_, ?_⟩
  · intro p hp
    obtain ⟨i, _, hi⟩ := List.mem_filterMap.mp hp
    by_cases hL : i = L
    · rw [if_pos hL] at hi; cases hi
    · rw [if_neg hL] at hi
      split at hi
      · rename_i o h1 h2
        cases hi
        exact ⟨h1, hL, h2⟩
      · cases hi
  · intro b o hb ho hg
    refine List.mem_filterMap.mpr ⟨b, List.mem_range.mpr (Heap.lt_size ho), ?_⟩
    rw [if_neg hb, ho, hg]
theorem kept_of {g h h' : Heap} {L : Addr} {m m' : Str → Option Value} {rs : List (Addr × Obj)} (F : Fr g L h m) (hrs : ∀ b o, b ≠ L → h.get? b = some o → g.get? b = none → (b, o) ∈ rs) (F' : Fr g L h' m') (N' : News g L h' rs) :
    ∀ b o, b ≠ L → h.get? b = some o → h'.get? b = some o := by
  intro b o hb ho
  cases hg : g.get? b with
  | some o' =>
    have h1 := F.keep b o' hg
    rw [ho] at h1
    cases h1
    exact F'.keep b o hg
  | none => exact (N' _ (hrs b o hb ho hg)).1
def NamesG (st sp : Int) (k : Nat) (m : Str → Option Value) : Prop :=
  if k = 1 then ∃ t, m (Str.ofString "interval") = some (.int st t) else if k = 2 then ∃ t, m (Str.ofString "interval") = some (.int sp t) else ∃ t, m (Str.ofString "last_interval") = some (.int sp t)
def ListG (st sp : Int) (lG : Addr) (h : Heap) : Prop := ∃ ta tb tc td, h.IsList lG #[.int st ta, .int sp tb, .int 0 tc, .int 9 td]
/-- the generator's state behind its k-th value -/
structure GAt (g : Heap) (Lg Ig lG : Addr) (st sp : Int) (k : Nat) (h : Heap) : Prop where
  fr : ∃ m, Fr g Lg h m ∧ NamesG st sp k m
  it : h.IsListIter Ig lG (min k 3)
  li : ListG st sp lG h
  ne : Lg ≠ Ig ∧ Lg ≠ lG ∧ Ig ≠ lG
  no : g.get? Ig = none
theorem GAt.at {g h h' : Heap} {Lg Ig lG : Addr} {st sp : Int} {k : Nat} (x : GAt g Lg Ig lG st sp k h) (hk : ∀ b, b = Lg ∨ b = Ig ∨ b = lG → ∀ o, h.get? b = some o → h'.get? b = some o) (hb : ∀ b o, g.get? b = some o → h'.get? b = some o) : GAt g Lg Ig lG st sp k h' := by
  obtain ⟨⟨m, F, hn⟩, hi, ⟨ta, tb, tc, td, hl⟩, ne, no⟩ := x
  exact ⟨⟨m, ⟨F.ns.at' (fun o e => hk _ (.inl rfl) o e), hb, F.above⟩, hn⟩, hi.at (fun o e => hk _ (.inr (.inl rfl)) o e), ⟨ta, tb, tc, td, hl.at (fun o e => hk _ (.inr (.inr rfl)) o e)⟩, ne, no⟩
/-- the two states of one resumption -/
structure SameG (Lg Ig : Addr) (s₀ s' : Shared) : Prop where
  gens : s'.gens = s₀.gens
  drawn : s'.drawn = s₀.drawn
  os : s'.os = s₀.os
  kept : ∀ b o, b ≠ Lg → b ≠ Ig → s₀.heap.get? b = some o → s'.heap.get? b = some o
theorem SameG.trans {Lg Ig : Addr} {a b c : Shared} (x : SameG Lg Ig a b) (y : SameG Lg Ig b c) : SameG Lg Ig a c :=
  ⟨y.gens.trans x.gens, y.drawn.trans x.drawn, y.os.trans x.os, fun d o h1 h2 e => y.kept d o h1 h2 (x.kept d o h1 h2 e)⟩
theorem SameG.refl {Lg Ig : Addr} {a : Shared} : SameG Lg Ig a a := ⟨rfl, rfl, rfl, fun _ _ _ _ e => e⟩
def YG (g : Heap) (Lg Ig lG : Addr) (st sp : Int) : Protocol := fun n s₀ v s' kap => (∃ t, v = .int (if n = 7 then st else sp) t) ∧ SameG Lg Ig s₀ s' ∧ GAt g Lg Ig lG st sp (8 - n) s'.heap ∧ (n ≠ 0 → ∀ s'', GAt g Lg Ig lG st sp (8 - n) s''.heap → kap (.send .none) s'')
abbrev RG : GenEnd := fun _ _ _ _ => False
theorem GAt.ge3 {g h : Heap} {Lg Ig lG : Addr} {st sp : Int} {k : Nat} (x : GAt g Lg Ig lG st sp 3 h) (hk : 3 ≤ k) : GAt g Lg Ig lG st sp k h := by
  obtain ⟨⟨m, F, hn⟩, hi, hl, ne, no⟩ := x
  refine ⟨⟨m, F, ?_⟩, by rwa [show min k 3 = 3 by omega], hl, ne, no⟩
  unfold NamesG at hn ⊢
  rw [if_neg (by decide), if_neg (by decide)] at hn
  rw [if_neg (by omega), if_neg (by omega)]
  exact hn
theorem GAt.to3 {g h : Heap} {Lg Ig lG : Addr} {st sp : Int} {k : Nat} (x : GAt g Lg Ig lG st sp k h) (hk : 3 ≤ k) : GAt g Lg Ig lG st sp 3 h := by
  obtain ⟨⟨m, F, hn⟩, hi, hl, ne, no⟩ := x
  refine ⟨⟨m, F, ?_⟩, by rwa [show min k 3 = 3 by omega] at hi, hl, ne, no⟩
  unfold NamesG at hn ⊢
  rw [if_neg (by omega), if_neg (by omega)] at hn
  rw [if_neg (by decide), if_neg (by decide)]
  exact hn
section
variable {prog : Program} {w : World} {A : Around} {g : Heap} {Lg Ig lG : Addr} {st sp : Int} {name : Str} {scope : Scope} {a : Addr} {cd : Value}
/-- «while True: yield x» -/
theorem seg_spin {kc : Nat} {pc p1 p2 p3 : Pos} {fs : List Frame} (hfs : splitAtGen fs = none) (hfg : fs.any Frame.guarded = false) (hsc : scope.kind = .function) (hl : (envOf name scope Lg a cd).kindOf (Str.ofString "last_interval") = some .local) (hco : scope.isCoroutine = false)
    (hi : interactive (envOf name scope Lg a cd) = false)
    (hq : (Code.whileLoop (.Constant (.bool true) kc pc) [.Expr (.Yield (some (.Name (Str.ofString "last_interval") p1)) p2) p3] [] (envOf name scope Lg a cd)).quiet = true) :
    ∀ (n : Nat), n ≤ 5 → ∀ (s₀ s : Shared), SameG Lg Ig s₀ s → GAt g Lg Ig lG st sp 3 s.heap →
      Seg (model prog w) A RG (YG g Lg Ig lG st sp) (n + 1) s₀ (.whileLoop (.Constant (.bool true) kc pc) [.Expr (.Yield (some (.Name (Str.ofString "last_interval") p1)) p2) p3] [] (envOf name scope Lg a cd))
        ((model prog w).den (.whileLoop (.Constant (.bool true) kc pc) [.Expr (.Yield (some (.Name (Str.ofString "last_interval") p1)) p2) p3] [] (envOf name scope Lg a cd))) fs s := by
  have step : ∀ (n : Nat), n ≤ 5 → (∀ s₀ s, n ≠ 0 → SameG Lg Ig s₀ s → GAt g Lg Ig lG st sp 3 s.heap → Seg (model prog w) A RG (YG g Lg Ig lG st sp) n s₀ (.whileLoop (.Constant (.bool true) kc pc) [.Expr (.Yield (some (.Name (Str.ofString "last_interval") p1)) p2) p3] [] (envOf name scope Lg a cd))
        ((model prog w).den (.whileLoop (.Constant (.bool true) kc pc) [.Expr (.Yield (some (.Name (Str.ofString "last_interval") p1)) p2) p3] [] (envOf name scope Lg a cd))) fs s) →
      ∀ s₀ s, SameG Lg Ig s₀ s → GAt g Lg Ig lG st sp 3 s.heap → Seg (model prog w) A RG (YG g Lg Ig lG st sp) (n + 1) s₀ (.whileLoop (.Constant (.bool true) kc pc) [.Expr (.Yield (some (.Name (Str.ofString "last_interval") p1)) p2) p3] [] (envOf name scope Lg a cd))
        ((model prog w).den (.whileLoop (.Constant (.bool true) kc pc) [.Expr (.Yield (some (.Name (Str.ofString "last_interval") p1)) p2) p3] [] (envOf name scope Lg a cd))) fs s := by
    intro n hn ih s₀ s hS hG
    refine seg_whileLoop ?_
    have hT : ∀ (Q : Bool → Shared → Prop) (E : Value → Shared → Prop) (A' : Around), Q true s → wpAny (model prog w) A' (isTrue (.Constant (.bool true) kc pc) (envOf name scope Lg a cd) (eval (.Constant (.bool true) kc pc) (envOf name scope Lg a cd))) Q E s := by
      intro Q E A' h
      k_steps
      exact h
    refine hT _ _ _ ?_
    rw [if_pos rfl]
    refine seg_execs_cons (seg_Expr_Yield hfs rfl hfg ?_ hco hi)
    obtain ⟨⟨m, F, hm⟩, _⟩ := id hG
    obtain ⟨t, hm⟩ : ∃ t, m (Str.ofString "last_interval") = some (.int sp t) := hm
    refine ld F hm ?_ hsc hl
    intro kap hk
    refine ⟨⟨t, by rw [if_neg (by omega)]⟩, hS, hG.ge3 (by omega), fun h0 s'' hG' => hk .none s'' ?_⟩
    refine seg_execs_nil ?_
    refine seg_again hq (ih s'' s'' h0 .refl (hG'.to3 (by omega)))
  intro n
  induction n with
  | zero => exact fun h => step 0 h fun _ _ h0 => absurd rfl h0
  | succ n ih => exact fun h => step (n + 1) h fun s₀ s _ => ih (by omega) s₀ s
end
section
variable {prog : Program} {w : World} {A : Around} {s : Shared} {h₀ : Heap} {L : Addr} {m : Str → Option Value} {K : Frag} {p : Program} {loose : List Str} {mean : ExcName → Option Value} {mg mb : Str → Option Value}
/-- a call of a def that yields -/
theorem code_gen {R : Result → Shared → Prop} {name qual : Str} {params : Arguments} {body : List Stmt} {scope : Scope} {dV kV doc pm cdv ct oc : Value} {an od : Option Addr} {osl : Array (Option Value)} {f : Addr} {args : Args} {binds : List (Str × Value)}
    (F : Fr h₀ L s.heap m) (X₀ : K.In h₀) (T : Top p loose mean mg mb h₀)
    (ho : K.lookup f = some ⟨oc, od, .func (fnOf name qual params body scope dV kV doc pm an cdv ct), osl⟩) (hcd : codeIn K cdv qual = true) (hroom : A.depth < recursionLimit)
    (hbind : bindArgs (fnOf name qual params body scope dV kV doc pm an cdv ct) args = pure binds) (hc : ∀ x ∈ scope.names, x.2 ≠ .cell) (hl : ∀ x ∈ binds, scope.names.lookup x.1 = some .local)
    (h : ∀ h' tk, h'.Ns s.heap.objs.size (fun x => binds.reverse.lookup x) → (∀ b o, s.heap.get? b = some o → h'.get? b = some o) → h'.IsGen (s.heap.objs.size + 1) s.gens.size → h'.objs.size = s.heap.objs.size + 2 →
      R (.ok (.ret (.ref (s.heap.objs.size + 1)))) { s with gens := s.gens.push (.fresh (.func body (envOf qual scope s.heap.objs.size f cdv))), toks := tk, heap := h' })
    (hco : scope.isCoroutine = false) (hgen : scope.isGenerator = true) (hkf : scope.kind = .function) : codeAny (model prog w) A (.call (.ref f) args) R s := by
  have Xs := X₀.keeps F.keep
  refine codeAny_call_generator hroom (Xs _ _ ho) rfl hco hgen rfl (codeRec_of Xs hcd) ?_
  rw [hbind]
  refine wpAny_pure (wpAny_newFunctionEnv hc hl (fun h₁ hn hs => ?_) hkf)
  have old : ∀ b o, s.heap.get? b = some o → h₁.get? b = some o := fun b o e => hs.extBut b o (Nat.ne_of_lt (Heap.lt_size e)) (Heap.get?_push_of_some _ e)
  have hsz : h₁.objs.size = s.heap.objs.size + 1 := by rw [hs.1, Heap.size_push]
  refine ⟨(T.keeps fun b o e => old b o (F.keep b o e)).nolimit, ?_⟩
  show R (.ok (.ret (.ref h₁.objs.size))) _
  rw [hsz]
  refine h _ _ (hn.keeps fun b o e => Heap.get?_push_of_some _ e) (fun b o e => Heap.get?_push_of_some _ (old b o e)) ⟨_, _, _, by rw [← hsz]; exact Heap.get?_push_size _ rfl, rfl, rfl, rfl⟩ (by rw [Heap.size_push, hsz])
end
end Mine
end
section
open PySem PySem.W PyProof.Rows PyProof.V PySem.Spec PySem.Calls
namespace Mine
theorem calmWGen2 : True := by
  w_top off
  exact trivial
local macro_rules | `(tactic| walk_at "storeName") => `(tactic| (refine Halt.out ?_))
section
variable {M : Model} {A : Around} {E : Value → Shared → Prop} {s : Shared} {name : Str} {scope : Scope} {L a : Addr} {cd : Value} {h₀ : Heap} {m : Str → Option Value}
theorem st2 {x : Str} {v : Value} {Q : Unit → Shared → Prop} (F : Fr h₀ L s.heap m)
    (h : ∀ h', Fr h₀ L h' (fun y => if y = x then some v else m y) → Heap.SameBut L s.heap h' → Q () { s with heap := h', toks := s.toks + 1 })
    (hk : scope.kind = .function := by rfl) (hl : (envOf name scope L a cd).kindOf x = some .local := by rfl) :
    wpAny M A (storeName (envOf name scope L a cd) x v) Q E s :=
  wpAny_storeName_local hl F.ns (fun h' hn hs => h h' (F.set hn hs) hs)
    (by show (scope.kind == .class || (scope.kind == .module && L != mainGlobals)) = false; rw [hk]; rfl)
end
theorem fr1 {g h : Heap} {L : Addr} {M : Str → Option Value} {a : Str} {va : Value} (F : Fr g L h M) (e : M a = some va) : Fr g L h (fun y => if y = a then some va else M y) := by
  have e : (fun y => if y = a then some va else M y) = M := by
    funext y
    by_cases ha : y = a
    · rw [if_pos ha, ha, e]
    · rw [if_neg ha]
  rw [e]
  exact F
theorem nb {a b : Int} (h : a ≠ b) : ¬ ((a == b) = true) := by simpa using h
theorem pbI {a b : Int} (h : a = b) : (a == b) = true := by simpa using h
theorem nd {P : Prop} [Decidable P] (h : ¬ P) : ¬ (decide P = true) := by simpa using h
theorem pd {P : Prop} [Decidable P] (h : P) : decide P = true := by simpa using h
theorem iter_same {h h' : Heap} {I l d : Addr} {i : Nat} (x : h.IsListIter I l i) (hs : Heap.SameBut d h h') (hne : I ≠ d) : h'.IsListIter I l i := x.at fun o e => hs.extBut _ _ hne e
theorem list_same {h h' : Heap} {l d : Addr} {a : Array Value} (x : h.IsList l a) (hs : Heap.SameBut d h h') (hne : l ≠ d) : h'.IsList l a := x.at fun o e => hs.extBut _ _ hne e
set_option maxRecDepth 100000 in
set_option maxHeartbeats 8000000 in
theorem c_group {w : World} {p : Program} {loose : List Str} {mean : ExcName → Option Value} {mg mb : Str → Option Value} {A : Around}
    (h₀ : Heap) (L : Addr) (m : Str → Option Value) (s : Shared) (Q E : Value → Shared → Prop) (lG : Addr) (st sp : Int) (ta tb tc td : Tok) (ng : Nat) (news : List (Addr × Obj))
    (F : Fr h₀ L s.heap m) (X : (K w.params).In h₀) (N : News h₀ L s.heap ((lG, listOf #[.int st ta, .int sp tb, .int 0 tc, .int 9 td] ng) :: news)) (T : Top p loose mean mg mb h₀)
    (hst : 1 ≤ st ∧ st ≤ 6) (hsp : 1 ≤ sp ∧ sp ≤ 3) (hroom : A.depth < recursionLimit)
    (hret : ∀ (h' : Heap) (tk : Nat) (gs : GenState), (∀ b o, s.heap.get? b = some o → h'.get? b = some o) → h'.IsGen (s.heap.objs.size + 1) s.gens.size → h'.objs.size = s.heap.objs.size + 2 → gs.bare = true →
      (∃ oL, h'.get? s.heap.objs.size = some oL) →
      (∀ (A1 : Around) (s' : Shared), (∀ b, b = s.heap.objs.size ∨ b = lG → ∀ o, h'.get? b = some o → s'.heap.get? b = some o) → (∀ b o, h₀.get? b = some o → s'.heap.get? b = some o) →
        gs.Goes (model rw1.prog w) A1 RG (YG h₀ s.heap.objs.size s'.heap.objs.size lG st sp) 8 (.send .none) s') →
      Q (.ref (s.heap.objs.size + 1)) { s with heap := h', gens := s.gens.push gs, toks := tk }) :
    wpAny (model rw1.prog w) A (call (.ref 94) [.ref lG]) Q E s := by
  revert X
  k_fill
  intro X
  refine wpAny_call ?_
  k_dflt (refine' code_gen F X T ?ho ?hcd hroom ?hb ?hc ?hl ?h ?hco ?hgen ?hkf; (case ho => k_is); (case hcd => k_is); (case hb => exact rfl); (case hc => decide); (case hl => exact locs rfl); (case hco => exact rfl); (case hgen => exact rfl); (case hkf => exact rfl))
  intro h' tk hns hk hg hsz
  have hLg : s.heap.get? s.heap.objs.size = none := by
    cases e : s.heap.get? s.heap.objs.size with
    | none => rfl
    | some o => exact absurd (Heap.lt_size e) (Nat.lt_irrefl _)
  have hLg0 : ∀ o, h₀.get? s.heap.objs.size ≠ some o := fun o e => by rw [F.keep _ _ e] at hLg; cases hLg
  obtain ⟨oL, _, _, eL, _⟩ := id hns
  have hlG := N _ List.mem_cons_self
  have hltG : @LT.lt Nat _ lG s.heap.objs.size := Heap.lt_size hlG.1
  refine hret h' tk _ hk hg hsz rfl ⟨oL, by assumption⟩ ?_
  intro A1 s' hkL hkG
  have F0 : Fr h₀ s.heap.objs.size s'.heap _ := ⟨hns.at' (fun o e => hkL _ (.inl rfl) o e), hkG, Nat.le_trans F.above (Nat.le_of_lt F.ns.lt)⟩
  have hl0 : s'.heap.IsList lG #[.int st ta, .int sp tb, .int 0 tc, .int 9 td] := ⟨_, hkL _ (.inr rfl) _ (hk _ _ hlG.1), rfl, _, rfl⟩
  refine ⟨rfl, ?_⟩
  refine seg_func ?_
  refine seg_execs_cons (seg_stmt ?_)
  have hIg : ∀ b o, s'.heap.get? b = some o → b ≠ s'.heap.objs.size := fun b o e => Nat.ne_of_lt (Heap.lt_size e)
  have hLI : s.heap.objs.size ≠ s'.heap.objs.size := by obtain ⟨o, _, _, e, _⟩ := F0.ns; exact hIg _ _ e
  have hGI : lG ≠ s'.heap.objs.size := by obtain ⟨o, e, _⟩ := hl0; exact hIg _ _ e
  have hGL : lG ≠ s.heap.objs.size := Nat.ne_of_lt hltG
  have hI0 : h₀.get? s'.heap.objs.size = none := by
    cases e : h₀.get? s'.heap.objs.size with
    | none => rfl
    | some o => exact absurd rfl (hIg _ _ (hkG _ _ e))
  k_steps
  unfold Halt
  refine st2 F0 fun h1 F1 s1 => ?_
  refine seg_execs_cons (seg_For ?_)
  refine ld F1 (by rfl) ?_
  have hl1 := list_same hl0 s1 hGL
  refine wpAny_pyIter_list hl1 ?_
  intro pp
  have e1 : h1.objs.size = s'.heap.objs.size := s1.1
  have hl2 : Heap.IsList (h1.push { cls := .type "list_iterator", data := .fields #[.ref lG, .int 0 0] }) lG _ := hl1.push _
  have it0 : Heap.IsListIter (h1.push { cls := .type "list_iterator", data := .fields #[.ref lG, .int 0 0] }) s'.heap.objs.size lG 0 := ⟨_, by rw [← e1]; exact Heap.get?_push_size _ rfl, rfl, rfl⟩
  have F2 := F1.push { cls := .type "list_iterator", data := .fields #[.ref lG, .int 0 0] }
  (try dsimp only)
  rw [e1]
  refine seg_forLoop (wpAny_pyNext_list_item (i := 0) (x := .int st ta) it0 hl2 rfl ?_)
  intro h3 it3 s3
  have F3 := F2.change s3 hLI.symm hI0
  have hl3 := list_same hl2 s3 hGI
  refine ⟨_, rfl, ?_⟩
  refine st2 F3 fun h4 F4 s4 => ?_
  have hl4 := list_same hl3 s4 hGL
  have it4 := iter_same it3 s4 hLI.symm
  intro HX
  refine seg_execs_cons (seg_If ?_)
  obtain ⟨rs, N4, hrs⟩ := snap F4
  k_steps
  rw [if_neg (nb (by omega))]
  refine seg_execs_nil (seg_execs_cons (seg_If ?_))
  k_steps
  rw [if_neg (nb (by omega))]
  refine seg_execs_nil (seg_execs_cons (seg_Expr_Yield (by rfl) (by rfl) (by rfl) ?_ (by rfl) (by rfl)))
  refine ld F4 (by rfl) ?_
  intro kap hk
  refine ⟨⟨_, rfl⟩, ⟨rfl, rfl, rfl, ?kept⟩, ⟨⟨_, F4, ⟨_, rfl⟩⟩, it4, ⟨_, _, _, _, hl4⟩, ⟨hLI, hGL.symm, hGI.symm⟩, hI0⟩, fun _ s5 hG => hk .none s5 ?_⟩
  case kept =>
    intro b o hb1 hb2 e
    exact s4.extBut _ _ hb1 (s3.extBut _ _ hb2 (Heap.get?_push_of_some _ (s1.extBut _ _ hb1 e)))
  (try dsimp only)
  obtain ⟨⟨m5, F5, hn5⟩, it5, ⟨ta5, tb5, tc5, td5, hl5⟩, _, _⟩ := hG
  obtain ⟨t5, hn5⟩ : ∃ t, m5 (Str.ofString "interval") = some (.int st t) := hn5
  replace F5 := fr1 F5 hn5
  replace it5 : s5.heap.IsListIter s'.heap.objs.size lG 1 := it5
  refine seg_execs_cons (seg_stmt ?_)
  clear N4
  obtain ⟨rs5, N5, hrs5⟩ := snap F5
  k_steps
  unfold Halt
  refine st2 F5 fun h6 F6 s6 => ?_
  have hl6 := list_same hl5 s6 hGL
  have it6 := iter_same it5 s6 hLI.symm
  refine seg_execs_nil (seg_again (by rfl) ?_)
  refine seg_forLoop (wpAny_pyNext_list_item (i := 1) (x := .int sp tb5) it6 hl6 rfl ?_)
  intro h7 it7 s7
  have F7 := F6.change s7 hLI.symm hI0
  have hl7 := list_same hl6 s7 hGI
  refine ⟨_, rfl, ?_⟩
  refine st2 F7 fun h8 F8 s8 => ?_
  have hl8 := list_same hl7 s8 hGL
  have it8 := iter_same it7 s8 hLI.symm
  intro HX2
  refine seg_execs_cons (seg_If ?_)
  clear N5
  obtain ⟨rs8, N8, hrs8⟩ := snap F8
  k_steps
  rw [if_neg (nb (by omega))]
  refine seg_execs_nil (seg_execs_cons (seg_If ?_))
  k_steps
  rw [if_neg (nb (by omega))]
  refine seg_execs_nil (seg_execs_cons (seg_Expr_Yield (by rfl) (by rfl) (by rfl) ?_ (by rfl) (by rfl)))
  refine ld F8 (by rfl) ?_
  intro kap2 hk2
  refine ⟨⟨_, rfl⟩, ⟨rfl, rfl, rfl, ?kept2⟩, ⟨⟨_, F8, ⟨_, rfl⟩⟩, it8, ⟨_, _, _, _, hl8⟩, ⟨hLI, hGL.symm, hGI.symm⟩, hI0⟩, fun _ s9 hG9 => hk2 .none s9 ?_⟩
  case kept2 =>
    intro b o hb1 hb2 e
    exact s8.extBut _ _ hb1 (s7.extBut _ _ hb2 (s6.extBut _ _ hb1 e))
  (try dsimp only)
  obtain ⟨⟨m9, F9, hn9⟩, it9, ⟨ta9, tb9, tc9, td9, hl9⟩, _, _⟩ := hG9
  obtain ⟨t9, hn9⟩ : ∃ t, m9 (Str.ofString "interval") = some (.int sp t) := hn9
  replace F9 := fr1 F9 hn9
  replace it9 : s9.heap.IsListIter s'.heap.objs.size lG 2 := it9
  refine seg_execs_cons (seg_stmt ?_)
  clear N8
  obtain ⟨rs9, N9, hrs9⟩ := snap F9
  k_steps
  unfold Halt
  refine st2 F9 fun h10 F10 s10 => ?_
  have hl10 := list_same hl9 s10 hGL
  have it10 := iter_same it9 s10 hLI.symm
  refine seg_execs_nil (seg_again (by rfl) ?_)
  refine seg_forLoop (wpAny_pyNext_list_item (i := 2) (x := .int 0 tc9) it10 hl10 rfl ?_)
  intro h11 it11 s11
  have F11 := F10.change s11 hLI.symm hI0
  have hl11 := list_same hl10 s11 hGI
  refine ⟨_, rfl, ?_⟩
  refine st2 F11 fun h12 F12 s12 => ?_
  have hl12 := list_same hl11 s12 hGL
  have it12 := iter_same it11 s12 hLI.symm
  intro HX3
  refine seg_execs_cons (seg_If ?_)
  clear N9
  obtain ⟨rs12, N12, hrs12⟩ := snap F12
  k_steps
  rw [if_neg (nb (by omega))]
  refine seg_execs_nil (seg_execs_cons (seg_If ?_))
  k_steps
  rw [if_pos (pbI rfl)]
  refine seg_execs_cons (seg_If ?_)
  k_steps
  rw [if_neg Bool.false_ne_true]
  refine seg_execs_nil (seg_execs_cons (seg_While ?_))
  intro p7
  refine seg_spin (by rfl) (by rfl) (by rfl) (by rfl) (by rfl) (by rfl) (by rfl) 5 (by decide) s9 _ ⟨rfl, rfl, rfl, ?kept3⟩ ⟨⟨_, F12, ⟨_, rfl⟩⟩, it12, ⟨_, _, _, _, hl12⟩, ⟨hLI, hGL.symm, hGI.symm⟩, hI0⟩
  case kept3 =>
    intro b o hb1 hb2 e
    exact s12.extBut _ _ hb1 (s11.extBut _ _ hb2 (s10.extBut _ _ hb1 e))
end Mine
end
section
open PySem PySem.W PyProof.Rows PyProof.V PySem.Spec PySem.Calls
namespace Mine
/-- all that a heap holds beside a base, a frame and some addresses -/
theorem snapX {g h : Heap} {L : Addr} {m : Str → Option Value} (F : Fr g L h m) (ex : List Addr) : ∃ rs, News g L h rs ∧ (∀ p ∈ rs, p.1 ∉ ex) ∧ ∀ b o, b ≠ L → b ∉ ex → h.get? b = some o → g.get? b = none → (b, o) ∈ rs := by
  obtain ⟨rs, N, H⟩ := snap F
  refine ⟨rs.filter (fun p => decide (p.1 ∉ ex)), fun p hp => N p (List.mem_filter.mp hp).1, fun p hp => of_decide_eq_true (List.mem_filter.mp hp).2, fun b o h1 h2 h3 h4 => List.mem_filter.mpr ⟨H b o h1 h3 h4, decide_eq_true h2⟩⟩
/-- the addresses of law's loop -/
structure ZA where
  g : Heap
  L : Addr
  lH : Addr
  l1 : Addr
  l0 : Addr
  lT : Addr
  lG : Addr
  Lg : Addr
  i1 : Addr
  st : Int
  sp : Int
  x : Str
  tx : Tok
abbrev ZA.ga (a : ZA) : Addr := a.Lg + 1
abbrev ZA.TI (a : ZA) : Addr := a.i1 + 1
abbrev ZA.TO (a : ZA) : Addr := a.i1 + 2
abbrev ZA.z (a : ZA) : Addr := a.i1 + 3
/-- the order of the addresses -/
structure ZA.Ok (a : ZA) : Prop where
  o1 : @LT.lt Nat _ a.L a.lT
  o2 : @LT.lt Nat _ a.lT a.l0
  o3 : @LT.lt Nat _ a.l0 a.l1
  o4 : @LT.lt Nat _ a.l1 a.lH
  o5 : @LT.lt Nat _ a.lH a.lG
  o6 : @LT.lt Nat _ a.lG a.Lg
  o7 : @LT.lt Nat _ (a.Lg + 1) a.i1
/-- what is left of the generator behind its j-th value -/
def GenRest (a : ZA) (w : World) (A1 : Around) (j : Nat) (gs : GenState) (h : Heap) : Prop :=
  (j = 0 ∧ (∃ oL, h.get? a.Lg = some oL ∧ ∀ (s' : Shared), (∀ b, b = a.Lg ∨ b = a.lG → ∀ o, h.get? b = some o → s'.heap.get? b = some o) → (∀ b o, a.g.get? b = some o → s'.heap.get? b = some o) →
      gs.Goes (model rw1.prog w) A1 RG (YG a.g a.Lg s'.heap.objs.size a.lG a.st a.sp) 8 (.send .none) s') ∧ ∃ o, h.get? a.lG = some o) ∨
  (1 ≤ j ∧ ∃ Ig, @LT.lt Nat _ a.z Ig ∧ GAt a.g a.Lg Ig a.lG a.st a.sp j h ∧ (j < 8 → ∀ s'', GAt a.g a.Lg Ig a.lG a.st a.sp j s''.heap → gs.Goes (model rw1.prog w) A1 RG (YG a.g a.Lg Ig a.lG a.st a.sp) (8 - j) (.send .none) s''))
structure ZipSt (a : ZA) (w : World) (A1 : Around) (os : OsState) (f0 : Value) (j : Nat) (s : Shared) : Prop where
  zip : IsZip s.heap a.z a.TI a.TO f0
  ti : IsPair s.heap a.TI (.ref a.i1) (.ref a.ga)
  to : ∃ u v, IsPair s.heap a.TO u v
  it : s.heap.IsStrIter a.i1 "str_ascii_iterator" a.x a.tx j
  gen : s.heap.IsGen a.ga 0
  gens : ∃ gs, s.gens = #[gs] ∧ gs.bare = true ∧ GenRest a w A1 j gs s.heap
  os : s.os = os
  base : ∀ b o, a.g.get? b = some o → s.heap.get? b = some o
theorem GenRest.keep {a : ZA} {w : World} {A1 : Around} {j : Nat} {gs : GenState} {h h' : Heap} (x : GenRest a w A1 j gs h) (hk : ∀ b o, b ≠ a.L → b ≠ a.l0 → b ≠ a.l1 → a.g.get? b = none → h.get? b = some o → h'.get? b = some o) (hb : ∀ b o, a.g.get? b = some o → h'.get? b = some o)
    (hb0 : ∀ b o, a.g.get? b = some o → h.get? b = some o) (ok : a.Ok) : GenRest a w A1 j gs h' := by
  have hk2 : ∀ b o, b ≠ a.L → b ≠ a.l0 → b ≠ a.l1 → h.get? b = some o → h'.get? b = some o := by
    intro b o h1 h2 h3 e
    cases hg : a.g.get? b with
    | none => exact hk b o h1 h2 h3 hg e
    | some o' =>
      have := hb0 b o' hg
      rw [e] at this
      cases this
      exact hb b o hg
  obtain ⟨o1, o2, o3, o4, o5, o6, o7⟩ := ok
  have q1 : ∀ o, h.get? a.Lg = some o → h'.get? a.Lg = some o := fun o e => hk2 _ _ (Nat.ne_of_gt (by omega)) (Nat.ne_of_gt (by omega)) (Nat.ne_of_gt (by omega)) e
  have q2 : ∀ o, h.get? a.lG = some o → h'.get? a.lG = some o := fun o e => hk2 _ _ (Nat.ne_of_gt (by omega)) (Nat.ne_of_gt (by omega)) (Nat.ne_of_gt (by omega)) e
  rcases x with ⟨h0, ⟨oL, e1, h1⟩, o, e2⟩ | ⟨h0, Ig, h1, h2, h3⟩
  · refine .inl ⟨h0, ⟨oL, q1 _ e1, fun s' k1 k2 => h1 s' (fun b hb' o' e => ?_) k2⟩, o, q2 _ e2⟩
    rcases hb' with rfl | rfl
    · exact k1 _ (.inl rfl) _ (q1 _ e)
    · exact k1 _ (.inr rfl) _ (q2 _ e)
  · refine .inr ⟨h0, Ig, h1, h2.at (fun b hb' o e => ?_) hb, h3⟩
    rcases hb' with rfl | rfl | rfl
    · exact q1 _ e
    · have h1' : @LT.lt Nat _ (a.i1 + 3) b := h1
      exact hk2 _ _ (Nat.ne_of_gt (by omega)) (Nat.ne_of_gt (by omega)) (Nat.ne_of_gt (by omega)) e
    · exact q2 _ e
theorem ZipSt.keep {a : ZA} {w : World} {A1 : Around} {os : OsState} {f0 : Value} {j : Nat} {s s' : Shared} (x : ZipSt a w A1 os f0 j s) (hk : ∀ b o, b ≠ a.L → b ≠ a.l0 → b ≠ a.l1 → a.g.get? b = none → s.heap.get? b = some o → s'.heap.get? b = some o) (hb : ∀ b o, a.g.get? b = some o → s'.heap.get? b = some o)
    (ok : a.Ok) (hg : s'.gens = s.gens) (ho : s'.os = s.os) : ZipSt a w A1 os f0 j s' := by
  have hk2 : ∀ b o, b ≠ a.L → b ≠ a.l0 → b ≠ a.l1 → s.heap.get? b = some o → s'.heap.get? b = some o := by
    intro b o h1 h2 h3 e
    cases hg : a.g.get? b with
    | none => exact hk b o h1 h2 h3 hg e
    | some o' =>
      have := x.base b o' hg
      rw [e] at this
      cases this
      exact hb b o hg
  have k := ok
  obtain ⟨o1, o2, o3, o4, o5, o6, o7⟩ := ok
  have up : ∀ b o, @LT.lt Nat _ a.Lg b → s.heap.get? b = some o → s'.heap.get? b = some o := fun b o hb' e => hk2 b o (Nat.ne_of_gt (by omega)) (Nat.ne_of_gt (by omega)) (Nat.ne_of_gt (by omega)) e
  obtain ⟨gs, e1, e2, e3⟩ := x.gens
  obtain ⟨u, v, e4⟩ := x.to
  obtain ⟨oi, e5, e6⟩ := x.it
  obtain ⟨og, nm, qn, e7, e8⟩ := x.gen
  exact ⟨up _ _ (by show @LT.lt Nat _ a.Lg (a.i1 + 3); omega) x.zip, up _ _ (by show @LT.lt Nat _ a.Lg (a.i1 + 1); omega) x.ti, ⟨u, v, up _ _ (by show @LT.lt Nat _ a.Lg (a.i1 + 2); omega) e4⟩, ⟨oi, up _ _ (by omega) e5, e6⟩, ⟨og, nm, qn, up _ _ (by show @LT.lt Nat _ a.Lg (a.Lg + 1); omega) e7, e8⟩, ⟨gs, hg.trans e1, e2, e3.keep hk hb x.base k⟩, ho.trans x.os, hb⟩
theorem zip_turn {a : ZA} {w : World} {A : Around} {os : OsState} {j : Nat} {s : Shared} {E : Value → Shared → Prop} {c : Nat} {m : Str → Option Value} {p : Program} {loose : List Str} {mean : ExcName → Option Value} {mg mb : Str → Option Value}
    (ok : a.Ok) (x : ZipSt a w A.in1.in1 os .none j s) (hj : j < 8) (hc : a.x.cps[j]? = some c) (F : Fr a.g a.L s.heap m) (T : Top p loose mean mg mb a.g) (hroom : A.in1.depth < recursionLimit) :
    wpAny (model rw1.prog w) A (pyNext (.ref a.z)) (fun r s1 => ∃ Tt t1 t2, r = some (.ref Tt) ∧ @LT.lt Nat _ a.z Tt ∧ IsPair s1.heap Tt (.str ⟨#[c]⟩ t1) (.int (if j = 0 then a.st else a.sp) t2) ∧ ZipSt a w A.in1.in1 os (rawInt Tt) (j + 1) s1 ∧
      (∀ b o, @LT.lt Nat _ b a.lG → s.heap.get? b = some o → s1.heap.get? b = some o)) E s := by
  have k := ok
  obtain ⟨o1, o2, o3, o4, o5, o6, o7⟩ := ok
  have zTI : a.TI ≠ a.z := Nat.ne_of_lt (by show @LT.lt Nat _ (a.i1 + 1) (a.i1 + 3); omega)
  have zTO : a.TO ≠ a.z := Nat.ne_of_lt (by show @LT.lt Nat _ (a.i1 + 2) (a.i1 + 3); omega)
  have zi : a.i1 ≠ a.z := Nat.ne_of_lt (by show @LT.lt Nat _ a.i1 (a.i1 + 3); omega)
  have iTO : a.i1 ≠ a.TO := Nat.ne_of_lt (by show @LT.lt Nat _ a.i1 (a.i1 + 2); omega)
  have TITO : a.TI ≠ a.TO := Nat.ne_of_lt (by show @LT.lt Nat _ (a.i1 + 1) (a.i1 + 2); omega)
  have TIi : a.TI ≠ a.i1 := Nat.ne_of_gt (by show @LT.lt Nat _ a.i1 (a.i1 + 1); omega)
  have gaz : a.ga ≠ a.z := Nat.ne_of_lt (by show @LT.lt Nat _ (a.Lg + 1) (a.i1 + 3); omega)
  have gai : a.ga ≠ a.i1 := Nat.ne_of_lt (by show @LT.lt Nat _ (a.Lg + 1) a.i1; omega)
  have gaTO : a.ga ≠ a.TO := Nat.ne_of_lt (by show @LT.lt Nat _ (a.Lg + 1) (a.i1 + 2); omega)
  obtain ⟨u, v, hTO⟩ := x.to
  obtain ⟨gs, hgs, hbare, hrest⟩ := x.gens
  refine pyNext_zip2 zTI zTO x.zip x.ti hTO fun hA sA zA => ?_
  have itA : hA.IsStrIter a.i1 "str_ascii_iterator" a.x a.tx j := by obtain ⟨o, e, r⟩ := x.it; exact ⟨o, sA.extBut _ _ zi e, r⟩
  refine nextOf_text itA hc fun hB itB sB => ?_
  have tB : IsPair hB a.TO u v := sB.extBut _ _ iTO.symm (sA.extBut _ _ zTO hTO)
  refine ⟨tB, fun hC sC tC => ?_⟩
  have keepC : ∀ b o, b ≠ a.z → b ≠ a.i1 → b ≠ a.TO → s.heap.get? b = some o → hC.get? b = some o := fun b o h1 h2 h3 e => sC.extBut _ _ h3 (sB.extBut _ _ h2 (sA.extBut _ _ h1 e))
  have small : ∀ b o, @LT.lt Nat _ b a.ga → s.heap.get? b = some o → hC.get? b = some o := fun b o hb e => by
    have hb' : @LT.lt Nat _ b (a.Lg + 1) := hb
    exact keepC b o (Nat.ne_of_lt (by show @LT.lt Nat _ b (a.i1 + 3); omega)) (Nat.ne_of_lt (by omega)) (Nat.ne_of_lt (by show @LT.lt Nat _ b (a.i1 + 2); omega)) e
  have below : ∀ b o, a.g.get? b = some o → @LT.lt Nat _ b a.L := fun b o e => Nat.lt_of_lt_of_le (Heap.lt_size e) F.above
  have baseC : ∀ b o, a.g.get? b = some o → hC.get? b = some o := fun b o e => small b o (by have := below b o e; show @LT.lt Nat _ b (a.Lg + 1); omega) (x.base b o e)
  have genC : hC.IsGen a.ga 0 := by obtain ⟨o, nm, qn, e, r⟩ := x.gen; exact ⟨o, nm, qn, keepC _ _ gaz gai gaTO e, r⟩
  have zC : IsZip hC a.z a.TI a.TO .ellipsis := sC.extBut _ _ zTO.symm (sB.extBut _ _ zi.symm zA)
  have itC : hC.IsStrIter a.i1 "str_ascii_iterator" a.x a.tx (j + 1) := by obtain ⟨o, e, r⟩ := itB; exact ⟨o, sC.extBut _ _ iTO e, r⟩
  have tiC : IsPair hC a.TI (.ref a.i1) (.ref a.ga) := keepC _ _ zTI TIi TITO x.ti
  have zlt : @LT.lt Nat _ a.z hC.objs.size := Heap.lt_size zC
  obtain ⟨Ig, hIz, hgo⟩ : ∃ Ig, @LT.lt Nat _ a.z Ig ∧ gs.Goes (model rw1.prog w) A.in1.in1 RG (YG a.g a.Lg Ig a.lG a.st a.sp) (7 - j + 1) (.send .none) (Shared.setGen { s with heap := hC, toks := s.toks + 1 } 0 .running) := by
    rcases hrest with ⟨h0, ⟨oL, e1, h1⟩, o, e2⟩ | ⟨h0, Ig, h1, h2, h3⟩
    · subst h0
      refine ⟨hC.objs.size, zlt, h1 _ (fun b hb o' e => ?_) baseC⟩
      rcases hb with rfl | rfl
      · exact small _ _ (by show @LT.lt Nat _ a.Lg (a.Lg + 1); omega) e
      · exact small _ _ (by show @LT.lt Nat _ a.lG (a.Lg + 1); omega) e
    · refine ⟨Ig, h1, ?_⟩
      rw [show 7 - j + 1 = 8 - j by omega]
      refine h3 hj _ (h2.at (fun b hb o' e => ?_) baseC)
      rcases hb with rfl | rfl | rfl
      · exact small _ _ (by show @LT.lt Nat _ a.Lg (a.Lg + 1); omega) e
      · have h1' : @LT.lt Nat _ (a.i1 + 3) b := h1
        exact keepC _ _ (Nat.ne_of_gt h1') (Nat.ne_of_gt (by omega)) (Nat.ne_of_gt (by show @LT.lt Nat _ (a.i1 + 2) b; omega)) e
      · exact small _ _ (by show @LT.lt Nat _ a.lG (a.Lg + 1); omega) e
  have hIz' : @LT.lt Nat _ (a.i1 + 3) Ig := hIz
  refine nextOf_gen (n := 7 - j + 1) (gs := gs) (T.keeps baseC).nolimit hroom genC (by show s.gens[0]? = some gs; rw [hgs]; rfl) hgo fun y s1 gs' hY hb' => ?_
  obtain ⟨⟨ty, rfl⟩, hS, hG, hN⟩ := hY
  have keep1 : ∀ b o, b ≠ a.Lg → b ≠ Ig → hC.get? b = some o → s1.heap.get? b = some o := fun b o h1 h2 e => hS.kept b o h1 h2 e
  have nLg : ∀ b, @LT.lt Nat _ a.Lg b → b ≠ a.Lg := fun b hb => Nat.ne_of_gt hb
  have tD : IsPair s1.heap a.TO _ _ := keep1 _ _ (nLg _ (by show @LT.lt Nat _ a.Lg (a.i1 + 2); omega)) (Nat.ne_of_lt (by show @LT.lt Nat _ (a.i1 + 2) Ig; omega)) tC
  have zD : IsZip s1.heap a.z a.TI a.TO .ellipsis := keep1 _ _ (nLg _ (by show @LT.lt Nat _ a.Lg (a.i1 + 3); omega)) (Nat.ne_of_lt hIz) zC
  refine ⟨tD, zD, fun h' z' to' T' sz' keep' => ?_⟩
  have up : ∀ b o, @LT.lt Nat _ a.Lg b → b ≠ a.z → b ≠ a.TO → b ≠ Ig → hC.get? b = some o → h'.get? b = some o := fun b o h1 h2 h3 h4 e => keep' b o h2 h3 (keep1 b o (nLg _ h1) h4 e)
  have low : ∀ b o, @LT.lt Nat _ b a.Lg → s.heap.get? b = some o → h'.get? b = some o := fun b o h1 e =>
    keep' b o (Nat.ne_of_lt (by show @LT.lt Nat _ b (a.i1 + 3); omega)) (Nat.ne_of_lt (by show @LT.lt Nat _ b (a.i1 + 2); omega)) (keep1 b o (Nat.ne_of_lt h1) (Nat.ne_of_lt (by omega)) (small b o (by show @LT.lt Nat _ b (a.Lg + 1); omega) e))
  have hsz : @LT.lt Nat _ a.z s1.heap.objs.size := Heap.lt_size zD
  have base' : ∀ b o, a.g.get? b = some o → h'.get? b = some o := fun b o e => low b o (by have := below b o e; omega) (x.base b o e)
  refine ⟨s1.heap.objs.size, s.toks, ty, rfl, hsz, ?_, ⟨z', up _ _ (by show @LT.lt Nat _ a.Lg (a.i1 + 1); omega) zTI TITO (Nat.ne_of_lt (by show @LT.lt Nat _ (a.i1 + 1) Ig; omega)) tiC, ⟨_, _, to'⟩, ?_, ?_, ⟨gs', ?_, hb', ?_⟩, ?_, base'⟩, fun b o hb e => low b o (by omega) e⟩
  · have e7 : (7 - j + 1 - 1 = 7) = (j = 0) := by apply propext; omega
    simp only [e7] at T'
    exact T'
  · obtain ⟨o, e, r⟩ := itC
    exact ⟨o, up _ _ (by omega) zi iTO (Nat.ne_of_lt (by omega)) e, r⟩
  · obtain ⟨o, nm, qn, e, r⟩ := genC
    exact ⟨o, nm, qn, up _ _ (by show @LT.lt Nat _ a.Lg (a.Lg + 1); omega) gaz gaTO (Nat.ne_of_lt (by show @LT.lt Nat _ (a.Lg + 1) Ig; omega)) e, r⟩
  · show (s1.setGen 0 gs').gens = #[gs']
    show s1.gens.setIfInBounds 0 gs' = #[gs']
    rw [hS.gens]
    show (s.gens.setIfInBounds 0 .running).setIfInBounds 0 gs' = #[gs']
    rw [hgs]
    rfl
  · have ej : 8 - (7 - j + 1 - 1) = j + 1 := by omega
    rw [ej] at hG hN
    refine .inr ⟨by omega, Ig, hIz, hG.at (fun b hb o' e => ?_) base', fun h8 s'' hG' => ?_⟩
    · rcases hb with rfl | rfl | rfl
      · exact keep' _ _ (Nat.ne_of_lt (by show @LT.lt Nat _ a.Lg (a.i1 + 3); omega)) (Nat.ne_of_lt (by show @LT.lt Nat _ a.Lg (a.i1 + 2); omega)) e
      · exact keep' _ _ (Nat.ne_of_gt hIz) (Nat.ne_of_gt (by show @LT.lt Nat _ (a.i1 + 2) b; omega)) e
      · exact keep' _ _ (Nat.ne_of_lt (by show @LT.lt Nat _ a.lG (a.i1 + 3); omega)) (Nat.ne_of_lt (by show @LT.lt Nat _ a.lG (a.i1 + 2); omega)) e
    · have := hN (by omega) s'' hG'
      rwa [show 8 - (j + 1) = 7 - j by omega]
  · show s1.os = os
    rw [hS.os]
    exact x.os
theorem zip_fin {a : ZA} {w : World} {A A1 : Around} {os : OsState} {j : Nat} {s : Shared} {E : Value → Shared → Prop} (ok : a.Ok) (x : ZipSt a w A1 os .none j s) (hx : a.x.cps[j]? = none) (hh : A.handled = none) :
    wpAny (model rw1.prog w) A (pyNext (.ref a.z)) (fun r s1 => r = none ∧ (∃ h, s1 = { s with heap := h }) ∧ ∀ b o, @LT.lt Nat _ b a.lG → s.heap.get? b = some o → s1.heap.get? b = some o) E s := by
  obtain ⟨o1, o2, o3, o4, o5, o6, o7⟩ := ok
  obtain ⟨u, v, hTO⟩ := x.to
  refine pyNext_zipEnd hh (Nat.ne_of_lt (by show @LT.lt Nat _ a.i1 (a.i1 + 3); omega)) x.zip x.ti hTO x.it hx fun h' hk => ⟨rfl, ⟨h', rfl⟩, fun b o hb e => hk b o (Nat.ne_of_lt (by show @LT.lt Nat _ b (a.i1 + 3); omega)) (Nat.ne_of_lt (by omega)) e⟩
end Mine
end
section
open PySem PySem.W PyProof.Rows PyProof.V PySem.Spec PySem.Calls
namespace Mine
def markAt (st sp : Int) : Nat → Int
  | 0 => 0
  | j + 1 => markAt st sp j + (if j = 0 then st else sp)
def handAt (c : Nat) (st sp : Int) (l : List Nat) : Nat → List Int
  | 0 => [st, st]
  | j + 1 => if l[j]? = some c then handAt c st sp l j ++ [markAt st sp (j + 1)] else handAt c st sp l j
theorem markAt_bd {st sp : Int} (h1 : 1 ≤ st ∧ st ≤ 6) (h2 : 1 ≤ sp ∧ sp ≤ 3) : ∀ j : Nat, 0 ≤ markAt st sp j ∧ markAt st sp j ≤ 6 * j
  | 0 => ⟨Int.le_refl _, Int.le_refl _⟩
  | j + 1 => by
    have := markAt_bd h1 h2 j
    rw [markAt]
    split <;> omega
/-- law's ledger in its loop -/
def lawLed (a : ZA) (oT o6 oh ot os ob o1 : Obj) (v0 v1 : List Value) (c0 c1 : Nat) : List (Addr × Obj) :=
  [(a.lH, listOf #[.ref a.l0, .ref a.l1] 0), (a.l1, listOf v1.toArray c1), (a.l0, listOf v0.toArray c0), (a.lT, oT), (a.L + 1 + 1 + 1 + 1 + 1 + 1, o6), (a.L + 1 + 1 + 1 + 1 + 1, oh), (a.L + 1 + 1 + 1 + 1, ot), (a.L + 1 + 1 + 1, os), (a.L + 1 + 1, ob), (a.L + 1, o1)]
inductive LawSt (a : ZA) (oT o6 oh ot os ob o1 : Obj) (l : List Nat) (j : Nat) (h : Heap) : Prop where
  | mk (u : Str → Option Value) (tm tst : Tok) (v0 v1 : List Value) (c0 c1 : Nat)
    (f0 : IntsAre v0 (handAt 104 a.st a.sp l j))
    (f1 : IntsAre v1 (handAt 112 a.st a.sp l j))
    (f2 : Fr a.g a.L h (fun y => if y = Str.ofString "mark" then some (.int (markAt a.st a.sp j) tm) else if y = Str.ofString "start" then some (.int a.st tst) else u y))
    (f3 : News a.g a.L h (lawLed a oT o6 oh ot os ob o1 v0 v1 c0 c1)) : LawSt a oT o6 oh ot os ob o1 l j h
theorem fr_low {g h h' : Heap} {L d : Addr} {m : Str → Option Value} (F : Fr g L h m) (hd : @LT.lt Nat _ L d) (hk : ∀ b o, @LT.lt Nat _ b d → h.get? b = some o → h'.get? b = some o) : Fr g L h' m :=
  ⟨F.ns.at' (fun o e => hk _ o hd e), fun b o e => hk b o (Nat.lt_trans (Nat.lt_of_lt_of_le (Heap.lt_size e) F.above) hd) (F.keep b o e), F.above⟩
theorem LawSt.keep {a : ZA} {oT o6 oh ot os ob o1 : Obj} {l : List Nat} {j : Nat} {h h' : Heap} (x : LawSt a oT o6 oh ot os ob o1 l j h) (ok : a.Ok) (o0 : @LT.lt Nat _ (a.L + 1 + 1 + 1 + 1 + 1 + 1) a.lT) (hk : ∀ b o, @LT.lt Nat _ b a.lG → h.get? b = some o → h'.get? b = some o) : LawSt a oT o6 oh ot os ob o1 l j h' := by
  obtain ⟨u, tm, tst, v0, v1, c0, c1, i0, i1, F, N⟩ := x
  obtain ⟨q1, q2, q3, q4, q5, q6, q7⟩ := ok
  refine ⟨u, tm, tst, v0, v1, c0, c1, i0, i1, fr_low F (by omega) hk, fun p hp => ⟨hk _ _ ?_ (N p hp).1, (N p hp).2⟩⟩
  simp only [lawLed, List.mem_cons, List.not_mem_nil, or_false] at hp
  rcases hp with rfl | rfl | rfl | rfl | rfl | rfl | rfl | rfl | rfl | rfl <;> (dsimp only; omega)
theorem ZipSt.letGo {a : ZA} {w : World} {A1 : Around} {os : OsState} {f0 : Value} {j : Nat} {s : Shared} {h : Heap} (x : ZipSt a w A1 os f0 j s) (ok : a.Ok) (hL : ∀ b o, a.g.get? b = some o → @LT.lt Nat _ b a.L) (hz : IsZip h a.z a.TI a.TO .none) (hs : Heap.SameBut a.z s.heap h) : ZipSt a w A1 os .none j { s with heap := h } := by
  obtain ⟨q1, q2, q3, q4, q5, q6, q7⟩ := ok
  obtain ⟨gs, e1, e2, e3⟩ := x.gens
  obtain ⟨u, v, e4⟩ := x.to
  obtain ⟨oi, e5, e6⟩ := x.it
  obtain ⟨og, nm, qn, e7, e8⟩ := x.gen
  have up : ∀ b o, b ≠ a.z → s.heap.get? b = some o → h.get? b = some o := fun b o hb e => hs.extBut _ _ hb e
  have hb : ∀ b o, a.g.get? b = some o → h.get? b = some o := fun b o e => up b o (Nat.ne_of_lt (by have := hL b o e; show @LT.lt Nat _ b (a.i1 + 3); omega)) (x.base b o e)
  refine ⟨hz, up _ _ (Nat.ne_of_lt (by show @LT.lt Nat _ (a.i1 + 1) (a.i1 + 3); omega)) x.ti, ⟨u, v, up _ _ (Nat.ne_of_lt (by show @LT.lt Nat _ (a.i1 + 2) (a.i1 + 3); omega)) e4⟩, ⟨oi, up _ _ (Nat.ne_of_lt (by show @LT.lt Nat _ a.i1 (a.i1 + 3); omega)) e5, e6⟩,
    ⟨og, nm, qn, up _ _ (Nat.ne_of_lt (by show @LT.lt Nat _ (a.Lg + 1) (a.i1 + 3); omega)) e7, e8⟩, ⟨gs, e1, e2, ?_⟩, x.os, hb⟩
  have k1 : ∀ o, s.heap.get? a.Lg = some o → h.get? a.Lg = some o := fun o e => up _ _ (Nat.ne_of_lt (by show @LT.lt Nat _ a.Lg (a.i1 + 3); omega)) e
  have k2 : ∀ o, s.heap.get? a.lG = some o → h.get? a.lG = some o := fun o e => up _ _ (Nat.ne_of_lt (by show @LT.lt Nat _ a.lG (a.i1 + 3); omega)) e
  rcases e3 with ⟨h0, ⟨oL, e1, h1⟩, o, e2⟩ | ⟨h0, Ig, h1, h2, h3⟩
  · refine .inl ⟨h0, ⟨oL, k1 _ e1, fun s' p1 p2 => h1 s' (fun b hb' o' e => ?_) p2⟩, o, k2 _ e2⟩
    rcases hb' with rfl | rfl
    · exact p1 _ (.inl rfl) _ (k1 _ e)
    · exact p1 _ (.inr rfl) _ (k2 _ e)
  · refine .inr ⟨h0, Ig, h1, h2.at (fun b hb' o' e => ?_) hb, h3⟩
    rcases hb' with rfl | rfl | rfl
    · exact k1 _ e
    · exact up _ _ (Nat.ne_of_gt h1) e
    · exact k2 _ e
theorem word_char {x : Str} {bg : Int} (hb : bg = 0 ∨ bg = 1) (hx : x.cps.toList = growN 3 (Txt.item (Str.ofString "hp") bg).cps.toList) {j c : Nat} (h : x.cps[j]? = some c) : c = 104 ∨ c = 112 := by
  have hm : c ∈ x.cps.toList := by
    have h' : x.cps.toList[j]? = some c := by simpa using h
    exact List.mem_of_getElem? h'
  rw [hx] at hm
  have hall : ∀ bg : Int, bg = 0 ∨ bg = 1 → (growN 3 (Txt.item (Str.ofString "hp") bg).cps.toList).all (fun c => c == 104 || c == 112) = true := by
    rintro bg (rfl | rfl) <;> decide +kernel
  have := List.all_eq_true.mp (hall bg hb) c hm
  simpa using this
end Mine
end
section
open PySem PySem.W PyProof.Rows PyProof.V PySem.Spec PySem.Calls
namespace Mine
theorem calmW15 : True := by
  w_top off
  exact trivial
local macro_rules | `(tactic| walk_at "call ref") => `(tactic| (refine Halt.out ?_))
local macro_rules | `(tactic| walk_at "call type:zip") => `(tactic| (refine Halt.out ?_))
local macro_rules | `(tactic| walk_at "pyIter ref") => `(tactic| (refine Halt.out ?_))
theorem ascii_word {x : Str} {bg : Int} (hb : bg = 0 ∨ bg = 1) (hx : x.cps.toList = growN 3 (Txt.item (Str.ofString "hp") bg).cps.toList) : x.cps.all (· < 128) = true := by
  rw [← Array.all_toList, hx]
  rcases hb with rfl | rfl <;> decide +kernel
theorem word_size {x : Str} {bg : Int} (hb : bg = 0 ∨ bg = 1) (hx : x.cps.toList = growN 3 (Txt.item (Str.ofString "hp") bg).cps.toList) : x.cps.size = 8 := by
  rw [← Array.length_toList, hx]
  rcases hb with rfl | rfl <;> decide +kernel
def wordL (bg : Int) : List Nat := growN 3 (Txt.item (Str.ofString "hp") bg).cps.toList
/-- law's state behind its loop -/
inductive StC (w : World) (s₁ s' : Shared) : Prop where
  | mk (mg mb : Str → Option Value) (p : Program) (loose : List Str) (mean : ExcName → Option Value) (u : Str → Option Value) (bg st sp t0 t1 : Int) (lH l1 l0 lT : Addr) (o6 oh ot os ob o1 : Obj) (c6 : Option Value) (tm tst te tf tsp : Tok) (v0 v1 : List Value) (c0 c1 : Nat)
    (f0 : (K w.params).In s₁.heap)
    (f1 : Top p loose mean mg mb s₁.heap)
    (f2 : Below callerA s₁.heap [] s₁.heap)
    (f3 : s'.os = s₁.os)
    (f4 : AllBare s'.gens)
    (f5 : IntsAre v0 (handAt 104 st sp (wordL bg) 8))
    (f6 : IntsAre v1 (handAt 112 st sp (wordL bg) 8))
    (f7 : Fr s₁.heap s₁.heap.objs.size s'.heap (fun y => if y = Str.ofString "mark" then some (.int (markAt st sp 8) tm) else if y = Str.ofString "start" then some (.int st tst) else u y))
    (f8 : News s₁.heap s₁.heap.objs.size s'.heap [(lH, listOf #[.ref l0, .ref l1] 0), (l1, listOf v1.toArray c1), (l0, listOf v0.toArray c0), (lT, listOf #[.int t0 te, .int t1 tf] 0),
    (s₁.heap.objs.size + 1 + 1 + 1 + 1 + 1 + 1, o6), (s₁.heap.objs.size + 1 + 1 + 1 + 1 + 1, oh), (s₁.heap.objs.size + 1 + 1 + 1 + 1, ot), (s₁.heap.objs.size + 1 + 1 + 1, os), (s₁.heap.objs.size + 1 + 1, ob), (s₁.heap.objs.size + 1, o1)])
    (f9 : o6.data = .cell c6)
    (f10 : oh.data = .cell (some (.ref lH)))
    (f11 : ot.data = .cell (some (.ref lT)))
    (f12 : os.data = .cell (some (.int sp tsp)))
    (f13 : (@LT.lt Nat _ (s₁.heap.objs.size + 1 + 1 + 1 + 1 + 1 + 1) lT ∧ @LT.lt Nat _ lT l0 ∧ @LT.lt Nat _ l0 l1 ∧ @LT.lt Nat _ l1 lH))
    (f14 : (1 ≤ st ∧ st ≤ 6))
    (f15 : (1 ≤ sp ∧ sp ≤ 3))
    (f16 : (0 ≤ t0 ∧ t0 ≤ 2))
    (f17 : (0 ≤ t1 ∧ t1 ≤ 2))
    (f18 : (bg = 0 ∨ bg = 1)) : StC w s₁ s'
local macro_rules | `(tactic| k_all) => `(tactic| (with_reducible assumption))
local macro_rules | `(tactic| k_ne) => `(tactic| (refine neN ?_; (try dsimp only); omega))
local macro_rules | `(tactic| size_fits) => `(tactic| (simp only [List.size_toArray, PySem.sizeLine_eq]; omega))
theorem handAt_len (c : Nat) (st sp : Int) (l : List Nat) : ∀ j, (handAt c st sp l j).length ≤ j + 2
  | 0 => Nat.le_refl _
  | j + 1 => by
    have := handAt_len c st sp l j
    rw [handAt]
    split
    · simp only [List.length_append, List.length_singleton]; omega
    · omega
theorem ints_snoc {n : Int} {t : Tok} : ∀ {vs : List Value} {ns : List Int}, IntsAre vs ns → IntsAre (vs ++ [.int n t]) (ns ++ [n])
  | _, _, .nil => .cons n t .nil
  | _, _, .cons m u r => .cons m u (ints_snoc r)
def NextI (I : Around → Nat → Shared → Prop) (A : Around) (n : Nat) (s : Shared) : Prop := ∃ m, m < n ∧ I A m s
theorem forLoopA {prog : Program} {w : World} {A : Around} {s : Shared} {R : Result → Shared → Prop} {target : PySem.Expr} {it : Value} {body orelse : List Stmt} {env : Env} (I : Around → Nat → Shared → Prop)
    (turn : ∀ n s, I A n s → wpAny (model prog w) A (pyNext it) (fun r s₁ => match r with
      | none => wpAny (model prog w) A (execs orelse env) (fun f s₃ => R (.ok f) s₃) (notedBy (model prog w) A env fun e s' => R (.error e) s') s₁
      | some v => wpAny (model prog w) A (letOwnedTupleGo target it v) (fun _ s₁' =>
          wpAny (model prog w) A (assign target env v) (fun _ s₂ => wpAny (model prog w) A (execs body env) (fun f s₃ => match f with
            | .next | .cont => NextI I A n s₃
            | .brk => R (.ok .next) s₃
            | .ret v => R (.ok (.ret v)) s₃) (notedBy (model prog w) A env fun e s' => R (.error e) s') s₂) (notedBy (model prog w) A env fun e s' => R (.error e) s') s₁') (notedBy (model prog w) A env fun e s' => R (.error e) s') s₁) (notedBy (model prog w) A env fun e s' => R (.error e) s') s)
    (n : Nat) (h : I A n s) : codeAny (model prog w) A (.forLoop target it body orelse env) R s := codeAny_forLoop_any (I A) turn n h
theorem fr_two {g h : Heap} {L : Addr} {M : Str → Option Value} {a b : Str} {va vb : Value} (F : Fr g L h M) (e1 : M a = some va) (e2 : M b = some vb) : Fr g L h (fun y => if y = a then some va else if y = b then some vb else M y) := by
  have e : (fun y => if y = a then some va else if y = b then some vb else M y) = M := by
    funext y
    by_cases ha : y = a
    · rw [if_pos ha, ha, e1]
    · rw [if_neg ha]
      by_cases hb : y = b
      · rw [if_pos hb, hb, e2]
      · rw [if_neg hb]
  rw [e]
  exact F
set_option maxRecDepth 100000 in
set_option maxHeartbeats 8000000 in
noncomputable def RC : { G : World → Shared → Addr → Addr → Shared → Prop // (∀ w s₁ fa a13 s', StC w s₁ s' → G w s₁ fa a13 s') → ∀ w s₁ fa a13 h tk, StB w s₁ h → RB.1 w s₁ fa a13 h tk } := by
  refine ⟨?G, ?h⟩
  case h =>
    intro r w s₁ fa a13 h tk hB
    dsimp only [RB]
    obtain ⟨mg, mb, p, loose, mean, u, x, bg, st, sp, t0, t1, lH, l1, l0, lT, o6, oh, ot, os, ob, o1, c6, tm, ts, tw, ta, tb, tc, td, te, tf, tsp, hg, X, T, B, F, N, d6, dh, dt, dsp, ⟨n1, n2, n3, n4⟩, bst, bsp, bt0, bt1, hbg, hx⟩ := hB
    revert X
    k_fill
    intro X
    refine wpAny_For ?_
    k_steps
    unfold Halt
    rename News _ _ _ ((_, listOf _ 0) :: (lH, _) :: _) => NG
    rename Fr _ _ _ _ => FG
    rename Heap => hq
    refine head_name NG fun lG elG => ?_
    subst elG
    have hlG := NG _ List.mem_cons_self
    have hltG : @LT.lt Nat _ lG hq.objs.size := Heap.lt_size hlG.1
    have hHG : @LT.lt Nat _ lH lG := by omega
    k_dflt (refine' c_group _ _ _ _ _ _ _ st sp _ _ _ _ _ _ FG X NG T bst bsp ?room ?_)
    case room => exact Nat.le_of_ble_eq_true rfl
    intro h' tk' gs hk hgen hsz hbare hoL hgo
    k_steps
    unfold Halt
    k_dflt (refine' call_zipT (ascii_word hbg hx) hgen ?_)
    intro h2 hz hTI hTO hit hsz2 hk2
    k_steps
    unfold Halt
    refine wpAny_pyIter_zip hz ?_
    have hsz' : h'.objs.size = hq.objs.size + 2 := hsz
    obtain ⟨A, eA⟩ : ∃ A : ZA, A = ⟨s₁.heap, s₁.heap.objs.size, lH, l1, l0, lT, lG, hq.objs.size, h'.objs.size, st, sp, x, tw⟩ := ⟨_, rfl⟩
    have ok : A.Ok := by subst eA; exact ⟨by dsimp only; omega, n2, n3, n4, hHG, hltG, by dsimp only; omega⟩
    have hkk : ∀ b o, hq.get? b = some o → h2.get? b = some o := fun b o e => hk2 b o (hk b o e)
    have hbase2 : ∀ b o, s₁.heap.get? b = some o → h2.get? b = some o := fun b o e => hkk b o (FG.keep b o e)
    have ez : h'.objs.size + 3 = A.z := by subst eA; rfl
    (try dsimp only)
    rw [ez]
    refine forLoopA (fun A0 n s => ∃ j, n = 9 - j ∧ j ≤ 8 ∧ LawSt A (listOf #[.int t0 te, .int t1 tf] 0) o6 oh ot os ob o1 (wordL bg) j s.heap ∧ ZipSt A w (Around.in1 (Around.in1 A0)) s₁.os .none j s) ?turn 9 ⟨0, rfl, Nat.zero_le _, ?init1, ?init2⟩
    case init1 =>
      subst eA
      refine ⟨_, tm, ts, [.int st tc, .int st td], [.int st ta, .int st tb], 0, 0, .cons _ _ (.cons _ _ .nil), .cons _ _ (.cons _ _ .nil), FG.keeps hkk, fun p hp => ?_⟩
      have h9 := NG p (List.mem_cons_of_mem _ hp)
      exact ⟨hkk _ _ h9.1, h9.2⟩
    case init2 =>
      subst eA
      obtain ⟨oL, eL⟩ := hoL
      obtain ⟨og, nm, qn, eg, rg⟩ := hgen
      rw [show Shared.gens { heap := hq, gens := s₁.gens, drawn := s₁.drawn, toks := tk + 1 + 1, os := s₁.os } = #[] from hg] at rg
      refine ⟨hz, hTI, ⟨_, _, hTO⟩, hit, ⟨og, nm, qn, hk2 _ _ eg, rg⟩, ⟨gs, ?_, hbare, .inl ⟨rfl, ⟨oL, hk2 _ _ eL, fun s' q1 q2 => hgo _ s' (fun b hb o e => q1 b hb o (hk2 _ _ e)) q2⟩, _, hkk _ _ hlG.1⟩⟩, rfl, hbase2⟩
      show s₁.gens.push gs = #[gs]
      rw [hg]
      rfl
    rintro n s2 ⟨j, rfl, hj, hL, hZ⟩
    by_cases h8 : j = 8
    · subst h8
      have hx8 : A.x.cps[8]? = none := by
        subst eA
        exact Array.getElem?_eq_none (by show x.cps.size ≤ 8; rw [word_size hbg hx]; exact Nat.le_refl _)
      refine wpAny_mono (zip_fin ok hZ hx8 ?hh8) (fun r3 s3 h3 => ?_) (fun _ _ e => e)
      case hh8 => rfl
      obtain ⟨rfl, ⟨h4, rfl⟩, hk4⟩ := h3
      refine wpAny_execs_nil ?_
      have hL4 := hL.keep ok (by subst eA; exact n1) hk4
      obtain ⟨gs4, eg4, bg4, _⟩ := hZ.gens
      have hC : StC w s₁ { s2 with heap := h4 } := by
        subst eA
        obtain ⟨u4, tm4, tst4, v0, v1, c0, c1, i0, i1, F4, N4⟩ := hL4
        exact ⟨mg, mb, p, loose, mean, u4, bg, st, sp, t0, t1, lH, l1, l0, lT, o6, oh, ot, os, ob, o1, c6, tm4, tst4, te, tf, tsp, v0, v1, c0, c1, X, T, B, hZ.os, by rw [show Shared.gens { s2 with heap := h4 } = #[gs4] from eg4]; exact AllBare.push (gens := #[]) .empty bg4, i0, i1, F4, N4, d6, dh, dt, dsp, ⟨n1, n2, n3, n4⟩, bst, bsp, bt0, bt1, hbg⟩
      (try dsimp only)
      generalize ({ s2 with heap := h4 } : Shared) = s4 at hC ⊢
      exact r w s₁ fa a13 s4 hC
    · have hj' : j < 8 := by omega
      obtain ⟨c, hc⟩ : ∃ c, A.x.cps[j]? = some c := ⟨_, Array.getElem?_eq_getElem (by subst eA; show j < x.cps.size; rw [word_size hbg hx]; exact hj')⟩
      have hc' : x.cps[j]? = some c := by subst eA; exact hc
      have hcc := word_char hbg hx hc'
      have hwl : (wordL bg)[j]? = some c := by rw [wordL, ← hx]; simpa using hc'
      have hA0 : @LT.lt Nat _ (A.L + 1 + 1 + 1 + 1 + 1 + 1) A.lT := by subst eA; exact n1
      have hmk := markAt_bd bst bsp j
      obtain ⟨_, _, _, _, _, _, _, _, _, F2, _⟩ := id hL
      refine wpAny_mono (zip_turn ok hZ hj' hc F2 (by subst eA; exact T) ?room) (fun r3 s3 h3 => ?_) (fun _ _ e => e)
      case room => exact Nat.le_of_ble_eq_true rfl
      obtain ⟨Tt, ty1, ty2, rfl, hTz, hTp, hZ1, hkp⟩ := h3
      dsimp only
      refine wpAny_letOwnedTupleGo_zip hZ1.zip fun h4 z4 s4 => ?_
      have hlow : ∀ b o, A.g.get? b = some o → @LT.lt Nat _ b A.L := fun b o e => Nat.lt_of_lt_of_le (Heap.lt_size e) F2.above
      have hZ2 := hZ1.letGo ok hlow z4 s4
      have hTz' : @LT.lt Nat _ (A.i1 + 3) Tt := hTz
      have hL4 := (hL.keep ok hA0 hkp).keep ok hA0 (fun b o hb e => s4.extBut _ _ (Nat.ne_of_lt (by have := ok.o6; have := ok.o7; show @LT.lt Nat _ b (A.i1 + 3); omega)) e)
      have hT4 : IsPair h4 Tt (.str ⟨#[c]⟩ ty1) (.int (if j = 0 then A.st else A.sp) ty2) := s4.extBut _ _ (Nat.ne_of_gt hTz) hTp
      have hT0 : A.g.get? Tt = none := by
        cases e : A.g.get? Tt with
        | none => rfl
        | some o => exact absurd (hlow _ _ e) (by have := ok.o1; have := ok.o2; have := ok.o3; have := ok.o4; have := ok.o5; have := ok.o6; have := ok.o7; omega)
      have hTL : Tt ≠ A.L := Nat.ne_of_gt (by have := ok.o1; have := ok.o2; have := ok.o3; have := ok.o4; have := ok.o5; have := ok.o6; have := ok.o7; omega)
      have hTn : @LT.lt Nat _ A.lH Tt := by have := ok.o5; have := ok.o6; have := ok.o7; omega
      clear hL hZ1 hkp hTp hTz' hTz
      obtain ⟨u4, tm4, tst4, v0, v1, c0, c1, i0, i1, F4, N4⟩ := hL4
      obtain ⟨rs, NR, hex, hrs⟩ := snapX F4 [A.l0, A.l1]
      have hr0 : ∀ p ∈ rs, p.1 ≠ A.l0 := fun p hp e => hex p hp (by rw [e]; exact List.mem_cons_self)
      have hr1 : ∀ p ∈ rs, p.1 ≠ A.l1 := fun p hp e => hex p hp (by rw [e]; exact List.mem_cons_of_mem _ List.mem_cons_self)
      have N5 : News A.g A.L h4 ((Tt, tupO [.str ⟨#[c]⟩ ty1, .int (if j = 0 then A.st else A.sp) ty2] 0) :: (lawLed A (listOf #[.int t0 te, .int t1 tf] 0) o6 oh ot os ob o1 v0 v1 c0 c1 ++ rs)) := by
        intro p hp
        rcases List.mem_cons.mp hp with rfl | hp
        · exact ⟨hT4, hTL, hT0⟩
        · rcases List.mem_append.mp hp with hp | hp
          · exact N4 p hp
          · exact NR p hp
      have hv0 := i0.length
      have hv1 := i1.length
      have hq0 := handAt_len 104 A.st A.sp (wordL bg) j
      have hq1 := handAt_len 112 A.st A.sp (wordL bg) j
      clear NR N4
      subst eA
      dsimp only [lawLed, List.cons_append, List.nil_append] at *
      rcases hcc with rfl | rfl
      case inl =>
        k_steps
        case _ =>
          rename Txt.find _ _ = -1 => hf
          exact absurd hf (by decide +kernel)
        rename News _ _ _ ((Tt, _) :: _) => N6
        rename Fr _ _ _ (fun y => if y = Str.ofString "mark" then _ else if y = Str.ofString "size" then _ else _) => F6
        simp only [List.push_toArray] at N6
        refine ⟨9 - (j + 1), by omega, j + 1, rfl, by omega, ⟨_, _, _, (v0 ++ [_]), v1, (c0 + 1), c1, by rw [handAt, if_pos hwl]; exact ints_snoc i0, by rw [handAt, if_neg (by rw [hwl]; decide)]; exact i1, fr_two (a := Str.ofString "mark") (b := Str.ofString "start") F6 rfl rfl, fun p hp => N6 p (List.mem_cons_of_mem _ (List.mem_append_left rs hp))⟩, ?_⟩
        exact hZ2.keep (fun b o q1 q2 q3 q4 e => (N6 _ (List.mem_cons_of_mem _ (List.mem_append_right (lawLed ⟨s₁.heap, s₁.heap.objs.size, lH, l1, l0, lT, lG, hq.objs.size, h'.objs.size, st, sp, x, tw⟩ (listOf #[.int t0 te, .int t1 tf] 0) o6 oh ot os ob o1 (v0 ++ [_]) v1 (c0 + 1) c1) (hrs b o q1 (by simp only [List.mem_cons, List.not_mem_nil, or_false]; rintro (q | q); exact q2 q; exact q3 q) e q4)))).1) F6.keep ok rfl rfl
      case inr =>
        k_steps
        case _ =>
          rename Txt.find _ _ = -1 => hf
          exact absurd hf (by decide +kernel)
        rename News _ _ _ ((Tt, _) :: _) => N6
        rename Fr _ _ _ (fun y => if y = Str.ofString "mark" then _ else if y = Str.ofString "size" then _ else _) => F6
        simp only [List.push_toArray] at N6
        refine ⟨9 - (j + 1), by omega, j + 1, rfl, by omega, ⟨_, _, _, v0, (v1 ++ [_]), c0, (c1 + 1), by rw [handAt, if_neg (by rw [hwl]; decide)]; exact i0, by rw [handAt, if_pos hwl]; exact ints_snoc i1, fr_two (a := Str.ofString "mark") (b := Str.ofString "start") F6 rfl rfl, fun p hp => N6 p (List.mem_cons_of_mem _ (List.mem_append_left rs hp))⟩, ?_⟩
        exact hZ2.keep (fun b o q1 q2 q3 q4 e => (N6 _ (List.mem_cons_of_mem _ (List.mem_append_right (lawLed ⟨s₁.heap, s₁.heap.objs.size, lH, l1, l0, lT, lG, hq.objs.size, h'.objs.size, st, sp, x, tw⟩ (listOf #[.int t0 te, .int t1 tf] 0) o6 oh ot os ob o1 v0 (v1 ++ [_]) c0 (c1 + 1)) (hrs b o q1 (by simp only [List.mem_cons, List.not_mem_nil, or_false]; rintro (q | q); exact q2 q; exact q3 q) e q4)))).1) F6.keep ok rfl rfl
end Mine
end
section
open PySem PySem.W PyProof.Rows PyProof.V PySem.Spec PySem.Calls
namespace Mine
theorem calmW16 : True := by
  w_top off
  exact trivial
local macro_rules | `(tactic| walk_at "exec Assign cons ListComp") => `(tactic| (refine Halt.out ?_))
local macro_rules | `(tactic| walk_at "eval ListComp") => `(tactic| (refine Halt.out ?_))
local macro_rules | `(tactic| walk_at "pyIter ref") => `(tactic| (refine Halt.out ?_))
local macro_rules | `(tactic| walk_at "CompSrc") => `(tactic| (refine Halt.out ?_))
local macro_rules | `(tactic| walk_at "CompEnd") => `(tactic| (refine Halt.out ?_))
local macro_rules | `(tactic| walk_at "call builtin:sum") => `(tactic| (refine Halt.out ?_))
local macro_rules | `(tactic| walk_at "call builtin:str.join") => `(tactic| (refine Halt.out ?_))
local macro_rules | `(tactic| walk_at "call ref") => `(tactic| (refine Halt.out ?_))
theorem mark8 (st sp : Int) : markAt st sp 8 = st + 7 * sp := by
  simp [markAt]
  omega
theorem mem_handAt {c : Nat} {st sp : Int} (h1 : 1 ≤ st ∧ st ≤ 6) (h2 : 1 ≤ sp ∧ sp ≤ 3) (l : List Nat) : ∀ j : Nat, ∀ m ∈ handAt c st sp l j, 0 ≤ m ∧ m ≤ 6 * ((j : Int) + 1)
  | 0 => by
    intro m hm
    simp [handAt] at hm
    omega
  | j + 1 => by
    intro m hm
    have hb := markAt_bd h1 h2 (j + 1)
    rw [handAt] at hm
    split at hm
    · rcases List.mem_append.mp hm with hm | hm
      · have := mem_handAt h1 h2 l j m hm
        omega
      · rw [List.mem_singleton.mp hm]
        omega
    · have := mem_handAt h1 h2 l j m hm
      omega
/-- a lead -/
def leadL (ns : List Int) (tail : Int) : List Nat := (ns.flatMap fun n => List.replicate n.toNat 32 ++ [9]) ++ List.replicate tail.toNat 32 ++ [120, 9, 32]
def LeadR (n0 n1 : List Int) (t0 t1 : Int) (i : Nat) (y : Value) : Prop := ∃ (z : Str) (t : Tok), y = .str z t ∧ z.cps.toList = if i = 0 then leadL n0 t0 else leadL n1 t1
/-- a run of blanks and a tab -/
def RunR (ns : List Int) (i : Nat) (y : Value) : Prop := ∃ (z : Str) (t : Tok), y = .str z t ∧ ∃ n, ns[i]? = some n ∧ z.cps.toList = List.replicate n.toNat 32 ++ [9]
theorem run_cps (n : Int) : (Txt.mul (Str.ofString " ") n ++ Str.ofString "\t").cps.toList = List.replicate n.toNat 32 ++ [9] := by
  have e : Str.ofString " " = ⟨#[32]⟩ := by rfl
  have e2 : (Str.ofString "\t").cps.toList = [9] := by rfl
  rw [PySem.W.KAf.app_list, e, PyProof.Rows.mul_one_list, e2]
theorem flat_gen {f : Int → List Nat} : ∀ {l : List Int} {zs : List Str}, zs.length = l.length → (∀ (i : Nat) (z : Str), zs[i]? = some z → ∃ n, l[i]? = some n ∧ z.cps.toList = f n) → zs.flatMap (·.cps.toList) = l.flatMap f
  | [], [], _, _ => rfl
  | [], _ :: _, h, _ => by simp at h
  | _ :: _, [], h, _ => by simp at h
  | n :: l, z :: zs, h, hz => by
    obtain ⟨n', h1, h2⟩ := hz 0 z rfl
    cases h1
    rw [List.flatMap_cons, List.flatMap_cons, h2, flat_gen (l := l) (zs := zs) (by simpa using h) fun i y hy => by simpa using hz (i + 1) y (by simpa using hy)]
theorem lead_cps {zs : List Str} {ns : List Int} {t : Int} (h : zs.flatMap (·.cps.toList) = ns.flatMap fun n => List.replicate n.toNat 32 ++ [9]) : (Txt.join (Str.ofString "") zs ++ Txt.mul (Str.ofString " ") t ++ Str.ofString "x\t ").cps.toList = leadL ns t := by
  have e : Str.ofString " " = ⟨#[32]⟩ := by rfl
  have e2 : (Str.ofString "x\t ").cps.toList = [120, 9, 32] := by rfl
  rw [PySem.W.KAf.app_list, PySem.W.KAf.app_list, join_cps, e, PyProof.Rows.mul_one_list, e2, h]
  rfl
theorem fr_three {g h : Heap} {L : Addr} {M : Str → Option Value} {a b c : Str} {va vb vc : Value} (F : Fr g L h M) (e1 : M a = some va) (e2 : M b = some vb) (e3 : M c = some vc) : Fr g L h (fun y => if y = a then some va else if y = b then some vb else if y = c then some vc else M y) := by
  have e : (fun y => if y = a then some va else if y = b then some vb else if y = c then some vc else M y) = M := by
    funext y
    by_cases ha : y = a
    · rw [if_pos ha, ha, e1]
    · rw [if_neg ha]
      by_cases hb : y = b
      · rw [if_pos hb, hb, e2]
      · rw [if_neg hb]
        by_cases hc : y = c
        · rw [if_pos hc, hc, e3]
        · rw [if_neg hc]
  rw [e]
  exact F
/-- a lead before its x -/
def leadP (ns : List Int) (tail : Int) : List Nat := (ns.flatMap fun n => List.replicate n.toNat 32 ++ [9]) ++ List.replicate tail.toNat 32
theorem leadL_eq (ns : List Int) (tail : Int) : leadL ns tail = leadP ns tail ++ 120 :: [9, 32] := rfl
theorem leadP_ws (ns : List Int) (tail : Int) : ∀ c ∈ leadP ns tail, c = 32 ∨ c = 9 := by
  intro c hc
  rcases List.mem_append.mp hc with hc | hc
  · obtain ⟨n, _, hc⟩ := List.mem_flatMap.mp hc
    rcases List.mem_append.mp hc with hc | hc
    · exact .inl (List.eq_of_mem_replicate hc)
    · exact .inr (List.mem_singleton.mp hc)
  · exact .inl (List.eq_of_mem_replicate hc)
theorem leadL_len {ns : List Int} {tail : Int} (h1 : ns.length ≤ 10) (h2 : ∀ m ∈ ns, 0 ≤ m ∧ m ≤ 54) (h3 : tail ≤ 2) : (leadL ns tail).length < 2 ^ 20 := by
  have key : ∀ ns : List Int, (∀ m ∈ ns, 0 ≤ m ∧ m ≤ 54) → (ns.flatMap fun n => List.replicate n.toNat 32 ++ [9]).length ≤ 55 * ns.length := by
    intro ns
    induction ns with
    | nil => intro _; simp
    | cons n ns ih =>
      intro h
      have := ih (fun m hm => h m (List.mem_cons_of_mem _ hm))
      have hn := h n List.mem_cons_self
      rw [List.flatMap_cons, List.length_append, List.length_append, List.length_replicate, List.length_singleton, List.length_cons, Nat.mul_succ]
      omega
  have := key ns h2
  simp only [leadL, List.length_append, List.length_replicate, List.length_cons, List.length_nil]
  omega
theorem str_len {z : Str} {l : List Nat} (h : z.cps.toList = l) : z.length = l.length := by
  rw [← h]; simp [Str.length]
theorem news_sub {g h : Heap} {L : Addr} {a b : List (Addr × Obj)} (N : News g L h a) (hs : ∀ p ∈ b, p ∈ a) : News g L h b := fun p hp => N p (hs p hp)
theorem news_swap {g h : Heap} {L : Addr} {a b : List (Addr × Obj)} (N : News g L h (a ++ b)) : News g L h (b ++ a) := fun p hp => N p (List.mem_append.mpr (List.mem_append.mp hp).symm)
/-- law's state behind its two objects -/
inductive StD (w : World) (s₁ s' : Shared) : Prop where
  | mk (mg mb : Str → Option Value) (p : Program) (loose : List Str) (mean : ExcName → Option Value) (u : Str → Option Value) (bg st sp t0 t1 : Int) (x0 x1 lH l1 l0 lT : Addr) (o6 oh ot os ob o1 : Obj) (c6 : Option Value) (tm te tf tsp : Tok) (v0 v1 : List Value) (c0 c1 : Nat) (W : List (Addr × Obj))
    (f0 : (K w.params).In s₁.heap)
    (f1 : Top p loose mean mg mb s₁.heap)
    (f2 : Below callerA s₁.heap [] s₁.heap)
    (f3 : s'.os = s₁.os)
    (f4 : AllBare s'.gens)
    (f5 : IntsAre v0 (handAt 104 st sp (wordL bg) 8))
    (f6 : IntsAre v1 (handAt 112 st sp (wordL bg) 8))
    (f7 : Ws W x0 (psOf (leadP (handAt 104 st sp (wordL bg) 8) t0)))
    (f8 : Ws W x1 (psOf (leadP (handAt 112 st sp (wordL bg) 8) t1)))
    (f9 : Fr s₁.heap s₁.heap.objs.size s'.heap (fun y => if y = Str.ofString "two" then some (.ref x1) else if y = Str.ofString "one" then some (.ref x0) else if y = Str.ofString "mark" then some (.int (st + 7 * sp) tm) else u y))
    (f10 : News s₁.heap s₁.heap.objs.size s'.heap ((lH, listOf #[.ref l0, .ref l1] 0) :: (l1, listOf v1.toArray c1) :: (l0, listOf v0.toArray c0) :: (lT, listOf #[.int t0 te, .int t1 tf] 0) ::
    (s₁.heap.objs.size + 1 + 1 + 1 + 1 + 1 + 1, o6) :: (s₁.heap.objs.size + 1 + 1 + 1 + 1 + 1, oh) :: (s₁.heap.objs.size + 1 + 1 + 1 + 1, ot) :: (s₁.heap.objs.size + 1 + 1 + 1, os) :: (s₁.heap.objs.size + 1 + 1, ob) :: (s₁.heap.objs.size + 1, o1) :: W))
    (f11 : o6.data = .cell c6)
    (f12 : oh.data = .cell (some (.ref lH)))
    (f13 : ot.data = .cell (some (.ref lT)))
    (f14 : os.data = .cell (some (.int sp tsp)))
    (f15 : (@LT.lt Nat _ (s₁.heap.objs.size + 1 + 1 + 1 + 1 + 1 + 1) lT ∧ @LT.lt Nat _ lT l0 ∧ @LT.lt Nat _ l0 l1 ∧ @LT.lt Nat _ l1 lH))
    (f16 : (1 ≤ st ∧ st ≤ 6))
    (f17 : (1 ≤ sp ∧ sp ≤ 3))
    (f18 : (0 ≤ t0 ∧ t0 ≤ 2))
    (f19 : (0 ≤ t1 ∧ t1 ≤ 2))
    (f20 : (bg = 0 ∨ bg = 1)) : StD w s₁ s'
set_option maxRecDepth 100000 in
set_option maxHeartbeats 8000000 in
noncomputable def RD : { G : World → Shared → Addr → Addr → Shared → Prop // (∀ w s₁ fa a13 s', StD w s₁ s' → G w s₁ fa a13 s') → ∀ w s₁ fa a13 s', StC w s₁ s' → RC.1 w s₁ fa a13 s' } := by
  refine ⟨?G, ?h⟩
  case h =>
  intro r w s₁ fa a13 s' hC
  dsimp only [RC]
  obtain ⟨mg, mb, p, loose, mean, u, bg, st, sp, t0, t1, lH, l1, l0, lT, o6, oh, ot, os, ob, o1, c6, tm, tst, te, tf, tsp, v0, v1, c0, c1, X, T, B, hos, hbare, i0, i1, F, N, d6, dh, dt, dsp, ⟨n1, n2, n3, n4⟩, bst, bsp, bt0, bt1, hbg⟩ := hC
  revert X
  k_fill
  intro X
  rw [mark8] at F
  have hm0 := mem_handAt (c := 104) bst bsp (wordL bg) 8
  have hm1 := mem_handAt (c := 112) bst bsp (wordL bg) 8
  have hq0 := handAt_len 104 st sp (wordL bg) 8
  have hq1 := handAt_len 112 st sp (wordL bg) 8
  have hv0 := i0.length
  have hv1 := i1.length
  obtain ⟨n0, en0⟩ : ∃ n0, n0 = handAt 104 st sp (wordL bg) 8 := ⟨_, rfl⟩
  obtain ⟨n1', en1⟩ : ∃ n1', n1' = handAt 112 st sp (wordL bg) 8 := ⟨_, rfl⟩
  rw [← en0] at hm0 hq0 hv0 i0
  rw [← en1] at hm1 hq1 hv1 i1
  k_steps
  case _ => exfalso; omega
  unfold Halt
  k_dflt (refine LCg.Assign_ListComp_U (F₀ := by k_asm) (by rfl) (by with_unfolding_all rfl) (by with_unfolding_all rfl) (by decide) (by rfl) (by decide) (by rfl) (by rfl) (by rfl) ?_)
  k_steps
  unfold Halt
  refine LCg.CompSrc.range (n := 2) (by rfl) (by k_asm) (by k_asm) (by assumption) (by decide) (by first | rfl | decide) (by rw [PySem.sizeLine_eq]; omega) ?_
  intro g9
  refine ctr_rest (LeadR n0 n1' t0 t1) ?_ ?_
  · rintro k v I oI C oC D m₂ ys h3 tk3 E3 hkn ⟨t3, rfl⟩ hC hx3 F3 N3 off3 ne3
    have hk3 : k = 0 ∨ k = 1 := by omega
    rcases hk3 with rfl | rfl
    case inl =>
      k_steps
      unfold Halt
      k_dflt (refine LCg.ListComp_U (F₀ := by k_asm) (by with_unfolding_all rfl) (by decide) (by rfl) (by decide) (by rfl) ?_)
      k_steps
      unfold Halt
      rename News _ _ _ ((I, oI) :: _) => Nq
      have hmq : (l0, listOf v0.toArray c0) ∈ ((I, oI) :: (C, oC) :: (D, LCg.lst ys) :: (lH, listOf #[Value.ref l0, Value.ref l1] 0) :: (l1, listOf v1.toArray c1) :: (l0, listOf v0.toArray c0) :: (lT, listOf #[Value.int t0 te, Value.int t1 tf] 0) :: (s₁.heap.objs.size + 1 + 1 + 1 + 1 + 1 + 1, o6) :: (s₁.heap.objs.size + 1 + 1 + 1 + 1 + 1, oh) :: (s₁.heap.objs.size + 1 + 1 + 1 + 1, ot) :: (s₁.heap.objs.size + 1 + 1 + 1, os) :: (s₁.heap.objs.size + 1 + 1, ob) :: (s₁.heap.objs.size + 1, o1) :: []) := by
        first | exact .tail _ (.tail _ (.tail _ (.tail _ (.tail _ (.head _))))) | exact .tail _ (.tail _ (.tail _ (.tail _ (.head _))))
      refine LCg.CompSrc.ledger (k := c0) (its := v0.toArray) (by rfl) (by k_asm) Nq hmq ?hsz ?_
      case hsz => rw [PySem.sizeLine_eq, List.size_toArray]; omega
      intro g4
      refine ctr_rest (RunR n0) ?_ ?_
      · rintro k v I2 oI2 C2 oC2 D2 m3 ys4 h4 tk4 E4 hkn4 hv4 hC4 hx4 F4 N4 off4 ne4
        obtain ⟨n, t4, rfl, hn⟩ := IntsAre.at i0 k v (by simpa using hv4)
        have hnb := hm0 n (List.mem_of_getElem? hn)
        k_steps
        unfold Halt
        rename News _ _ _ ((I2, _) :: _) => N5
        exact LCg.CompEnd.intro (by assumption) N5 _ (fun p hp => hp) off4 (.inr ⟨_, hmq, rfl, _, rfl⟩) ⟨rfl, _, _, rfl, _, hn, run_cps _⟩
      · intro ys4 hys4 hyR4
        obtain ⟨zs, hS, hzl, hzR⟩ := strs_of (R := fun i z => ∃ n, n0[i]? = some n ∧ z.cps.toList = List.replicate n.toNat 32 ++ [9]) (k := 0) (fun i y hy => by rw [Nat.zero_add]; exact hyR4 i y hy)
        simp only [Nat.zero_add] at hzR
        have hff := flat_gen (l := n0) (zs := zs) (by rw [hzl, hys4, List.size_toArray]; omega) hzR
        have hjn : (zs.map (·.length)).sum ≤ 600 := by
          have := len_sum (k := 55) (zs := zs) (fun i z hz => by
            obtain ⟨n, hn, e⟩ := hzR i z hz
            have hnb := hm0 n (List.mem_of_getElem? hn)
            have h1 : z.length = n.toNat + 1 := by
              rw [show z.length = z.cps.toList.length by simp [Str.length], e]
              simp
            omega)
          rw [hzl, hys4, List.size_toArray] at this
          omega
        have hjl : (Txt.join (Str.ofString "") zs).length ≤ 600 := by
          have h2 := congrArg List.length (join_cps zs)
          rw [flat_len] at h2
          rw [show (Txt.join (Str.ofString "") zs).length = (Txt.join (Str.ofString "") zs).cps.toList.length by simp [Str.length]]
          omega
        unfold LCg.FinE
        intro D9 h9 tk9 F9 N9 o9
        k_steps
        unfold Halt
        refine join_N N9 List.mem_cons_self hS (by omega) ?_
        intro t9 k9
        have N7 := news_tl N9
        clear N9
        k_steps
        rw [show ([t0, t1].getD (0 + ((0 : Nat) : Int)).toNat 0) = t0 from rfl]
        k_steps
        unfold Halt
        rename News _ _ _ ((I, _) :: _) => N8
        exact LCg.CompEnd.intro (by assumption) N8 _ (fun p hp => hp) off3 trivial ⟨rfl, _, _, rfl, lead_cps hff⟩
    case inr =>
      k_steps
      unfold Halt
      k_dflt (refine LCg.ListComp_U (F₀ := by k_asm) (by with_unfolding_all rfl) (by decide) (by rfl) (by decide) (by rfl) ?_)
      k_steps
      unfold Halt
      rename News _ _ _ ((I, oI) :: _) => Nq
      have hmq : (l1, listOf v1.toArray c1) ∈ ((I, oI) :: (C, oC) :: (D, LCg.lst ys) :: (lH, listOf #[Value.ref l0, Value.ref l1] 0) :: (l1, listOf v1.toArray c1) :: (l0, listOf v0.toArray c0) :: (lT, listOf #[Value.int t0 te, Value.int t1 tf] 0) :: (s₁.heap.objs.size + 1 + 1 + 1 + 1 + 1 + 1, o6) :: (s₁.heap.objs.size + 1 + 1 + 1 + 1 + 1, oh) :: (s₁.heap.objs.size + 1 + 1 + 1 + 1, ot) :: (s₁.heap.objs.size + 1 + 1 + 1, os) :: (s₁.heap.objs.size + 1 + 1, ob) :: (s₁.heap.objs.size + 1, o1) :: []) := by
        first | exact .tail _ (.tail _ (.tail _ (.tail _ (.tail _ (.head _))))) | exact .tail _ (.tail _ (.tail _ (.tail _ (.head _))))
      refine LCg.CompSrc.ledger (k := c1) (its := v1.toArray) (by rfl) (by k_asm) Nq hmq ?hsz ?_
      case hsz => rw [PySem.sizeLine_eq, List.size_toArray]; omega
      intro g4
      refine ctr_rest (RunR n1') ?_ ?_
      · rintro k v I2 oI2 C2 oC2 D2 m3 ys4 h4 tk4 E4 hkn4 hv4 hC4 hx4 F4 N4 off4 ne4
        obtain ⟨n, t4, rfl, hn⟩ := IntsAre.at i1 k v (by simpa using hv4)
        have hnb := hm1 n (List.mem_of_getElem? hn)
        k_steps
        unfold Halt
        rename News _ _ _ ((I2, _) :: _) => N5
        exact LCg.CompEnd.intro (by assumption) N5 _ (fun p hp => hp) off4 (.inr ⟨_, hmq, rfl, _, rfl⟩) ⟨rfl, _, _, rfl, _, hn, run_cps _⟩
      · intro ys4 hys4 hyR4
        obtain ⟨zs, hS, hzl, hzR⟩ := strs_of (R := fun i z => ∃ n, n1'[i]? = some n ∧ z.cps.toList = List.replicate n.toNat 32 ++ [9]) (k := 0) (fun i y hy => by rw [Nat.zero_add]; exact hyR4 i y hy)
        simp only [Nat.zero_add] at hzR
        have hff := flat_gen (l := n1') (zs := zs) (by rw [hzl, hys4, List.size_toArray]; omega) hzR
        have hjn : (zs.map (·.length)).sum ≤ 600 := by
          have := len_sum (k := 55) (zs := zs) (fun i z hz => by
            obtain ⟨n, hn, e⟩ := hzR i z hz
            have hnb := hm1 n (List.mem_of_getElem? hn)
            have h1 : z.length = n.toNat + 1 := by
              rw [show z.length = z.cps.toList.length by simp [Str.length], e]
              simp
            omega)
          rw [hzl, hys4, List.size_toArray] at this
          omega
        have hjl : (Txt.join (Str.ofString "") zs).length ≤ 600 := by
          have h2 := congrArg List.length (join_cps zs)
          rw [flat_len] at h2
          rw [show (Txt.join (Str.ofString "") zs).length = (Txt.join (Str.ofString "") zs).cps.toList.length by simp [Str.length]]
          omega
        unfold LCg.FinE
        intro D9 h9 tk9 F9 N9 o9
        k_steps
        unfold Halt
        refine join_N N9 List.mem_cons_self hS (by omega) ?_
        intro t9 k9
        have N7 := news_tl N9
        clear N9
        k_steps
        rw [show ([t0, t1].getD (0 + ((1 : Nat) : Int)).toNat 0) = t1 from rfl]
        k_steps
        unfold Halt
        rename News _ _ _ ((I, _) :: _) => N8
        exact LCg.CompEnd.intro (by assumption) N8 _ (fun p hp => hp) off3 trivial ⟨rfl, _, _, rfl, lead_cps hff⟩
  · intro ys hys hyR
    obtain ⟨y0, y1, rfl⟩ : ∃ y0 y1, ys = [y0, y1] := by
      match ys, hys with
      | [y0, y1], _ => exact ⟨y0, y1, rfl⟩
    obtain ⟨z0, tz0, rfl, e0⟩ := hyR 0 y0 rfl
    obtain ⟨z1, tz1, rfl, e1⟩ := hyR 1 y1 rfl
    rw [if_pos rfl] at e0
    rw [if_neg (by decide)] at e1
    unfold LCg.FinA
    intro D9 h9 tk9 F9 N9 o9
    k_steps
    unfold Halt
    k_dflt (refine' c_init _ _ _ _ _ _ _ _ _ _ _ _ _ _ _ _ _ _ _ _ ?gB ?gF ?gX ?gN ?gT rfl (leadP n0 t0) [9, 32] (e0.trans (leadL_eq _ _)) (leadP_ws _ _) ?hfit ?g1 ?g2 ?_; (case gB => k_asm); (case gF => k_asm); (case gX => assumption); (case gN => k_asm); (case gT => assumption); (case g1 => exact Nat.le_of_ble_eq_true rfl); (case g2 => exact Nat.le_of_ble_eq_true rfl))
    case hfit =>
      rw [str_len e0]
      exact leadL_len (by omega) (fun m hm => by have := hm0 m hm; omega) (by omega)
    intro x0 h0 tk0 W0 F0 N0 w0
    clear N9
    replace N0 := news_swap N0
    simp only [List.cons_append, List.nil_append] at N0
    k_steps
    unfold Halt
    k_dflt (refine' c_init _ _ _ _ _ _ _ _ _ _ _ _ _ _ _ _ _ _ _ _ ?gB ?gF ?gX ?gN ?gT rfl (leadP n1' t1) [9, 32] (e1.trans (leadL_eq _ _)) (leadP_ws _ _) ?hfit ?g1 ?g2 ?_; (case gB => k_asm); (case gF => k_asm); (case gX => assumption); (case gN => k_asm); (case gT => assumption); (case g1 => exact Nat.le_of_ble_eq_true rfl); (case g2 => exact Nat.le_of_ble_eq_true rfl))
    case hfit =>
      rw [str_len e1]
      exact leadL_len (by omega) (fun m hm => by have := hm1 m hm; omega) (by omega)
    intro x1 h1 tk1 W1 F1 N1 w1

    replace N1 := news_swap N1
    simp only [List.cons_append, List.nil_append] at N1
    k_steps
    unfold Halt
    rename News _ _ _ ((D9, _) :: _) => N2
    rename Fr _ _ _ (fun y => if y = Str.ofString "two" then _ else _) => F2
    have F3 := fr_three (a := Str.ofString "two") (b := Str.ofString "one") (c := Str.ofString "mark") F2 rfl rfl rfl
    replace N2 := news_tl N2
    rw [en0] at i0 w0
    rw [en1] at i1 w1
    generalize eS : Shared.mk _ _ _ _ _ = s4
    have hD : StD w s₁ s4 := by
      subst eS
      exact ⟨mg, mb, p, loose, mean, _, bg, st, sp, t0, t1, x0, x1, lH, l1, l0, lT, o6, oh, ot, os, ob, o1, c6, tm, te, tf, tsp, v0, v1, c0, c1, W0 ++ W1, X, T, B, hos, hbare, i0, i1, w0.mono (fun q hq => List.mem_append_left _ hq), w1.mono (fun q hq => List.mem_append_right _ hq), F3, fun p hp => N2 p (by simpa using hp), d6, dh, dt, dsp, ⟨n1, n2, n3, n4⟩, bst, bsp, bt0, bt1, hbg⟩
    exact r w s₁ fa a13 s4 hD
end Mine
end
section
open PySem PySem.W PyProof.Rows PyProof.V PySem.Spec PySem.Calls
namespace Mine
theorem calmW17 : True := by
  w_top off
  exact trivial
local macro_rules | `(tactic| walk_at "exec Assign cons ListComp") => `(tactic| (refine Halt.out ?_))
local macro_rules | `(tactic| walk_at "eval ListComp") => `(tactic| (refine Halt.out ?_))
local macro_rules | `(tactic| walk_at "CompSrc") => `(tactic| (refine Halt.out ?_))
local macro_rules | `(tactic| walk_at "CompEnd") => `(tactic| (refine Halt.out ?_))
local macro_rules | `(tactic| walk_at "call ref") => `(tactic| (refine Halt.out ?_))
local macro_rules | `(tactic| k_all) => `(tactic| (with_reducible assumption))
local macro_rules | `(tactic| k_all) => `(tactic| (refine' List.forall_mem_append.mpr ⟨?aa, ?ab⟩; (case aa => with_reducible assumption); (case ab => k_all)))
local macro_rules | `(tactic| k_ne) => `(tactic| (refine neN ?_; (try dsimp only); omega))
local macro_rules | `(tactic| size_fits) => `(tactic| (simp only [List.size_toArray, PySem.sizeLine_eq]; omega))
local macro_rules | `(tactic| walk_at "call ref") => `(tactic| (k_here; k_dflt (refine' c_column _ _ _ _ _ _ _ _ _ _ _ _ _ _ _ _ _ _ _ _ _ _ _ _ _ _ ?gB ?gF ?gX ?gN ?gT rfl ?hm ?hi ?hlen ?hns ?hsz ?htl ?g1 ?g2 ?_; (case gB => k_asm); (case gF => k_asm); (case gX => assumption); (case gN => k_asm); (case gT => assumption); (case hm => k_mem); (case hi => assumption); (case hlen => omega); (case hns => assumption); (case hsz => omega); (case htl => first | omega | assumption); (case g1 => exact Nat.le_of_ble_eq_true rfl); (case g2 => exact Nat.le_of_ble_eq_true rfl)); intro h9 tk9 t9 F9 N9))
section
variable {prog : Program} {w : World} {A : Around} {s : Shared} {h₀ : Heap} {L : Addr} {m : Str → Option Value} {env : Env} {elt : PySem.Expr} {x : Str} {scope : Scope} {cl : List (Str × Addr)}
/-- the turns of a comprehension, told by a relation over a ledger that may grow -/
theorem ctg_rest {S : List (Addr × Obj) → Prop} {P : Nat → Value → Prop} {Fin : List Value → List (Addr × Obj) → Prop} {news : List (Addr × Obj)} {n : Nat} (J : Nat → List Value → List (Addr × Obj) → Prop)
    (turn : ∀ i v I oI C oC D m₂ ys nw h tk (E' : Value → Shared → Prop), i < n → P i v → J i ys nw → LCg.NsObj oC m₂ → m₂ x = some v → Fr h₀ L h m → News h₀ L h ((I, oI) :: (C, oC) :: (D, LCg.lst ys) :: nw) → LCg.Off3 I C D nw → ((@Ne Nat I C) ∧ (@Ne Nat I D) ∧ (@Ne Nat C D)) →
      wpAny (model prog w) A (eval elt (compEnvC scope cl C env)) (LCg.CompEnd h₀ L m { s with heap := h, toks := tk } I oI C oC D (LCg.lst ys) S (fun y news' => J (i + 1) (ys ++ [y]) news')) E' { s with heap := h, toks := tk })
    (h0 : J 0 [] news) (fin : ∀ ys nw, J n ys nw → Fin ys nw) : LCg.CompRest prog w A h₀ L m env elt x scope cl s S P Fin n 0 [] news := by
  have key : ∀ (j i : Nat) (ys : List Value) (nw : List (Addr × Obj)), i + j = n → J i ys nw → LCg.CompRest prog w A h₀ L m env elt x scope cl s S P Fin j i ys nw := by
    intro j
    induction j with
    | zero =>
      intro i ys nw hi hJ
      have : i = n := by omega
      subst this
      exact LCg.CompRest.zero (fin ys nw hJ)
    | succ j ih =>
      intro i ys nw hi hJ
      refine LCg.CompRest.succ ?_
      intro v I oI C oC D m₂ h tk E' hv hC hx F N off ne
      refine wpAny_mono (turn i v I oI C oC D m₂ ys nw h tk E' (by omega) hv hJ hC hx F N off ne) (fun y s₂ hq => ?_) fun _ _ e => e
      obtain ⟨h', tk', nw', e, F', N', off', hS, hn⟩ := hq
      exact ⟨h', tk', nw', e, F', N', off', hS, ih (i + 1) _ _ (by omega) hn⟩
  exact key n 0 [] news (by omega) h0
end
/-- a row of the columns -/
def colR (n0 n1 : List Int) (t0 t1 : Int) (k : Nat) : Int × Int × Int := (1 + (k : Int), colP t0 (1 + (k : Int)) n0, colP t1 (1 + (k : Int)) n1)
def ColJ (n0 n1 : List Int) (t0 t1 : Int) (base : List (Addr × Obj)) (i : Nat) (ys : List Value) (nw : List (Addr × Obj)) : Prop :=
  ∃ tl, nw = base ++ tl ∧ DatAll nw ys (((List.range i).map (colR n0 n1 t0 t1)).map rowD)
theorem col_end {g h' : Heap} {L I C D D' : Addr} {m : Str → Option Value} {s₁ : Shared} {oI oC : Obj} {n0 n1 : List Int} {t0 t1 : Int} {base tl : List (Addr × Obj)} {i tk nn : Nat} {ys : List Value} {ta tb tc : Tok}
    (F : Fr g L h' m) (N : News g L h' ((D', tupO [.int (colR n0 n1 t0 t1 i).1 ta, .int (colR n0 n1 t0 t1 i).2.1 tb, .int (colR n0 n1 t0 t1 i).2.2 tc] nn) :: (I, oI) :: (C, oC) :: (D, LCg.lst ys) :: (base ++ tl)))
    (off : LCg.Off3 I C D (base ++ tl)) (hI : @LT.lt Nat _ I D') (hC : @LT.lt Nat _ C D') (hD : @LT.lt Nat _ D D') (hDat : DatAll (base ++ tl) ys (((List.range i).map (colR n0 n1 t0 t1)).map rowD)) :
    LCg.CompEnd g L m s₁ I oI C oC D (LCg.lst ys) (fun _ => True) (fun y nw => ColJ n0 n1 t0 t1 base (i + 1) (ys ++ [y]) nw) (.ref D') { s₁ with heap := h', toks := tk } := by
  have e : base ++ (tl ++ [(D', tupO [.int (colR n0 n1 t0 t1 i).1 ta, .int (colR n0 n1 t0 t1 i).2.1 tb, .int (colR n0 n1 t0 t1 i).2.2 tc] nn)]) = (base ++ tl) ++ [(D', tupO [.int (colR n0 n1 t0 t1 i).1 ta, .int (colR n0 n1 t0 t1 i).2.1 tb, .int (colR n0 n1 t0 t1 i).2.2 tc] nn)] := (List.append_assoc _ _ _).symm
  refine LCg.CompEnd.intro F N (base ++ (tl ++ [(D', tupO [.int (colR n0 n1 t0 t1 i).1 ta, .int (colR n0 n1 t0 t1 i).2.1 tb, .int (colR n0 n1 t0 t1 i).2.2 tc] nn)])) ?_ ?_ trivial ⟨_, rfl, ?_⟩
  · intro p hp
    rw [e] at hp
    rcases List.mem_cons.mp hp with rfl | hp
    · exact .tail _ (.head _)
    rcases List.mem_cons.mp hp with rfl | hp
    · exact .tail _ (.tail _ (.head _))
    rcases List.mem_cons.mp hp with rfl | hp
    · exact .tail _ (.tail _ (.tail _ (.head _)))
    rcases List.mem_append.mp hp with hp | hp
    · exact .tail _ (.tail _ (.tail _ (.tail _ hp)))
    · rw [List.mem_singleton.mp hp]; exact .head _
  · rw [e]
    refine LCg.Off3.of fun p hp => ?_
    rcases List.mem_append.mp hp with hp | hp
    · exact off.mem p hp
    · rw [List.mem_singleton.mp hp]
      exact ⟨Nat.ne_of_gt hI, Nat.ne_of_gt hC, Nat.ne_of_gt hD⟩
  · rw [e, List.range_succ, List.map_append, List.map_append]
    exact (hDat.mono (fun p hp => List.mem_append_left _ hp)).append (.one (.tuple (List.mem_append_right _ (List.mem_singleton_self _)) (.cons (.int _ _) (.cons (.int _ _) (.cons (.int _ _) .nil)))))
/-- the columns -/
def colsL (bg st sp t0 t1 : Int) : List (Int × Int × Int) := (List.range (st + 7 * sp + 2 - 1).toNat).map (colR (handAt 104 st sp (wordL bg) 8) (handAt 112 st sp (wordL bg) 8) t0 t1)
/-- law's state behind its columns -/
inductive StE (w : World) (s₁ s' : Shared) : Prop where
  | mk (mg mb : Str → Option Value) (p : Program) (loose : List Str) (mean : ExcName → Option Value) (u : Str → Option Value) (bg st sp t0 t1 : Int) (x0 x1 lH l1 l0 lT lC : Addr) (o6 oh ot os ob o1 : Obj) (c6 : Option Value) (te tf tsp : Tok) (v0 v1 vc : List Value) (c0 c1 : Nat) (W : List (Addr × Obj))
    (f0 : (K w.params).In s₁.heap)
    (f1 : Top p loose mean mg mb s₁.heap)
    (f2 : Below callerA s₁.heap [] s₁.heap)
    (f3 : s'.os = s₁.os)
    (f4 : AllBare s'.gens)
    (f5 : Ws W x0 (psOf (leadP (handAt 104 st sp (wordL bg) 8) t0)))
    (f6 : Ws W x1 (psOf (leadP (handAt 112 st sp (wordL bg) 8) t1)))
    (f7 : Fr s₁.heap s₁.heap.objs.size s'.heap (fun y => if y = Str.ofString "columns" then some (.ref lC) else if y = Str.ofString "two" then some (.ref x1) else if y = Str.ofString "one" then some (.ref x0) else u y))
    (f8 : News s₁.heap s₁.heap.objs.size s'.heap ((lC, LCg.lst vc) :: (lH, listOf #[.ref l0, .ref l1] 0) :: (l1, listOf v1.toArray c1) :: (l0, listOf v0.toArray c0) :: (lT, listOf #[.int t0 te, .int t1 tf] 0) ::
    (s₁.heap.objs.size + 1 + 1 + 1 + 1 + 1 + 1, o6) :: (s₁.heap.objs.size + 1 + 1 + 1 + 1 + 1, oh) :: (s₁.heap.objs.size + 1 + 1 + 1 + 1, ot) :: (s₁.heap.objs.size + 1 + 1 + 1, os) :: (s₁.heap.objs.size + 1 + 1, ob) :: (s₁.heap.objs.size + 1, o1) :: W))
    (f9 : DatAll ((lC, LCg.lst vc) :: (lH, listOf #[.ref l0, .ref l1] 0) :: (l1, listOf v1.toArray c1) :: (l0, listOf v0.toArray c0) :: (lT, listOf #[.int t0 te, .int t1 tf] 0) ::
    (s₁.heap.objs.size + 1 + 1 + 1 + 1 + 1 + 1, o6) :: (s₁.heap.objs.size + 1 + 1 + 1 + 1 + 1, oh) :: (s₁.heap.objs.size + 1 + 1 + 1 + 1, ot) :: (s₁.heap.objs.size + 1 + 1 + 1, os) :: (s₁.heap.objs.size + 1 + 1, ob) :: (s₁.heap.objs.size + 1, o1) :: W) vc ((colsL bg st sp t0 t1).map rowD))
    (f10 : o6.data = .cell c6)
    (f11 : oh.data = .cell (some (.ref lH)))
    (f12 : ot.data = .cell (some (.ref lT)))
    (f13 : os.data = .cell (some (.int sp tsp)))
    (f14 : (@LT.lt Nat _ (s₁.heap.objs.size + 1 + 1 + 1 + 1 + 1 + 1) lT ∧ @LT.lt Nat _ lT l0 ∧ @LT.lt Nat _ l0 l1 ∧ @LT.lt Nat _ l1 lH))
    (f15 : (1 ≤ st ∧ st ≤ 6))
    (f16 : (1 ≤ sp ∧ sp ≤ 3))
    (f17 : (0 ≤ t0 ∧ t0 ≤ 2))
    (f18 : (0 ≤ t1 ∧ t1 ≤ 2))
    (f19 : (bg = 0 ∨ bg = 1)) : StE w s₁ s'
set_option maxRecDepth 100000 in
set_option maxHeartbeats 8000000 in
noncomputable def RE : { G : World → Shared → Addr → Addr → Shared → Prop // (∀ w s₁ fa a13 s', StE w s₁ s' → G w s₁ fa a13 s') → ∀ w s₁ fa a13 s', StD w s₁ s' → RD.1 w s₁ fa a13 s' } := by
  refine ⟨?G, ?h⟩
  case h =>
  intro r w s₁ fa a13 s' hD
  dsimp only [RD]
  obtain ⟨mg, mb, p, loose, mean, u, bg, st, sp, t0, t1, x0, x1, lH, l1, l0, lT, o6, oh, ot, os, ob, o1, c6, tm, te, tf, tsp, v0, v1, c0, c1, W, X, T, B, hos, hbare, i0, i1, w0, w1, F, N, d6, dh, dt, dsp, ⟨n1, n2, n3, n4⟩, bst, bsp, bt0, bt1, hbg⟩ := hD
  revert X
  k_fill
  intro X
  have hm0 := mem_handAt (c := 104) bst bsp (wordL bg) 8
  have hm1 := mem_handAt (c := 112) bst bsp (wordL bg) 8
  have hq0 := handAt_len 104 st sp (wordL bg) 8
  have hq1 := handAt_len 112 st sp (wordL bg) 8
  have hv0 := i0.length
  have hv1 := i1.length
  obtain ⟨n0, en0⟩ : ∃ n0, n0 = handAt 104 st sp (wordL bg) 8 := ⟨_, rfl⟩
  obtain ⟨n1', en1⟩ : ∃ n1', n1' = handAt 112 st sp (wordL bg) 8 := ⟨_, rfl⟩
  rw [← en0] at hm0 hq0 hv0 i0 w0
  rw [← en1] at hm1 hq1 hv1 i1 w1
  have hb0 : ∀ m ∈ n0, 0 ≤ m ∧ m < 2 ^ 20 := fun m hm => by have := hm0 m hm; omega
  have hb1 : ∀ m ∈ n1', 0 ≤ m ∧ m < 2 ^ 20 := fun m hm => by have := hm1 m hm; omega
  have bt0' : 0 ≤ t0 ∧ t0 < 2 ^ 20 := by omega
  have bt1' : 0 ≤ t1 ∧ t1 < 2 ^ 20 := by omega
  have hl0 : n0.length ≤ 64 := by omega
  have hl1 : n1'.length ≤ 64 := by omega
  k_dflt (refine LCg.Assign_ListComp_U (F₀ := by k_asm) (by rfl) (by with_unfolding_all rfl) (by with_unfolding_all rfl) (by decide) (by rfl) (by decide) (by rfl) (by rfl) (by rfl) ?_)
  k_steps
  unfold Halt
  refine LCg.CompSrc.range (by rfl) (by k_asm) (by k_asm) (by assumption) ?hsm (rangeSize_nat _ _) (by rw [PySem.sizeLine_eq]; omega) ?_
  case hsm => exact small_one (by omega) (by omega) (by omega) (by omega)
  intro g9
  refine ctg_rest (ColJ n0 n1' t0 t1 ((lH, listOf #[.ref l0, .ref l1] 0) :: (l1, listOf v1.toArray c1) :: (l0, listOf v0.toArray c0) :: (lT, listOf #[.int t0 te, .int t1 tf] 0) ::
    (s₁.heap.objs.size + 1 + 1 + 1 + 1 + 1 + 1, o6) :: (s₁.heap.objs.size + 1 + 1 + 1 + 1 + 1, oh) :: (s₁.heap.objs.size + 1 + 1 + 1 + 1, ot) :: (s₁.heap.objs.size + 1 + 1 + 1, os) :: (s₁.heap.objs.size + 1 + 1, ob) :: (s₁.heap.objs.size + 1, o1) :: W)) ?_ ⟨[], by simp, .nil⟩ ?_
  · rintro i v I oI C oC D m₂ ys nw h3 tk3 E3 hkn ⟨t3, rfl⟩ ⟨tl, rfl, hDat⟩ hC hx3 F3 N3 off3 ne3
    simp only [List.cons_append, List.nil_append] at N3 off3 hDat
    k_steps
    unfold Halt
    rename News _ _ _ ((_, _) :: (I, _) :: _) => N4
    rename _ ∧ _ ∧ _ ∧ _ ∧ _ ∧ _ ∧ _ ∧ _ ∧ _ ∧ _ ∧ _ ∧ _ ∧ _ ∧ AllLt _ (W ++ tl) => q4
    exact col_end (tl := tl) (nn := 0) (by assumption) N4 off3 q4.1 q4.2.1 q4.2.2.1 hDat
  · rintro ys nw ⟨tl, rfl, hDat⟩
    unfold LCg.FinA
    intro D9 h9 tk9 F9 N9 o9
    simp only [List.cons_append, List.nil_append] at N9 o9 hDat
    have F3 := fr_three (a := Str.ofString "columns") (b := Str.ofString "two") (c := Str.ofString "one") F9 rfl rfl rfl
    generalize eS : Shared.mk _ _ _ _ _ = s4
    have hE : StE w s₁ s4 := by
      subst eS
      rw [en0] at w0 hDat
      rw [en1] at w1 hDat
      exact ⟨mg, mb, p, loose, mean, _, bg, st, sp, t0, t1, x0, x1, lH, l1, l0, lT, D9, o6, oh, ot, os, ob, o1, c6, te, tf, tsp, v0, v1, ys, c0, c1, W ++ tl, X, T, B, hos, hbare, w0.mono (fun q hq => List.mem_append_left _ hq), w1.mono (fun q hq => List.mem_append_left _ hq), F3, N9, hDat.mono (fun q hq => .tail _ hq), d6, dh, dt, dsp, ⟨n1, n2, n3, n4⟩, bst, bsp, bt0, bt1, hbg⟩
    exact r w s₁ fa a13 s4 hE
end Mine
end
section
open PySem PySem.W PyProof.Rows PyProof.V PySem.Spec
namespace Mine
abbrev pxO (c : Nat) (l : List Nat) (st sp t : Int) : PS := psOf (leadP (handAt c st sp l 8) t)
theorem wordL0 : wordL 0 = [104, 112, 112, 104, 112, 104, 104, 112] := by decide +kernel
theorem wordL1 : wordL 1 = [112, 104, 104, 112, 104, 112, 112, 104] := by decide +kernel
/-- the columns over an open word -/
def colsW (l : List Nat) (st sp t0 t1 : Int) : List (Int × Int × Int) := (List.range (st + 7 * sp + 2 - 1).toNat).map (colR (handAt 104 st sp l 8) (handAt 112 st sp l 8) t0 t1)
def witW (l : List Nat) (st sp t0 t1 : Int) : List (Int × Int × Int) := witP (pxO 104 l st sp t0) (pxO 112 l st sp t1) (rangeKs 1 (longP (pxO 104 l st sp t0) (pxO 112 l st sp t1) + 1 + 1 - 1).toNat)
/-- the rows that law calls sure -/
def sureT (sp : Int) (rows : List (Int × Int × Int)) : List (Int × Int) := (rows.filter fun r => decide ((4 * sp).fmod r.1 = 0)).map fun r => (r.1, r.2.2 - r.2.1)
def sureR (sp g : Int) : List (Int × Int) := ((List.range (4 * sp + 1 - 1).toNat).filter fun (k : Nat) => decide ((4 * sp).fmod (1 + (k : Int)) = 0) && !decide (g = 0)).map fun (k : Nat) => (1 + (k : Int), g)
def okPS (p : PS) : Bool := decide (p.ns.length < 2 ^ 19) && decide (0 ≤ p.b ∧ p.b < 2 ^ 19) && decide (0 ≤ p.nt ∧ p.nt < 2 ^ 19) && decide (0 ≤ p.n ∧ p.n < 2 ^ 19) && (p.ns.all fun c => decide (0 ≤ c ∧ c < 2 ^ 20)) && !decide (p.ns.length ≤ 1)
theorem okPS_ok {p : PS} (h : okPS p = true) : p.Ok ∧ ¬ (p.ns.length : Int) ≤ 1 := by
  simp only [okPS, Bool.and_eq_true, decide_eq_true_eq, List.all_eq_true, Bool.not_eq_true', decide_eq_false_iff_not] at h
  obtain ⟨⟨⟨⟨⟨a, b⟩, c⟩, d⟩, e⟩, f⟩ := h
  exact ⟨⟨a, b, c, d, e⟩, by omega⟩
/-- the plain law, one draw -/
def lawOk (l : List Nat) (st sp t0 t1 : Int) : Bool :=
  decide (witW l st sp t0 t1 = (colsW l st sp t0 t1).filter fun r => decide (r.2.1 ≠ r.2.2)) &&
  (lessP (pxO 104 l st sp t0) (pxO 112 l st sp t1) == ((colsW l st sp t0 t1).filter fun r => decide (r.2.1 ≥ r.2.2)).isEmpty) &&
  (lessP (pxO 112 l st sp t1) (pxO 104 l st sp t0) == ((colsW l st sp t0 t1).filter fun r => decide (r.2.2 ≥ r.2.1)).isEmpty) &&
  !decide ((pxO 104 l st sp t0).ns = (pxO 112 l st sp t1).ns ∧ (pxO 104 l st sp t0).b = (pxO 112 l st sp t1).b) &&
  decide (sureT sp ((colsW l st sp t0 t1).filter fun r => decide (r.2.1 ≠ r.2.2)) = sureR sp (t1 - t0)) &&
  okPS (pxO 104 l st sp t0) && okPS (pxO 112 l st sp t1)
def lawAll (l : List Nat) (st : Int) : Bool := [1, 2, 3].all fun sp => [0, 1, 2].all fun t0 => [0, 1, 2].all fun t1 => lawOk l st sp t0 t1
theorem lawA01 : lawAll [104, 112, 112, 104, 112, 104, 104, 112] 1 = true := by decide +kernel
theorem lawA02 : lawAll [104, 112, 112, 104, 112, 104, 104, 112] 2 = true := by decide +kernel
theorem lawA03 : lawAll [104, 112, 112, 104, 112, 104, 104, 112] 3 = true := by decide +kernel
theorem lawA04 : lawAll [104, 112, 112, 104, 112, 104, 104, 112] 4 = true := by decide +kernel
theorem lawA05 : lawAll [104, 112, 112, 104, 112, 104, 104, 112] 5 = true := by decide +kernel
theorem lawA06 : lawAll [104, 112, 112, 104, 112, 104, 104, 112] 6 = true := by decide +kernel
theorem lawA11 : lawAll [112, 104, 104, 112, 104, 112, 112, 104] 1 = true := by decide +kernel
theorem lawA12 : lawAll [112, 104, 104, 112, 104, 112, 112, 104] 2 = true := by decide +kernel
theorem lawA13 : lawAll [112, 104, 104, 112, 104, 112, 112, 104] 3 = true := by decide +kernel
theorem lawA14 : lawAll [112, 104, 104, 112, 104, 112, 112, 104] 4 = true := by decide +kernel
theorem lawA15 : lawAll [112, 104, 104, 112, 104, 112, 112, 104] 5 = true := by decide +kernel
theorem lawA16 : lawAll [112, 104, 104, 112, 104, 112, 112, 104] 6 = true := by decide +kernel
theorem lawAll_get {l : List Nat} {st sp t0 t1 : Int} (h : lawAll l st = true) (b2 : 1 ≤ sp ∧ sp ≤ 3) (b3 : 0 ≤ t0 ∧ t0 ≤ 2) (b4 : 0 ≤ t1 ∧ t1 ≤ 2) : lawOk l st sp t0 t1 = true := by
  simp only [lawAll, List.all_eq_true] at h
  have h1 : sp ∈ ([1, 2, 3] : List Int) := by
    have : sp = 1 ∨ sp = 2 ∨ sp = 3 := by omega
    rcases this with rfl | rfl | rfl <;> decide
  have h2 : t0 ∈ ([0, 1, 2] : List Int) := by
    have : t0 = 0 ∨ t0 = 1 ∨ t0 = 2 := by omega
    rcases this with rfl | rfl | rfl <;> decide
  have h3 : t1 ∈ ([0, 1, 2] : List Int) := by
    have : t1 = 0 ∨ t1 = 1 ∨ t1 = 2 := by omega
    rcases this with rfl | rfl | rfl <;> decide
  exact h sp h1 t0 h2 t1 h3
theorem law_ok {bg st sp t0 t1 : Int} (b1 : 1 ≤ st ∧ st ≤ 6) (b2 : 1 ≤ sp ∧ sp ≤ 3) (b3 : 0 ≤ t0 ∧ t0 ≤ 2) (b4 : 0 ≤ t1 ∧ t1 ≤ 2) (b5 : bg = 0 ∨ bg = 1) : lawOk (wordL bg) st sp t0 t1 = true := by
  refine lawAll_get ?_ b2 b3 b4
  have hs : st = 1 ∨ st = 2 ∨ st = 3 ∨ st = 4 ∨ st = 5 ∨ st = 6 := by omega
  rcases b5 with rfl | rfl
  · rw [wordL0]
    rcases hs with rfl | rfl | rfl | rfl | rfl | rfl
    · exact lawA01
    · exact lawA02
    · exact lawA03
    · exact lawA04
    · exact lawA05
    · exact lawA06
  · rw [wordL1]
    rcases hs with rfl | rfl | rfl | rfl | rfl | rfl
    · exact lawA11
    · exact lawA12
    · exact lawA13
    · exact lawA14
    · exact lawA15
    · exact lawA16
/-- the plain law, in propositions -/
theorem law_facts {bg st sp t0 t1 : Int} (b1 : 1 ≤ st ∧ st ≤ 6) (b2 : 1 ≤ sp ∧ sp ≤ 3) (b3 : 0 ≤ t0 ∧ t0 ≤ 2) (b4 : 0 ≤ t1 ∧ t1 ≤ 2) (b5 : bg = 0 ∨ bg = 1) :
    witW (wordL bg) st sp t0 t1 = (colsL bg st sp t0 t1).filter (fun r => decide (r.2.1 ≠ r.2.2)) ∧
    lessP (pxO 104 (wordL bg) st sp t0) (pxO 112 (wordL bg) st sp t1) = ((colsL bg st sp t0 t1).filter fun r => decide (r.2.1 ≥ r.2.2)).isEmpty ∧
    lessP (pxO 112 (wordL bg) st sp t1) (pxO 104 (wordL bg) st sp t0) = ((colsL bg st sp t0 t1).filter fun r => decide (r.2.2 ≥ r.2.1)).isEmpty ∧
    ¬ ((pxO 104 (wordL bg) st sp t0).ns = (pxO 112 (wordL bg) st sp t1).ns ∧ (pxO 104 (wordL bg) st sp t0).b = (pxO 112 (wordL bg) st sp t1).b) ∧
    sureT sp ((colsL bg st sp t0 t1).filter fun r => decide (r.2.1 ≠ r.2.2)) = sureR sp (t1 - t0) ∧
    ((pxO 104 (wordL bg) st sp t0).Ok ∧ ¬ ((pxO 104 (wordL bg) st sp t0).ns.length : Int) ≤ 1) ∧ ((pxO 112 (wordL bg) st sp t1).Ok ∧ ¬ ((pxO 112 (wordL bg) st sp t1).ns.length : Int) ≤ 1) := by
  have h := law_ok b1 b2 b3 b4 b5
  unfold lawOk at h
  simp only [Bool.and_eq_true, decide_eq_true_eq, beq_iff_eq, Bool.not_eq_true', decide_eq_false_iff_not] at h
  obtain ⟨⟨⟨⟨⟨⟨h1, h2⟩, h3⟩, h4⟩, h5⟩, h6⟩, h7⟩ := h
  exact ⟨h1, h2, h3, h4, h5, okPS_ok h6, okPS_ok h7⟩
end Mine
end
section
open PySem PySem.W PyProof.Rows PyProof.V PySem.Spec PySem.Calls
namespace Mine
local macro_rules | `(tactic| walk_at "no such key") => `(tactic| skip)
theorem calmW18 : True := by
  w_top off
  exact trivial
local macro_rules | `(tactic| walk_at "eval ListComp") => `(tactic| (refine Halt.out ?_))
local macro_rules | `(tactic| walk_at "exec If") => `(tactic| (refine Halt.out ?_))
local macro_rules | `(tactic| walk_at "CompSrcT") => `(tactic| (refine Halt.out ?_))
local macro_rules | `(tactic| walk_at "CompEnd") => `(tactic| (refine Halt.out ?_))
local macro_rules | `(tactic| walk_at "call ref") => `(tactic| (refine Halt.out ?_))
local macro_rules | `(tactic| walk_at "compareOp NotEq ref ref") => `(tactic| (refine Halt.out ?_))
local macro_rules | `(tactic| k_all) => `(tactic| (with_reducible assumption))
local macro_rules | `(tactic| k_all) => `(tactic| (refine' List.forall_mem_append.mpr ⟨?aa, ?ab⟩; (case aa => with_reducible assumption); (case ab => k_all)))
local macro_rules | `(tactic| k_ne) => `(tactic| (refine neN ?_; (try dsimp only); omega))
local macro_rules | `(tactic| size_fits) => `(tactic| (simp only [List.size_toArray, PySem.sizeLine_eq]; omega))
/-- law's state behind what it was told -/
inductive StF (w : World) (s₁ s' : Shared) : Prop where
  | mk (mg mb : Str → Option Value) (p : Program) (loose : List Str) (mean : ExcName → Option Value) (u : Str → Option Value) (bg st sp t0 t1 : Int) (x0 x1 lW lC lT : Addr) (o6 ot os : Obj) (c6 : Option Value) (te tf tsp : Tok) (vw vc : List Value) (cw : Nat) (W : List (Addr × Obj))
    (f0 : (K w.params).In s₁.heap)
    (f1 : Top p loose mean mg mb s₁.heap)
    (f2 : Below callerA s₁.heap [] s₁.heap)
    (f3 : s'.os = s₁.os)
    (f4 : AllBare s'.gens)
    (f5 : Ws W x0 (pxO 104 (wordL bg) st sp t0))
    (f6 : Ws W x1 (pxO 112 (wordL bg) st sp t1))
    (f7 : Fr s₁.heap s₁.heap.objs.size s'.heap (fun y => if y = Str.ofString "told" then some (.ref lW) else if y = Str.ofString "columns" then some (.ref lC) else if y = Str.ofString "two" then some (.ref x1) else if y = Str.ofString "one" then some (.ref x0) else u y))
    (f8 : News s₁.heap s₁.heap.objs.size s'.heap ((lW, listOf vw.toArray cw) :: (lC, LCg.lst vc) :: (lT, listOf #[.int t0 te, .int t1 tf] 0) :: (s₁.heap.objs.size + 1 + 1 + 1 + 1 + 1 + 1, o6) :: (s₁.heap.objs.size + 1 + 1 + 1 + 1, ot) :: (s₁.heap.objs.size + 1 + 1 + 1, os) :: W))
    (f9 : DatAll W vw ((witW (wordL bg) st sp t0 t1).map rowD))
    (f10 : DatAll W vc ((colsL bg st sp t0 t1).map rowD))
    (f11 : o6.data = .cell c6)
    (f12 : ot.data = .cell (some (.ref lT)))
    (f13 : os.data = .cell (some (.int sp tsp)))
    (f14 : (@LT.lt Nat _ (s₁.heap.objs.size + 1 + 1 + 1 + 1 + 1 + 1) lT))
    (f15 : (1 ≤ st ∧ st ≤ 6))
    (f16 : (1 ≤ sp ∧ sp ≤ 3))
    (f17 : (0 ≤ t0 ∧ t0 ≤ 2))
    (f18 : (0 ≤ t1 ∧ t1 ≤ 2))
    (f19 : (bg = 0 ∨ bg = 1)) : StF w s₁ s'
theorem fr_four {g h : Heap} {L : Addr} {M : Str → Option Value} {a b c d : Str} {va vb vc vd : Value} (F : Fr g L h M) (e1 : M a = some va) (e2 : M b = some vb) (e3 : M c = some vc) (e4 : M d = some vd) : Fr g L h (fun y => if y = a then some va else if y = b then some vb else if y = c then some vc else if y = d then some vd else M y) := by
  have e : (fun y => if y = a then some va else if y = b then some vb else if y = c then some vc else if y = d then some vd else M y) = M := by
    funext y
    by_cases ha : y = a
    · rw [if_pos ha, ha, e1]
    · rw [if_neg ha]
      by_cases hb : y = b
      · rw [if_pos hb, hb, e2]
      · rw [if_neg hb]
        by_cases hc : y = c
        · rw [if_pos hc, hc, e3]
        · rw [if_neg hc]
          by_cases hd : y = d
          · rw [if_pos hd, hd, e4]
          · rw [if_neg hd]
  rw [e]
  exact F
theorem led_open {g h : Heap} {L : Addr} {tl base : List (Addr × Obj)} {a b c d e : Addr × Obj} {vs : List Value} {ds : List Dat} (N : News g L h (tl ++ (a :: b :: c :: d :: base))) (hw : DatAll (tl ++ (a :: b :: c :: d :: base)) vs ds) (me : e ∈ tl) :
    ∃ W9, (∀ q ∈ base, q ∈ W9) ∧ News g L h W9 ∧ DatAll W9 vs ds ∧ e ∈ W9 :=
  ⟨_, fun _ hq => List.mem_append_right _ (.tail _ (.tail _ (.tail _ (.tail _ hq)))), N, hw, List.mem_append_left _ me⟩
theorem news_six {g h : Heap} {L : Addr} {news : List (Addr × Obj)} {a b c d e f : Addr × Obj} (N : News g L h news) (ha : a ∈ news) (hb : b ∈ news) (hc : c ∈ news) (hd : d ∈ news) (he : e ∈ news) (hf : f ∈ news) : News g L h (a :: b :: c :: d :: e :: f :: news) := fun p hp => N p (by
  simp only [List.mem_cons] at hp
  rcases hp with rfl | rfl | rfl | rfl | rfl | rfl | hp <;> assumption)
set_option maxRecDepth 100000 in
set_option maxHeartbeats 8000000 in
noncomputable def RF : { G : World → Shared → Addr → Addr → Shared → Prop // (∀ w s₁ fa a13 s', StF w s₁ s' → G w s₁ fa a13 s') → ∀ w s₁ fa a13 s', StE w s₁ s' → RE.1 w s₁ fa a13 s' } := by
  refine ⟨?G, ?h⟩
  case h =>
  intro r w s₁ fa a13 s' hD
  dsimp only [RE]
  obtain ⟨mg, mb, p, loose, mean, u, bg, st, sp, t0, t1, x0, x1, lH, l1, l0, lT, lC, o6, oh, ot, os, ob, o1, c6, te, tf, tsp, v0, v1, vc, c0, c1, W, X, T, B, hos, hbare, w0, w1, F, N, hDat, d6, dh, dt, dsp, ⟨n1, n2, n3, n4⟩, bst, bsp, bt0, bt1, hbg⟩ := hD
  obtain ⟨-, -, -, -, -, ⟨ok0, ns0⟩, ⟨ok1, ns1⟩⟩ := law_facts bst bsp bt0 bt1 hbg
  obtain ⟨px, epx⟩ : ∃ px, px = pxO 104 (wordL bg) st sp t0 := ⟨_, rfl⟩
  obtain ⟨py, epy⟩ : ∃ py, py = pxO 112 (wordL bg) st sp t1 := ⟨_, rfl⟩
  change Ws W x0 (pxO 104 (wordL bg) st sp t0) at w0
  change Ws W x1 (pxO 112 (wordL bg) st sp t1) at w1
  rw [← epx] at ok0 ns0 w0
  rw [← epy] at ok1 ns1 w1
  have m6 : (s₁.heap.objs.size + 1 + 1 + 1 + 1 + 1 + 1, o6) ∈ ((lC, LCg.lst vc) :: (lH, listOf #[.ref l0, .ref l1] 0) :: (l1, listOf v1.toArray c1) :: (l0, listOf v0.toArray c0) :: (lT, listOf #[.int t0 te, .int t1 tf] 0) :: (s₁.heap.objs.size + 1 + 1 + 1 + 1 + 1 + 1, o6) :: (s₁.heap.objs.size + 1 + 1 + 1 + 1 + 1, oh) :: (s₁.heap.objs.size + 1 + 1 + 1 + 1, ot) :: (s₁.heap.objs.size + 1 + 1 + 1, os) :: (s₁.heap.objs.size + 1 + 1, ob) :: (s₁.heap.objs.size + 1, o1) :: W) := .tail _ (.tail _ (.tail _ (.tail _ (.tail _ (.head _)))))
  have mt : (s₁.heap.objs.size + 1 + 1 + 1 + 1, ot) ∈ ((lC, LCg.lst vc) :: (lH, listOf #[.ref l0, .ref l1] 0) :: (l1, listOf v1.toArray c1) :: (l0, listOf v0.toArray c0) :: (lT, listOf #[.int t0 te, .int t1 tf] 0) :: (s₁.heap.objs.size + 1 + 1 + 1 + 1 + 1 + 1, o6) :: (s₁.heap.objs.size + 1 + 1 + 1 + 1 + 1, oh) :: (s₁.heap.objs.size + 1 + 1 + 1 + 1, ot) :: (s₁.heap.objs.size + 1 + 1 + 1, os) :: (s₁.heap.objs.size + 1 + 1, ob) :: (s₁.heap.objs.size + 1, o1) :: W) := .tail _ (.tail _ (.tail _ (.tail _ (.tail _ (.tail _ (.tail _ (.head _)))))))
  have ms : (s₁.heap.objs.size + 1 + 1 + 1, os) ∈ ((lC, LCg.lst vc) :: (lH, listOf #[.ref l0, .ref l1] 0) :: (l1, listOf v1.toArray c1) :: (l0, listOf v0.toArray c0) :: (lT, listOf #[.int t0 te, .int t1 tf] 0) :: (s₁.heap.objs.size + 1 + 1 + 1 + 1 + 1 + 1, o6) :: (s₁.heap.objs.size + 1 + 1 + 1 + 1 + 1, oh) :: (s₁.heap.objs.size + 1 + 1 + 1 + 1, ot) :: (s₁.heap.objs.size + 1 + 1 + 1, os) :: (s₁.heap.objs.size + 1 + 1, ob) :: (s₁.heap.objs.size + 1, o1) :: W) := .tail _ (.tail _ (.tail _ (.tail _ (.tail _ (.tail _ (.tail _ (.tail _ (.head _))))))))
  have mT : (lT, listOf #[.int t0 te, .int t1 tf] 0) ∈ ((lC, LCg.lst vc) :: (lH, listOf #[.ref l0, .ref l1] 0) :: (l1, listOf v1.toArray c1) :: (l0, listOf v0.toArray c0) :: (lT, listOf #[.int t0 te, .int t1 tf] 0) :: (s₁.heap.objs.size + 1 + 1 + 1 + 1 + 1 + 1, o6) :: (s₁.heap.objs.size + 1 + 1 + 1 + 1 + 1, oh) :: (s₁.heap.objs.size + 1 + 1 + 1 + 1, ot) :: (s₁.heap.objs.size + 1 + 1 + 1, os) :: (s₁.heap.objs.size + 1 + 1, ob) :: (s₁.heap.objs.size + 1, o1) :: W) := .tail _ (.tail _ (.tail _ (.tail _ (.head _))))
  have mC : (lC, LCg.lst vc) ∈ ((lC, LCg.lst vc) :: (lH, listOf #[.ref l0, .ref l1] 0) :: (l1, listOf v1.toArray c1) :: (l0, listOf v0.toArray c0) :: (lT, listOf #[.int t0 te, .int t1 tf] 0) :: (s₁.heap.objs.size + 1 + 1 + 1 + 1 + 1 + 1, o6) :: (s₁.heap.objs.size + 1 + 1 + 1 + 1 + 1, oh) :: (s₁.heap.objs.size + 1 + 1 + 1 + 1, ot) :: (s₁.heap.objs.size + 1 + 1 + 1, os) :: (s₁.heap.objs.size + 1 + 1, ob) :: (s₁.heap.objs.size + 1, o1) :: W) := .head _
  have hW : ∀ q ∈ W, q ∈ ((lC, LCg.lst vc) :: (lH, listOf #[.ref l0, .ref l1] 0) :: (l1, listOf v1.toArray c1) :: (l0, listOf v0.toArray c0) :: (lT, listOf #[.int t0 te, .int t1 tf] 0) :: (s₁.heap.objs.size + 1 + 1 + 1 + 1 + 1 + 1, o6) :: (s₁.heap.objs.size + 1 + 1 + 1 + 1 + 1, oh) :: (s₁.heap.objs.size + 1 + 1 + 1 + 1, ot) :: (s₁.heap.objs.size + 1 + 1 + 1, os) :: (s₁.heap.objs.size + 1 + 1, ob) :: (s₁.heap.objs.size + 1, o1) :: W) := fun q hq => .tail _ (.tail _ (.tail _ (.tail _ (.tail _ (.tail _ (.tail _ (.tail _ (.tail _ (.tail _ (.tail _ hq))))))))))
  generalize eL : ((lC, LCg.lst vc) :: (lH, listOf #[.ref l0, .ref l1] 0) :: (l1, listOf v1.toArray c1) :: (l0, listOf v0.toArray c0) :: (lT, listOf #[.int t0 te, .int t1 tf] 0) ::
    (s₁.heap.objs.size + 1 + 1 + 1 + 1 + 1 + 1, o6) :: (s₁.heap.objs.size + 1 + 1 + 1 + 1 + 1, oh) :: (s₁.heap.objs.size + 1 + 1 + 1 + 1, ot) :: (s₁.heap.objs.size + 1 + 1 + 1, os) :: (s₁.heap.objs.size + 1 + 1, ob) :: (s₁.heap.objs.size + 1, o1) :: W) = base at N hDat m6 mt ms mT mC hW
  replace w0 := w0.mono hW
  replace w1 := w1.mono hW
  obtain ⟨dx, nm, ct, h1, th1, v1', h2, th2, u2, h3, th3, u3, h4, th4, h5, th5, cnt, tb, nn1, nn2, m1, m2, m3, m4, hi⟩ := id w0
  obtain ⟨dx', nm', ct', h1', th1', v1'', h2', th2', u2', h3', th3', u3', h4', th4', h5', th5', cnt', tb', nn1', nn2', m1', m2', m3', m4', hi'⟩ := id w1
  replace N : News s₁.heap s₁.heap.objs.size s'.heap (_ :: _ :: _ :: _ :: base) := news4 N m1 m2 m1' m2'
  revert X
  k_fill
  intro X
  k_steps
  unfold Halt
  k_dflt (refine' c_witness _ _ _ _ _ _ _ _ _ _ _ _ _ _ _ _ _ x0 x1 px py _ ?gB ?gF ?gX ?gN ?gw0 ?gw1 ?gT rfl ok0 ok1 ?g1 ?g2 ?_; (case gB => k_asm); (case gF => k_asm); (case gX => assumption); (case gN => k_asm); (case gw0 => exact w0.mono fun q hq => .tail _ (.tail _ (.tail _ (.tail _ hq)))); (case gw1 => exact w1.mono fun q hq => .tail _ (.tail _ (.tail _ (.tail _ hq)))); (case gT => assumption); (case g1 => exact Nat.le_of_ble_eq_true rfl); (case g2 => exact Nat.le_of_ble_eq_true rfl))
  intro a h9 tk9 vals cap tl F9 N9 ma hw
  obtain ⟨W9, hB, N8, hw8, ma8⟩ := led_open N9 hw ma
  clear N9
  have N9 := news_six N8 ma8 (hB _ mC) (hB _ mT) (hB _ m6) (hB _ mt) (hB _ ms)
  clear N
  k_steps
  unfold Halt
  rename News _ _ _ ((a, _) :: _) => N7
  rename Fr _ _ _ (fun y => if y = Str.ofString "told" then _ else _) => F7
  have F8 := fr_four (a := Str.ofString "told") (b := Str.ofString "columns") (c := Str.ofString "two") (d := Str.ofString "one") F7 rfl rfl rfl rfl
  generalize eS : Shared.mk _ _ _ _ _ = s4
  have hF : StF w s₁ s4 := by
    subst eS
    subst epx
    subst epy
    exact ⟨mg, mb, p, loose, mean, _, bg, st, sp, t0, t1, x0, x1, a, lC, lT, o6, ot, os, c6, te, tf, tsp, vals, vc, cap, W9, X, T, B, hos, hbare, w0.mono hB, w1.mono hB, F8, N7, hw8, hDat.mono hB, d6, dt, dsp, n1, bst, bsp, bt0, bt1, hbg⟩
  exact r w s₁ fa a13 s4 hF
end Mine
end
section
open PySem PySem.W PyProof.Rows PyProof.V PySem.Spec PySem.Calls PyProof.Rows.LCg
namespace Mine
/-- what one turn of a block with three names and a test is to do: J tells what is kept from turn to turn -/
def TriTurn (prog : Program) (w : World) (A : Around) (h₀ : Heap) (L : Addr) (m : Str → Option Value) (env : Env) (ct elt : PySem.Expr) (a b c : Str) (scope : Scope) (cl : List (Str × Addr)) (ax : Addr) (vs : List Value) (J : Nat → List Value → List (Addr × Obj) → Prop) (s : Shared) : Prop :=
  ∀ i ys nw, i < vs.length → J i ys nw → ∃ (t : Addr) (v1 v2 v3 : Value) (nt : Nat), vs[i]? = some (.ref t) ∧ (t, tupO [v1, v2, v3] nt) ∈ nw ∧
    ∀ I oI C oC D m₂ h tk (E' : Value → Shared → Prop), NsObj oC m₂ → m₂ a = some v1 → m₂ b = some v2 → m₂ c = some v3 → Fr h₀ L h m → News h₀ L h ((I, oI) :: (C, oC) :: (D, lst ys) :: nw) → Off3 I C D nw → ((@Ne Nat I C) ∧ (@Ne Nat I D) ∧ (@Ne Nat C D)) →
      wpAny (model prog w) A (isTrue ct (compEnvC scope cl C env) (eval ct (compEnvC scope cl C env))) (fun ok s' => if ok = true then
        wpAny (model prog w) A (eval elt (compEnvC scope cl C env)) (CompEnd h₀ L m { s with heap := h, toks := tk } I oI C oC D (lst ys) (SrcAt h₀ ax vs.toArray) (fun y nw' => J (i + 1) (ys ++ [y]) nw')) E' s'
        else CompEnd h₀ L m { s with heap := h, toks := tk } I oI C oC D (lst ys) (SrcAt h₀ ax vs.toArray) (fun _ nw' => J (i + 1) ys nw') Value.none s') E' { s with heap := h, toks := tk }
def TriSrc (prog : Program) (w : World) (A : Around) (h₀ : Heap) (L : Addr) (m : Str → Option Value) (env : Env) (ct elt : PySem.Expr) (a b c : Str) (scope : Scope) (cl : List (Str × Addr)) (Fin : Shared → List Value → List (Addr × Obj) → Prop) (xv : Value) (s₁ : Shared) : Prop :=
  ∃ (ax : Addr) (vs : List Value) (news : List (Addr × Obj)) (J : Nat → List Value → List (Addr × Obj) → Prop), xv = .ref ax ∧ A.handled = none ∧ Fr h₀ L s₁.heap m ∧ News h₀ L s₁.heap news ∧ SrcAt h₀ ax vs.toArray news ∧ vs.length ≤ sizeLine ∧ J 0 [] news ∧
    ∀ g : Heap, TriTurn prog w A h₀ L m env ct elt a b c scope cl ax vs J { s₁ with heap := g } ∧ ∀ ys nw, J vs.length ys nw → Fin { s₁ with heap := g } ys nw
section
variable {prog : Program} {w : World} {A : Around} {E : Value → Shared → Prop} {s : Shared} {h₀ : Heap} {L : Addr} {m : Str → Option Value} {env : Env}
theorem TriSrc.ledger {ct elt : PySem.Expr} {a b c : Str} {scope : Scope} {cl : List (Str × Addr)} {Fin : Shared → List Value → List (Addr × Obj) → Prop} {ax : Addr} {vs : List Value} {k : Nat} {news : List (Addr × Obj)} {s₁ : Shared} (J : Nat → List Value → List (Addr × Obj) → Prop)
    (hh : A.handled = none) (F : Fr h₀ L s₁.heap m) (N : News h₀ L s₁.heap news) (hm : (ax, listOf vs.toArray k) ∈ news) (hsz : vs.length ≤ sizeLine) (h0 : J 0 [] news)
    (h : ∀ g : Heap, TriTurn prog w A h₀ L m env ct elt a b c scope cl ax vs J { s₁ with heap := g } ∧ ∀ ys nw, J vs.length ys nw → Fin { s₁ with heap := g } ys nw) :
    TriSrc prog w A h₀ L m env ct elt a b c scope cl Fin (.ref ax) s₁ := ⟨ax, vs, news, J, rfl, hh, F, N, .inr ⟨_, hm, rfl, _, rfl⟩, hsz, h0, h⟩
theorem tri_block {ct elt iter : PySem.Expr} {a b c : Str} {pa pb pc tp : Pos} {kk} {scope : Scope} {cl : List (Str × Addr)} {pos : Pos} {s₂ : Shared} {ax I : Addr} {vs : List Value} {news : List (Addr × Obj)} {J : Nat → List Value → List (Addr × Obj) → Prop}
    {RR : Value → Addr → Result → Shared → Prop}
    (hh : A.handled = none) (hne : ax ≠ I) (hsz : vs.length ≤ sizeLine) (hcell : ∀ y ∈ scope.names, y.2 ≠ .cell) (hkind : scope.kind = .function)
    (hxa : scope.names.lookup a = some .local) (hxb : scope.names.lookup b = some .local) (hxc : scope.names.lookup c = some .local) (hab : ¬ a = b) (hac : ¬ a = c) (hbc : ¬ b = c)
    (hst : s₂.heap.IsListIter I ax 0 ∧ s₂.heap.IsList ax vs.toArray) (F : Fr h₀ L s₂.heap m) (N : News h₀ L s₂.heap news) (hIL : L ≠ I) (hI₀ : h₀.get? I = none) (off : ∀ p ∈ news, p.1 ≠ I) (hS : SrcAt h₀ ax vs.toArray news)
    (h0 : J 0 [] news) (R : TriTurn prog w A h₀ L m env ct elt a b c scope cl ax vs J s₂)
    (hRR : ∀ D C h tk m' ys news', Fr h₀ L h m → News h₀ L h ((D, lst ys) :: news') → Off1 D news' → h.Ns C m' → h₀.get? C = none → h₀.get? D = none → C ≠ L → D ≠ L → C ≠ D → (∀ p ∈ news', p.1 ≠ C) → J vs.length ys news' → RR (.ref D) C (.ok .next) { s₂ with heap := h, toks := tk }) :
    wpAny (model prog w) A (newList []) (fun acc s₃ => wpAny (model prog w) A (newFunctionEnv scope env.globals cl [] env.qual none .none (some env)) (fun cenv s₄ =>
      codeAny (model prog w) A (.compStart (.ListComp elt [⟨.Tuple [.Name a pa, .Name b pb, .Name c pc] kk tp, iter, [ct], 0⟩] scope pos) 0 (.ref I) acc { cenv with scope := relabel scope env }) (RR acc cenv.locals) s₄) E s₃) E s₂ := by
  have W := Walks.list (prog := prog) (w := w) hh I ax hne vs.toArray
  refine wpAny_newObj_type (wpAny_newFunctionEnv hcell (by intro y hy; simp at hy) (fun h₁ hns₁ hsb₁ => ?_) hkind)
  dsimp only at hns₁ hsb₁ ⊢
  generalize hH2 : s₂.heap.push { cls := .type "list", dict := none, data := .seq ([] : List Value).toArray } = H2 at hns₁ hsb₁ ⊢
  have hC : H2.objs.size = s₂.heap.objs.size + 1 := by rw [← hH2, Heap.size_push]
  have hDC : s₂.heap.objs.size ≠ H2.objs.size := by rw [hC]; exact Nat.ne_of_lt (Nat.lt_succ_self _)
  have below : ∀ d, d < s₂.heap.objs.size → d ≠ H2.objs.size ∧ d ≠ s₂.heap.objs.size := fun d hd => ⟨by rw [hC]; exact Nat.ne_of_lt (Nat.lt_succ_of_lt hd), Nat.ne_of_lt hd⟩
  have hIlt : I < s₂.heap.objs.size := by obtain ⟨_, e, _⟩ := hst.1; exact Heap.lt_size e
  have haxlt : ax < s₂.heap.objs.size := by obtain ⟨_, e, _⟩ := hst.2; exact Heap.lt_size e
  have old : ∀ d o, s₂.heap.get? d = some o → h₁.get? d = some o := fun d o e => hsb₁.extBut d o (below d (Heap.lt_size e)).1 (Heap.get?_push_of_some _ (hH2 ▸ Heap.get?_push_of_some _ e))
  have hacc : h₁.get? s₂.heap.objs.size = some (lst []) := hsb₁.extBut _ _ hDC (Heap.get?_push_of_some _ (hH2 ▸ Heap.get?_push_size _ rfl))
  have hst₁ : h₁.IsListIter I ax 0 ∧ h₁.IsList ax vs.toArray := W.frame _ _ _ hst fun d _ o e => old d o e
  have fresh₀ : ∀ d, s₂.heap.objs.size ≤ d → h₀.get? d = none := fun d hd => by
    cases e : h₀.get? d with
    | none => rfl
    | some o' => exact absurd (Heap.lt_size (F.keep d o' e)) (Nat.not_lt.mpr hd)
  have hD₀ : h₀.get? s₂.heap.objs.size = none := fresh₀ _ (Nat.le_refl _)
  have hC₀ : h₀.get? H2.objs.size = none := fresh₀ _ (by rw [hC]; exact Nat.le_succ _)
  have hLlt : L < s₂.heap.objs.size := F.ns.lt
  have hDL : s₂.heap.objs.size ≠ L := Ne.symm (below L hLlt).2
  have hCL : H2.objs.size ≠ L := Ne.symm (below L hLlt).1
  have hCI : I ≠ H2.objs.size := (below I hIlt).1
  have hDI : I ≠ s₂.heap.objs.size := (below I hIlt).2
  have hfC : ∀ d ∈ [I, ax], d ≠ H2.objs.size := fun d hd => by
    rcases List.mem_cons.mp hd with rfl | hd
    · exact hCI
    · rw [List.mem_singleton.mp hd]; exact (below ax haxlt).1
  have hfD : ∀ d ∈ [I, ax], d ≠ s₂.heap.objs.size := fun d hd => by
    rcases List.mem_cons.mp hd with rfl | hd
    · exact hDI
    · rw [List.mem_singleton.mp hd]; exact (below ax haxlt).2
  have off₀ : Off3 I H2.objs.size s₂.heap.objs.size news := Off3.of fun p hp => ⟨off p hp, (below _ (Heap.lt_size (N p hp).1)).1, (below _ (Heap.lt_size (N p hp).1)).2⟩
  have loop : ∀ s₃ : Shared, s₃ = { s₂ with heap := h₁, toks := s₂.toks + ([] : List (Str × Value)).length } →
      codeAny (model prog w) A (.compLoop (.ListComp elt [⟨.Tuple [.Name a pa, .Name b pb, .Name c pc] kk tp, iter, [ct], 0⟩] scope pos) 0 (.ref I) (.ref s₂.heap.objs.size) (compEnvC scope cl H2.objs.size env))
        (RR (.ref s₂.heap.objs.size) H2.objs.size) s₃ := by
    rintro s₃ rfl
    refine kct_loop
      (fun k s' => ∃ h' tk i ys m' news', s' = { s₂ with heap := h', toks := tk } ∧ i ≤ vs.length ∧ k = vs.length + 1 - i ∧ ys.length ≤ i ∧ (h'.IsListIter I ax i ∧ h'.IsList ax vs.toArray) ∧ Fr h₀ L h' m ∧ h'.Ns H2.objs.size m' ∧ News h₀ L h' ((s₂.heap.objs.size, lst ys) :: news') ∧
        Off3 I H2.objs.size s₂.heap.objs.size news' ∧ SrcAt h₀ ax vs.toArray news' ∧ J i ys news') ?_ (vs.length + 1)
      ⟨h₁, _, 0, [], _, news, rfl, Nat.zero_le _, rfl, Nat.le_refl _, hst₁, F.keeps old, hns₁, fun p hp => ?_, off₀, hS, h0⟩
    · rintro k s' ⟨h', tk, i, ys, m', news', rfl, hi, rfl, hyl, hst', F', hn', N', off', hS', hJ⟩
      by_cases hlt : i < vs.length
      · refine W.item i _ _ _ (by rw [List.size_toArray]; exact hlt) hst' fun v h₂ tk₂ hPv hst₂ hk₂ => ?_
        obtain ⟨t, v1, v2, v3, nt, hvt, hmt, turn⟩ := R i ys news' hlt hJ
        have hv : v = .ref t := by
          have q : vs[i]? = some v := by simpa using hPv
          rw [hvt] at q
          exact (Option.some.inj q).symm
        subst hv
        have off3 := off'.mem
        have N₂ : News h₀ L h₂ ((s₂.heap.objs.size, lst ys) :: news') := news_but N' hk₂ fun p hp => by
          rcases List.mem_cons.mp hp with rfl | hp
          · exact Ne.symm hDI
          · exact (off3 p hp).1
        have ht : IsTup h₂ t #[v1, v2, v3] := ⟨_, (N₂ _ (List.mem_cons_of_mem _ hmt)).1, rfl, nt, rfl⟩
        refine wpAny_letOwnedTupleGo_listiter hst₂.1 ?_
        refine assign_Tuple_tuple hh ht rfl rfl fun h₅ he => ?_
        have he' : ∀ d o, h₂.get? d = some o → h₅.get? d = some o := fun d o e => he d o (Nat.ne_of_lt (Heap.lt_size e)) e
        refine assignInOrder_cons (wpAny_assign_Name (wpAny_storeName_local (lookup_relabel_local hxa) ((hn'.at' fun o e => hk₂ _ o (by simpa using Ne.symm hCI) e).at' fun o e => he' _ o e) (fun h₆ hn₆ hs₆ => ?_) (by simp [compEnvC, relabel, hkind])))
        refine assignInOrder_cons (wpAny_assign_Name (wpAny_storeName_local (lookup_relabel_local hxb) hn₆ (fun h₇ hn₇ hs₇ => ?_) (by simp [compEnvC, relabel, hkind])))
        refine assignInOrder_cons (wpAny_assign_Name (wpAny_storeName_local (lookup_relabel_local hxc) hn₇ (fun h₃ hn₃ hs₃ => ?_) (by simp [compEnvC, relabel, hkind])))
        refine assignInOrder_nil ?_
        have old3 : ∀ d o, d ≠ H2.objs.size → h₂.get? d = some o → h₃.get? d = some o := fun d o hd e => hs₃.extBut d o hd (hs₇.extBut d o hd (hs₆.extBut d o hd (he' d o e)))
        have hst₃ : h₃.IsListIter I ax (i + 1) ∧ h₃.IsList ax vs.toArray := W.frame _ _ _ hst₂ fun d hd o e => old3 d o (hfC d hd) e
        obtain ⟨oI, heI⟩ : ∃ oI, h₃.get? I = some oI := by obtain ⟨o, e, _⟩ := hst₃.1; exact ⟨o, e⟩
        obtain ⟨oC, heC, hoC⟩ := ns_obj hn₃
        have F₃ : Fr h₀ L h₃ m := ((((fr_but F' hk₂ hIL hI₀).keeps he').change hs₆ hCL hC₀).change hs₇ hCL hC₀).change hs₃ hCL hC₀
        have N₃ : News h₀ L h₃ ((I, oI) :: (H2.objs.size, oC) :: (s₂.heap.objs.size, lst ys) :: news') := fun p hp => by
          rcases List.mem_cons.mp hp with rfl | hp
          · exact ⟨heI, Ne.symm hIL, hI₀⟩
          · rcases List.mem_cons.mp hp with rfl | hp
            · exact ⟨heC, hCL, hC₀⟩
            · have z := N₂ p hp
              refine ⟨old3 _ _ ?_ z.1, z.2⟩
              rcases List.mem_cons.mp hp with rfl | hp
              · exact hDC
              · exact (off3 p hp).2.1
        refine wpAny_mono (turn I oI H2.objs.size oC s₂.heap.objs.size _ h₃ _ _ hoC (by simp [hab, hac]) (by simp [hbc]) (by simp) F₃ N₃ off' ⟨hCI, hDI, Ne.symm hDC⟩) (fun okb s₄ h₄ => ?_) fun _ _ e => e
        cases okb with
        | true =>
          simp only [if_true] at h₄ ⊢
          refine wpAny_mono h₄ (fun y s₅ h₅ => ?_) fun _ _ e => e
          obtain ⟨h₄, tk₄, news₄, rfl, F₄, N₄, off₄, hS₄, R₄⟩ := h₅
          have zI := (N₄ (I, oI) List.mem_cons_self).1
          have zC := (N₄ (H2.objs.size, oC) (List.mem_cons_of_mem _ List.mem_cons_self)).1
          have zD := (N₄ (s₂.heap.objs.size, lst ys) (List.mem_cons_of_mem _ (List.mem_cons_of_mem _ List.mem_cons_self))).1
          have N₄' : News h₀ L h₄ news₄ := fun p hp => N₄ p (List.mem_cons_of_mem _ (List.mem_cons_of_mem _ (List.mem_cons_of_mem _ hp)))
          have hst₄ := list_st (h₀ := h₀) (L := L) (i + 1) _ _ _ _ hst₃ heI zI F₄.keep N₄' hS₄
          refine append_at (hsz := by show ys.toArray.size ≤ sizeLine; rw [List.size_toArray]; exact Nat.le_trans (Nat.le_trans hyl hi) hsz) zD fun h₅ hs₅ hD₅ => ?_
          have off4 := off₄.mem
          refine ⟨vs.length + 1 - (i + 1), by omega, h₅, tk₄, i + 1, ys ++ [y], _, news₄, rfl, hlt, rfl, by rw [List.length_append, List.length_singleton]; exact Nat.succ_le_succ hyl, W.frame _ _ _ hst₄ fun d hd o e => hs₅.extBut d o (hfD d hd) e, F₄.change hs₅ hDL hD₀,
            (hoC.ns zC).sameBut hs₅ (Ne.symm hDC), fun p hp => ?_, off₄, hS₄, R₄⟩
          rcases List.mem_cons.mp hp with rfl | hp
          · exact ⟨hD₅.trans (congrArg some (lst_snoc ys y)), hDL, hD₀⟩
          · exact ⟨hs₅.extBut _ _ (off4 p hp).2.2 (N₄' p hp).1, (N₄' p hp).2⟩
        | false =>
          simp only [Bool.false_eq_true, if_false] at h₄ ⊢
          obtain ⟨h₅, tk₄, news₄, rfl, F₄, N₄, off₄, hS₄, R₄⟩ := h₄
          have zI := (N₄ (I, oI) List.mem_cons_self).1
          have zC := (N₄ (H2.objs.size, oC) (List.mem_cons_of_mem _ List.mem_cons_self)).1
          have N₄' : News h₀ L h₅ news₄ := fun p hp => N₄ p (List.mem_cons_of_mem _ (List.mem_cons_of_mem _ (List.mem_cons_of_mem _ hp)))
          have hst₄ := list_st (h₀ := h₀) (L := L) (i + 1) _ _ _ _ hst₃ heI zI F₄.keep N₄' hS₄
          refine ⟨vs.length + 1 - (i + 1), by omega, h₅, tk₄, i + 1, ys, _, news₄, rfl, hlt, rfl, Nat.le_succ_of_le hyl, hst₄, F₄, hoC.ns zC, fun p hp => ?_, off₄, hS₄, R₄⟩
          rcases List.mem_cons.mp hp with rfl | hp
          · exact N₄ _ (List.mem_cons_of_mem _ (List.mem_cons_of_mem _ List.mem_cons_self))
          · exact N₄' p hp
      · obtain rfl : i = vs.length := Nat.le_antisymm hi (Nat.not_lt.mp hlt)
        refine W.done _ _ _ (by rw [List.size_toArray]; exact hst') fun h₂ tk₂ hk₂ => ?_
        have off3 := off'.mem
        exact hRR _ _ h₂ tk₂ _ ys news' (fr_but F' hk₂ hIL hI₀) (news_but N' hk₂ fun p hp => by
          rcases List.mem_cons.mp hp with rfl | hp
          · exact Ne.symm hDI
          · exact (off3 p hp).1) off'.one (hn'.at' fun o e => hk₂ _ o (by simpa using Ne.symm hCI) e) hC₀ hD₀ hCL hDL (Ne.symm hDC) (fun p hp => (off3 p hp).2.1) hJ
    · rcases List.mem_cons.mp hp with rfl | hp
      · exact ⟨hacc, hDL, hD₀⟩
      · exact ⟨old _ _ (N p hp).1, (N p hp).2⟩
  exact codeAny_compStart_list (loop _ rfl) (W.self 0 _ _ _ hst₁ (loop _ rfl))
theorem tri_Assign {ct elt iter : PySem.Expr} {a b c y : Str} {pa pb pc tp py : Pos} {kk} {scope : Scope} {cl : List (Str × Addr)} {pos spos : Pos} {Q : Flow → Shared → Prop} (F₀ : Fr h₀ L s.heap m) (hLe : env.locals = L)
    (hsw : swapsWith (.ListComp elt [⟨.Tuple [.Name a pa, .Name b pb, .Name c pc] kk tp, iter, [ct], 0⟩] scope pos) (some (.Name y py)) spos.line env = pure true)
    (hclos : closureFor scope env = pure cl) (hcell : ∀ z ∈ scope.names, z.2 ≠ .cell) (hkind : scope.kind = .function)
    (hnames : ∀ z ∈ scope.names, z.2 = .local → scope.names.lookup z.1 = some .local) (hxa : scope.names.lookup a = some .local) (hxb : scope.names.lookup b = some .local) (hxc : scope.names.lookup c = some .local) (hab : ¬ a = b) (hac : ¬ a = c) (hbc : ¬ b = c)
    (hy : env.kindOf y = some .local) (hp : (env.scope.kind == .class || (env.scope.kind == .module && env.locals != env.globals)) = false)
    (h : wpAny (model prog w) A (eval iter env) (TriSrc prog w A h₀ L m env ct elt a b c scope cl (fun s₂ => FinA h₀ L m s₂ y Q)) E s)
    (hs : ∀ x, foldedSetIterable iter env x = pure x := by intro _; rfl) :
    wpAny (model prog w) A (exec (.Assign [.Name y py] (.ListComp elt [⟨.Tuple [.Name a pa, .Name b pb, .Name c pc] kk tp, iter, [ct], 0⟩] scope pos) spos) env) Q E s := by
  subst hLe
  rw [exec_Assign_Name_used _ _ _ _ hsw]
  refine wpAny_bind (wpAny_standAt (wpAny_bind ?_))
  show wpAny _ A (do let _ ← comprehension (.ListComp elt [⟨.Tuple [.Name a pa, .Name b pb, .Name c pc] kk tp, iter, [ct], 0⟩] scope pos) scope env _ (newList []) false (eval iter env) (some (assign (.Name y py) env))) _ _ s
  refine wpAny_bind (wpAny_mono (wpAny_comprehension_free (use := some (assign (.Name y py) env)) (Q := fun _ s' => Q .next s') rfl hs hclos hkind hnames
    (wpAny_mono h (fun xv s₁ h₁ => ?_) fun _ _ e => e)) (fun _ s' hq => wpAny_pure (wpAny_pure hq)) fun _ _ e => e)
  obtain ⟨ax, vs, news, J, rfl, hh, F, N, S, hsz, h0, R⟩ := h₁
  have hl := S.list F.keep N
  have hlt : ax < s₁.heap.objs.size := by obtain ⟨_, e, _⟩ := hl; exact Heap.lt_size e
  refine wpAny_pyIter_list hl ?_
  obtain ⟨R1, R2⟩ := R (s₁.heap.push { cls := .type "list_iterator", data := .fields #[.ref ax, .int 0 0] })
  have up : ∀ d o, s₁.heap.get? d = some o → (s₁.heap.push { cls := .type "list_iterator", data := .fields #[.ref ax, .int 0 0] }).get? d = some o := fun d o e => Heap.get?_push_of_some _ e
  refine tri_block (ax := ax) (I := s₁.heap.objs.size) (vs := vs) (J := J) hh (Nat.ne_of_lt hlt) hsz hcell hkind hxa hxb hxc hab hac hbc ⟨⟨_, Heap.get?_push_size _ rfl, rfl, rfl⟩, hl.push _⟩
    (F.keeps up) (N.grown up) (Nat.ne_of_lt F.ns.lt) (next_is_new F) (fun p hp => Nat.ne_of_lt (Heap.lt_size (N p hp).1)) S h0 R1 ?_
  intro D C h' tk m' ys news' F' N' o1 hn hC₀ hD₀ hCL hDL hCD offC fin
  show wpAny _ A (assign (.Name y py) env (.ref D)) _ _ _
  refine wpAny_assign_Name (wpAny_storeName_local hy F'.ns (fun h₂ hn₂ hs₂ => ?_) hp)
  have hL₀ : h₀.get? env.locals = none := Heap.get?_none_of_le F'.above
  have F₂ : Fr h₀ env.locals h₂ (fun z => if z = y then some (.ref D) else m z) := ⟨hn₂, fun d o e => hs₂.extBut d o (fun q => by rw [q, hL₀] at e; cases e) (F'.keep d o e), F'.above⟩
  refine ⟨m', hn.sameBut hs₂ hCL, fun h'' hs'' => R2 ys news' fin D h'' _ (F₂.change hs'' hCL hC₀) (fun p hp => ?_) o1⟩
  have z : h₂.get? p.1 = some p.2 := hs₂.extBut _ _ (N' p hp).2.1 (N' p hp).1
  refine ⟨hs''.extBut _ _ ?_ z, (N' p hp).2⟩
  rcases List.mem_cons.mp hp with rfl | hp
  · exact Ne.symm hCD
  · exact offC p hp
/-- the turns of a block with a test, told by a relation over a ledger that may grow -/
theorem ctt_rest {ct elt : PySem.Expr} {x : Str} {scope : Scope} {cl : List (Str × Addr)} {S : List (Addr × Obj) → Prop} {P : Nat → Value → Prop} {Fin : List Value → List (Addr × Obj) → Prop} {news : List (Addr × Obj)} {n : Nat} (J : Nat → List Value → List (Addr × Obj) → Prop)
    (turn : ∀ i v I oI C oC D m₂ ys nw h tk (E' : Value → Shared → Prop), i < n → P i v → J i ys nw → NsObj oC m₂ → m₂ x = some v → Fr h₀ L h m → News h₀ L h ((I, oI) :: (C, oC) :: (D, lst ys) :: nw) → Off3 I C D nw → ((@Ne Nat I C) ∧ (@Ne Nat I D) ∧ (@Ne Nat C D)) →
      wpAny (model prog w) A (isTrue ct (compEnvC scope cl C env) (eval ct (compEnvC scope cl C env))) (fun ok s' => if ok = true then
        wpAny (model prog w) A (eval elt (compEnvC scope cl C env)) (CompEnd h₀ L m { s with heap := h, toks := tk } I oI C oC D (lst ys) S (fun y nw' => J (i + 1) (ys ++ [y]) nw')) E' s'
        else CompEnd h₀ L m { s with heap := h, toks := tk } I oI C oC D (lst ys) S (fun _ nw' => J (i + 1) ys nw') Value.none s') E' { s with heap := h, toks := tk })
    (h0 : J 0 [] news) (fin : ∀ ys nw, J n ys nw → Fin ys nw) : LCt.CompRestT prog w A h₀ L m env ct elt x scope cl s S P Fin n 0 [] news := by
  have key : ∀ (j i : Nat) (ys : List Value) (nw : List (Addr × Obj)), i + j = n → J i ys nw → LCt.CompRestT prog w A h₀ L m env ct elt x scope cl s S P Fin j i ys nw := by
    intro j
    induction j with
    | zero =>
      intro i ys nw hi hJ
      have : i = n := by omega
      subst this
      exact LCt.CompRestT.zero (fin ys nw hJ)
    | succ j ih =>
      intro i ys nw hi hJ
      refine LCt.CompRestT.succ ?_
      intro v I oI C oC D m₂ h tk E' hv hC hx F N off ne
      refine wpAny_mono (turn i v I oI C oC D m₂ ys nw h tk E' (by omega) hv hJ hC hx F N off ne) (fun ok s₂ hq => ?_) fun _ _ e => e
      cases ok with
      | true =>
        simp only [if_true] at hq ⊢
        refine wpAny_mono hq (fun y s₃ hq => ?_) fun _ _ e => e
        obtain ⟨h', tk', nw', e, F', N', off', hS, hn⟩ := hq
        exact ⟨h', tk', nw', e, F', N', off', hS, ih (i + 1) _ _ (by omega) hn⟩
      | false =>
        simp only [Bool.false_eq_true, if_false] at hq ⊢
        obtain ⟨h', tk', nw', e, F', N', off', hS, hn⟩ := hq
        exact ⟨h', tk', nw', e, F', N', off', hS, ih (i + 1) _ _ (by omega) hn⟩
  exact key n 0 [] news (by omega) h0
end
end Mine
end
section
open PySem PySem.W PyProof.Rows PyProof.V PySem.Spec PySem.Calls
namespace Mine
local macro_rules | `(tactic| walk_at "no such key") => `(tactic| skip)
theorem calmW19 : True := by
  w_top off
  exact trivial
local macro_rules | `(tactic| walk_at "eval ListComp") => `(tactic| (refine Halt.out ?_))
local macro_rules | `(tactic| walk_at "exec If") => `(tactic| (refine Halt.out ?_))
local macro_rules | `(tactic| walk_at "CompSrcT") => `(tactic| (refine Halt.out ?_))
local macro_rules | `(tactic| walk_at "CompEnd") => `(tactic| (refine Halt.out ?_))
local macro_rules | `(tactic| walk_at "call ref") => `(tactic| (refine Halt.out ?_))
local macro_rules | `(tactic| walk_at "compareOp NotEq ref ref") => `(tactic| (refine Halt.out ?_))
local macro_rules | `(tactic| walk_at "compareOp Eq ref ref") => `(tactic| (refine Halt.out ?_))
local macro_rules | `(tactic| k_all) => `(tactic| (with_reducible assumption))
local macro_rules | `(tactic| k_all) => `(tactic| (refine' List.forall_mem_append.mpr ⟨?aa, ?ab⟩; (case aa => with_reducible assumption); (case ab => k_all)))
local macro_rules | `(tactic| k_ne) => `(tactic| (refine neN ?_; (try dsimp only); omega))
local macro_rules | `(tactic| size_fits) => `(tactic| (simp only [List.size_toArray, PySem.sizeLine_eq]; omega))
theorem row_at {W : List (Addr × Obj)} : ∀ {vs : List Value} {rows : List (Int × Int × Int)} {i : Nat} {v : Value}, DatAll W vs (rows.map rowD) → vs[i]? = some v →
    ∃ (r : Int × Int × Int) (d : Addr) (n : Nat) (ta tb tc : Tok), rows[i]? = some r ∧ v = .ref d ∧ (d, tupO [.int r.1 ta, .int r.2.1 tb, .int r.2.2 tc] n) ∈ W
  | [], [], _, _, _, h => by simp at h
  | _ :: _, [], _, _, h, _ => by cases h
  | [], _ :: _, _, _, h, _ => by cases h
  | v' :: vs, r :: rows, 0, v, h, e => by
    cases h with
    | cons h1 h2 =>
      simp at e
      subst e
      cases h1 with
      | tuple hm hd =>
        cases hd with
        | cons g1 hd =>
          cases hd with
          | cons g2 hd =>
            cases hd with
            | cons g3 hd =>
              cases hd with
              | nil =>
                cases g1
                cases g2
                cases g3
                exact ⟨r, _, _, _, _, _, rfl, rfl, hm⟩
  | v' :: vs, r :: rows, i + 1, v, h, e => by
    cases h with
    | cons h1 h2 =>
      obtain ⟨r', d, n, ta, tb, tc, e1, e2, e3⟩ := row_at h2 (by simpa using e)
      exact ⟨r', d, n, ta, tb, tc, by simpa using e1, e2, e3⟩
theorem ok_rows {rows : List (Int × Int × Int)} : ∀ d ∈ rows.map rowD, kqdOk 8 d = true := by
  intro d hd
  obtain ⟨r, _, rfl⟩ := List.mem_map.mp hd
  rfl
theorem filt_yes {W : List (Addr × Obj)} {ys : List Value} {rows : List (Int × Int × Int)} {f : Int × Int × Int → Bool} {i n : Nat} {r : Int × Int × Int} {d : Addr} {ta tb tc : Tok} (h : DatAll W ys (((rows.take i).filter f).map rowD)) (e : rows[i]? = some r) (hf : f r = true) (hm : (d, tupO [.int r.1 ta, .int r.2.1 tb, .int r.2.2 tc] n) ∈ W) :
    DatAll W (ys ++ [.ref d]) (((rows.take (i + 1)).filter f).map rowD) := by
  rw [List.take_add_one, e]
  simp only [Option.toList_some, List.filter_append, List.filter_cons_of_pos hf, List.filter_nil, List.map_append, List.map_cons, List.map_nil]
  exact h.append (.one (.tuple hm (.cons (.int _ _) (.cons (.int _ _) (.cons (.int _ _) .nil)))))
theorem filt_no {W : List (Addr × Obj)} {ys : List Value} {rows : List (Int × Int × Int)} {f : Int × Int × Int → Bool} {i : Nat} {r : Int × Int × Int} (h : DatAll W ys (((rows.take i).filter f).map rowD)) (e : rows[i]? = some r) (hf : ¬ f r = true) :
    DatAll W ys (((rows.take (i + 1)).filter f).map rowD) := by
  rw [List.take_add_one, e]
  simp only [Option.toList_some, List.filter_append, List.filter_cons_of_neg hf, List.filter_nil, List.append_nil]
  exact h
/-- what a filter of rows keeps from turn to turn -/
def FiltJ (base W : List (Addr × Obj)) (rows : List (Int × Int × Int)) (f : Int × Int × Int → Bool) (i : Nat) (ys : List Value) (nw : List (Addr × Obj)) : Prop := nw = base ∧ DatAll W ys (((rows.take i).filter f).map rowD)
def neR (r : Int × Int × Int) : Bool := decide (r.2.1 ≠ r.2.2)
def geR (r : Int × Int × Int) : Bool := decide (r.2.1 ≥ r.2.2)
def leR (r : Int × Int × Int) : Bool := decide (r.2.2 ≥ r.2.1)
theorem rows_of {bg st sp t0 t1 : Int} {W : List (Addr × Obj)} {vc vw : List Value} (bst : 1 ≤ st ∧ st ≤ 6) (bsp : 1 ≤ sp ∧ sp ≤ 3) (bt0 : 0 ≤ t0 ∧ t0 ≤ 2) (bt1 : 0 ≤ t1 ∧ t1 ≤ 2) (hbg : bg = 0 ∨ bg = 1) (hc : DatAll W vc ((colsL bg st sp t0 t1).map rowD)) (hw : DatAll W vw ((witW (wordL bg) st sp t0 t1).map rowD)) :
    ∃ rows, (rows = colsL bg st sp t0 t1 ∧ True) ∧ vc.length = rows.length ∧ rows.length ≤ 60 ∧ DatAll W vc (rows.map rowD) ∧ DatAll W vw ((rows.filter neR).map rowD) := by
  have q1 := (law_facts bst bsp bt0 bt1 hbg).1
  refine ⟨_, ⟨rfl, trivial⟩, ?_, ?_, hc, ?_⟩
  · have := hc.length
    rwa [List.length_map] at this
  · unfold colsL
    rw [List.length_map, List.length_range]
    omega
  · rw [q1] at hw
    exact hw
section
variable {prog : Program} {w : World} {A : Around} {E : Value → Shared → Prop} {s : Shared} {h₀ : Heap} {L a b : Addr} {news n₁ n₂ : List (Addr × Obj)} {oa ob : Obj} {xs ys : List Value} {ka kb : Nat} {ds es : List Dat} {Q : Value → Shared → Prop}
/-- two lists that hold the same -/
theorem ne_same (N : News h₀ L s.heap news) (ma : (a, oa) ∈ news) (ca : oa.cls = .type "list") (da : oa.data = .seq xs.toArray ka) (Da : DatAll n₁ xs ds) (sa : ∀ p ∈ n₁, p ∈ news)
    (mb : (b, ob) ∈ news) (cb : ob.cls = .type "list") (db : ob.data = .seq ys.toArray kb) (Db : DatAll n₂ ys es) (sb : ∀ p ∈ n₂, p ∈ news)
    (ha : ∀ d ∈ ds, kqdOk 8 d = true) (hb : ∀ d ∈ es, kqdOk 8 d = true) (hu : A.units + 64 < cLine) (e : ds = es) (h : Q (.bool false) s) : wpAny (model prog w) A (compareOp .NotEq (.ref a) (.ref b)) Q E s :=
  kqd_ne N ma ca da Da sa mb cb db Db sb ha hb hu (by simpa [e] using h)
open Classical in
/-- two lists, equal or not -/
theorem eq_bool (N : News h₀ L s.heap news) (ma : (a, oa) ∈ news) (ca : oa.cls = .type "list") (da : oa.data = .seq xs.toArray ka) (Da : DatAll n₁ xs ds) (sa : ∀ p ∈ n₁, p ∈ news)
    (mb : (b, ob) ∈ news) (cb : ob.cls = .type "list") (db : ob.data = .seq ys.toArray kb) (Db : DatAll n₂ ys es) (sb : ∀ p ∈ n₂, p ∈ news)
    (ha : ∀ d ∈ ds, kqdOk 8 d = true) (hb : ∀ d ∈ es, kqdOk 8 d = true) (hu : A.units + 64 < cLine) (r : Bool) (e : r = true ↔ ds = es) (h : Q (.bool r) s) : wpAny (model prog w) A (compareOp .Eq (.ref a) (.ref b)) Q E s :=
  kqd_eq N ma ca da Da sa mb cb db Db sb ha hb hu (by
    have q : decide (ds = es) = r := by rw [Bool.eq_iff_iff, decide_eq_true_iff]; exact e.symm
    rw [q]
    exact h)
end
theorem mem6 {a b c d e f g x : Addr × Obj} {W : List (Addr × Obj)} (h : x ∈ W) : x ∈ g :: a :: b :: c :: d :: e :: f :: W := .tail _ (.tail _ (.tail _ (.tail _ (.tail _ (.tail _ (.tail _ h))))))
theorem news_front {g h : Heap} {L : Addr} {news : List (Addr × Obj)} {a : Addr × Obj} (N : News g L h news) (ha : a ∈ news) : News g L h (a :: news) := fun p hp => by
  rcases List.mem_cons.mp hp with rfl | hp
  · exact N _ ha
  · exact N p hp
set_option maxRecDepth 100000 in
set_option maxHeartbeats 8000000 in
noncomputable def LawG : { G : World → Shared → Addr → Addr → Shared → Prop // (∀ w s₁ fa a13 s', StF w s₁ s' → G w s₁ fa a13 s') → ∀ w s₁ fa a13 s', StF w s₁ s' → RF.1 w s₁ fa a13 s' } := by
  refine ⟨?G, ?h⟩
  case h =>
  intro r w s₁ fa a13 s' hD
  dsimp only [RF]
  obtain ⟨mg, mb, p, loose, mean, u, bg, st, sp, t0, t1, x0, x1, lW, lC, lT, o6, ot, os, c6, te, tf, tsp, vw, vc, cw, W, X, T, B, hos, hbare, w0, w1, F, N, hw, hc, d6, dt, dsp, n1, bst, bsp, bt0, bt1, hbg⟩ := hD
  obtain ⟨rows, er, hlen, hlc, hc, hw⟩ := rows_of bst bsp bt0 bt1 hbg hc hw
  revert X
  k_fill
  intro X
  refine wpAny_If ?_
  k_steps
  unfold Halt
  k_dflt (refine LCt.ListComp_T (F₀ := by k_asm) (by with_unfolding_all rfl) (by decide) (by rfl) (by decide) (by rfl) ?_)
  k_steps
  unfold Halt
  refine LCt.CompSrcT.ledger (its := vc.toArray) (by rfl) (by k_asm) N (.tail _ (.head _)) (by rw [PySem.sizeLine_eq, List.size_toArray]; omega) ?_
  intro g4
  refine ctt_rest (FiltJ _ W rows neR) ?_ ⟨rfl, .nil⟩ ?_
  · rintro i v I oI C oC D m₂ ys nw h3 tk3 E3 hkn hv ⟨rfl, hys⟩ hC hx3 F3 N3 off3 ne3
    obtain ⟨rr, d, nn, ta, tb, tc, hr, rfl, hmr⟩ := row_at hc (by simpa using hv)
    replace N3 : News _ _ _ ((d, tupO [.int rr.1 ta, .int rr.2.1 tb, .int rr.2.2 tc] nn) :: _) := news_front N3 (.tail _ (.tail _ (.tail _ (.tail _ (.tail _ (.tail _ (.tail _ (.tail _ (.tail _ hmr)))))))))
    dsimp only
    k_steps
    all_goals unfold Halt
    · exact LCg.CompEnd.intro F3 N3 _ (fun p hp => .tail _ hp) off3 (.inr ⟨_, .tail _ (.head _), rfl, _, rfl⟩) ⟨rfl, filt_yes hys hr (decide_eq_true (by assumption : rr.2.1 ≠ rr.2.2)) hmr⟩
    · exact LCg.CompEnd.intro F3 N3 _ (fun p hp => .tail _ hp) off3 (.inr ⟨_, .tail _ (.head _), rfl, _, rfl⟩) ⟨rfl, filt_no hys hr (by unfold neR; simpa using (by assumption : rr.2.1 = rr.2.2))⟩
  · rintro ys nw ⟨rfl, hys⟩
    rw [List.size_toArray, hlen, List.take_length] at hys
    unfold LCg.FinE
    intro D9 h9 tk9 F9 N9 o9
    dsimp only
    k_steps
    unfold Halt
    refine ne_same N9 (.tail _ (.head _)) rfl rfl hw (fun _ h => mem6 h) (.head _) rfl rfl hys (fun _ h => mem6 h) ok_rows ok_rows (by ke_room) rfl ?_
    k_steps
    unfold Halt
    generalize eS : Shared.mk _ _ _ _ _ = s4
    have hF : StF w s₁ s4 := by
      subst eS
      obtain ⟨er, -⟩ := er
      subst er
      have q1 : _ = (colsL bg st sp t0 t1).filter neR := (law_facts bst bsp bt0 bt1 hbg).1
      exact ⟨mg, mb, p, loose, mean, _, bg, st, sp, t0, t1, x0, x1, lW, lC, lT, o6, ot, os, c6, te, tf, tsp, vw, vc, cw, W, X, T, B, hos, hbare, w0, w1, F9, news_tl N9, (by rw [q1]; exact hw), hc, d6, dt, dsp, n1, bst, bsp, bt0, bt1, hbg⟩
    exact r w s₁ fa a13 s4 hF
end Mine
end
section
open PySem PySem.W PyProof.Rows PyProof.V PySem.Spec PySem.Calls
namespace Mine
theorem calmW20 : True := by
  w_top off
  exact trivial
local macro_rules | `(tactic| walk_at "eval ListComp") => `(tactic| (refine Halt.out ?_))
local macro_rules | `(tactic| walk_at "exec If") => `(tactic| (refine Halt.out ?_))
local macro_rules | `(tactic| walk_at "CompSrcT") => `(tactic| (refine Halt.out ?_))
local macro_rules | `(tactic| walk_at "CompEnd") => `(tactic| (refine Halt.out ?_))
local macro_rules | `(tactic| walk_at "call ref") => `(tactic| (refine Halt.out ?_))
local macro_rules | `(tactic| walk_at "compareOp NotEq ref ref") => `(tactic| (refine Halt.out ?_))
local macro_rules | `(tactic| walk_at "compareOp Eq ref ref") => `(tactic| (refine Halt.out ?_))
local macro_rules | `(tactic| k_all) => `(tactic| (with_reducible assumption))
local macro_rules | `(tactic| k_all) => `(tactic| (refine' List.forall_mem_append.mpr ⟨?aa, ?ab⟩; (case aa => with_reducible assumption); (case ab => k_all)))
local macro_rules | `(tactic| k_ne) => `(tactic| (refine neN ?_; (try dsimp only); omega))
local macro_rules | `(tactic| size_fits) => `(tactic| (simp only [List.size_toArray, PySem.sizeLine_eq]; omega))
theorem mem10 {a b c d e f x : Addr × Obj} {p q r s : Addr × Obj} {W : List (Addr × Obj)} (h : x ∈ W) : x ∈ p :: q :: r :: s :: a :: b :: c :: d :: e :: f :: W := .tail _ (.tail _ (.tail _ (.tail _ (.tail _ (.tail _ (.tail _ (.tail _ (.tail _ (.tail _ h)))))))))
theorem news_four {g h : Heap} {L : Addr} {news W : List (Addr × Obj)} {a b c d : Addr × Obj} (N : News g L h news) (hW : ∀ q ∈ W, q ∈ news) (ha : a ∈ W) (hb : b ∈ W) (hc : c ∈ W) (hd : d ∈ W) : News g L h (a :: b :: c :: d :: news) := fun p hp => N p (by
  simp only [List.mem_cons] at hp
  rcases hp with rfl | rfl | rfl | rfl | hp
  · exact hW _ ha
  · exact hW _ hb
  · exact hW _ hc
  · exact hW _ hd
  · exact hp)
theorem mem6' {a b c d e f : Addr × Obj} {W : List (Addr × Obj)} : ∀ x ∈ W, x ∈ a :: b :: c :: d :: e :: f :: W := fun _ h => .tail _ (.tail _ (.tail _ (.tail _ (.tail _ (.tail _ h)))))
/-- the bounds of the leads, without law's numbers -/
theorem leads_ok {bg st sp t0 t1 : Int} {W : List (Addr × Obj)} {x0 x1 : Addr} (bst : 1 ≤ st ∧ st ≤ 6) (bsp : 1 ≤ sp ∧ sp ≤ 3) (bt0 : 0 ≤ t0 ∧ t0 ≤ 2) (bt1 : 0 ≤ t1 ∧ t1 ≤ 2) (hbg : bg = 0 ∨ bg = 1) (w0 : Ws W x0 (pxO 104 (wordL bg) st sp t0)) (w1 : Ws W x1 (pxO 112 (wordL bg) st sp t1)) :
    ∃ px py, (px = pxO 104 (wordL bg) st sp t0 ∧ py = pxO 112 (wordL bg) st sp t1) ∧ (px.Ok ∧ ¬ (px.ns.length : Int) ≤ 1) ∧ (py.Ok ∧ ¬ (py.ns.length : Int) ≤ 1) ∧ Ws W x0 px ∧ Ws W x1 py := by
  obtain ⟨-, -, -, -, -, o0, o1⟩ := law_facts bst bsp bt0 bt1 hbg
  exact ⟨_, _, ⟨rfl, rfl⟩, o0, o1, w0, w1⟩
theorem less_01 {bg st sp t0 t1 : Int} {rows : List (Int × Int × Int)} {px py : PS} (bst : 1 ≤ st ∧ st ≤ 6) (bsp : 1 ≤ sp ∧ sp ≤ 3) (bt0 : 0 ≤ t0 ∧ t0 ≤ 2) (bt1 : 0 ≤ t1 ∧ t1 ≤ 2) (hbg : bg = 0 ∨ bg = 1) (er : rows = colsL bg st sp t0 t1) (ex : px = pxO 104 (wordL bg) st sp t0) (ey : py = pxO 112 (wordL bg) st sp t1) :
    lessP px py = true ↔ (rows.filter geR).map rowD = [] := by
  have q : _ = ((colsL bg st sp t0 t1).filter geR).isEmpty := (law_facts bst bsp bt0 bt1 hbg).2.1
  rw [ex, ey, er, q, List.isEmpty_iff, List.map_eq_nil_iff]
theorem less_10 {bg st sp t0 t1 : Int} {rows : List (Int × Int × Int)} {px py : PS} (bst : 1 ≤ st ∧ st ≤ 6) (bsp : 1 ≤ sp ∧ sp ≤ 3) (bt0 : 0 ≤ t0 ∧ t0 ≤ 2) (bt1 : 0 ≤ t1 ∧ t1 ≤ 2) (hbg : bg = 0 ∨ bg = 1) (er : rows = colsL bg st sp t0 t1) (ex : px = pxO 104 (wordL bg) st sp t0) (ey : py = pxO 112 (wordL bg) st sp t1) :
    lessP py px = true ↔ (rows.filter leR).map rowD = [] := by
  have q : _ = ((colsL bg st sp t0 t1).filter leR).isEmpty := (law_facts bst bsp bt0 bt1 hbg).2.2.1
  rw [ex, ey, er, q, List.isEmpty_iff, List.map_eq_nil_iff]
theorem less_eq {bg st sp t0 t1 : Int} {px py : PS} (bst : 1 ≤ st ∧ st ≤ 6) (bsp : 1 ≤ sp ∧ sp ≤ 3) (bt0 : 0 ≤ t0 ∧ t0 ≤ 2) (bt1 : 0 ≤ t1 ∧ t1 ≤ 2) (hbg : bg = 0 ∨ bg = 1) (ex : px = pxO 104 (wordL bg) st sp t0) (ey : py = pxO 112 (wordL bg) st sp t1) :
    decide (px.ns = py.ns ∧ px.b = py.b) = false := by
  have q := (law_facts bst bsp bt0 bt1 hbg).2.2.2.1
  rw [ex, ey]
  exact decide_eq_false q
set_option maxRecDepth 100000 in
set_option maxHeartbeats 8000000 in
noncomputable def LawH : { G : World → Shared → Addr → Addr → Shared → Prop // (∀ w s₁ fa a13 s', StF w s₁ s' → G w s₁ fa a13 s') → ∀ w s₁ fa a13 s', StF w s₁ s' → LawG.1 w s₁ fa a13 s' } := by
  refine ⟨?G, ?h⟩
  case h =>
  intro r w s₁ fa a13 s' hD
  dsimp only [LawG]
  obtain ⟨mg, mb, p, loose, mean, u, bg, st, sp, t0, t1, x0, x1, lW, lC, lT, o6, ot, os, c6, te, tf, tsp, vw, vc, cw, W, X, T, B, hos, hbare, w0, w1, F, N, hw, hc, d6, dt, dsp, n1, bst, bsp, bt0, bt1, hbg⟩ := hD
  have hrs := rows_of bst bsp bt0 bt1 hbg hc hw
  clear hc hw
  obtain ⟨rows, er, hlen, hlc, hc, hw⟩ := hrs
  have hls := leads_ok bst bsp bt0 bt1 hbg w0 w1
  clear w0 w1
  obtain ⟨px, py, ep, ⟨ok0, ns0⟩, ⟨ok1, ns1⟩, w0, w1⟩ := hls
  obtain ⟨dx, nm, ct, h1, th1, v1', h2, th2, u2, h3, th3, u3, h4, th4, h5, th5, cnt, tb, nn1, nn2, m1, m2, m3, m4, hi⟩ := id w0
  obtain ⟨dx', nm', ct', h1', th1', v1'', h2', th2', u2', h3', th3', u3', h4', th4', h5', th5', cnt', tb', nn1', nn2', m1', m2', m3', m4', hi'⟩ := id w1
  replace N := news_four N mem6' m1 m2 m1' m2'
  revert X
  k_fill
  intro X
  refine wpAny_If ?_
  k_steps
  unfold Halt
  k_dflt (refine' c_less _ _ _ _ _ _ _ _ _ _ _ _ _ _ _ _ _ x0 x1 px py _ ?gB ?gF ?gX ?gN ?gw0 ?gw1 ?gT rfl ok0 ok1 ns0 ?g1 ?g2 ?_; (case gB => k_asm); (case gF => k_asm); (case gX => assumption); (case gN => k_asm); (case gw0 => exact w0.mono fun q hq => mem10 hq); (case gw1 => exact w1.mono fun q hq => mem10 hq); (case gT => assumption); (case g1 => exact Nat.le_of_ble_eq_true rfl); (case g2 => exact Nat.le_of_ble_eq_true rfl))
  intro h9 tk9 F9 N9
  clear N
  k_steps
  unfold Halt
  k_dflt (refine LCt.ListComp_T (F₀ := by k_asm) (by with_unfolding_all rfl) (by decide) (by rfl) (by decide) (by rfl) ?_)
  k_steps
  unfold Halt
  refine LCt.CompSrcT.ledger (its := vc.toArray) (by rfl) (by k_asm) N9 (.tail _ (.tail _ (.tail _ (.tail _ (.tail _ (.head _)))))) (by rw [PySem.sizeLine_eq, List.size_toArray]; omega) ?_
  intro g4
  refine ctt_rest (FiltJ _ W rows geR) ?_ ⟨rfl, .nil⟩ ?_
  · rintro i v I oI C oC D m₂ ys nw h3 tk3 E3 hkn hv ⟨rfl, hys⟩ hC hx3 F3 N3 off3 ne3
    obtain ⟨rr, d, nn, ta, tb, tc, hr, rfl, hmr⟩ := row_at hc (by simpa using hv)
    replace N3 : News _ _ _ ((d, tupO [.int rr.1 ta, .int rr.2.1 tb, .int rr.2.2 tc] nn) :: _) := news_front N3 (.tail _ (.tail _ (.tail _ (mem10 hmr))))
    dsimp only
    k_steps
    all_goals unfold Halt
    · exact LCg.CompEnd.intro F3 N3 _ (fun p hp => .tail _ hp) off3 (.inr ⟨_, .tail _ (.tail _ (.tail _ (.tail _ (.tail _ (.head _))))), rfl, _, rfl⟩) ⟨rfl, filt_yes hys hr (decide_eq_true (by assumption : rr.2.1 ≥ rr.2.2)) hmr⟩
    · exact LCg.CompEnd.intro F3 N3 _ (fun p hp => .tail _ hp) off3 (.inr ⟨_, .tail _ (.tail _ (.tail _ (.tail _ (.tail _ (.head _))))), rfl, _, rfl⟩) ⟨rfl, filt_no hys hr (by unfold geR; rw [decide_eq_true_eq]; exact (by omega : ¬ rr.2.1 ≥ rr.2.2))⟩
  · rintro ys nw ⟨rfl, hys⟩
    rw [List.size_toArray, hlen, List.take_length] at hys
    unfold LCg.FinE
    intro D9 h9 tk9 F9 N9 o9
    dsimp only
    k_steps
    unfold Halt
    rename News _ _ _ ((_, LCg.lst _) :: _) => N8
    rename Fr _ _ _ (fun y => if y = Str.ofString "told" then _ else _) => F8
    have hfact := less_01 bst bsp bt0 bt1 hbg er.1 ep.1 ep.2
    refine eq_bool (ds := (rows.filter geR).map rowD) (es := []) (n₂ := []) N8 (.tail _ (.head _)) rfl rfl hys (fun _ h => .tail _ (.tail _ (mem10 h))) (.head _) rfl rfl .nil (fun _ h => absurd h List.not_mem_nil) ok_rows (fun _ h => absurd h List.not_mem_nil) (by ke_room) (lessP px py) hfact ?_
    clear hfact
    generalize lessP px py = bb
    have hfin : ∀ s4 : Shared, s4.os = s'.os → s4.gens = s'.gens → Fr s₁.heap s₁.heap.objs.size s4.heap (fun y => if y = Str.ofString "told" then some (.ref lW) else if y = Str.ofString "columns" then some (.ref lC) else if y = Str.ofString "two" then some (.ref x1) else if y = Str.ofString "one" then some (.ref x0) else u y) →
        News s₁.heap s₁.heap.objs.size s4.heap ((lW, listOf vw.toArray cw) :: (lC, LCg.lst vc) :: (lT, listOf #[.int t0 te, .int t1 tf] 0) :: (s₁.heap.objs.size + 1 + 1 + 1 + 1 + 1 + 1, o6) :: (s₁.heap.objs.size + 1 + 1 + 1 + 1, ot) :: (s₁.heap.objs.size + 1 + 1 + 1, os) :: W) → StF w s₁ s4 := by
      intro s4 e1 e2 F4 N4
      obtain ⟨er, -⟩ := er
      subst er
      obtain ⟨rfl, rfl⟩ := ep
      have q1 : _ = (colsL bg st sp t0 t1).filter neR := (law_facts bst bsp bt0 bt1 hbg).1
      exact ⟨mg, mb, p, loose, mean, _, bg, st, sp, t0, t1, x0, x1, lW, lC, lT, o6, ot, os, c6, te, tf, tsp, vw, vc, cw, W, X, T, B, e1.trans hos, (by rw [e2]; exact hbare), w0, w1, F4, N4, (by rw [q1]; exact hw), hc, d6, dt, dsp, n1, bst, bsp, bt0, bt1, hbg⟩
    have N7 := news_sub N8 (fun _ h => .tail _ (.tail _ (.tail _ (.tail _ (.tail _ (.tail _ h))))))
    cases bb
    all_goals (
      k_steps
      unfold Halt
      generalize eS : Shared.mk _ _ _ _ _ = s4
      have hF : StF w s₁ s4 := by
        subst eS
        exact hfin _ rfl rfl F8 N7
      exact r w s₁ fa a13 s4 hF)
set_option maxRecDepth 100000 in
set_option maxHeartbeats 8000000 in
noncomputable def LawI : { G : World → Shared → Addr → Addr → Shared → Prop // (∀ w s₁ fa a13 s', StF w s₁ s' → G w s₁ fa a13 s') → ∀ w s₁ fa a13 s', StF w s₁ s' → LawH.1 w s₁ fa a13 s' } := by
  refine ⟨?G, ?h⟩
  case h =>
  intro r w s₁ fa a13 s' hD
  dsimp only [LawH]
  obtain ⟨mg, mb, p, loose, mean, u, bg, st, sp, t0, t1, x0, x1, lW, lC, lT, o6, ot, os, c6, te, tf, tsp, vw, vc, cw, W, X, T, B, hos, hbare, w0, w1, F, N, hw, hc, d6, dt, dsp, n1, bst, bsp, bt0, bt1, hbg⟩ := hD
  have hrs := rows_of bst bsp bt0 bt1 hbg hc hw
  clear hc hw
  obtain ⟨rows, er, hlen, hlc, hc, hw⟩ := hrs
  have hls := leads_ok bst bsp bt0 bt1 hbg w0 w1
  clear w0 w1
  obtain ⟨px, py, ep, ⟨ok0, ns0⟩, ⟨ok1, ns1⟩, w0, w1⟩ := hls
  obtain ⟨dx, nm, ct, h1, th1, v1', h2, th2, u2, h3, th3, u3, h4, th4, h5, th5, cnt, tb, nn1, nn2, m1, m2, m3, m4, hi⟩ := id w0
  obtain ⟨dx', nm', ct', h1', th1', v1'', h2', th2', u2', h3', th3', u3', h4', th4', h5', th5', cnt', tb', nn1', nn2', m1', m2', m3', m4', hi'⟩ := id w1
  replace N := news_four N mem6' m1 m2 m1' m2'
  revert X
  k_fill
  intro X
  refine wpAny_If ?_
  k_steps
  unfold Halt
  k_dflt (refine' c_less _ _ _ _ _ _ _ _ _ _ _ _ _ _ _ _ _ x1 x0 py px _ ?gB ?gF ?gX ?gN ?gw0 ?gw1 ?gT rfl ok1 ok0 ns1 ?g1 ?g2 ?_; (case gB => k_asm); (case gF => k_asm); (case gX => assumption); (case gN => k_asm); (case gw0 => exact w1.mono fun q hq => mem10 hq); (case gw1 => exact w0.mono fun q hq => mem10 hq); (case gT => assumption); (case g1 => exact Nat.le_of_ble_eq_true rfl); (case g2 => exact Nat.le_of_ble_eq_true rfl))
  intro h9 tk9 F9 N9
  clear N
  k_steps
  unfold Halt
  k_dflt (refine LCt.ListComp_T (F₀ := by k_asm) (by with_unfolding_all rfl) (by decide) (by rfl) (by decide) (by rfl) ?_)
  k_steps
  unfold Halt
  refine LCt.CompSrcT.ledger (its := vc.toArray) (by rfl) (by k_asm) N9 (.tail _ (.tail _ (.tail _ (.tail _ (.tail _ (.head _)))))) (by rw [PySem.sizeLine_eq, List.size_toArray]; omega) ?_
  intro g4
  refine ctt_rest (FiltJ _ W rows leR) ?_ ⟨rfl, .nil⟩ ?_
  · rintro i v I oI C oC D m₂ ys nw h3 tk3 E3 hkn hv ⟨rfl, hys⟩ hC hx3 F3 N3 off3 ne3
    obtain ⟨rr, d, nn, ta, tb, tc, hr, rfl, hmr⟩ := row_at hc (by simpa using hv)
    replace N3 : News _ _ _ ((d, tupO [.int rr.1 ta, .int rr.2.1 tb, .int rr.2.2 tc] nn) :: _) := news_front N3 (.tail _ (.tail _ (.tail _ (mem10 hmr))))
    dsimp only
    k_steps
    all_goals unfold Halt
    · exact LCg.CompEnd.intro F3 N3 _ (fun p hp => .tail _ hp) off3 (.inr ⟨_, .tail _ (.tail _ (.tail _ (.tail _ (.tail _ (.head _))))), rfl, _, rfl⟩) ⟨rfl, filt_yes hys hr (decide_eq_true (by assumption : rr.2.2 ≥ rr.2.1)) hmr⟩
    · exact LCg.CompEnd.intro F3 N3 _ (fun p hp => .tail _ hp) off3 (.inr ⟨_, .tail _ (.tail _ (.tail _ (.tail _ (.tail _ (.head _))))), rfl, _, rfl⟩) ⟨rfl, filt_no hys hr (by unfold leR; rw [decide_eq_true_eq]; exact (by omega : ¬ rr.2.2 ≥ rr.2.1))⟩
  · rintro ys nw ⟨rfl, hys⟩
    rw [List.size_toArray, hlen, List.take_length] at hys
    unfold LCg.FinE
    intro D9 h9 tk9 F9 N9 o9
    dsimp only
    k_steps
    unfold Halt
    rename News _ _ _ ((_, LCg.lst _) :: _) => N8
    rename Fr _ _ _ (fun y => if y = Str.ofString "told" then _ else _) => F8
    have hfact := less_10 bst bsp bt0 bt1 hbg er.1 ep.1 ep.2
    refine eq_bool (ds := (rows.filter leR).map rowD) (es := []) (n₂ := []) N8 (.tail _ (.head _)) rfl rfl hys (fun _ h => .tail _ (.tail _ (mem10 h))) (.head _) rfl rfl .nil (fun _ h => absurd h List.not_mem_nil) ok_rows (fun _ h => absurd h List.not_mem_nil) (by ke_room) (lessP py px) hfact ?_
    clear hfact
    generalize lessP py px = bb
    have hfin : ∀ s4 : Shared, s4.os = s'.os → s4.gens = s'.gens → Fr s₁.heap s₁.heap.objs.size s4.heap (fun y => if y = Str.ofString "told" then some (.ref lW) else if y = Str.ofString "columns" then some (.ref lC) else if y = Str.ofString "two" then some (.ref x1) else if y = Str.ofString "one" then some (.ref x0) else u y) →
        News s₁.heap s₁.heap.objs.size s4.heap ((lW, listOf vw.toArray cw) :: (lC, LCg.lst vc) :: (lT, listOf #[.int t0 te, .int t1 tf] 0) :: (s₁.heap.objs.size + 1 + 1 + 1 + 1 + 1 + 1, o6) :: (s₁.heap.objs.size + 1 + 1 + 1 + 1, ot) :: (s₁.heap.objs.size + 1 + 1 + 1, os) :: W) → StF w s₁ s4 := by
      intro s4 e1 e2 F4 N4
      obtain ⟨er, -⟩ := er
      subst er
      obtain ⟨rfl, rfl⟩ := ep
      have q1 : _ = (colsL bg st sp t0 t1).filter neR := (law_facts bst bsp bt0 bt1 hbg).1
      exact ⟨mg, mb, p, loose, mean, _, bg, st, sp, t0, t1, x0, x1, lW, lC, lT, o6, ot, os, c6, te, tf, tsp, vw, vc, cw, W, X, T, B, e1.trans hos, (by rw [e2]; exact hbare), w0, w1, F4, N4, (by rw [q1]; exact hw), hc, d6, dt, dsp, n1, bst, bsp, bt0, bt1, hbg⟩
    have N7 := news_sub N8 (fun _ h => .tail _ (.tail _ (.tail _ (.tail _ (.tail _ (.tail _ h))))))
    cases bb
    all_goals (
      k_steps
      unfold Halt
      generalize eS : Shared.mk _ _ _ _ _ = s4
      have hF : StF w s₁ s4 := by
        subst eS
        exact hfin _ rfl rfl F8 N7
      exact r w s₁ fa a13 s4 hF)
end Mine
end
section
open PySem PySem.W PyProof.Rows PyProof.V PySem.Spec PySem.Calls
namespace Mine
theorem calmW21 : True := by
  w_top off
  exact trivial
local macro_rules | `(tactic| walk_at "eval ListComp") => `(tactic| (refine Halt.out ?_))
local macro_rules | `(tactic| walk_at "exec Assign cons ListComp") => `(tactic| (refine Halt.out ?_))
local macro_rules | `(tactic| walk_at "exec If") => `(tactic| (refine Halt.out ?_))
local macro_rules | `(tactic| walk_at "CompSrcT") => `(tactic| (refine Halt.out ?_))
local macro_rules | `(tactic| walk_at "CompEnd") => `(tactic| (refine Halt.out ?_))
local macro_rules | `(tactic| walk_at "call ref") => `(tactic| (refine Halt.out ?_))
local macro_rules | `(tactic| walk_at "compareOp NotEq ref ref") => `(tactic| (refine Halt.out ?_))
local macro_rules | `(tactic| walk_at "compareOp Eq ref ref") => `(tactic| (refine Halt.out ?_))
local macro_rules | `(tactic| k_all) => `(tactic| (with_reducible assumption))
local macro_rules | `(tactic| k_all) => `(tactic| (refine' List.forall_mem_append.mpr ⟨?aa, ?ab⟩; (case aa => with_reducible assumption); (case ab => k_all)))
local macro_rules | `(tactic| k_ne) => `(tactic| (refine neN ?_; (try dsimp only); omega))
local macro_rules | `(tactic| size_fits) => `(tactic| (simp only [List.size_toArray, PySem.sizeLine_eq]; omega))
set_option maxRecDepth 100000 in
set_option maxHeartbeats 8000000 in
noncomputable def LawJ : { G : World → Shared → Addr → Addr → Shared → Prop // (∀ w s₁ fa a13 s', StF w s₁ s' → G w s₁ fa a13 s') → ∀ w s₁ fa a13 s', StF w s₁ s' → LawI.1 w s₁ fa a13 s' } := by
  refine ⟨?G, ?h⟩
  case h =>
  intro r w s₁ fa a13 s' hD
  dsimp only [LawI]
  obtain ⟨mg, mb, p, loose, mean, u, bg, st, sp, t0, t1, x0, x1, lW, lC, lT, o6, ot, os, c6, te, tf, tsp, vw, vc, cw, W, X, T, B, hos, hbare, w0, w1, F, N, hw, hc, d6, dt, dsp, n1, bst, bsp, bt0, bt1, hbg⟩ := hD
  have hrs := rows_of bst bsp bt0 bt1 hbg hc hw
  clear hc hw
  obtain ⟨rows, er, hlen, hlc, hc, hw⟩ := hrs
  have hls := leads_ok bst bsp bt0 bt1 hbg w0 w1
  clear w0 w1
  obtain ⟨px, py, ep, ⟨ok0, ns0⟩, ⟨ok1, ns1⟩, w0, w1⟩ := hls
  obtain ⟨dx, nm, ct, h1, th1, v1', h2, th2, u2, h3, th3, u3, h4, th4, h5, th5, cnt, tb, nn1, nn2, m1, m2, m3, m4, hi⟩ := id w0
  obtain ⟨dx', nm', ct', h1', th1', v1'', h2', th2', u2', h3', th3', u3', h4', th4', h5', th5', cnt', tb', nn1', nn2', m1', m2', m3', m4', hi'⟩ := id w1
  replace N := news_four N mem6' m1 m2 m1' m2'
  revert X
  k_fill
  intro X
  refine wpAny_If ?_
  k_steps
  unfold Halt
  k_dflt (refine' c_equal _ _ _ _ _ _ _ _ _ _ _ _ _ _ _ _ _ x0 x1 px py _ ?gB ?gF ?gX ?gN ?gw0 ?gw1 ?gT rfl  ?g1 ?g2 ?_; (case gB => k_asm); (case gF => k_asm); (case gX => assumption); (case gN => k_asm); (case gw0 => exact w0.mono fun q hq => mem10 hq); (case gw1 => exact w1.mono fun q hq => mem10 hq); (case gT => assumption); (case g1 => exact Nat.le_of_ble_eq_true rfl); (case g2 => exact Nat.le_of_ble_eq_true rfl))
  intro h9 tk9 F9 N9
  clear N
  rw [less_eq bst bsp bt0 bt1 hbg ep.1 ep.2]
  k_steps
  unfold Halt
  rename News _ _ _ ((_, instObj 83 _) :: _) => N8
  rename Fr _ _ _ (fun y => if y = Str.ofString "told" then _ else _) => F8
  generalize eS : Shared.mk _ _ _ _ _ = s4
  have hF : StF w s₁ s4 := by
    subst eS
    obtain ⟨er, -⟩ := er
    subst er
    obtain ⟨rfl, rfl⟩ := ep
    have q1 : _ = (colsL bg st sp t0 t1).filter neR := (law_facts bst bsp bt0 bt1 hbg).1
    exact ⟨mg, mb, p, loose, mean, _, bg, st, sp, t0, t1, x0, x1, lW, lC, lT, o6, ot, os, c6, te, tf, tsp, vw, vc, cw, W, X, T, B, hos, hbare, w0, w1, F8, news_sub N8 (fun _ h => .tail _ (.tail _ (.tail _ (.tail _ h)))), (by rw [q1]; exact hw), hc, d6, dt, dsp, n1, bst, bsp, bt0, bt1, hbg⟩
  exact r w s₁ fa a13 s4 hF
end Mine
end
section
open PySem PySem.W PyProof.Rows PyProof.V PySem.Spec PySem.Calls
namespace Mine
theorem calmW22 : True := by
  w_top off
  exact trivial
local macro_rules | `(tactic| walk_at "eval ListComp") => `(tactic| (refine Halt.out ?_))
local macro_rules | `(tactic| walk_at "exec If") => `(tactic| (refine Halt.out ?_))
local macro_rules | `(tactic| walk_at "exec Assign") => `(tactic| (refine Halt.out ?_))
local macro_rules | `(tactic| walk_at "TriSrc") => `(tactic| (refine Halt.out ?_))
local macro_rules | `(tactic| walk_at "CompEnd") => `(tactic| (refine Halt.out ?_))
local macro_rules | `(tactic| walk_at "compareOp Eq ref ref") => `(tactic| (refine Halt.out ?_))
local macro_rules | `(tactic| k_all) => `(tactic| (with_reducible assumption))
local macro_rules | `(tactic| k_all) => `(tactic| (refine' List.forall_mem_append.mpr ⟨?aa, ?ab⟩; (case aa => with_reducible assumption); (case ab => k_all)))
local macro_rules | `(tactic| k_ne) => `(tactic| (refine neN ?_; (try dsimp only); omega))
local macro_rules | `(tactic| size_fits) => `(tactic| (simp only [List.size_toArray, PySem.sizeLine_eq]; omega))
/-- a row of two numbers -/
abbrev pairD (r : Int × Int) : Dat := .tuple [.int r.1, .int r.2]
/-- what the block of law's sure rows keeps from turn to turn -/
def SureJ (base : List (Addr × Obj)) (L6 : Addr) (sp : Int) (rows : List (Int × Int × Int)) (i : Nat) (ys : List Value) (nw : List (Addr × Obj)) : Prop :=
  ∃ tl, nw = base ++ tl ∧ DatAll tl ys ((sureT sp (rows.take i)).map pairD) ∧ ∀ q ∈ tl, @LT.lt Nat _ L6 q.1
theorem sure_yes {W : List (Addr × Obj)} {ys : List Value} {rows : List (Int × Int × Int)} {sp : Int} {i n : Nat} {r : Int × Int × Int} {d : Addr} {ta tb : Tok} (h : DatAll W ys ((sureT sp (rows.take i)).map pairD)) (e : rows[i]? = some r) (hf : (4 * sp).fmod r.1 = 0) (hm : (d, tupO [.int r.1 ta, .int (r.2.2 - r.2.1) tb] n) ∈ W) :
    DatAll W (ys ++ [.ref d]) ((sureT sp (rows.take (i + 1))).map pairD) := by
  have hf' : (fun r : Int × Int × Int => decide ((4 * sp).fmod r.1 = 0)) r = true := decide_eq_true hf
  rw [List.take_add_one, e]
  simp only [sureT, Option.toList_some, List.filter_append, List.filter_cons_of_pos (p := fun r : Int × Int × Int => decide ((4 * sp).fmod r.1 = 0)) hf', List.filter_nil, List.map_append, List.map_cons, List.map_nil]
  exact h.append (.one (.tuple hm (.cons (.int _ _) (.cons (.int _ _) .nil))))
theorem sure_no {W : List (Addr × Obj)} {ys : List Value} {rows : List (Int × Int × Int)} {sp : Int} {i : Nat} {r : Int × Int × Int} (h : DatAll W ys ((sureT sp (rows.take i)).map pairD)) (e : rows[i]? = some r) (hf : ¬ (4 * sp).fmod r.1 = 0) :
    DatAll W ys ((sureT sp (rows.take (i + 1))).map pairD) := by
  have hf' : ¬ (fun r : Int × Int × Int => decide ((4 * sp).fmod r.1 = 0)) r = true := by simpa using hf
  rw [List.take_add_one, e]
  simp only [sureT, Option.toList_some, List.filter_append, List.filter_cons_of_neg (p := fun r : Int × Int × Int => decide ((4 * sp).fmod r.1 = 0)) hf', List.filter_nil, List.append_nil]
  exact h
/-- the end of a turn that adds a row of two -/
theorem pair_end {g h' : Heap} {L I C D D' : Addr} {m : Str → Option Value} {s₁ : Shared} {oI oC : Obj} {base tl : List (Addr × Obj)} {tk nn : Nat} {ys : List Value} {a b : Int} {ta tb : Tok} {S : List (Addr × Obj) → Prop} {R : Value → List (Addr × Obj) → Prop}
    (F : Fr g L h' m) (N : News g L h' ((D', tupO [.int a ta, .int b tb] nn) :: (I, oI) :: (C, oC) :: (D, LCg.lst ys) :: (base ++ tl)))
    (off : LCg.Off3 I C D (base ++ tl)) (hI : @LT.lt Nat _ I D') (hC : @LT.lt Nat _ C D') (hD : @LT.lt Nat _ D D') (hS : S (base ++ (tl ++ [(D', tupO [.int a ta, .int b tb] nn)]))) (hR : R (.ref D') (base ++ (tl ++ [(D', tupO [.int a ta, .int b tb] nn)]))) :
    LCg.CompEnd g L m s₁ I oI C oC D (LCg.lst ys) S R (.ref D') { s₁ with heap := h', toks := tk } := by
  have e : base ++ (tl ++ [(D', tupO [.int a ta, .int b tb] nn)]) = (base ++ tl) ++ [(D', tupO [.int a ta, .int b tb] nn)] := (List.append_assoc _ _ _).symm
  refine LCg.CompEnd.intro F N (base ++ (tl ++ [(D', tupO [.int a ta, .int b tb] nn)])) ?_ ?_ hS hR
  · intro p hp
    rw [e] at hp
    rcases List.mem_cons.mp hp with rfl | hp
    · exact .tail _ (.head _)
    rcases List.mem_cons.mp hp with rfl | hp
    · exact .tail _ (.tail _ (.head _))
    rcases List.mem_cons.mp hp with rfl | hp
    · exact .tail _ (.tail _ (.tail _ (.head _)))
    rcases List.mem_append.mp hp with hp | hp
    · exact .tail _ (.tail _ (.tail _ (.tail _ hp)))
    · rw [List.mem_singleton.mp hp]; exact .head _
  · rw [e]
    refine LCg.Off3.of fun p hp => ?_
    rcases List.mem_append.mp hp with hp | hp
    · exact off.mem p hp
    · rw [List.mem_singleton.mp hp]
      exact ⟨Nat.ne_of_gt hI, Nat.ne_of_gt hC, Nat.ne_of_gt hD⟩
theorem SureJ.yes {base tl : List (Addr × Obj)} {L6 D' : Addr} {sp : Int} {rows : List (Int × Int × Int)} {i nn : Nat} {ys : List Value} {r : Int × Int × Int} {ta tb : Tok} (hys : DatAll tl ys ((sureT sp (rows.take i)).map pairD)) (htl : ∀ q ∈ tl, @LT.lt Nat _ L6 q.1) (e : rows[i]? = some r) (hf : (4 * sp).fmod r.1 = 0) (h6 : @LT.lt Nat _ L6 D') :
    SureJ base L6 sp rows (i + 1) (ys ++ [.ref D']) (base ++ (tl ++ [(D', tupO [.int r.1 ta, .int (r.2.2 - r.2.1) tb] nn)])) := by
  refine ⟨_, rfl, sure_yes (hys.mono fun p hp => List.mem_append_left _ hp) e hf (List.mem_append_right _ (List.mem_singleton_self _)), ?_⟩
  intro q hq
  rcases List.mem_append.mp hq with hq | hq
  · exact htl q hq
  · rw [List.mem_singleton.mp hq]; exact h6
/-- the rows that law was told, without law's numbers -/
theorem told_of {bg st sp t0 t1 : Int} {W : List (Addr × Obj)} {vw : List Value} (bst : 1 ≤ st ∧ st ≤ 6) (bsp : 1 ≤ sp ∧ sp ≤ 3) (bt0 : 0 ≤ t0 ∧ t0 ≤ 2) (bt1 : 0 ≤ t1 ∧ t1 ≤ 2) (hbg : bg = 0 ∨ bg = 1) (hw : DatAll W vw ((witW (wordL bg) st sp t0 t1).map rowD)) :
    ∃ rows, (sureT sp rows = sureR sp (t1 - t0) ∧ True) ∧ vw.length = rows.length ∧ rows.length ≤ 60 ∧ DatAll W vw (rows.map rowD) ∧ ∀ r ∈ rows, 1 ≤ r.1 := by
  have q1 := (law_facts bst bsp bt0 bt1 hbg).1
  have q2 := (law_facts bst bsp bt0 bt1 hbg).2.2.2.2.1
  rw [q1] at hw
  refine ⟨_, ⟨q2, trivial⟩, ?_, ?_, hw, ?_⟩
  · have := hw.length
    rwa [List.length_map] at this
  · refine Nat.le_trans (List.length_filter_le _ _) ?_
    unfold colsL
    rw [List.length_map, List.length_range]
    omega
  · intro r hr
    have hr := (List.mem_filter.mp hr).1
    obtain ⟨k, _, rfl⟩ := List.mem_map.mp hr
    show 1 ≤ 1 + (k : Int)
    omega
theorem fr_one {g h : Heap} {L : Addr} {M : Str → Option Value} {a : Str} {va : Value} (F : Fr g L h M) (e1 : M a = some va) : Fr g L h (fun y => if y = a then some va else M y) := by
  have e : (fun y => if y = a then some va else M y) = M := by
    funext y
    by_cases ha : y = a
    · rw [if_pos ha, ha, e1]
    · rw [if_neg ha]
  rw [e]
  exact F
theorem news_sure {g h : Heap} {L : Addr} {a b c d e f i : Addr × Obj} {W tl : List (Addr × Obj)} (N : News g L h (a :: b :: c :: d :: e :: f :: i :: (W ++ tl))) : News g L h (a :: d :: e :: f :: i :: tl) := fun p hp => N p (by
  simp only [List.mem_cons, List.mem_append] at hp ⊢
  rcases hp with rfl | rfl | rfl | rfl | rfl | hp
  · exact .inl rfl
  · exact .inr (.inr (.inr (.inl rfl)))
  · exact .inr (.inr (.inr (.inr (.inl rfl))))
  · exact .inr (.inr (.inr (.inr (.inr (.inl rfl)))))
  · exact .inr (.inr (.inr (.inr (.inr (.inr (.inl rfl))))))
  · exact .inr (.inr (.inr (.inr (.inr (.inr (.inr (.inr hp))))))))
/-- law's state behind its sure rows -/
inductive StS (w : World) (s₁ s' : Shared) : Prop where
  | mk (mg mb : Str → Option Value) (p : Program) (loose : List Str) (mean : ExcName → Option Value) (u : Str → Option Value) (sp t0 t1 : Int) (lS lT : Addr) (o6 ot os : Obj) (c6 : Option Value) (te tf tsp : Tok) (vs : List Value) (W : List (Addr × Obj))
    (f0 : (K w.params).In s₁.heap)
    (f1 : Top p loose mean mg mb s₁.heap)
    (f2 : Below callerA s₁.heap [] s₁.heap)
    (f3 : s'.os = s₁.os)
    (f4 : AllBare s'.gens)
    (f5 : Fr s₁.heap s₁.heap.objs.size s'.heap (fun y => if y = Str.ofString "sure" then some (.ref lS) else u y))
    (f6 : News s₁.heap s₁.heap.objs.size s'.heap ((lS, LCg.lst vs) :: (lT, listOf #[.int t0 te, .int t1 tf] 0) :: (s₁.heap.objs.size + 1 + 1 + 1 + 1 + 1 + 1, o6) :: (s₁.heap.objs.size + 1 + 1 + 1 + 1, ot) :: (s₁.heap.objs.size + 1 + 1 + 1, os) :: W))
    (f7 : DatAll W vs ((sureR sp (t1 - t0)).map pairD))
    (f8 : o6.data = .cell c6)
    (f9 : ot.data = .cell (some (.ref lT)))
    (f10 : os.data = .cell (some (.int sp tsp)))
    (f11 : (@LT.lt Nat _ (s₁.heap.objs.size + 1 + 1 + 1 + 1 + 1 + 1) lT))
    (f12 : (@Ne Nat lS (s₁.heap.objs.size + 1 + 1 + 1 + 1 + 1 + 1)))
    (f13 : (∀ q ∈ W, @LT.lt Nat _ (s₁.heap.objs.size + 1 + 1 + 1 + 1 + 1 + 1) q.1))
    (f14 : (1 ≤ sp ∧ sp ≤ 3))
    (f15 : (0 ≤ t0 ∧ t0 ≤ 2))
    (f16 : (0 ≤ t1 ∧ t1 ≤ 2)) : StS w s₁ s'
set_option maxRecDepth 100000 in
set_option maxHeartbeats 2000000 in
noncomputable def LawK : { G : World → Shared → Addr → Addr → Shared → Prop // (∀ w s₁ fa a13 s', StS w s₁ s' → G w s₁ fa a13 s') → ∀ w s₁ fa a13 s', StF w s₁ s' → LawJ.1 w s₁ fa a13 s' } := by
  refine ⟨?G, ?h⟩
  case h =>
  intro r w s₁ fa a13 s' hD
  dsimp only [LawJ]
  obtain ⟨mg, mb, p, loose, mean, u, bg, st, sp, t0, t1, x0, x1, lW, lC, lT, o6, ot, os, c6, te, tf, tsp, vw, vc, cw, W, X, T, B, hos, hbare, w0, w1, F, N, hw, hc, d6, dt, dsp, n1, bst, bsp, bt0, bt1, hbg⟩ := hD
  have htd := told_of bst bsp bt0 bt1 hbg hw
  clear hw hc w0 w1
  obtain ⟨rows, er, hlen, hlc, hw, hpos⟩ := htd
  revert X
  k_fill
  intro X
  k_dflt (refine tri_Assign (by k_asm) (by rfl) (by with_unfolding_all rfl) (by with_unfolding_all rfl) (by decide) (by rfl) (by decide) (by rfl) (by rfl) (by rfl) (by decide) (by decide) (by decide) (by rfl) (by rfl) ?_)
  k_steps
  unfold Halt
  refine TriSrc.ledger (SureJ ((lW, listOf vw.toArray cw) :: (lC, LCg.lst vc) :: (lT, listOf #[.int t0 te, .int t1 tf] 0) :: (s₁.heap.objs.size + 1 + 1 + 1 + 1 + 1 + 1, o6) :: (s₁.heap.objs.size + 1 + 1 + 1 + 1, ot) :: (s₁.heap.objs.size + 1 + 1 + 1, os) :: W) (s₁.heap.objs.size + 1 + 1 + 1 + 1 + 1 + 1) sp rows) (by rfl) (by k_asm) N (.head _) (by rw [PySem.sizeLine_eq]; omega) ⟨[], by simp, .nil, by simp⟩ ?_
  intro g4
  refine ⟨?_, ?_⟩
  · rintro i ys nw hi ⟨tl, rfl, hys, htl⟩
    obtain ⟨v, hv⟩ : ∃ v, vw[i]? = some v := ⟨_, List.getElem?_eq_getElem hi⟩
    obtain ⟨rr, d, nn, ta, tb, tc, hr, rfl, hmr⟩ := row_at hw hv
    have hrp := hpos rr (List.mem_of_getElem? hr)
    refine ⟨d, .int rr.1 ta, .int rr.2.1 tb, .int rr.2.2 tc, nn, hv, List.mem_append_left _ (mem6' _ hmr), ?_⟩
    intro I oI C oC D m₂ h3 tk3 E3 hC hx1 hx2 hx3 F3 N3 off3 ne3
    simp only [List.cons_append] at N3 off3
    dsimp only
    k_steps
    all_goals unfold Halt
    · rename News _ _ _ ((_, _) :: (I, _) :: _) => N4
      rename _ ∧ _ ∧ _ ∧ _ ∧ _ ∧ _ ∧ _ ∧ _ ∧ _ ∧ AllLt _ (W ++ tl) => q4
      exact pair_end (tl := tl) (nn := 0) (by assumption) N4 off3 q4.1 q4.2.1 q4.2.2.1 (.inr ⟨_, .head _, rfl, _, rfl⟩) (SureJ.yes hys htl hr (by assumption) q4.2.2.2.2.2.2.1)
    · exact LCg.CompEnd.intro F3 N3 _ (fun p hp => hp) off3 (.inr ⟨_, .head _, rfl, _, rfl⟩) ⟨tl, rfl, sure_no hys hr (by assumption), htl⟩
  · rintro ys nw ⟨tl, rfl, hys, htl⟩
    rw [hlen, List.take_length, er.1] at hys
    unfold LCg.FinA
    intro D9 h9 tk9 F9 N9 o9
    simp only [List.cons_append] at N9 o9
    dsimp only
    k_steps
    unfold Halt
    generalize eS : Shared.mk _ _ _ _ _ = s4
    have hS : StS w s₁ s4 := by
      subst eS
      exact ⟨mg, mb, p, loose, mean, _, sp, t0, t1, D9, lT, o6, ot, os, c6, te, tf, tsp, ys, tl, X, T, B, hos, hbare, fr_one F9 rfl, news_sure N9, hys, d6, dt, dsp, n1, Ne.symm o9.2.2.2.1, htl, bsp, bt0, bt1⟩
    exact r w s₁ fa a13 s4 hS
end Mine
end
section
open PySem PySem.W PyProof.Rows PyProof.V PySem.Spec PySem.Calls
namespace Mine
theorem calmW23 : True := by
  w_top off
  exact trivial
local macro_rules | `(tactic| walk_at "eval ListComp") => `(tactic| (refine Halt.out ?_))
local macro_rules | `(tactic| walk_at "CompSrcT") => `(tactic| (refine Halt.out ?_))
local macro_rules | `(tactic| walk_at "CompEnd") => `(tactic| (refine Halt.out ?_))
local macro_rules | `(tactic| walk_at "compareOp Eq ref ref") => `(tactic| (refine Halt.out ?_))
local macro_rules | `(tactic| k_all) => `(tactic| (with_reducible assumption))
local macro_rules | `(tactic| k_all) => `(tactic| (refine' List.forall_mem_append.mpr ⟨?aa, ?ab⟩; (case aa => with_reducible assumption); (case ab => k_all)))
local macro_rules | `(tactic| k_ne) => `(tactic| (refine neN ?_; (try dsimp only); omega))
local macro_rules | `(tactic| size_fits) => `(tactic| (simp only [List.size_toArray, PySem.sizeLine_eq]; omega))
/-- what the block of law's last list keeps from turn to turn -/
def GapJ (base : List (Addr × Obj)) (sp g : Int) (i : Nat) (ys : List Value) (nw : List (Addr × Obj)) : Prop :=
  ∃ tl, nw = base ++ tl ∧ DatAll nw ys ((((List.range i).filter fun (k : Nat) => decide ((4 * sp).fmod (1 + (k : Int)) = 0) && !decide (g = 0)).map fun (k : Nat) => (1 + (k : Int), g)).map pairD)
theorem GapJ.yes {base tl : List (Addr × Obj)} {D' : Addr} {sp g : Int} {i nn : Nat} {ys : List Value} {ta tb : Tok} (hys : DatAll (base ++ tl) ys ((((List.range i).filter fun (k : Nat) => decide ((4 * sp).fmod (1 + (k : Int)) = 0) && !decide (g = 0)).map fun (k : Nat) => (1 + (k : Int), g)).map pairD))
    (h1 : (4 * sp).fmod (1 + (i : Int)) = 0) (h2 : ¬ g = 0) : GapJ base sp g (i + 1) (ys ++ [.ref D']) (base ++ (tl ++ [(D', tupO [.int (1 + (i : Int)) ta, .int g tb] nn)])) := by
  refine ⟨_, rfl, ?_⟩
  have hp : (fun (k : Nat) => decide ((4 * sp).fmod (1 + (k : Int)) = 0) && !decide (g = 0)) i = true := by
    show (decide ((4 * sp).fmod (1 + (i : Int)) = 0) && !decide (g = 0)) = true
    rw [decide_eq_true h1, decide_eq_false h2]
    rfl
  rw [List.range_succ, List.filter_append, List.map_append, List.map_append, List.filter_cons_of_pos (p := fun (k : Nat) => decide ((4 * sp).fmod (1 + (k : Int)) = 0) && !decide (g = 0)) hp]
  refine (hys.mono fun p hp => ?_).append (.one (.tuple (List.mem_append_right _ (List.mem_append_right _ (List.mem_singleton_self _))) (.cons (.int _ _) (.cons (.int _ _) .nil))))
  rcases List.mem_append.mp hp with hp | hp
  · exact List.mem_append_left _ hp
  · exact List.mem_append_right _ (List.mem_append_left _ hp)
theorem GapJ.no {base tl : List (Addr × Obj)} {sp g : Int} {i : Nat} {ys : List Value} (hys : DatAll (base ++ tl) ys ((((List.range i).filter fun (k : Nat) => decide ((4 * sp).fmod (1 + (k : Int)) = 0) && !decide (g = 0)).map fun (k : Nat) => (1 + (k : Int), g)).map pairD))
    (h1 : ¬ ((4 * sp).fmod (1 + (i : Int)) = 0 ∧ ¬ g = 0)) : GapJ base sp g (i + 1) ys (base ++ tl) := by
  refine ⟨_, rfl, ?_⟩
  have hp : ¬ (fun (k : Nat) => decide ((4 * sp).fmod (1 + (k : Int)) = 0) && !decide (g = 0)) i = true := by
    show ¬ (decide ((4 * sp).fmod (1 + (i : Int)) = 0) && !decide (g = 0)) = true
    simpa using h1
  rw [List.range_succ, List.filter_append, List.filter_cons_of_neg (p := fun (k : Nat) => decide ((4 * sp).fmod (1 + (k : Int)) = 0) && !decide (g = 0)) hp, List.filter_nil, List.append_nil]
  exact hys
theorem ok_pairs {rows : List (Int × Int)} : ∀ d ∈ rows.map pairD, kqdOk 8 d = true := by
  intro d hd
  obtain ⟨r, _, rfl⟩ := List.mem_map.mp hd
  rfl
set_option maxRecDepth 100000 in
set_option maxHeartbeats 2000000 in
theorem law_end : ∀ w s₁ fa a13 s', StS w s₁ s' → LawK.1 w s₁ fa a13 s' := by
  intro w s₁ fa a13 s' hD
  dsimp only [LawK]
  obtain ⟨mg, mb, p, loose, mean, u, sp, t0, t1, lS, lT, o6, ot, os, c6, te, tf, tsp, vs, W, X, T, B, hos, hbare, F, N, hys, d6, dt, dsp, n1, n2, hW, bsp, bt0, bt1⟩ := hD
  have hW2 : ∀ q ∈ W, @Ne Nat q.1 (s₁.heap.objs.size + 1 + 1 + 1 + 1 + 1 + 1) := fun q hq => Nat.ne_of_gt (hW q hq)
  revert X
  k_fill
  intro X
  k_steps
  unfold Halt
  rename News _ _ _ ((lS, _) :: _ :: (_, _) :: _) => N7
  rename Fr _ _ _ (fun y => if y = Str.ofString "sure" then _ else _) => F7
  rename Obj.data _ = Data.cell (some (Value.int ([t0, t1].getD (Int.toNat 1) 0 - _) _)) => dg
  rename Obj => og
  obtain ⟨tg, dg⟩ : ∃ tg, og.data = Data.cell (some (.int (t1 - t0) tg)) := ⟨_, dg⟩
  clear d6
  k_dflt (refine LCt.ListComp_T (F₀ := by k_asm) (by with_unfolding_all rfl) (by decide) (by rfl) (by decide) (by rfl) ?_)
  k_steps
  unfold Halt
  refine LCt.CompSrcT.range (by rfl) (by k_asm) (by k_asm) (by assumption) ?hsm (rangeSize_nat _ _) (by rw [PySem.sizeLine_eq]; omega) ?_
  case hsm => exact small_one (by omega) (by omega) (by omega) (by omega)
  intro g9
  refine ctt_rest (GapJ ((lS, LCg.lst vs) :: (lT, listOf #[.int t0 te, .int t1 tf] 0) :: (s₁.heap.objs.size + 1 + 1 + 1 + 1 + 1 + 1, og) :: (s₁.heap.objs.size + 1 + 1 + 1 + 1, ot) :: (s₁.heap.objs.size + 1 + 1 + 1, os) :: W) sp (t1 - t0)) ?_ ⟨[], by simp, .nil⟩ ?_
  · rintro i v I oI C oC D m₂ ys nw h3 tk3 E3 hkn ⟨t3, rfl⟩ ⟨tl, rfl, hys2⟩ hC hx3 F3 N3 off3 ne3
    simp only [List.cons_append] at N3 off3
    dsimp only
    k_steps
    all_goals unfold Halt
    · rename News _ _ _ ((_, _) :: (I, _) :: _) => N4
      rename _ ∧ _ ∧ _ ∧ _ ∧ _ ∧ _ ∧ _ ∧ _ ∧ AllLt _ (W ++ tl) => q4
      exact pair_end (tl := tl) (nn := 0) (by assumption) N4 off3 q4.1 q4.2.1 q4.2.2.1 trivial (GapJ.yes hys2 (by assumption) (by assumption))
    · exact LCg.CompEnd.intro F3 N3 _ (fun p hp => hp) off3 trivial (GapJ.no hys2 (fun q => q.2 (by assumption)))
    · exact LCg.CompEnd.intro F3 N3 _ (fun p hp => hp) off3 trivial (GapJ.no hys2 (fun q => absurd q.1 (by assumption)))
  · rintro ys nw ⟨tl, rfl, hys2⟩
    unfold LCg.FinE
    intro D9 h9 tk9 F9 N9 o9
    simp only [List.cons_append] at N9 o9
    dsimp only
    k_steps
    unfold Halt
    refine eq_bool (ds := (sureR sp (t1 - t0)).map pairD) (es := (sureR sp (t1 - t0)).map pairD) N9 (.tail _ (.head _)) rfl rfl hys (fun _ h => .tail _ (.tail _ (.tail _ (.tail _ (.tail _ (.tail _ (List.mem_append_left _ h))))))) (.head _) rfl rfl hys2 (fun _ h => .tail _ h) ok_pairs ok_pairs (by ke_room) true (by simp) ?_
    k_steps
    exact ⟨rfl, F9.keep, hos, hbare⟩
end Mine
end
theorem PySem.Challenge.cw_st0041_01_holds : PySem.Challenge.rw_st0041_01.Holds :=
  Mine.RH.2 (Mine.RB.2 (Mine.RC.2 (Mine.RD.2 (Mine.RE.2 (Mine.RF.2 (Mine.LawG.2 (Mine.LawH.2 (Mine.LawI.2 (Mine.LawJ.2 (Mine.LawK.2 Mine.law_end))))))))))
