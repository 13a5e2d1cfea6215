import PyProof.Rows.All
import Wide.All
import OpenK.AllK
import Wide.FinOn
import Lean
import PySem.Challenge.RW_iu0026_01

open PySem PySem.W PyProof.Rows PySem.Calls
set_option Elab.async false
set_option maxRecDepth 100000
set_option linter.unusedVariables false
-- HeadBase
section
namespace Mine
noncomputable abbrev pw : Program := PySem.Challenge.pw_iu0026_01
noncomputable def tS (i : Nat) : Stmt := pw.main.body.getD i (.Pass ⟨0, 0, 0, 0⟩)
noncomputable def cB : Stmt → List Stmt
  | .ClassDef _ _ _ b _ _ _ _ _ _ _ => b
  | _ => []
noncomputable def cS (i j : Nat) : Stmt := (cB (tS i)).getD j (.Pass ⟨0, 0, 0, 0⟩)
noncomputable def fA : Stmt → Arguments
  | .FunctionDef _ a _ _ _ _ _ _ _ _ => a
  | _ => ⟨[], [], none, [], [], none, []⟩
noncomputable def fB : Stmt → List Stmt
  | .FunctionDef _ _ b _ _ _ _ _ _ _ => b
  | _ => []
noncomputable def fS : Stmt → Scope
  | .FunctionDef _ _ _ _ _ _ s _ _ _ => s
  | _ => ⟨.function, [], false, false, []⟩
noncomputable def fSc : Stmt → Scope
  | .ClassDef _ _ _ _ _ _ s _ _ _ _ => s
  | _ => ⟨.function, [], false, false, []⟩
noncomputable def env0 : Env := { scope := pw.main.scope, locals := mainNs, globals := mainNs, cells := [], code := .ref 13, frame := some 14 }
noncomputable def bE : List Stmt := behindTheImports pw
noncomputable def cE : Code := .body bE env0
noncomputable def B0 : List Frame := [topFrame ⟨0, 0, 0, 0⟩]
noncomputable abbrev ann0 : Option Value := some (.ref 6)
noncomputable abbrev Go (w : World) (n : Nat) (s : SharedT) (t : Thread) (s' : SharedT) (t' : Thread) : Prop := segGoT treeTable pw w 11 ann0 0 n s t = some (s', t')
theorem go_of {w : World} {n : Nat} {s s' : SharedT} {t t' : Thread}
    (h : PySem.W.Fast.tw10295753902157049106 PySem.W.Fast.tw14364793385576792824 pw w 11 ann0 0 n s t = some (s', t')) : Go w n s t s' t' := by
  have e : ∀ tb : String → Option Builtin, segGoT tb pw w 11 ann0 0 n s t = PySem.W.Fast.tw10295753902157049106 tb pw w 11 ann0 0 n s t := fun tb => by
    rw [PySem.W.Fast.te10295753902157049106]
  show segGoT treeTable pw w 11 ann0 0 n s t = some (s', t')
  rw [e, PySem.W.Fast.te14364793385576792824]
  exact h
noncomputable def lf (P : Params) : Life := (boot_heap P).life
noncomputable def sh (P : Params) (t : BT) (n tk : Nat) (os : OsState) : SharedT := ⟨t, n, lf P, #[], boot_drawn, tk, os⟩

theorem go_add {w : World} : ∀ {n m : Nat} {s s' s'' : SharedT} {t t' t'' : Thread}, Go w n s t s' t' → Go w m s' t' s'' t'' → Go w (n + m) s t s'' t''
  | 0, m, s, s', s'', t, t', t'', h, k => by
    have e : some (s, t) = some (s', t') := h
    cases e
    rw [Nat.zero_add]; exact k
  | n + 1, m, s, s', s'', t, t', t'', h, k => by
    rw [show n + 1 + m = n + m + 1 by omega]
    unfold Go segGoT at h ⊢
    cases he : endAt 0 t with
    | some f => rw [he] at h; cases h
    | none =>
      rw [he] at h
      cases hk : stepOk 11 ann0 t with
      | false => rw [hk] at h; cases h
      | true =>
        rw [hk] at h
        cases hs : stepT (denote treeTable) pw w s t with
        | none => rw [hs] at h; cases h
        | some r => obtain ⟨s₂, t₂⟩ := r; rw [hs] at h; exact go_add h k

section
variable {α β : Type} {w : World} {n m : Nat} {c : Code} {B : List Frame} {s s' s'' : SharedT}

/-- the tree x runs from s to the value a and the state s', whatever stands behind it -/
noncomputable def Run (w : World) (n : Nat) (c : Code) (B : List Frame) (x : Sem α) (s : SharedT) (a : α) (s' : SharedT) : Prop :=
  ∀ (K : α → Sem Fin) (H : Value → Sem Fin) (gd : Bool → Bool) (lv : List Value → List Value) (pos : Pos), ∃ m pos', m ≤ n ∧ Go w m s ⟨x.wrap K H gd lv, c, pos, B⟩ s' ⟨K a, c, pos', B⟩
theorem Run.mk {x : Sem α} {a : α} (pos' : Pos) (h : ∀ (K : α → Sem Fin) (H : Value → Sem Fin) (gd : Bool → Bool) (lv : List Value → List Value) (pos : Pos), Go w n s ⟨x.wrap K H gd lv, c, pos, B⟩ s' ⟨K a, c, pos', B⟩) : Run w n c B x s a s' :=
  fun K H gd lv pos => ⟨n, pos', Nat.le_refl _, h K H gd lv pos⟩
theorem Run.mkp {x : Sem α} {a : α} (h : ∀ (K : α → Sem Fin) (H : Value → Sem Fin) (gd : Bool → Bool) (lv : List Value → List Value) (pos : Pos), Go w n s ⟨x.wrap K H gd lv, c, pos, B⟩ s' ⟨K a, c, pos, B⟩) : Run w n c B x s a s' :=
  fun K H gd lv pos => ⟨n, pos, Nat.le_refl _, h K H gd lv pos⟩
theorem Run.mono {x : Sem α} {a : α} (h : Run w n c B x s a s') (l : n ≤ m) : Run w m c B x s a s' := fun K H gd lv pos => let ⟨k, p, a, b⟩ := h K H gd lv pos; ⟨k, p, Nat.le_trans a l, b⟩
theorem Run.pure {a : α} : Run w 0 c B (pure a : Sem α) s a s := fun _ _ _ _ pos => ⟨0, pos, Nat.le_refl _, rfl⟩
theorem Run.bind {x : Sem α} {f : α → Sem β} {a : α} {b : β} (h : Run w n c B x s a s') (k : Run w m c B (f a) s' b s'') : Run w (n + m) c B (x >>= f) s b s'' := fun K H gd lv pos => by
  obtain ⟨m1, p1, l1, h⟩ := h (fun a => (f a).wrap K H gd lv) H gd lv pos
  obtain ⟨m2, p2, l2, k⟩ := k K H gd lv p1
  refine ⟨m1 + m2, p2, Nat.add_le_add l1 l2, ?_⟩
  rw [Sem.bind_eq_wrap', Sem.wrap_wrap]
  exact go_add h k
theorem Run.keep {x : Sem α} {a : α} {vs : List Value} (h : Run w n c B x s a s') : Run w n c B (x.keep vs) s a s' := fun K H gd lv pos => by
  rw [Sem.keep_eq_wrap, Sem.wrap_wrap]
  exact h K H _ _ pos
theorem Run.holding {x : Sem α} {a : α} {vs : List Value} (h : Run w n c B x s a s') : Run w n c B (holding vs x) s a s' := by
  unfold PySem.holding
  split
  · exact h
  · exact h.keep
end

section
variable {w : World} {c : Code} {fr : Frame} {B : List Frame} {s : SharedT}
theorem Run.rule {tag : String} : Run w 1 c (fr :: B) (PySem.rule tag) s () s := Run.mkp fun K H gd lv pos => rfl
theorem Run.load {a : Addr} {o : Obj} (hlt : Nat.blt a s.n = true) (hg : s.tree.get a = some o) (ha : alive o = some o) : Run w 1 c (fr :: B) (PySem.load a) s o s := by
  refine Run.mkp fun K H gd lv pos => ?_
  obtain ⟨T, n, life, gens, drawn, toks, os⟩ := s
  dsimp only at hlt hg
  show (match stepT (denote treeTable) pw w ⟨T, n, life, gens, drawn, toks, os⟩ ⟨.load a none fun x => (Sem.pure x).wrap K H gd lv, c, pos, fr :: B⟩ with
    | some (s', t') => segGoT treeTable pw w 11 ann0 0 0 s' t'
    | none => none) = _
  simp only [stepT, hlt, hg, ha]
  rfl
theorem Run.update {a : Addr} {o : Obj} {f : Obj → Obj} (h11 : Nat.ble 11 a = true) (hlt : Nat.blt a s.n = true) (hg : s.tree.get a = some o) (ha : alive o = some o) : Run w 1 c (fr :: B) (PySem.update a f) s () { s with tree := s.tree.set a f } := by
  refine Run.mkp fun K H gd lv pos => ?_
  obtain ⟨T, n, life, gens, drawn, toks, os⟩ := s
  dsimp only at hlt hg
  have hok : stepOk 11 ann0 ⟨.update a none f fun x => (Sem.pure x).wrap K H gd lv, c, pos, fr :: B⟩ = true := by
    show (_ && (Nat.ble 11 a || _ || _ || _)) = true
    rw [h11]; rfl
  show (match stepOk 11 ann0 ⟨.update a none f fun x => (Sem.pure x).wrap K H gd lv, c, pos, fr :: B⟩ with
    | false => none
    | true => match stepT (denote treeTable) pw w ⟨T, n, life, gens, drawn, toks, os⟩ ⟨.update a none f fun x => (Sem.pure x).wrap K H gd lv, c, pos, fr :: B⟩ with
      | some (s', t') => segGoT treeTable pw w 11 ann0 0 0 s' t'
      | none => none) = _
  rw [hok]
  simp only [stepT, hlt, hg, ha]
  rfl
end

/-! the set of the nine letters -/
noncomputable abbrev SetSt := Array (Int × Value) × Nat × SetTable
noncomputable def setO (st : SetSt) : Obj := ⟨.type "set", none, .set st.1 st.2.1 st.2.2, #[]⟩
noncomputable def offPlain (t : SetTable) : SetTable := if t.plain then { t with plain := false } else t
noncomputable def add1 (h : Int) (x : Value) (st : SetSt) : SetSt :=
  let L := layNew st.2.2 st.1 h x
  let t := offPlain L.2.1
  if !L.2.2.1 && t.tooFull then ((relayAll t L.1 (SetTable.grown L.1.size)).1, st.2.1 + 2, (relayAll t L.1 (SetTable.grown L.1.size)).2.1) else (L.1, st.2.1 + 1, t)
structure Inv (w : World) (st : SetSt) (l : List Str) : Prop where
  el : ElemsOf (PySem.strKind pw w) st.1.toList
  mem : ∀ k, decide (k ∈ l) = true ↔ ∃ e ∈ st.1.toList, (PySem.strKind pw w).is k e.2 = true
  size : st.1.size = l.length
  small : st.1.size < 100
  fits : st.2.2.fits st.1.size = true

theorem offPlain_fits {t : SetTable} {n : Nat} (h : t.fits n = true) : (offPlain t).fits n = true := by
  unfold offPlain; split
  · exact SetTable.fits_plain_off h
  · exact h
theorem Inv.add {w : World} {st : SetSt} {l : List Str} (I : Inv w st l) {k : Str} {tok : Tok} (hb : st.1.size < 90) : Inv w (add1 ((PySem.strKind pw w).hash k) (.str k tok) st) (l ++ [k]) := by
  have hkey := strKind_is pw w k tok
  have hp := layNew_perm st.2.2 st.1 ((PySem.strKind pw w).hash k) (.str k tok)
  have hf := layNew_fits st.2.2 st.1 ((PySem.strKind pw w).hash k) (.str k tok)
  rw [Array.toList_push] at hp
  have hel := (I.el.push hkey (x := .str k tok) rfl).perm hp
  have hm : ∀ k', decide (k' ∈ l ++ [k]) = true ↔ ∃ e ∈ (layNew st.2.2 st.1 ((PySem.strKind pw w).hash k) (.str k tok)).1.toList, (PySem.strKind pw w).is k' e.2 = true := fun k' => by
    have := mem_push_iff (S := fun k' => decide (k' ∈ l)) hkey I.mem hp k'
    rw [← this]; simp
  have hs : (layNew st.2.2 st.1 ((PySem.strKind pw w).hash k) (.str k tok)).1.size = l.length + 1 := by
    rw [← Array.length_toList, hp.length_eq, List.length_append, Array.length_toList, I.size]; rfl
  unfold add1
  dsimp only
  split
  · have hp2 := relayAll_perm (offPlain (layNew st.2.2 st.1 ((PySem.strKind pw w).hash k) (.str k tok)).2.1) (layNew st.2.2 st.1 ((PySem.strKind pw w).hash k) (.str k tok)).1 (SetTable.grown (layNew st.2.2 st.1 ((PySem.strKind pw w).hash k) (.str k tok)).1.size)
    have hf2 := relayAll_fits (offPlain (layNew st.2.2 st.1 ((PySem.strKind pw w).hash k) (.str k tok)).2.1) (layNew st.2.2 st.1 ((PySem.strKind pw w).hash k) (.str k tok)).1 (SetTable.grown (layNew st.2.2 st.1 ((PySem.strKind pw w).hash k) (.str k tok)).1.size)
    have hs2 : (relayAll (offPlain (layNew st.2.2 st.1 ((PySem.strKind pw w).hash k) (.str k tok)).2.1) (layNew st.2.2 st.1 ((PySem.strKind pw w).hash k) (.str k tok)).1 (SetTable.grown (layNew st.2.2 st.1 ((PySem.strKind pw w).hash k) (.str k tok)).1.size)).1.size = l.length + 1 := by
      rw [← Array.length_toList, hp2.length_eq, Array.length_toList, hs]
    exact ⟨hel.perm hp2, fun k' => (hm k').trans ⟨fun ⟨e, he, q⟩ => ⟨e, hp2.mem_iff.mpr he, q⟩, fun ⟨e, he, q⟩ => ⟨e, hp2.mem_iff.mp he, q⟩⟩, by rw [hs2]; simp, by rw [hs2, ← I.size]; omega, hf2⟩
  · exact ⟨hel, hm, by rw [hs]; simp, by rw [hs, ← I.size]; omega, offPlain_fits hf⟩

section
variable {w : World} {c : Code} {fr : Frame} {B : List Frame} {P : Params} {os : OsState} {T : Obj → BT} {a N tk : Nat}
/-- a place of the tree that holds the object -/
structure Holds1 (T : Obj → BT) (a : Nat) : Prop where
  get : ∀ o, (T o).get a = some o
  set : ∀ o f, (T o).set a f = T (f o)
theorem run_setState (HT : Holds1 T a) (hlt : Nat.blt a N = true) {st : SetSt} (hf : st.2.2.fits st.1.size = true) :
    Run w 1 c (fr :: B) (setState a) (sh P (T (setO st)) N tk os) st (sh P (T (setO st)) N tk os) := by
  unfold setState
  refine Run.bind (n := 1) (m := 0) (Run.load (o := setO st) hlt (HT.get _) rfl) ?_
  show Run w 0 c (fr :: B) (if (st.2.2.place.size != st.1.size || decide (st.2.2.fill > st.2.2.mask)) = true then (unsupported "internal:set-table-does-not-fit-its-elements" >>= fun _ => pure (st.1, st.2.1, st.2.2)) else pure (st.1, st.2.1, st.2.2)) _ _ _
  have hc : (st.2.2.place.size != st.1.size || decide (st.2.2.fill > st.2.2.mask)) = false := by
    simp only [SetTable.fits, Bool.and_eq_true, beq_iff_eq, decide_eq_true_eq] at hf
    simp [hf.1, Nat.not_lt.mpr hf.2]
  rw [hc]
  exact Run.pure
theorem run_storeSet (HT : Holds1 T a) (h11 : Nat.ble 11 a = true) (hlt : Nat.blt a N = true) {st : SetSt} {es : Array (Int × Value)} {t : SetTable} (hs : es.size < 4096) :
    Run w 2 c (fr :: B) (storeSet a es t) (sh P (T (setO st)) N tk os) () (sh P (T (setO (es, st.2.1 + 1, t))) N tk os) := by
  unfold storeSet
  refine Run.bind (n := 1) (m := 1) (Run.load (o := setO st) hlt (HT.get _) rfl) ?_
  show Run w 1 c (fr :: B) (if es.size > sizeLine then (unsupported "set:memory" >>= fun _ => update a (Obj.putSet es t)) else update a (Obj.putSet es t)) _ _ _
  have hc : ¬ es.size > sizeLine := by rw [sizeLine_eq]; omega
  rw [if_neg hc]
  have := Run.update (w := w) (c := c) (fr := fr) (B := B) (s := sh P (T (setO st)) N tk os) (a := a) (o := setO st) (f := Obj.putSet es t) h11 hlt (HT.get _) rfl
  have e : ({ sh P (T (setO st)) N tk os with tree := (sh P (T (setO st)) N tk os).tree.set a (Obj.putSet es t) } : SharedT) = sh P (T (setO (es, st.2.1 + 1, t))) N tk os := by
    show sh P ((T (setO st)).set a (Obj.putSet es t)) N tk os = _
    rw [HT.set]; rfl
  rw [e] at this
  exact this
theorem run_gave (b : Bool) {s : SharedT} {g : Bool → Sem Unit} (hg : g = fun b => match b with | true => rule "set.scan.the-table-gave-way" | false => pure ()) : Run w 1 c (fr :: B) (g b) s () s := by
  subst hg
  cases b
  · exact Run.pure.mono (Nat.zero_le _)
  · exact Run.rule
end
theorem not_found {w : World} {st : SetSt} {l : List Str} (I : Inv w st l) {k : Str} (hk : k ∉ l) : st.1.findIdx? (·.2.isStr k) = none := by
  rw [Array.findIdx?_eq_none_iff]
  intro e he
  cases hq : e.2.isStr k with
  | false => rfl
  | true =>
    exfalso
    have h1 : (PySem.strKind pw w).is k e.2 = true := by
      cases hv : e.2 <;> rw [hv] at hq <;> simp [Value.isStr] at hq
      subst hq
      exact strKind_is pw w _ _
    have := (I.mem k).mpr ⟨e, Array.mem_toList_iff.mpr he, h1⟩
    exact hk (of_decide_eq_true this)
theorem all_str {w : World} {st : SetSt} {l : List Str} (I : Inv w st l) : st.1.all (fun e => isExactStrKey e.2) = true := by
  rw [← Array.all_toList, List.all_eq_true]
  intro e he
  obtain ⟨⟨k, hk, _⟩, _⟩ := I.el e he
  obtain ⟨t, ht⟩ := Value.isStrOf_shape hk
  rw [ht]; rfl
section
variable {w : World} {c : Code} {fr : Frame} {B : List Frame} {P : Params} {os : OsState} {T : Obj → BT} {a N tk : Nat}
theorem run_addHashed (HT : Holds1 T a) (h11 : Nat.ble 11 a = true) (hlt : Nat.blt a N = true) {st : SetSt} {l : List Str} (I : Inv w st l) {k : Str} {tok : Tok} (hk : k ∉ l) (hb : st.1.size < 90) :
    Run w 20 c (fr :: B) (setAddHashed a (.str k tok) ((PySem.strKind pw w).hash k)) (sh P (T (setO st)) N tk os) true (sh P (T (setO (add1 ((PySem.strKind pw w).hash k) (.str k tok) st))) N tk os) := by
  have hp := layNew_perm st.2.2 st.1 ((PySem.strKind pw w).hash k) (.str k tok)
  have hfL := layNew_fits st.2.2 st.1 ((PySem.strKind pw w).hash k) (.str k tok)
  have hstr := all_str I
  have hnot := not_found I hk
  have hscan := byScan_of (x := .str k tok) rfl (by have := I.small; show st.1.size < 4096; omega) I.el
  unfold setAddHashed setAddHashedIn
  refine Run.holding ?_
  refine Run.bind (n := 1) (m := 19) (run_setState HT hlt I.fits) ?_
  dsimp only
  rw [hscan]
  simp only [↓reduceIte]
  refine Run.bind (n := 19) (m := 0) (a := some true) ?_ Run.pure
  unfold setAddByScan
  refine Run.bind (n := 1) (m := 18) Run.rule ?_
  refine Run.bind (n := 0) (m := 18) (a := ScanMet.absent) (s' := sh P (T (setO st)) N tk os) ?_ ?_
  · unfold setScan
    dsimp only
    rw [if_pos hstr]
    unfold setScanStrs
    rw [hnot]
    exact Run.pure
  dsimp only
  unfold add1
  dsimp only
  generalize layNew st.2.2 st.1 ((PySem.strKind pw w).hash k) (.str k tok) = L at hp hfL ⊢
  obtain ⟨es1, t1, wasDummy, gave⟩ := L
  dsimp only at hp hfL ⊢
  have hs1 : es1.size = st.1.size + 1 := by rw [← Array.length_toList, hp.length_eq, Array.length_toList, Array.size_push]
  refine Run.bind (n := 1) (m := 17) (run_gave _ rfl) ?_
  have tail : ∀ t2 : SetTable, Run w 10 c (fr :: B) (do
        storeSet a es1 t2
        if (!wasDummy && t2.tooFull) = true then
            match relayAll t2 es1 (SetTable.grown es1.size) with
            | (es, t, gave) => do
              (fun b : Bool => match b with | true => PySem.rule "set.scan.the-table-gave-way" | false => pure ()) gave
              storeSet a es t
              pure (some true)
          else pure (some true)) (sh P (T (setO st)) N tk os) (some true)
      (sh P (T (setO (if (!wasDummy && t2.tooFull) = true then ((relayAll t2 es1 (SetTable.grown es1.size)).1, st.2.1 + 2, (relayAll t2 es1 (SetTable.grown es1.size)).2.1) else (es1, st.2.1 + 1, t2)))) N tk os) := by
    intro t2
    refine Run.bind (n := 2) (m := 8) (run_storeSet HT h11 hlt (by omega)) ?_
    split
    · have hp2 := relayAll_perm t2 es1 (SetTable.grown es1.size)
      generalize relayAll t2 es1 (SetTable.grown es1.size) = R at hp2 ⊢
      obtain ⟨es2, t3, gave2⟩ := R
      dsimp only at hp2 ⊢
      have hs2 : es2.size = es1.size := by rw [← Array.length_toList, hp2.length_eq, Array.length_toList]
      refine Run.bind (n := 1) (m := 7) (run_gave gave2 rfl) ?_
      refine Run.bind (n := 2) (m := 5) (run_storeSet (st := (es1, st.2.1 + 1, t2)) HT h11 hlt (by omega)) ?_
      exact Run.pure.mono (Nat.zero_le _)
    · exact Run.pure.mono (Nat.zero_le _)
  unfold offPlain
  cases hpl : t1.plain with
  | true =>
    simp only [↓reduceIte]
    refine Run.bind (n := 0) (m := 17) (a := false) (s' := sh P (T (setO st)) N tk os) ?_ ?_
    · exact Run.pure
    · exact (tail _).mono (by omega)
  | false =>
    simp only [↓reduceIte, Bool.false_eq_true]
    refine Run.bind (n := 0) (m := 17) (a := true) (s' := sh P (T (setO st)) N tk os) ?_ ?_
    · exact Run.pure
    · exact (tail _).mono (by omega)
end
/-- the nine letters, with their texts' tokens -/
noncomputable def letters : List (Str × Nat) := [(Str.ofString "а", 473), (Str.ofString "е", 474), (Str.ofString "и", 475), (Str.ofString "о", 476), (Str.ofString "у", 477), (Str.ofString "ы", 478), (Str.ofString "э", 479), (Str.ofString "ю", 480), (Str.ofString "я", 481)]
noncomputable def setSt0 (P : Params) : SetSt := (#[], 0, SetTable.fresh 0 0 (!P.followText "set-order"))
noncomputable def addAll (P : Params) (l : List (Str × Nat)) (st : SetSt) : SetSt := l.foldl (fun st x => add1 (PyData.keyHash P x.1) (.str x.1 x.2) st) st
noncomputable def setSt1 (P : Params) : SetSt := addAll P letters (setSt0 P)
noncomputable def finO (st : SetSt) : Obj := ⟨.type "set", none, .set st.1 (st.2.1 + 1) { st.2.2 with led := false }, #[]⟩
theorem finO_eq (st : SetSt) : finO st = setO (st.1, st.2.1 + 1, { st.2.2 with led := false }) := rfl
noncomputable def setObj (P : Params) : Obj := finO (setSt1 P)
theorem hash_is (w : World) (k : Str) : (PySem.strKind pw w).hash k = PyData.keyHash w.params k := rfl
theorem inv0 (w : World) : Inv w (setSt0 w.params) [] := ⟨fun e he => by simp [setSt0] at he, fun k => by simp [setSt0], rfl, by simp [setSt0], rfl⟩
theorem inv_all (w : World) : ∀ (l : List (Str × Nat)) (pre : List Str) (st : SetSt), Inv w st pre → pre.length + l.length < 90 → Inv w (addAll w.params l st) (pre ++ l.map (·.1))
  | [], pre, st, I, _ => by simpa [addAll] using I
  | x :: l, pre, st, I, hb => by
    have hb' : pre.length + l.length + 1 < 90 := by simpa [Nat.add_assoc] using hb
    have := inv_all w l (pre ++ [x.1]) (add1 (PyData.keyHash w.params x.1) (.str x.1 x.2) st) (by have := I.add (k := x.1) (tok := x.2) (by rw [I.size]; omega); rw [hash_is] at this; exact this) (by simp; omega)
    simpa [addAll] using this
theorem inv1 (w : World) : Inv w (setSt1 w.params) (letters.map (·.1)) := inv_all w letters [] (setSt0 w.params) (inv0 w) (by decide)
/-- what the walk will need of the set -/
theorem setObj_is (w : World) : Obj.SetObjOf (PySem.strKind pw w) (setObj w.params) (fun k => decide (k ∈ letters.map (·.1))) 9 := by
  have I := inv1 w
  unfold setObj
  generalize setSt1 w.params = S at I ⊢
  have hf := I.fits
  obtain ⟨es, n, t⟩ := S
  unfold finO
  exact ⟨⟨rfl, rfl, rfl⟩, es, n + 1, { t with led := false }, rfl, I.el, I.mem, I.size, hf⟩
end Mine

end

-- HeadO
section
namespace Mine
noncomputable abbrev ks (x : String) (n : Nat) : Value := .str (Str.ofString x) n
noncomputable abbrev ke (P : Params) (x : String) (n : Nat) (v : Value) : DictEntry := ⟨PyData.keyHash P (Str.ofString x), ks x n, v⟩
noncomputable def o2 (P : Params) : Obj := ⟨.none, none, (.dict #[ke P "type.__subclasses__.Exception.0" 2429 (.int (722) 0), ke P "type.__subclasses__.Exception.n" 2430 (.int (3) 0), ke P "type.__subclasses__.Exception.1" 2449 (.int (735) 0), ke P "type.__subclasses__.Exception.2" 2469 (.int (748) 0)] 4), #[]⟩
noncomputable def o3 (P : Params) : Obj := ⟨(.type "dict"), none, (.dict #[ke P "__name__" 165 (ks "law_iu0026_01" 2473), ke P "__doc__" 166 .none, ke P "__package__" 167 .none, ke P "__loader__" 168 (.builtin "__main__.__loader__#opaque"), ke P "__spec__" 169 .none, ke P "__annotations__" 170 (.ref 6), ke P "__builtins__" 171 (.ref 4), ke P "__file__" 173 (ks "/claim/cut.py" 172), ke P "__cached__" 174 .none, ke P "_wall" 193 (.ref 21), ke P "BaseStemmer" 423 (.ref 197), ke P "Among" 458 (.ref 218), ke P "RussianStemmer" 2412 (.ref 710), ke P "lab0" 2432 (.ref 722), ke P "lab1" 2452 (.ref 735), ke P "lab2" 2472 (.ref 748), ke P "_law_vowels" 2480 (.ref 758), ke P "_law_signs" 2518 (.ref 759), ke P "_law_gerund" 2528 (.ref 762), ke P "_law_reflexive" 2531 (.ref 765), ke P "_law_adjective" 2558 (.ref 768), ke P "_law_participle" 2567 (.ref 771), ke P "_law_verb" 2614 (.ref 774), ke P "_law_noun" 2651 (.ref 777), ke P "_law_derived" 2654 (.ref 780), ke P "_law_highest" 2657 (.ref 783), ke P "_law_end" 2666 (.ref 790), ke P "_law_shorn" 2676 (.ref 797), ke P "_law_first" 2686 (.ref 804), ke P "_law_stem" 2692 (.ref 809), ke P "law" 2698 (.ref 814)] 31), #[]⟩
noncomputable def o11 (P : Params) : Obj := ⟨(.type "tuple"), none, (.seq #[] 0), #[]⟩
noncomputable def o12 (P : Params) : Obj := ⟨.none, none, (.fields #[(.int (1) 0), (.int (0) 0), (.ref 20), (.int (5) 0), (.int (0) 0), (.ref 27), (.int (148) 0), (.int (0) 0), (.ref 207), (.int (155) 0), (.int (0) 0), (.ref 228), (.int (431) 0), (.int (0) 0), (.ref 718), (.int (433) 0), (.int (0) 0), (.ref 731), (.int (435) 0), (.int (0) 0), (.ref 744), (.int (438) 0), (.int (0) 0), (.ref 757), (.int (449) 0), (.int (0) 0), (.ref 789), (.int (454) 0), (.int (0) 0), (.ref 796), (.int (460) 0), (.int (0) 0), (.ref 803), (.int (476) 0), (.int (0) 0), (.ref 808), (.int (494) 0), (.int (0) 0), (.ref 813)]), #[]⟩
noncomputable def o13 (P : Params) : Obj := ⟨(.type "code"), none, (.fields #[(ks "<module>" 182), (ks "<module>" 183), (ks "/claim/cut.py" 184), (.int (1) 0), (.int (0) 0), (.int (0) 0), (.int (0) 0), (.int (0) 0), (.ref 11), (.bool false), (.int (181) 0), (.ref 12), .none, .none, .none, .none, (.int (185) 0), (.int (1) 0), (ks "/claim/cut.py" 186)]), #[]⟩
noncomputable def o14 (P : Params) : Obj := ⟨(.type "frame"), none, .plain, #[(some (.ref 13)), (some (.ref 3)), (some (.ref 3)), none, (some (ks "__main__" 164)), none, (some (.ref 0))]⟩
noncomputable def o15 (P : Params) : Obj := ⟨(.type "tuple"), none, (.seq #[] 0), #[]⟩
noncomputable def o16 (P : Params) : Obj := ⟨.none, none, (.fields #[]), #[]⟩
noncomputable def o17 (P : Params) : Obj := ⟨(.type "tuple"), none, (.seq #[(ks "k" 190)] 0), #[]⟩
noncomputable def o18 (P : Params) : Obj := ⟨(.type "tuple"), none, (.seq #[] 0), #[]⟩
noncomputable def o19 (P : Params) : Obj := ⟨.none, none, (.func { name := (Str.ofString "_wall"), qualname := (Str.ofString "_wall"), params := fA (tS 0), body := .stmts (fB (tS 0)), scope := fS (tS 0), globals := 0, closure := [], defaults := .none, kwdefaults := .none, doc := .none, pyModule := .none, annotations := none, code := .none, closureTuple := .none, builtins := 0 }), #[]⟩
noncomputable def o20 (P : Params) : Obj := ⟨(.type "code"), none, (.fields #[(ks "_wall" 187), (ks "_wall" 188), (ks "/claim/cut.py" 189), (.int (1) 0), (.int (1) 0), (.int (0) 0), (.int (0) 0), (.int (3) 0), (.ref 15), (.bool true), (.int (181) 0), (.ref 16), .none, (.ref 17), (.ref 18), (.ref 19), (.int (191) 0), (.int (1) 0), (ks "/claim/cut.py" 192)]), #[]⟩
noncomputable def o21 (P : Params) : Obj := ⟨(.type "function"), none, (.func { name := (Str.ofString "_wall"), qualname := (Str.ofString "_wall"), params := fA (tS 0), body := .stmts (fB (tS 0)), scope := fS (tS 0), globals := 3, closure := [], defaults := .none, kwdefaults := .none, doc := .none, pyModule := (ks "__main__" 164), annotations := none, code := (.ref 20), closureTuple := .none, builtins := 0 }), #[]⟩
noncomputable def o22 (P : Params) : Obj := ⟨(.type "tuple"), none, (.seq #[] 0), #[]⟩
noncomputable def o23 (P : Params) : Obj := ⟨(.type "builtin_function_or_method"), none, (.fields #[(.builtin "type.__prepare__"), (.type "type")]), #[]⟩
noncomputable def o24 (P : Params) : Obj := ⟨(.type "dict"), none, (.dict #[ke P "__module__" 203 (ks "snowballstemmer.basestemmer" 194), ke P "__qualname__" 205 (ks "BaseStemmer" 204), ke P "__firstlineno__" 207 (.int (5) 206), ke P "__init__" 214 (.ref 35), ke P "set_current" 222 (.ref 42), ke P "get_current" 229 (.ref 49), ke P "copy_from" 237 (.ref 56), ke P "in_grouping" 245 (.ref 63), ke P "go_in_grouping" 253 (.ref 70), ke P "in_grouping_b" 261 (.ref 77), ke P "go_in_grouping_b" 269 (.ref 84), ke P "out_grouping" 277 (.ref 91), ke P "go_out_grouping" 285 (.ref 98), ke P "out_grouping_b" 293 (.ref 105), ke P "go_out_grouping_b" 301 (.ref 112), ke P "eq_s" 309 (.ref 119), ke P "eq_s_b" 317 (.ref 126), ke P "find_among" 325 (.ref 133), ke P "find_among_b" 345 (.ref 140), ke P "replace_s" 356 (.ref 147), ke P "slice_from" 364 (.ref 154), ke P "slice_del" 371 (.ref 161), ke P "insert" 381 (.ref 168), ke P "slice_to" 388 (.ref 175), ke P "assign_to" 395 (.ref 182), ke P "stemWord" 403 (.ref 189), ke P "stemWords" 409 (.ref 194), ke P "__static_attributes__" 416 (.ref 195)] 28), #[]⟩
noncomputable def o25 (P : Params) : Obj := ⟨(.type "tuple"), none, (.seq #[] 0), #[]⟩
noncomputable def o26 (P : Params) : Obj := ⟨.none, none, (.fields #[(.int (7) 0), (.int (4) 0), (.ref 34), (.int (10) 0), (.int (4) 0), (.ref 41), (.int (18) 0), (.int (4) 0), (.ref 48), (.int (21) 0), (.int (4) 0), (.ref 55), (.int (24) 0), (.int (4) 0), (.ref 62), (.int (27) 0), (.int (4) 0), (.ref 69), (.int (34) 0), (.int (4) 0), (.ref 76), (.int (37) 0), (.int (4) 0), (.ref 83), (.int (40) 0), (.int (4) 0), (.ref 90), (.int (43) 0), (.int (4) 0), (.ref 97), (.int (50) 0), (.int (4) 0), (.ref 104), (.int (53) 0), (.int (4) 0), (.ref 111), (.int (56) 0), (.int (4) 0), (.ref 118), (.int (59) 0), (.int (4) 0), (.ref 125), (.int (62) 0), (.int (4) 0), (.ref 132), (.int (65) 0), (.int (4) 0), (.ref 139), (.int (110) 0), (.int (4) 0), (.ref 146), (.int (120) 0), (.int (4) 0), (.ref 153), (.int (128) 0), (.int (4) 0), (.ref 160), (.int (131) 0), (.int (4) 0), (.ref 167), (.int (134) 0), (.int (4) 0), (.ref 174), (.int (137) 0), (.int (4) 0), (.ref 181), (.int (140) 0), (.int (4) 0), (.ref 188), (.int (145) 0), (.int (4) 0), (.ref 193)]), #[]⟩
noncomputable def o27 (P : Params) : Obj := ⟨(.type "code"), none, (.fields #[(ks "BaseStemmer" 198), (ks "BaseStemmer" 199), (ks "/claim/cut.py" 200), (.int (5) 0), (.int (0) 0), (.int (0) 0), (.int (0) 0), (.int (0) 0), (.ref 25), (.bool false), (.int (181) 0), (.ref 26), .none, .none, .none, .none, (.int (201) 0), (.int (5) 0), (ks "/claim/cut.py" 202)]), #[]⟩
noncomputable def o28 (P : Params) : Obj := ⟨(.type "frame"), none, .plain, #[(some (.ref 27)), (some (.ref 3)), (some (.ref 24)), none, (some (ks "snowballstemmer.basestemmer" 194)), none, (some (.ref 0))]⟩
noncomputable def o29 (P : Params) : Obj := ⟨(.type "tuple"), none, (.seq #[] 0), #[]⟩
noncomputable def o30 (P : Params) : Obj := ⟨.none, none, (.fields #[]), #[]⟩
noncomputable def o31 (P : Params) : Obj := ⟨(.type "tuple"), none, (.seq #[(ks "self" 211)] 0), #[]⟩
noncomputable def o32 (P : Params) : Obj := ⟨(.type "tuple"), none, (.seq #[] 0), #[]⟩
noncomputable def o33 (P : Params) : Obj := ⟨.none, none, (.func { name := (Str.ofString "__init__"), qualname := (Str.ofString "BaseStemmer.__init__"), params := fA (cS 2 0), body := .stmts (fB (cS 2 0)), scope := fS (cS 2 0), globals := 0, closure := [], defaults := .none, kwdefaults := .none, doc := .none, pyModule := .none, annotations := none, code := .none, closureTuple := .none, builtins := 0 }), #[]⟩
noncomputable def o34 (P : Params) : Obj := ⟨(.type "code"), none, (.fields #[(ks "__init__" 208), (ks "BaseStemmer.__init__" 209), (ks "/claim/cut.py" 210), (.int (7) 0), (.int (1) 0), (.int (0) 0), (.int (0) 0), (.int (3) 0), (.ref 29), (.bool true), (.int (181) 0), (.ref 30), .none, (.ref 31), (.ref 32), (.ref 33), (.int (212) 0), (.int (7) 0), (ks "/claim/cut.py" 213)]), #[]⟩
noncomputable def o35 (P : Params) : Obj := ⟨(.type "function"), none, (.func { name := (Str.ofString "__init__"), qualname := (Str.ofString "BaseStemmer.__init__"), params := fA (cS 2 0), body := .stmts (fB (cS 2 0)), scope := fS (cS 2 0), globals := 3, closure := [], defaults := .none, kwdefaults := .none, doc := .none, pyModule := (ks "snowballstemmer.basestemmer" 194), annotations := none, code := (.ref 34), closureTuple := .none, builtins := 0 }), #[]⟩
noncomputable def o36 (P : Params) : Obj := ⟨(.type "tuple"), none, (.seq #[] 0), #[]⟩
noncomputable def o37 (P : Params) : Obj := ⟨.none, none, (.fields #[]), #[]⟩
noncomputable def o38 (P : Params) : Obj := ⟨(.type "tuple"), none, (.seq #[(ks "self" 218), (ks "value" 219)] 0), #[]⟩
noncomputable def o39 (P : Params) : Obj := ⟨(.type "tuple"), none, (.seq #[] 0), #[]⟩
noncomputable def o40 (P : Params) : Obj := ⟨.none, none, (.func { name := (Str.ofString "set_current"), qualname := (Str.ofString "BaseStemmer.set_current"), params := fA (cS 2 1), body := .stmts (fB (cS 2 1)), scope := fS (cS 2 1), globals := 0, closure := [], defaults := .none, kwdefaults := .none, doc := .none, pyModule := .none, annotations := none, code := .none, closureTuple := .none, builtins := 0 }), #[]⟩
noncomputable def o41 (P : Params) : Obj := ⟨(.type "code"), none, (.fields #[(ks "set_current" 215), (ks "BaseStemmer.set_current" 216), (ks "/claim/cut.py" 217), (.int (10) 0), (.int (2) 0), (.int (0) 0), (.int (0) 0), (.int (3) 0), (.ref 36), (.bool true), (.int (181) 0), (.ref 37), .none, (.ref 38), (.ref 39), (.ref 40), (.int (220) 0), (.int (10) 0), (ks "/claim/cut.py" 221)]), #[]⟩
noncomputable def o42 (P : Params) : Obj := ⟨(.type "function"), none, (.func { name := (Str.ofString "set_current"), qualname := (Str.ofString "BaseStemmer.set_current"), params := fA (cS 2 1), body := .stmts (fB (cS 2 1)), scope := fS (cS 2 1), globals := 3, closure := [], defaults := .none, kwdefaults := .none, doc := .none, pyModule := (ks "snowballstemmer.basestemmer" 194), annotations := none, code := (.ref 41), closureTuple := .none, builtins := 0 }), #[]⟩
noncomputable def o43 (P : Params) : Obj := ⟨(.type "tuple"), none, (.seq #[] 0), #[]⟩
noncomputable def o44 (P : Params) : Obj := ⟨.none, none, (.fields #[]), #[]⟩
noncomputable def o45 (P : Params) : Obj := ⟨(.type "tuple"), none, (.seq #[(ks "self" 226)] 0), #[]⟩
noncomputable def o46 (P : Params) : Obj := ⟨(.type "tuple"), none, (.seq #[] 0), #[]⟩
noncomputable def o47 (P : Params) : Obj := ⟨.none, none, (.func { name := (Str.ofString "get_current"), qualname := (Str.ofString "BaseStemmer.get_current"), params := fA (cS 2 2), body := .stmts (fB (cS 2 2)), scope := fS (cS 2 2), globals := 0, closure := [], defaults := .none, kwdefaults := .none, doc := .none, pyModule := .none, annotations := none, code := .none, closureTuple := .none, builtins := 0 }), #[]⟩
noncomputable def o48 (P : Params) : Obj := ⟨(.type "code"), none, (.fields #[(ks "get_current" 223), (ks "BaseStemmer.get_current" 224), (ks "/claim/cut.py" 225), (.int (18) 0), (.int (1) 0), (.int (0) 0), (.int (0) 0), (.int (3) 0), (.ref 43), (.bool true), (.int (181) 0), (.ref 44), .none, (.ref 45), (.ref 46), (.ref 47), (.int (227) 0), (.int (18) 0), (ks "/claim/cut.py" 228)]), #[]⟩
noncomputable def o49 (P : Params) : Obj := ⟨(.type "function"), none, (.func { name := (Str.ofString "get_current"), qualname := (Str.ofString "BaseStemmer.get_current"), params := fA (cS 2 2), body := .stmts (fB (cS 2 2)), scope := fS (cS 2 2), globals := 3, closure := [], defaults := .none, kwdefaults := .none, doc := .none, pyModule := (ks "snowballstemmer.basestemmer" 194), annotations := none, code := (.ref 48), closureTuple := .none, builtins := 0 }), #[]⟩
noncomputable def o50 (P : Params) : Obj := ⟨(.type "tuple"), none, (.seq #[] 0), #[]⟩
noncomputable def o51 (P : Params) : Obj := ⟨.none, none, (.fields #[]), #[]⟩
noncomputable def o52 (P : Params) : Obj := ⟨(.type "tuple"), none, (.seq #[(ks "self" 233), (ks "other" 234)] 0), #[]⟩
noncomputable def o53 (P : Params) : Obj := ⟨(.type "tuple"), none, (.seq #[] 0), #[]⟩
noncomputable def o54 (P : Params) : Obj := ⟨.none, none, (.func { name := (Str.ofString "copy_from"), qualname := (Str.ofString "BaseStemmer.copy_from"), params := fA (cS 2 3), body := .stmts (fB (cS 2 3)), scope := fS (cS 2 3), globals := 0, closure := [], defaults := .none, kwdefaults := .none, doc := .none, pyModule := .none, annotations := none, code := .none, closureTuple := .none, builtins := 0 }), #[]⟩
noncomputable def o55 (P : Params) : Obj := ⟨(.type "code"), none, (.fields #[(ks "copy_from" 230), (ks "BaseStemmer.copy_from" 231), (ks "/claim/cut.py" 232), (.int (21) 0), (.int (2) 0), (.int (0) 0), (.int (0) 0), (.int (3) 0), (.ref 50), (.bool true), (.int (181) 0), (.ref 51), .none, (.ref 52), (.ref 53), (.ref 54), (.int (235) 0), (.int (21) 0), (ks "/claim/cut.py" 236)]), #[]⟩
noncomputable def o56 (P : Params) : Obj := ⟨(.type "function"), none, (.func { name := (Str.ofString "copy_from"), qualname := (Str.ofString "BaseStemmer.copy_from"), params := fA (cS 2 3), body := .stmts (fB (cS 2 3)), scope := fS (cS 2 3), globals := 3, closure := [], defaults := .none, kwdefaults := .none, doc := .none, pyModule := (ks "snowballstemmer.basestemmer" 194), annotations := none, code := (.ref 55), closureTuple := .none, builtins := 0 }), #[]⟩
noncomputable def o57 (P : Params) : Obj := ⟨(.type "tuple"), none, (.seq #[] 0), #[]⟩
noncomputable def o58 (P : Params) : Obj := ⟨.none, none, (.fields #[]), #[]⟩
noncomputable def o59 (P : Params) : Obj := ⟨(.type "tuple"), none, (.seq #[(ks "self" 241), (ks "s" 242)] 0), #[]⟩
noncomputable def o60 (P : Params) : Obj := ⟨(.type "tuple"), none, (.seq #[] 0), #[]⟩
noncomputable def o61 (P : Params) : Obj := ⟨.none, none, (.func { name := (Str.ofString "in_grouping"), qualname := (Str.ofString "BaseStemmer.in_grouping"), params := fA (cS 2 4), body := .stmts (fB (cS 2 4)), scope := fS (cS 2 4), globals := 0, closure := [], defaults := .none, kwdefaults := .none, doc := .none, pyModule := .none, annotations := none, code := .none, closureTuple := .none, builtins := 0 }), #[]⟩
noncomputable def o62 (P : Params) : Obj := ⟨(.type "code"), none, (.fields #[(ks "in_grouping" 238), (ks "BaseStemmer.in_grouping" 239), (ks "/claim/cut.py" 240), (.int (24) 0), (.int (2) 0), (.int (0) 0), (.int (0) 0), (.int (3) 0), (.ref 57), (.bool true), (.int (181) 0), (.ref 58), .none, (.ref 59), (.ref 60), (.ref 61), (.int (243) 0), (.int (24) 0), (ks "/claim/cut.py" 244)]), #[]⟩
noncomputable def o63 (P : Params) : Obj := ⟨(.type "function"), none, (.func { name := (Str.ofString "in_grouping"), qualname := (Str.ofString "BaseStemmer.in_grouping"), params := fA (cS 2 4), body := .stmts (fB (cS 2 4)), scope := fS (cS 2 4), globals := 3, closure := [], defaults := .none, kwdefaults := .none, doc := .none, pyModule := (ks "snowballstemmer.basestemmer" 194), annotations := none, code := (.ref 62), closureTuple := .none, builtins := 0 }), #[]⟩
noncomputable def o64 (P : Params) : Obj := ⟨(.type "tuple"), none, (.seq #[] 0), #[]⟩
noncomputable def o65 (P : Params) : Obj := ⟨.none, none, (.fields #[]), #[]⟩
noncomputable def o66 (P : Params) : Obj := ⟨(.type "tuple"), none, (.seq #[(ks "self" 249), (ks "s" 250)] 0), #[]⟩
noncomputable def o67 (P : Params) : Obj := ⟨(.type "tuple"), none, (.seq #[] 0), #[]⟩
noncomputable def o68 (P : Params) : Obj := ⟨.none, none, (.func { name := (Str.ofString "go_in_grouping"), qualname := (Str.ofString "BaseStemmer.go_in_grouping"), params := fA (cS 2 5), body := .stmts (fB (cS 2 5)), scope := fS (cS 2 5), globals := 0, closure := [], defaults := .none, kwdefaults := .none, doc := .none, pyModule := .none, annotations := none, code := .none, closureTuple := .none, builtins := 0 }), #[]⟩
noncomputable def o69 (P : Params) : Obj := ⟨(.type "code"), none, (.fields #[(ks "go_in_grouping" 246), (ks "BaseStemmer.go_in_grouping" 247), (ks "/claim/cut.py" 248), (.int (27) 0), (.int (2) 0), (.int (0) 0), (.int (0) 0), (.int (3) 0), (.ref 64), (.bool true), (.int (181) 0), (.ref 65), .none, (.ref 66), (.ref 67), (.ref 68), (.int (251) 0), (.int (27) 0), (ks "/claim/cut.py" 252)]), #[]⟩
noncomputable def o70 (P : Params) : Obj := ⟨(.type "function"), none, (.func { name := (Str.ofString "go_in_grouping"), qualname := (Str.ofString "BaseStemmer.go_in_grouping"), params := fA (cS 2 5), body := .stmts (fB (cS 2 5)), scope := fS (cS 2 5), globals := 3, closure := [], defaults := .none, kwdefaults := .none, doc := .none, pyModule := (ks "snowballstemmer.basestemmer" 194), annotations := none, code := (.ref 69), closureTuple := .none, builtins := 0 }), #[]⟩
noncomputable def o71 (P : Params) : Obj := ⟨(.type "tuple"), none, (.seq #[] 0), #[]⟩
noncomputable def o72 (P : Params) : Obj := ⟨.none, none, (.fields #[]), #[]⟩
noncomputable def o73 (P : Params) : Obj := ⟨(.type "tuple"), none, (.seq #[(ks "self" 257), (ks "s" 258)] 0), #[]⟩
noncomputable def o74 (P : Params) : Obj := ⟨(.type "tuple"), none, (.seq #[] 0), #[]⟩
noncomputable def o75 (P : Params) : Obj := ⟨.none, none, (.func { name := (Str.ofString "in_grouping_b"), qualname := (Str.ofString "BaseStemmer.in_grouping_b"), params := fA (cS 2 6), body := .stmts (fB (cS 2 6)), scope := fS (cS 2 6), globals := 0, closure := [], defaults := .none, kwdefaults := .none, doc := .none, pyModule := .none, annotations := none, code := .none, closureTuple := .none, builtins := 0 }), #[]⟩
noncomputable def o76 (P : Params) : Obj := ⟨(.type "code"), none, (.fields #[(ks "in_grouping_b" 254), (ks "BaseStemmer.in_grouping_b" 255), (ks "/claim/cut.py" 256), (.int (34) 0), (.int (2) 0), (.int (0) 0), (.int (0) 0), (.int (3) 0), (.ref 71), (.bool true), (.int (181) 0), (.ref 72), .none, (.ref 73), (.ref 74), (.ref 75), (.int (259) 0), (.int (34) 0), (ks "/claim/cut.py" 260)]), #[]⟩
noncomputable def o77 (P : Params) : Obj := ⟨(.type "function"), none, (.func { name := (Str.ofString "in_grouping_b"), qualname := (Str.ofString "BaseStemmer.in_grouping_b"), params := fA (cS 2 6), body := .stmts (fB (cS 2 6)), scope := fS (cS 2 6), globals := 3, closure := [], defaults := .none, kwdefaults := .none, doc := .none, pyModule := (ks "snowballstemmer.basestemmer" 194), annotations := none, code := (.ref 76), closureTuple := .none, builtins := 0 }), #[]⟩
noncomputable def o78 (P : Params) : Obj := ⟨(.type "tuple"), none, (.seq #[] 0), #[]⟩
noncomputable def o79 (P : Params) : Obj := ⟨.none, none, (.fields #[]), #[]⟩
noncomputable def o80 (P : Params) : Obj := ⟨(.type "tuple"), none, (.seq #[(ks "self" 265), (ks "s" 266)] 0), #[]⟩
noncomputable def o81 (P : Params) : Obj := ⟨(.type "tuple"), none, (.seq #[] 0), #[]⟩
noncomputable def o82 (P : Params) : Obj := ⟨.none, none, (.func { name := (Str.ofString "go_in_grouping_b"), qualname := (Str.ofString "BaseStemmer.go_in_grouping_b"), params := fA (cS 2 7), body := .stmts (fB (cS 2 7)), scope := fS (cS 2 7), globals := 0, closure := [], defaults := .none, kwdefaults := .none, doc := .none, pyModule := .none, annotations := none, code := .none, closureTuple := .none, builtins := 0 }), #[]⟩
noncomputable def o83 (P : Params) : Obj := ⟨(.type "code"), none, (.fields #[(ks "go_in_grouping_b" 262), (ks "BaseStemmer.go_in_grouping_b" 263), (ks "/claim/cut.py" 264), (.int (37) 0), (.int (2) 0), (.int (0) 0), (.int (0) 0), (.int (3) 0), (.ref 78), (.bool true), (.int (181) 0), (.ref 79), .none, (.ref 80), (.ref 81), (.ref 82), (.int (267) 0), (.int (37) 0), (ks "/claim/cut.py" 268)]), #[]⟩
noncomputable def o84 (P : Params) : Obj := ⟨(.type "function"), none, (.func { name := (Str.ofString "go_in_grouping_b"), qualname := (Str.ofString "BaseStemmer.go_in_grouping_b"), params := fA (cS 2 7), body := .stmts (fB (cS 2 7)), scope := fS (cS 2 7), globals := 3, closure := [], defaults := .none, kwdefaults := .none, doc := .none, pyModule := (ks "snowballstemmer.basestemmer" 194), annotations := none, code := (.ref 83), closureTuple := .none, builtins := 0 }), #[]⟩
noncomputable def o85 (P : Params) : Obj := ⟨(.type "tuple"), none, (.seq #[] 0), #[]⟩
noncomputable def o86 (P : Params) : Obj := ⟨.none, none, (.fields #[]), #[]⟩
noncomputable def o87 (P : Params) : Obj := ⟨(.type "tuple"), none, (.seq #[(ks "self" 273), (ks "s" 274)] 0), #[]⟩
noncomputable def o88 (P : Params) : Obj := ⟨(.type "tuple"), none, (.seq #[] 0), #[]⟩
noncomputable def o89 (P : Params) : Obj := ⟨.none, none, (.func { name := (Str.ofString "out_grouping"), qualname := (Str.ofString "BaseStemmer.out_grouping"), params := fA (cS 2 8), body := .stmts (fB (cS 2 8)), scope := fS (cS 2 8), globals := 0, closure := [], defaults := .none, kwdefaults := .none, doc := .none, pyModule := .none, annotations := none, code := .none, closureTuple := .none, builtins := 0 }), #[]⟩
noncomputable def o90 (P : Params) : Obj := ⟨(.type "code"), none, (.fields #[(ks "out_grouping" 270), (ks "BaseStemmer.out_grouping" 271), (ks "/claim/cut.py" 272), (.int (40) 0), (.int (2) 0), (.int (0) 0), (.int (0) 0), (.int (3) 0), (.ref 85), (.bool true), (.int (181) 0), (.ref 86), .none, (.ref 87), (.ref 88), (.ref 89), (.int (275) 0), (.int (40) 0), (ks "/claim/cut.py" 276)]), #[]⟩
noncomputable def o91 (P : Params) : Obj := ⟨(.type "function"), none, (.func { name := (Str.ofString "out_grouping"), qualname := (Str.ofString "BaseStemmer.out_grouping"), params := fA (cS 2 8), body := .stmts (fB (cS 2 8)), scope := fS (cS 2 8), globals := 3, closure := [], defaults := .none, kwdefaults := .none, doc := .none, pyModule := (ks "snowballstemmer.basestemmer" 194), annotations := none, code := (.ref 90), closureTuple := .none, builtins := 0 }), #[]⟩
noncomputable def o92 (P : Params) : Obj := ⟨(.type "tuple"), none, (.seq #[] 0), #[]⟩
noncomputable def o93 (P : Params) : Obj := ⟨.none, none, (.fields #[]), #[]⟩
noncomputable def o94 (P : Params) : Obj := ⟨(.type "tuple"), none, (.seq #[(ks "self" 281), (ks "s" 282)] 0), #[]⟩
noncomputable def o95 (P : Params) : Obj := ⟨(.type "tuple"), none, (.seq #[] 0), #[]⟩
noncomputable def o96 (P : Params) : Obj := ⟨.none, none, (.func { name := (Str.ofString "go_out_grouping"), qualname := (Str.ofString "BaseStemmer.go_out_grouping"), params := fA (cS 2 9), body := .stmts (fB (cS 2 9)), scope := fS (cS 2 9), globals := 0, closure := [], defaults := .none, kwdefaults := .none, doc := .none, pyModule := .none, annotations := none, code := .none, closureTuple := .none, builtins := 0 }), #[]⟩
noncomputable def o97 (P : Params) : Obj := ⟨(.type "code"), none, (.fields #[(ks "go_out_grouping" 278), (ks "BaseStemmer.go_out_grouping" 279), (ks "/claim/cut.py" 280), (.int (43) 0), (.int (2) 0), (.int (0) 0), (.int (0) 0), (.int (3) 0), (.ref 92), (.bool true), (.int (181) 0), (.ref 93), .none, (.ref 94), (.ref 95), (.ref 96), (.int (283) 0), (.int (43) 0), (ks "/claim/cut.py" 284)]), #[]⟩
noncomputable def o98 (P : Params) : Obj := ⟨(.type "function"), none, (.func { name := (Str.ofString "go_out_grouping"), qualname := (Str.ofString "BaseStemmer.go_out_grouping"), params := fA (cS 2 9), body := .stmts (fB (cS 2 9)), scope := fS (cS 2 9), globals := 3, closure := [], defaults := .none, kwdefaults := .none, doc := .none, pyModule := (ks "snowballstemmer.basestemmer" 194), annotations := none, code := (.ref 97), closureTuple := .none, builtins := 0 }), #[]⟩
noncomputable def o99 (P : Params) : Obj := ⟨(.type "tuple"), none, (.seq #[] 0), #[]⟩
noncomputable def o100 (P : Params) : Obj := ⟨.none, none, (.fields #[]), #[]⟩
noncomputable def o101 (P : Params) : Obj := ⟨(.type "tuple"), none, (.seq #[(ks "self" 289), (ks "s" 290)] 0), #[]⟩
noncomputable def o102 (P : Params) : Obj := ⟨(.type "tuple"), none, (.seq #[] 0), #[]⟩
noncomputable def o103 (P : Params) : Obj := ⟨.none, none, (.func { name := (Str.ofString "out_grouping_b"), qualname := (Str.ofString "BaseStemmer.out_grouping_b"), params := fA (cS 2 10), body := .stmts (fB (cS 2 10)), scope := fS (cS 2 10), globals := 0, closure := [], defaults := .none, kwdefaults := .none, doc := .none, pyModule := .none, annotations := none, code := .none, closureTuple := .none, builtins := 0 }), #[]⟩
noncomputable def o104 (P : Params) : Obj := ⟨(.type "code"), none, (.fields #[(ks "out_grouping_b" 286), (ks "BaseStemmer.out_grouping_b" 287), (ks "/claim/cut.py" 288), (.int (50) 0), (.int (2) 0), (.int (0) 0), (.int (0) 0), (.int (3) 0), (.ref 99), (.bool true), (.int (181) 0), (.ref 100), .none, (.ref 101), (.ref 102), (.ref 103), (.int (291) 0), (.int (50) 0), (ks "/claim/cut.py" 292)]), #[]⟩
noncomputable def o105 (P : Params) : Obj := ⟨(.type "function"), none, (.func { name := (Str.ofString "out_grouping_b"), qualname := (Str.ofString "BaseStemmer.out_grouping_b"), params := fA (cS 2 10), body := .stmts (fB (cS 2 10)), scope := fS (cS 2 10), globals := 3, closure := [], defaults := .none, kwdefaults := .none, doc := .none, pyModule := (ks "snowballstemmer.basestemmer" 194), annotations := none, code := (.ref 104), closureTuple := .none, builtins := 0 }), #[]⟩
noncomputable def o106 (P : Params) : Obj := ⟨(.type "tuple"), none, (.seq #[] 0), #[]⟩
noncomputable def o107 (P : Params) : Obj := ⟨.none, none, (.fields #[]), #[]⟩
noncomputable def o108 (P : Params) : Obj := ⟨(.type "tuple"), none, (.seq #[(ks "self" 297), (ks "s" 298)] 0), #[]⟩
noncomputable def o109 (P : Params) : Obj := ⟨(.type "tuple"), none, (.seq #[] 0), #[]⟩
noncomputable def o110 (P : Params) : Obj := ⟨.none, none, (.func { name := (Str.ofString "go_out_grouping_b"), qualname := (Str.ofString "BaseStemmer.go_out_grouping_b"), params := fA (cS 2 11), body := .stmts (fB (cS 2 11)), scope := fS (cS 2 11), globals := 0, closure := [], defaults := .none, kwdefaults := .none, doc := .none, pyModule := .none, annotations := none, code := .none, closureTuple := .none, builtins := 0 }), #[]⟩
noncomputable def o111 (P : Params) : Obj := ⟨(.type "code"), none, (.fields #[(ks "go_out_grouping_b" 294), (ks "BaseStemmer.go_out_grouping_b" 295), (ks "/claim/cut.py" 296), (.int (53) 0), (.int (2) 0), (.int (0) 0), (.int (0) 0), (.int (3) 0), (.ref 106), (.bool true), (.int (181) 0), (.ref 107), .none, (.ref 108), (.ref 109), (.ref 110), (.int (299) 0), (.int (53) 0), (ks "/claim/cut.py" 300)]), #[]⟩
noncomputable def o112 (P : Params) : Obj := ⟨(.type "function"), none, (.func { name := (Str.ofString "go_out_grouping_b"), qualname := (Str.ofString "BaseStemmer.go_out_grouping_b"), params := fA (cS 2 11), body := .stmts (fB (cS 2 11)), scope := fS (cS 2 11), globals := 3, closure := [], defaults := .none, kwdefaults := .none, doc := .none, pyModule := (ks "snowballstemmer.basestemmer" 194), annotations := none, code := (.ref 111), closureTuple := .none, builtins := 0 }), #[]⟩
noncomputable def o113 (P : Params) : Obj := ⟨(.type "tuple"), none, (.seq #[] 0), #[]⟩
noncomputable def o114 (P : Params) : Obj := ⟨.none, none, (.fields #[]), #[]⟩
noncomputable def o115 (P : Params) : Obj := ⟨(.type "tuple"), none, (.seq #[(ks "self" 305), (ks "s" 306)] 0), #[]⟩
noncomputable def o116 (P : Params) : Obj := ⟨(.type "tuple"), none, (.seq #[] 0), #[]⟩
noncomputable def o117 (P : Params) : Obj := ⟨.none, none, (.func { name := (Str.ofString "eq_s"), qualname := (Str.ofString "BaseStemmer.eq_s"), params := fA (cS 2 12), body := .stmts (fB (cS 2 12)), scope := fS (cS 2 12), globals := 0, closure := [], defaults := .none, kwdefaults := .none, doc := .none, pyModule := .none, annotations := none, code := .none, closureTuple := .none, builtins := 0 }), #[]⟩
noncomputable def o118 (P : Params) : Obj := ⟨(.type "code"), none, (.fields #[(ks "eq_s" 302), (ks "BaseStemmer.eq_s" 303), (ks "/claim/cut.py" 304), (.int (56) 0), (.int (2) 0), (.int (0) 0), (.int (0) 0), (.int (3) 0), (.ref 113), (.bool true), (.int (181) 0), (.ref 114), .none, (.ref 115), (.ref 116), (.ref 117), (.int (307) 0), (.int (56) 0), (ks "/claim/cut.py" 308)]), #[]⟩
noncomputable def o119 (P : Params) : Obj := ⟨(.type "function"), none, (.func { name := (Str.ofString "eq_s"), qualname := (Str.ofString "BaseStemmer.eq_s"), params := fA (cS 2 12), body := .stmts (fB (cS 2 12)), scope := fS (cS 2 12), globals := 3, closure := [], defaults := .none, kwdefaults := .none, doc := .none, pyModule := (ks "snowballstemmer.basestemmer" 194), annotations := none, code := (.ref 118), closureTuple := .none, builtins := 0 }), #[]⟩
noncomputable def o120 (P : Params) : Obj := ⟨(.type "tuple"), none, (.seq #[] 0), #[]⟩
noncomputable def o121 (P : Params) : Obj := ⟨.none, none, (.fields #[]), #[]⟩
noncomputable def o122 (P : Params) : Obj := ⟨(.type "tuple"), none, (.seq #[(ks "self" 313), (ks "s" 314)] 0), #[]⟩
noncomputable def o123 (P : Params) : Obj := ⟨(.type "tuple"), none, (.seq #[] 0), #[]⟩
noncomputable def o124 (P : Params) : Obj := ⟨.none, none, (.func { name := (Str.ofString "eq_s_b"), qualname := (Str.ofString "BaseStemmer.eq_s_b"), params := fA (cS 2 13), body := .stmts (fB (cS 2 13)), scope := fS (cS 2 13), globals := 0, closure := [], defaults := .none, kwdefaults := .none, doc := .none, pyModule := .none, annotations := none, code := .none, closureTuple := .none, builtins := 0 }), #[]⟩
noncomputable def o125 (P : Params) : Obj := ⟨(.type "code"), none, (.fields #[(ks "eq_s_b" 310), (ks "BaseStemmer.eq_s_b" 311), (ks "/claim/cut.py" 312), (.int (59) 0), (.int (2) 0), (.int (0) 0), (.int (0) 0), (.int (3) 0), (.ref 120), (.bool true), (.int (181) 0), (.ref 121), .none, (.ref 122), (.ref 123), (.ref 124), (.int (315) 0), (.int (59) 0), (ks "/claim/cut.py" 316)]), #[]⟩
noncomputable def o126 (P : Params) : Obj := ⟨(.type "function"), none, (.func { name := (Str.ofString "eq_s_b"), qualname := (Str.ofString "BaseStemmer.eq_s_b"), params := fA (cS 2 13), body := .stmts (fB (cS 2 13)), scope := fS (cS 2 13), globals := 3, closure := [], defaults := .none, kwdefaults := .none, doc := .none, pyModule := (ks "snowballstemmer.basestemmer" 194), annotations := none, code := (.ref 125), closureTuple := .none, builtins := 0 }), #[]⟩
noncomputable def o127 (P : Params) : Obj := ⟨(.type "tuple"), none, (.seq #[] 0), #[]⟩
noncomputable def o128 (P : Params) : Obj := ⟨.none, none, (.fields #[]), #[]⟩
noncomputable def o129 (P : Params) : Obj := ⟨(.type "tuple"), none, (.seq #[(ks "self" 321), (ks "v" 322)] 0), #[]⟩
noncomputable def o130 (P : Params) : Obj := ⟨(.type "tuple"), none, (.seq #[] 0), #[]⟩
noncomputable def o131 (P : Params) : Obj := ⟨.none, none, (.func { name := (Str.ofString "find_among"), qualname := (Str.ofString "BaseStemmer.find_among"), params := fA (cS 2 14), body := .stmts (fB (cS 2 14)), scope := fS (cS 2 14), globals := 0, closure := [], defaults := .none, kwdefaults := .none, doc := .none, pyModule := .none, annotations := none, code := .none, closureTuple := .none, builtins := 0 }), #[]⟩
noncomputable def o132 (P : Params) : Obj := ⟨(.type "code"), none, (.fields #[(ks "find_among" 318), (ks "BaseStemmer.find_among" 319), (ks "/claim/cut.py" 320), (.int (62) 0), (.int (2) 0), (.int (0) 0), (.int (0) 0), (.int (3) 0), (.ref 127), (.bool true), (.int (181) 0), (.ref 128), .none, (.ref 129), (.ref 130), (.ref 131), (.int (323) 0), (.int (62) 0), (ks "/claim/cut.py" 324)]), #[]⟩
noncomputable def o133 (P : Params) : Obj := ⟨(.type "function"), none, (.func { name := (Str.ofString "find_among"), qualname := (Str.ofString "BaseStemmer.find_among"), params := fA (cS 2 14), body := .stmts (fB (cS 2 14)), scope := fS (cS 2 14), globals := 3, closure := [], defaults := .none, kwdefaults := .none, doc := .none, pyModule := (ks "snowballstemmer.basestemmer" 194), annotations := none, code := (.ref 132), closureTuple := .none, builtins := 0 }), #[]⟩
noncomputable def o134 (P : Params) : Obj := ⟨(.type "tuple"), none, (.seq #[] 0), #[]⟩
noncomputable def o135 (P : Params) : Obj := ⟨.none, none, (.fields #[]), #[]⟩
noncomputable def o136 (P : Params) : Obj := ⟨(.type "tuple"), none, (.seq #[(ks "self" 329), (ks "v" 330), (ks "i" 331), (ks "j" 332), (ks "c" 333), (ks "lb" 334), (ks "common_i" 335), (ks "common_j" 336), (ks "first_key_inspected" 337), (ks "k" 338), (ks "diff" 339), (ks "common" 340), (ks "w" 341), (ks "i2" 342)] 0), #[]⟩
noncomputable def o137 (P : Params) : Obj := ⟨(.type "tuple"), none, (.seq #[] 0), #[]⟩
noncomputable def o138 (P : Params) : Obj := ⟨.none, none, (.func { name := (Str.ofString "find_among_b"), qualname := (Str.ofString "BaseStemmer.find_among_b"), params := fA (cS 2 15), body := .stmts (fB (cS 2 15)), scope := fS (cS 2 15), globals := 0, closure := [], defaults := .none, kwdefaults := .none, doc := .none, pyModule := .none, annotations := none, code := .none, closureTuple := .none, builtins := 0 }), #[]⟩
noncomputable def o139 (P : Params) : Obj := ⟨(.type "code"), none, (.fields #[(ks "find_among_b" 326), (ks "BaseStemmer.find_among_b" 327), (ks "/claim/cut.py" 328), (.int (65) 0), (.int (2) 0), (.int (0) 0), (.int (0) 0), (.int (3) 0), (.ref 134), (.bool true), (.int (181) 0), (.ref 135), .none, (.ref 136), (.ref 137), (.ref 138), (.int (343) 0), (.int (65) 0), (ks "/claim/cut.py" 344)]), #[]⟩
noncomputable def o140 (P : Params) : Obj := ⟨(.type "function"), none, (.func { name := (Str.ofString "find_among_b"), qualname := (Str.ofString "BaseStemmer.find_among_b"), params := fA (cS 2 15), body := .stmts (fB (cS 2 15)), scope := fS (cS 2 15), globals := 3, closure := [], defaults := .none, kwdefaults := .none, doc := .none, pyModule := (ks "snowballstemmer.basestemmer" 194), annotations := none, code := (.ref 139), closureTuple := .none, builtins := 0 }), #[]⟩
noncomputable def o141 (P : Params) : Obj := ⟨(.type "tuple"), none, (.seq #[] 0), #[]⟩
noncomputable def o142 (P : Params) : Obj := ⟨.none, none, (.fields #[]), #[]⟩
noncomputable def o143 (P : Params) : Obj := ⟨(.type "tuple"), none, (.seq #[(ks "self" 349), (ks "c_bra" 350), (ks "c_ket" 351), (ks "s" 352), (ks "adjustment" 353)] 0), #[]⟩
noncomputable def o144 (P : Params) : Obj := ⟨(.type "tuple"), none, (.seq #[] 0), #[]⟩
noncomputable def o145 (P : Params) : Obj := ⟨.none, none, (.func { name := (Str.ofString "replace_s"), qualname := (Str.ofString "BaseStemmer.replace_s"), params := fA (cS 2 16), body := .stmts (fB (cS 2 16)), scope := fS (cS 2 16), globals := 0, closure := [], defaults := .none, kwdefaults := .none, doc := .none, pyModule := .none, annotations := none, code := .none, closureTuple := .none, builtins := 0 }), #[]⟩
noncomputable def o146 (P : Params) : Obj := ⟨(.type "code"), none, (.fields #[(ks "replace_s" 346), (ks "BaseStemmer.replace_s" 347), (ks "/claim/cut.py" 348), (.int (110) 0), (.int (4) 0), (.int (0) 0), (.int (0) 0), (.int (3) 0), (.ref 141), (.bool true), (.int (181) 0), (.ref 142), .none, (.ref 143), (.ref 144), (.ref 145), (.int (354) 0), (.int (110) 0), (ks "/claim/cut.py" 355)]), #[]⟩
noncomputable def o147 (P : Params) : Obj := ⟨(.type "function"), none, (.func { name := (Str.ofString "replace_s"), qualname := (Str.ofString "BaseStemmer.replace_s"), params := fA (cS 2 16), body := .stmts (fB (cS 2 16)), scope := fS (cS 2 16), globals := 3, closure := [], defaults := .none, kwdefaults := .none, doc := .none, pyModule := (ks "snowballstemmer.basestemmer" 194), annotations := none, code := (.ref 146), closureTuple := .none, builtins := 0 }), #[]⟩
noncomputable def o148 (P : Params) : Obj := ⟨(.type "tuple"), none, (.seq #[] 0), #[]⟩
noncomputable def o149 (P : Params) : Obj := ⟨.none, none, (.fields #[]), #[]⟩
noncomputable def o150 (P : Params) : Obj := ⟨(.type "tuple"), none, (.seq #[(ks "self" 360), (ks "s" 361)] 0), #[]⟩
noncomputable def o151 (P : Params) : Obj := ⟨(.type "tuple"), none, (.seq #[] 0), #[]⟩
noncomputable def o152 (P : Params) : Obj := ⟨.none, none, (.func { name := (Str.ofString "slice_from"), qualname := (Str.ofString "BaseStemmer.slice_from"), params := fA (cS 2 17), body := .stmts (fB (cS 2 17)), scope := fS (cS 2 17), globals := 0, closure := [], defaults := .none, kwdefaults := .none, doc := .none, pyModule := .none, annotations := none, code := .none, closureTuple := .none, builtins := 0 }), #[]⟩
noncomputable def o153 (P : Params) : Obj := ⟨(.type "code"), none, (.fields #[(ks "slice_from" 357), (ks "BaseStemmer.slice_from" 358), (ks "/claim/cut.py" 359), (.int (120) 0), (.int (2) 0), (.int (0) 0), (.int (0) 0), (.int (3) 0), (.ref 148), (.bool true), (.int (181) 0), (.ref 149), .none, (.ref 150), (.ref 151), (.ref 152), (.int (362) 0), (.int (120) 0), (ks "/claim/cut.py" 363)]), #[]⟩
noncomputable def o154 (P : Params) : Obj := ⟨(.type "function"), none, (.func { name := (Str.ofString "slice_from"), qualname := (Str.ofString "BaseStemmer.slice_from"), params := fA (cS 2 17), body := .stmts (fB (cS 2 17)), scope := fS (cS 2 17), globals := 3, closure := [], defaults := .none, kwdefaults := .none, doc := .none, pyModule := (ks "snowballstemmer.basestemmer" 194), annotations := none, code := (.ref 153), closureTuple := .none, builtins := 0 }), #[]⟩
noncomputable def o155 (P : Params) : Obj := ⟨(.type "tuple"), none, (.seq #[] 0), #[]⟩
noncomputable def o156 (P : Params) : Obj := ⟨.none, none, (.fields #[]), #[]⟩
noncomputable def o157 (P : Params) : Obj := ⟨(.type "tuple"), none, (.seq #[(ks "self" 368)] 0), #[]⟩
noncomputable def o158 (P : Params) : Obj := ⟨(.type "tuple"), none, (.seq #[] 0), #[]⟩
noncomputable def o159 (P : Params) : Obj := ⟨.none, none, (.func { name := (Str.ofString "slice_del"), qualname := (Str.ofString "BaseStemmer.slice_del"), params := fA (cS 2 18), body := .stmts (fB (cS 2 18)), scope := fS (cS 2 18), globals := 0, closure := [], defaults := .none, kwdefaults := .none, doc := .none, pyModule := .none, annotations := none, code := .none, closureTuple := .none, builtins := 0 }), #[]⟩
noncomputable def o160 (P : Params) : Obj := ⟨(.type "code"), none, (.fields #[(ks "slice_del" 365), (ks "BaseStemmer.slice_del" 366), (ks "/claim/cut.py" 367), (.int (128) 0), (.int (1) 0), (.int (0) 0), (.int (0) 0), (.int (3) 0), (.ref 155), (.bool true), (.int (181) 0), (.ref 156), .none, (.ref 157), (.ref 158), (.ref 159), (.int (369) 0), (.int (128) 0), (ks "/claim/cut.py" 370)]), #[]⟩
noncomputable def o161 (P : Params) : Obj := ⟨(.type "function"), none, (.func { name := (Str.ofString "slice_del"), qualname := (Str.ofString "BaseStemmer.slice_del"), params := fA (cS 2 18), body := .stmts (fB (cS 2 18)), scope := fS (cS 2 18), globals := 3, closure := [], defaults := .none, kwdefaults := .none, doc := .none, pyModule := (ks "snowballstemmer.basestemmer" 194), annotations := none, code := (.ref 160), closureTuple := .none, builtins := 0 }), #[]⟩
noncomputable def o162 (P : Params) : Obj := ⟨(.type "tuple"), none, (.seq #[] 0), #[]⟩
noncomputable def o163 (P : Params) : Obj := ⟨.none, none, (.fields #[]), #[]⟩
noncomputable def o164 (P : Params) : Obj := ⟨(.type "tuple"), none, (.seq #[(ks "self" 375), (ks "c_bra" 376), (ks "c_ket" 377), (ks "s" 378)] 0), #[]⟩
noncomputable def o165 (P : Params) : Obj := ⟨(.type "tuple"), none, (.seq #[] 0), #[]⟩
noncomputable def o166 (P : Params) : Obj := ⟨.none, none, (.func { name := (Str.ofString "insert"), qualname := (Str.ofString "BaseStemmer.insert"), params := fA (cS 2 19), body := .stmts (fB (cS 2 19)), scope := fS (cS 2 19), globals := 0, closure := [], defaults := .none, kwdefaults := .none, doc := .none, pyModule := .none, annotations := none, code := .none, closureTuple := .none, builtins := 0 }), #[]⟩
noncomputable def o167 (P : Params) : Obj := ⟨(.type "code"), none, (.fields #[(ks "insert" 372), (ks "BaseStemmer.insert" 373), (ks "/claim/cut.py" 374), (.int (131) 0), (.int (4) 0), (.int (0) 0), (.int (0) 0), (.int (3) 0), (.ref 162), (.bool true), (.int (181) 0), (.ref 163), .none, (.ref 164), (.ref 165), (.ref 166), (.int (379) 0), (.int (131) 0), (ks "/claim/cut.py" 380)]), #[]⟩
noncomputable def o168 (P : Params) : Obj := ⟨(.type "function"), none, (.func { name := (Str.ofString "insert"), qualname := (Str.ofString "BaseStemmer.insert"), params := fA (cS 2 19), body := .stmts (fB (cS 2 19)), scope := fS (cS 2 19), globals := 3, closure := [], defaults := .none, kwdefaults := .none, doc := .none, pyModule := (ks "snowballstemmer.basestemmer" 194), annotations := none, code := (.ref 167), closureTuple := .none, builtins := 0 }), #[]⟩
noncomputable def o169 (P : Params) : Obj := ⟨(.type "tuple"), none, (.seq #[] 0), #[]⟩
noncomputable def o170 (P : Params) : Obj := ⟨.none, none, (.fields #[]), #[]⟩
noncomputable def o171 (P : Params) : Obj := ⟨(.type "tuple"), none, (.seq #[(ks "self" 385)] 0), #[]⟩
noncomputable def o172 (P : Params) : Obj := ⟨(.type "tuple"), none, (.seq #[] 0), #[]⟩
noncomputable def o173 (P : Params) : Obj := ⟨.none, none, (.func { name := (Str.ofString "slice_to"), qualname := (Str.ofString "BaseStemmer.slice_to"), params := fA (cS 2 20), body := .stmts (fB (cS 2 20)), scope := fS (cS 2 20), globals := 0, closure := [], defaults := .none, kwdefaults := .none, doc := .none, pyModule := .none, annotations := none, code := .none, closureTuple := .none, builtins := 0 }), #[]⟩
noncomputable def o174 (P : Params) : Obj := ⟨(.type "code"), none, (.fields #[(ks "slice_to" 382), (ks "BaseStemmer.slice_to" 383), (ks "/claim/cut.py" 384), (.int (134) 0), (.int (1) 0), (.int (0) 0), (.int (0) 0), (.int (3) 0), (.ref 169), (.bool true), (.int (181) 0), (.ref 170), .none, (.ref 171), (.ref 172), (.ref 173), (.int (386) 0), (.int (134) 0), (ks "/claim/cut.py" 387)]), #[]⟩
noncomputable def o175 (P : Params) : Obj := ⟨(.type "function"), none, (.func { name := (Str.ofString "slice_to"), qualname := (Str.ofString "BaseStemmer.slice_to"), params := fA (cS 2 20), body := .stmts (fB (cS 2 20)), scope := fS (cS 2 20), globals := 3, closure := [], defaults := .none, kwdefaults := .none, doc := .none, pyModule := (ks "snowballstemmer.basestemmer" 194), annotations := none, code := (.ref 174), closureTuple := .none, builtins := 0 }), #[]⟩
noncomputable def o176 (P : Params) : Obj := ⟨(.type "tuple"), none, (.seq #[] 0), #[]⟩
noncomputable def o177 (P : Params) : Obj := ⟨.none, none, (.fields #[]), #[]⟩
noncomputable def o178 (P : Params) : Obj := ⟨(.type "tuple"), none, (.seq #[(ks "self" 392)] 0), #[]⟩
noncomputable def o179 (P : Params) : Obj := ⟨(.type "tuple"), none, (.seq #[] 0), #[]⟩
noncomputable def o180 (P : Params) : Obj := ⟨.none, none, (.func { name := (Str.ofString "assign_to"), qualname := (Str.ofString "BaseStemmer.assign_to"), params := fA (cS 2 21), body := .stmts (fB (cS 2 21)), scope := fS (cS 2 21), globals := 0, closure := [], defaults := .none, kwdefaults := .none, doc := .none, pyModule := .none, annotations := none, code := .none, closureTuple := .none, builtins := 0 }), #[]⟩
noncomputable def o181 (P : Params) : Obj := ⟨(.type "code"), none, (.fields #[(ks "assign_to" 389), (ks "BaseStemmer.assign_to" 390), (ks "/claim/cut.py" 391), (.int (137) 0), (.int (1) 0), (.int (0) 0), (.int (0) 0), (.int (3) 0), (.ref 176), (.bool true), (.int (181) 0), (.ref 177), .none, (.ref 178), (.ref 179), (.ref 180), (.int (393) 0), (.int (137) 0), (ks "/claim/cut.py" 394)]), #[]⟩
noncomputable def o182 (P : Params) : Obj := ⟨(.type "function"), none, (.func { name := (Str.ofString "assign_to"), qualname := (Str.ofString "BaseStemmer.assign_to"), params := fA (cS 2 21), body := .stmts (fB (cS 2 21)), scope := fS (cS 2 21), globals := 3, closure := [], defaults := .none, kwdefaults := .none, doc := .none, pyModule := (ks "snowballstemmer.basestemmer" 194), annotations := none, code := (.ref 181), closureTuple := .none, builtins := 0 }), #[]⟩
noncomputable def o183 (P : Params) : Obj := ⟨(.type "tuple"), none, (.seq #[] 0), #[]⟩
noncomputable def o184 (P : Params) : Obj := ⟨.none, none, (.fields #[]), #[]⟩
noncomputable def o185 (P : Params) : Obj := ⟨(.type "tuple"), none, (.seq #[(ks "self" 399), (ks "word" 400)] 0), #[]⟩
noncomputable def o186 (P : Params) : Obj := ⟨(.type "tuple"), none, (.seq #[] 0), #[]⟩
noncomputable def o187 (P : Params) : Obj := ⟨.none, none, (.func { name := (Str.ofString "stemWord"), qualname := (Str.ofString "BaseStemmer.stemWord"), params := fA (cS 2 22), body := .stmts (fB (cS 2 22)), scope := fS (cS 2 22), globals := 0, closure := [], defaults := .none, kwdefaults := .none, doc := .none, pyModule := .none, annotations := none, code := .none, closureTuple := .none, builtins := 0 }), #[]⟩
noncomputable def o188 (P : Params) : Obj := ⟨(.type "code"), none, (.fields #[(ks "stemWord" 396), (ks "BaseStemmer.stemWord" 397), (ks "/claim/cut.py" 398), (.int (140) 0), (.int (2) 0), (.int (0) 0), (.int (0) 0), (.int (3) 0), (.ref 183), (.bool true), (.int (181) 0), (.ref 184), .none, (.ref 185), (.ref 186), (.ref 187), (.int (401) 0), (.int (140) 0), (ks "/claim/cut.py" 402)]), #[]⟩
noncomputable def o189 (P : Params) : Obj := ⟨(.type "function"), none, (.func { name := (Str.ofString "stemWord"), qualname := (Str.ofString "BaseStemmer.stemWord"), params := fA (cS 2 22), body := .stmts (fB (cS 2 22)), scope := fS (cS 2 22), globals := 3, closure := [], defaults := .none, kwdefaults := .none, doc := .none, pyModule := (ks "snowballstemmer.basestemmer" 194), annotations := none, code := (.ref 188), closureTuple := .none, builtins := 0 }), #[]⟩
noncomputable def o190 (P : Params) : Obj := ⟨(.type "tuple"), none, (.seq #[] 0), #[]⟩
noncomputable def o191 (P : Params) : Obj := ⟨.none, none, (.fields #[]), #[]⟩
noncomputable def o192 (P : Params) : Obj := ⟨.none, none, (.func { name := (Str.ofString "stemWords"), qualname := (Str.ofString "BaseStemmer.stemWords"), params := fA (cS 2 23), body := .stmts (fB (cS 2 23)), scope := fS (cS 2 23), globals := 0, closure := [], defaults := .none, kwdefaults := .none, doc := .none, pyModule := .none, annotations := none, code := .none, closureTuple := .none, builtins := 0 }), #[]⟩
noncomputable def o193 (P : Params) : Obj := ⟨(.type "code"), none, (.fields #[(ks "stemWords" 404), (ks "BaseStemmer.stemWords" 405), (ks "/claim/cut.py" 406), (.int (145) 0), (.int (2) 0), (.int (0) 0), (.int (0) 0), (.int (3) 0), (.ref 190), (.bool true), (.int (181) 0), (.ref 191), .none, .none, .none, (.ref 192), (.int (407) 0), (.int (145) 0), (ks "/claim/cut.py" 408)]), #[]⟩
noncomputable def o194 (P : Params) : Obj := ⟨(.type "function"), none, (.func { name := (Str.ofString "stemWords"), qualname := (Str.ofString "BaseStemmer.stemWords"), params := fA (cS 2 23), body := .stmts (fB (cS 2 23)), scope := fS (cS 2 23), globals := 3, closure := [], defaults := .none, kwdefaults := .none, doc := .none, pyModule := (ks "snowballstemmer.basestemmer" 194), annotations := none, code := (.ref 193), closureTuple := .none, builtins := 0 }), #[]⟩
noncomputable def o195 (P : Params) : Obj := ⟨(.type "tuple"), none, (.seq #[(ks "bra" 410), (ks "current" 411), (ks "cursor" 412), (ks "ket" 413), (ks "limit" 414), (ks "limit_backward" 415)] 0), #[]⟩
noncomputable def o196 (P : Params) : Obj := ⟨(.type "dict"), none, (.dict #[ke P "__module__" 203 (ks "snowballstemmer.basestemmer" 194), ke P "__firstlineno__" 207 (.int (5) 206), ke P "__init__" 214 (.ref 35), ke P "set_current" 222 (.ref 42), ke P "get_current" 229 (.ref 49), ke P "copy_from" 237 (.ref 56), ke P "in_grouping" 245 (.ref 63), ke P "go_in_grouping" 253 (.ref 70), ke P "in_grouping_b" 261 (.ref 77), ke P "go_in_grouping_b" 269 (.ref 84), ke P "out_grouping" 277 (.ref 91), ke P "go_out_grouping" 285 (.ref 98), ke P "out_grouping_b" 293 (.ref 105), ke P "go_out_grouping_b" 301 (.ref 112), ke P "eq_s" 309 (.ref 119), ke P "eq_s_b" 317 (.ref 126), ke P "find_among" 325 (.ref 133), ke P "find_among_b" 345 (.ref 140), ke P "replace_s" 356 (.ref 147), ke P "slice_from" 364 (.ref 154), ke P "slice_del" 371 (.ref 161), ke P "insert" 381 (.ref 168), ke P "slice_to" 388 (.ref 175), ke P "assign_to" 395 (.ref 182), ke P "stemWord" 403 (.ref 189), ke P "stemWords" 409 (.ref 194), ke P "__static_attributes__" 416 (.ref 195), ke P "__dict__" 418 (.ref 198), ke P "__weakref__" 420 (.ref 199), ke P "__doc__" 421 .none] 4), #[]⟩
noncomputable def o197 (P : Params) : Obj := ⟨(.type "type"), none, (.cls { name := (Str.ofString "BaseStemmer"), bases := [(.type "object")], mro := [(.ref 197), (.type "object")], ns := 196, qualname := (Str.ofString "BaseStemmer"), hasDict := true, slotNames := [], subclasses := [(.ref 710)], abstract := false, collection := none, hasDel := false }), #[none, none, (some (ks "BaseStemmer" 196)), (some (ks "BaseStemmer" 204)), (some (.builtin "object.__new__")), (some (.bool true))]⟩
noncomputable def o198 (P : Params) : Obj := ⟨(.type "getset_descriptor"), none, (.fields #[(ks "__dict__" 417), (.ref 197), (.builtin "function.__dict__"), (.builtin "function.__dict__#set")]), #[]⟩
noncomputable def o199 (P : Params) : Obj := ⟨(.type "getset_descriptor"), none, (.fields #[(ks "__weakref__" 419), (.ref 197), (.builtin "ExceptionGroup.__weakref__"), .none]), #[]⟩
noncomputable def o200 (P : Params) : Obj := ⟨(.type "super"), none, (.fields #[(.ref 197), (.ref 197), (.ref 197)]), #[]⟩
noncomputable def o201 (P : Params) : Obj := ⟨(.type "builtin_function_or_method"), none, (.fields #[(.builtin "object.__init_subclass__"), (.ref 197)]), #[]⟩
noncomputable def o202 (P : Params) : Obj := ⟨(.type "tuple"), none, (.seq #[] 0), #[]⟩
noncomputable def o203 (P : Params) : Obj := ⟨(.type "builtin_function_or_method"), none, (.fields #[(.builtin "type.__prepare__"), (.type "type")]), #[]⟩
noncomputable def o204 (P : Params) : Obj := ⟨(.type "dict"), none, (.dict #[ke P "__module__" 433 (ks "snowballstemmer.among" 424), ke P "__qualname__" 435 (ks "Among" 434), ke P "__firstlineno__" 437 (.int (148) 436), ke P "__init__" 447 (.ref 215), ke P "__static_attributes__" 451 (.ref 216)] 5), #[]⟩
noncomputable def o205 (P : Params) : Obj := ⟨(.type "tuple"), none, (.seq #[] 0), #[]⟩
noncomputable def o206 (P : Params) : Obj := ⟨.none, none, (.fields #[(.int (150) 0), (.int (4) 0), (.ref 214)]), #[]⟩
noncomputable def o207 (P : Params) : Obj := ⟨(.type "code"), none, (.fields #[(ks "Among" 428), (ks "Among" 429), (ks "/claim/cut.py" 430), (.int (148) 0), (.int (0) 0), (.int (0) 0), (.int (0) 0), (.int (0) 0), (.ref 205), (.bool false), (.int (181) 0), (.ref 206), .none, .none, .none, .none, (.int (431) 0), (.int (148) 0), (ks "/claim/cut.py" 432)]), #[]⟩
noncomputable def o208 (P : Params) : Obj := ⟨(.type "frame"), none, .plain, #[(some (.ref 207)), (some (.ref 3)), (some (.ref 204)), none, (some (ks "snowballstemmer.among" 424)), none, (some (.ref 0))]⟩
noncomputable def o209 (P : Params) : Obj := ⟨(.type "tuple"), none, (.seq #[] 0), #[]⟩
noncomputable def o210 (P : Params) : Obj := ⟨.none, none, (.fields #[]), #[]⟩
noncomputable def o211 (P : Params) : Obj := ⟨(.type "tuple"), none, (.seq #[(ks "self" 441), (ks "s" 442), (ks "substring_i" 443), (ks "result" 444)] 0), #[]⟩
noncomputable def o212 (P : Params) : Obj := ⟨(.type "tuple"), none, (.seq #[] 0), #[]⟩
noncomputable def o213 (P : Params) : Obj := ⟨.none, none, (.func { name := (Str.ofString "__init__"), qualname := (Str.ofString "Among.__init__"), params := fA (cS 4 0), body := .stmts (fB (cS 4 0)), scope := fS (cS 4 0), globals := 0, closure := [], defaults := .none, kwdefaults := .none, doc := .none, pyModule := .none, annotations := none, code := .none, closureTuple := .none, builtins := 0 }), #[]⟩
noncomputable def o214 (P : Params) : Obj := ⟨(.type "code"), none, (.fields #[(ks "__init__" 438), (ks "Among.__init__" 439), (ks "/claim/cut.py" 440), (.int (150) 0), (.int (4) 0), (.int (0) 0), (.int (0) 0), (.int (3) 0), (.ref 209), (.bool true), (.int (181) 0), (.ref 210), .none, (.ref 211), (.ref 212), (.ref 213), (.int (445) 0), (.int (150) 0), (ks "/claim/cut.py" 446)]), #[]⟩
noncomputable def o215 (P : Params) : Obj := ⟨(.type "function"), none, (.func { name := (Str.ofString "__init__"), qualname := (Str.ofString "Among.__init__"), params := fA (cS 4 0), body := .stmts (fB (cS 4 0)), scope := fS (cS 4 0), globals := 3, closure := [], defaults := .none, kwdefaults := .none, doc := .none, pyModule := (ks "snowballstemmer.among" 424), annotations := none, code := (.ref 214), closureTuple := .none, builtins := 0 }), #[]⟩
noncomputable def o216 (P : Params) : Obj := ⟨(.type "tuple"), none, (.seq #[(ks "result" 448), (ks "s" 449), (ks "substring_i" 450)] 0), #[]⟩
noncomputable def o217 (P : Params) : Obj := ⟨(.type "dict"), none, (.dict #[ke P "__module__" 433 (ks "snowballstemmer.among" 424), ke P "__firstlineno__" 437 (.int (148) 436), ke P "__init__" 447 (.ref 215), ke P "__static_attributes__" 451 (.ref 216), ke P "__dict__" 453 (.ref 219), ke P "__weakref__" 455 (.ref 220), ke P "__doc__" 456 .none] 4), #[]⟩
noncomputable def o218 (P : Params) : Obj := ⟨(.type "type"), none, (.cls { name := (Str.ofString "Among"), bases := [(.type "object")], mro := [(.ref 218), (.type "object")], ns := 217, qualname := (Str.ofString "Among"), hasDict := true, slotNames := [], subclasses := [], abstract := false, collection := none, hasDel := false }), #[none, none, (some (ks "Among" 426)), (some (ks "Among" 434)), (some (.builtin "object.__new__")), (some (.bool true))]⟩
noncomputable def o219 (P : Params) : Obj := ⟨(.type "getset_descriptor"), none, (.fields #[(ks "__dict__" 452), (.ref 218), (.builtin "function.__dict__"), (.builtin "function.__dict__#set")]), #[]⟩
noncomputable def o220 (P : Params) : Obj := ⟨(.type "getset_descriptor"), none, (.fields #[(ks "__weakref__" 454), (.ref 218), (.builtin "ExceptionGroup.__weakref__"), .none]), #[]⟩
noncomputable def o221 (P : Params) : Obj := ⟨(.type "super"), none, (.fields #[(.ref 218), (.ref 218), (.ref 218)]), #[]⟩
noncomputable def o222 (P : Params) : Obj := ⟨(.type "builtin_function_or_method"), none, (.fields #[(.builtin "object.__init_subclass__"), (.ref 218)]), #[]⟩
noncomputable def o223 (P : Params) : Obj := ⟨(.type "tuple"), none, (.seq #[(.ref 197)] 0), #[]⟩
noncomputable def o224 (P : Params) : Obj := ⟨(.type "builtin_function_or_method"), none, (.fields #[(.builtin "type.__prepare__"), (.type "type")]), #[]⟩
noncomputable def o225 (P : Params) : Obj := ⟨(.type "dict"), none, (.dict #[ke P "__module__" 468 (ks "snowballstemmer.russian_stemmer" 459), ke P "__qualname__" 470 (ks "RussianStemmer" 469), ke P "__firstlineno__" 472 (.int (155) 471), ke P "g_v" 491 (.ref 230), ke P "I_p2" 493 (.int (0) 492), ke P "I_pV" 495 (.int (0) 494), ke P "r_mark_regions" 503 (.ref 237), ke P "r_perfective_gerund" 511 (.ref 244), ke P "r_adjective" 518 (.ref 251), ke P "r_adjectival" 527 (.ref 258), ke P "r_reflexive" 534 (.ref 265), ke P "r_verb" 542 (.ref 272), ke P "r_noun" 549 (.ref 279), ke P "r_derivational" 556 (.ref 286), ke P "r_tidy_up" 564 (.ref 293), ke P "_stem" 582 (.ref 300), ke P "a_0" 703 (.ref 328), ke P "a_1" 1068 (.ref 407), ke P "a_2" 1177 (.ref 432), ke P "a_3" 1206 (.ref 439), ke P "a_4" 1829 (.ref 578), ke P "a_5" 2316 (.ref 687), ke P "a_6" 2345 (.ref 694), ke P "a_7" 2402 (.ref 707), ke P "__static_attributes__" 2409 (.ref 708)] 25), #[]⟩
noncomputable def o226 (P : Params) : Obj := ⟨(.type "tuple"), none, (.seq #[] 0), #[]⟩
noncomputable def o227 (P : Params) : Obj := ⟨.none, none, (.fields #[(.int (160) 0), (.int (4) 0), (.ref 236), (.int (184) 0), (.int (4) 0), (.ref 243), (.int (208) 0), (.int (4) 0), (.ref 250), (.int (216) 0), (.int (4) 0), (.ref 257), (.int (248) 0), (.int (4) 0), (.ref 264), (.int (256) 0), (.int (4) 0), (.ref 271), (.int (280) 0), (.int (4) 0), (.ref 278), (.int (288) 0), (.int (4) 0), (.ref 285), (.int (298) 0), (.int (4) 0), (.ref 292), (.int (324) 0), (.int (4) 0), (.ref 299)]), #[]⟩
noncomputable def o228 (P : Params) : Obj := ⟨(.type "code"), none, (.fields #[(ks "RussianStemmer" 463), (ks "RussianStemmer" 464), (ks "/claim/cut.py" 465), (.int (155) 0), (.int (0) 0), (.int (0) 0), (.int (0) 0), (.int (0) 0), (.ref 226), (.bool false), (.int (181) 0), (.ref 227), .none, .none, .none, .none, (.int (466) 0), (.int (155) 0), (ks "/claim/cut.py" 467)]), #[]⟩
noncomputable def o229 (P : Params) : Obj := ⟨(.type "frame"), none, .plain, #[(some (.ref 228)), (some (.ref 3)), (some (.ref 225)), none, (some (ks "snowballstemmer.russian_stemmer" 459)), none, (some (.ref 0))]⟩
noncomputable def o230 (P : Params) : Obj := (setObj P)
noncomputable def o231 (P : Params) : Obj := ⟨(.type "tuple"), none, (.seq #[] 0), #[]⟩
noncomputable def o232 (P : Params) : Obj := ⟨.none, none, (.fields #[]), #[]⟩
noncomputable def o233 (P : Params) : Obj := ⟨(.type "tuple"), none, (.seq #[(ks "self" 499), (ks "v_1" 500)] 0), #[]⟩
noncomputable def o234 (P : Params) : Obj := ⟨(.type "tuple"), none, (.seq #[] 0), #[]⟩
noncomputable def o235 (P : Params) : Obj := ⟨.none, none, (.func { name := (Str.ofString "r_mark_regions"), qualname := (Str.ofString "RussianStemmer.r_mark_regions"), params := fA (cS 6 3), body := .stmts (fB (cS 6 3)), scope := fS (cS 6 3), globals := 0, closure := [], defaults := .none, kwdefaults := .none, doc := .none, pyModule := .none, annotations := none, code := .none, closureTuple := .none, builtins := 0 }), #[]⟩
noncomputable def o236 (P : Params) : Obj := ⟨(.type "code"), none, (.fields #[(ks "r_mark_regions" 496), (ks "RussianStemmer.r_mark_regions" 497), (ks "/claim/cut.py" 498), (.int (160) 0), (.int (1) 0), (.int (0) 0), (.int (0) 0), (.int (3) 0), (.ref 231), (.bool true), (.int (181) 0), (.ref 232), .none, (.ref 233), (.ref 234), (.ref 235), (.int (501) 0), (.int (160) 0), (ks "/claim/cut.py" 502)]), #[]⟩
noncomputable def o237 (P : Params) : Obj := ⟨(.type "function"), none, (.func { name := (Str.ofString "r_mark_regions"), qualname := (Str.ofString "RussianStemmer.r_mark_regions"), params := fA (cS 6 3), body := .stmts (fB (cS 6 3)), scope := fS (cS 6 3), globals := 3, closure := [], defaults := .none, kwdefaults := .none, doc := .none, pyModule := (ks "snowballstemmer.russian_stemmer" 459), annotations := none, code := (.ref 236), closureTuple := .none, builtins := 0 }), #[]⟩
noncomputable def o238 (P : Params) : Obj := ⟨(.type "tuple"), none, (.seq #[] 0), #[]⟩
noncomputable def o239 (P : Params) : Obj := ⟨.none, none, (.fields #[]), #[]⟩
noncomputable def o240 (P : Params) : Obj := ⟨(.type "tuple"), none, (.seq #[(ks "self" 507), (ks "among_var" 508)] 0), #[]⟩
noncomputable def o241 (P : Params) : Obj := ⟨(.type "tuple"), none, (.seq #[] 0), #[]⟩
noncomputable def o242 (P : Params) : Obj := ⟨.none, none, (.func { name := (Str.ofString "r_perfective_gerund"), qualname := (Str.ofString "RussianStemmer.r_perfective_gerund"), params := fA (cS 6 4), body := .stmts (fB (cS 6 4)), scope := fS (cS 6 4), globals := 0, closure := [], defaults := .none, kwdefaults := .none, doc := .none, pyModule := .none, annotations := none, code := .none, closureTuple := .none, builtins := 0 }), #[]⟩
noncomputable def o243 (P : Params) : Obj := ⟨(.type "code"), none, (.fields #[(ks "r_perfective_gerund" 504), (ks "RussianStemmer.r_perfective_gerund" 505), (ks "/claim/cut.py" 506), (.int (184) 0), (.int (1) 0), (.int (0) 0), (.int (0) 0), (.int (3) 0), (.ref 238), (.bool true), (.int (181) 0), (.ref 239), .none, (.ref 240), (.ref 241), (.ref 242), (.int (509) 0), (.int (184) 0), (ks "/claim/cut.py" 510)]), #[]⟩
noncomputable def o244 (P : Params) : Obj := ⟨(.type "function"), none, (.func { name := (Str.ofString "r_perfective_gerund"), qualname := (Str.ofString "RussianStemmer.r_perfective_gerund"), params := fA (cS 6 4), body := .stmts (fB (cS 6 4)), scope := fS (cS 6 4), globals := 3, closure := [], defaults := .none, kwdefaults := .none, doc := .none, pyModule := (ks "snowballstemmer.russian_stemmer" 459), annotations := none, code := (.ref 243), closureTuple := .none, builtins := 0 }), #[]⟩
noncomputable def o245 (P : Params) : Obj := ⟨(.type "tuple"), none, (.seq #[] 0), #[]⟩
noncomputable def o246 (P : Params) : Obj := ⟨.none, none, (.fields #[]), #[]⟩
noncomputable def o247 (P : Params) : Obj := ⟨(.type "tuple"), none, (.seq #[(ks "self" 515)] 0), #[]⟩
noncomputable def o248 (P : Params) : Obj := ⟨(.type "tuple"), none, (.seq #[] 0), #[]⟩
noncomputable def o249 (P : Params) : Obj := ⟨.none, none, (.func { name := (Str.ofString "r_adjective"), qualname := (Str.ofString "RussianStemmer.r_adjective"), params := fA (cS 6 5), body := .stmts (fB (cS 6 5)), scope := fS (cS 6 5), globals := 0, closure := [], defaults := .none, kwdefaults := .none, doc := .none, pyModule := .none, annotations := none, code := .none, closureTuple := .none, builtins := 0 }), #[]⟩
noncomputable def o250 (P : Params) : Obj := ⟨(.type "code"), none, (.fields #[(ks "r_adjective" 512), (ks "RussianStemmer.r_adjective" 513), (ks "/claim/cut.py" 514), (.int (208) 0), (.int (1) 0), (.int (0) 0), (.int (0) 0), (.int (3) 0), (.ref 245), (.bool true), (.int (181) 0), (.ref 246), .none, (.ref 247), (.ref 248), (.ref 249), (.int (516) 0), (.int (208) 0), (ks "/claim/cut.py" 517)]), #[]⟩
noncomputable def o251 (P : Params) : Obj := ⟨(.type "function"), none, (.func { name := (Str.ofString "r_adjective"), qualname := (Str.ofString "RussianStemmer.r_adjective"), params := fA (cS 6 5), body := .stmts (fB (cS 6 5)), scope := fS (cS 6 5), globals := 3, closure := [], defaults := .none, kwdefaults := .none, doc := .none, pyModule := (ks "snowballstemmer.russian_stemmer" 459), annotations := none, code := (.ref 250), closureTuple := .none, builtins := 0 }), #[]⟩
noncomputable def o252 (P : Params) : Obj := ⟨(.type "tuple"), none, (.seq #[] 0), #[]⟩
noncomputable def o253 (P : Params) : Obj := ⟨.none, none, (.fields #[]), #[]⟩
noncomputable def o254 (P : Params) : Obj := ⟨(.type "tuple"), none, (.seq #[(ks "self" 522), (ks "v_1" 523), (ks "among_var" 524)] 0), #[]⟩
noncomputable def o255 (P : Params) : Obj := ⟨(.type "tuple"), none, (.seq #[] 0), #[]⟩
noncomputable def o256 (P : Params) : Obj := ⟨.none, none, (.func { name := (Str.ofString "r_adjectival"), qualname := (Str.ofString "RussianStemmer.r_adjectival"), params := fA (cS 6 6), body := .stmts (fB (cS 6 6)), scope := fS (cS 6 6), globals := 0, closure := [], defaults := .none, kwdefaults := .none, doc := .none, pyModule := .none, annotations := none, code := .none, closureTuple := .none, builtins := 0 }), #[]⟩
noncomputable def o257 (P : Params) : Obj := ⟨(.type "code"), none, (.fields #[(ks "r_adjectival" 519), (ks "RussianStemmer.r_adjectival" 520), (ks "/claim/cut.py" 521), (.int (216) 0), (.int (1) 0), (.int (0) 0), (.int (0) 0), (.int (3) 0), (.ref 252), (.bool true), (.int (181) 0), (.ref 253), .none, (.ref 254), (.ref 255), (.ref 256), (.int (525) 0), (.int (216) 0), (ks "/claim/cut.py" 526)]), #[]⟩
noncomputable def o258 (P : Params) : Obj := ⟨(.type "function"), none, (.func { name := (Str.ofString "r_adjectival"), qualname := (Str.ofString "RussianStemmer.r_adjectival"), params := fA (cS 6 6), body := .stmts (fB (cS 6 6)), scope := fS (cS 6 6), globals := 3, closure := [], defaults := .none, kwdefaults := .none, doc := .none, pyModule := (ks "snowballstemmer.russian_stemmer" 459), annotations := none, code := (.ref 257), closureTuple := .none, builtins := 0 }), #[]⟩
noncomputable def o259 (P : Params) : Obj := ⟨(.type "tuple"), none, (.seq #[] 0), #[]⟩
noncomputable def o260 (P : Params) : Obj := ⟨.none, none, (.fields #[]), #[]⟩
noncomputable def o261 (P : Params) : Obj := ⟨(.type "tuple"), none, (.seq #[(ks "self" 531)] 0), #[]⟩
noncomputable def o262 (P : Params) : Obj := ⟨(.type "tuple"), none, (.seq #[] 0), #[]⟩
noncomputable def o263 (P : Params) : Obj := ⟨.none, none, (.func { name := (Str.ofString "r_reflexive"), qualname := (Str.ofString "RussianStemmer.r_reflexive"), params := fA (cS 6 7), body := .stmts (fB (cS 6 7)), scope := fS (cS 6 7), globals := 0, closure := [], defaults := .none, kwdefaults := .none, doc := .none, pyModule := .none, annotations := none, code := .none, closureTuple := .none, builtins := 0 }), #[]⟩
noncomputable def o264 (P : Params) : Obj := ⟨(.type "code"), none, (.fields #[(ks "r_reflexive" 528), (ks "RussianStemmer.r_reflexive" 529), (ks "/claim/cut.py" 530), (.int (248) 0), (.int (1) 0), (.int (0) 0), (.int (0) 0), (.int (3) 0), (.ref 259), (.bool true), (.int (181) 0), (.ref 260), .none, (.ref 261), (.ref 262), (.ref 263), (.int (532) 0), (.int (248) 0), (ks "/claim/cut.py" 533)]), #[]⟩
noncomputable def o265 (P : Params) : Obj := ⟨(.type "function"), none, (.func { name := (Str.ofString "r_reflexive"), qualname := (Str.ofString "RussianStemmer.r_reflexive"), params := fA (cS 6 7), body := .stmts (fB (cS 6 7)), scope := fS (cS 6 7), globals := 3, closure := [], defaults := .none, kwdefaults := .none, doc := .none, pyModule := (ks "snowballstemmer.russian_stemmer" 459), annotations := none, code := (.ref 264), closureTuple := .none, builtins := 0 }), #[]⟩
noncomputable def o266 (P : Params) : Obj := ⟨(.type "tuple"), none, (.seq #[] 0), #[]⟩
noncomputable def o267 (P : Params) : Obj := ⟨.none, none, (.fields #[]), #[]⟩
noncomputable def o268 (P : Params) : Obj := ⟨(.type "tuple"), none, (.seq #[(ks "self" 538), (ks "among_var" 539)] 0), #[]⟩
noncomputable def o269 (P : Params) : Obj := ⟨(.type "tuple"), none, (.seq #[] 0), #[]⟩
noncomputable def o270 (P : Params) : Obj := ⟨.none, none, (.func { name := (Str.ofString "r_verb"), qualname := (Str.ofString "RussianStemmer.r_verb"), params := fA (cS 6 8), body := .stmts (fB (cS 6 8)), scope := fS (cS 6 8), globals := 0, closure := [], defaults := .none, kwdefaults := .none, doc := .none, pyModule := .none, annotations := none, code := .none, closureTuple := .none, builtins := 0 }), #[]⟩
noncomputable def o271 (P : Params) : Obj := ⟨(.type "code"), none, (.fields #[(ks "r_verb" 535), (ks "RussianStemmer.r_verb" 536), (ks "/claim/cut.py" 537), (.int (256) 0), (.int (1) 0), (.int (0) 0), (.int (0) 0), (.int (3) 0), (.ref 266), (.bool true), (.int (181) 0), (.ref 267), .none, (.ref 268), (.ref 269), (.ref 270), (.int (540) 0), (.int (256) 0), (ks "/claim/cut.py" 541)]), #[]⟩
noncomputable def o272 (P : Params) : Obj := ⟨(.type "function"), none, (.func { name := (Str.ofString "r_verb"), qualname := (Str.ofString "RussianStemmer.r_verb"), params := fA (cS 6 8), body := .stmts (fB (cS 6 8)), scope := fS (cS 6 8), globals := 3, closure := [], defaults := .none, kwdefaults := .none, doc := .none, pyModule := (ks "snowballstemmer.russian_stemmer" 459), annotations := none, code := (.ref 271), closureTuple := .none, builtins := 0 }), #[]⟩
noncomputable def o273 (P : Params) : Obj := ⟨(.type "tuple"), none, (.seq #[] 0), #[]⟩
noncomputable def o274 (P : Params) : Obj := ⟨.none, none, (.fields #[]), #[]⟩
noncomputable def o275 (P : Params) : Obj := ⟨(.type "tuple"), none, (.seq #[(ks "self" 546)] 0), #[]⟩
noncomputable def o276 (P : Params) : Obj := ⟨(.type "tuple"), none, (.seq #[] 0), #[]⟩
noncomputable def o277 (P : Params) : Obj := ⟨.none, none, (.func { name := (Str.ofString "r_noun"), qualname := (Str.ofString "RussianStemmer.r_noun"), params := fA (cS 6 9), body := .stmts (fB (cS 6 9)), scope := fS (cS 6 9), globals := 0, closure := [], defaults := .none, kwdefaults := .none, doc := .none, pyModule := .none, annotations := none, code := .none, closureTuple := .none, builtins := 0 }), #[]⟩
noncomputable def o278 (P : Params) : Obj := ⟨(.type "code"), none, (.fields #[(ks "r_noun" 543), (ks "RussianStemmer.r_noun" 544), (ks "/claim/cut.py" 545), (.int (280) 0), (.int (1) 0), (.int (0) 0), (.int (0) 0), (.int (3) 0), (.ref 273), (.bool true), (.int (181) 0), (.ref 274), .none, (.ref 275), (.ref 276), (.ref 277), (.int (547) 0), (.int (280) 0), (ks "/claim/cut.py" 548)]), #[]⟩
noncomputable def o279 (P : Params) : Obj := ⟨(.type "function"), none, (.func { name := (Str.ofString "r_noun"), qualname := (Str.ofString "RussianStemmer.r_noun"), params := fA (cS 6 9), body := .stmts (fB (cS 6 9)), scope := fS (cS 6 9), globals := 3, closure := [], defaults := .none, kwdefaults := .none, doc := .none, pyModule := (ks "snowballstemmer.russian_stemmer" 459), annotations := none, code := (.ref 278), closureTuple := .none, builtins := 0 }), #[]⟩
noncomputable def o280 (P : Params) : Obj := ⟨(.type "tuple"), none, (.seq #[] 0), #[]⟩
noncomputable def o281 (P : Params) : Obj := ⟨.none, none, (.fields #[]), #[]⟩
noncomputable def o282 (P : Params) : Obj := ⟨(.type "tuple"), none, (.seq #[(ks "self" 553)] 0), #[]⟩
noncomputable def o283 (P : Params) : Obj := ⟨(.type "tuple"), none, (.seq #[] 0), #[]⟩
noncomputable def o284 (P : Params) : Obj := ⟨.none, none, (.func { name := (Str.ofString "r_derivational"), qualname := (Str.ofString "RussianStemmer.r_derivational"), params := fA (cS 6 10), body := .stmts (fB (cS 6 10)), scope := fS (cS 6 10), globals := 0, closure := [], defaults := .none, kwdefaults := .none, doc := .none, pyModule := .none, annotations := none, code := .none, closureTuple := .none, builtins := 0 }), #[]⟩
noncomputable def o285 (P : Params) : Obj := ⟨(.type "code"), none, (.fields #[(ks "r_derivational" 550), (ks "RussianStemmer.r_derivational" 551), (ks "/claim/cut.py" 552), (.int (288) 0), (.int (1) 0), (.int (0) 0), (.int (0) 0), (.int (3) 0), (.ref 280), (.bool true), (.int (181) 0), (.ref 281), .none, (.ref 282), (.ref 283), (.ref 284), (.int (554) 0), (.int (288) 0), (ks "/claim/cut.py" 555)]), #[]⟩
noncomputable def o286 (P : Params) : Obj := ⟨(.type "function"), none, (.func { name := (Str.ofString "r_derivational"), qualname := (Str.ofString "RussianStemmer.r_derivational"), params := fA (cS 6 10), body := .stmts (fB (cS 6 10)), scope := fS (cS 6 10), globals := 3, closure := [], defaults := .none, kwdefaults := .none, doc := .none, pyModule := (ks "snowballstemmer.russian_stemmer" 459), annotations := none, code := (.ref 285), closureTuple := .none, builtins := 0 }), #[]⟩
noncomputable def o287 (P : Params) : Obj := ⟨(.type "tuple"), none, (.seq #[] 0), #[]⟩
noncomputable def o288 (P : Params) : Obj := ⟨.none, none, (.fields #[]), #[]⟩
noncomputable def o289 (P : Params) : Obj := ⟨(.type "tuple"), none, (.seq #[(ks "self" 560), (ks "among_var" 561)] 0), #[]⟩
noncomputable def o290 (P : Params) : Obj := ⟨(.type "tuple"), none, (.seq #[] 0), #[]⟩
noncomputable def o291 (P : Params) : Obj := ⟨.none, none, (.func { name := (Str.ofString "r_tidy_up"), qualname := (Str.ofString "RussianStemmer.r_tidy_up"), params := fA (cS 6 11), body := .stmts (fB (cS 6 11)), scope := fS (cS 6 11), globals := 0, closure := [], defaults := .none, kwdefaults := .none, doc := .none, pyModule := .none, annotations := none, code := .none, closureTuple := .none, builtins := 0 }), #[]⟩
noncomputable def o292 (P : Params) : Obj := ⟨(.type "code"), none, (.fields #[(ks "r_tidy_up" 557), (ks "RussianStemmer.r_tidy_up" 558), (ks "/claim/cut.py" 559), (.int (298) 0), (.int (1) 0), (.int (0) 0), (.int (0) 0), (.int (3) 0), (.ref 287), (.bool true), (.int (181) 0), (.ref 288), .none, (.ref 289), (.ref 290), (.ref 291), (.int (562) 0), (.int (298) 0), (ks "/claim/cut.py" 563)]), #[]⟩
noncomputable def o293 (P : Params) : Obj := ⟨(.type "function"), none, (.func { name := (Str.ofString "r_tidy_up"), qualname := (Str.ofString "RussianStemmer.r_tidy_up"), params := fA (cS 6 11), body := .stmts (fB (cS 6 11)), scope := fS (cS 6 11), globals := 3, closure := [], defaults := .none, kwdefaults := .none, doc := .none, pyModule := (ks "snowballstemmer.russian_stemmer" 459), annotations := none, code := (.ref 292), closureTuple := .none, builtins := 0 }), #[]⟩
noncomputable def o294 (P : Params) : Obj := ⟨(.type "tuple"), none, (.seq #[] 0), #[]⟩
noncomputable def o295 (P : Params) : Obj := ⟨.none, none, (.fields #[]), #[]⟩
noncomputable def o296 (P : Params) : Obj := ⟨(.type "tuple"), none, (.seq #[(ks "self" 568), (ks "v_1" 569), (ks "v_2" 570), (ks "v_3" 571), (ks "v_5" 572), (ks "v_6" 573), (ks "v_7" 574), (ks "v_8" 575), (ks "v_9" 576), (ks "v_10" 577), (ks "v_11" 578), (ks "v_12" 579)] 0), #[]⟩
noncomputable def o297 (P : Params) : Obj := ⟨(.type "tuple"), none, (.seq #[] 0), #[]⟩
noncomputable def o298 (P : Params) : Obj := ⟨.none, none, (.func { name := (Str.ofString "_stem"), qualname := (Str.ofString "RussianStemmer._stem"), params := fA (cS 6 12), body := .stmts (fB (cS 6 12)), scope := fS (cS 6 12), globals := 0, closure := [], defaults := .none, kwdefaults := .none, doc := .none, pyModule := .none, annotations := none, code := .none, closureTuple := .none, builtins := 0 }), #[]⟩
noncomputable def o299 (P : Params) : Obj := ⟨(.type "code"), none, (.fields #[(ks "_stem" 565), (ks "RussianStemmer._stem" 566), (ks "/claim/cut.py" 567), (.int (324) 0), (.int (1) 0), (.int (0) 0), (.int (0) 0), (.int (3) 0), (.ref 294), (.bool true), (.int (181) 0), (.ref 295), .none, (.ref 296), (.ref 297), (.ref 298), (.int (580) 0), (.int (324) 0), (ks "/claim/cut.py" 581)]), #[]⟩
noncomputable def o300 (P : Params) : Obj := ⟨(.type "function"), none, (.func { name := (Str.ofString "_stem"), qualname := (Str.ofString "RussianStemmer._stem"), params := fA (cS 6 12), body := .stmts (fB (cS 6 12)), scope := fS (cS 6 12), globals := 3, closure := [], defaults := .none, kwdefaults := .none, doc := .none, pyModule := (ks "snowballstemmer.russian_stemmer" 459), annotations := none, code := (.ref 299), closureTuple := .none, builtins := 0 }), #[]⟩
noncomputable def o301 (P : Params) : Obj := ⟨(.type "dict"), none, (.dict #[ke P "s" 592 (ks "в" 583), ke P "substring_i" 594 (.int (-1) 585), ke P "result" 596 (.int (1) 586)] 3), #[]⟩
noncomputable def o302 (P : Params) : Obj := ⟨(.ref 218), (some 301), .plain, #[]⟩
noncomputable def o303 (P : Params) : Obj := ⟨(.type "frame"), none, (.dict #[ke P "self" 587 (.ref 302), ke P "s" 588 (ks "в" 583), ke P "substring_i" 589 (.int (-1) 585), ke P "result" 590 (.int (1) 586)] 4), #[]⟩
noncomputable def o304 (P : Params) : Obj := ⟨(.type "dict"), none, (.dict #[ke P "s" 605 (ks "ив" 597), ke P "substring_i" 607 (.int (0) 598), ke P "result" 609 (.int (2) 599)] 3), #[]⟩
noncomputable def o305 (P : Params) : Obj := ⟨(.ref 218), (some 304), .plain, #[]⟩
noncomputable def o306 (P : Params) : Obj := ⟨(.type "frame"), none, (.dict #[ke P "self" 600 (.ref 305), ke P "s" 601 (ks "ив" 597), ke P "substring_i" 602 (.int (0) 598), ke P "result" 603 (.int (2) 599)] 4), #[]⟩
noncomputable def o307 (P : Params) : Obj := ⟨(.type "dict"), none, (.dict #[ke P "s" 618 (ks "ыв" 610), ke P "substring_i" 620 (.int (0) 611), ke P "result" 622 (.int (2) 612)] 3), #[]⟩
noncomputable def o308 (P : Params) : Obj := ⟨(.ref 218), (some 307), .plain, #[]⟩
noncomputable def o309 (P : Params) : Obj := ⟨(.type "frame"), none, (.dict #[ke P "self" 613 (.ref 308), ke P "s" 614 (ks "ыв" 610), ke P "substring_i" 615 (.int (0) 611), ke P "result" 616 (.int (2) 612)] 4), #[]⟩
noncomputable def o310 (P : Params) : Obj := ⟨(.type "dict"), none, (.dict #[ke P "s" 632 (ks "вши" 623), ke P "substring_i" 634 (.int (-1) 625), ke P "result" 636 (.int (1) 626)] 3), #[]⟩
noncomputable def o311 (P : Params) : Obj := ⟨(.ref 218), (some 310), .plain, #[]⟩
noncomputable def o312 (P : Params) : Obj := ⟨(.type "frame"), none, (.dict #[ke P "self" 627 (.ref 311), ke P "s" 628 (ks "вши" 623), ke P "substring_i" 629 (.int (-1) 625), ke P "result" 630 (.int (1) 626)] 4), #[]⟩
noncomputable def o313 (P : Params) : Obj := ⟨(.type "dict"), none, (.dict #[ke P "s" 645 (ks "ивши" 637), ke P "substring_i" 647 (.int (3) 638), ke P "result" 649 (.int (2) 639)] 3), #[]⟩
noncomputable def o314 (P : Params) : Obj := ⟨(.ref 218), (some 313), .plain, #[]⟩
noncomputable def o315 (P : Params) : Obj := ⟨(.type "frame"), none, (.dict #[ke P "self" 640 (.ref 314), ke P "s" 641 (ks "ивши" 637), ke P "substring_i" 642 (.int (3) 638), ke P "result" 643 (.int (2) 639)] 4), #[]⟩
noncomputable def o316 (P : Params) : Obj := ⟨(.type "dict"), none, (.dict #[ke P "s" 658 (ks "ывши" 650), ke P "substring_i" 660 (.int (3) 651), ke P "result" 662 (.int (2) 652)] 3), #[]⟩
noncomputable def o317 (P : Params) : Obj := ⟨(.ref 218), (some 316), .plain, #[]⟩
noncomputable def o318 (P : Params) : Obj := ⟨(.type "frame"), none, (.dict #[ke P "self" 653 (.ref 317), ke P "s" 654 (ks "ывши" 650), ke P "substring_i" 655 (.int (3) 651), ke P "result" 656 (.int (2) 652)] 4), #[]⟩
noncomputable def o319 (P : Params) : Obj := ⟨(.type "dict"), none, (.dict #[ke P "s" 672 (ks "вшись" 663), ke P "substring_i" 674 (.int (-1) 665), ke P "result" 676 (.int (1) 666)] 3), #[]⟩
noncomputable def o320 (P : Params) : Obj := ⟨(.ref 218), (some 319), .plain, #[]⟩
noncomputable def o321 (P : Params) : Obj := ⟨(.type "frame"), none, (.dict #[ke P "self" 667 (.ref 320), ke P "s" 668 (ks "вшись" 663), ke P "substring_i" 669 (.int (-1) 665), ke P "result" 670 (.int (1) 666)] 4), #[]⟩
noncomputable def o322 (P : Params) : Obj := ⟨(.type "dict"), none, (.dict #[ke P "s" 685 (ks "ившись" 677), ke P "substring_i" 687 (.int (6) 678), ke P "result" 689 (.int (2) 679)] 3), #[]⟩
noncomputable def o323 (P : Params) : Obj := ⟨(.ref 218), (some 322), .plain, #[]⟩
noncomputable def o324 (P : Params) : Obj := ⟨(.type "frame"), none, (.dict #[ke P "self" 680 (.ref 323), ke P "s" 681 (ks "ившись" 677), ke P "substring_i" 682 (.int (6) 678), ke P "result" 683 (.int (2) 679)] 4), #[]⟩
noncomputable def o325 (P : Params) : Obj := ⟨(.type "dict"), none, (.dict #[ke P "s" 698 (ks "ывшись" 690), ke P "substring_i" 700 (.int (6) 691), ke P "result" 702 (.int (2) 692)] 3), #[]⟩
noncomputable def o326 (P : Params) : Obj := ⟨(.ref 218), (some 325), .plain, #[]⟩
noncomputable def o327 (P : Params) : Obj := ⟨(.type "frame"), none, (.dict #[ke P "self" 693 (.ref 326), ke P "s" 694 (ks "ывшись" 690), ke P "substring_i" 695 (.int (6) 691), ke P "result" 696 (.int (2) 692)] 4), #[]⟩
noncomputable def o328 (P : Params) : Obj := ⟨(.type "list"), none, (.seq #[(.ref 302), (.ref 305), (.ref 308), (.ref 311), (.ref 314), (.ref 317), (.ref 320), (.ref 323), (.ref 326)] 0), #[]⟩
noncomputable def o329 (P : Params) : Obj := ⟨(.type "dict"), none, (.dict #[ke P "s" 713 (ks "ее" 704), ke P "substring_i" 715 (.int (-1) 706), ke P "result" 717 (.int (1) 707)] 3), #[]⟩
noncomputable def o330 (P : Params) : Obj := ⟨(.ref 218), (some 329), .plain, #[]⟩
noncomputable def o331 (P : Params) : Obj := ⟨(.type "frame"), none, (.dict #[ke P "self" 708 (.ref 330), ke P "s" 709 (ks "ее" 704), ke P "substring_i" 710 (.int (-1) 706), ke P "result" 711 (.int (1) 707)] 4), #[]⟩
noncomputable def o332 (P : Params) : Obj := ⟨(.type "dict"), none, (.dict #[ke P "s" 727 (ks "ие" 718), ke P "substring_i" 729 (.int (-1) 720), ke P "result" 731 (.int (1) 721)] 3), #[]⟩
noncomputable def o333 (P : Params) : Obj := ⟨(.ref 218), (some 332), .plain, #[]⟩
noncomputable def o334 (P : Params) : Obj := ⟨(.type "frame"), none, (.dict #[ke P "self" 722 (.ref 333), ke P "s" 723 (ks "ие" 718), ke P "substring_i" 724 (.int (-1) 720), ke P "result" 725 (.int (1) 721)] 4), #[]⟩
noncomputable def o335 (P : Params) : Obj := ⟨(.type "dict"), none, (.dict #[ke P "s" 741 (ks "ое" 732), ke P "substring_i" 743 (.int (-1) 734), ke P "result" 745 (.int (1) 735)] 3), #[]⟩
noncomputable def o336 (P : Params) : Obj := ⟨(.ref 218), (some 335), .plain, #[]⟩
noncomputable def o337 (P : Params) : Obj := ⟨(.type "frame"), none, (.dict #[ke P "self" 736 (.ref 336), ke P "s" 737 (ks "ое" 732), ke P "substring_i" 738 (.int (-1) 734), ke P "result" 739 (.int (1) 735)] 4), #[]⟩
noncomputable def o338 (P : Params) : Obj := ⟨(.type "dict"), none, (.dict #[ke P "s" 755 (ks "ые" 746), ke P "substring_i" 757 (.int (-1) 748), ke P "result" 759 (.int (1) 749)] 3), #[]⟩
noncomputable def o339 (P : Params) : Obj := ⟨(.ref 218), (some 338), .plain, #[]⟩
noncomputable def o340 (P : Params) : Obj := ⟨(.type "frame"), none, (.dict #[ke P "self" 750 (.ref 339), ke P "s" 751 (ks "ые" 746), ke P "substring_i" 752 (.int (-1) 748), ke P "result" 753 (.int (1) 749)] 4), #[]⟩
noncomputable def o341 (P : Params) : Obj := ⟨(.type "dict"), none, (.dict #[ke P "s" 769 (ks "ими" 760), ke P "substring_i" 771 (.int (-1) 762), ke P "result" 773 (.int (1) 763)] 3), #[]⟩
noncomputable def o342 (P : Params) : Obj := ⟨(.ref 218), (some 341), .plain, #[]⟩
noncomputable def o343 (P : Params) : Obj := ⟨(.type "frame"), none, (.dict #[ke P "self" 764 (.ref 342), ke P "s" 765 (ks "ими" 760), ke P "substring_i" 766 (.int (-1) 762), ke P "result" 767 (.int (1) 763)] 4), #[]⟩
noncomputable def o344 (P : Params) : Obj := ⟨(.type "dict"), none, (.dict #[ke P "s" 783 (ks "ыми" 774), ke P "substring_i" 785 (.int (-1) 776), ke P "result" 787 (.int (1) 777)] 3), #[]⟩
noncomputable def o345 (P : Params) : Obj := ⟨(.ref 218), (some 344), .plain, #[]⟩
noncomputable def o346 (P : Params) : Obj := ⟨(.type "frame"), none, (.dict #[ke P "self" 778 (.ref 345), ke P "s" 779 (ks "ыми" 774), ke P "substring_i" 780 (.int (-1) 776), ke P "result" 781 (.int (1) 777)] 4), #[]⟩
noncomputable def o347 (P : Params) : Obj := ⟨(.type "dict"), none, (.dict #[ke P "s" 797 (ks "ей" 788), ke P "substring_i" 799 (.int (-1) 790), ke P "result" 801 (.int (1) 791)] 3), #[]⟩
noncomputable def o348 (P : Params) : Obj := ⟨(.ref 218), (some 347), .plain, #[]⟩
noncomputable def o349 (P : Params) : Obj := ⟨(.type "frame"), none, (.dict #[ke P "self" 792 (.ref 348), ke P "s" 793 (ks "ей" 788), ke P "substring_i" 794 (.int (-1) 790), ke P "result" 795 (.int (1) 791)] 4), #[]⟩
noncomputable def o350 (P : Params) : Obj := ⟨(.type "dict"), none, (.dict #[ke P "s" 811 (ks "ий" 802), ke P "substring_i" 813 (.int (-1) 804), ke P "result" 815 (.int (1) 805)] 3), #[]⟩
noncomputable def o351 (P : Params) : Obj := ⟨(.ref 218), (some 350), .plain, #[]⟩
noncomputable def o352 (P : Params) : Obj := ⟨(.type "frame"), none, (.dict #[ke P "self" 806 (.ref 351), ke P "s" 807 (ks "ий" 802), ke P "substring_i" 808 (.int (-1) 804), ke P "result" 809 (.int (1) 805)] 4), #[]⟩
noncomputable def o353 (P : Params) : Obj := ⟨(.type "dict"), none, (.dict #[ke P "s" 825 (ks "ой" 816), ke P "substring_i" 827 (.int (-1) 818), ke P "result" 829 (.int (1) 819)] 3), #[]⟩
noncomputable def o354 (P : Params) : Obj := ⟨(.ref 218), (some 353), .plain, #[]⟩
noncomputable def o355 (P : Params) : Obj := ⟨(.type "frame"), none, (.dict #[ke P "self" 820 (.ref 354), ke P "s" 821 (ks "ой" 816), ke P "substring_i" 822 (.int (-1) 818), ke P "result" 823 (.int (1) 819)] 4), #[]⟩
noncomputable def o356 (P : Params) : Obj := ⟨(.type "dict"), none, (.dict #[ke P "s" 839 (ks "ый" 830), ke P "substring_i" 841 (.int (-1) 832), ke P "result" 843 (.int (1) 833)] 3), #[]⟩
noncomputable def o357 (P : Params) : Obj := ⟨(.ref 218), (some 356), .plain, #[]⟩
noncomputable def o358 (P : Params) : Obj := ⟨(.type "frame"), none, (.dict #[ke P "self" 834 (.ref 357), ke P "s" 835 (ks "ый" 830), ke P "substring_i" 836 (.int (-1) 832), ke P "result" 837 (.int (1) 833)] 4), #[]⟩
noncomputable def o359 (P : Params) : Obj := ⟨(.type "dict"), none, (.dict #[ke P "s" 853 (ks "ем" 844), ke P "substring_i" 855 (.int (-1) 846), ke P "result" 857 (.int (1) 847)] 3), #[]⟩
noncomputable def o360 (P : Params) : Obj := ⟨(.ref 218), (some 359), .plain, #[]⟩
noncomputable def o361 (P : Params) : Obj := ⟨(.type "frame"), none, (.dict #[ke P "self" 848 (.ref 360), ke P "s" 849 (ks "ем" 844), ke P "substring_i" 850 (.int (-1) 846), ke P "result" 851 (.int (1) 847)] 4), #[]⟩
noncomputable def o362 (P : Params) : Obj := ⟨(.type "dict"), none, (.dict #[ke P "s" 867 (ks "им" 858), ke P "substring_i" 869 (.int (-1) 860), ke P "result" 871 (.int (1) 861)] 3), #[]⟩
noncomputable def o363 (P : Params) : Obj := ⟨(.ref 218), (some 362), .plain, #[]⟩
noncomputable def o364 (P : Params) : Obj := ⟨(.type "frame"), none, (.dict #[ke P "self" 862 (.ref 363), ke P "s" 863 (ks "им" 858), ke P "substring_i" 864 (.int (-1) 860), ke P "result" 865 (.int (1) 861)] 4), #[]⟩
noncomputable def o365 (P : Params) : Obj := ⟨(.type "dict"), none, (.dict #[ke P "s" 881 (ks "ом" 872), ke P "substring_i" 883 (.int (-1) 874), ke P "result" 885 (.int (1) 875)] 3), #[]⟩
noncomputable def o366 (P : Params) : Obj := ⟨(.ref 218), (some 365), .plain, #[]⟩
noncomputable def o367 (P : Params) : Obj := ⟨(.type "frame"), none, (.dict #[ke P "self" 876 (.ref 366), ke P "s" 877 (ks "ом" 872), ke P "substring_i" 878 (.int (-1) 874), ke P "result" 879 (.int (1) 875)] 4), #[]⟩
noncomputable def o368 (P : Params) : Obj := ⟨(.type "dict"), none, (.dict #[ke P "s" 895 (ks "ым" 886), ke P "substring_i" 897 (.int (-1) 888), ke P "result" 899 (.int (1) 889)] 3), #[]⟩
noncomputable def o369 (P : Params) : Obj := ⟨(.ref 218), (some 368), .plain, #[]⟩
noncomputable def o370 (P : Params) : Obj := ⟨(.type "frame"), none, (.dict #[ke P "self" 890 (.ref 369), ke P "s" 891 (ks "ым" 886), ke P "substring_i" 892 (.int (-1) 888), ke P "result" 893 (.int (1) 889)] 4), #[]⟩
noncomputable def o371 (P : Params) : Obj := ⟨(.type "dict"), none, (.dict #[ke P "s" 909 (ks "его" 900), ke P "substring_i" 911 (.int (-1) 902), ke P "result" 913 (.int (1) 903)] 3), #[]⟩
noncomputable def o372 (P : Params) : Obj := ⟨(.ref 218), (some 371), .plain, #[]⟩
noncomputable def o373 (P : Params) : Obj := ⟨(.type "frame"), none, (.dict #[ke P "self" 904 (.ref 372), ke P "s" 905 (ks "его" 900), ke P "substring_i" 906 (.int (-1) 902), ke P "result" 907 (.int (1) 903)] 4), #[]⟩
noncomputable def o374 (P : Params) : Obj := ⟨(.type "dict"), none, (.dict #[ke P "s" 923 (ks "ого" 914), ke P "substring_i" 925 (.int (-1) 916), ke P "result" 927 (.int (1) 917)] 3), #[]⟩
noncomputable def o375 (P : Params) : Obj := ⟨(.ref 218), (some 374), .plain, #[]⟩
noncomputable def o376 (P : Params) : Obj := ⟨(.type "frame"), none, (.dict #[ke P "self" 918 (.ref 375), ke P "s" 919 (ks "ого" 914), ke P "substring_i" 920 (.int (-1) 916), ke P "result" 921 (.int (1) 917)] 4), #[]⟩
noncomputable def o377 (P : Params) : Obj := ⟨(.type "dict"), none, (.dict #[ke P "s" 937 (ks "ему" 928), ke P "substring_i" 939 (.int (-1) 930), ke P "result" 941 (.int (1) 931)] 3), #[]⟩
noncomputable def o378 (P : Params) : Obj := ⟨(.ref 218), (some 377), .plain, #[]⟩
noncomputable def o379 (P : Params) : Obj := ⟨(.type "frame"), none, (.dict #[ke P "self" 932 (.ref 378), ke P "s" 933 (ks "ему" 928), ke P "substring_i" 934 (.int (-1) 930), ke P "result" 935 (.int (1) 931)] 4), #[]⟩
noncomputable def o380 (P : Params) : Obj := ⟨(.type "dict"), none, (.dict #[ke P "s" 951 (ks "ому" 942), ke P "substring_i" 953 (.int (-1) 944), ke P "result" 955 (.int (1) 945)] 3), #[]⟩
noncomputable def o381 (P : Params) : Obj := ⟨(.ref 218), (some 380), .plain, #[]⟩
noncomputable def o382 (P : Params) : Obj := ⟨(.type "frame"), none, (.dict #[ke P "self" 946 (.ref 381), ke P "s" 947 (ks "ому" 942), ke P "substring_i" 948 (.int (-1) 944), ke P "result" 949 (.int (1) 945)] 4), #[]⟩
noncomputable def o383 (P : Params) : Obj := ⟨(.type "dict"), none, (.dict #[ke P "s" 965 (ks "их" 956), ke P "substring_i" 967 (.int (-1) 958), ke P "result" 969 (.int (1) 959)] 3), #[]⟩
noncomputable def o384 (P : Params) : Obj := ⟨(.ref 218), (some 383), .plain, #[]⟩
noncomputable def o385 (P : Params) : Obj := ⟨(.type "frame"), none, (.dict #[ke P "self" 960 (.ref 384), ke P "s" 961 (ks "их" 956), ke P "substring_i" 962 (.int (-1) 958), ke P "result" 963 (.int (1) 959)] 4), #[]⟩
noncomputable def o386 (P : Params) : Obj := ⟨(.type "dict"), none, (.dict #[ke P "s" 979 (ks "ых" 970), ke P "substring_i" 981 (.int (-1) 972), ke P "result" 983 (.int (1) 973)] 3), #[]⟩
noncomputable def o387 (P : Params) : Obj := ⟨(.ref 218), (some 386), .plain, #[]⟩
noncomputable def o388 (P : Params) : Obj := ⟨(.type "frame"), none, (.dict #[ke P "self" 974 (.ref 387), ke P "s" 975 (ks "ых" 970), ke P "substring_i" 976 (.int (-1) 972), ke P "result" 977 (.int (1) 973)] 4), #[]⟩
noncomputable def o389 (P : Params) : Obj := ⟨(.type "dict"), none, (.dict #[ke P "s" 993 (ks "ею" 984), ke P "substring_i" 995 (.int (-1) 986), ke P "result" 997 (.int (1) 987)] 3), #[]⟩
noncomputable def o390 (P : Params) : Obj := ⟨(.ref 218), (some 389), .plain, #[]⟩
noncomputable def o391 (P : Params) : Obj := ⟨(.type "frame"), none, (.dict #[ke P "self" 988 (.ref 390), ke P "s" 989 (ks "ею" 984), ke P "substring_i" 990 (.int (-1) 986), ke P "result" 991 (.int (1) 987)] 4), #[]⟩
noncomputable def o392 (P : Params) : Obj := ⟨(.type "dict"), none, (.dict #[ke P "s" 1007 (ks "ою" 998), ke P "substring_i" 1009 (.int (-1) 1000), ke P "result" 1011 (.int (1) 1001)] 3), #[]⟩
noncomputable def o393 (P : Params) : Obj := ⟨(.ref 218), (some 392), .plain, #[]⟩
noncomputable def o394 (P : Params) : Obj := ⟨(.type "frame"), none, (.dict #[ke P "self" 1002 (.ref 393), ke P "s" 1003 (ks "ою" 998), ke P "substring_i" 1004 (.int (-1) 1000), ke P "result" 1005 (.int (1) 1001)] 4), #[]⟩
noncomputable def o395 (P : Params) : Obj := ⟨(.type "dict"), none, (.dict #[ke P "s" 1021 (ks "ую" 1012), ke P "substring_i" 1023 (.int (-1) 1014), ke P "result" 1025 (.int (1) 1015)] 3), #[]⟩
noncomputable def o396 (P : Params) : Obj := ⟨(.ref 218), (some 395), .plain, #[]⟩
noncomputable def o397 (P : Params) : Obj := ⟨(.type "frame"), none, (.dict #[ke P "self" 1016 (.ref 396), ke P "s" 1017 (ks "ую" 1012), ke P "substring_i" 1018 (.int (-1) 1014), ke P "result" 1019 (.int (1) 1015)] 4), #[]⟩
noncomputable def o398 (P : Params) : Obj := ⟨(.type "dict"), none, (.dict #[ke P "s" 1035 (ks "юю" 1026), ke P "substring_i" 1037 (.int (-1) 1028), ke P "result" 1039 (.int (1) 1029)] 3), #[]⟩
noncomputable def o399 (P : Params) : Obj := ⟨(.ref 218), (some 398), .plain, #[]⟩
noncomputable def o400 (P : Params) : Obj := ⟨(.type "frame"), none, (.dict #[ke P "self" 1030 (.ref 399), ke P "s" 1031 (ks "юю" 1026), ke P "substring_i" 1032 (.int (-1) 1028), ke P "result" 1033 (.int (1) 1029)] 4), #[]⟩
noncomputable def o401 (P : Params) : Obj := ⟨(.type "dict"), none, (.dict #[ke P "s" 1049 (ks "ая" 1040), ke P "substring_i" 1051 (.int (-1) 1042), ke P "result" 1053 (.int (1) 1043)] 3), #[]⟩
noncomputable def o402 (P : Params) : Obj := ⟨(.ref 218), (some 401), .plain, #[]⟩
noncomputable def o403 (P : Params) : Obj := ⟨(.type "frame"), none, (.dict #[ke P "self" 1044 (.ref 402), ke P "s" 1045 (ks "ая" 1040), ke P "substring_i" 1046 (.int (-1) 1042), ke P "result" 1047 (.int (1) 1043)] 4), #[]⟩
noncomputable def o404 (P : Params) : Obj := ⟨(.type "dict"), none, (.dict #[ke P "s" 1063 (ks "яя" 1054), ke P "substring_i" 1065 (.int (-1) 1056), ke P "result" 1067 (.int (1) 1057)] 3), #[]⟩
noncomputable def o405 (P : Params) : Obj := ⟨(.ref 218), (some 404), .plain, #[]⟩
noncomputable def o406 (P : Params) : Obj := ⟨(.type "frame"), none, (.dict #[ke P "self" 1058 (.ref 405), ke P "s" 1059 (ks "яя" 1054), ke P "substring_i" 1060 (.int (-1) 1056), ke P "result" 1061 (.int (1) 1057)] 4), #[]⟩
noncomputable def o407 (P : Params) : Obj := ⟨(.type "list"), none, (.seq #[(.ref 330), (.ref 333), (.ref 336), (.ref 339), (.ref 342), (.ref 345), (.ref 348), (.ref 351), (.ref 354), (.ref 357), (.ref 360), (.ref 363), (.ref 366), (.ref 369), (.ref 372), (.ref 375), (.ref 378), (.ref 381), (.ref 384), (.ref 387), (.ref 390), (.ref 393), (.ref 396), (.ref 399), (.ref 402), (.ref 405)] 0), #[]⟩
noncomputable def o408 (P : Params) : Obj := ⟨(.type "dict"), none, (.dict #[ke P "s" 1078 (ks "ем" 1069), ke P "substring_i" 1080 (.int (-1) 1071), ke P "result" 1082 (.int (1) 1072)] 3), #[]⟩
noncomputable def o409 (P : Params) : Obj := ⟨(.ref 218), (some 408), .plain, #[]⟩
noncomputable def o410 (P : Params) : Obj := ⟨(.type "frame"), none, (.dict #[ke P "self" 1073 (.ref 409), ke P "s" 1074 (ks "ем" 1069), ke P "substring_i" 1075 (.int (-1) 1071), ke P "result" 1076 (.int (1) 1072)] 4), #[]⟩
noncomputable def o411 (P : Params) : Obj := ⟨(.type "dict"), none, (.dict #[ke P "s" 1092 (ks "нн" 1083), ke P "substring_i" 1094 (.int (-1) 1085), ke P "result" 1096 (.int (1) 1086)] 3), #[]⟩
noncomputable def o412 (P : Params) : Obj := ⟨(.ref 218), (some 411), .plain, #[]⟩
noncomputable def o413 (P : Params) : Obj := ⟨(.type "frame"), none, (.dict #[ke P "self" 1087 (.ref 412), ke P "s" 1088 (ks "нн" 1083), ke P "substring_i" 1089 (.int (-1) 1085), ke P "result" 1090 (.int (1) 1086)] 4), #[]⟩
noncomputable def o414 (P : Params) : Obj := ⟨(.type "dict"), none, (.dict #[ke P "s" 1106 (ks "вш" 1097), ke P "substring_i" 1108 (.int (-1) 1099), ke P "result" 1110 (.int (1) 1100)] 3), #[]⟩
noncomputable def o415 (P : Params) : Obj := ⟨(.ref 218), (some 414), .plain, #[]⟩
noncomputable def o416 (P : Params) : Obj := ⟨(.type "frame"), none, (.dict #[ke P "self" 1101 (.ref 415), ke P "s" 1102 (ks "вш" 1097), ke P "substring_i" 1103 (.int (-1) 1099), ke P "result" 1104 (.int (1) 1100)] 4), #[]⟩
noncomputable def o417 (P : Params) : Obj := ⟨(.type "dict"), none, (.dict #[ke P "s" 1119 (ks "ивш" 1111), ke P "substring_i" 1121 (.int (2) 1112), ke P "result" 1123 (.int (2) 1113)] 3), #[]⟩
noncomputable def o418 (P : Params) : Obj := ⟨(.ref 218), (some 417), .plain, #[]⟩
noncomputable def o419 (P : Params) : Obj := ⟨(.type "frame"), none, (.dict #[ke P "self" 1114 (.ref 418), ke P "s" 1115 (ks "ивш" 1111), ke P "substring_i" 1116 (.int (2) 1112), ke P "result" 1117 (.int (2) 1113)] 4), #[]⟩
noncomputable def o420 (P : Params) : Obj := ⟨(.type "dict"), none, (.dict #[ke P "s" 1132 (ks "ывш" 1124), ke P "substring_i" 1134 (.int (2) 1125), ke P "result" 1136 (.int (2) 1126)] 3), #[]⟩
noncomputable def o421 (P : Params) : Obj := ⟨(.ref 218), (some 420), .plain, #[]⟩
noncomputable def o422 (P : Params) : Obj := ⟨(.type "frame"), none, (.dict #[ke P "self" 1127 (.ref 421), ke P "s" 1128 (ks "ывш" 1124), ke P "substring_i" 1129 (.int (2) 1125), ke P "result" 1130 (.int (2) 1126)] 4), #[]⟩
noncomputable def o423 (P : Params) : Obj := ⟨(.type "dict"), none, (.dict #[ke P "s" 1146 (ks "щ" 1137), ke P "substring_i" 1148 (.int (-1) 1139), ke P "result" 1150 (.int (1) 1140)] 3), #[]⟩
noncomputable def o424 (P : Params) : Obj := ⟨(.ref 218), (some 423), .plain, #[]⟩
noncomputable def o425 (P : Params) : Obj := ⟨(.type "frame"), none, (.dict #[ke P "self" 1141 (.ref 424), ke P "s" 1142 (ks "щ" 1137), ke P "substring_i" 1143 (.int (-1) 1139), ke P "result" 1144 (.int (1) 1140)] 4), #[]⟩
noncomputable def o426 (P : Params) : Obj := ⟨(.type "dict"), none, (.dict #[ke P "s" 1159 (ks "ющ" 1151), ke P "substring_i" 1161 (.int (5) 1152), ke P "result" 1163 (.int (1) 1153)] 3), #[]⟩
noncomputable def o427 (P : Params) : Obj := ⟨(.ref 218), (some 426), .plain, #[]⟩
noncomputable def o428 (P : Params) : Obj := ⟨(.type "frame"), none, (.dict #[ke P "self" 1154 (.ref 427), ke P "s" 1155 (ks "ющ" 1151), ke P "substring_i" 1156 (.int (5) 1152), ke P "result" 1157 (.int (1) 1153)] 4), #[]⟩
noncomputable def o429 (P : Params) : Obj := ⟨(.type "dict"), none, (.dict #[ke P "s" 1172 (ks "ующ" 1164), ke P "substring_i" 1174 (.int (6) 1165), ke P "result" 1176 (.int (2) 1166)] 3), #[]⟩
noncomputable def o430 (P : Params) : Obj := ⟨(.ref 218), (some 429), .plain, #[]⟩
noncomputable def o431 (P : Params) : Obj := ⟨(.type "frame"), none, (.dict #[ke P "self" 1167 (.ref 430), ke P "s" 1168 (ks "ующ" 1164), ke P "substring_i" 1169 (.int (6) 1165), ke P "result" 1170 (.int (2) 1166)] 4), #[]⟩
noncomputable def o432 (P : Params) : Obj := ⟨(.type "list"), none, (.seq #[(.ref 409), (.ref 412), (.ref 415), (.ref 418), (.ref 421), (.ref 424), (.ref 427), (.ref 430)] 0), #[]⟩
noncomputable def o433 (P : Params) : Obj := ⟨(.type "dict"), none, (.dict #[ke P "s" 1187 (ks "сь" 1178), ke P "substring_i" 1189 (.int (-1) 1180), ke P "result" 1191 (.int (1) 1181)] 3), #[]⟩
noncomputable def o434 (P : Params) : Obj := ⟨(.ref 218), (some 433), .plain, #[]⟩
noncomputable def o435 (P : Params) : Obj := ⟨(.type "frame"), none, (.dict #[ke P "self" 1182 (.ref 434), ke P "s" 1183 (ks "сь" 1178), ke P "substring_i" 1184 (.int (-1) 1180), ke P "result" 1185 (.int (1) 1181)] 4), #[]⟩
noncomputable def o436 (P : Params) : Obj := ⟨(.type "dict"), none, (.dict #[ke P "s" 1201 (ks "ся" 1192), ke P "substring_i" 1203 (.int (-1) 1194), ke P "result" 1205 (.int (1) 1195)] 3), #[]⟩
noncomputable def o437 (P : Params) : Obj := ⟨(.ref 218), (some 436), .plain, #[]⟩
noncomputable def o438 (P : Params) : Obj := ⟨(.type "frame"), none, (.dict #[ke P "self" 1196 (.ref 437), ke P "s" 1197 (ks "ся" 1192), ke P "substring_i" 1198 (.int (-1) 1194), ke P "result" 1199 (.int (1) 1195)] 4), #[]⟩
noncomputable def o439 (P : Params) : Obj := ⟨(.type "list"), none, (.seq #[(.ref 434), (.ref 437)] 0), #[]⟩
noncomputable def o440 (P : Params) : Obj := ⟨(.type "dict"), none, (.dict #[ke P "s" 1216 (ks "ла" 1207), ke P "substring_i" 1218 (.int (-1) 1209), ke P "result" 1220 (.int (1) 1210)] 3), #[]⟩
noncomputable def o441 (P : Params) : Obj := ⟨(.ref 218), (some 440), .plain, #[]⟩
noncomputable def o442 (P : Params) : Obj := ⟨(.type "frame"), none, (.dict #[ke P "self" 1211 (.ref 441), ke P "s" 1212 (ks "ла" 1207), ke P "substring_i" 1213 (.int (-1) 1209), ke P "result" 1214 (.int (1) 1210)] 4), #[]⟩
noncomputable def o443 (P : Params) : Obj := ⟨(.type "dict"), none, (.dict #[ke P "s" 1229 (ks "ила" 1221), ke P "substring_i" 1231 (.int (0) 1222), ke P "result" 1233 (.int (2) 1223)] 3), #[]⟩
noncomputable def o444 (P : Params) : Obj := ⟨(.ref 218), (some 443), .plain, #[]⟩
noncomputable def o445 (P : Params) : Obj := ⟨(.type "frame"), none, (.dict #[ke P "self" 1224 (.ref 444), ke P "s" 1225 (ks "ила" 1221), ke P "substring_i" 1226 (.int (0) 1222), ke P "result" 1227 (.int (2) 1223)] 4), #[]⟩
noncomputable def o446 (P : Params) : Obj := ⟨(.type "dict"), none, (.dict #[ke P "s" 1242 (ks "ыла" 1234), ke P "substring_i" 1244 (.int (0) 1235), ke P "result" 1246 (.int (2) 1236)] 3), #[]⟩
noncomputable def o447 (P : Params) : Obj := ⟨(.ref 218), (some 446), .plain, #[]⟩
noncomputable def o448 (P : Params) : Obj := ⟨(.type "frame"), none, (.dict #[ke P "self" 1237 (.ref 447), ke P "s" 1238 (ks "ыла" 1234), ke P "substring_i" 1239 (.int (0) 1235), ke P "result" 1240 (.int (2) 1236)] 4), #[]⟩
noncomputable def o449 (P : Params) : Obj := ⟨(.type "dict"), none, (.dict #[ke P "s" 1256 (ks "на" 1247), ke P "substring_i" 1258 (.int (-1) 1249), ke P "result" 1260 (.int (1) 1250)] 3), #[]⟩
noncomputable def o450 (P : Params) : Obj := ⟨(.ref 218), (some 449), .plain, #[]⟩
noncomputable def o451 (P : Params) : Obj := ⟨(.type "frame"), none, (.dict #[ke P "self" 1251 (.ref 450), ke P "s" 1252 (ks "на" 1247), ke P "substring_i" 1253 (.int (-1) 1249), ke P "result" 1254 (.int (1) 1250)] 4), #[]⟩
noncomputable def o452 (P : Params) : Obj := ⟨(.type "dict"), none, (.dict #[ke P "s" 1269 (ks "ена" 1261), ke P "substring_i" 1271 (.int (3) 1262), ke P "result" 1273 (.int (2) 1263)] 3), #[]⟩
noncomputable def o453 (P : Params) : Obj := ⟨(.ref 218), (some 452), .plain, #[]⟩
noncomputable def o454 (P : Params) : Obj := ⟨(.type "frame"), none, (.dict #[ke P "self" 1264 (.ref 453), ke P "s" 1265 (ks "ена" 1261), ke P "substring_i" 1266 (.int (3) 1262), ke P "result" 1267 (.int (2) 1263)] 4), #[]⟩
noncomputable def o455 (P : Params) : Obj := ⟨(.type "dict"), none, (.dict #[ke P "s" 1283 (ks "ете" 1274), ke P "substring_i" 1285 (.int (-1) 1276), ke P "result" 1287 (.int (1) 1277)] 3), #[]⟩
noncomputable def o456 (P : Params) : Obj := ⟨(.ref 218), (some 455), .plain, #[]⟩
noncomputable def o457 (P : Params) : Obj := ⟨(.type "frame"), none, (.dict #[ke P "self" 1278 (.ref 456), ke P "s" 1279 (ks "ете" 1274), ke P "substring_i" 1280 (.int (-1) 1276), ke P "result" 1281 (.int (1) 1277)] 4), #[]⟩
noncomputable def o458 (P : Params) : Obj := ⟨(.type "dict"), none, (.dict #[ke P "s" 1297 (ks "ите" 1288), ke P "substring_i" 1299 (.int (-1) 1290), ke P "result" 1301 (.int (2) 1291)] 3), #[]⟩
noncomputable def o459 (P : Params) : Obj := ⟨(.ref 218), (some 458), .plain, #[]⟩
noncomputable def o460 (P : Params) : Obj := ⟨(.type "frame"), none, (.dict #[ke P "self" 1292 (.ref 459), ke P "s" 1293 (ks "ите" 1288), ke P "substring_i" 1294 (.int (-1) 1290), ke P "result" 1295 (.int (2) 1291)] 4), #[]⟩
noncomputable def o461 (P : Params) : Obj := ⟨(.type "dict"), none, (.dict #[ke P "s" 1311 (ks "йте" 1302), ke P "substring_i" 1313 (.int (-1) 1304), ke P "result" 1315 (.int (1) 1305)] 3), #[]⟩
noncomputable def o462 (P : Params) : Obj := ⟨(.ref 218), (some 461), .plain, #[]⟩
noncomputable def o463 (P : Params) : Obj := ⟨(.type "frame"), none, (.dict #[ke P "self" 1306 (.ref 462), ke P "s" 1307 (ks "йте" 1302), ke P "substring_i" 1308 (.int (-1) 1304), ke P "result" 1309 (.int (1) 1305)] 4), #[]⟩
noncomputable def o464 (P : Params) : Obj := ⟨(.type "dict"), none, (.dict #[ke P "s" 1324 (ks "ейте" 1316), ke P "substring_i" 1326 (.int (7) 1317), ke P "result" 1328 (.int (2) 1318)] 3), #[]⟩
noncomputable def o465 (P : Params) : Obj := ⟨(.ref 218), (some 464), .plain, #[]⟩
noncomputable def o466 (P : Params) : Obj := ⟨(.type "frame"), none, (.dict #[ke P "self" 1319 (.ref 465), ke P "s" 1320 (ks "ейте" 1316), ke P "substring_i" 1321 (.int (7) 1317), ke P "result" 1322 (.int (2) 1318)] 4), #[]⟩
noncomputable def o467 (P : Params) : Obj := ⟨(.type "dict"), none, (.dict #[ke P "s" 1337 (ks "уйте" 1329), ke P "substring_i" 1339 (.int (7) 1330), ke P "result" 1341 (.int (2) 1331)] 3), #[]⟩
noncomputable def o468 (P : Params) : Obj := ⟨(.ref 218), (some 467), .plain, #[]⟩
noncomputable def o469 (P : Params) : Obj := ⟨(.type "frame"), none, (.dict #[ke P "self" 1332 (.ref 468), ke P "s" 1333 (ks "уйте" 1329), ke P "substring_i" 1334 (.int (7) 1330), ke P "result" 1335 (.int (2) 1331)] 4), #[]⟩
noncomputable def o470 (P : Params) : Obj := ⟨(.type "dict"), none, (.dict #[ke P "s" 1351 (ks "ли" 1342), ke P "substring_i" 1353 (.int (-1) 1344), ke P "result" 1355 (.int (1) 1345)] 3), #[]⟩
noncomputable def o471 (P : Params) : Obj := ⟨(.ref 218), (some 470), .plain, #[]⟩
noncomputable def o472 (P : Params) : Obj := ⟨(.type "frame"), none, (.dict #[ke P "self" 1346 (.ref 471), ke P "s" 1347 (ks "ли" 1342), ke P "substring_i" 1348 (.int (-1) 1344), ke P "result" 1349 (.int (1) 1345)] 4), #[]⟩
noncomputable def o473 (P : Params) : Obj := ⟨(.type "dict"), none, (.dict #[ke P "s" 1364 (ks "или" 1356), ke P "substring_i" 1366 (.int (10) 1357), ke P "result" 1368 (.int (2) 1358)] 3), #[]⟩
noncomputable def o474 (P : Params) : Obj := ⟨(.ref 218), (some 473), .plain, #[]⟩
noncomputable def o475 (P : Params) : Obj := ⟨(.type "frame"), none, (.dict #[ke P "self" 1359 (.ref 474), ke P "s" 1360 (ks "или" 1356), ke P "substring_i" 1361 (.int (10) 1357), ke P "result" 1362 (.int (2) 1358)] 4), #[]⟩
noncomputable def o476 (P : Params) : Obj := ⟨(.type "dict"), none, (.dict #[ke P "s" 1377 (ks "ыли" 1369), ke P "substring_i" 1379 (.int (10) 1370), ke P "result" 1381 (.int (2) 1371)] 3), #[]⟩
noncomputable def o477 (P : Params) : Obj := ⟨(.ref 218), (some 476), .plain, #[]⟩
noncomputable def o478 (P : Params) : Obj := ⟨(.type "frame"), none, (.dict #[ke P "self" 1372 (.ref 477), ke P "s" 1373 (ks "ыли" 1369), ke P "substring_i" 1374 (.int (10) 1370), ke P "result" 1375 (.int (2) 1371)] 4), #[]⟩
noncomputable def o479 (P : Params) : Obj := ⟨(.type "dict"), none, (.dict #[ke P "s" 1391 (ks "й" 1382), ke P "substring_i" 1393 (.int (-1) 1384), ke P "result" 1395 (.int (1) 1385)] 3), #[]⟩
noncomputable def o480 (P : Params) : Obj := ⟨(.ref 218), (some 479), .plain, #[]⟩
noncomputable def o481 (P : Params) : Obj := ⟨(.type "frame"), none, (.dict #[ke P "self" 1386 (.ref 480), ke P "s" 1387 (ks "й" 1382), ke P "substring_i" 1388 (.int (-1) 1384), ke P "result" 1389 (.int (1) 1385)] 4), #[]⟩
noncomputable def o482 (P : Params) : Obj := ⟨(.type "dict"), none, (.dict #[ke P "s" 1404 (ks "ей" 1396), ke P "substring_i" 1406 (.int (13) 1397), ke P "result" 1408 (.int (2) 1398)] 3), #[]⟩
noncomputable def o483 (P : Params) : Obj := ⟨(.ref 218), (some 482), .plain, #[]⟩
noncomputable def o484 (P : Params) : Obj := ⟨(.type "frame"), none, (.dict #[ke P "self" 1399 (.ref 483), ke P "s" 1400 (ks "ей" 1396), ke P "substring_i" 1401 (.int (13) 1397), ke P "result" 1402 (.int (2) 1398)] 4), #[]⟩
noncomputable def o485 (P : Params) : Obj := ⟨(.type "dict"), none, (.dict #[ke P "s" 1417 (ks "уй" 1409), ke P "substring_i" 1419 (.int (13) 1410), ke P "result" 1421 (.int (2) 1411)] 3), #[]⟩
noncomputable def o486 (P : Params) : Obj := ⟨(.ref 218), (some 485), .plain, #[]⟩
noncomputable def o487 (P : Params) : Obj := ⟨(.type "frame"), none, (.dict #[ke P "self" 1412 (.ref 486), ke P "s" 1413 (ks "уй" 1409), ke P "substring_i" 1414 (.int (13) 1410), ke P "result" 1415 (.int (2) 1411)] 4), #[]⟩
noncomputable def o488 (P : Params) : Obj := ⟨(.type "dict"), none, (.dict #[ke P "s" 1431 (ks "л" 1422), ke P "substring_i" 1433 (.int (-1) 1424), ke P "result" 1435 (.int (1) 1425)] 3), #[]⟩
noncomputable def o489 (P : Params) : Obj := ⟨(.ref 218), (some 488), .plain, #[]⟩
noncomputable def o490 (P : Params) : Obj := ⟨(.type "frame"), none, (.dict #[ke P "self" 1426 (.ref 489), ke P "s" 1427 (ks "л" 1422), ke P "substring_i" 1428 (.int (-1) 1424), ke P "result" 1429 (.int (1) 1425)] 4), #[]⟩
noncomputable def o491 (P : Params) : Obj := ⟨(.type "dict"), none, (.dict #[ke P "s" 1444 (ks "ил" 1436), ke P "substring_i" 1446 (.int (16) 1437), ke P "result" 1448 (.int (2) 1438)] 3), #[]⟩
noncomputable def o492 (P : Params) : Obj := ⟨(.ref 218), (some 491), .plain, #[]⟩
noncomputable def o493 (P : Params) : Obj := ⟨(.type "frame"), none, (.dict #[ke P "self" 1439 (.ref 492), ke P "s" 1440 (ks "ил" 1436), ke P "substring_i" 1441 (.int (16) 1437), ke P "result" 1442 (.int (2) 1438)] 4), #[]⟩
noncomputable def o494 (P : Params) : Obj := ⟨(.type "dict"), none, (.dict #[ke P "s" 1457 (ks "ыл" 1449), ke P "substring_i" 1459 (.int (16) 1450), ke P "result" 1461 (.int (2) 1451)] 3), #[]⟩
noncomputable def o495 (P : Params) : Obj := ⟨(.ref 218), (some 494), .plain, #[]⟩
noncomputable def o496 (P : Params) : Obj := ⟨(.type "frame"), none, (.dict #[ke P "self" 1452 (.ref 495), ke P "s" 1453 (ks "ыл" 1449), ke P "substring_i" 1454 (.int (16) 1450), ke P "result" 1455 (.int (2) 1451)] 4), #[]⟩
noncomputable def o497 (P : Params) : Obj := ⟨(.type "dict"), none, (.dict #[ke P "s" 1471 (ks "ем" 1462), ke P "substring_i" 1473 (.int (-1) 1464), ke P "result" 1475 (.int (1) 1465)] 3), #[]⟩
noncomputable def o498 (P : Params) : Obj := ⟨(.ref 218), (some 497), .plain, #[]⟩
noncomputable def o499 (P : Params) : Obj := ⟨(.type "frame"), none, (.dict #[ke P "self" 1466 (.ref 498), ke P "s" 1467 (ks "ем" 1462), ke P "substring_i" 1468 (.int (-1) 1464), ke P "result" 1469 (.int (1) 1465)] 4), #[]⟩
noncomputable def o500 (P : Params) : Obj := ⟨(.type "dict"), none, (.dict #[ke P "s" 1485 (ks "им" 1476), ke P "substring_i" 1487 (.int (-1) 1478), ke P "result" 1489 (.int (2) 1479)] 3), #[]⟩
noncomputable def o501 (P : Params) : Obj := ⟨(.ref 218), (some 500), .plain, #[]⟩
noncomputable def o502 (P : Params) : Obj := ⟨(.type "frame"), none, (.dict #[ke P "self" 1480 (.ref 501), ke P "s" 1481 (ks "им" 1476), ke P "substring_i" 1482 (.int (-1) 1478), ke P "result" 1483 (.int (2) 1479)] 4), #[]⟩
noncomputable def o503 (P : Params) : Obj := ⟨(.type "dict"), none, (.dict #[ke P "s" 1499 (ks "ым" 1490), ke P "substring_i" 1501 (.int (-1) 1492), ke P "result" 1503 (.int (2) 1493)] 3), #[]⟩
noncomputable def o504 (P : Params) : Obj := ⟨(.ref 218), (some 503), .plain, #[]⟩
noncomputable def o505 (P : Params) : Obj := ⟨(.type "frame"), none, (.dict #[ke P "self" 1494 (.ref 504), ke P "s" 1495 (ks "ым" 1490), ke P "substring_i" 1496 (.int (-1) 1492), ke P "result" 1497 (.int (2) 1493)] 4), #[]⟩
noncomputable def o506 (P : Params) : Obj := ⟨(.type "dict"), none, (.dict #[ke P "s" 1513 (ks "н" 1504), ke P "substring_i" 1515 (.int (-1) 1506), ke P "result" 1517 (.int (1) 1507)] 3), #[]⟩
noncomputable def o507 (P : Params) : Obj := ⟨(.ref 218), (some 506), .plain, #[]⟩
noncomputable def o508 (P : Params) : Obj := ⟨(.type "frame"), none, (.dict #[ke P "self" 1508 (.ref 507), ke P "s" 1509 (ks "н" 1504), ke P "substring_i" 1510 (.int (-1) 1506), ke P "result" 1511 (.int (1) 1507)] 4), #[]⟩
noncomputable def o509 (P : Params) : Obj := ⟨(.type "dict"), none, (.dict #[ke P "s" 1526 (ks "ен" 1518), ke P "substring_i" 1528 (.int (22) 1519), ke P "result" 1530 (.int (2) 1520)] 3), #[]⟩
noncomputable def o510 (P : Params) : Obj := ⟨(.ref 218), (some 509), .plain, #[]⟩
noncomputable def o511 (P : Params) : Obj := ⟨(.type "frame"), none, (.dict #[ke P "self" 1521 (.ref 510), ke P "s" 1522 (ks "ен" 1518), ke P "substring_i" 1523 (.int (22) 1519), ke P "result" 1524 (.int (2) 1520)] 4), #[]⟩
noncomputable def o512 (P : Params) : Obj := ⟨(.type "dict"), none, (.dict #[ke P "s" 1540 (ks "ло" 1531), ke P "substring_i" 1542 (.int (-1) 1533), ke P "result" 1544 (.int (1) 1534)] 3), #[]⟩
noncomputable def o513 (P : Params) : Obj := ⟨(.ref 218), (some 512), .plain, #[]⟩
noncomputable def o514 (P : Params) : Obj := ⟨(.type "frame"), none, (.dict #[ke P "self" 1535 (.ref 513), ke P "s" 1536 (ks "ло" 1531), ke P "substring_i" 1537 (.int (-1) 1533), ke P "result" 1538 (.int (1) 1534)] 4), #[]⟩
noncomputable def o515 (P : Params) : Obj := ⟨(.type "dict"), none, (.dict #[ke P "s" 1553 (ks "ило" 1545), ke P "substring_i" 1555 (.int (24) 1546), ke P "result" 1557 (.int (2) 1547)] 3), #[]⟩
noncomputable def o516 (P : Params) : Obj := ⟨(.ref 218), (some 515), .plain, #[]⟩
noncomputable def o517 (P : Params) : Obj := ⟨(.type "frame"), none, (.dict #[ke P "self" 1548 (.ref 516), ke P "s" 1549 (ks "ило" 1545), ke P "substring_i" 1550 (.int (24) 1546), ke P "result" 1551 (.int (2) 1547)] 4), #[]⟩
noncomputable def o518 (P : Params) : Obj := ⟨(.type "dict"), none, (.dict #[ke P "s" 1566 (ks "ыло" 1558), ke P "substring_i" 1568 (.int (24) 1559), ke P "result" 1570 (.int (2) 1560)] 3), #[]⟩
noncomputable def o519 (P : Params) : Obj := ⟨(.ref 218), (some 518), .plain, #[]⟩
noncomputable def o520 (P : Params) : Obj := ⟨(.type "frame"), none, (.dict #[ke P "self" 1561 (.ref 519), ke P "s" 1562 (ks "ыло" 1558), ke P "substring_i" 1563 (.int (24) 1559), ke P "result" 1564 (.int (2) 1560)] 4), #[]⟩
noncomputable def o521 (P : Params) : Obj := ⟨(.type "dict"), none, (.dict #[ke P "s" 1580 (ks "но" 1571), ke P "substring_i" 1582 (.int (-1) 1573), ke P "result" 1584 (.int (1) 1574)] 3), #[]⟩
noncomputable def o522 (P : Params) : Obj := ⟨(.ref 218), (some 521), .plain, #[]⟩
noncomputable def o523 (P : Params) : Obj := ⟨(.type "frame"), none, (.dict #[ke P "self" 1575 (.ref 522), ke P "s" 1576 (ks "но" 1571), ke P "substring_i" 1577 (.int (-1) 1573), ke P "result" 1578 (.int (1) 1574)] 4), #[]⟩
noncomputable def o524 (P : Params) : Obj := ⟨(.type "dict"), none, (.dict #[ke P "s" 1593 (ks "ено" 1585), ke P "substring_i" 1595 (.int (27) 1586), ke P "result" 1597 (.int (2) 1587)] 3), #[]⟩
noncomputable def o525 (P : Params) : Obj := ⟨(.ref 218), (some 524), .plain, #[]⟩
noncomputable def o526 (P : Params) : Obj := ⟨(.type "frame"), none, (.dict #[ke P "self" 1588 (.ref 525), ke P "s" 1589 (ks "ено" 1585), ke P "substring_i" 1590 (.int (27) 1586), ke P "result" 1591 (.int (2) 1587)] 4), #[]⟩
noncomputable def o527 (P : Params) : Obj := ⟨(.type "dict"), none, (.dict #[ke P "s" 1606 (ks "нно" 1598), ke P "substring_i" 1608 (.int (27) 1599), ke P "result" 1610 (.int (1) 1600)] 3), #[]⟩
noncomputable def o528 (P : Params) : Obj := ⟨(.ref 218), (some 527), .plain, #[]⟩
noncomputable def o529 (P : Params) : Obj := ⟨(.type "frame"), none, (.dict #[ke P "self" 1601 (.ref 528), ke P "s" 1602 (ks "нно" 1598), ke P "substring_i" 1603 (.int (27) 1599), ke P "result" 1604 (.int (1) 1600)] 4), #[]⟩
noncomputable def o530 (P : Params) : Obj := ⟨(.type "dict"), none, (.dict #[ke P "s" 1620 (ks "ет" 1611), ke P "substring_i" 1622 (.int (-1) 1613), ke P "result" 1624 (.int (1) 1614)] 3), #[]⟩
noncomputable def o531 (P : Params) : Obj := ⟨(.ref 218), (some 530), .plain, #[]⟩
noncomputable def o532 (P : Params) : Obj := ⟨(.type "frame"), none, (.dict #[ke P "self" 1615 (.ref 531), ke P "s" 1616 (ks "ет" 1611), ke P "substring_i" 1617 (.int (-1) 1613), ke P "result" 1618 (.int (1) 1614)] 4), #[]⟩
noncomputable def o533 (P : Params) : Obj := ⟨(.type "dict"), none, (.dict #[ke P "s" 1633 (ks "ует" 1625), ke P "substring_i" 1635 (.int (30) 1626), ke P "result" 1637 (.int (2) 1627)] 3), #[]⟩
noncomputable def o534 (P : Params) : Obj := ⟨(.ref 218), (some 533), .plain, #[]⟩
noncomputable def o535 (P : Params) : Obj := ⟨(.type "frame"), none, (.dict #[ke P "self" 1628 (.ref 534), ke P "s" 1629 (ks "ует" 1625), ke P "substring_i" 1630 (.int (30) 1626), ke P "result" 1631 (.int (2) 1627)] 4), #[]⟩
noncomputable def o536 (P : Params) : Obj := ⟨(.type "dict"), none, (.dict #[ke P "s" 1647 (ks "ит" 1638), ke P "substring_i" 1649 (.int (-1) 1640), ke P "result" 1651 (.int (2) 1641)] 3), #[]⟩
noncomputable def o537 (P : Params) : Obj := ⟨(.ref 218), (some 536), .plain, #[]⟩
noncomputable def o538 (P : Params) : Obj := ⟨(.type "frame"), none, (.dict #[ke P "self" 1642 (.ref 537), ke P "s" 1643 (ks "ит" 1638), ke P "substring_i" 1644 (.int (-1) 1640), ke P "result" 1645 (.int (2) 1641)] 4), #[]⟩
noncomputable def o539 (P : Params) : Obj := ⟨(.type "dict"), none, (.dict #[ke P "s" 1661 (ks "ыт" 1652), ke P "substring_i" 1663 (.int (-1) 1654), ke P "result" 1665 (.int (2) 1655)] 3), #[]⟩
noncomputable def o540 (P : Params) : Obj := ⟨(.ref 218), (some 539), .plain, #[]⟩
noncomputable def o541 (P : Params) : Obj := ⟨(.type "frame"), none, (.dict #[ke P "self" 1656 (.ref 540), ke P "s" 1657 (ks "ыт" 1652), ke P "substring_i" 1658 (.int (-1) 1654), ke P "result" 1659 (.int (2) 1655)] 4), #[]⟩
noncomputable def o542 (P : Params) : Obj := ⟨(.type "dict"), none, (.dict #[ke P "s" 1675 (ks "ют" 1666), ke P "substring_i" 1677 (.int (-1) 1668), ke P "result" 1679 (.int (1) 1669)] 3), #[]⟩
noncomputable def o543 (P : Params) : Obj := ⟨(.ref 218), (some 542), .plain, #[]⟩
noncomputable def o544 (P : Params) : Obj := ⟨(.type "frame"), none, (.dict #[ke P "self" 1670 (.ref 543), ke P "s" 1671 (ks "ют" 1666), ke P "substring_i" 1672 (.int (-1) 1668), ke P "result" 1673 (.int (1) 1669)] 4), #[]⟩
noncomputable def o545 (P : Params) : Obj := ⟨(.type "dict"), none, (.dict #[ke P "s" 1688 (ks "уют" 1680), ke P "substring_i" 1690 (.int (34) 1681), ke P "result" 1692 (.int (2) 1682)] 3), #[]⟩
noncomputable def o546 (P : Params) : Obj := ⟨(.ref 218), (some 545), .plain, #[]⟩
noncomputable def o547 (P : Params) : Obj := ⟨(.type "frame"), none, (.dict #[ke P "self" 1683 (.ref 546), ke P "s" 1684 (ks "уют" 1680), ke P "substring_i" 1685 (.int (34) 1681), ke P "result" 1686 (.int (2) 1682)] 4), #[]⟩
noncomputable def o548 (P : Params) : Obj := ⟨(.type "dict"), none, (.dict #[ke P "s" 1702 (ks "ят" 1693), ke P "substring_i" 1704 (.int (-1) 1695), ke P "result" 1706 (.int (2) 1696)] 3), #[]⟩
noncomputable def o549 (P : Params) : Obj := ⟨(.ref 218), (some 548), .plain, #[]⟩
noncomputable def o550 (P : Params) : Obj := ⟨(.type "frame"), none, (.dict #[ke P "self" 1697 (.ref 549), ke P "s" 1698 (ks "ят" 1693), ke P "substring_i" 1699 (.int (-1) 1695), ke P "result" 1700 (.int (2) 1696)] 4), #[]⟩
noncomputable def o551 (P : Params) : Obj := ⟨(.type "dict"), none, (.dict #[ke P "s" 1716 (ks "ны" 1707), ke P "substring_i" 1718 (.int (-1) 1709), ke P "result" 1720 (.int (1) 1710)] 3), #[]⟩
noncomputable def o552 (P : Params) : Obj := ⟨(.ref 218), (some 551), .plain, #[]⟩
noncomputable def o553 (P : Params) : Obj := ⟨(.type "frame"), none, (.dict #[ke P "self" 1711 (.ref 552), ke P "s" 1712 (ks "ны" 1707), ke P "substring_i" 1713 (.int (-1) 1709), ke P "result" 1714 (.int (1) 1710)] 4), #[]⟩
noncomputable def o554 (P : Params) : Obj := ⟨(.type "dict"), none, (.dict #[ke P "s" 1729 (ks "ены" 1721), ke P "substring_i" 1731 (.int (37) 1722), ke P "result" 1733 (.int (2) 1723)] 3), #[]⟩
noncomputable def o555 (P : Params) : Obj := ⟨(.ref 218), (some 554), .plain, #[]⟩
noncomputable def o556 (P : Params) : Obj := ⟨(.type "frame"), none, (.dict #[ke P "self" 1724 (.ref 555), ke P "s" 1725 (ks "ены" 1721), ke P "substring_i" 1726 (.int (37) 1722), ke P "result" 1727 (.int (2) 1723)] 4), #[]⟩
noncomputable def o557 (P : Params) : Obj := ⟨(.type "dict"), none, (.dict #[ke P "s" 1743 (ks "ть" 1734), ke P "substring_i" 1745 (.int (-1) 1736), ke P "result" 1747 (.int (1) 1737)] 3), #[]⟩
noncomputable def o558 (P : Params) : Obj := ⟨(.ref 218), (some 557), .plain, #[]⟩
noncomputable def o559 (P : Params) : Obj := ⟨(.type "frame"), none, (.dict #[ke P "self" 1738 (.ref 558), ke P "s" 1739 (ks "ть" 1734), ke P "substring_i" 1740 (.int (-1) 1736), ke P "result" 1741 (.int (1) 1737)] 4), #[]⟩
noncomputable def o560 (P : Params) : Obj := ⟨(.type "dict"), none, (.dict #[ke P "s" 1756 (ks "ить" 1748), ke P "substring_i" 1758 (.int (39) 1749), ke P "result" 1760 (.int (2) 1750)] 3), #[]⟩
noncomputable def o561 (P : Params) : Obj := ⟨(.ref 218), (some 560), .plain, #[]⟩
noncomputable def o562 (P : Params) : Obj := ⟨(.type "frame"), none, (.dict #[ke P "self" 1751 (.ref 561), ke P "s" 1752 (ks "ить" 1748), ke P "substring_i" 1753 (.int (39) 1749), ke P "result" 1754 (.int (2) 1750)] 4), #[]⟩
noncomputable def o563 (P : Params) : Obj := ⟨(.type "dict"), none, (.dict #[ke P "s" 1769 (ks "ыть" 1761), ke P "substring_i" 1771 (.int (39) 1762), ke P "result" 1773 (.int (2) 1763)] 3), #[]⟩
noncomputable def o564 (P : Params) : Obj := ⟨(.ref 218), (some 563), .plain, #[]⟩
noncomputable def o565 (P : Params) : Obj := ⟨(.type "frame"), none, (.dict #[ke P "self" 1764 (.ref 564), ke P "s" 1765 (ks "ыть" 1761), ke P "substring_i" 1766 (.int (39) 1762), ke P "result" 1767 (.int (2) 1763)] 4), #[]⟩
noncomputable def o566 (P : Params) : Obj := ⟨(.type "dict"), none, (.dict #[ke P "s" 1783 (ks "ешь" 1774), ke P "substring_i" 1785 (.int (-1) 1776), ke P "result" 1787 (.int (1) 1777)] 3), #[]⟩
noncomputable def o567 (P : Params) : Obj := ⟨(.ref 218), (some 566), .plain, #[]⟩
noncomputable def o568 (P : Params) : Obj := ⟨(.type "frame"), none, (.dict #[ke P "self" 1778 (.ref 567), ke P "s" 1779 (ks "ешь" 1774), ke P "substring_i" 1780 (.int (-1) 1776), ke P "result" 1781 (.int (1) 1777)] 4), #[]⟩
noncomputable def o569 (P : Params) : Obj := ⟨(.type "dict"), none, (.dict #[ke P "s" 1797 (ks "ишь" 1788), ke P "substring_i" 1799 (.int (-1) 1790), ke P "result" 1801 (.int (2) 1791)] 3), #[]⟩
noncomputable def o570 (P : Params) : Obj := ⟨(.ref 218), (some 569), .plain, #[]⟩
noncomputable def o571 (P : Params) : Obj := ⟨(.type "frame"), none, (.dict #[ke P "self" 1792 (.ref 570), ke P "s" 1793 (ks "ишь" 1788), ke P "substring_i" 1794 (.int (-1) 1790), ke P "result" 1795 (.int (2) 1791)] 4), #[]⟩
noncomputable def o572 (P : Params) : Obj := ⟨(.type "dict"), none, (.dict #[ke P "s" 1811 (ks "ю" 1802), ke P "substring_i" 1813 (.int (-1) 1804), ke P "result" 1815 (.int (2) 1805)] 3), #[]⟩
noncomputable def o573 (P : Params) : Obj := ⟨(.ref 218), (some 572), .plain, #[]⟩
noncomputable def o574 (P : Params) : Obj := ⟨(.type "frame"), none, (.dict #[ke P "self" 1806 (.ref 573), ke P "s" 1807 (ks "ю" 1802), ke P "substring_i" 1808 (.int (-1) 1804), ke P "result" 1809 (.int (2) 1805)] 4), #[]⟩
noncomputable def o575 (P : Params) : Obj := ⟨(.type "dict"), none, (.dict #[ke P "s" 1824 (ks "ую" 1816), ke P "substring_i" 1826 (.int (44) 1817), ke P "result" 1828 (.int (2) 1818)] 3), #[]⟩
noncomputable def o576 (P : Params) : Obj := ⟨(.ref 218), (some 575), .plain, #[]⟩
noncomputable def o577 (P : Params) : Obj := ⟨(.type "frame"), none, (.dict #[ke P "self" 1819 (.ref 576), ke P "s" 1820 (ks "ую" 1816), ke P "substring_i" 1821 (.int (44) 1817), ke P "result" 1822 (.int (2) 1818)] 4), #[]⟩
noncomputable def o578 (P : Params) : Obj := ⟨(.type "list"), none, (.seq #[(.ref 441), (.ref 444), (.ref 447), (.ref 450), (.ref 453), (.ref 456), (.ref 459), (.ref 462), (.ref 465), (.ref 468), (.ref 471), (.ref 474), (.ref 477), (.ref 480), (.ref 483), (.ref 486), (.ref 489), (.ref 492), (.ref 495), (.ref 498), (.ref 501), (.ref 504), (.ref 507), (.ref 510), (.ref 513), (.ref 516), (.ref 519), (.ref 522), (.ref 525), (.ref 528), (.ref 531), (.ref 534), (.ref 537), (.ref 540), (.ref 543), (.ref 546), (.ref 549), (.ref 552), (.ref 555), (.ref 558), (.ref 561), (.ref 564), (.ref 567), (.ref 570), (.ref 573), (.ref 576)] 0), #[]⟩
noncomputable def o579 (P : Params) : Obj := ⟨(.type "dict"), none, (.dict #[ke P "s" 1839 (ks "а" 1830), ke P "substring_i" 1841 (.int (-1) 1832), ke P "result" 1843 (.int (1) 1833)] 3), #[]⟩
noncomputable def o580 (P : Params) : Obj := ⟨(.ref 218), (some 579), .plain, #[]⟩
noncomputable def o581 (P : Params) : Obj := ⟨(.type "frame"), none, (.dict #[ke P "self" 1834 (.ref 580), ke P "s" 1835 (ks "а" 1830), ke P "substring_i" 1836 (.int (-1) 1832), ke P "result" 1837 (.int (1) 1833)] 4), #[]⟩
noncomputable def o582 (P : Params) : Obj := ⟨(.type "dict"), none, (.dict #[ke P "s" 1853 (ks "ев" 1844), ke P "substring_i" 1855 (.int (-1) 1846), ke P "result" 1857 (.int (1) 1847)] 3), #[]⟩
noncomputable def o583 (P : Params) : Obj := ⟨(.ref 218), (some 582), .plain, #[]⟩
noncomputable def o584 (P : Params) : Obj := ⟨(.type "frame"), none, (.dict #[ke P "self" 1848 (.ref 583), ke P "s" 1849 (ks "ев" 1844), ke P "substring_i" 1850 (.int (-1) 1846), ke P "result" 1851 (.int (1) 1847)] 4), #[]⟩
noncomputable def o585 (P : Params) : Obj := ⟨(.type "dict"), none, (.dict #[ke P "s" 1867 (ks "ов" 1858), ke P "substring_i" 1869 (.int (-1) 1860), ke P "result" 1871 (.int (1) 1861)] 3), #[]⟩
noncomputable def o586 (P : Params) : Obj := ⟨(.ref 218), (some 585), .plain, #[]⟩
noncomputable def o587 (P : Params) : Obj := ⟨(.type "frame"), none, (.dict #[ke P "self" 1862 (.ref 586), ke P "s" 1863 (ks "ов" 1858), ke P "substring_i" 1864 (.int (-1) 1860), ke P "result" 1865 (.int (1) 1861)] 4), #[]⟩
noncomputable def o588 (P : Params) : Obj := ⟨(.type "dict"), none, (.dict #[ke P "s" 1881 (ks "е" 1872), ke P "substring_i" 1883 (.int (-1) 1874), ke P "result" 1885 (.int (1) 1875)] 3), #[]⟩
noncomputable def o589 (P : Params) : Obj := ⟨(.ref 218), (some 588), .plain, #[]⟩
noncomputable def o590 (P : Params) : Obj := ⟨(.type "frame"), none, (.dict #[ke P "self" 1876 (.ref 589), ke P "s" 1877 (ks "е" 1872), ke P "substring_i" 1878 (.int (-1) 1874), ke P "result" 1879 (.int (1) 1875)] 4), #[]⟩
noncomputable def o591 (P : Params) : Obj := ⟨(.type "dict"), none, (.dict #[ke P "s" 1894 (ks "ие" 1886), ke P "substring_i" 1896 (.int (3) 1887), ke P "result" 1898 (.int (1) 1888)] 3), #[]⟩
noncomputable def o592 (P : Params) : Obj := ⟨(.ref 218), (some 591), .plain, #[]⟩
noncomputable def o593 (P : Params) : Obj := ⟨(.type "frame"), none, (.dict #[ke P "self" 1889 (.ref 592), ke P "s" 1890 (ks "ие" 1886), ke P "substring_i" 1891 (.int (3) 1887), ke P "result" 1892 (.int (1) 1888)] 4), #[]⟩
noncomputable def o594 (P : Params) : Obj := ⟨(.type "dict"), none, (.dict #[ke P "s" 1907 (ks "ье" 1899), ke P "substring_i" 1909 (.int (3) 1900), ke P "result" 1911 (.int (1) 1901)] 3), #[]⟩
noncomputable def o595 (P : Params) : Obj := ⟨(.ref 218), (some 594), .plain, #[]⟩
noncomputable def o596 (P : Params) : Obj := ⟨(.type "frame"), none, (.dict #[ke P "self" 1902 (.ref 595), ke P "s" 1903 (ks "ье" 1899), ke P "substring_i" 1904 (.int (3) 1900), ke P "result" 1905 (.int (1) 1901)] 4), #[]⟩
noncomputable def o597 (P : Params) : Obj := ⟨(.type "dict"), none, (.dict #[ke P "s" 1921 (ks "и" 1912), ke P "substring_i" 1923 (.int (-1) 1914), ke P "result" 1925 (.int (1) 1915)] 3), #[]⟩
noncomputable def o598 (P : Params) : Obj := ⟨(.ref 218), (some 597), .plain, #[]⟩
noncomputable def o599 (P : Params) : Obj := ⟨(.type "frame"), none, (.dict #[ke P "self" 1916 (.ref 598), ke P "s" 1917 (ks "и" 1912), ke P "substring_i" 1918 (.int (-1) 1914), ke P "result" 1919 (.int (1) 1915)] 4), #[]⟩
noncomputable def o600 (P : Params) : Obj := ⟨(.type "dict"), none, (.dict #[ke P "s" 1934 (ks "еи" 1926), ke P "substring_i" 1936 (.int (6) 1927), ke P "result" 1938 (.int (1) 1928)] 3), #[]⟩
noncomputable def o601 (P : Params) : Obj := ⟨(.ref 218), (some 600), .plain, #[]⟩
noncomputable def o602 (P : Params) : Obj := ⟨(.type "frame"), none, (.dict #[ke P "self" 1929 (.ref 601), ke P "s" 1930 (ks "еи" 1926), ke P "substring_i" 1931 (.int (6) 1927), ke P "result" 1932 (.int (1) 1928)] 4), #[]⟩
noncomputable def o603 (P : Params) : Obj := ⟨(.type "dict"), none, (.dict #[ke P "s" 1947 (ks "ии" 1939), ke P "substring_i" 1949 (.int (6) 1940), ke P "result" 1951 (.int (1) 1941)] 3), #[]⟩
noncomputable def o604 (P : Params) : Obj := ⟨(.ref 218), (some 603), .plain, #[]⟩
noncomputable def o605 (P : Params) : Obj := ⟨(.type "frame"), none, (.dict #[ke P "self" 1942 (.ref 604), ke P "s" 1943 (ks "ии" 1939), ke P "substring_i" 1944 (.int (6) 1940), ke P "result" 1945 (.int (1) 1941)] 4), #[]⟩
noncomputable def o606 (P : Params) : Obj := ⟨(.type "dict"), none, (.dict #[ke P "s" 1960 (ks "ами" 1952), ke P "substring_i" 1962 (.int (6) 1953), ke P "result" 1964 (.int (1) 1954)] 3), #[]⟩
noncomputable def o607 (P : Params) : Obj := ⟨(.ref 218), (some 606), .plain, #[]⟩
noncomputable def o608 (P : Params) : Obj := ⟨(.type "frame"), none, (.dict #[ke P "self" 1955 (.ref 607), ke P "s" 1956 (ks "ами" 1952), ke P "substring_i" 1957 (.int (6) 1953), ke P "result" 1958 (.int (1) 1954)] 4), #[]⟩
noncomputable def o609 (P : Params) : Obj := ⟨(.type "dict"), none, (.dict #[ke P "s" 1973 (ks "ями" 1965), ke P "substring_i" 1975 (.int (6) 1966), ke P "result" 1977 (.int (1) 1967)] 3), #[]⟩
noncomputable def o610 (P : Params) : Obj := ⟨(.ref 218), (some 609), .plain, #[]⟩
noncomputable def o611 (P : Params) : Obj := ⟨(.type "frame"), none, (.dict #[ke P "self" 1968 (.ref 610), ke P "s" 1969 (ks "ями" 1965), ke P "substring_i" 1970 (.int (6) 1966), ke P "result" 1971 (.int (1) 1967)] 4), #[]⟩
noncomputable def o612 (P : Params) : Obj := ⟨(.type "dict"), none, (.dict #[ke P "s" 1986 (ks "иями" 1978), ke P "substring_i" 1988 (.int (10) 1979), ke P "result" 1990 (.int (1) 1980)] 3), #[]⟩
noncomputable def o613 (P : Params) : Obj := ⟨(.ref 218), (some 612), .plain, #[]⟩
noncomputable def o614 (P : Params) : Obj := ⟨(.type "frame"), none, (.dict #[ke P "self" 1981 (.ref 613), ke P "s" 1982 (ks "иями" 1978), ke P "substring_i" 1983 (.int (10) 1979), ke P "result" 1984 (.int (1) 1980)] 4), #[]⟩
noncomputable def o615 (P : Params) : Obj := ⟨(.type "dict"), none, (.dict #[ke P "s" 2000 (ks "й" 1991), ke P "substring_i" 2002 (.int (-1) 1993), ke P "result" 2004 (.int (1) 1994)] 3), #[]⟩
noncomputable def o616 (P : Params) : Obj := ⟨(.ref 218), (some 615), .plain, #[]⟩
noncomputable def o617 (P : Params) : Obj := ⟨(.type "frame"), none, (.dict #[ke P "self" 1995 (.ref 616), ke P "s" 1996 (ks "й" 1991), ke P "substring_i" 1997 (.int (-1) 1993), ke P "result" 1998 (.int (1) 1994)] 4), #[]⟩
noncomputable def o618 (P : Params) : Obj := ⟨(.type "dict"), none, (.dict #[ke P "s" 2013 (ks "ей" 2005), ke P "substring_i" 2015 (.int (12) 2006), ke P "result" 2017 (.int (1) 2007)] 3), #[]⟩
noncomputable def o619 (P : Params) : Obj := ⟨(.ref 218), (some 618), .plain, #[]⟩
noncomputable def o620 (P : Params) : Obj := ⟨(.type "frame"), none, (.dict #[ke P "self" 2008 (.ref 619), ke P "s" 2009 (ks "ей" 2005), ke P "substring_i" 2010 (.int (12) 2006), ke P "result" 2011 (.int (1) 2007)] 4), #[]⟩
noncomputable def o621 (P : Params) : Obj := ⟨(.type "dict"), none, (.dict #[ke P "s" 2026 (ks "ией" 2018), ke P "substring_i" 2028 (.int (13) 2019), ke P "result" 2030 (.int (1) 2020)] 3), #[]⟩
noncomputable def o622 (P : Params) : Obj := ⟨(.ref 218), (some 621), .plain, #[]⟩
noncomputable def o623 (P : Params) : Obj := ⟨(.type "frame"), none, (.dict #[ke P "self" 2021 (.ref 622), ke P "s" 2022 (ks "ией" 2018), ke P "substring_i" 2023 (.int (13) 2019), ke P "result" 2024 (.int (1) 2020)] 4), #[]⟩
noncomputable def o624 (P : Params) : Obj := ⟨(.type "dict"), none, (.dict #[ke P "s" 2039 (ks "ий" 2031), ke P "substring_i" 2041 (.int (12) 2032), ke P "result" 2043 (.int (1) 2033)] 3), #[]⟩
noncomputable def o625 (P : Params) : Obj := ⟨(.ref 218), (some 624), .plain, #[]⟩
noncomputable def o626 (P : Params) : Obj := ⟨(.type "frame"), none, (.dict #[ke P "self" 2034 (.ref 625), ke P "s" 2035 (ks "ий" 2031), ke P "substring_i" 2036 (.int (12) 2032), ke P "result" 2037 (.int (1) 2033)] 4), #[]⟩
noncomputable def o627 (P : Params) : Obj := ⟨(.type "dict"), none, (.dict #[ke P "s" 2052 (ks "ой" 2044), ke P "substring_i" 2054 (.int (12) 2045), ke P "result" 2056 (.int (1) 2046)] 3), #[]⟩
noncomputable def o628 (P : Params) : Obj := ⟨(.ref 218), (some 627), .plain, #[]⟩
noncomputable def o629 (P : Params) : Obj := ⟨(.type "frame"), none, (.dict #[ke P "self" 2047 (.ref 628), ke P "s" 2048 (ks "ой" 2044), ke P "substring_i" 2049 (.int (12) 2045), ke P "result" 2050 (.int (1) 2046)] 4), #[]⟩
noncomputable def o630 (P : Params) : Obj := ⟨(.type "dict"), none, (.dict #[ke P "s" 2066 (ks "ам" 2057), ke P "substring_i" 2068 (.int (-1) 2059), ke P "result" 2070 (.int (1) 2060)] 3), #[]⟩
noncomputable def o631 (P : Params) : Obj := ⟨(.ref 218), (some 630), .plain, #[]⟩
noncomputable def o632 (P : Params) : Obj := ⟨(.type "frame"), none, (.dict #[ke P "self" 2061 (.ref 631), ke P "s" 2062 (ks "ам" 2057), ke P "substring_i" 2063 (.int (-1) 2059), ke P "result" 2064 (.int (1) 2060)] 4), #[]⟩
noncomputable def o633 (P : Params) : Obj := ⟨(.type "dict"), none, (.dict #[ke P "s" 2080 (ks "ем" 2071), ke P "substring_i" 2082 (.int (-1) 2073), ke P "result" 2084 (.int (1) 2074)] 3), #[]⟩
noncomputable def o634 (P : Params) : Obj := ⟨(.ref 218), (some 633), .plain, #[]⟩
noncomputable def o635 (P : Params) : Obj := ⟨(.type "frame"), none, (.dict #[ke P "self" 2075 (.ref 634), ke P "s" 2076 (ks "ем" 2071), ke P "substring_i" 2077 (.int (-1) 2073), ke P "result" 2078 (.int (1) 2074)] 4), #[]⟩
noncomputable def o636 (P : Params) : Obj := ⟨(.type "dict"), none, (.dict #[ke P "s" 2093 (ks "ием" 2085), ke P "substring_i" 2095 (.int (18) 2086), ke P "result" 2097 (.int (1) 2087)] 3), #[]⟩
noncomputable def o637 (P : Params) : Obj := ⟨(.ref 218), (some 636), .plain, #[]⟩
noncomputable def o638 (P : Params) : Obj := ⟨(.type "frame"), none, (.dict #[ke P "self" 2088 (.ref 637), ke P "s" 2089 (ks "ием" 2085), ke P "substring_i" 2090 (.int (18) 2086), ke P "result" 2091 (.int (1) 2087)] 4), #[]⟩
noncomputable def o639 (P : Params) : Obj := ⟨(.type "dict"), none, (.dict #[ke P "s" 2107 (ks "ом" 2098), ke P "substring_i" 2109 (.int (-1) 2100), ke P "result" 2111 (.int (1) 2101)] 3), #[]⟩
noncomputable def o640 (P : Params) : Obj := ⟨(.ref 218), (some 639), .plain, #[]⟩
noncomputable def o641 (P : Params) : Obj := ⟨(.type "frame"), none, (.dict #[ke P "self" 2102 (.ref 640), ke P "s" 2103 (ks "ом" 2098), ke P "substring_i" 2104 (.int (-1) 2100), ke P "result" 2105 (.int (1) 2101)] 4), #[]⟩
noncomputable def o642 (P : Params) : Obj := ⟨(.type "dict"), none, (.dict #[ke P "s" 2121 (ks "ям" 2112), ke P "substring_i" 2123 (.int (-1) 2114), ke P "result" 2125 (.int (1) 2115)] 3), #[]⟩
noncomputable def o643 (P : Params) : Obj := ⟨(.ref 218), (some 642), .plain, #[]⟩
noncomputable def o644 (P : Params) : Obj := ⟨(.type "frame"), none, (.dict #[ke P "self" 2116 (.ref 643), ke P "s" 2117 (ks "ям" 2112), ke P "substring_i" 2118 (.int (-1) 2114), ke P "result" 2119 (.int (1) 2115)] 4), #[]⟩
noncomputable def o645 (P : Params) : Obj := ⟨(.type "dict"), none, (.dict #[ke P "s" 2134 (ks "иям" 2126), ke P "substring_i" 2136 (.int (21) 2127), ke P "result" 2138 (.int (1) 2128)] 3), #[]⟩
noncomputable def o646 (P : Params) : Obj := ⟨(.ref 218), (some 645), .plain, #[]⟩
noncomputable def o647 (P : Params) : Obj := ⟨(.type "frame"), none, (.dict #[ke P "self" 2129 (.ref 646), ke P "s" 2130 (ks "иям" 2126), ke P "substring_i" 2131 (.int (21) 2127), ke P "result" 2132 (.int (1) 2128)] 4), #[]⟩
noncomputable def o648 (P : Params) : Obj := ⟨(.type "dict"), none, (.dict #[ke P "s" 2148 (ks "о" 2139), ke P "substring_i" 2150 (.int (-1) 2141), ke P "result" 2152 (.int (1) 2142)] 3), #[]⟩
noncomputable def o649 (P : Params) : Obj := ⟨(.ref 218), (some 648), .plain, #[]⟩
noncomputable def o650 (P : Params) : Obj := ⟨(.type "frame"), none, (.dict #[ke P "self" 2143 (.ref 649), ke P "s" 2144 (ks "о" 2139), ke P "substring_i" 2145 (.int (-1) 2141), ke P "result" 2146 (.int (1) 2142)] 4), #[]⟩
noncomputable def o651 (P : Params) : Obj := ⟨(.type "dict"), none, (.dict #[ke P "s" 2162 (ks "у" 2153), ke P "substring_i" 2164 (.int (-1) 2155), ke P "result" 2166 (.int (1) 2156)] 3), #[]⟩
noncomputable def o652 (P : Params) : Obj := ⟨(.ref 218), (some 651), .plain, #[]⟩
noncomputable def o653 (P : Params) : Obj := ⟨(.type "frame"), none, (.dict #[ke P "self" 2157 (.ref 652), ke P "s" 2158 (ks "у" 2153), ke P "substring_i" 2159 (.int (-1) 2155), ke P "result" 2160 (.int (1) 2156)] 4), #[]⟩
noncomputable def o654 (P : Params) : Obj := ⟨(.type "dict"), none, (.dict #[ke P "s" 2176 (ks "ах" 2167), ke P "substring_i" 2178 (.int (-1) 2169), ke P "result" 2180 (.int (1) 2170)] 3), #[]⟩
noncomputable def o655 (P : Params) : Obj := ⟨(.ref 218), (some 654), .plain, #[]⟩
noncomputable def o656 (P : Params) : Obj := ⟨(.type "frame"), none, (.dict #[ke P "self" 2171 (.ref 655), ke P "s" 2172 (ks "ах" 2167), ke P "substring_i" 2173 (.int (-1) 2169), ke P "result" 2174 (.int (1) 2170)] 4), #[]⟩
noncomputable def o657 (P : Params) : Obj := ⟨(.type "dict"), none, (.dict #[ke P "s" 2190 (ks "ях" 2181), ke P "substring_i" 2192 (.int (-1) 2183), ke P "result" 2194 (.int (1) 2184)] 3), #[]⟩
noncomputable def o658 (P : Params) : Obj := ⟨(.ref 218), (some 657), .plain, #[]⟩
noncomputable def o659 (P : Params) : Obj := ⟨(.type "frame"), none, (.dict #[ke P "self" 2185 (.ref 658), ke P "s" 2186 (ks "ях" 2181), ke P "substring_i" 2187 (.int (-1) 2183), ke P "result" 2188 (.int (1) 2184)] 4), #[]⟩
noncomputable def o660 (P : Params) : Obj := ⟨(.type "dict"), none, (.dict #[ke P "s" 2203 (ks "иях" 2195), ke P "substring_i" 2205 (.int (26) 2196), ke P "result" 2207 (.int (1) 2197)] 3), #[]⟩
noncomputable def o661 (P : Params) : Obj := ⟨(.ref 218), (some 660), .plain, #[]⟩
noncomputable def o662 (P : Params) : Obj := ⟨(.type "frame"), none, (.dict #[ke P "self" 2198 (.ref 661), ke P "s" 2199 (ks "иях" 2195), ke P "substring_i" 2200 (.int (26) 2196), ke P "result" 2201 (.int (1) 2197)] 4), #[]⟩
noncomputable def o663 (P : Params) : Obj := ⟨(.type "dict"), none, (.dict #[ke P "s" 2217 (ks "ы" 2208), ke P "substring_i" 2219 (.int (-1) 2210), ke P "result" 2221 (.int (1) 2211)] 3), #[]⟩
noncomputable def o664 (P : Params) : Obj := ⟨(.ref 218), (some 663), .plain, #[]⟩
noncomputable def o665 (P : Params) : Obj := ⟨(.type "frame"), none, (.dict #[ke P "self" 2212 (.ref 664), ke P "s" 2213 (ks "ы" 2208), ke P "substring_i" 2214 (.int (-1) 2210), ke P "result" 2215 (.int (1) 2211)] 4), #[]⟩
noncomputable def o666 (P : Params) : Obj := ⟨(.type "dict"), none, (.dict #[ke P "s" 2231 (ks "ь" 2222), ke P "substring_i" 2233 (.int (-1) 2224), ke P "result" 2235 (.int (1) 2225)] 3), #[]⟩
noncomputable def o667 (P : Params) : Obj := ⟨(.ref 218), (some 666), .plain, #[]⟩
noncomputable def o668 (P : Params) : Obj := ⟨(.type "frame"), none, (.dict #[ke P "self" 2226 (.ref 667), ke P "s" 2227 (ks "ь" 2222), ke P "substring_i" 2228 (.int (-1) 2224), ke P "result" 2229 (.int (1) 2225)] 4), #[]⟩
noncomputable def o669 (P : Params) : Obj := ⟨(.type "dict"), none, (.dict #[ke P "s" 2245 (ks "ю" 2236), ke P "substring_i" 2247 (.int (-1) 2238), ke P "result" 2249 (.int (1) 2239)] 3), #[]⟩
noncomputable def o670 (P : Params) : Obj := ⟨(.ref 218), (some 669), .plain, #[]⟩
noncomputable def o671 (P : Params) : Obj := ⟨(.type "frame"), none, (.dict #[ke P "self" 2240 (.ref 670), ke P "s" 2241 (ks "ю" 2236), ke P "substring_i" 2242 (.int (-1) 2238), ke P "result" 2243 (.int (1) 2239)] 4), #[]⟩
noncomputable def o672 (P : Params) : Obj := ⟨(.type "dict"), none, (.dict #[ke P "s" 2258 (ks "ию" 2250), ke P "substring_i" 2260 (.int (30) 2251), ke P "result" 2262 (.int (1) 2252)] 3), #[]⟩
noncomputable def o673 (P : Params) : Obj := ⟨(.ref 218), (some 672), .plain, #[]⟩
noncomputable def o674 (P : Params) : Obj := ⟨(.type "frame"), none, (.dict #[ke P "self" 2253 (.ref 673), ke P "s" 2254 (ks "ию" 2250), ke P "substring_i" 2255 (.int (30) 2251), ke P "result" 2256 (.int (1) 2252)] 4), #[]⟩
noncomputable def o675 (P : Params) : Obj := ⟨(.type "dict"), none, (.dict #[ke P "s" 2271 (ks "ью" 2263), ke P "substring_i" 2273 (.int (30) 2264), ke P "result" 2275 (.int (1) 2265)] 3), #[]⟩
noncomputable def o676 (P : Params) : Obj := ⟨(.ref 218), (some 675), .plain, #[]⟩
noncomputable def o677 (P : Params) : Obj := ⟨(.type "frame"), none, (.dict #[ke P "self" 2266 (.ref 676), ke P "s" 2267 (ks "ью" 2263), ke P "substring_i" 2268 (.int (30) 2264), ke P "result" 2269 (.int (1) 2265)] 4), #[]⟩
noncomputable def o678 (P : Params) : Obj := ⟨(.type "dict"), none, (.dict #[ke P "s" 2285 (ks "я" 2276), ke P "substring_i" 2287 (.int (-1) 2278), ke P "result" 2289 (.int (1) 2279)] 3), #[]⟩
noncomputable def o679 (P : Params) : Obj := ⟨(.ref 218), (some 678), .plain, #[]⟩
noncomputable def o680 (P : Params) : Obj := ⟨(.type "frame"), none, (.dict #[ke P "self" 2280 (.ref 679), ke P "s" 2281 (ks "я" 2276), ke P "substring_i" 2282 (.int (-1) 2278), ke P "result" 2283 (.int (1) 2279)] 4), #[]⟩
noncomputable def o681 (P : Params) : Obj := ⟨(.type "dict"), none, (.dict #[ke P "s" 2298 (ks "ия" 2290), ke P "substring_i" 2300 (.int (33) 2291), ke P "result" 2302 (.int (1) 2292)] 3), #[]⟩
noncomputable def o682 (P : Params) : Obj := ⟨(.ref 218), (some 681), .plain, #[]⟩
noncomputable def o683 (P : Params) : Obj := ⟨(.type "frame"), none, (.dict #[ke P "self" 2293 (.ref 682), ke P "s" 2294 (ks "ия" 2290), ke P "substring_i" 2295 (.int (33) 2291), ke P "result" 2296 (.int (1) 2292)] 4), #[]⟩
noncomputable def o684 (P : Params) : Obj := ⟨(.type "dict"), none, (.dict #[ke P "s" 2311 (ks "ья" 2303), ke P "substring_i" 2313 (.int (33) 2304), ke P "result" 2315 (.int (1) 2305)] 3), #[]⟩
noncomputable def o685 (P : Params) : Obj := ⟨(.ref 218), (some 684), .plain, #[]⟩
noncomputable def o686 (P : Params) : Obj := ⟨(.type "frame"), none, (.dict #[ke P "self" 2306 (.ref 685), ke P "s" 2307 (ks "ья" 2303), ke P "substring_i" 2308 (.int (33) 2304), ke P "result" 2309 (.int (1) 2305)] 4), #[]⟩
noncomputable def o687 (P : Params) : Obj := ⟨(.type "list"), none, (.seq #[(.ref 580), (.ref 583), (.ref 586), (.ref 589), (.ref 592), (.ref 595), (.ref 598), (.ref 601), (.ref 604), (.ref 607), (.ref 610), (.ref 613), (.ref 616), (.ref 619), (.ref 622), (.ref 625), (.ref 628), (.ref 631), (.ref 634), (.ref 637), (.ref 640), (.ref 643), (.ref 646), (.ref 649), (.ref 652), (.ref 655), (.ref 658), (.ref 661), (.ref 664), (.ref 667), (.ref 670), (.ref 673), (.ref 676), (.ref 679), (.ref 682), (.ref 685)] 0), #[]⟩
noncomputable def o688 (P : Params) : Obj := ⟨(.type "dict"), none, (.dict #[ke P "s" 2326 (ks "ост" 2317), ke P "substring_i" 2328 (.int (-1) 2319), ke P "result" 2330 (.int (1) 2320)] 3), #[]⟩
noncomputable def o689 (P : Params) : Obj := ⟨(.ref 218), (some 688), .plain, #[]⟩
noncomputable def o690 (P : Params) : Obj := ⟨(.type "frame"), none, (.dict #[ke P "self" 2321 (.ref 689), ke P "s" 2322 (ks "ост" 2317), ke P "substring_i" 2323 (.int (-1) 2319), ke P "result" 2324 (.int (1) 2320)] 4), #[]⟩
noncomputable def o691 (P : Params) : Obj := ⟨(.type "dict"), none, (.dict #[ke P "s" 2340 (ks "ость" 2331), ke P "substring_i" 2342 (.int (-1) 2333), ke P "result" 2344 (.int (1) 2334)] 3), #[]⟩
noncomputable def o692 (P : Params) : Obj := ⟨(.ref 218), (some 691), .plain, #[]⟩
noncomputable def o693 (P : Params) : Obj := ⟨(.type "frame"), none, (.dict #[ke P "self" 2335 (.ref 692), ke P "s" 2336 (ks "ость" 2331), ke P "substring_i" 2337 (.int (-1) 2333), ke P "result" 2338 (.int (1) 2334)] 4), #[]⟩
noncomputable def o694 (P : Params) : Obj := ⟨(.type "list"), none, (.seq #[(.ref 689), (.ref 692)] 0), #[]⟩
noncomputable def o695 (P : Params) : Obj := ⟨(.type "dict"), none, (.dict #[ke P "s" 2355 (ks "ейше" 2346), ke P "substring_i" 2357 (.int (-1) 2348), ke P "result" 2359 (.int (1) 2349)] 3), #[]⟩
noncomputable def o696 (P : Params) : Obj := ⟨(.ref 218), (some 695), .plain, #[]⟩
noncomputable def o697 (P : Params) : Obj := ⟨(.type "frame"), none, (.dict #[ke P "self" 2350 (.ref 696), ke P "s" 2351 (ks "ейше" 2346), ke P "substring_i" 2352 (.int (-1) 2348), ke P "result" 2353 (.int (1) 2349)] 4), #[]⟩
noncomputable def o698 (P : Params) : Obj := ⟨(.type "dict"), none, (.dict #[ke P "s" 2369 (ks "н" 2360), ke P "substring_i" 2371 (.int (-1) 2362), ke P "result" 2373 (.int (2) 2363)] 3), #[]⟩
noncomputable def o699 (P : Params) : Obj := ⟨(.ref 218), (some 698), .plain, #[]⟩
noncomputable def o700 (P : Params) : Obj := ⟨(.type "frame"), none, (.dict #[ke P "self" 2364 (.ref 699), ke P "s" 2365 (ks "н" 2360), ke P "substring_i" 2366 (.int (-1) 2362), ke P "result" 2367 (.int (2) 2363)] 4), #[]⟩
noncomputable def o701 (P : Params) : Obj := ⟨(.type "dict"), none, (.dict #[ke P "s" 2383 (ks "ейш" 2374), ke P "substring_i" 2385 (.int (-1) 2376), ke P "result" 2387 (.int (1) 2377)] 3), #[]⟩
noncomputable def o702 (P : Params) : Obj := ⟨(.ref 218), (some 701), .plain, #[]⟩
noncomputable def o703 (P : Params) : Obj := ⟨(.type "frame"), none, (.dict #[ke P "self" 2378 (.ref 702), ke P "s" 2379 (ks "ейш" 2374), ke P "substring_i" 2380 (.int (-1) 2376), ke P "result" 2381 (.int (1) 2377)] 4), #[]⟩
noncomputable def o704 (P : Params) : Obj := ⟨(.type "dict"), none, (.dict #[ke P "s" 2397 (ks "ь" 2388), ke P "substring_i" 2399 (.int (-1) 2390), ke P "result" 2401 (.int (3) 2391)] 3), #[]⟩
noncomputable def o705 (P : Params) : Obj := ⟨(.ref 218), (some 704), .plain, #[]⟩
noncomputable def o706 (P : Params) : Obj := ⟨(.type "frame"), none, (.dict #[ke P "self" 2392 (.ref 705), ke P "s" 2393 (ks "ь" 2388), ke P "substring_i" 2394 (.int (-1) 2390), ke P "result" 2395 (.int (3) 2391)] 4), #[]⟩
noncomputable def o707 (P : Params) : Obj := ⟨(.type "list"), none, (.seq #[(.ref 696), (.ref 699), (.ref 702), (.ref 705)] 0), #[]⟩
noncomputable def o708 (P : Params) : Obj := ⟨(.type "tuple"), none, (.seq #[(ks "I_p2" 2403), (ks "I_pV" 2404), (ks "bra" 2405), (ks "cursor" 2406), (ks "ket" 2407), (ks "limit_backward" 2408)] 0), #[]⟩
noncomputable def o709 (P : Params) : Obj := ⟨(.type "dict"), none, (.dict #[ke P "__module__" 468 (ks "snowballstemmer.russian_stemmer" 459), ke P "__firstlineno__" 472 (.int (155) 471), ke P "g_v" 491 (.ref 230), ke P "I_p2" 493 (.int (0) 492), ke P "I_pV" 495 (.int (0) 494), ke P "r_mark_regions" 503 (.ref 237), ke P "r_perfective_gerund" 511 (.ref 244), ke P "r_adjective" 518 (.ref 251), ke P "r_adjectival" 527 (.ref 258), ke P "r_reflexive" 534 (.ref 265), ke P "r_verb" 542 (.ref 272), ke P "r_noun" 549 (.ref 279), ke P "r_derivational" 556 (.ref 286), ke P "r_tidy_up" 564 (.ref 293), ke P "_stem" 582 (.ref 300), ke P "a_0" 703 (.ref 328), ke P "a_1" 1068 (.ref 407), ke P "a_2" 1177 (.ref 432), ke P "a_3" 1206 (.ref 439), ke P "a_4" 1829 (.ref 578), ke P "a_5" 2316 (.ref 687), ke P "a_6" 2345 (.ref 694), ke P "a_7" 2402 (.ref 707), ke P "__static_attributes__" 2409 (.ref 708), ke P "__doc__" 2410 .none] 2), #[]⟩
noncomputable def o710 (P : Params) : Obj := ⟨(.type "type"), none, (.cls { name := (Str.ofString "RussianStemmer"), bases := [(.ref 197)], mro := [(.ref 710), (.ref 197), (.type "object")], ns := 709, qualname := (Str.ofString "RussianStemmer"), hasDict := true, slotNames := [], subclasses := [], abstract := false, collection := none, hasDel := false }), #[(some (.ref 223)), none, (some (ks "RussianStemmer" 461)), (some (ks "RussianStemmer" 469)), (some (.builtin "object.__new__")), (some (.bool true))]⟩
noncomputable def o711 (P : Params) : Obj := ⟨(.type "super"), none, (.fields #[(.ref 710), (.ref 710), (.ref 710)]), #[]⟩
noncomputable def o712 (P : Params) : Obj := ⟨(.type "builtin_function_or_method"), none, (.fields #[(.builtin "object.__init_subclass__"), (.ref 710)]), #[]⟩
noncomputable def o713 (P : Params) : Obj := ⟨(.type "tuple"), none, (.seq #[(.type "Exception")] 0), #[]⟩
noncomputable def o714 (P : Params) : Obj := ⟨(.type "builtin_function_or_method"), none, (.fields #[(.builtin "type.__prepare__"), (.type "type")]), #[]⟩
noncomputable def o715 (P : Params) : Obj := ⟨(.type "dict"), none, (.dict #[ke P "__module__" 2420 (ks "snowballstemmer.russian_stemmer" 459), ke P "__qualname__" 2422 (ks "lab0" 2421), ke P "__firstlineno__" 2424 (.int (431) 2423), ke P "__static_attributes__" 2425 (.ref 720)] 4), #[]⟩
noncomputable def o716 (P : Params) : Obj := ⟨(.type "tuple"), none, (.seq #[] 0), #[]⟩
noncomputable def o717 (P : Params) : Obj := ⟨.none, none, (.fields #[]), #[]⟩
noncomputable def o718 (P : Params) : Obj := ⟨(.type "code"), none, (.fields #[(ks "lab0" 2415), (ks "lab0" 2416), (ks "/claim/cut.py" 2417), (.int (431) 0), (.int (0) 0), (.int (0) 0), (.int (0) 0), (.int (0) 0), (.ref 716), (.bool false), (.int (181) 0), (.ref 717), .none, .none, .none, .none, (.int (2418) 0), (.int (431) 0), (ks "/claim/cut.py" 2419)]), #[]⟩
noncomputable def o719 (P : Params) : Obj := ⟨(.type "frame"), none, .plain, #[(some (.ref 718)), (some (.ref 3)), (some (.ref 715)), none, (some (ks "snowballstemmer.russian_stemmer" 459)), none, (some (.ref 0))]⟩
noncomputable def o720 (P : Params) : Obj := ⟨(.type "tuple"), none, (.seq #[] 0), #[]⟩
noncomputable def o721 (P : Params) : Obj := ⟨(.type "dict"), none, (.dict #[ke P "__module__" 2420 (ks "snowballstemmer.russian_stemmer" 459), ke P "__firstlineno__" 2424 (.int (431) 2423), ke P "__static_attributes__" 2425 (.ref 720), ke P "__weakref__" 2427 (.ref 723), ke P "__doc__" 2428 .none] 3), #[]⟩
noncomputable def o722 (P : Params) : Obj := ⟨(.type "type"), none, (.cls { name := (Str.ofString "lab0"), bases := [(.type "Exception")], mro := [(.ref 722), (.type "Exception"), (.type "BaseException"), (.type "object")], ns := 721, qualname := (Str.ofString "lab0"), hasDict := true, slotNames := [], subclasses := [], abstract := false, collection := none, hasDel := false }), #[(some (.ref 713)), none, (some (ks "lab0" 2413)), (some (ks "lab0" 2421)), (some (.builtin "Exception.__new__")), (some (.bool true))]⟩
noncomputable def o723 (P : Params) : Obj := ⟨(.type "getset_descriptor"), none, (.fields #[(ks "__weakref__" 2426), (.ref 722), (.builtin "ExceptionGroup.__weakref__"), .none]), #[]⟩
noncomputable def o724 (P : Params) : Obj := ⟨(.type "super"), none, (.fields #[(.ref 722), (.ref 722), (.ref 722)]), #[]⟩
noncomputable def o725 (P : Params) : Obj := ⟨(.type "builtin_function_or_method"), none, (.fields #[(.builtin "object.__init_subclass__"), (.ref 722)]), #[]⟩
noncomputable def o726 (P : Params) : Obj := ⟨(.type "tuple"), none, (.seq #[(.type "Exception")] 0), #[]⟩
noncomputable def o727 (P : Params) : Obj := ⟨(.type "builtin_function_or_method"), none, (.fields #[(.builtin "type.__prepare__"), (.type "type")]), #[]⟩
noncomputable def o728 (P : Params) : Obj := ⟨(.type "dict"), none, (.dict #[ke P "__module__" 2440 (ks "snowballstemmer.russian_stemmer" 459), ke P "__qualname__" 2442 (ks "lab1" 2441), ke P "__firstlineno__" 2444 (.int (433) 2443), ke P "__static_attributes__" 2445 (.ref 733)] 4), #[]⟩
noncomputable def o729 (P : Params) : Obj := ⟨(.type "tuple"), none, (.seq #[] 0), #[]⟩
noncomputable def o730 (P : Params) : Obj := ⟨.none, none, (.fields #[]), #[]⟩
noncomputable def o731 (P : Params) : Obj := ⟨(.type "code"), none, (.fields #[(ks "lab1" 2435), (ks "lab1" 2436), (ks "/claim/cut.py" 2437), (.int (433) 0), (.int (0) 0), (.int (0) 0), (.int (0) 0), (.int (0) 0), (.ref 729), (.bool false), (.int (181) 0), (.ref 730), .none, .none, .none, .none, (.int (2438) 0), (.int (433) 0), (ks "/claim/cut.py" 2439)]), #[]⟩
noncomputable def o732 (P : Params) : Obj := ⟨(.type "frame"), none, .plain, #[(some (.ref 731)), (some (.ref 3)), (some (.ref 728)), none, (some (ks "snowballstemmer.russian_stemmer" 459)), none, (some (.ref 0))]⟩
noncomputable def o733 (P : Params) : Obj := ⟨(.type "tuple"), none, (.seq #[] 0), #[]⟩
noncomputable def o734 (P : Params) : Obj := ⟨(.type "dict"), none, (.dict #[ke P "__module__" 2440 (ks "snowballstemmer.russian_stemmer" 459), ke P "__firstlineno__" 2444 (.int (433) 2443), ke P "__static_attributes__" 2445 (.ref 733), ke P "__weakref__" 2447 (.ref 736), ke P "__doc__" 2448 .none] 3), #[]⟩
noncomputable def o735 (P : Params) : Obj := ⟨(.type "type"), none, (.cls { name := (Str.ofString "lab1"), bases := [(.type "Exception")], mro := [(.ref 735), (.type "Exception"), (.type "BaseException"), (.type "object")], ns := 734, qualname := (Str.ofString "lab1"), hasDict := true, slotNames := [], subclasses := [], abstract := false, collection := none, hasDel := false }), #[(some (.ref 726)), none, (some (ks "lab1" 2433)), (some (ks "lab1" 2441)), (some (.builtin "Exception.__new__")), (some (.bool true))]⟩
noncomputable def o736 (P : Params) : Obj := ⟨(.type "getset_descriptor"), none, (.fields #[(ks "__weakref__" 2446), (.ref 735), (.builtin "ExceptionGroup.__weakref__"), .none]), #[]⟩
noncomputable def o737 (P : Params) : Obj := ⟨(.type "super"), none, (.fields #[(.ref 735), (.ref 735), (.ref 735)]), #[]⟩
noncomputable def o738 (P : Params) : Obj := ⟨(.type "builtin_function_or_method"), none, (.fields #[(.builtin "object.__init_subclass__"), (.ref 735)]), #[]⟩
noncomputable def o739 (P : Params) : Obj := ⟨(.type "tuple"), none, (.seq #[(.type "Exception")] 0), #[]⟩
noncomputable def o740 (P : Params) : Obj := ⟨(.type "builtin_function_or_method"), none, (.fields #[(.builtin "type.__prepare__"), (.type "type")]), #[]⟩
noncomputable def o741 (P : Params) : Obj := ⟨(.type "dict"), none, (.dict #[ke P "__module__" 2460 (ks "snowballstemmer.russian_stemmer" 459), ke P "__qualname__" 2462 (ks "lab2" 2461), ke P "__firstlineno__" 2464 (.int (435) 2463), ke P "__static_attributes__" 2465 (.ref 746)] 4), #[]⟩
noncomputable def o742 (P : Params) : Obj := ⟨(.type "tuple"), none, (.seq #[] 0), #[]⟩
noncomputable def o743 (P : Params) : Obj := ⟨.none, none, (.fields #[]), #[]⟩
noncomputable def o744 (P : Params) : Obj := ⟨(.type "code"), none, (.fields #[(ks "lab2" 2455), (ks "lab2" 2456), (ks "/claim/cut.py" 2457), (.int (435) 0), (.int (0) 0), (.int (0) 0), (.int (0) 0), (.int (0) 0), (.ref 742), (.bool false), (.int (181) 0), (.ref 743), .none, .none, .none, .none, (.int (2458) 0), (.int (435) 0), (ks "/claim/cut.py" 2459)]), #[]⟩
noncomputable def o745 (P : Params) : Obj := ⟨(.type "frame"), none, .plain, #[(some (.ref 744)), (some (.ref 3)), (some (.ref 741)), none, (some (ks "snowballstemmer.russian_stemmer" 459)), none, (some (.ref 0))]⟩
noncomputable def o746 (P : Params) : Obj := ⟨(.type "tuple"), none, (.seq #[] 0), #[]⟩
noncomputable def o747 (P : Params) : Obj := ⟨(.type "dict"), none, (.dict #[ke P "__module__" 2460 (ks "snowballstemmer.russian_stemmer" 459), ke P "__firstlineno__" 2464 (.int (435) 2463), ke P "__static_attributes__" 2465 (.ref 746), ke P "__weakref__" 2467 (.ref 749), ke P "__doc__" 2468 .none] 3), #[]⟩
noncomputable def o748 (P : Params) : Obj := ⟨(.type "type"), none, (.cls { name := (Str.ofString "lab2"), bases := [(.type "Exception")], mro := [(.ref 748), (.type "Exception"), (.type "BaseException"), (.type "object")], ns := 747, qualname := (Str.ofString "lab2"), hasDict := true, slotNames := [], subclasses := [], abstract := false, collection := none, hasDel := false }), #[(some (.ref 739)), none, (some (ks "lab2" 2453)), (some (ks "lab2" 2461)), (some (.builtin "Exception.__new__")), (some (.bool true))]⟩
noncomputable def o749 (P : Params) : Obj := ⟨(.type "getset_descriptor"), none, (.fields #[(ks "__weakref__" 2466), (.ref 748), (.builtin "ExceptionGroup.__weakref__"), .none]), #[]⟩
noncomputable def o750 (P : Params) : Obj := ⟨(.type "super"), none, (.fields #[(.ref 748), (.ref 748), (.ref 748)]), #[]⟩
noncomputable def o751 (P : Params) : Obj := ⟨(.type "builtin_function_or_method"), none, (.fields #[(.builtin "object.__init_subclass__"), (.ref 748)]), #[]⟩
noncomputable def o752 (P : Params) : Obj := ⟨(.type "tuple"), none, (.seq #[] 0), #[]⟩
noncomputable def o753 (P : Params) : Obj := ⟨.none, none, (.fields #[]), #[]⟩
noncomputable def o754 (P : Params) : Obj := ⟨(.type "tuple"), none, (.seq #[] 0), #[]⟩
noncomputable def o755 (P : Params) : Obj := ⟨(.type "tuple"), none, (.seq #[] 0), #[]⟩
noncomputable def o756 (P : Params) : Obj := ⟨.none, none, (.func { name := (Str.ofString "_law_vowels"), qualname := (Str.ofString "_law_vowels"), params := fA (tS 11), body := .stmts (fB (tS 11)), scope := fS (tS 11), globals := 0, closure := [], defaults := .none, kwdefaults := .none, doc := .none, pyModule := .none, annotations := none, code := .none, closureTuple := .none, builtins := 0 }), #[]⟩
noncomputable def o757 (P : Params) : Obj := ⟨(.type "code"), none, (.fields #[(ks "_law_vowels" 2475), (ks "_law_vowels" 2476), (ks "/claim/cut.py" 2477), (.int (438) 0), (.int (0) 0), (.int (0) 0), (.int (0) 0), (.int (3) 0), (.ref 752), (.bool true), (.int (181) 0), (.ref 753), .none, (.ref 754), (.ref 755), (.ref 756), (.int (2478) 0), (.int (438) 0), (ks "/claim/cut.py" 2479)]), #[]⟩
noncomputable def o758 (P : Params) : Obj := ⟨(.type "function"), none, (.func { name := (Str.ofString "_law_vowels"), qualname := (Str.ofString "_law_vowels"), params := fA (tS 11), body := .stmts (fB (tS 11)), scope := fS (tS 11), globals := 3, closure := [], defaults := .none, kwdefaults := .none, doc := .none, pyModule := (ks "law_iu0026_01" 2473), annotations := none, code := (.ref 757), closureTuple := .none, builtins := 0 }), #[]⟩
noncomputable def o759 (P : Params) : Obj := ⟨(.type "list"), none, (.seq #[(ks "а" 2481), (ks "б" 2482), (ks "в" 2483), (ks "г" 2484), (ks "д" 2485), (ks "е" 2486), (ks "ж" 2487), (ks "з" 2488), (ks "и" 2489), (ks "й" 2490), (ks "к" 2491), (ks "л" 2492), (ks "м" 2493), (ks "н" 2494), (ks "о" 2495), (ks "п" 2496), (ks "р" 2497), (ks "с" 2498), (ks "т" 2499), (ks "у" 2500), (ks "ф" 2501), (ks "х" 2502), (ks "ц" 2503), (ks "ч" 2504), (ks "ш" 2505), (ks "щ" 2506), (ks "ъ" 2507), (ks "ы" 2508), (ks "ь" 2509), (ks "э" 2510), (ks "ю" 2511), (ks "я" 2512), (ks "ё" 2513), (ks "Ё" 2514), (ks "Я" 2515), (ks "w" 2516), (ks "-" 2517)] 0), #[]⟩
noncomputable def o760 (P : Params) : Obj := ⟨(.type "list"), none, (.seq #[(ks "в" 2519), (ks "вши" 2520), (ks "вшись" 2521)] 0), #[]⟩
noncomputable def o761 (P : Params) : Obj := ⟨(.type "list"), none, (.seq #[(ks "ив" 2522), (ks "ивши" 2523), (ks "ившись" 2524), (ks "ыв" 2525), (ks "ывши" 2526), (ks "ывшись" 2527)] 0), #[]⟩
noncomputable def o762 (P : Params) : Obj := ⟨(.type "list"), none, (.seq #[(.ref 760), (.ref 761)] 0), #[]⟩
noncomputable def o763 (P : Params) : Obj := ⟨(.type "list"), none, (.seq #[] 0), #[]⟩
noncomputable def o764 (P : Params) : Obj := ⟨(.type "list"), none, (.seq #[(ks "ся" 2529), (ks "сь" 2530)] 0), #[]⟩
noncomputable def o765 (P : Params) : Obj := ⟨(.type "list"), none, (.seq #[(.ref 763), (.ref 764)] 0), #[]⟩
noncomputable def o766 (P : Params) : Obj := ⟨(.type "list"), none, (.seq #[] 0), #[]⟩
noncomputable def o767 (P : Params) : Obj := ⟨(.type "list"), none, (.seq #[(ks "ее" 2532), (ks "ие" 2533), (ks "ые" 2534), (ks "ое" 2535), (ks "ими" 2536), (ks "ыми" 2537), (ks "ей" 2538), (ks "ий" 2539), (ks "ый" 2540), (ks "ой" 2541), (ks "ем" 2542), (ks "им" 2543), (ks "ым" 2544), (ks "ом" 2545), (ks "его" 2546), (ks "ого" 2547), (ks "ему" 2548), (ks "ому" 2549), (ks "их" 2550), (ks "ых" 2551), (ks "ую" 2552), (ks "юю" 2553), (ks "ая" 2554), (ks "яя" 2555), (ks "ою" 2556), (ks "ею" 2557)] 0), #[]⟩
noncomputable def o768 (P : Params) : Obj := ⟨(.type "list"), none, (.seq #[(.ref 766), (.ref 767)] 0), #[]⟩
noncomputable def o769 (P : Params) : Obj := ⟨(.type "list"), none, (.seq #[(ks "ем" 2559), (ks "нн" 2560), (ks "вш" 2561), (ks "ющ" 2562), (ks "щ" 2563)] 0), #[]⟩
noncomputable def o770 (P : Params) : Obj := ⟨(.type "list"), none, (.seq #[(ks "ивш" 2564), (ks "ывш" 2565), (ks "ующ" 2566)] 0), #[]⟩
noncomputable def o771 (P : Params) : Obj := ⟨(.type "list"), none, (.seq #[(.ref 769), (.ref 770)] 0), #[]⟩
noncomputable def o772 (P : Params) : Obj := ⟨(.type "list"), none, (.seq #[(ks "ла" 2568), (ks "на" 2569), (ks "ете" 2570), (ks "йте" 2571), (ks "ли" 2572), (ks "й" 2573), (ks "л" 2574), (ks "ем" 2575), (ks "н" 2576), (ks "ло" 2577), (ks "но" 2578), (ks "ет" 2579), (ks "ют" 2580), (ks "ны" 2581), (ks "ть" 2582), (ks "ешь" 2583), (ks "нно" 2584)] 0), #[]⟩
noncomputable def o773 (P : Params) : Obj := ⟨(.type "list"), none, (.seq #[(ks "ила" 2585), (ks "ыла" 2586), (ks "ена" 2587), (ks "ейте" 2588), (ks "уйте" 2589), (ks "ите" 2590), (ks "или" 2591), (ks "ыли" 2592), (ks "ей" 2593), (ks "уй" 2594), (ks "ил" 2595), (ks "ыл" 2596), (ks "им" 2597), (ks "ым" 2598), (ks "ен" 2599), (ks "ило" 2600), (ks "ыло" 2601), (ks "ено" 2602), (ks "ят" 2603), (ks "ует" 2604), (ks "уют" 2605), (ks "ит" 2606), (ks "ыт" 2607), (ks "ены" 2608), (ks "ить" 2609), (ks "ыть" 2610), (ks "ишь" 2611), (ks "ую" 2612), (ks "ю" 2613)] 0), #[]⟩
noncomputable def o774 (P : Params) : Obj := ⟨(.type "list"), none, (.seq #[(.ref 772), (.ref 773)] 0), #[]⟩
noncomputable def o775 (P : Params) : Obj := ⟨(.type "list"), none, (.seq #[] 0), #[]⟩
noncomputable def o776 (P : Params) : Obj := ⟨(.type "list"), none, (.seq #[(ks "а" 2615), (ks "ев" 2616), (ks "ов" 2617), (ks "ие" 2618), (ks "ье" 2619), (ks "е" 2620), (ks "иями" 2621), (ks "ями" 2622), (ks "ами" 2623), (ks "еи" 2624), (ks "ии" 2625), (ks "и" 2626), (ks "ией" 2627), (ks "ей" 2628), (ks "ой" 2629), (ks "ий" 2630), (ks "й" 2631), (ks "иям" 2632), (ks "ям" 2633), (ks "ием" 2634), (ks "ем" 2635), (ks "ам" 2636), (ks "ом" 2637), (ks "о" 2638), (ks "у" 2639), (ks "ах" 2640), (ks "иях" 2641), (ks "ях" 2642), (ks "ы" 2643), (ks "ь" 2644), (ks "ию" 2645), (ks "ью" 2646), (ks "ю" 2647), (ks "ия" 2648), (ks "ья" 2649), (ks "я" 2650)] 0), #[]⟩
noncomputable def o777 (P : Params) : Obj := ⟨(.type "list"), none, (.seq #[(.ref 775), (.ref 776)] 0), #[]⟩
noncomputable def o778 (P : Params) : Obj := ⟨(.type "list"), none, (.seq #[] 0), #[]⟩
noncomputable def o779 (P : Params) : Obj := ⟨(.type "list"), none, (.seq #[(ks "ост" 2652), (ks "ость" 2653)] 0), #[]⟩
noncomputable def o780 (P : Params) : Obj := ⟨(.type "list"), none, (.seq #[(.ref 778), (.ref 779)] 0), #[]⟩
noncomputable def o781 (P : Params) : Obj := ⟨(.type "list"), none, (.seq #[] 0), #[]⟩
noncomputable def o782 (P : Params) : Obj := ⟨(.type "list"), none, (.seq #[(ks "ейш" 2655), (ks "ейше" 2656)] 0), #[]⟩
noncomputable def o783 (P : Params) : Obj := ⟨(.type "list"), none, (.seq #[(.ref 781), (.ref 782)] 0), #[]⟩
noncomputable def o784 (P : Params) : Obj := ⟨(.type "tuple"), none, (.seq #[] 0), #[]⟩
noncomputable def o785 (P : Params) : Obj := ⟨.none, none, (.fields #[]), #[]⟩
noncomputable def o786 (P : Params) : Obj := ⟨(.type "tuple"), none, (.seq #[(ks "tail" 2661), (ks "ends" 2662), (ks "size" 2663)] 0), #[]⟩
noncomputable def o787 (P : Params) : Obj := ⟨(.type "tuple"), none, (.seq #[] 0), #[]⟩
noncomputable def o788 (P : Params) : Obj := ⟨.none, none, (.func { name := (Str.ofString "_law_end"), qualname := (Str.ofString "_law_end"), params := fA (tS 21), body := .stmts (fB (tS 21)), scope := fS (tS 21), globals := 0, closure := [], defaults := .none, kwdefaults := .none, doc := .none, pyModule := .none, annotations := none, code := .none, closureTuple := .none, builtins := 0 }), #[]⟩
noncomputable def o789 (P : Params) : Obj := ⟨(.type "code"), none, (.fields #[(ks "_law_end" 2658), (ks "_law_end" 2659), (ks "/claim/cut.py" 2660), (.int (449) 0), (.int (2) 0), (.int (0) 0), (.int (0) 0), (.int (3) 0), (.ref 784), (.bool true), (.int (181) 0), (.ref 785), .none, (.ref 786), (.ref 787), (.ref 788), (.int (2664) 0), (.int (449) 0), (ks "/claim/cut.py" 2665)]), #[]⟩
noncomputable def o790 (P : Params) : Obj := ⟨(.type "function"), none, (.func { name := (Str.ofString "_law_end"), qualname := (Str.ofString "_law_end"), params := fA (tS 21), body := .stmts (fB (tS 21)), scope := fS (tS 21), globals := 3, closure := [], defaults := .none, kwdefaults := .none, doc := .none, pyModule := (ks "law_iu0026_01" 2473), annotations := none, code := (.ref 789), closureTuple := .none, builtins := 0 }), #[]⟩
noncomputable def o791 (P : Params) : Obj := ⟨(.type "tuple"), none, (.seq #[] 0), #[]⟩
noncomputable def o792 (P : Params) : Obj := ⟨.none, none, (.fields #[]), #[]⟩
noncomputable def o793 (P : Params) : Obj := ⟨(.type "tuple"), none, (.seq #[(ks "tail" 2670), (ks "kind" 2671), (ks "end" 2672), (ks "rest" 2673)] 0), #[]⟩
noncomputable def o794 (P : Params) : Obj := ⟨(.type "tuple"), none, (.seq #[] 0), #[]⟩
noncomputable def o795 (P : Params) : Obj := ⟨.none, none, (.func { name := (Str.ofString "_law_shorn"), qualname := (Str.ofString "_law_shorn"), params := fA (tS 22), body := .stmts (fB (tS 22)), scope := fS (tS 22), globals := 0, closure := [], defaults := .none, kwdefaults := .none, doc := .none, pyModule := .none, annotations := none, code := .none, closureTuple := .none, builtins := 0 }), #[]⟩
noncomputable def o796 (P : Params) : Obj := ⟨(.type "code"), none, (.fields #[(ks "_law_shorn" 2667), (ks "_law_shorn" 2668), (ks "/claim/cut.py" 2669), (.int (454) 0), (.int (2) 0), (.int (0) 0), (.int (0) 0), (.int (3) 0), (.ref 791), (.bool true), (.int (181) 0), (.ref 792), .none, (.ref 793), (.ref 794), (.ref 795), (.int (2674) 0), (.int (454) 0), (ks "/claim/cut.py" 2675)]), #[]⟩
noncomputable def o797 (P : Params) : Obj := ⟨(.type "function"), none, (.func { name := (Str.ofString "_law_shorn"), qualname := (Str.ofString "_law_shorn"), params := fA (tS 22), body := .stmts (fB (tS 22)), scope := fS (tS 22), globals := 3, closure := [], defaults := .none, kwdefaults := .none, doc := .none, pyModule := (ks "law_iu0026_01" 2473), annotations := none, code := (.ref 796), closureTuple := .none, builtins := 0 }), #[]⟩
noncomputable def o798 (P : Params) : Obj := ⟨(.type "tuple"), none, (.seq #[] 0), #[]⟩
noncomputable def o799 (P : Params) : Obj := ⟨.none, none, (.fields #[]), #[]⟩
noncomputable def o800 (P : Params) : Obj := ⟨(.type "tuple"), none, (.seq #[(ks "tail" 2680), (ks "rest" 2681), (ks "inner" 2682), (ks "kind" 2683)] 0), #[]⟩
noncomputable def o801 (P : Params) : Obj := ⟨(.type "tuple"), none, (.seq #[] 0), #[]⟩
noncomputable def o802 (P : Params) : Obj := ⟨.none, none, (.func { name := (Str.ofString "_law_first"), qualname := (Str.ofString "_law_first"), params := fA (tS 23), body := .stmts (fB (tS 23)), scope := fS (tS 23), globals := 0, closure := [], defaults := .none, kwdefaults := .none, doc := .none, pyModule := .none, annotations := none, code := .none, closureTuple := .none, builtins := 0 }), #[]⟩
noncomputable def o803 (P : Params) : Obj := ⟨(.type "code"), none, (.fields #[(ks "_law_first" 2677), (ks "_law_first" 2678), (ks "/claim/cut.py" 2679), (.int (460) 0), (.int (1) 0), (.int (0) 0), (.int (0) 0), (.int (3) 0), (.ref 798), (.bool true), (.int (181) 0), (.ref 799), .none, (.ref 800), (.ref 801), (.ref 802), (.int (2684) 0), (.int (460) 0), (ks "/claim/cut.py" 2685)]), #[]⟩
noncomputable def o804 (P : Params) : Obj := ⟨(.type "function"), none, (.func { name := (Str.ofString "_law_first"), qualname := (Str.ofString "_law_first"), params := fA (tS 23), body := .stmts (fB (tS 23)), scope := fS (tS 23), globals := 3, closure := [], defaults := .none, kwdefaults := .none, doc := .none, pyModule := (ks "law_iu0026_01" 2473), annotations := none, code := (.ref 803), closureTuple := .none, builtins := 0 }), #[]⟩
noncomputable def o805 (P : Params) : Obj := ⟨(.type "tuple"), none, (.seq #[] 0), #[]⟩
noncomputable def o806 (P : Params) : Obj := ⟨.none, none, (.fields #[]), #[]⟩
noncomputable def o807 (P : Params) : Obj := ⟨.none, none, (.func { name := (Str.ofString "_law_stem"), qualname := (Str.ofString "_law_stem"), params := fA (tS 24), body := .stmts (fB (tS 24)), scope := fS (tS 24), globals := 0, closure := [], defaults := .none, kwdefaults := .none, doc := .none, pyModule := .none, annotations := none, code := .none, closureTuple := .none, builtins := 0 }), #[]⟩
noncomputable def o808 (P : Params) : Obj := ⟨(.type "code"), none, (.fields #[(ks "_law_stem" 2687), (ks "_law_stem" 2688), (ks "/claim/cut.py" 2689), (.int (476) 0), (.int (1) 0), (.int (0) 0), (.int (0) 0), (.int (3) 0), (.ref 805), (.bool true), (.int (181) 0), (.ref 806), .none, .none, .none, (.ref 807), (.int (2690) 0), (.int (476) 0), (ks "/claim/cut.py" 2691)]), #[]⟩
noncomputable def o809 (P : Params) : Obj := ⟨(.type "function"), none, (.func { name := (Str.ofString "_law_stem"), qualname := (Str.ofString "_law_stem"), params := fA (tS 24), body := .stmts (fB (tS 24)), scope := fS (tS 24), globals := 3, closure := [], defaults := .none, kwdefaults := .none, doc := .none, pyModule := (ks "law_iu0026_01" 2473), annotations := none, code := (.ref 808), closureTuple := .none, builtins := 0 }), #[]⟩
noncomputable def o810 (P : Params) : Obj := ⟨(.type "tuple"), none, (.seq #[] 0), #[]⟩
noncomputable def o811 (P : Params) : Obj := ⟨.none, none, (.fields #[]), #[]⟩
noncomputable def o812 (P : Params) : Obj := ⟨.none, none, (.func { name := (Str.ofString "law"), qualname := (Str.ofString "law"), params := fA (tS 25), body := .stmts (fB (tS 25)), scope := fS (tS 25), globals := 0, closure := [], defaults := .none, kwdefaults := .none, doc := .none, pyModule := .none, annotations := none, code := .none, closureTuple := .none, builtins := 0 }), #[]⟩
noncomputable def o813 (P : Params) : Obj := ⟨(.type "code"), none, (.fields #[(ks "law" 2693), (ks "law" 2694), (ks "/claim/cut.py" 2695), (.int (494) 0), (.int (1) 0), (.int (0) 0), (.int (0) 0), (.int (3) 0), (.ref 810), (.bool true), (.int (181) 0), (.ref 811), .none, .none, .none, (.ref 812), (.int (2696) 0), (.int (494) 0), (ks "/claim/cut.py" 2697)]), #[]⟩
noncomputable def o814 (P : Params) : Obj := ⟨(.type "function"), none, (.func { name := (Str.ofString "law"), qualname := (Str.ofString "law"), params := fA (tS 25), body := .stmts (fB (tS 25)), scope := fS (tS 25), globals := 3, closure := [], defaults := .none, kwdefaults := .none, doc := .none, pyModule := (ks "law_iu0026_01" 2473), annotations := none, code := (.ref 813), closureTuple := .none, builtins := 0 }), #[]⟩
noncomputable def tz (P : Params) : BT := (((((((((((BT.nil.ins 0 (boot_o_0 P)).ins 1 (boot_o_1 P)).ins 2 (boot_o_2 P)).ins 3 (boot_o_3 P)).ins 4 (boot_o_4 P)).ins 5 (boot_o_5 P)).ins 6 (boot_o_6 P)).ins 7 (boot_o_7 P)).ins 8 (boot_o_8 P)).ins 9 (boot_o_9 P)).ins 10 (boot_o_10 P))
noncomputable def t0 (P : Params) : BT := (((((tz P).ins 11 (o11 P)).ins 12 ⟨.none, none, (.fields #[]), #[]⟩).ins 13 (o13 P)).ins 14 (o14 P))
noncomputable def t1 (P : Params) : BT := ((((((((((t0 P).set 3 fun _ => ⟨(.type "dict"), none, (.dict #[ke P "__name__" 165 (ks "__main__" 164), ke P "__doc__" 166 .none, ke P "__package__" 167 .none, ke P "__loader__" 168 (.builtin "__main__.__loader__#opaque"), ke P "__spec__" 169 .none, ke P "__annotations__" 170 (.ref 6), ke P "__builtins__" 171 (.ref 4), ke P "__file__" 173 (ks "/claim/cut.py" 172), ke P "__cached__" 174 .none, ke P "_wall" 193 (.ref 21)] 10), #[]⟩).set 12 fun _ => ⟨.none, none, (.fields #[(.int (1) 0), (.int (0) 0), (.ref 20)]), #[]⟩).ins 15 (o15 P)).ins 16 (o16 P)).ins 17 (o17 P)).ins 18 (o18 P)).ins 19 (o19 P)).ins 20 (o20 P)).ins 21 (o21 P))
noncomputable def t2 (P : Params) : BT := ((t1 P).set 3 fun _ => ⟨(.type "dict"), none, (.dict #[ke P "__name__" 165 (ks "snowballstemmer.basestemmer" 194), ke P "__doc__" 166 .none, ke P "__package__" 167 .none, ke P "__loader__" 168 (.builtin "__main__.__loader__#opaque"), ke P "__spec__" 169 .none, ke P "__annotations__" 170 (.ref 6), ke P "__builtins__" 171 (.ref 4), ke P "__file__" 173 (ks "/claim/cut.py" 172), ke P "__cached__" 174 .none, ke P "_wall" 193 (.ref 21)] 10), #[]⟩)
noncomputable def t3 (P : Params) : BT := (((((((((((((((((((((((((((((((((((((((((((((((((((((((((((((((((((((((((((((((((((((((((((((((((((((((((((((((((((((((((((((((((((((((((((((((((((((((((((((((((((((((((((((((((((((((t2 P).set 3 fun _ => ⟨(.type "dict"), none, (.dict #[ke P "__name__" 165 (ks "snowballstemmer.basestemmer" 194), ke P "__doc__" 166 .none, ke P "__package__" 167 .none, ke P "__loader__" 168 (.builtin "__main__.__loader__#opaque"), ke P "__spec__" 169 .none, ke P "__annotations__" 170 (.ref 6), ke P "__builtins__" 171 (.ref 4), ke P "__file__" 173 (ks "/claim/cut.py" 172), ke P "__cached__" 174 .none, ke P "_wall" 193 (.ref 21), ke P "BaseStemmer" 423 (.ref 197)] 11), #[]⟩).set 12 fun _ => ⟨.none, none, (.fields #[(.int (1) 0), (.int (0) 0), (.ref 20), (.int (5) 0), (.int (0) 0), (.ref 27)]), #[]⟩).ins 22 (o22 P)).ins 23 (o23 P)).ins 24 (o24 P)).ins 25 (o25 P)).ins 26 (o26 P)).ins 27 (o27 P)).ins 28 (o28 P)).ins 29 (o29 P)).ins 30 (o30 P)).ins 31 (o31 P)).ins 32 (o32 P)).ins 33 (o33 P)).ins 34 (o34 P)).ins 35 (o35 P)).ins 36 (o36 P)).ins 37 (o37 P)).ins 38 (o38 P)).ins 39 (o39 P)).ins 40 (o40 P)).ins 41 (o41 P)).ins 42 (o42 P)).ins 43 (o43 P)).ins 44 (o44 P)).ins 45 (o45 P)).ins 46 (o46 P)).ins 47 (o47 P)).ins 48 (o48 P)).ins 49 (o49 P)).ins 50 (o50 P)).ins 51 (o51 P)).ins 52 (o52 P)).ins 53 (o53 P)).ins 54 (o54 P)).ins 55 (o55 P)).ins 56 (o56 P)).ins 57 (o57 P)).ins 58 (o58 P)).ins 59 (o59 P)).ins 60 (o60 P)).ins 61 (o61 P)).ins 62 (o62 P)).ins 63 (o63 P)).ins 64 (o64 P)).ins 65 (o65 P)).ins 66 (o66 P)).ins 67 (o67 P)).ins 68 (o68 P)).ins 69 (o69 P)).ins 70 (o70 P)).ins 71 (o71 P)).ins 72 (o72 P)).ins 73 (o73 P)).ins 74 (o74 P)).ins 75 (o75 P)).ins 76 (o76 P)).ins 77 (o77 P)).ins 78 (o78 P)).ins 79 (o79 P)).ins 80 (o80 P)).ins 81 (o81 P)).ins 82 (o82 P)).ins 83 (o83 P)).ins 84 (o84 P)).ins 85 (o85 P)).ins 86 (o86 P)).ins 87 (o87 P)).ins 88 (o88 P)).ins 89 (o89 P)).ins 90 (o90 P)).ins 91 (o91 P)).ins 92 (o92 P)).ins 93 (o93 P)).ins 94 (o94 P)).ins 95 (o95 P)).ins 96 (o96 P)).ins 97 (o97 P)).ins 98 (o98 P)).ins 99 (o99 P)).ins 100 (o100 P)).ins 101 (o101 P)).ins 102 (o102 P)).ins 103 (o103 P)).ins 104 (o104 P)).ins 105 (o105 P)).ins 106 (o106 P)).ins 107 (o107 P)).ins 108 (o108 P)).ins 109 (o109 P)).ins 110 (o110 P)).ins 111 (o111 P)).ins 112 (o112 P)).ins 113 (o113 P)).ins 114 (o114 P)).ins 115 (o115 P)).ins 116 (o116 P)).ins 117 (o117 P)).ins 118 (o118 P)).ins 119 (o119 P)).ins 120 (o120 P)).ins 121 (o121 P)).ins 122 (o122 P)).ins 123 (o123 P)).ins 124 (o124 P)).ins 125 (o125 P)).ins 126 (o126 P)).ins 127 (o127 P)).ins 128 (o128 P)).ins 129 (o129 P)).ins 130 (o130 P)).ins 131 (o131 P)).ins 132 (o132 P)).ins 133 (o133 P)).ins 134 (o134 P)).ins 135 (o135 P)).ins 136 (o136 P)).ins 137 (o137 P)).ins 138 (o138 P)).ins 139 (o139 P)).ins 140 (o140 P)).ins 141 (o141 P)).ins 142 (o142 P)).ins 143 (o143 P)).ins 144 (o144 P)).ins 145 (o145 P)).ins 146 (o146 P)).ins 147 (o147 P)).ins 148 (o148 P)).ins 149 (o149 P)).ins 150 (o150 P)).ins 151 (o151 P)).ins 152 (o152 P)).ins 153 (o153 P)).ins 154 (o154 P)).ins 155 (o155 P)).ins 156 (o156 P)).ins 157 (o157 P)).ins 158 (o158 P)).ins 159 (o159 P)).ins 160 (o160 P)).ins 161 (o161 P)).ins 162 (o162 P)).ins 163 (o163 P)).ins 164 (o164 P)).ins 165 (o165 P)).ins 166 (o166 P)).ins 167 (o167 P)).ins 168 (o168 P)).ins 169 (o169 P)).ins 170 (o170 P)).ins 171 (o171 P)).ins 172 (o172 P)).ins 173 (o173 P)).ins 174 (o174 P)).ins 175 (o175 P)).ins 176 (o176 P)).ins 177 (o177 P)).ins 178 (o178 P)).ins 179 (o179 P)).ins 180 (o180 P)).ins 181 (o181 P)).ins 182 (o182 P)).ins 183 (o183 P)).ins 184 (o184 P)).ins 185 (o185 P)).ins 186 (o186 P)).ins 187 (o187 P)).ins 188 (o188 P)).ins 189 (o189 P)).ins 190 (o190 P)).ins 191 (o191 P)).ins 192 (o192 P)).ins 193 (o193 P)).ins 194 (o194 P)).ins 195 (o195 P)).ins 196 (o196 P)).ins 197 ⟨(.type "type"), none, (.cls { name := (Str.ofString "BaseStemmer"), bases := [(.type "object")], mro := [(.ref 197), (.type "object")], ns := 196, qualname := (Str.ofString "BaseStemmer"), hasDict := true, slotNames := [], subclasses := [], abstract := false, collection := none, hasDel := false }), #[none, none, (some (ks "BaseStemmer" 196)), (some (ks "BaseStemmer" 204)), (some (.builtin "object.__new__")), (some (.bool true))]⟩).ins 198 (o198 P)).ins 199 (o199 P)).ins 200 (o200 P)).ins 201 (o201 P))
noncomputable def t4 (P : Params) : BT := ((t3 P).set 3 fun _ => ⟨(.type "dict"), none, (.dict #[ke P "__name__" 165 (ks "snowballstemmer.among" 424), ke P "__doc__" 166 .none, ke P "__package__" 167 .none, ke P "__loader__" 168 (.builtin "__main__.__loader__#opaque"), ke P "__spec__" 169 .none, ke P "__annotations__" 170 (.ref 6), ke P "__builtins__" 171 (.ref 4), ke P "__file__" 173 (ks "/claim/cut.py" 172), ke P "__cached__" 174 .none, ke P "_wall" 193 (.ref 21), ke P "BaseStemmer" 423 (.ref 197)] 11), #[]⟩)
noncomputable def t5 (P : Params) : BT := ((((((((((((((((((((((((t4 P).set 3 fun _ => ⟨(.type "dict"), none, (.dict #[ke P "__name__" 165 (ks "snowballstemmer.among" 424), ke P "__doc__" 166 .none, ke P "__package__" 167 .none, ke P "__loader__" 168 (.builtin "__main__.__loader__#opaque"), ke P "__spec__" 169 .none, ke P "__annotations__" 170 (.ref 6), ke P "__builtins__" 171 (.ref 4), ke P "__file__" 173 (ks "/claim/cut.py" 172), ke P "__cached__" 174 .none, ke P "_wall" 193 (.ref 21), ke P "BaseStemmer" 423 (.ref 197), ke P "Among" 458 (.ref 218)] 12), #[]⟩).set 12 fun _ => ⟨.none, none, (.fields #[(.int (1) 0), (.int (0) 0), (.ref 20), (.int (5) 0), (.int (0) 0), (.ref 27), (.int (148) 0), (.int (0) 0), (.ref 207)]), #[]⟩).ins 202 (o202 P)).ins 203 (o203 P)).ins 204 (o204 P)).ins 205 (o205 P)).ins 206 (o206 P)).ins 207 (o207 P)).ins 208 (o208 P)).ins 209 (o209 P)).ins 210 (o210 P)).ins 211 (o211 P)).ins 212 (o212 P)).ins 213 (o213 P)).ins 214 (o214 P)).ins 215 (o215 P)).ins 216 (o216 P)).ins 217 (o217 P)).ins 218 (o218 P)).ins 219 (o219 P)).ins 220 (o220 P)).ins 221 (o221 P)).ins 222 (o222 P))
noncomputable def t6 (P : Params) : BT := ((t5 P).set 3 fun _ => ⟨(.type "dict"), none, (.dict #[ke P "__name__" 165 (ks "snowballstemmer.russian_stemmer" 459), ke P "__doc__" 166 .none, ke P "__package__" 167 .none, ke P "__loader__" 168 (.builtin "__main__.__loader__#opaque"), ke P "__spec__" 169 .none, ke P "__annotations__" 170 (.ref 6), ke P "__builtins__" 171 (.ref 4), ke P "__file__" 173 (ks "/claim/cut.py" 172), ke P "__cached__" 174 .none, ke P "_wall" 193 (.ref 21), ke P "BaseStemmer" 423 (.ref 197), ke P "Among" 458 (.ref 218)] 12), #[]⟩)
noncomputable def tA (P : Params) : BT := (((((((((t6 P).set 12 fun _ => ⟨.none, none, (.fields #[(.int (1) 0), (.int (0) 0), (.ref 20), (.int (5) 0), (.int (0) 0), (.ref 27), (.int (148) 0), (.int (0) 0), (.ref 207), (.int (155) 0), (.int (0) 0), (.ref 228)]), #[]⟩).ins 223 (o223 P)).ins 224 (o224 P)).ins 225 ⟨(.type "dict"), none, (.dict #[ke P "__module__" 468 (ks "snowballstemmer.russian_stemmer" 459), ke P "__qualname__" 470 (ks "RussianStemmer" 469), ke P "__firstlineno__" 472 (.int (155) 471)] 3), #[]⟩).ins 226 (o226 P)).ins 227 ⟨.none, none, (.fields #[]), #[]⟩).ins 228 (o228 P)).ins 229 (o229 P))
noncomputable def cenv : Env := { scope := fSc (tS 6), locals := 225, globals := 3, cells := [], qual := (Str.ofString "RussianStemmer."), func := none, code := (.ref 228), frame := (some 229), builtins := 0 }
noncomputable def cC : Code := .body (cB (tS 6)) cenv
noncomputable def posA : Pos := ⟨155, 0, 430, 100⟩
noncomputable def c1 (P : Params) : BT := (((tA P).set 225 fun _ => ⟨(.type "dict"), none, (.dict #[ke P "__module__" 468 (ks "snowballstemmer.russian_stemmer" 459), ke P "__qualname__" 470 (ks "RussianStemmer" 469), ke P "__firstlineno__" 472 (.int (155) 471), ke P "g_v" 491 (.ref 230)] 4), #[]⟩).ins 230 (o230 P))
noncomputable def c2 (P : Params) : BT := ((c1 P).set 225 fun _ => ⟨(.type "dict"), none, (.dict #[ke P "__module__" 468 (ks "snowballstemmer.russian_stemmer" 459), ke P "__qualname__" 470 (ks "RussianStemmer" 469), ke P "__firstlineno__" 472 (.int (155) 471), ke P "g_v" 491 (.ref 230), ke P "I_p2" 493 (.int (0) 492)] 5), #[]⟩)
noncomputable def c3 (P : Params) : BT := ((c2 P).set 225 fun _ => ⟨(.type "dict"), none, (.dict #[ke P "__module__" 468 (ks "snowballstemmer.russian_stemmer" 459), ke P "__qualname__" 470 (ks "RussianStemmer" 469), ke P "__firstlineno__" 472 (.int (155) 471), ke P "g_v" 491 (.ref 230), ke P "I_p2" 493 (.int (0) 492), ke P "I_pV" 495 (.int (0) 494)] 6), #[]⟩)
noncomputable def c4 (P : Params) : BT := ((((((((((c3 P).set 225 fun _ => ⟨(.type "dict"), none, (.dict #[ke P "__module__" 468 (ks "snowballstemmer.russian_stemmer" 459), ke P "__qualname__" 470 (ks "RussianStemmer" 469), ke P "__firstlineno__" 472 (.int (155) 471), ke P "g_v" 491 (.ref 230), ke P "I_p2" 493 (.int (0) 492), ke P "I_pV" 495 (.int (0) 494), ke P "r_mark_regions" 503 (.ref 237)] 7), #[]⟩).set 227 fun _ => ⟨.none, none, (.fields #[(.int (160) 0), (.int (4) 0), (.ref 236)]), #[]⟩).ins 231 (o231 P)).ins 232 (o232 P)).ins 233 (o233 P)).ins 234 (o234 P)).ins 235 (o235 P)).ins 236 (o236 P)).ins 237 (o237 P))
noncomputable def c5 (P : Params) : BT := ((((((((((c4 P).set 225 fun _ => ⟨(.type "dict"), none, (.dict #[ke P "__module__" 468 (ks "snowballstemmer.russian_stemmer" 459), ke P "__qualname__" 470 (ks "RussianStemmer" 469), ke P "__firstlineno__" 472 (.int (155) 471), ke P "g_v" 491 (.ref 230), ke P "I_p2" 493 (.int (0) 492), ke P "I_pV" 495 (.int (0) 494), ke P "r_mark_regions" 503 (.ref 237), ke P "r_perfective_gerund" 511 (.ref 244)] 8), #[]⟩).set 227 fun _ => ⟨.none, none, (.fields #[(.int (160) 0), (.int (4) 0), (.ref 236), (.int (184) 0), (.int (4) 0), (.ref 243)]), #[]⟩).ins 238 (o238 P)).ins 239 (o239 P)).ins 240 (o240 P)).ins 241 (o241 P)).ins 242 (o242 P)).ins 243 (o243 P)).ins 244 (o244 P))
noncomputable def c6 (P : Params) : BT := ((((((((((c5 P).set 225 fun _ => ⟨(.type "dict"), none, (.dict #[ke P "__module__" 468 (ks "snowballstemmer.russian_stemmer" 459), ke P "__qualname__" 470 (ks "RussianStemmer" 469), ke P "__firstlineno__" 472 (.int (155) 471), ke P "g_v" 491 (.ref 230), ke P "I_p2" 493 (.int (0) 492), ke P "I_pV" 495 (.int (0) 494), ke P "r_mark_regions" 503 (.ref 237), ke P "r_perfective_gerund" 511 (.ref 244), ke P "r_adjective" 518 (.ref 251)] 9), #[]⟩).set 227 fun _ => ⟨.none, none, (.fields #[(.int (160) 0), (.int (4) 0), (.ref 236), (.int (184) 0), (.int (4) 0), (.ref 243), (.int (208) 0), (.int (4) 0), (.ref 250)]), #[]⟩).ins 245 (o245 P)).ins 246 (o246 P)).ins 247 (o247 P)).ins 248 (o248 P)).ins 249 (o249 P)).ins 250 (o250 P)).ins 251 (o251 P))
noncomputable def c7 (P : Params) : BT := ((((((((((c6 P).set 225 fun _ => ⟨(.type "dict"), none, (.dict #[ke P "__module__" 468 (ks "snowballstemmer.russian_stemmer" 459), ke P "__qualname__" 470 (ks "RussianStemmer" 469), ke P "__firstlineno__" 472 (.int (155) 471), ke P "g_v" 491 (.ref 230), ke P "I_p2" 493 (.int (0) 492), ke P "I_pV" 495 (.int (0) 494), ke P "r_mark_regions" 503 (.ref 237), ke P "r_perfective_gerund" 511 (.ref 244), ke P "r_adjective" 518 (.ref 251), ke P "r_adjectival" 527 (.ref 258)] 10), #[]⟩).set 227 fun _ => ⟨.none, none, (.fields #[(.int (160) 0), (.int (4) 0), (.ref 236), (.int (184) 0), (.int (4) 0), (.ref 243), (.int (208) 0), (.int (4) 0), (.ref 250), (.int (216) 0), (.int (4) 0), (.ref 257)]), #[]⟩).ins 252 (o252 P)).ins 253 (o253 P)).ins 254 (o254 P)).ins 255 (o255 P)).ins 256 (o256 P)).ins 257 (o257 P)).ins 258 (o258 P))
noncomputable def c8 (P : Params) : BT := ((((((((((c7 P).set 225 fun _ => ⟨(.type "dict"), none, (.dict #[ke P "__module__" 468 (ks "snowballstemmer.russian_stemmer" 459), ke P "__qualname__" 470 (ks "RussianStemmer" 469), ke P "__firstlineno__" 472 (.int (155) 471), ke P "g_v" 491 (.ref 230), ke P "I_p2" 493 (.int (0) 492), ke P "I_pV" 495 (.int (0) 494), ke P "r_mark_regions" 503 (.ref 237), ke P "r_perfective_gerund" 511 (.ref 244), ke P "r_adjective" 518 (.ref 251), ke P "r_adjectival" 527 (.ref 258), ke P "r_reflexive" 534 (.ref 265)] 11), #[]⟩).set 227 fun _ => ⟨.none, none, (.fields #[(.int (160) 0), (.int (4) 0), (.ref 236), (.int (184) 0), (.int (4) 0), (.ref 243), (.int (208) 0), (.int (4) 0), (.ref 250), (.int (216) 0), (.int (4) 0), (.ref 257), (.int (248) 0), (.int (4) 0), (.ref 264)]), #[]⟩).ins 259 (o259 P)).ins 260 (o260 P)).ins 261 (o261 P)).ins 262 (o262 P)).ins 263 (o263 P)).ins 264 (o264 P)).ins 265 (o265 P))
noncomputable def c9 (P : Params) : BT := ((((((((((c8 P).set 225 fun _ => ⟨(.type "dict"), none, (.dict #[ke P "__module__" 468 (ks "snowballstemmer.russian_stemmer" 459), ke P "__qualname__" 470 (ks "RussianStemmer" 469), ke P "__firstlineno__" 472 (.int (155) 471), ke P "g_v" 491 (.ref 230), ke P "I_p2" 493 (.int (0) 492), ke P "I_pV" 495 (.int (0) 494), ke P "r_mark_regions" 503 (.ref 237), ke P "r_perfective_gerund" 511 (.ref 244), ke P "r_adjective" 518 (.ref 251), ke P "r_adjectival" 527 (.ref 258), ke P "r_reflexive" 534 (.ref 265), ke P "r_verb" 542 (.ref 272)] 12), #[]⟩).set 227 fun _ => ⟨.none, none, (.fields #[(.int (160) 0), (.int (4) 0), (.ref 236), (.int (184) 0), (.int (4) 0), (.ref 243), (.int (208) 0), (.int (4) 0), (.ref 250), (.int (216) 0), (.int (4) 0), (.ref 257), (.int (248) 0), (.int (4) 0), (.ref 264), (.int (256) 0), (.int (4) 0), (.ref 271)]), #[]⟩).ins 266 (o266 P)).ins 267 (o267 P)).ins 268 (o268 P)).ins 269 (o269 P)).ins 270 (o270 P)).ins 271 (o271 P)).ins 272 (o272 P))
noncomputable def c10 (P : Params) : BT := ((((((((((c9 P).set 225 fun _ => ⟨(.type "dict"), none, (.dict #[ke P "__module__" 468 (ks "snowballstemmer.russian_stemmer" 459), ke P "__qualname__" 470 (ks "RussianStemmer" 469), ke P "__firstlineno__" 472 (.int (155) 471), ke P "g_v" 491 (.ref 230), ke P "I_p2" 493 (.int (0) 492), ke P "I_pV" 495 (.int (0) 494), ke P "r_mark_regions" 503 (.ref 237), ke P "r_perfective_gerund" 511 (.ref 244), ke P "r_adjective" 518 (.ref 251), ke P "r_adjectival" 527 (.ref 258), ke P "r_reflexive" 534 (.ref 265), ke P "r_verb" 542 (.ref 272), ke P "r_noun" 549 (.ref 279)] 13), #[]⟩).set 227 fun _ => ⟨.none, none, (.fields #[(.int (160) 0), (.int (4) 0), (.ref 236), (.int (184) 0), (.int (4) 0), (.ref 243), (.int (208) 0), (.int (4) 0), (.ref 250), (.int (216) 0), (.int (4) 0), (.ref 257), (.int (248) 0), (.int (4) 0), (.ref 264), (.int (256) 0), (.int (4) 0), (.ref 271), (.int (280) 0), (.int (4) 0), (.ref 278)]), #[]⟩).ins 273 (o273 P)).ins 274 (o274 P)).ins 275 (o275 P)).ins 276 (o276 P)).ins 277 (o277 P)).ins 278 (o278 P)).ins 279 (o279 P))
noncomputable def c11 (P : Params) : BT := ((((((((((c10 P).set 225 fun _ => ⟨(.type "dict"), none, (.dict #[ke P "__module__" 468 (ks "snowballstemmer.russian_stemmer" 459), ke P "__qualname__" 470 (ks "RussianStemmer" 469), ke P "__firstlineno__" 472 (.int (155) 471), ke P "g_v" 491 (.ref 230), ke P "I_p2" 493 (.int (0) 492), ke P "I_pV" 495 (.int (0) 494), ke P "r_mark_regions" 503 (.ref 237), ke P "r_perfective_gerund" 511 (.ref 244), ke P "r_adjective" 518 (.ref 251), ke P "r_adjectival" 527 (.ref 258), ke P "r_reflexive" 534 (.ref 265), ke P "r_verb" 542 (.ref 272), ke P "r_noun" 549 (.ref 279), ke P "r_derivational" 556 (.ref 286)] 14), #[]⟩).set 227 fun _ => ⟨.none, none, (.fields #[(.int (160) 0), (.int (4) 0), (.ref 236), (.int (184) 0), (.int (4) 0), (.ref 243), (.int (208) 0), (.int (4) 0), (.ref 250), (.int (216) 0), (.int (4) 0), (.ref 257), (.int (248) 0), (.int (4) 0), (.ref 264), (.int (256) 0), (.int (4) 0), (.ref 271), (.int (280) 0), (.int (4) 0), (.ref 278), (.int (288) 0), (.int (4) 0), (.ref 285)]), #[]⟩).ins 280 (o280 P)).ins 281 (o281 P)).ins 282 (o282 P)).ins 283 (o283 P)).ins 284 (o284 P)).ins 285 (o285 P)).ins 286 (o286 P))
noncomputable def c12 (P : Params) : BT := ((((((((((c11 P).set 225 fun _ => ⟨(.type "dict"), none, (.dict #[ke P "__module__" 468 (ks "snowballstemmer.russian_stemmer" 459), ke P "__qualname__" 470 (ks "RussianStemmer" 469), ke P "__firstlineno__" 472 (.int (155) 471), ke P "g_v" 491 (.ref 230), ke P "I_p2" 493 (.int (0) 492), ke P "I_pV" 495 (.int (0) 494), ke P "r_mark_regions" 503 (.ref 237), ke P "r_perfective_gerund" 511 (.ref 244), ke P "r_adjective" 518 (.ref 251), ke P "r_adjectival" 527 (.ref 258), ke P "r_reflexive" 534 (.ref 265), ke P "r_verb" 542 (.ref 272), ke P "r_noun" 549 (.ref 279), ke P "r_derivational" 556 (.ref 286), ke P "r_tidy_up" 564 (.ref 293)] 15), #[]⟩).set 227 fun _ => ⟨.none, none, (.fields #[(.int (160) 0), (.int (4) 0), (.ref 236), (.int (184) 0), (.int (4) 0), (.ref 243), (.int (208) 0), (.int (4) 0), (.ref 250), (.int (216) 0), (.int (4) 0), (.ref 257), (.int (248) 0), (.int (4) 0), (.ref 264), (.int (256) 0), (.int (4) 0), (.ref 271), (.int (280) 0), (.int (4) 0), (.ref 278), (.int (288) 0), (.int (4) 0), (.ref 285), (.int (298) 0), (.int (4) 0), (.ref 292)]), #[]⟩).ins 287 (o287 P)).ins 288 (o288 P)).ins 289 (o289 P)).ins 290 (o290 P)).ins 291 (o291 P)).ins 292 (o292 P)).ins 293 (o293 P))
noncomputable def c13 (P : Params) : BT := ((((((((((c12 P).set 225 fun _ => ⟨(.type "dict"), none, (.dict #[ke P "__module__" 468 (ks "snowballstemmer.russian_stemmer" 459), ke P "__qualname__" 470 (ks "RussianStemmer" 469), ke P "__firstlineno__" 472 (.int (155) 471), ke P "g_v" 491 (.ref 230), ke P "I_p2" 493 (.int (0) 492), ke P "I_pV" 495 (.int (0) 494), ke P "r_mark_regions" 503 (.ref 237), ke P "r_perfective_gerund" 511 (.ref 244), ke P "r_adjective" 518 (.ref 251), ke P "r_adjectival" 527 (.ref 258), ke P "r_reflexive" 534 (.ref 265), ke P "r_verb" 542 (.ref 272), ke P "r_noun" 549 (.ref 279), ke P "r_derivational" 556 (.ref 286), ke P "r_tidy_up" 564 (.ref 293), ke P "_stem" 582 (.ref 300)] 16), #[]⟩).set 227 fun _ => (o227 P)).ins 294 (o294 P)).ins 295 (o295 P)).ins 296 (o296 P)).ins 297 (o297 P)).ins 298 (o298 P)).ins 299 (o299 P)).ins 300 (o300 P))
noncomputable def c14 (P : Params) : BT := ((((((((((((((((((((((((((((((c13 P).set 225 fun _ => ⟨(.type "dict"), none, (.dict #[ke P "__module__" 468 (ks "snowballstemmer.russian_stemmer" 459), ke P "__qualname__" 470 (ks "RussianStemmer" 469), ke P "__firstlineno__" 472 (.int (155) 471), ke P "g_v" 491 (.ref 230), ke P "I_p2" 493 (.int (0) 492), ke P "I_pV" 495 (.int (0) 494), ke P "r_mark_regions" 503 (.ref 237), ke P "r_perfective_gerund" 511 (.ref 244), ke P "r_adjective" 518 (.ref 251), ke P "r_adjectival" 527 (.ref 258), ke P "r_reflexive" 534 (.ref 265), ke P "r_verb" 542 (.ref 272), ke P "r_noun" 549 (.ref 279), ke P "r_derivational" 556 (.ref 286), ke P "r_tidy_up" 564 (.ref 293), ke P "_stem" 582 (.ref 300), ke P "a_0" 703 (.ref 328)] 17), #[]⟩).ins 301 (o301 P)).ins 302 (o302 P)).ins 303 (o303 P)).ins 304 (o304 P)).ins 305 (o305 P)).ins 306 (o306 P)).ins 307 (o307 P)).ins 308 (o308 P)).ins 309 (o309 P)).ins 310 (o310 P)).ins 311 (o311 P)).ins 312 (o312 P)).ins 313 (o313 P)).ins 314 (o314 P)).ins 315 (o315 P)).ins 316 (o316 P)).ins 317 (o317 P)).ins 318 (o318 P)).ins 319 (o319 P)).ins 320 (o320 P)).ins 321 (o321 P)).ins 322 (o322 P)).ins 323 (o323 P)).ins 324 (o324 P)).ins 325 (o325 P)).ins 326 (o326 P)).ins 327 (o327 P)).ins 328 (o328 P))
noncomputable def c15 (P : Params) : BT := (((((((((((((((((((((((((((((((((((((((((((((((((((((((((((((((((((((((((((((((((c14 P).set 225 fun _ => ⟨(.type "dict"), none, (.dict #[ke P "__module__" 468 (ks "snowballstemmer.russian_stemmer" 459), ke P "__qualname__" 470 (ks "RussianStemmer" 469), ke P "__firstlineno__" 472 (.int (155) 471), ke P "g_v" 491 (.ref 230), ke P "I_p2" 493 (.int (0) 492), ke P "I_pV" 495 (.int (0) 494), ke P "r_mark_regions" 503 (.ref 237), ke P "r_perfective_gerund" 511 (.ref 244), ke P "r_adjective" 518 (.ref 251), ke P "r_adjectival" 527 (.ref 258), ke P "r_reflexive" 534 (.ref 265), ke P "r_verb" 542 (.ref 272), ke P "r_noun" 549 (.ref 279), ke P "r_derivational" 556 (.ref 286), ke P "r_tidy_up" 564 (.ref 293), ke P "_stem" 582 (.ref 300), ke P "a_0" 703 (.ref 328), ke P "a_1" 1068 (.ref 407)] 18), #[]⟩).ins 329 (o329 P)).ins 330 (o330 P)).ins 331 (o331 P)).ins 332 (o332 P)).ins 333 (o333 P)).ins 334 (o334 P)).ins 335 (o335 P)).ins 336 (o336 P)).ins 337 (o337 P)).ins 338 (o338 P)).ins 339 (o339 P)).ins 340 (o340 P)).ins 341 (o341 P)).ins 342 (o342 P)).ins 343 (o343 P)).ins 344 (o344 P)).ins 345 (o345 P)).ins 346 (o346 P)).ins 347 (o347 P)).ins 348 (o348 P)).ins 349 (o349 P)).ins 350 (o350 P)).ins 351 (o351 P)).ins 352 (o352 P)).ins 353 (o353 P)).ins 354 (o354 P)).ins 355 (o355 P)).ins 356 (o356 P)).ins 357 (o357 P)).ins 358 (o358 P)).ins 359 (o359 P)).ins 360 (o360 P)).ins 361 (o361 P)).ins 362 (o362 P)).ins 363 (o363 P)).ins 364 (o364 P)).ins 365 (o365 P)).ins 366 (o366 P)).ins 367 (o367 P)).ins 368 (o368 P)).ins 369 (o369 P)).ins 370 (o370 P)).ins 371 (o371 P)).ins 372 (o372 P)).ins 373 (o373 P)).ins 374 (o374 P)).ins 375 (o375 P)).ins 376 (o376 P)).ins 377 (o377 P)).ins 378 (o378 P)).ins 379 (o379 P)).ins 380 (o380 P)).ins 381 (o381 P)).ins 382 (o382 P)).ins 383 (o383 P)).ins 384 (o384 P)).ins 385 (o385 P)).ins 386 (o386 P)).ins 387 (o387 P)).ins 388 (o388 P)).ins 389 (o389 P)).ins 390 (o390 P)).ins 391 (o391 P)).ins 392 (o392 P)).ins 393 (o393 P)).ins 394 (o394 P)).ins 395 (o395 P)).ins 396 (o396 P)).ins 397 (o397 P)).ins 398 (o398 P)).ins 399 (o399 P)).ins 400 (o400 P)).ins 401 (o401 P)).ins 402 (o402 P)).ins 403 (o403 P)).ins 404 (o404 P)).ins 405 (o405 P)).ins 406 (o406 P)).ins 407 (o407 P))
noncomputable def c16 (P : Params) : BT := (((((((((((((((((((((((((((c15 P).set 225 fun _ => ⟨(.type "dict"), none, (.dict #[ke P "__module__" 468 (ks "snowballstemmer.russian_stemmer" 459), ke P "__qualname__" 470 (ks "RussianStemmer" 469), ke P "__firstlineno__" 472 (.int (155) 471), ke P "g_v" 491 (.ref 230), ke P "I_p2" 493 (.int (0) 492), ke P "I_pV" 495 (.int (0) 494), ke P "r_mark_regions" 503 (.ref 237), ke P "r_perfective_gerund" 511 (.ref 244), ke P "r_adjective" 518 (.ref 251), ke P "r_adjectival" 527 (.ref 258), ke P "r_reflexive" 534 (.ref 265), ke P "r_verb" 542 (.ref 272), ke P "r_noun" 549 (.ref 279), ke P "r_derivational" 556 (.ref 286), ke P "r_tidy_up" 564 (.ref 293), ke P "_stem" 582 (.ref 300), ke P "a_0" 703 (.ref 328), ke P "a_1" 1068 (.ref 407), ke P "a_2" 1177 (.ref 432)] 19), #[]⟩).ins 408 (o408 P)).ins 409 (o409 P)).ins 410 (o410 P)).ins 411 (o411 P)).ins 412 (o412 P)).ins 413 (o413 P)).ins 414 (o414 P)).ins 415 (o415 P)).ins 416 (o416 P)).ins 417 (o417 P)).ins 418 (o418 P)).ins 419 (o419 P)).ins 420 (o420 P)).ins 421 (o421 P)).ins 422 (o422 P)).ins 423 (o423 P)).ins 424 (o424 P)).ins 425 (o425 P)).ins 426 (o426 P)).ins 427 (o427 P)).ins 428 (o428 P)).ins 429 (o429 P)).ins 430 (o430 P)).ins 431 (o431 P)).ins 432 (o432 P))
noncomputable def c17 (P : Params) : BT := (((((((((c16 P).set 225 fun _ => ⟨(.type "dict"), none, (.dict #[ke P "__module__" 468 (ks "snowballstemmer.russian_stemmer" 459), ke P "__qualname__" 470 (ks "RussianStemmer" 469), ke P "__firstlineno__" 472 (.int (155) 471), ke P "g_v" 491 (.ref 230), ke P "I_p2" 493 (.int (0) 492), ke P "I_pV" 495 (.int (0) 494), ke P "r_mark_regions" 503 (.ref 237), ke P "r_perfective_gerund" 511 (.ref 244), ke P "r_adjective" 518 (.ref 251), ke P "r_adjectival" 527 (.ref 258), ke P "r_reflexive" 534 (.ref 265), ke P "r_verb" 542 (.ref 272), ke P "r_noun" 549 (.ref 279), ke P "r_derivational" 556 (.ref 286), ke P "r_tidy_up" 564 (.ref 293), ke P "_stem" 582 (.ref 300), ke P "a_0" 703 (.ref 328), ke P "a_1" 1068 (.ref 407), ke P "a_2" 1177 (.ref 432), ke P "a_3" 1206 (.ref 439)] 20), #[]⟩).ins 433 (o433 P)).ins 434 (o434 P)).ins 435 (o435 P)).ins 436 (o436 P)).ins 437 (o437 P)).ins 438 (o438 P)).ins 439 (o439 P))
noncomputable def c18 (P : Params) : BT := (((((((((((((((((((((((((((((((((((((((((((((((((((((((((((((((((((((((((((((((((((((((((((((((((((((((((((((((((((((((((((((((((((((((((((((c17 P).set 225 fun _ => ⟨(.type "dict"), none, (.dict #[ke P "__module__" 468 (ks "snowballstemmer.russian_stemmer" 459), ke P "__qualname__" 470 (ks "RussianStemmer" 469), ke P "__firstlineno__" 472 (.int (155) 471), ke P "g_v" 491 (.ref 230), ke P "I_p2" 493 (.int (0) 492), ke P "I_pV" 495 (.int (0) 494), ke P "r_mark_regions" 503 (.ref 237), ke P "r_perfective_gerund" 511 (.ref 244), ke P "r_adjective" 518 (.ref 251), ke P "r_adjectival" 527 (.ref 258), ke P "r_reflexive" 534 (.ref 265), ke P "r_verb" 542 (.ref 272), ke P "r_noun" 549 (.ref 279), ke P "r_derivational" 556 (.ref 286), ke P "r_tidy_up" 564 (.ref 293), ke P "_stem" 582 (.ref 300), ke P "a_0" 703 (.ref 328), ke P "a_1" 1068 (.ref 407), ke P "a_2" 1177 (.ref 432), ke P "a_3" 1206 (.ref 439), ke P "a_4" 1829 (.ref 578)] 21), #[]⟩).ins 440 (o440 P)).ins 441 (o441 P)).ins 442 (o442 P)).ins 443 (o443 P)).ins 444 (o444 P)).ins 445 (o445 P)).ins 446 (o446 P)).ins 447 (o447 P)).ins 448 (o448 P)).ins 449 (o449 P)).ins 450 (o450 P)).ins 451 (o451 P)).ins 452 (o452 P)).ins 453 (o453 P)).ins 454 (o454 P)).ins 455 (o455 P)).ins 456 (o456 P)).ins 457 (o457 P)).ins 458 (o458 P)).ins 459 (o459 P)).ins 460 (o460 P)).ins 461 (o461 P)).ins 462 (o462 P)).ins 463 (o463 P)).ins 464 (o464 P)).ins 465 (o465 P)).ins 466 (o466 P)).ins 467 (o467 P)).ins 468 (o468 P)).ins 469 (o469 P)).ins 470 (o470 P)).ins 471 (o471 P)).ins 472 (o472 P)).ins 473 (o473 P)).ins 474 (o474 P)).ins 475 (o475 P)).ins 476 (o476 P)).ins 477 (o477 P)).ins 478 (o478 P)).ins 479 (o479 P)).ins 480 (o480 P)).ins 481 (o481 P)).ins 482 (o482 P)).ins 483 (o483 P)).ins 484 (o484 P)).ins 485 (o485 P)).ins 486 (o486 P)).ins 487 (o487 P)).ins 488 (o488 P)).ins 489 (o489 P)).ins 490 (o490 P)).ins 491 (o491 P)).ins 492 (o492 P)).ins 493 (o493 P)).ins 494 (o494 P)).ins 495 (o495 P)).ins 496 (o496 P)).ins 497 (o497 P)).ins 498 (o498 P)).ins 499 (o499 P)).ins 500 (o500 P)).ins 501 (o501 P)).ins 502 (o502 P)).ins 503 (o503 P)).ins 504 (o504 P)).ins 505 (o505 P)).ins 506 (o506 P)).ins 507 (o507 P)).ins 508 (o508 P)).ins 509 (o509 P)).ins 510 (o510 P)).ins 511 (o511 P)).ins 512 (o512 P)).ins 513 (o513 P)).ins 514 (o514 P)).ins 515 (o515 P)).ins 516 (o516 P)).ins 517 (o517 P)).ins 518 (o518 P)).ins 519 (o519 P)).ins 520 (o520 P)).ins 521 (o521 P)).ins 522 (o522 P)).ins 523 (o523 P)).ins 524 (o524 P)).ins 525 (o525 P)).ins 526 (o526 P)).ins 527 (o527 P)).ins 528 (o528 P)).ins 529 (o529 P)).ins 530 (o530 P)).ins 531 (o531 P)).ins 532 (o532 P)).ins 533 (o533 P)).ins 534 (o534 P)).ins 535 (o535 P)).ins 536 (o536 P)).ins 537 (o537 P)).ins 538 (o538 P)).ins 539 (o539 P)).ins 540 (o540 P)).ins 541 (o541 P)).ins 542 (o542 P)).ins 543 (o543 P)).ins 544 (o544 P)).ins 545 (o545 P)).ins 546 (o546 P)).ins 547 (o547 P)).ins 548 (o548 P)).ins 549 (o549 P)).ins 550 (o550 P)).ins 551 (o551 P)).ins 552 (o552 P)).ins 553 (o553 P)).ins 554 (o554 P)).ins 555 (o555 P)).ins 556 (o556 P)).ins 557 (o557 P)).ins 558 (o558 P)).ins 559 (o559 P)).ins 560 (o560 P)).ins 561 (o561 P)).ins 562 (o562 P)).ins 563 (o563 P)).ins 564 (o564 P)).ins 565 (o565 P)).ins 566 (o566 P)).ins 567 (o567 P)).ins 568 (o568 P)).ins 569 (o569 P)).ins 570 (o570 P)).ins 571 (o571 P)).ins 572 (o572 P)).ins 573 (o573 P)).ins 574 (o574 P)).ins 575 (o575 P)).ins 576 (o576 P)).ins 577 (o577 P)).ins 578 (o578 P))
noncomputable def c19 (P : Params) : BT := (((((((((((((((((((((((((((((((((((((((((((((((((((((((((((((((((((((((((((((((((((((((((((((((((((((((((((((((c18 P).set 225 fun _ => ⟨(.type "dict"), none, (.dict #[ke P "__module__" 468 (ks "snowballstemmer.russian_stemmer" 459), ke P "__qualname__" 470 (ks "RussianStemmer" 469), ke P "__firstlineno__" 472 (.int (155) 471), ke P "g_v" 491 (.ref 230), ke P "I_p2" 493 (.int (0) 492), ke P "I_pV" 495 (.int (0) 494), ke P "r_mark_regions" 503 (.ref 237), ke P "r_perfective_gerund" 511 (.ref 244), ke P "r_adjective" 518 (.ref 251), ke P "r_adjectival" 527 (.ref 258), ke P "r_reflexive" 534 (.ref 265), ke P "r_verb" 542 (.ref 272), ke P "r_noun" 549 (.ref 279), ke P "r_derivational" 556 (.ref 286), ke P "r_tidy_up" 564 (.ref 293), ke P "_stem" 582 (.ref 300), ke P "a_0" 703 (.ref 328), ke P "a_1" 1068 (.ref 407), ke P "a_2" 1177 (.ref 432), ke P "a_3" 1206 (.ref 439), ke P "a_4" 1829 (.ref 578), ke P "a_5" 2316 (.ref 687)] 22), #[]⟩).ins 579 (o579 P)).ins 580 (o580 P)).ins 581 (o581 P)).ins 582 (o582 P)).ins 583 (o583 P)).ins 584 (o584 P)).ins 585 (o585 P)).ins 586 (o586 P)).ins 587 (o587 P)).ins 588 (o588 P)).ins 589 (o589 P)).ins 590 (o590 P)).ins 591 (o591 P)).ins 592 (o592 P)).ins 593 (o593 P)).ins 594 (o594 P)).ins 595 (o595 P)).ins 596 (o596 P)).ins 597 (o597 P)).ins 598 (o598 P)).ins 599 (o599 P)).ins 600 (o600 P)).ins 601 (o601 P)).ins 602 (o602 P)).ins 603 (o603 P)).ins 604 (o604 P)).ins 605 (o605 P)).ins 606 (o606 P)).ins 607 (o607 P)).ins 608 (o608 P)).ins 609 (o609 P)).ins 610 (o610 P)).ins 611 (o611 P)).ins 612 (o612 P)).ins 613 (o613 P)).ins 614 (o614 P)).ins 615 (o615 P)).ins 616 (o616 P)).ins 617 (o617 P)).ins 618 (o618 P)).ins 619 (o619 P)).ins 620 (o620 P)).ins 621 (o621 P)).ins 622 (o622 P)).ins 623 (o623 P)).ins 624 (o624 P)).ins 625 (o625 P)).ins 626 (o626 P)).ins 627 (o627 P)).ins 628 (o628 P)).ins 629 (o629 P)).ins 630 (o630 P)).ins 631 (o631 P)).ins 632 (o632 P)).ins 633 (o633 P)).ins 634 (o634 P)).ins 635 (o635 P)).ins 636 (o636 P)).ins 637 (o637 P)).ins 638 (o638 P)).ins 639 (o639 P)).ins 640 (o640 P)).ins 641 (o641 P)).ins 642 (o642 P)).ins 643 (o643 P)).ins 644 (o644 P)).ins 645 (o645 P)).ins 646 (o646 P)).ins 647 (o647 P)).ins 648 (o648 P)).ins 649 (o649 P)).ins 650 (o650 P)).ins 651 (o651 P)).ins 652 (o652 P)).ins 653 (o653 P)).ins 654 (o654 P)).ins 655 (o655 P)).ins 656 (o656 P)).ins 657 (o657 P)).ins 658 (o658 P)).ins 659 (o659 P)).ins 660 (o660 P)).ins 661 (o661 P)).ins 662 (o662 P)).ins 663 (o663 P)).ins 664 (o664 P)).ins 665 (o665 P)).ins 666 (o666 P)).ins 667 (o667 P)).ins 668 (o668 P)).ins 669 (o669 P)).ins 670 (o670 P)).ins 671 (o671 P)).ins 672 (o672 P)).ins 673 (o673 P)).ins 674 (o674 P)).ins 675 (o675 P)).ins 676 (o676 P)).ins 677 (o677 P)).ins 678 (o678 P)).ins 679 (o679 P)).ins 680 (o680 P)).ins 681 (o681 P)).ins 682 (o682 P)).ins 683 (o683 P)).ins 684 (o684 P)).ins 685 (o685 P)).ins 686 (o686 P)).ins 687 (o687 P))
noncomputable def c20 (P : Params) : BT := (((((((((c19 P).set 225 fun _ => ⟨(.type "dict"), none, (.dict #[ke P "__module__" 468 (ks "snowballstemmer.russian_stemmer" 459), ke P "__qualname__" 470 (ks "RussianStemmer" 469), ke P "__firstlineno__" 472 (.int (155) 471), ke P "g_v" 491 (.ref 230), ke P "I_p2" 493 (.int (0) 492), ke P "I_pV" 495 (.int (0) 494), ke P "r_mark_regions" 503 (.ref 237), ke P "r_perfective_gerund" 511 (.ref 244), ke P "r_adjective" 518 (.ref 251), ke P "r_adjectival" 527 (.ref 258), ke P "r_reflexive" 534 (.ref 265), ke P "r_verb" 542 (.ref 272), ke P "r_noun" 549 (.ref 279), ke P "r_derivational" 556 (.ref 286), ke P "r_tidy_up" 564 (.ref 293), ke P "_stem" 582 (.ref 300), ke P "a_0" 703 (.ref 328), ke P "a_1" 1068 (.ref 407), ke P "a_2" 1177 (.ref 432), ke P "a_3" 1206 (.ref 439), ke P "a_4" 1829 (.ref 578), ke P "a_5" 2316 (.ref 687), ke P "a_6" 2345 (.ref 694)] 23), #[]⟩).ins 688 (o688 P)).ins 689 (o689 P)).ins 690 (o690 P)).ins 691 (o691 P)).ins 692 (o692 P)).ins 693 (o693 P)).ins 694 (o694 P))
noncomputable def c21 (P : Params) : BT := (((((((((((((((c20 P).set 225 fun _ => ⟨(.type "dict"), none, (.dict #[ke P "__module__" 468 (ks "snowballstemmer.russian_stemmer" 459), ke P "__qualname__" 470 (ks "RussianStemmer" 469), ke P "__firstlineno__" 472 (.int (155) 471), ke P "g_v" 491 (.ref 230), ke P "I_p2" 493 (.int (0) 492), ke P "I_pV" 495 (.int (0) 494), ke P "r_mark_regions" 503 (.ref 237), ke P "r_perfective_gerund" 511 (.ref 244), ke P "r_adjective" 518 (.ref 251), ke P "r_adjectival" 527 (.ref 258), ke P "r_reflexive" 534 (.ref 265), ke P "r_verb" 542 (.ref 272), ke P "r_noun" 549 (.ref 279), ke P "r_derivational" 556 (.ref 286), ke P "r_tidy_up" 564 (.ref 293), ke P "_stem" 582 (.ref 300), ke P "a_0" 703 (.ref 328), ke P "a_1" 1068 (.ref 407), ke P "a_2" 1177 (.ref 432), ke P "a_3" 1206 (.ref 439), ke P "a_4" 1829 (.ref 578), ke P "a_5" 2316 (.ref 687), ke P "a_6" 2345 (.ref 694), ke P "a_7" 2402 (.ref 707)] 24), #[]⟩).ins 695 (o695 P)).ins 696 (o696 P)).ins 697 (o697 P)).ins 698 (o698 P)).ins 699 (o699 P)).ins 700 (o700 P)).ins 701 (o701 P)).ins 702 (o702 P)).ins 703 (o703 P)).ins 704 (o704 P)).ins 705 (o705 P)).ins 706 (o706 P)).ins 707 (o707 P))
noncomputable def t7 (P : Params) : BT := (((((((((c21 P).set 3 fun _ => ⟨(.type "dict"), none, (.dict #[ke P "__name__" 165 (ks "snowballstemmer.russian_stemmer" 459), ke P "__doc__" 166 .none, ke P "__package__" 167 .none, ke P "__loader__" 168 (.builtin "__main__.__loader__#opaque"), ke P "__spec__" 169 .none, ke P "__annotations__" 170 (.ref 6), ke P "__builtins__" 171 (.ref 4), ke P "__file__" 173 (ks "/claim/cut.py" 172), ke P "__cached__" 174 .none, ke P "_wall" 193 (.ref 21), ke P "BaseStemmer" 423 (.ref 197), ke P "Among" 458 (.ref 218), ke P "RussianStemmer" 2412 (.ref 710)] 13), #[]⟩).set 197 fun _ => (o197 P)).set 225 fun _ => (o225 P)).ins 708 (o708 P)).ins 709 (o709 P)).ins 710 (o710 P)).ins 711 (o711 P)).ins 712 (o712 P))
noncomputable def t8 (P : Params) : BT := (((((((((((((((((t7 P).set 2 fun _ => ⟨.none, none, (.dict #[ke P "type.__subclasses__.Exception.0" 2429 (.int (722) 0), ke P "type.__subclasses__.Exception.n" 2430 (.int (1) 0)] 2), #[]⟩).set 3 fun _ => ⟨(.type "dict"), none, (.dict #[ke P "__name__" 165 (ks "snowballstemmer.russian_stemmer" 459), ke P "__doc__" 166 .none, ke P "__package__" 167 .none, ke P "__loader__" 168 (.builtin "__main__.__loader__#opaque"), ke P "__spec__" 169 .none, ke P "__annotations__" 170 (.ref 6), ke P "__builtins__" 171 (.ref 4), ke P "__file__" 173 (ks "/claim/cut.py" 172), ke P "__cached__" 174 .none, ke P "_wall" 193 (.ref 21), ke P "BaseStemmer" 423 (.ref 197), ke P "Among" 458 (.ref 218), ke P "RussianStemmer" 2412 (.ref 710), ke P "lab0" 2432 (.ref 722)] 14), #[]⟩).set 12 fun _ => ⟨.none, none, (.fields #[(.int (1) 0), (.int (0) 0), (.ref 20), (.int (5) 0), (.int (0) 0), (.ref 27), (.int (148) 0), (.int (0) 0), (.ref 207), (.int (155) 0), (.int (0) 0), (.ref 228), (.int (431) 0), (.int (0) 0), (.ref 718)]), #[]⟩).ins 713 (o713 P)).ins 714 (o714 P)).ins 715 (o715 P)).ins 716 (o716 P)).ins 717 (o717 P)).ins 718 (o718 P)).ins 719 (o719 P)).ins 720 (o720 P)).ins 721 (o721 P)).ins 722 (o722 P)).ins 723 (o723 P)).ins 724 (o724 P)).ins 725 (o725 P))
noncomputable def t9 (P : Params) : BT := (((((((((((((((((t8 P).set 2 fun _ => ⟨.none, none, (.dict #[ke P "type.__subclasses__.Exception.0" 2429 (.int (722) 0), ke P "type.__subclasses__.Exception.n" 2430 (.int (2) 0), ke P "type.__subclasses__.Exception.1" 2449 (.int (735) 0)] 3), #[]⟩).set 3 fun _ => ⟨(.type "dict"), none, (.dict #[ke P "__name__" 165 (ks "snowballstemmer.russian_stemmer" 459), ke P "__doc__" 166 .none, ke P "__package__" 167 .none, ke P "__loader__" 168 (.builtin "__main__.__loader__#opaque"), ke P "__spec__" 169 .none, ke P "__annotations__" 170 (.ref 6), ke P "__builtins__" 171 (.ref 4), ke P "__file__" 173 (ks "/claim/cut.py" 172), ke P "__cached__" 174 .none, ke P "_wall" 193 (.ref 21), ke P "BaseStemmer" 423 (.ref 197), ke P "Among" 458 (.ref 218), ke P "RussianStemmer" 2412 (.ref 710), ke P "lab0" 2432 (.ref 722), ke P "lab1" 2452 (.ref 735)] 15), #[]⟩).set 12 fun _ => ⟨.none, none, (.fields #[(.int (1) 0), (.int (0) 0), (.ref 20), (.int (5) 0), (.int (0) 0), (.ref 27), (.int (148) 0), (.int (0) 0), (.ref 207), (.int (155) 0), (.int (0) 0), (.ref 228), (.int (431) 0), (.int (0) 0), (.ref 718), (.int (433) 0), (.int (0) 0), (.ref 731)]), #[]⟩).ins 726 (o726 P)).ins 727 (o727 P)).ins 728 (o728 P)).ins 729 (o729 P)).ins 730 (o730 P)).ins 731 (o731 P)).ins 732 (o732 P)).ins 733 (o733 P)).ins 734 (o734 P)).ins 735 (o735 P)).ins 736 (o736 P)).ins 737 (o737 P)).ins 738 (o738 P))
noncomputable def t10 (P : Params) : BT := (((((((((((((((((t9 P).set 2 fun _ => (o2 P)).set 3 fun _ => ⟨(.type "dict"), none, (.dict #[ke P "__name__" 165 (ks "snowballstemmer.russian_stemmer" 459), ke P "__doc__" 166 .none, ke P "__package__" 167 .none, ke P "__loader__" 168 (.builtin "__main__.__loader__#opaque"), ke P "__spec__" 169 .none, ke P "__annotations__" 170 (.ref 6), ke P "__builtins__" 171 (.ref 4), ke P "__file__" 173 (ks "/claim/cut.py" 172), ke P "__cached__" 174 .none, ke P "_wall" 193 (.ref 21), ke P "BaseStemmer" 423 (.ref 197), ke P "Among" 458 (.ref 218), ke P "RussianStemmer" 2412 (.ref 710), ke P "lab0" 2432 (.ref 722), ke P "lab1" 2452 (.ref 735), ke P "lab2" 2472 (.ref 748)] 16), #[]⟩).set 12 fun _ => ⟨.none, none, (.fields #[(.int (1) 0), (.int (0) 0), (.ref 20), (.int (5) 0), (.int (0) 0), (.ref 27), (.int (148) 0), (.int (0) 0), (.ref 207), (.int (155) 0), (.int (0) 0), (.ref 228), (.int (431) 0), (.int (0) 0), (.ref 718), (.int (433) 0), (.int (0) 0), (.ref 731), (.int (435) 0), (.int (0) 0), (.ref 744)]), #[]⟩).ins 739 (o739 P)).ins 740 (o740 P)).ins 741 (o741 P)).ins 742 (o742 P)).ins 743 (o743 P)).ins 744 (o744 P)).ins 745 (o745 P)).ins 746 (o746 P)).ins 747 (o747 P)).ins 748 (o748 P)).ins 749 (o749 P)).ins 750 (o750 P)).ins 751 (o751 P))
noncomputable def t11 (P : Params) : BT := ((t10 P).set 3 fun _ => ⟨(.type "dict"), none, (.dict #[ke P "__name__" 165 (ks "law_iu0026_01" 2473), ke P "__doc__" 166 .none, ke P "__package__" 167 .none, ke P "__loader__" 168 (.builtin "__main__.__loader__#opaque"), ke P "__spec__" 169 .none, ke P "__annotations__" 170 (.ref 6), ke P "__builtins__" 171 (.ref 4), ke P "__file__" 173 (ks "/claim/cut.py" 172), ke P "__cached__" 174 .none, ke P "_wall" 193 (.ref 21), ke P "BaseStemmer" 423 (.ref 197), ke P "Among" 458 (.ref 218), ke P "RussianStemmer" 2412 (.ref 710), ke P "lab0" 2432 (.ref 722), ke P "lab1" 2452 (.ref 735), ke P "lab2" 2472 (.ref 748)] 16), #[]⟩)
noncomputable def t12 (P : Params) : BT := ((((((((((t11 P).set 3 fun _ => ⟨(.type "dict"), none, (.dict #[ke P "__name__" 165 (ks "law_iu0026_01" 2473), ke P "__doc__" 166 .none, ke P "__package__" 167 .none, ke P "__loader__" 168 (.builtin "__main__.__loader__#opaque"), ke P "__spec__" 169 .none, ke P "__annotations__" 170 (.ref 6), ke P "__builtins__" 171 (.ref 4), ke P "__file__" 173 (ks "/claim/cut.py" 172), ke P "__cached__" 174 .none, ke P "_wall" 193 (.ref 21), ke P "BaseStemmer" 423 (.ref 197), ke P "Among" 458 (.ref 218), ke P "RussianStemmer" 2412 (.ref 710), ke P "lab0" 2432 (.ref 722), ke P "lab1" 2452 (.ref 735), ke P "lab2" 2472 (.ref 748), ke P "_law_vowels" 2480 (.ref 758)] 17), #[]⟩).set 12 fun _ => ⟨.none, none, (.fields #[(.int (1) 0), (.int (0) 0), (.ref 20), (.int (5) 0), (.int (0) 0), (.ref 27), (.int (148) 0), (.int (0) 0), (.ref 207), (.int (155) 0), (.int (0) 0), (.ref 228), (.int (431) 0), (.int (0) 0), (.ref 718), (.int (433) 0), (.int (0) 0), (.ref 731), (.int (435) 0), (.int (0) 0), (.ref 744), (.int (438) 0), (.int (0) 0), (.ref 757)]), #[]⟩).ins 752 (o752 P)).ins 753 (o753 P)).ins 754 (o754 P)).ins 755 (o755 P)).ins 756 (o756 P)).ins 757 (o757 P)).ins 758 (o758 P))
noncomputable def t13 (P : Params) : BT := (((t12 P).set 3 fun _ => ⟨(.type "dict"), none, (.dict #[ke P "__name__" 165 (ks "law_iu0026_01" 2473), ke P "__doc__" 166 .none, ke P "__package__" 167 .none, ke P "__loader__" 168 (.builtin "__main__.__loader__#opaque"), ke P "__spec__" 169 .none, ke P "__annotations__" 170 (.ref 6), ke P "__builtins__" 171 (.ref 4), ke P "__file__" 173 (ks "/claim/cut.py" 172), ke P "__cached__" 174 .none, ke P "_wall" 193 (.ref 21), ke P "BaseStemmer" 423 (.ref 197), ke P "Among" 458 (.ref 218), ke P "RussianStemmer" 2412 (.ref 710), ke P "lab0" 2432 (.ref 722), ke P "lab1" 2452 (.ref 735), ke P "lab2" 2472 (.ref 748), ke P "_law_vowels" 2480 (.ref 758), ke P "_law_signs" 2518 (.ref 759)] 18), #[]⟩).ins 759 (o759 P))
noncomputable def t14 (P : Params) : BT := (((((t13 P).set 3 fun _ => ⟨(.type "dict"), none, (.dict #[ke P "__name__" 165 (ks "law_iu0026_01" 2473), ke P "__doc__" 166 .none, ke P "__package__" 167 .none, ke P "__loader__" 168 (.builtin "__main__.__loader__#opaque"), ke P "__spec__" 169 .none, ke P "__annotations__" 170 (.ref 6), ke P "__builtins__" 171 (.ref 4), ke P "__file__" 173 (ks "/claim/cut.py" 172), ke P "__cached__" 174 .none, ke P "_wall" 193 (.ref 21), ke P "BaseStemmer" 423 (.ref 197), ke P "Among" 458 (.ref 218), ke P "RussianStemmer" 2412 (.ref 710), ke P "lab0" 2432 (.ref 722), ke P "lab1" 2452 (.ref 735), ke P "lab2" 2472 (.ref 748), ke P "_law_vowels" 2480 (.ref 758), ke P "_law_signs" 2518 (.ref 759), ke P "_law_gerund" 2528 (.ref 762)] 19), #[]⟩).ins 760 (o760 P)).ins 761 (o761 P)).ins 762 (o762 P))
noncomputable def t15 (P : Params) : BT := (((((t14 P).set 3 fun _ => ⟨(.type "dict"), none, (.dict #[ke P "__name__" 165 (ks "law_iu0026_01" 2473), ke P "__doc__" 166 .none, ke P "__package__" 167 .none, ke P "__loader__" 168 (.builtin "__main__.__loader__#opaque"), ke P "__spec__" 169 .none, ke P "__annotations__" 170 (.ref 6), ke P "__builtins__" 171 (.ref 4), ke P "__file__" 173 (ks "/claim/cut.py" 172), ke P "__cached__" 174 .none, ke P "_wall" 193 (.ref 21), ke P "BaseStemmer" 423 (.ref 197), ke P "Among" 458 (.ref 218), ke P "RussianStemmer" 2412 (.ref 710), ke P "lab0" 2432 (.ref 722), ke P "lab1" 2452 (.ref 735), ke P "lab2" 2472 (.ref 748), ke P "_law_vowels" 2480 (.ref 758), ke P "_law_signs" 2518 (.ref 759), ke P "_law_gerund" 2528 (.ref 762), ke P "_law_reflexive" 2531 (.ref 765)] 20), #[]⟩).ins 763 (o763 P)).ins 764 (o764 P)).ins 765 (o765 P))
noncomputable def t16 (P : Params) : BT := (((((t15 P).set 3 fun _ => ⟨(.type "dict"), none, (.dict #[ke P "__name__" 165 (ks "law_iu0026_01" 2473), ke P "__doc__" 166 .none, ke P "__package__" 167 .none, ke P "__loader__" 168 (.builtin "__main__.__loader__#opaque"), ke P "__spec__" 169 .none, ke P "__annotations__" 170 (.ref 6), ke P "__builtins__" 171 (.ref 4), ke P "__file__" 173 (ks "/claim/cut.py" 172), ke P "__cached__" 174 .none, ke P "_wall" 193 (.ref 21), ke P "BaseStemmer" 423 (.ref 197), ke P "Among" 458 (.ref 218), ke P "RussianStemmer" 2412 (.ref 710), ke P "lab0" 2432 (.ref 722), ke P "lab1" 2452 (.ref 735), ke P "lab2" 2472 (.ref 748), ke P "_law_vowels" 2480 (.ref 758), ke P "_law_signs" 2518 (.ref 759), ke P "_law_gerund" 2528 (.ref 762), ke P "_law_reflexive" 2531 (.ref 765), ke P "_law_adjective" 2558 (.ref 768)] 21), #[]⟩).ins 766 (o766 P)).ins 767 (o767 P)).ins 768 (o768 P))
noncomputable def t17 (P : Params) : BT := (((((t16 P).set 3 fun _ => ⟨(.type "dict"), none, (.dict #[ke P "__name__" 165 (ks "law_iu0026_01" 2473), ke P "__doc__" 166 .none, ke P "__package__" 167 .none, ke P "__loader__" 168 (.builtin "__main__.__loader__#opaque"), ke P "__spec__" 169 .none, ke P "__annotations__" 170 (.ref 6), ke P "__builtins__" 171 (.ref 4), ke P "__file__" 173 (ks "/claim/cut.py" 172), ke P "__cached__" 174 .none, ke P "_wall" 193 (.ref 21), ke P "BaseStemmer" 423 (.ref 197), ke P "Among" 458 (.ref 218), ke P "RussianStemmer" 2412 (.ref 710), ke P "lab0" 2432 (.ref 722), ke P "lab1" 2452 (.ref 735), ke P "lab2" 2472 (.ref 748), ke P "_law_vowels" 2480 (.ref 758), ke P "_law_signs" 2518 (.ref 759), ke P "_law_gerund" 2528 (.ref 762), ke P "_law_reflexive" 2531 (.ref 765), ke P "_law_adjective" 2558 (.ref 768), ke P "_law_participle" 2567 (.ref 771)] 22), #[]⟩).ins 769 (o769 P)).ins 770 (o770 P)).ins 771 (o771 P))
noncomputable def t18 (P : Params) : BT := (((((t17 P).set 3 fun _ => ⟨(.type "dict"), none, (.dict #[ke P "__name__" 165 (ks "law_iu0026_01" 2473), ke P "__doc__" 166 .none, ke P "__package__" 167 .none, ke P "__loader__" 168 (.builtin "__main__.__loader__#opaque"), ke P "__spec__" 169 .none, ke P "__annotations__" 170 (.ref 6), ke P "__builtins__" 171 (.ref 4), ke P "__file__" 173 (ks "/claim/cut.py" 172), ke P "__cached__" 174 .none, ke P "_wall" 193 (.ref 21), ke P "BaseStemmer" 423 (.ref 197), ke P "Among" 458 (.ref 218), ke P "RussianStemmer" 2412 (.ref 710), ke P "lab0" 2432 (.ref 722), ke P "lab1" 2452 (.ref 735), ke P "lab2" 2472 (.ref 748), ke P "_law_vowels" 2480 (.ref 758), ke P "_law_signs" 2518 (.ref 759), ke P "_law_gerund" 2528 (.ref 762), ke P "_law_reflexive" 2531 (.ref 765), ke P "_law_adjective" 2558 (.ref 768), ke P "_law_participle" 2567 (.ref 771), ke P "_law_verb" 2614 (.ref 774)] 23), #[]⟩).ins 772 (o772 P)).ins 773 (o773 P)).ins 774 (o774 P))
noncomputable def t19 (P : Params) : BT := (((((t18 P).set 3 fun _ => ⟨(.type "dict"), none, (.dict #[ke P "__name__" 165 (ks "law_iu0026_01" 2473), ke P "__doc__" 166 .none, ke P "__package__" 167 .none, ke P "__loader__" 168 (.builtin "__main__.__loader__#opaque"), ke P "__spec__" 169 .none, ke P "__annotations__" 170 (.ref 6), ke P "__builtins__" 171 (.ref 4), ke P "__file__" 173 (ks "/claim/cut.py" 172), ke P "__cached__" 174 .none, ke P "_wall" 193 (.ref 21), ke P "BaseStemmer" 423 (.ref 197), ke P "Among" 458 (.ref 218), ke P "RussianStemmer" 2412 (.ref 710), ke P "lab0" 2432 (.ref 722), ke P "lab1" 2452 (.ref 735), ke P "lab2" 2472 (.ref 748), ke P "_law_vowels" 2480 (.ref 758), ke P "_law_signs" 2518 (.ref 759), ke P "_law_gerund" 2528 (.ref 762), ke P "_law_reflexive" 2531 (.ref 765), ke P "_law_adjective" 2558 (.ref 768), ke P "_law_participle" 2567 (.ref 771), ke P "_law_verb" 2614 (.ref 774), ke P "_law_noun" 2651 (.ref 777)] 24), #[]⟩).ins 775 (o775 P)).ins 776 (o776 P)).ins 777 (o777 P))
noncomputable def t20 (P : Params) : BT := (((((t19 P).set 3 fun _ => ⟨(.type "dict"), none, (.dict #[ke P "__name__" 165 (ks "law_iu0026_01" 2473), ke P "__doc__" 166 .none, ke P "__package__" 167 .none, ke P "__loader__" 168 (.builtin "__main__.__loader__#opaque"), ke P "__spec__" 169 .none, ke P "__annotations__" 170 (.ref 6), ke P "__builtins__" 171 (.ref 4), ke P "__file__" 173 (ks "/claim/cut.py" 172), ke P "__cached__" 174 .none, ke P "_wall" 193 (.ref 21), ke P "BaseStemmer" 423 (.ref 197), ke P "Among" 458 (.ref 218), ke P "RussianStemmer" 2412 (.ref 710), ke P "lab0" 2432 (.ref 722), ke P "lab1" 2452 (.ref 735), ke P "lab2" 2472 (.ref 748), ke P "_law_vowels" 2480 (.ref 758), ke P "_law_signs" 2518 (.ref 759), ke P "_law_gerund" 2528 (.ref 762), ke P "_law_reflexive" 2531 (.ref 765), ke P "_law_adjective" 2558 (.ref 768), ke P "_law_participle" 2567 (.ref 771), ke P "_law_verb" 2614 (.ref 774), ke P "_law_noun" 2651 (.ref 777), ke P "_law_derived" 2654 (.ref 780)] 25), #[]⟩).ins 778 (o778 P)).ins 779 (o779 P)).ins 780 (o780 P))
noncomputable def t21 (P : Params) : BT := (((((t20 P).set 3 fun _ => ⟨(.type "dict"), none, (.dict #[ke P "__name__" 165 (ks "law_iu0026_01" 2473), ke P "__doc__" 166 .none, ke P "__package__" 167 .none, ke P "__loader__" 168 (.builtin "__main__.__loader__#opaque"), ke P "__spec__" 169 .none, ke P "__annotations__" 170 (.ref 6), ke P "__builtins__" 171 (.ref 4), ke P "__file__" 173 (ks "/claim/cut.py" 172), ke P "__cached__" 174 .none, ke P "_wall" 193 (.ref 21), ke P "BaseStemmer" 423 (.ref 197), ke P "Among" 458 (.ref 218), ke P "RussianStemmer" 2412 (.ref 710), ke P "lab0" 2432 (.ref 722), ke P "lab1" 2452 (.ref 735), ke P "lab2" 2472 (.ref 748), ke P "_law_vowels" 2480 (.ref 758), ke P "_law_signs" 2518 (.ref 759), ke P "_law_gerund" 2528 (.ref 762), ke P "_law_reflexive" 2531 (.ref 765), ke P "_law_adjective" 2558 (.ref 768), ke P "_law_participle" 2567 (.ref 771), ke P "_law_verb" 2614 (.ref 774), ke P "_law_noun" 2651 (.ref 777), ke P "_law_derived" 2654 (.ref 780), ke P "_law_highest" 2657 (.ref 783)] 26), #[]⟩).ins 781 (o781 P)).ins 782 (o782 P)).ins 783 (o783 P))
noncomputable def t22 (P : Params) : BT := ((((((((((t21 P).set 3 fun _ => ⟨(.type "dict"), none, (.dict #[ke P "__name__" 165 (ks "law_iu0026_01" 2473), ke P "__doc__" 166 .none, ke P "__package__" 167 .none, ke P "__loader__" 168 (.builtin "__main__.__loader__#opaque"), ke P "__spec__" 169 .none, ke P "__annotations__" 170 (.ref 6), ke P "__builtins__" 171 (.ref 4), ke P "__file__" 173 (ks "/claim/cut.py" 172), ke P "__cached__" 174 .none, ke P "_wall" 193 (.ref 21), ke P "BaseStemmer" 423 (.ref 197), ke P "Among" 458 (.ref 218), ke P "RussianStemmer" 2412 (.ref 710), ke P "lab0" 2432 (.ref 722), ke P "lab1" 2452 (.ref 735), ke P "lab2" 2472 (.ref 748), ke P "_law_vowels" 2480 (.ref 758), ke P "_law_signs" 2518 (.ref 759), ke P "_law_gerund" 2528 (.ref 762), ke P "_law_reflexive" 2531 (.ref 765), ke P "_law_adjective" 2558 (.ref 768), ke P "_law_participle" 2567 (.ref 771), ke P "_law_verb" 2614 (.ref 774), ke P "_law_noun" 2651 (.ref 777), ke P "_law_derived" 2654 (.ref 780), ke P "_law_highest" 2657 (.ref 783), ke P "_law_end" 2666 (.ref 790)] 27), #[]⟩).set 12 fun _ => ⟨.none, none, (.fields #[(.int (1) 0), (.int (0) 0), (.ref 20), (.int (5) 0), (.int (0) 0), (.ref 27), (.int (148) 0), (.int (0) 0), (.ref 207), (.int (155) 0), (.int (0) 0), (.ref 228), (.int (431) 0), (.int (0) 0), (.ref 718), (.int (433) 0), (.int (0) 0), (.ref 731), (.int (435) 0), (.int (0) 0), (.ref 744), (.int (438) 0), (.int (0) 0), (.ref 757), (.int (449) 0), (.int (0) 0), (.ref 789)]), #[]⟩).ins 784 (o784 P)).ins 785 (o785 P)).ins 786 (o786 P)).ins 787 (o787 P)).ins 788 (o788 P)).ins 789 (o789 P)).ins 790 (o790 P))
noncomputable def t23 (P : Params) : BT := ((((((((((t22 P).set 3 fun _ => ⟨(.type "dict"), none, (.dict #[ke P "__name__" 165 (ks "law_iu0026_01" 2473), ke P "__doc__" 166 .none, ke P "__package__" 167 .none, ke P "__loader__" 168 (.builtin "__main__.__loader__#opaque"), ke P "__spec__" 169 .none, ke P "__annotations__" 170 (.ref 6), ke P "__builtins__" 171 (.ref 4), ke P "__file__" 173 (ks "/claim/cut.py" 172), ke P "__cached__" 174 .none, ke P "_wall" 193 (.ref 21), ke P "BaseStemmer" 423 (.ref 197), ke P "Among" 458 (.ref 218), ke P "RussianStemmer" 2412 (.ref 710), ke P "lab0" 2432 (.ref 722), ke P "lab1" 2452 (.ref 735), ke P "lab2" 2472 (.ref 748), ke P "_law_vowels" 2480 (.ref 758), ke P "_law_signs" 2518 (.ref 759), ke P "_law_gerund" 2528 (.ref 762), ke P "_law_reflexive" 2531 (.ref 765), ke P "_law_adjective" 2558 (.ref 768), ke P "_law_participle" 2567 (.ref 771), ke P "_law_verb" 2614 (.ref 774), ke P "_law_noun" 2651 (.ref 777), ke P "_law_derived" 2654 (.ref 780), ke P "_law_highest" 2657 (.ref 783), ke P "_law_end" 2666 (.ref 790), ke P "_law_shorn" 2676 (.ref 797)] 28), #[]⟩).set 12 fun _ => ⟨.none, none, (.fields #[(.int (1) 0), (.int (0) 0), (.ref 20), (.int (5) 0), (.int (0) 0), (.ref 27), (.int (148) 0), (.int (0) 0), (.ref 207), (.int (155) 0), (.int (0) 0), (.ref 228), (.int (431) 0), (.int (0) 0), (.ref 718), (.int (433) 0), (.int (0) 0), (.ref 731), (.int (435) 0), (.int (0) 0), (.ref 744), (.int (438) 0), (.int (0) 0), (.ref 757), (.int (449) 0), (.int (0) 0), (.ref 789), (.int (454) 0), (.int (0) 0), (.ref 796)]), #[]⟩).ins 791 (o791 P)).ins 792 (o792 P)).ins 793 (o793 P)).ins 794 (o794 P)).ins 795 (o795 P)).ins 796 (o796 P)).ins 797 (o797 P))
noncomputable def t24 (P : Params) : BT := ((((((((((t23 P).set 3 fun _ => ⟨(.type "dict"), none, (.dict #[ke P "__name__" 165 (ks "law_iu0026_01" 2473), ke P "__doc__" 166 .none, ke P "__package__" 167 .none, ke P "__loader__" 168 (.builtin "__main__.__loader__#opaque"), ke P "__spec__" 169 .none, ke P "__annotations__" 170 (.ref 6), ke P "__builtins__" 171 (.ref 4), ke P "__file__" 173 (ks "/claim/cut.py" 172), ke P "__cached__" 174 .none, ke P "_wall" 193 (.ref 21), ke P "BaseStemmer" 423 (.ref 197), ke P "Among" 458 (.ref 218), ke P "RussianStemmer" 2412 (.ref 710), ke P "lab0" 2432 (.ref 722), ke P "lab1" 2452 (.ref 735), ke P "lab2" 2472 (.ref 748), ke P "_law_vowels" 2480 (.ref 758), ke P "_law_signs" 2518 (.ref 759), ke P "_law_gerund" 2528 (.ref 762), ke P "_law_reflexive" 2531 (.ref 765), ke P "_law_adjective" 2558 (.ref 768), ke P "_law_participle" 2567 (.ref 771), ke P "_law_verb" 2614 (.ref 774), ke P "_law_noun" 2651 (.ref 777), ke P "_law_derived" 2654 (.ref 780), ke P "_law_highest" 2657 (.ref 783), ke P "_law_end" 2666 (.ref 790), ke P "_law_shorn" 2676 (.ref 797), ke P "_law_first" 2686 (.ref 804)] 29), #[]⟩).set 12 fun _ => ⟨.none, none, (.fields #[(.int (1) 0), (.int (0) 0), (.ref 20), (.int (5) 0), (.int (0) 0), (.ref 27), (.int (148) 0), (.int (0) 0), (.ref 207), (.int (155) 0), (.int (0) 0), (.ref 228), (.int (431) 0), (.int (0) 0), (.ref 718), (.int (433) 0), (.int (0) 0), (.ref 731), (.int (435) 0), (.int (0) 0), (.ref 744), (.int (438) 0), (.int (0) 0), (.ref 757), (.int (449) 0), (.int (0) 0), (.ref 789), (.int (454) 0), (.int (0) 0), (.ref 796), (.int (460) 0), (.int (0) 0), (.ref 803)]), #[]⟩).ins 798 (o798 P)).ins 799 (o799 P)).ins 800 (o800 P)).ins 801 (o801 P)).ins 802 (o802 P)).ins 803 (o803 P)).ins 804 (o804 P))
noncomputable def t25 (P : Params) : BT := ((((((((t24 P).set 3 fun _ => ⟨(.type "dict"), none, (.dict #[ke P "__name__" 165 (ks "law_iu0026_01" 2473), ke P "__doc__" 166 .none, ke P "__package__" 167 .none, ke P "__loader__" 168 (.builtin "__main__.__loader__#opaque"), ke P "__spec__" 169 .none, ke P "__annotations__" 170 (.ref 6), ke P "__builtins__" 171 (.ref 4), ke P "__file__" 173 (ks "/claim/cut.py" 172), ke P "__cached__" 174 .none, ke P "_wall" 193 (.ref 21), ke P "BaseStemmer" 423 (.ref 197), ke P "Among" 458 (.ref 218), ke P "RussianStemmer" 2412 (.ref 710), ke P "lab0" 2432 (.ref 722), ke P "lab1" 2452 (.ref 735), ke P "lab2" 2472 (.ref 748), ke P "_law_vowels" 2480 (.ref 758), ke P "_law_signs" 2518 (.ref 759), ke P "_law_gerund" 2528 (.ref 762), ke P "_law_reflexive" 2531 (.ref 765), ke P "_law_adjective" 2558 (.ref 768), ke P "_law_participle" 2567 (.ref 771), ke P "_law_verb" 2614 (.ref 774), ke P "_law_noun" 2651 (.ref 777), ke P "_law_derived" 2654 (.ref 780), ke P "_law_highest" 2657 (.ref 783), ke P "_law_end" 2666 (.ref 790), ke P "_law_shorn" 2676 (.ref 797), ke P "_law_first" 2686 (.ref 804), ke P "_law_stem" 2692 (.ref 809)] 30), #[]⟩).set 12 fun _ => ⟨.none, none, (.fields #[(.int (1) 0), (.int (0) 0), (.ref 20), (.int (5) 0), (.int (0) 0), (.ref 27), (.int (148) 0), (.int (0) 0), (.ref 207), (.int (155) 0), (.int (0) 0), (.ref 228), (.int (431) 0), (.int (0) 0), (.ref 718), (.int (433) 0), (.int (0) 0), (.ref 731), (.int (435) 0), (.int (0) 0), (.ref 744), (.int (438) 0), (.int (0) 0), (.ref 757), (.int (449) 0), (.int (0) 0), (.ref 789), (.int (454) 0), (.int (0) 0), (.ref 796), (.int (460) 0), (.int (0) 0), (.ref 803), (.int (476) 0), (.int (0) 0), (.ref 808)]), #[]⟩).ins 805 (o805 P)).ins 806 (o806 P)).ins 807 (o807 P)).ins 808 (o808 P)).ins 809 (o809 P))
noncomputable def t26 (P : Params) : BT := ((((((((t25 P).set 3 fun _ => (o3 P)).set 12 fun _ => (o12 P)).ins 810 (o810 P)).ins 811 (o811 P)).ins 812 (o812 P)).ins 813 (o813 P)).ins 814 (o814 P))
end Mine

end

-- HeadG
section
namespace Mine
noncomputable def gT : List PySem.Expr := match cS 6 0 with | .Assign ts _ _ => ts | _ => []
noncomputable def gP : Pos := match cS 6 0 with | .Assign _ _ p => p | _ => default
noncomputable def gV : PySem.Expr := match cS 6 0 with | .Assign _ v _ => v | _ => .Name ⟨#[]⟩ default
noncomputable def gE : List PySem.Expr := match gV with | .Set es _ _ => es | _ => []
noncomputable def gS : Pos := match gV with | .Set _ _ p => p | _ => default
theorem g_asg : cS 6 0 = .Assign gT (.Set gE 0 gS) gP := by kernel_rfl
noncomputable def TS (P : Params) (o : Obj) : BT := (tA P).ins 230 o
theorem holds_TS (P : Params) : Holds1 (TS P) 230 := ⟨fun o => by kernel_rfl, fun o f => by kernel_rfl⟩
section
variable (w : World) (os : OsState) (h : Option Value) (g : Bool) (l kp : List Value) (k : Result → Sem Fin)
noncomputable abbrev frA (h : Option Value) (g : Bool) (l kp : List Value) (k : Result → Sem Fin) : Frame := .ret k h g l cE posA kp
theorem g_hash0 (b : Bool) (o : Obj) (tk tok : Nat) (x : Str) (w' : World) (hw : w' = w.withFollow "special-get-raises" b) :
    Run w' 7 cC (frA h g l kp k :: B0) (pyHash (.str x tok)) (sh w'.params (TS w'.params o) 231 tk os) (PyData.keyHash w'.params x) (sh w'.params (TS w'.params o) 231 (tk + 1) os) := by
  subst hw
  cases b
  · exact Run.mkp fun K H gd lv pos => go_of (by kernel_rfl)
  · exact Run.mkp fun K H gd lv pos => go_of (by kernel_rfl)
theorem g_hash (o : Obj) (tk tok : Nat) (x : Str) :
    Run w 7 cC (frA h g l kp k :: B0) (pyHash (.str x tok)) (sh w.params (TS w.params o) 231 tk os) (PyData.keyHash w.params x) (sh w.params (TS w.params o) 231 (tk + 1) os) :=
  g_hash0 w os h g l kp k (w.params.followText "special-get-raises") o tk tok x w (World.withFollow_self w _).symm
theorem g_main : Run w 2 cC (frA h g l kp k :: B0) (inMainModule cenv) (sh w.params (tA w.params) 230 473 os) true (sh w.params (tA w.params) 230 473 os) :=
  Run.mkp fun K H gd lv pos => go_of (by kernel_rfl)
theorem g_new : Run w 2 cC (frA h g l kp k :: B0) (newSet (.type "set")) (sh w.params (tA w.params) 230 473 os) (.ref 230) (sh w.params (TS w.params (setO (setSt0 w.params))) 231 473 os) :=
  Run.mkp fun K H gd lv pos => go_of (by kernel_rfl)
theorem g_all (o : Obj) : Run w 18 cC (frA h g l kp k :: B0) (evalAll ((((starEach gE cenv).map fun x => (x.1, do let v ← x.2; standAt gS; pure v)).take 9).map (·.2))) (sh w.params (TS w.params o) 231 473 os) (letters.map fun x => .str x.1 x.2) (sh w.params (TS w.params o) 231 482 os) :=
  Run.mk gS fun K H gd lv pos => go_of (by kernel_rfl)
theorem g_end : Run w 8 cC (frA h g l kp k :: B0) (assignStores cenv (.ref 230) none ((assignEach gT cenv).map (·.2))) (sh w.params (TS w.params (setObj w.params)) 231 491 os) .next (sh w.params (c1 w.params) 231 492 os) :=
  Run.mk ⟨156, 4, 156, 7⟩ fun K H gd lv pos => go_of (by kernel_rfl)

theorem g_standAt {s : SharedT} {p : Pos} : Run w 1 cC (frA h g l kp k :: B0) (standAt p) s () s := Run.mk p fun K H gd lv pos => rfl
theorem exec_asg (ts : List PySem.Expr) (v : PySem.Expr) (p : Pos) (env : Env) : exec (.Assign ts v p) env = (do
    standAt p
    if ← swapsWithSole ts v p.line env then do
      evalThenUse v env fun x => assignAll x ((assignEach ts env).map (·.2))
      pure .next
    else do
      let x ← eval v env
      assignStores env x (← swappedStores ts v env) ((assignEach ts env).map (·.2))) := rfl
/-- one letter more -/
theorem g_add {st : SetSt} {pre : List Str} (I : Inv w st pre) {x : Str} {tok tk : Nat} (hx : x ∉ pre) (hb : st.1.size < 90) :
    Run w 27 cC (frA h g l kp k :: B0) (setAdd 230 (.str x tok)) (sh w.params (TS w.params (setO st)) 231 tk os) true (sh w.params (TS w.params (setO (add1 (PyData.keyHash w.params x) (.str x tok) st))) 231 (tk + 1) os) := by
  unfold setAdd
  exact Run.holding (Run.bind (n := 7) (m := 20) (g_hash w os h g l kp k (setO st) tk tok x) (run_addHashed (holds_TS w.params) rfl rfl I hx hb))
theorem g_for {f : Value → PUnit → Sem (ForInStep PUnit)} (hf : f = fun x r => do let _ ← setAdd 230 x; pure (.yield PUnit.unit)) : ∀ (ls : List (Str × Nat)) (pre : List Str) (st : SetSt) (tk : Nat), Inv w st pre → pre.length + ls.length < 80 → (pre ++ ls.map (·.1)).Nodup →
    Run w (30 * ls.length) cC (frA h g l kp k :: B0) (forIn (ls.map fun x => Value.str x.1 x.2) PUnit.unit f) (sh w.params (TS w.params (setO st)) 231 tk os) PUnit.unit (sh w.params (TS w.params (setO (addAll w.params ls st))) 231 (tk + ls.length) os)
  | [], pre, st, tk, I, hl, hn => by
    rw [List.map_nil, List.forIn_nil]
    exact Run.pure
  | x :: ls, pre, st, tk, I, hl, hn => by
    have hx : x.1 ∉ pre := by
      intro hx
      rw [List.nodup_append] at hn
      exact hn.2.2 x.1 hx x.1 (by simp) rfl
    rw [List.length_cons] at hl
    have I' := I.add (k := x.1) (tok := x.2) (by rw [I.size]; omega)
    rw [hash_is] at I'
    have ih := g_for hf ls (pre ++ [x.1]) (add1 (PyData.keyHash w.params x.1) (.str x.1 x.2) st) (tk + 1) I' (by rw [List.length_append, List.length_singleton]; omega) (by simpa using hn)
    rw [List.map_cons, List.forIn_cons, List.length_cons]
    have h1 : Run w 27 cC (frA h g l kp k :: B0) (f (.str x.1 x.2) PUnit.unit) (sh w.params (TS w.params (setO st)) 231 tk os) (.yield PUnit.unit) (sh w.params (TS w.params (setO (add1 (PyData.keyHash w.params x.1) (.str x.1 x.2) st))) 231 (tk + 1) os) := by
      rw [hf]
      exact Run.bind (n := 27) (m := 0) (g_add w os h g l kp k I hx (by rw [I.size]; omega)) Run.pure
    rw [show tk + 1 + ls.length = tk + (ls.length + 1) by omega] at ih
    refine Run.mono (n := 27 + 30 * ls.length) ?_ (by omega)
    refine Run.bind h1 ?_
    exact ih
theorem g_unled (st : SetSt) (hf : st.2.2.fits st.1.size = true) (hs : st.1.size < 4096) : Run w 3 cC (frA h g l kp k :: B0) (setUnled 230) (sh w.params (TS w.params (setO st)) 231 491 os) () (sh w.params (TS w.params (setO (st.1, st.2.1 + 1, { st.2.2 with led := false }))) 231 491 os) := by
  unfold setUnled
  refine Run.bind (n := 1) (m := 2) (run_setState (holds_TS w.params) rfl (st := st) hf) ?_
  exact run_storeSet (holds_TS w.params) rfl rfl (st := st) hs
theorem g_set : Run w 350 cC (frA h g l kp k :: B0) (eval (.Set gE 0 gS) cenv) (sh w.params (tA w.params) 230 473 os) (.ref 230) (sh w.params (TS w.params (setObj w.params)) 231 491 os) := by
  have I1 := inv1 w
  have hroad : displayRoad 0 gE = .unsure := by decide +kernel
  have hfind : ((starEach gE cenv).map fun x => (x.1, do let v ← x.2; standAt gS; pure v)).findIdx? (·.1) = none := by kernel_rfl
  have hlen : ((starEach gE cenv).map fun x => (x.1, (do let v ← x.2; standAt gS; pure v : Sem Value))).length = 9 := by kernel_rfl
  have hdrop : ((starEach gE cenv).map fun x => (x.1, (do let v ← x.2; standAt gS; pure v : Sem Value))).drop 9 = [] := List.drop_eq_nil_of_le (by rw [hlen]; exact Nat.le_refl _)
  rw [arm_eval_Set, hroad]
  refine Run.mono (n := 1 + (2 + (2 + (18 + 300)))) ?_ (by decide)
  refine Run.bind (g_standAt w h g l kp k) ?_
  refine Run.bind (g_main w os h g l kp k) ?_
  unfold setDisplay
  simp only [show (DisplayRoad.unsure == DisplayRoad.constants) = false from rfl, Bool.false_eq_true, if_false]
  refine Run.bind (g_new w os h g l kp k) ?_
  dsimp only
  rw [hlen, hfind]
  simp only [show ¬ (9 > 30) by decide, if_false, Option.getD_none]
  rw [hdrop]
  refine Run.bind (n := 318) (m := 0) (a := ()) (Run.holding ?_) Run.pure
  refine Run.bind (n := 18) (m := 300) (g_all w os h g l kp k _) ?_
  refine Run.bind (n := 300) (m := 0) (a := ()) (s' := sh w.params (TS w.params (setObj w.params)) 231 491 os) (Run.holding ?_) ?_
  · refine Run.mono (n := 270 + (1 + 3)) ?_ (by decide)
    refine Run.bind (g_for w os h g l kp k rfl letters [] (setSt0 w.params) 482 (inv0 w) (by decide) (by decide +kernel)) ?_
    simp only [show (DisplayRoad.unsure == DisplayRoad.unsure) = true from rfl, if_true]
    refine Run.bind Run.rule ?_
    unfold setObj
    rw [finO_eq]
    exact g_unled w os h g l kp k (setSt1 w.params) I1.fits (by have := I1.small; omega)
  · rw [List.forIn_nil]
    exact Run.bind (n := 0) (m := 0) Run.pure Run.pure
theorem cseg0 : Run w 360 cC (frA h g l kp k :: B0) (exec (cS 6 0) cenv) (sh w.params (tA w.params) 230 473 os) .next (sh w.params (c1 w.params) 231 492 os) := by
  rw [g_asg, exec_asg]
  refine Run.mono (n := 1 + (0 + (350 + (0 + 8)))) ?_ (by decide)
  refine Run.bind (g_standAt w h g l kp k) ?_
  refine Run.bind (a := false) (s' := sh w.params (tA w.params) 230 473 os) (Run.mkp fun K H gd lv pos => go_of (by kernel_rfl)) ?_
  simp only [Bool.false_eq_true, if_false]
  refine Run.bind (g_set w os h g l kp k) ?_
  refine Run.bind (a := none) (s' := sh w.params (TS w.params (setObj w.params)) 231 491 os) (Run.mkp fun K H gd lv pos => go_of (by kernel_rfl)) ?_
  exact g_end w os h g l kp k
end
end Mine

end

-- HeadS
section
namespace Mine
theorem seg0 (w : World) (os : OsState) : Run w 29 cE B0 (exec (tS 0) env0) (sh w.params (t0 w.params) 15 187 os) .next (sh w.params (t1 w.params) 22 194 os) := Run.mk ⟨1, 0, 3, 12⟩ fun K H gd lv pos => go_of (by kernel_rfl)
theorem seg1 (w : World) (os : OsState) : Run w 9 cE B0 (exec (tS 1) env0) (sh w.params (t1 w.params) 22 194 os) .next (sh w.params (t2 w.params) 22 196 os) := Run.mk ⟨4, 0, 4, 8⟩ fun K H gd lv pos => go_of (by kernel_rfl)
theorem seg2 (w : World) (os : OsState) : Run w 971 cE B0 (exec (tS 2) env0) (sh w.params (t2 w.params) 22 196 os) .next (sh w.params (t3 w.params) 202 424 os) := Run.mk ⟨5, 0, 146, 54⟩ fun K H gd lv pos => go_of (by kernel_rfl)
theorem seg3 (w : World) (os : OsState) : Run w 9 cE B0 (exec (tS 3) env0) (sh w.params (t3 w.params) 202 424 os) .next (sh w.params (t4 w.params) 202 426 os) := Run.mk ⟨147, 0, 147, 8⟩ fun K H gd lv pos => go_of (by kernel_rfl)
theorem seg4 (w : World) (os : OsState) : Run w 226 cE B0 (exec (tS 4) env0) (sh w.params (t4 w.params) 202 426 os) .next (sh w.params (t5 w.params) 223 459 os) := Run.mk ⟨148, 0, 153, 28⟩ fun K H gd lv pos => go_of (by kernel_rfl)
theorem seg5 (w : World) (os : OsState) : Run w 9 cE B0 (exec (tS 5) env0) (sh w.params (t5 w.params) 223 459 os) .next (sh w.params (t6 w.params) 223 461 os) := Run.mk ⟨154, 0, 154, 8⟩ fun K H gd lv pos => go_of (by kernel_rfl)
-- prefix 64 steps, pos ⟨155, 0, 430, 100⟩, state tA 230 473
-- class 0: 137 steps, 230 473 to 231 492, pos ⟨156, 4, 156, 7⟩
theorem cseg1 (w : World) (os : OsState) (h : Option Value) (g : Bool) (l kp : List Value) (k : Result → Sem Fin) : Run w 10 cC (.ret k h g l cE posA kp :: B0) (exec (cS 6 1) cenv) (sh w.params (c1 w.params) 231 492 os) .next (sh w.params (c2 w.params) 231 494 os) := Run.mk ⟨157, 4, 157, 8⟩ fun K H gd lv pos => go_of (by kernel_rfl)
theorem cseg2 (w : World) (os : OsState) (h : Option Value) (g : Bool) (l kp : List Value) (k : Result → Sem Fin) : Run w 10 cC (.ret k h g l cE posA kp :: B0) (exec (cS 6 2) cenv) (sh w.params (c2 w.params) 231 494 os) .next (sh w.params (c3 w.params) 231 496 os) := Run.mk ⟨158, 4, 158, 8⟩ fun K H gd lv pos => go_of (by kernel_rfl)
theorem cseg3 (w : World) (os : OsState) (h : Option Value) (g : Bool) (l kp : List Value) (k : Result → Sem Fin) : Run w 31 cC (.ret k h g l cE posA kp :: B0) (exec (cS 6 3) cenv) (sh w.params (c3 w.params) 231 496 os) .next (sh w.params (c4 w.params) 238 504 os) := Run.mk ⟨160, 4, 182, 19⟩ fun K H gd lv pos => go_of (by kernel_rfl)
theorem cseg4 (w : World) (os : OsState) (h : Option Value) (g : Bool) (l kp : List Value) (k : Result → Sem Fin) : Run w 31 cC (.ret k h g l cE posA kp :: B0) (exec (cS 6 4) cenv) (sh w.params (c4 w.params) 238 504 os) .next (sh w.params (c5 w.params) 245 512 os) := Run.mk ⟨184, 4, 206, 19⟩ fun K H gd lv pos => go_of (by kernel_rfl)
theorem cseg5 (w : World) (os : OsState) (h : Option Value) (g : Bool) (l kp : List Value) (k : Result → Sem Fin) : Run w 30 cC (.ret k h g l cE posA kp :: B0) (exec (cS 6 5) cenv) (sh w.params (c5 w.params) 245 512 os) .next (sh w.params (c6 w.params) 252 519 os) := Run.mk ⟨208, 4, 214, 19⟩ fun K H gd lv pos => go_of (by kernel_rfl)
theorem cseg6 (w : World) (os : OsState) (h : Option Value) (g : Bool) (l kp : List Value) (k : Result → Sem Fin) : Run w 32 cC (.ret k h g l cE posA kp :: B0) (exec (cS 6 6) cenv) (sh w.params (c6 w.params) 252 519 os) .next (sh w.params (c7 w.params) 259 528 os) := Run.mk ⟨216, 4, 246, 19⟩ fun K H gd lv pos => go_of (by kernel_rfl)
theorem cseg7 (w : World) (os : OsState) (h : Option Value) (g : Bool) (l kp : List Value) (k : Result → Sem Fin) : Run w 30 cC (.ret k h g l cE posA kp :: B0) (exec (cS 6 7) cenv) (sh w.params (c7 w.params) 259 528 os) .next (sh w.params (c8 w.params) 266 535 os) := Run.mk ⟨248, 4, 254, 19⟩ fun K H gd lv pos => go_of (by kernel_rfl)
theorem cseg8 (w : World) (os : OsState) (h : Option Value) (g : Bool) (l kp : List Value) (k : Result → Sem Fin) : Run w 31 cC (.ret k h g l cE posA kp :: B0) (exec (cS 6 8) cenv) (sh w.params (c8 w.params) 266 535 os) .next (sh w.params (c9 w.params) 273 543 os) := Run.mk ⟨256, 4, 278, 19⟩ fun K H gd lv pos => go_of (by kernel_rfl)
theorem cseg9 (w : World) (os : OsState) (h : Option Value) (g : Bool) (l kp : List Value) (k : Result → Sem Fin) : Run w 30 cC (.ret k h g l cE posA kp :: B0) (exec (cS 6 9) cenv) (sh w.params (c9 w.params) 273 543 os) .next (sh w.params (c10 w.params) 280 550 os) := Run.mk ⟨280, 4, 286, 19⟩ fun K H gd lv pos => go_of (by kernel_rfl)
theorem cseg10 (w : World) (os : OsState) (h : Option Value) (g : Bool) (l kp : List Value) (k : Result → Sem Fin) : Run w 30 cC (.ret k h g l cE posA kp :: B0) (exec (cS 6 10) cenv) (sh w.params (c10 w.params) 280 550 os) .next (sh w.params (c11 w.params) 287 557 os) := Run.mk ⟨288, 4, 296, 19⟩ fun K H gd lv pos => go_of (by kernel_rfl)
theorem cseg11 (w : World) (os : OsState) (h : Option Value) (g : Bool) (l kp : List Value) (k : Result → Sem Fin) : Run w 31 cC (.ret k h g l cE posA kp :: B0) (exec (cS 6 11) cenv) (sh w.params (c11 w.params) 287 557 os) .next (sh w.params (c12 w.params) 294 565 os) := Run.mk ⟨298, 4, 322, 19⟩ fun K H gd lv pos => go_of (by kernel_rfl)
theorem cseg12 (w : World) (os : OsState) (h : Option Value) (g : Bool) (l kp : List Value) (k : Result → Sem Fin) : Run w 41 cC (.ret k h g l cE posA kp :: B0) (exec (cS 6 12) cenv) (sh w.params (c12 w.params) 294 565 os) .next (sh w.params (c13 w.params) 301 583 os) := Run.mk ⟨324, 4, 422, 19⟩ fun K H gd lv pos => go_of (by kernel_rfl)
theorem cseg13 (w : World) (os : OsState) (h : Option Value) (g : Bool) (l kp : List Value) (k : Result → Sem Fin) : Run w 1511 cC (.ret k h g l cE posA kp :: B0) (exec (cS 6 13) cenv) (sh w.params (c13 w.params) 301 583 os) .next (sh w.params (c14 w.params) 329 704 os) := Run.mk ⟨423, 4, 423, 7⟩ fun K H gd lv pos => go_of (by kernel_rfl)
theorem cseg14 (w : World) (os : OsState) (h : Option Value) (g : Bool) (l kp : List Value) (k : Result → Sem Fin) : Run w 4431 cC (.ret k h g l cE posA kp :: B0) (exec (cS 6 14) cenv) (sh w.params (c14 w.params) 329 704 os) .next (sh w.params (c15 w.params) 408 1069 os) := Run.mk ⟨424, 4, 424, 7⟩ fun K H gd lv pos => go_of (by kernel_rfl)
theorem cseg15 (w : World) (os : OsState) (h : Option Value) (g : Bool) (l kp : List Value) (k : Result → Sem Fin) : Run w 1351 cC (.ret k h g l cE posA kp :: B0) (exec (cS 6 15) cenv) (sh w.params (c15 w.params) 408 1069 os) .next (sh w.params (c16 w.params) 433 1178 os) := Run.mk ⟨425, 4, 425, 7⟩ fun K H gd lv pos => go_of (by kernel_rfl)
theorem cseg16 (w : World) (os : OsState) (h : Option Value) (g : Bool) (l kp : List Value) (k : Result → Sem Fin) : Run w 351 cC (.ret k h g l cE posA kp :: B0) (exec (cS 6 16) cenv) (sh w.params (c16 w.params) 433 1178 os) .next (sh w.params (c17 w.params) 440 1207 os) := Run.mk ⟨426, 4, 426, 7⟩ fun K H gd lv pos => go_of (by kernel_rfl)
theorem cseg17 (w : World) (os : OsState) (h : Option Value) (g : Bool) (l kp : List Value) (k : Result → Sem Fin) : Run w 7721 cC (.ret k h g l cE posA kp :: B0) (exec (cS 6 17) cenv) (sh w.params (c17 w.params) 440 1207 os) .next (sh w.params (c18 w.params) 579 1830 os) := Run.mk ⟨427, 4, 427, 7⟩ fun K H gd lv pos => go_of (by kernel_rfl)
theorem cseg18 (w : World) (os : OsState) (h : Option Value) (g : Bool) (l kp : List Value) (k : Result → Sem Fin) : Run w 6041 cC (.ret k h g l cE posA kp :: B0) (exec (cS 6 18) cenv) (sh w.params (c18 w.params) 579 1830 os) .next (sh w.params (c19 w.params) 688 2317 os) := Run.mk ⟨428, 4, 428, 7⟩ fun K H gd lv pos => go_of (by kernel_rfl)
theorem cseg19 (w : World) (os : OsState) (h : Option Value) (g : Bool) (l kp : List Value) (k : Result → Sem Fin) : Run w 351 cC (.ret k h g l cE posA kp :: B0) (exec (cS 6 19) cenv) (sh w.params (c19 w.params) 688 2317 os) .next (sh w.params (c20 w.params) 695 2346 os) := Run.mk ⟨429, 4, 429, 7⟩ fun K H gd lv pos => go_of (by kernel_rfl)
theorem cseg20 (w : World) (os : OsState) (h : Option Value) (g : Bool) (l kp : List Value) (k : Result → Sem Fin) : Run w 691 cC (.ret k h g l cE posA kp :: B0) (exec (cS 6 20) cenv) (sh w.params (c20 w.params) 695 2346 os) .next (sh w.params (c21 w.params) 708 2403 os) := Run.mk ⟨430, 4, 430, 7⟩ fun K H gd lv pos => go_of (by kernel_rfl)
-- behind the body: 708 2403; the whole 23159; end 713 2413 pos ⟨155, 0, 430, 100⟩
theorem seg7 (w : World) (os : OsState) : Run w 196 cE B0 (exec (tS 7) env0) (sh w.params (t7 w.params) 713 2413 os) .next (sh w.params (t8 w.params) 726 2433 os) := Run.mk ⟨431, 0, 432, 8⟩ fun K H gd lv pos => go_of (by kernel_rfl)
theorem seg8 (w : World) (os : OsState) : Run w 196 cE B0 (exec (tS 8) env0) (sh w.params (t8 w.params) 726 2433 os) .next (sh w.params (t9 w.params) 739 2453 os) := Run.mk ⟨433, 0, 434, 8⟩ fun K H gd lv pos => go_of (by kernel_rfl)
theorem seg9 (w : World) (os : OsState) : Run w 196 cE B0 (exec (tS 9) env0) (sh w.params (t9 w.params) 739 2453 os) .next (sh w.params (t10 w.params) 752 2473 os) := Run.mk ⟨435, 0, 436, 8⟩ fun K H gd lv pos => go_of (by kernel_rfl)
theorem seg10 (w : World) (os : OsState) : Run w 9 cE B0 (exec (tS 10) env0) (sh w.params (t10 w.params) 752 2473 os) .next (sh w.params (t11 w.params) 752 2475 os) := Run.mk ⟨437, 0, 437, 8⟩ fun K H gd lv pos => go_of (by kernel_rfl)
theorem seg11 (w : World) (os : OsState) : Run w 28 cE B0 (exec (tS 11) env0) (sh w.params (t11 w.params) 752 2475 os) .next (sh w.params (t12 w.params) 759 2481 os) := Run.mk ⟨438, 0, 439, 65⟩ fun K H gd lv pos => go_of (by kernel_rfl)
theorem seg12 (w : World) (os : OsState) : Run w 47 cE B0 (exec (tS 12) env0) (sh w.params (t12 w.params) 759 2481 os) .next (sh w.params (t13 w.params) 760 2519 os) := Run.mk ⟨440, 0, 440, 10⟩ fun K H gd lv pos => go_of (by kernel_rfl)
theorem seg13 (w : World) (os : OsState) : Run w 23 cE B0 (exec (tS 13) env0) (sh w.params (t13 w.params) 760 2519 os) .next (sh w.params (t14 w.params) 763 2529 os) := Run.mk ⟨441, 0, 441, 11⟩ fun K H gd lv pos => go_of (by kernel_rfl)
theorem seg14 (w : World) (os : OsState) : Run w 16 cE B0 (exec (tS 14) env0) (sh w.params (t14 w.params) 763 2529 os) .next (sh w.params (t15 w.params) 766 2532 os) := Run.mk ⟨442, 0, 442, 14⟩ fun K H gd lv pos => go_of (by kernel_rfl)
theorem seg15 (w : World) (os : OsState) : Run w 40 cE B0 (exec (tS 15) env0) (sh w.params (t15 w.params) 766 2532 os) .next (sh w.params (t16 w.params) 769 2559 os) := Run.mk ⟨443, 0, 443, 14⟩ fun K H gd lv pos => go_of (by kernel_rfl)
theorem seg16 (w : World) (os : OsState) : Run w 22 cE B0 (exec (tS 16) env0) (sh w.params (t16 w.params) 769 2559 os) .next (sh w.params (t17 w.params) 772 2568 os) := Run.mk ⟨444, 0, 444, 15⟩ fun K H gd lv pos => go_of (by kernel_rfl)
theorem seg17 (w : World) (os : OsState) : Run w 60 cE B0 (exec (tS 17) env0) (sh w.params (t17 w.params) 772 2568 os) .next (sh w.params (t18 w.params) 775 2615 os) := Run.mk ⟨445, 0, 445, 9⟩ fun K H gd lv pos => go_of (by kernel_rfl)
theorem seg18 (w : World) (os : OsState) : Run w 50 cE B0 (exec (tS 18) env0) (sh w.params (t18 w.params) 775 2615 os) .next (sh w.params (t19 w.params) 778 2652 os) := Run.mk ⟨446, 0, 446, 9⟩ fun K H gd lv pos => go_of (by kernel_rfl)
theorem seg19 (w : World) (os : OsState) : Run w 16 cE B0 (exec (tS 19) env0) (sh w.params (t19 w.params) 778 2652 os) .next (sh w.params (t20 w.params) 781 2655 os) := Run.mk ⟨447, 0, 447, 12⟩ fun K H gd lv pos => go_of (by kernel_rfl)
theorem seg20 (w : World) (os : OsState) : Run w 16 cE B0 (exec (tS 20) env0) (sh w.params (t20 w.params) 781 2655 os) .next (sh w.params (t21 w.params) 784 2658 os) := Run.mk ⟨448, 0, 448, 12⟩ fun K H gd lv pos => go_of (by kernel_rfl)
theorem seg21 (w : World) (os : OsState) : Run w 31 cE B0 (exec (tS 21) env0) (sh w.params (t21 w.params) 784 2658 os) .next (sh w.params (t22 w.params) 791 2667 os) := Run.mk ⟨449, 0, 453, 13⟩ fun K H gd lv pos => go_of (by kernel_rfl)
theorem seg22 (w : World) (os : OsState) : Run w 32 cE B0 (exec (tS 22) env0) (sh w.params (t22 w.params) 791 2667 os) .next (sh w.params (t23 w.params) 798 2677 os) := Run.mk ⟨454, 0, 459, 15⟩ fun K H gd lv pos => go_of (by kernel_rfl)
theorem seg23 (w : World) (os : OsState) : Run w 32 cE B0 (exec (tS 23) env0) (sh w.params (t23 w.params) 798 2677 os) .next (sh w.params (t24 w.params) 805 2687 os) := Run.mk ⟨460, 0, 475, 15⟩ fun K H gd lv pos => go_of (by kernel_rfl)
theorem seg24 (w : World) (os : OsState) : Run w 26 cE B0 (exec (tS 24) env0) (sh w.params (t24 w.params) 805 2687 os) .next (sh w.params (t25 w.params) 810 2693 os) := Run.mk ⟨476, 0, 493, 29⟩ fun K H gd lv pos => go_of (by kernel_rfl)
theorem seg25 (w : World) (os : OsState) : Run w 26 cE B0 (exec (tS 25) env0) (sh w.params (t25 w.params) 810 2693 os) .next (sh w.params (t26 w.params) 815 2699 os) := Run.mk ⟨494, 0, 509, 54⟩ fun K H gd lv pos => go_of (by kernel_rfl)
end Mine

end

-- HeadZ
section
namespace Mine
noncomputable abbrev twDen : Code → Sem PySem.Fin := PySem.W.Fast.tw11892475500146522536 PySem.W.Fast.tw14364793385576792824
theorem twDen_eq : denote treeTable = twDen := by
  have e : ∀ tb : String → Option Builtin, denote tb = PySem.W.Fast.tw11892475500146522536 tb := fun tb => by rw [PySem.W.Fast.te11892475500146522536]
  rw [e, PySem.W.Fast.te14364793385576792824]
section
variable (w : World) (os : OsState)
noncomputable def thA (K : Flow → Sem PySem.Fin) (H : Value → Sem PySem.Fin) (gd : Bool → Bool) (lv : List Value → List Value) (pos5 : Pos) : Thread :=
  match PySem.W.Fast.tw10295753902157049106 PySem.W.Fast.tw14364793385576792824 pw w 11 ann0 0 64 (sh w.params (t6 w.params) 223 461 os) ⟨(exec (tS 6) env0).wrap K H gd lv, cE, pos5, B0⟩ with
  | some x => x.2
  | none => ⟨.pure (.done .next), cE, pos5, []⟩
noncomputable def kOf : List Frame → Result → Sem PySem.Fin
  | .ret k _ _ _ _ _ _ :: _ => k
  | _ => fun _ => .pure (.done .next)
noncomputable def gOf : List Frame → Bool
  | .ret _ _ g _ _ _ _ :: _ => g
  | _ => false
noncomputable def lOf : List Frame → List Value
  | .ret _ _ _ l _ _ _ :: _ => l
  | _ => []
noncomputable def kpOf : List Frame → List Value
  | .ret _ _ _ _ _ _ kp :: _ => kp
  | _ => []
theorem cpre (K : Flow → Sem PySem.Fin) (H : Value → Sem PySem.Fin) (gd : Bool → Bool) (lv : List Value → List Value) (pos5 : Pos) :
    Go w 64 (sh w.params (t6 w.params) 223 461 os) ⟨(exec (tS 6) env0).wrap K H gd lv, cE, pos5, B0⟩ (sh w.params (tA w.params) 230 473 os)
      ⟨denote treeTable cC, cC, posA, .ret (kOf (thA w os K H gd lv pos5).stack) none (gOf (thA w os K H gd lv pos5).stack) (lOf (thA w os K H gd lv pos5).stack) cE posA (kpOf (thA w os K H gd lv pos5).stack) :: B0⟩ := by
  rw [twDen_eq]
  exact go_of (by kernel_rfl)
theorem csuf (K : Flow → Sem PySem.Fin) (H : Value → Sem PySem.Fin) (gd : Bool → Bool) (lv : List Value → List Value) (pos5 : Pos) :
    Go w 172 (sh w.params (c21 w.params) 708 2403 os) ⟨kOf (thA w os K H gd lv pos5).stack (.ok .next), cE, posA, B0⟩ (sh w.params (t7 w.params) 713 2413 os) ⟨K .next, cE, ⟨155, 0, 430, 100⟩, B0⟩ := go_of (by kernel_rfl)
end
theorem execs_cons_run {w : World} {n m : Nat} {c : Code} {B : List Frame} {st : Stmt} {rest : List Stmt} {env : Env} {s s' s'' : SharedT} (h : Run w n c B (exec st env) s .next s') (k : Run w m c B (execs rest env) s' .next s'') : Run w (n + m) c B (execs (st :: rest) env) s .next s'' := by
  show Run w (n + m) c B (exec st env >>= fun f => match f with | .next => execs rest env | f => pure f) s .next s''
  exact Run.bind h k
theorem execs_nil_run {w : World} {c : Code} {B : List Frame} {env : Env} {s : SharedT} : Run w 0 c B (execs [] env) s .next s := Run.pure
theorem cb_is : cB (tS 6) = [cS 6 0, cS 6 1, cS 6 2, cS 6 3, cS 6 4, cS 6 5, cS 6 6, cS 6 7, cS 6 8, cS 6 9, cS 6 10, cS 6 11, cS 6 12, cS 6 13, cS 6 14, cS 6 15, cS 6 16, cS 6 17, cS 6 18, cS 6 19, cS 6 20] := by kernel_rfl
theorem bE_is : bE = [tS 0, tS 1, tS 2, tS 3, tS 4, tS 5, tS 6, tS 7, tS 8, tS 9, tS 10, tS 11, tS 12, tS 13, tS 14, tS 15, tS 16, tS 17, tS 18, tS 19, tS 20, tS 21, tS 22, tS 23, tS 24, tS 25] := by kernel_rfl
theorem cbody (w : World) (os : OsState) (h : Option Value) (g : Bool) (l kp : List Value) (k : Result → Sem PySem.Fin) : Run w 23145 cC (.ret k h g l cE posA kp :: B0) (execs (cB (tS 6)) cenv) (sh w.params (tA w.params) 230 473 os) .next (sh w.params (c21 w.params) 708 2403 os) := by
  rw [cb_is]
  refine Run.mono (n := (360 + (10 + (10 + (31 + (31 + (30 + (32 + (30 + (31 + (30 + (30 + (31 + (41 + (1511 + (4431 + (1351 + (351 + (7721 + (6041 + (351 + (691 + 0)))))))))))))))))))))) ?_ (by decide)
  exact execs_cons_run (cseg0 w os h g l kp k) (execs_cons_run (cseg1 w os h g l kp k) (execs_cons_run (cseg2 w os h g l kp k) (execs_cons_run (cseg3 w os h g l kp k) (execs_cons_run (cseg4 w os h g l kp k) (execs_cons_run (cseg5 w os h g l kp k) (execs_cons_run (cseg6 w os h g l kp k) (execs_cons_run (cseg7 w os h g l kp k) (execs_cons_run (cseg8 w os h g l kp k) (execs_cons_run (cseg9 w os h g l kp k) (execs_cons_run (cseg10 w os h g l kp k) (execs_cons_run (cseg11 w os h g l kp k) (execs_cons_run (cseg12 w os h g l kp k) (execs_cons_run (cseg13 w os h g l kp k) (execs_cons_run (cseg14 w os h g l kp k) (execs_cons_run (cseg15 w os h g l kp k) (execs_cons_run (cseg16 w os h g l kp k) (execs_cons_run (cseg17 w os h g l kp k) (execs_cons_run (cseg18 w os h g l kp k) (execs_cons_run (cseg19 w os h g l kp k) (execs_cons_run (cseg20 w os h g l kp k) (execs_nil_run)))))))))))))))))))))
/-- the frame that the class's statement leaves below its body -/
theorem seg6 (w : World) (os : OsState) : Run w 23382 cE B0 (exec (tS 6) env0) (sh w.params (t6 w.params) 223 461 os) .next (sh w.params (t7 w.params) 713 2413 os) := fun K H gd lv pos => by
  have hb := body_wrap (tb := treeTable) (env := cenv) (cB (tS 6))
  obtain ⟨m1, p1, l1, h1⟩ := (Run.mkp fun K H gd lv pos => rfl : Run w 0 cC (.ret (kOf (thA w os K H gd lv pos).stack) none (gOf (thA w os K H gd lv pos).stack) (lOf (thA w os K H gd lv pos).stack) cE posA (kpOf (thA w os K H gd lv pos).stack) :: B0) (blockStart (cB (tS 6)) cenv) (sh w.params (tA w.params) 230 473 os) () (sh w.params (tA w.params) 230 473 os))
    (fun _ => (execs (cB (tS 6)) cenv).wrap doneF (leaveH cenv) id id) .raise id id posA
  obtain ⟨m2, p2, l2, h2⟩ := cbody w os none (gOf (thA w os K H gd lv pos).stack) (lOf (thA w os K H gd lv pos).stack) (kpOf (thA w os K H gd lv pos).stack) (kOf (thA w os K H gd lv pos).stack) doneF (leaveH cenv) id id p1
  have h0 := cpre w os K H gd lv pos
  have e : denote treeTable cC = (blockStart (cB (tS 6)) cenv).wrap (fun _ => (execs (cB (tS 6)) cenv).wrap doneF (leaveH cenv) id id) .raise id id := hb
  rw [e] at h0
  have h3 : Go w 1 (sh w.params (c21 w.params) 708 2403 os) ⟨doneF .next, cC, p2, .ret (kOf (thA w os K H gd lv pos).stack) none (gOf (thA w os K H gd lv pos).stack) (lOf (thA w os K H gd lv pos).stack) cE posA (kpOf (thA w os K H gd lv pos).stack) :: B0⟩
      (sh w.params (c21 w.params) 708 2403 os) ⟨kOf (thA w os K H gd lv pos).stack (.ok .next), cE, posA, B0⟩ := rfl
  have h4 := csuf w os K H gd lv pos
  exact ⟨64 + (m1 + (m2 + (1 + 172))), _, by omega, go_add h0 (go_add h1 (go_add h2 (go_add h3 h4)))⟩
theorem top_body (w : World) (os : OsState) : Run w 25697 cE B0 (execs bE env0) (sh w.params (t0 w.params) 15 187 os) .next (sh w.params (t26 w.params) 815 2699 os) := by
  rw [bE_is]
  refine Run.mono (n := (29 + (9 + (971 + (9 + (226 + (9 + (23382 + (196 + (196 + (196 + (9 + (28 + (47 + (23 + (16 + (40 + (22 + (60 + (50 + (16 + (16 + (31 + (32 + (32 + (26 + (26 + 0))))))))))))))))))))))))))) ?_ (by decide)
  exact execs_cons_run (seg0 w os) (execs_cons_run (seg1 w os) (execs_cons_run (seg2 w os) (execs_cons_run (seg3 w os) (execs_cons_run (seg4 w os) (execs_cons_run (seg5 w os) (execs_cons_run (seg6 w os) (execs_cons_run (seg7 w os) (execs_cons_run (seg8 w os) (execs_cons_run (seg9 w os) (execs_cons_run (seg10 w os) (execs_cons_run (seg11 w os) (execs_cons_run (seg12 w os) (execs_cons_run (seg13 w os) (execs_cons_run (seg14 w os) (execs_cons_run (seg15 w os) (execs_cons_run (seg16 w os) (execs_cons_run (seg17 w os) (execs_cons_run (seg18 w os) (execs_cons_run (seg19 w os) (execs_cons_run (seg20 w os) (execs_cons_run (seg21 w os) (execs_cons_run (seg22 w os) (execs_cons_run (seg23 w os) (execs_cons_run (seg24 w os) (execs_cons_run (seg25 w os) (execs_nil_run))))))))))))))))))))))))))
theorem top_pre (w : World) (os : OsState) : Go w 12 (sh w.params (tz w.params) 11 181 os) (topStub pw) (sh w.params (t0 w.params) 15 187 os) ⟨denote treeTable cE, cE, ⟨0, 0, 0, 0⟩, B0⟩ := by
  rw [twDen_eq]
  exact go_of (by kernel_rfl)
theorem go_topRun {w : World} : ∀ {n : Nat} {s s' : SharedT} {t t' : Thread}, Go w n s t s' t' → through t' = true → topRun treeTable pw w 11 ann0 (n + 1) s.abs t = some s'.abs
  | 0, s, s', t, t', h, k => by
    have e : some (s, t) = some (s', t') := h
    cases e
    unfold topRun
    rw [k]
  | n + 1, s, s', t, t', h, k => by
    unfold Go segGoT at h
    unfold topRun
    cases he : endAt 0 t with
    | some f => rw [he] at h; cases h
    | none =>
      have ht : through t = false := by
        obtain ⟨cur, code, pos, stack⟩ := t
        cases stack with
        | cons f fs => rfl
        | nil =>
          cases cur with
          | pure f => cases f with
            | done f => simp [endAt] at he
            | again c => rfl
          | _ => rfl
      rw [he] at h
      rw [ht]
      cases hk : stepOk 11 ann0 t with
      | false => rw [hk] at h; cases h
      | true =>
        rw [hk] at h
        cases hs : stepT (denote treeTable) pw w s t with
        | none => rw [hs] at h; cases h
        | some r =>
          obtain ⟨s₂, t₂⟩ := r
          rw [hs] at h
          rw [stepT_spec hs]
          exact go_topRun h k
noncomputable def H1 (P : Params) : Heap := absHeap (t26 P) 815 (lf P)
theorem tz_is (P : Params) : absHeap (tz P) 11 (lf P) = boot_heap P := by kernel_rfl
theorem top_run (w : World) (os : OsState) : topRun treeTable pw w 11 ann0 25717 ⟨boot_heap w.params, Array.mk [], boot_drawn, boot_toks, os⟩ (topStub pw) = some ⟨H1 w.params, Array.mk [], boot_drawn, 2699, os⟩ := by
  have h0 := top_pre w os
  have e : denote treeTable cE = (blockStart bE env0).wrap (fun _ => (execs bE env0).wrap doneF (leaveH env0) id id) .raise id id := body_wrap (tb := treeTable) (env := env0) bE
  rw [e] at h0
  obtain ⟨m1, p1, l1, h1⟩ := (Run.mkp fun K H gd lv pos => go_of (by kernel_rfl) : Run w 0 cE B0 (blockStart bE env0) (sh w.params (t0 w.params) 15 187 os) () (sh w.params (t0 w.params) 15 187 os)) (fun _ => (execs bE env0).wrap doneF (leaveH env0) id id) .raise id id ⟨0, 0, 0, 0⟩
  obtain ⟨m2, p2, l2, h2⟩ := top_body w os doneF (leaveH env0) id id p1
  have h3 : Go w 1 (sh w.params (t26 w.params) 815 2699 os) ⟨doneF .next, cE, p2, B0⟩ (sh w.params (t26 w.params) 815 2699 os) ⟨topAfter (.ok .next), .builtin "claim.caller" {}, ⟨0, 0, 0, 0⟩, []⟩ := by kernel_rfl
  have ht : through ⟨topAfter (.ok .next), .builtin "claim.caller" {}, ⟨0, 0, 0, 0⟩, []⟩ = true := by kernel_rfl
  have h := go_topRun (go_add h0 (go_add h1 (go_add h2 h3))) ht
  have e0 : (sh w.params (tz w.params) 11 181 os).abs = ⟨boot_heap w.params, Array.mk [], boot_drawn, boot_toks, os⟩ := by kernel_rfl
  have e1 : (sh w.params (t26 w.params) 815 2699 os).abs = ⟨H1 w.params, Array.mk [], boot_drawn, 2699, os⟩ := by kernel_rfl
  rw [e0, e1] at h
  have hm := topRun_mono (25717 - (12 + (m1 + (m2 + 1)) + 1)) _ _ _ _ h
  rw [show 12 + (m1 + (m2 + 1)) + 1 + (25717 - (12 + (m1 + (m2 + 1)) + 1)) = 25717 by omega] at hm
  exact hm
end Mine

end

-- HeadK
section
namespace Mine
noncomputable def KF (P : Params) : Frag := [((nat_lit 2 : Nat), o2 P), ((nat_lit 3 : Nat), o3 P), ((nat_lit 15 : Nat), o15 P), ((nat_lit 17 : Nat), o17 P), ((nat_lit 18 : Nat), o18 P), ((nat_lit 20 : Nat), o20 P), ((nat_lit 21 : Nat), o21 P), ((nat_lit 29 : Nat), o29 P), ((nat_lit 31 : Nat), o31 P), ((nat_lit 32 : Nat), o32 P), ((nat_lit 34 : Nat), o34 P), ((nat_lit 35 : Nat), o35 P), ((nat_lit 36 : Nat), o36 P), ((nat_lit 38 : Nat), o38 P), ((nat_lit 39 : Nat), o39 P), ((nat_lit 41 : Nat), o41 P), ((nat_lit 42 : Nat), o42 P), ((nat_lit 43 : Nat), o43 P), ((nat_lit 45 : Nat), o45 P), ((nat_lit 46 : Nat), o46 P), ((nat_lit 48 : Nat), o48 P), ((nat_lit 49 : Nat), o49 P), ((nat_lit 50 : Nat), o50 P), ((nat_lit 52 : Nat), o52 P), ((nat_lit 53 : Nat), o53 P), ((nat_lit 55 : Nat), o55 P), ((nat_lit 56 : Nat), o56 P), ((nat_lit 57 : Nat), o57 P), ((nat_lit 59 : Nat), o59 P), ((nat_lit 60 : Nat), o60 P), ((nat_lit 62 : Nat), o62 P), ((nat_lit 63 : Nat), o63 P), ((nat_lit 64 : Nat), o64 P), ((nat_lit 66 : Nat), o66 P), ((nat_lit 67 : Nat), o67 P), ((nat_lit 69 : Nat), o69 P), ((nat_lit 70 : Nat), o70 P), ((nat_lit 71 : Nat), o71 P), ((nat_lit 73 : Nat), o73 P), ((nat_lit 74 : Nat), o74 P), ((nat_lit 76 : Nat), o76 P), ((nat_lit 77 : Nat), o77 P), ((nat_lit 78 : Nat), o78 P), ((nat_lit 80 : Nat), o80 P), ((nat_lit 81 : Nat), o81 P), ((nat_lit 83 : Nat), o83 P), ((nat_lit 84 : Nat), o84 P), ((nat_lit 85 : Nat), o85 P), ((nat_lit 87 : Nat), o87 P), ((nat_lit 88 : Nat), o88 P), ((nat_lit 90 : Nat), o90 P), ((nat_lit 91 : Nat), o91 P), ((nat_lit 92 : Nat), o92 P), ((nat_lit 94 : Nat), o94 P), ((nat_lit 95 : Nat), o95 P), ((nat_lit 97 : Nat), o97 P), ((nat_lit 98 : Nat), o98 P), ((nat_lit 99 : Nat), o99 P), ((nat_lit 101 : Nat), o101 P), ((nat_lit 102 : Nat), o102 P), ((nat_lit 104 : Nat), o104 P), ((nat_lit 105 : Nat), o105 P), ((nat_lit 106 : Nat), o106 P), ((nat_lit 108 : Nat), o108 P), ((nat_lit 109 : Nat), o109 P), ((nat_lit 111 : Nat), o111 P), ((nat_lit 112 : Nat), o112 P), ((nat_lit 113 : Nat), o113 P), ((nat_lit 115 : Nat), o115 P), ((nat_lit 116 : Nat), o116 P), ((nat_lit 118 : Nat), o118 P), ((nat_lit 119 : Nat), o119 P), ((nat_lit 120 : Nat), o120 P), ((nat_lit 122 : Nat), o122 P), ((nat_lit 123 : Nat), o123 P), ((nat_lit 125 : Nat), o125 P), ((nat_lit 126 : Nat), o126 P), ((nat_lit 127 : Nat), o127 P), ((nat_lit 129 : Nat), o129 P), ((nat_lit 130 : Nat), o130 P), ((nat_lit 132 : Nat), o132 P), ((nat_lit 133 : Nat), o133 P), ((nat_lit 134 : Nat), o134 P), ((nat_lit 136 : Nat), o136 P), ((nat_lit 137 : Nat), o137 P), ((nat_lit 139 : Nat), o139 P), ((nat_lit 140 : Nat), o140 P), ((nat_lit 141 : Nat), o141 P), ((nat_lit 143 : Nat), o143 P), ((nat_lit 144 : Nat), o144 P), ((nat_lit 146 : Nat), o146 P), ((nat_lit 147 : Nat), o147 P), ((nat_lit 148 : Nat), o148 P), ((nat_lit 150 : Nat), o150 P), ((nat_lit 151 : Nat), o151 P), ((nat_lit 153 : Nat), o153 P), ((nat_lit 154 : Nat), o154 P), ((nat_lit 155 : Nat), o155 P), ((nat_lit 157 : Nat), o157 P), ((nat_lit 158 : Nat), o158 P), ((nat_lit 160 : Nat), o160 P), ((nat_lit 161 : Nat), o161 P), ((nat_lit 162 : Nat), o162 P), ((nat_lit 164 : Nat), o164 P), ((nat_lit 165 : Nat), o165 P), ((nat_lit 167 : Nat), o167 P), ((nat_lit 168 : Nat), o168 P), ((nat_lit 169 : Nat), o169 P), ((nat_lit 171 : Nat), o171 P), ((nat_lit 172 : Nat), o172 P), ((nat_lit 174 : Nat), o174 P), ((nat_lit 175 : Nat), o175 P), ((nat_lit 176 : Nat), o176 P), ((nat_lit 178 : Nat), o178 P), ((nat_lit 179 : Nat), o179 P), ((nat_lit 181 : Nat), o181 P), ((nat_lit 182 : Nat), o182 P), ((nat_lit 183 : Nat), o183 P), ((nat_lit 185 : Nat), o185 P), ((nat_lit 186 : Nat), o186 P), ((nat_lit 188 : Nat), o188 P), ((nat_lit 189 : Nat), o189 P), ((nat_lit 190 : Nat), o190 P), ((nat_lit 193 : Nat), o193 P), ((nat_lit 194 : Nat), o194 P), ((nat_lit 195 : Nat), o195 P), ((nat_lit 196 : Nat), o196 P), ((nat_lit 197 : Nat), o197 P), ((nat_lit 198 : Nat), o198 P), ((nat_lit 199 : Nat), o199 P), ((nat_lit 209 : Nat), o209 P), ((nat_lit 211 : Nat), o211 P), ((nat_lit 212 : Nat), o212 P), ((nat_lit 214 : Nat), o214 P), ((nat_lit 215 : Nat), o215 P), ((nat_lit 216 : Nat), o216 P), ((nat_lit 217 : Nat), o217 P), ((nat_lit 218 : Nat), o218 P), ((nat_lit 219 : Nat), o219 P), ((nat_lit 220 : Nat), o220 P), ((nat_lit 223 : Nat), o223 P), ((nat_lit 230 : Nat), o230 P), ((nat_lit 231 : Nat), o231 P), ((nat_lit 233 : Nat), o233 P), ((nat_lit 234 : Nat), o234 P), ((nat_lit 236 : Nat), o236 P), ((nat_lit 237 : Nat), o237 P), ((nat_lit 238 : Nat), o238 P), ((nat_lit 240 : Nat), o240 P), ((nat_lit 241 : Nat), o241 P), ((nat_lit 243 : Nat), o243 P), ((nat_lit 244 : Nat), o244 P), ((nat_lit 245 : Nat), o245 P), ((nat_lit 247 : Nat), o247 P), ((nat_lit 248 : Nat), o248 P), ((nat_lit 250 : Nat), o250 P), ((nat_lit 251 : Nat), o251 P), ((nat_lit 252 : Nat), o252 P), ((nat_lit 254 : Nat), o254 P), ((nat_lit 255 : Nat), o255 P), ((nat_lit 257 : Nat), o257 P), ((nat_lit 258 : Nat), o258 P), ((nat_lit 259 : Nat), o259 P), ((nat_lit 261 : Nat), o261 P), ((nat_lit 262 : Nat), o262 P), ((nat_lit 264 : Nat), o264 P), ((nat_lit 265 : Nat), o265 P), ((nat_lit 266 : Nat), o266 P), ((nat_lit 268 : Nat), o268 P), ((nat_lit 269 : Nat), o269 P), ((nat_lit 271 : Nat), o271 P), ((nat_lit 272 : Nat), o272 P), ((nat_lit 273 : Nat), o273 P), ((nat_lit 275 : Nat), o275 P), ((nat_lit 276 : Nat), o276 P), ((nat_lit 278 : Nat), o278 P), ((nat_lit 279 : Nat), o279 P), ((nat_lit 280 : Nat), o280 P), ((nat_lit 282 : Nat), o282 P), ((nat_lit 283 : Nat), o283 P), ((nat_lit 285 : Nat), o285 P), ((nat_lit 286 : Nat), o286 P), ((nat_lit 287 : Nat), o287 P), ((nat_lit 289 : Nat), o289 P), ((nat_lit 290 : Nat), o290 P), ((nat_lit 292 : Nat), o292 P), ((nat_lit 293 : Nat), o293 P), ((nat_lit 294 : Nat), o294 P), ((nat_lit 296 : Nat), o296 P), ((nat_lit 297 : Nat), o297 P), ((nat_lit 299 : Nat), o299 P), ((nat_lit 300 : Nat), o300 P), ((nat_lit 301 : Nat), o301 P), ((nat_lit 302 : Nat), o302 P), ((nat_lit 304 : Nat), o304 P), ((nat_lit 305 : Nat), o305 P), ((nat_lit 307 : Nat), o307 P), ((nat_lit 308 : Nat), o308 P), ((nat_lit 310 : Nat), o310 P), ((nat_lit 311 : Nat), o311 P), ((nat_lit 313 : Nat), o313 P), ((nat_lit 314 : Nat), o314 P), ((nat_lit 316 : Nat), o316 P), ((nat_lit 317 : Nat), o317 P), ((nat_lit 319 : Nat), o319 P), ((nat_lit 320 : Nat), o320 P), ((nat_lit 322 : Nat), o322 P), ((nat_lit 323 : Nat), o323 P), ((nat_lit 325 : Nat), o325 P), ((nat_lit 326 : Nat), o326 P), ((nat_lit 328 : Nat), o328 P), ((nat_lit 329 : Nat), o329 P), ((nat_lit 330 : Nat), o330 P), ((nat_lit 332 : Nat), o332 P), ((nat_lit 333 : Nat), o333 P), ((nat_lit 335 : Nat), o335 P), ((nat_lit 336 : Nat), o336 P), ((nat_lit 338 : Nat), o338 P), ((nat_lit 339 : Nat), o339 P), ((nat_lit 341 : Nat), o341 P), ((nat_lit 342 : Nat), o342 P), ((nat_lit 344 : Nat), o344 P), ((nat_lit 345 : Nat), o345 P), ((nat_lit 347 : Nat), o347 P), ((nat_lit 348 : Nat), o348 P), ((nat_lit 350 : Nat), o350 P), ((nat_lit 351 : Nat), o351 P), ((nat_lit 353 : Nat), o353 P), ((nat_lit 354 : Nat), o354 P), ((nat_lit 356 : Nat), o356 P), ((nat_lit 357 : Nat), o357 P), ((nat_lit 359 : Nat), o359 P), ((nat_lit 360 : Nat), o360 P), ((nat_lit 362 : Nat), o362 P), ((nat_lit 363 : Nat), o363 P), ((nat_lit 365 : Nat), o365 P), ((nat_lit 366 : Nat), o366 P), ((nat_lit 368 : Nat), o368 P), ((nat_lit 369 : Nat), o369 P), ((nat_lit 371 : Nat), o371 P), ((nat_lit 372 : Nat), o372 P), ((nat_lit 374 : Nat), o374 P), ((nat_lit 375 : Nat), o375 P), ((nat_lit 377 : Nat), o377 P), ((nat_lit 378 : Nat), o378 P), ((nat_lit 380 : Nat), o380 P), ((nat_lit 381 : Nat), o381 P), ((nat_lit 383 : Nat), o383 P), ((nat_lit 384 : Nat), o384 P), ((nat_lit 386 : Nat), o386 P), ((nat_lit 387 : Nat), o387 P), ((nat_lit 389 : Nat), o389 P), ((nat_lit 390 : Nat), o390 P), ((nat_lit 392 : Nat), o392 P), ((nat_lit 393 : Nat), o393 P), ((nat_lit 395 : Nat), o395 P), ((nat_lit 396 : Nat), o396 P), ((nat_lit 398 : Nat), o398 P), ((nat_lit 399 : Nat), o399 P), ((nat_lit 401 : Nat), o401 P), ((nat_lit 402 : Nat), o402 P), ((nat_lit 404 : Nat), o404 P), ((nat_lit 405 : Nat), o405 P), ((nat_lit 407 : Nat), o407 P), ((nat_lit 408 : Nat), o408 P), ((nat_lit 409 : Nat), o409 P), ((nat_lit 411 : Nat), o411 P), ((nat_lit 412 : Nat), o412 P), ((nat_lit 414 : Nat), o414 P), ((nat_lit 415 : Nat), o415 P), ((nat_lit 417 : Nat), o417 P), ((nat_lit 418 : Nat), o418 P), ((nat_lit 420 : Nat), o420 P), ((nat_lit 421 : Nat), o421 P), ((nat_lit 423 : Nat), o423 P), ((nat_lit 424 : Nat), o424 P), ((nat_lit 426 : Nat), o426 P), ((nat_lit 427 : Nat), o427 P), ((nat_lit 429 : Nat), o429 P), ((nat_lit 430 : Nat), o430 P), ((nat_lit 432 : Nat), o432 P), ((nat_lit 433 : Nat), o433 P), ((nat_lit 434 : Nat), o434 P), ((nat_lit 436 : Nat), o436 P), ((nat_lit 437 : Nat), o437 P), ((nat_lit 439 : Nat), o439 P), ((nat_lit 440 : Nat), o440 P), ((nat_lit 441 : Nat), o441 P), ((nat_lit 443 : Nat), o443 P), ((nat_lit 444 : Nat), o444 P), ((nat_lit 446 : Nat), o446 P), ((nat_lit 447 : Nat), o447 P), ((nat_lit 449 : Nat), o449 P), ((nat_lit 450 : Nat), o450 P), ((nat_lit 452 : Nat), o452 P), ((nat_lit 453 : Nat), o453 P), ((nat_lit 455 : Nat), o455 P), ((nat_lit 456 : Nat), o456 P), ((nat_lit 458 : Nat), o458 P), ((nat_lit 459 : Nat), o459 P), ((nat_lit 461 : Nat), o461 P), ((nat_lit 462 : Nat), o462 P), ((nat_lit 464 : Nat), o464 P), ((nat_lit 465 : Nat), o465 P), ((nat_lit 467 : Nat), o467 P), ((nat_lit 468 : Nat), o468 P), ((nat_lit 470 : Nat), o470 P), ((nat_lit 471 : Nat), o471 P), ((nat_lit 473 : Nat), o473 P), ((nat_lit 474 : Nat), o474 P), ((nat_lit 476 : Nat), o476 P), ((nat_lit 477 : Nat), o477 P), ((nat_lit 479 : Nat), o479 P), ((nat_lit 480 : Nat), o480 P), ((nat_lit 482 : Nat), o482 P), ((nat_lit 483 : Nat), o483 P), ((nat_lit 485 : Nat), o485 P), ((nat_lit 486 : Nat), o486 P), ((nat_lit 488 : Nat), o488 P), ((nat_lit 489 : Nat), o489 P), ((nat_lit 491 : Nat), o491 P), ((nat_lit 492 : Nat), o492 P), ((nat_lit 494 : Nat), o494 P), ((nat_lit 495 : Nat), o495 P), ((nat_lit 497 : Nat), o497 P), ((nat_lit 498 : Nat), o498 P), ((nat_lit 500 : Nat), o500 P), ((nat_lit 501 : Nat), o501 P), ((nat_lit 503 : Nat), o503 P), ((nat_lit 504 : Nat), o504 P), ((nat_lit 506 : Nat), o506 P), ((nat_lit 507 : Nat), o507 P), ((nat_lit 509 : Nat), o509 P), ((nat_lit 510 : Nat), o510 P), ((nat_lit 512 : Nat), o512 P), ((nat_lit 513 : Nat), o513 P), ((nat_lit 515 : Nat), o515 P), ((nat_lit 516 : Nat), o516 P), ((nat_lit 518 : Nat), o518 P), ((nat_lit 519 : Nat), o519 P), ((nat_lit 521 : Nat), o521 P), ((nat_lit 522 : Nat), o522 P), ((nat_lit 524 : Nat), o524 P), ((nat_lit 525 : Nat), o525 P), ((nat_lit 527 : Nat), o527 P), ((nat_lit 528 : Nat), o528 P), ((nat_lit 530 : Nat), o530 P), ((nat_lit 531 : Nat), o531 P), ((nat_lit 533 : Nat), o533 P), ((nat_lit 534 : Nat), o534 P), ((nat_lit 536 : Nat), o536 P), ((nat_lit 537 : Nat), o537 P), ((nat_lit 539 : Nat), o539 P), ((nat_lit 540 : Nat), o540 P), ((nat_lit 542 : Nat), o542 P), ((nat_lit 543 : Nat), o543 P), ((nat_lit 545 : Nat), o545 P), ((nat_lit 546 : Nat), o546 P), ((nat_lit 548 : Nat), o548 P), ((nat_lit 549 : Nat), o549 P), ((nat_lit 551 : Nat), o551 P), ((nat_lit 552 : Nat), o552 P), ((nat_lit 554 : Nat), o554 P), ((nat_lit 555 : Nat), o555 P), ((nat_lit 557 : Nat), o557 P), ((nat_lit 558 : Nat), o558 P), ((nat_lit 560 : Nat), o560 P), ((nat_lit 561 : Nat), o561 P), ((nat_lit 563 : Nat), o563 P), ((nat_lit 564 : Nat), o564 P), ((nat_lit 566 : Nat), o566 P), ((nat_lit 567 : Nat), o567 P), ((nat_lit 569 : Nat), o569 P), ((nat_lit 570 : Nat), o570 P), ((nat_lit 572 : Nat), o572 P), ((nat_lit 573 : Nat), o573 P), ((nat_lit 575 : Nat), o575 P), ((nat_lit 576 : Nat), o576 P), ((nat_lit 578 : Nat), o578 P), ((nat_lit 579 : Nat), o579 P), ((nat_lit 580 : Nat), o580 P), ((nat_lit 582 : Nat), o582 P), ((nat_lit 583 : Nat), o583 P), ((nat_lit 585 : Nat), o585 P), ((nat_lit 586 : Nat), o586 P), ((nat_lit 588 : Nat), o588 P), ((nat_lit 589 : Nat), o589 P), ((nat_lit 591 : Nat), o591 P), ((nat_lit 592 : Nat), o592 P), ((nat_lit 594 : Nat), o594 P), ((nat_lit 595 : Nat), o595 P), ((nat_lit 597 : Nat), o597 P), ((nat_lit 598 : Nat), o598 P), ((nat_lit 600 : Nat), o600 P), ((nat_lit 601 : Nat), o601 P), ((nat_lit 603 : Nat), o603 P), ((nat_lit 604 : Nat), o604 P), ((nat_lit 606 : Nat), o606 P), ((nat_lit 607 : Nat), o607 P), ((nat_lit 609 : Nat), o609 P), ((nat_lit 610 : Nat), o610 P), ((nat_lit 612 : Nat), o612 P), ((nat_lit 613 : Nat), o613 P), ((nat_lit 615 : Nat), o615 P), ((nat_lit 616 : Nat), o616 P), ((nat_lit 618 : Nat), o618 P), ((nat_lit 619 : Nat), o619 P), ((nat_lit 621 : Nat), o621 P), ((nat_lit 622 : Nat), o622 P), ((nat_lit 624 : Nat), o624 P), ((nat_lit 625 : Nat), o625 P), ((nat_lit 627 : Nat), o627 P), ((nat_lit 628 : Nat), o628 P), ((nat_lit 630 : Nat), o630 P), ((nat_lit 631 : Nat), o631 P), ((nat_lit 633 : Nat), o633 P), ((nat_lit 634 : Nat), o634 P), ((nat_lit 636 : Nat), o636 P), ((nat_lit 637 : Nat), o637 P), ((nat_lit 639 : Nat), o639 P), ((nat_lit 640 : Nat), o640 P), ((nat_lit 642 : Nat), o642 P), ((nat_lit 643 : Nat), o643 P), ((nat_lit 645 : Nat), o645 P), ((nat_lit 646 : Nat), o646 P), ((nat_lit 648 : Nat), o648 P), ((nat_lit 649 : Nat), o649 P), ((nat_lit 651 : Nat), o651 P), ((nat_lit 652 : Nat), o652 P), ((nat_lit 654 : Nat), o654 P), ((nat_lit 655 : Nat), o655 P), ((nat_lit 657 : Nat), o657 P), ((nat_lit 658 : Nat), o658 P), ((nat_lit 660 : Nat), o660 P), ((nat_lit 661 : Nat), o661 P), ((nat_lit 663 : Nat), o663 P), ((nat_lit 664 : Nat), o664 P), ((nat_lit 666 : Nat), o666 P), ((nat_lit 667 : Nat), o667 P), ((nat_lit 669 : Nat), o669 P), ((nat_lit 670 : Nat), o670 P), ((nat_lit 672 : Nat), o672 P), ((nat_lit 673 : Nat), o673 P), ((nat_lit 675 : Nat), o675 P), ((nat_lit 676 : Nat), o676 P), ((nat_lit 678 : Nat), o678 P), ((nat_lit 679 : Nat), o679 P), ((nat_lit 681 : Nat), o681 P), ((nat_lit 682 : Nat), o682 P), ((nat_lit 684 : Nat), o684 P), ((nat_lit 685 : Nat), o685 P), ((nat_lit 687 : Nat), o687 P), ((nat_lit 688 : Nat), o688 P), ((nat_lit 689 : Nat), o689 P), ((nat_lit 691 : Nat), o691 P), ((nat_lit 692 : Nat), o692 P), ((nat_lit 694 : Nat), o694 P), ((nat_lit 695 : Nat), o695 P), ((nat_lit 696 : Nat), o696 P), ((nat_lit 698 : Nat), o698 P), ((nat_lit 699 : Nat), o699 P), ((nat_lit 701 : Nat), o701 P), ((nat_lit 702 : Nat), o702 P), ((nat_lit 704 : Nat), o704 P), ((nat_lit 705 : Nat), o705 P), ((nat_lit 707 : Nat), o707 P), ((nat_lit 708 : Nat), o708 P), ((nat_lit 709 : Nat), o709 P), ((nat_lit 710 : Nat), o710 P), ((nat_lit 713 : Nat), o713 P), ((nat_lit 720 : Nat), o720 P), ((nat_lit 721 : Nat), o721 P), ((nat_lit 722 : Nat), o722 P), ((nat_lit 723 : Nat), o723 P), ((nat_lit 726 : Nat), o726 P), ((nat_lit 733 : Nat), o733 P), ((nat_lit 734 : Nat), o734 P), ((nat_lit 735 : Nat), o735 P), ((nat_lit 736 : Nat), o736 P), ((nat_lit 739 : Nat), o739 P), ((nat_lit 746 : Nat), o746 P), ((nat_lit 747 : Nat), o747 P), ((nat_lit 748 : Nat), o748 P), ((nat_lit 749 : Nat), o749 P), ((nat_lit 752 : Nat), o752 P), ((nat_lit 754 : Nat), o754 P), ((nat_lit 755 : Nat), o755 P), ((nat_lit 757 : Nat), o757 P), ((nat_lit 758 : Nat), o758 P), ((nat_lit 759 : Nat), o759 P), ((nat_lit 760 : Nat), o760 P), ((nat_lit 761 : Nat), o761 P), ((nat_lit 762 : Nat), o762 P), ((nat_lit 763 : Nat), o763 P), ((nat_lit 764 : Nat), o764 P), ((nat_lit 765 : Nat), o765 P), ((nat_lit 766 : Nat), o766 P), ((nat_lit 767 : Nat), o767 P), ((nat_lit 768 : Nat), o768 P), ((nat_lit 769 : Nat), o769 P), ((nat_lit 770 : Nat), o770 P), ((nat_lit 771 : Nat), o771 P), ((nat_lit 772 : Nat), o772 P), ((nat_lit 773 : Nat), o773 P), ((nat_lit 774 : Nat), o774 P), ((nat_lit 775 : Nat), o775 P), ((nat_lit 776 : Nat), o776 P), ((nat_lit 777 : Nat), o777 P), ((nat_lit 778 : Nat), o778 P), ((nat_lit 779 : Nat), o779 P), ((nat_lit 780 : Nat), o780 P), ((nat_lit 781 : Nat), o781 P), ((nat_lit 782 : Nat), o782 P), ((nat_lit 783 : Nat), o783 P), ((nat_lit 784 : Nat), o784 P), ((nat_lit 786 : Nat), o786 P), ((nat_lit 787 : Nat), o787 P), ((nat_lit 789 : Nat), o789 P), ((nat_lit 790 : Nat), o790 P), ((nat_lit 791 : Nat), o791 P), ((nat_lit 793 : Nat), o793 P), ((nat_lit 794 : Nat), o794 P), ((nat_lit 796 : Nat), o796 P), ((nat_lit 797 : Nat), o797 P), ((nat_lit 798 : Nat), o798 P), ((nat_lit 800 : Nat), o800 P), ((nat_lit 801 : Nat), o801 P), ((nat_lit 803 : Nat), o803 P), ((nat_lit 804 : Nat), o804 P), ((nat_lit 805 : Nat), o805 P), ((nat_lit 808 : Nat), o808 P), ((nat_lit 809 : Nat), o809 P), ((nat_lit 810 : Nat), o810 P), ((nat_lit 813 : Nat), o813 P), ((nat_lit 814 : Nat), o814 P)]
noncomputable def KA : List Addr := [(nat_lit 2 : Nat), (nat_lit 3 : Nat), (nat_lit 15 : Nat), (nat_lit 17 : Nat), (nat_lit 18 : Nat), (nat_lit 20 : Nat), (nat_lit 21 : Nat), (nat_lit 29 : Nat), (nat_lit 31 : Nat), (nat_lit 32 : Nat), (nat_lit 34 : Nat), (nat_lit 35 : Nat), (nat_lit 36 : Nat), (nat_lit 38 : Nat), (nat_lit 39 : Nat), (nat_lit 41 : Nat), (nat_lit 42 : Nat), (nat_lit 43 : Nat), (nat_lit 45 : Nat), (nat_lit 46 : Nat), (nat_lit 48 : Nat), (nat_lit 49 : Nat), (nat_lit 50 : Nat), (nat_lit 52 : Nat), (nat_lit 53 : Nat), (nat_lit 55 : Nat), (nat_lit 56 : Nat), (nat_lit 57 : Nat), (nat_lit 59 : Nat), (nat_lit 60 : Nat), (nat_lit 62 : Nat), (nat_lit 63 : Nat), (nat_lit 64 : Nat), (nat_lit 66 : Nat), (nat_lit 67 : Nat), (nat_lit 69 : Nat), (nat_lit 70 : Nat), (nat_lit 71 : Nat), (nat_lit 73 : Nat), (nat_lit 74 : Nat), (nat_lit 76 : Nat), (nat_lit 77 : Nat), (nat_lit 78 : Nat), (nat_lit 80 : Nat), (nat_lit 81 : Nat), (nat_lit 83 : Nat), (nat_lit 84 : Nat), (nat_lit 85 : Nat), (nat_lit 87 : Nat), (nat_lit 88 : Nat), (nat_lit 90 : Nat), (nat_lit 91 : Nat), (nat_lit 92 : Nat), (nat_lit 94 : Nat), (nat_lit 95 : Nat), (nat_lit 97 : Nat), (nat_lit 98 : Nat), (nat_lit 99 : Nat), (nat_lit 101 : Nat), (nat_lit 102 : Nat), (nat_lit 104 : Nat), (nat_lit 105 : Nat), (nat_lit 106 : Nat), (nat_lit 108 : Nat), (nat_lit 109 : Nat), (nat_lit 111 : Nat), (nat_lit 112 : Nat), (nat_lit 113 : Nat), (nat_lit 115 : Nat), (nat_lit 116 : Nat), (nat_lit 118 : Nat), (nat_lit 119 : Nat), (nat_lit 120 : Nat), (nat_lit 122 : Nat), (nat_lit 123 : Nat), (nat_lit 125 : Nat), (nat_lit 126 : Nat), (nat_lit 127 : Nat), (nat_lit 129 : Nat), (nat_lit 130 : Nat), (nat_lit 132 : Nat), (nat_lit 133 : Nat), (nat_lit 134 : Nat), (nat_lit 136 : Nat), (nat_lit 137 : Nat), (nat_lit 139 : Nat), (nat_lit 140 : Nat), (nat_lit 141 : Nat), (nat_lit 143 : Nat), (nat_lit 144 : Nat), (nat_lit 146 : Nat), (nat_lit 147 : Nat), (nat_lit 148 : Nat), (nat_lit 150 : Nat), (nat_lit 151 : Nat), (nat_lit 153 : Nat), (nat_lit 154 : Nat), (nat_lit 155 : Nat), (nat_lit 157 : Nat), (nat_lit 158 : Nat), (nat_lit 160 : Nat), (nat_lit 161 : Nat), (nat_lit 162 : Nat), (nat_lit 164 : Nat), (nat_lit 165 : Nat), (nat_lit 167 : Nat), (nat_lit 168 : Nat), (nat_lit 169 : Nat), (nat_lit 171 : Nat), (nat_lit 172 : Nat), (nat_lit 174 : Nat), (nat_lit 175 : Nat), (nat_lit 176 : Nat), (nat_lit 178 : Nat), (nat_lit 179 : Nat), (nat_lit 181 : Nat), (nat_lit 182 : Nat), (nat_lit 183 : Nat), (nat_lit 185 : Nat), (nat_lit 186 : Nat), (nat_lit 188 : Nat), (nat_lit 189 : Nat), (nat_lit 190 : Nat), (nat_lit 193 : Nat), (nat_lit 194 : Nat), (nat_lit 195 : Nat), (nat_lit 196 : Nat), (nat_lit 197 : Nat), (nat_lit 198 : Nat), (nat_lit 199 : Nat), (nat_lit 209 : Nat), (nat_lit 211 : Nat), (nat_lit 212 : Nat), (nat_lit 214 : Nat), (nat_lit 215 : Nat), (nat_lit 216 : Nat), (nat_lit 217 : Nat), (nat_lit 218 : Nat), (nat_lit 219 : Nat), (nat_lit 220 : Nat), (nat_lit 223 : Nat), (nat_lit 230 : Nat), (nat_lit 231 : Nat), (nat_lit 233 : Nat), (nat_lit 234 : Nat), (nat_lit 236 : Nat), (nat_lit 237 : Nat), (nat_lit 238 : Nat), (nat_lit 240 : Nat), (nat_lit 241 : Nat), (nat_lit 243 : Nat), (nat_lit 244 : Nat), (nat_lit 245 : Nat), (nat_lit 247 : Nat), (nat_lit 248 : Nat), (nat_lit 250 : Nat), (nat_lit 251 : Nat), (nat_lit 252 : Nat), (nat_lit 254 : Nat), (nat_lit 255 : Nat), (nat_lit 257 : Nat), (nat_lit 258 : Nat), (nat_lit 259 : Nat), (nat_lit 261 : Nat), (nat_lit 262 : Nat), (nat_lit 264 : Nat), (nat_lit 265 : Nat), (nat_lit 266 : Nat), (nat_lit 268 : Nat), (nat_lit 269 : Nat), (nat_lit 271 : Nat), (nat_lit 272 : Nat), (nat_lit 273 : Nat), (nat_lit 275 : Nat), (nat_lit 276 : Nat), (nat_lit 278 : Nat), (nat_lit 279 : Nat), (nat_lit 280 : Nat), (nat_lit 282 : Nat), (nat_lit 283 : Nat), (nat_lit 285 : Nat), (nat_lit 286 : Nat), (nat_lit 287 : Nat), (nat_lit 289 : Nat), (nat_lit 290 : Nat), (nat_lit 292 : Nat), (nat_lit 293 : Nat), (nat_lit 294 : Nat), (nat_lit 296 : Nat), (nat_lit 297 : Nat), (nat_lit 299 : Nat), (nat_lit 300 : Nat), (nat_lit 301 : Nat), (nat_lit 302 : Nat), (nat_lit 304 : Nat), (nat_lit 305 : Nat), (nat_lit 307 : Nat), (nat_lit 308 : Nat), (nat_lit 310 : Nat), (nat_lit 311 : Nat), (nat_lit 313 : Nat), (nat_lit 314 : Nat), (nat_lit 316 : Nat), (nat_lit 317 : Nat), (nat_lit 319 : Nat), (nat_lit 320 : Nat), (nat_lit 322 : Nat), (nat_lit 323 : Nat), (nat_lit 325 : Nat), (nat_lit 326 : Nat), (nat_lit 328 : Nat), (nat_lit 329 : Nat), (nat_lit 330 : Nat), (nat_lit 332 : Nat), (nat_lit 333 : Nat), (nat_lit 335 : Nat), (nat_lit 336 : Nat), (nat_lit 338 : Nat), (nat_lit 339 : Nat), (nat_lit 341 : Nat), (nat_lit 342 : Nat), (nat_lit 344 : Nat), (nat_lit 345 : Nat), (nat_lit 347 : Nat), (nat_lit 348 : Nat), (nat_lit 350 : Nat), (nat_lit 351 : Nat), (nat_lit 353 : Nat), (nat_lit 354 : Nat), (nat_lit 356 : Nat), (nat_lit 357 : Nat), (nat_lit 359 : Nat), (nat_lit 360 : Nat), (nat_lit 362 : Nat), (nat_lit 363 : Nat), (nat_lit 365 : Nat), (nat_lit 366 : Nat), (nat_lit 368 : Nat), (nat_lit 369 : Nat), (nat_lit 371 : Nat), (nat_lit 372 : Nat), (nat_lit 374 : Nat), (nat_lit 375 : Nat), (nat_lit 377 : Nat), (nat_lit 378 : Nat), (nat_lit 380 : Nat), (nat_lit 381 : Nat), (nat_lit 383 : Nat), (nat_lit 384 : Nat), (nat_lit 386 : Nat), (nat_lit 387 : Nat), (nat_lit 389 : Nat), (nat_lit 390 : Nat), (nat_lit 392 : Nat), (nat_lit 393 : Nat), (nat_lit 395 : Nat), (nat_lit 396 : Nat), (nat_lit 398 : Nat), (nat_lit 399 : Nat), (nat_lit 401 : Nat), (nat_lit 402 : Nat), (nat_lit 404 : Nat), (nat_lit 405 : Nat), (nat_lit 407 : Nat), (nat_lit 408 : Nat), (nat_lit 409 : Nat), (nat_lit 411 : Nat), (nat_lit 412 : Nat), (nat_lit 414 : Nat), (nat_lit 415 : Nat), (nat_lit 417 : Nat), (nat_lit 418 : Nat), (nat_lit 420 : Nat), (nat_lit 421 : Nat), (nat_lit 423 : Nat), (nat_lit 424 : Nat), (nat_lit 426 : Nat), (nat_lit 427 : Nat), (nat_lit 429 : Nat), (nat_lit 430 : Nat), (nat_lit 432 : Nat), (nat_lit 433 : Nat), (nat_lit 434 : Nat), (nat_lit 436 : Nat), (nat_lit 437 : Nat), (nat_lit 439 : Nat), (nat_lit 440 : Nat), (nat_lit 441 : Nat), (nat_lit 443 : Nat), (nat_lit 444 : Nat), (nat_lit 446 : Nat), (nat_lit 447 : Nat), (nat_lit 449 : Nat), (nat_lit 450 : Nat), (nat_lit 452 : Nat), (nat_lit 453 : Nat), (nat_lit 455 : Nat), (nat_lit 456 : Nat), (nat_lit 458 : Nat), (nat_lit 459 : Nat), (nat_lit 461 : Nat), (nat_lit 462 : Nat), (nat_lit 464 : Nat), (nat_lit 465 : Nat), (nat_lit 467 : Nat), (nat_lit 468 : Nat), (nat_lit 470 : Nat), (nat_lit 471 : Nat), (nat_lit 473 : Nat), (nat_lit 474 : Nat), (nat_lit 476 : Nat), (nat_lit 477 : Nat), (nat_lit 479 : Nat), (nat_lit 480 : Nat), (nat_lit 482 : Nat), (nat_lit 483 : Nat), (nat_lit 485 : Nat), (nat_lit 486 : Nat), (nat_lit 488 : Nat), (nat_lit 489 : Nat), (nat_lit 491 : Nat), (nat_lit 492 : Nat), (nat_lit 494 : Nat), (nat_lit 495 : Nat), (nat_lit 497 : Nat), (nat_lit 498 : Nat), (nat_lit 500 : Nat), (nat_lit 501 : Nat), (nat_lit 503 : Nat), (nat_lit 504 : Nat), (nat_lit 506 : Nat), (nat_lit 507 : Nat), (nat_lit 509 : Nat), (nat_lit 510 : Nat), (nat_lit 512 : Nat), (nat_lit 513 : Nat), (nat_lit 515 : Nat), (nat_lit 516 : Nat), (nat_lit 518 : Nat), (nat_lit 519 : Nat), (nat_lit 521 : Nat), (nat_lit 522 : Nat), (nat_lit 524 : Nat), (nat_lit 525 : Nat), (nat_lit 527 : Nat), (nat_lit 528 : Nat), (nat_lit 530 : Nat), (nat_lit 531 : Nat), (nat_lit 533 : Nat), (nat_lit 534 : Nat), (nat_lit 536 : Nat), (nat_lit 537 : Nat), (nat_lit 539 : Nat), (nat_lit 540 : Nat), (nat_lit 542 : Nat), (nat_lit 543 : Nat), (nat_lit 545 : Nat), (nat_lit 546 : Nat), (nat_lit 548 : Nat), (nat_lit 549 : Nat), (nat_lit 551 : Nat), (nat_lit 552 : Nat), (nat_lit 554 : Nat), (nat_lit 555 : Nat), (nat_lit 557 : Nat), (nat_lit 558 : Nat), (nat_lit 560 : Nat), (nat_lit 561 : Nat), (nat_lit 563 : Nat), (nat_lit 564 : Nat), (nat_lit 566 : Nat), (nat_lit 567 : Nat), (nat_lit 569 : Nat), (nat_lit 570 : Nat), (nat_lit 572 : Nat), (nat_lit 573 : Nat), (nat_lit 575 : Nat), (nat_lit 576 : Nat), (nat_lit 578 : Nat), (nat_lit 579 : Nat), (nat_lit 580 : Nat), (nat_lit 582 : Nat), (nat_lit 583 : Nat), (nat_lit 585 : Nat), (nat_lit 586 : Nat), (nat_lit 588 : Nat), (nat_lit 589 : Nat), (nat_lit 591 : Nat), (nat_lit 592 : Nat), (nat_lit 594 : Nat), (nat_lit 595 : Nat), (nat_lit 597 : Nat), (nat_lit 598 : Nat), (nat_lit 600 : Nat), (nat_lit 601 : Nat), (nat_lit 603 : Nat), (nat_lit 604 : Nat), (nat_lit 606 : Nat), (nat_lit 607 : Nat), (nat_lit 609 : Nat), (nat_lit 610 : Nat), (nat_lit 612 : Nat), (nat_lit 613 : Nat), (nat_lit 615 : Nat), (nat_lit 616 : Nat), (nat_lit 618 : Nat), (nat_lit 619 : Nat), (nat_lit 621 : Nat), (nat_lit 622 : Nat), (nat_lit 624 : Nat), (nat_lit 625 : Nat), (nat_lit 627 : Nat), (nat_lit 628 : Nat), (nat_lit 630 : Nat), (nat_lit 631 : Nat), (nat_lit 633 : Nat), (nat_lit 634 : Nat), (nat_lit 636 : Nat), (nat_lit 637 : Nat), (nat_lit 639 : Nat), (nat_lit 640 : Nat), (nat_lit 642 : Nat), (nat_lit 643 : Nat), (nat_lit 645 : Nat), (nat_lit 646 : Nat), (nat_lit 648 : Nat), (nat_lit 649 : Nat), (nat_lit 651 : Nat), (nat_lit 652 : Nat), (nat_lit 654 : Nat), (nat_lit 655 : Nat), (nat_lit 657 : Nat), (nat_lit 658 : Nat), (nat_lit 660 : Nat), (nat_lit 661 : Nat), (nat_lit 663 : Nat), (nat_lit 664 : Nat), (nat_lit 666 : Nat), (nat_lit 667 : Nat), (nat_lit 669 : Nat), (nat_lit 670 : Nat), (nat_lit 672 : Nat), (nat_lit 673 : Nat), (nat_lit 675 : Nat), (nat_lit 676 : Nat), (nat_lit 678 : Nat), (nat_lit 679 : Nat), (nat_lit 681 : Nat), (nat_lit 682 : Nat), (nat_lit 684 : Nat), (nat_lit 685 : Nat), (nat_lit 687 : Nat), (nat_lit 688 : Nat), (nat_lit 689 : Nat), (nat_lit 691 : Nat), (nat_lit 692 : Nat), (nat_lit 694 : Nat), (nat_lit 695 : Nat), (nat_lit 696 : Nat), (nat_lit 698 : Nat), (nat_lit 699 : Nat), (nat_lit 701 : Nat), (nat_lit 702 : Nat), (nat_lit 704 : Nat), (nat_lit 705 : Nat), (nat_lit 707 : Nat), (nat_lit 708 : Nat), (nat_lit 709 : Nat), (nat_lit 710 : Nat), (nat_lit 713 : Nat), (nat_lit 720 : Nat), (nat_lit 721 : Nat), (nat_lit 722 : Nat), (nat_lit 723 : Nat), (nat_lit 726 : Nat), (nat_lit 733 : Nat), (nat_lit 734 : Nat), (nat_lit 735 : Nat), (nat_lit 736 : Nat), (nat_lit 739 : Nat), (nat_lit 746 : Nat), (nat_lit 747 : Nat), (nat_lit 748 : Nat), (nat_lit 749 : Nat), (nat_lit 752 : Nat), (nat_lit 754 : Nat), (nat_lit 755 : Nat), (nat_lit 757 : Nat), (nat_lit 758 : Nat), (nat_lit 759 : Nat), (nat_lit 760 : Nat), (nat_lit 761 : Nat), (nat_lit 762 : Nat), (nat_lit 763 : Nat), (nat_lit 764 : Nat), (nat_lit 765 : Nat), (nat_lit 766 : Nat), (nat_lit 767 : Nat), (nat_lit 768 : Nat), (nat_lit 769 : Nat), (nat_lit 770 : Nat), (nat_lit 771 : Nat), (nat_lit 772 : Nat), (nat_lit 773 : Nat), (nat_lit 774 : Nat), (nat_lit 775 : Nat), (nat_lit 776 : Nat), (nat_lit 777 : Nat), (nat_lit 778 : Nat), (nat_lit 779 : Nat), (nat_lit 780 : Nat), (nat_lit 781 : Nat), (nat_lit 782 : Nat), (nat_lit 783 : Nat), (nat_lit 784 : Nat), (nat_lit 786 : Nat), (nat_lit 787 : Nat), (nat_lit 789 : Nat), (nat_lit 790 : Nat), (nat_lit 791 : Nat), (nat_lit 793 : Nat), (nat_lit 794 : Nat), (nat_lit 796 : Nat), (nat_lit 797 : Nat), (nat_lit 798 : Nat), (nat_lit 800 : Nat), (nat_lit 801 : Nat), (nat_lit 803 : Nat), (nat_lit 804 : Nat), (nat_lit 805 : Nat), (nat_lit 808 : Nat), (nat_lit 809 : Nat), (nat_lit 810 : Nat), (nat_lit 813 : Nat), (nat_lit 814 : Nat)]
theorem KF_is (P : Params) : KA = (KF P).map (·.1) := by kernel_rfl
noncomputable def qv : Program := { pw with main := { pw.main with body := [tS 25] } }
noncomputable def lo : List Str := ["_wall", "__name__", "BaseStemmer", "Among", "RussianStemmer", "lab0", "lab1", "lab2", "_law_vowels", "_law_signs", "_law_gerund", "_law_reflexive", "_law_adjective", "_law_participle", "_law_verb", "_law_noun", "_law_derived", "_law_highest", "_law_end", "_law_shorn", "_law_first", "_law_stem"].map Str.ofString
noncomputable abbrev rr : OpenRow := PySem.Challenge.rw_iu0026_01.row
noncomputable abbrev XtF : Shared → Bool := fun s => xlAt qv [] s && recOk (RowW.records (OpenRow.toRowW rr)) s
theorem szE (w : World) : ((boot_heap w.params).isNs mainGlobals && (Array.mk [] : Array GenState).size == 0, (boot_heap w.params).objs.size, (boot_heap w.params).nsMap mainGlobals "__annotations__") = (true, 11, ann0) := by kernel_rfl
theorem lk1 (w : World) (os : OsState) : (staticsOk (importedModules pw.main.body) (boot_heap w.params) (H1 w.params) && namesBound pw (H1 w.params) && gensDone ⟨H1 w.params, Array.mk [], boot_drawn, 2699, os⟩ && laidKept (boot_heap w.params) (H1 w.params)) = true := by kernel_rfl
theorem lk2 (w : World) (os : OsState) : openSeen qv lo (importedModules pw.main.body) XtF true ⟨H1 w.params, Array.mk [], boot_drawn, 2699, os⟩ = openGood qv lo := by kernel_rfl
theorem map_ok {t : BT} {n : Nat} {life : Life} : ∀ l : Frag, (l.map fun p => (t.get p.1, Nat.blt p.1 n, alive p.2)) = (l.map fun p => (some p.2, true, some p.2)) → (l.map fun p => (absHeap t n life).get? p.1) = l.map fun p => some p.2
  | [], _ => rfl
  | (a, o) :: l, h => by
    rw [List.map_cons, List.map_cons, List.cons.injEq, Prod.mk.injEq, Prod.mk.injEq] at h
    obtain ⟨⟨h1, h2, h3⟩, h4⟩ := h
    rw [List.map_cons, List.map_cons, map_ok l h4, abs_get (Nat.blt_eq.mp h2) h1, h3]
theorem lkT (P : Params) : ((KF P).map fun p => ((t26 P).get p.1, Nat.blt p.1 815, alive p.2)) = ((KF P).map fun p => (some p.2, true, some p.2)) := by kernel_rfl
theorem lk3 (w : World) (os : OsState) : (Hook.obs (kHook KF KA KF_is)) ⟨H1 w.params, Array.mk [], boot_drawn, 2699, os⟩ = (Hook.val (kHook KF KA KF_is)) w := by
  show KA.map (H1 w.params).get? = (KF w.params).map fun p => some p.2
  rw [KF_is w.params, List.map_map]
  exact map_ok _ (lkT w.params)
theorem op0 (w : World) : (fencedOpening treeTable pw w 26000).map (fun s => (s.heap, s.gens, s.drawn, s.toks)) = some (boot_heap w.params, Array.mk [], boot_drawn, boot_toks) :=
  boot_open (by kernel_rfl) (by decide) (fun s => by kernel_rfl) w
theorem left : LeftO pw qv lo XtF (Hook.obs (kHook KF KA KF_is)) (Hook.val (kHook KF KA KF_is)) 26000 true :=
  LeftO.of_pieces op0 szE top_run (by decide) fun w => funext fun os => by rw [lk1 w os, lk2 w os, lk3 w os]
end Mine

end

-- W1
section
namespace Mine

inductive V where
  | int (i : Int) | str (s : Str) | bool (b : Bool) | none | self | rs | gset | words
  | am (s : Str) (i r : Int)
  | list (l : List V)

inductive Kd where | non | stem | words

structure Gx where
  w : World
  base : Heap
  mg : Str → Option Value
  mb : Str → Option Value
  X : Addr
  D : Addr
  k : Kd
  os : OsState

/-- an Among of the base heap -/
noncomputable def AmAt (h : Heap) (x : Addr) (s : Str) (i r : Int) : Prop :=
  ∃ ox od t1 t2 t3, InstAt h x ox 218 (some od) ∧ lookIn "s" od = some (some (.str s t1)) ∧ lookIn "substring_i" od = some (some (.int i t2)) ∧ lookIn "result" od = some (some (.int r t3))

inductive VR (g : Gx) (h : Heap) : V → Value → Prop
  | int (i : Int) (t) : VR g h (.int i) (.int i t)
  | str (s : Str) (t) : VR g h (.str s) (.str s t)
  | bool (b : Bool) : VR g h (.bool b) (.bool b)
  | none : VR g h .none .none
  | self : VR g h .self (.ref g.X)
  | rs : VR g h .rs (.ref 710)
  | gset : VR g h .gset (.ref 230)
  | words : VR g h .words (.ref g.D)
  | am {x : Addr} {s : Str} {i r : Int} : AmAt g.base x s i r → VR g h (.am s i r) (.ref x)
  | list {a : Addr} {o : Obj} {items : Array Value} {n : Nat} {vs : List V} : h.get? a = some o → o.cls = .type "list" → o.data = .seq items n → a ≠ g.D →
      items.size = vs.length → (∀ (j : Nat) v pv, vs[j]? = some v → items[j]? = some pv → VR g h v pv) → VR g h (.list vs) (.ref a)

inductive VRs (g : Gx) (h : Heap) : List V → List Value → Prop
  | nil : VRs g h [] []
  | cons {v : V} {pv : Value} {vs : List V} {pvs : List Value} : VR g h v pv → VRs g h vs pvs → VRs g h (v :: vs) (pv :: pvs)

/-- sequences (lists) other than D are kept up to slots -/
noncomputable def SeqK (g : Gx) (h h' : Heap) : Prop := ∀ b o items n, h.get? b = some o → o.data = .seq items n → b ≠ g.D → ∃ sl, h'.get? b = some { o with slots := sl }

theorem VR.seqK {g : Gx} {h h' : Heap} (k : SeqK g h h') {v : V} {pv : Value} (x : VR g h v pv) : VR g h' v pv := by
  induction x with
  | int i t => exact .int i t
  | str s t => exact .str s t
  | bool b => exact .bool b
  | none => exact .none
  | self => exact .self
  | rs => exact .rs
  | gset => exact .gset
  | words => exact .words
  | am a => exact .am a
  | list ho hc hd hD hl _ ih =>
    obtain ⟨sl, e⟩ := k _ _ _ _ ho hd hD
    exact .list e hc hd hD hl ih
theorem VRs.seqK {g : Gx} {h h' : Heap} (k : SeqK g h h') {v : List V} {pv : List Value} (x : VRs g h v pv) : VRs g h' v pv := by
  induction x with
  | nil => exact .nil
  | cons a _ ih => exact .cons (a.seqK k) ih

noncomputable def isDC : Data → Bool
  | .dict .. => true
  | .cell _ => true
  | _ => false

structure Cx where
  g : Gx
  A : Around
  env : Env
  stk : List Env
  own : List Addr

/-- kept: a record as it is, another object up to slots -/
structure KO (o : Obj) (x : Option Obj) : Prop where
  sl : ∃ sl, x = some { o with slots := sl }
  rc : (∃ vs, o.data = .fields vs) → x = some o
theorem KO.of {o : Obj} {x : Option Obj} (e : x = some o) : KO o x := ⟨⟨o.slots, e⟩, fun _ => e⟩
theorem KO.trans {o : Obj} {x y : Option Obj} (a : KO o x) (b : ∀ o', x = some o' → KO o' y) : KO o y := by
  obtain ⟨⟨sl, e⟩, r⟩ := a
  obtain ⟨⟨sl', e'⟩, r'⟩ := b _ e
  refine ⟨⟨sl', e'⟩, fun h => ?_⟩
  have := r h
  rw [e] at this
  rw [← this]
  exact r' h

/-- what a run of the frame may not change -/
structure Ext (c : Cx) (h h' : Heap) : Prop where
  none : ∀ b, h'.get? b = none → h.get? b = none
  keep : ∀ b o, h.get? b = some o → b ∉ c.own → b ≠ c.g.D → KO o (h'.get? b)

theorem Ext.refl (c : Cx) (h : Heap) : Ext c h h := ⟨fun _ e => e, fun _ o e _ _ => .of e⟩
theorem Ext.trans {c : Cx} {h h' h'' : Heap} (x : Ext c h h') (y : Ext c h' h'') : Ext c h h'' :=
  ⟨fun b e => x.none b (y.none b e), fun b o e n d => (x.keep b o e n d).trans fun o' e' => y.keep b o' e' n d⟩

noncomputable def atom : V → Bool
  | .int _ => true
  | .str _ => true
  | .bool _ => true
  | .none => true
  | _ => false
noncomputable def plainV : V → Bool
  | .list _ => false
  | _ => true
theorem VR.plain {g : Gx} {h h' : Heap} {v : V} {pv : Value} (hp : plainV v = true) (x : VR g h v pv) : VR g h' v pv := by
  cases x with
  | int i t => exact .int i t
  | str s t => exact .str s t
  | bool b => exact .bool b
  | none => exact .none
  | self => exact .self
  | rs => exact .rs
  | gset => exact .gset
  | words => exact .words
  | am a => exact .am a
  | list => cases hp
theorem atom_plain {v : V} (h : atom v = true) : plainV v = true := by cases v <;> first | rfl | cases h

inductive EsR (g : Gx) (h : Heap) : List DictEntry → List (Str × V) → Prop
  | nil : EsR g h [] []
  | cons {e : DictEntry} {es : List DictEntry} {x : Str} {t : Tok} {v : V} {ob : List (Str × V)} : e.key = .str x t → VR g h v e.val → atom v = true → EsR g h es ob → EsR g h (e :: es) ((x, v) :: ob)
theorem EsR.any {g : Gx} {h h' : Heap} {es : List DictEntry} {ob : List (Str × V)} (x : EsR g h es ob) : EsR g h' es ob := by
  induction x with
  | nil => exact .nil
  | cons a b ha _ ih => exact .cons a (b.plain (atom_plain ha)) ha ih
theorem EsR.seqK {g : Gx} {h h' : Heap} (_ : SeqK g h h') {es : List DictEntry} {ob : List (Str × V)} (x : EsR g h es ob) : EsR g h' es ob := x.any

noncomputable def selfNames : List Str := ["current", "cursor", "limit", "limit_backward", "bra", "ket", "I_pV", "I_p2"]

/-- the one changing object: the stemmer's dict, or the list of words -/
noncomputable def OR (g : Gx) (h : Heap) (ob : List (Str × V)) : Prop := match g.k with
  | .non => ob = [] ∧ ∃ o, h.get? g.D = some o
  | .stem => (∃ sl slx es n, h.get? g.X = some { instObj 710 g.D with slots := slx } ∧ h.get? g.D = some { dictOf es n with slots := sl } ∧ EsR g h es ob) ∧ ob.all (fun x => selfNames.contains x.1) = true
  | .words => ∃ o items n, h.get? g.D = some o ∧ (o.cls = .type "list" ∧ o.dict = none) ∧ o.data = .seq items n ∧ VRs g h (ob.map (·.2)) items.toList ∧ ob.all (fun x => atom x.2) = true

theorem OR.has {g : Gx} {h : Heap} {ob : List (Str × V)} (x : OR g h ob) : ∃ o, h.get? g.D = some o := by
  unfold OR at x
  split at x
  · exact x.2
  · obtain ⟨⟨_, _, _, _, _, b, _⟩, _⟩ := x; exact ⟨_, b⟩
  · obtain ⟨o, _, _, a, _⟩ := x; exact ⟨o, a⟩

structure St where
  loc : List (Str × V)
  ob : List (Str × V)

noncomputable def LocAt (c : Cx) (h : Heap) (m : Str → Option Value) (x : Str) (v : V) : Prop := match c.env.kindOf x with
  | some .local => ∃ pv, m x = some pv ∧ VR c.g h v pv
  | some .cell => ∃ a pv, c.env.cells.lookup x = some a ∧ h.IsCell a (some pv) ∧ VR c.g h v pv
  | some .free => ∃ a pv, c.env.cells.lookup x = some a ∧ h.IsCell a (some pv) ∧ VR c.g h v pv
  | _ => False

structure Rel (c : Cx) (σ : St) (s : Shared) : Prop where
  base : c.g.base.StaysIn s.heap
  fn : s.heap.FunFrames c.g.base (c.stk)
  loc : ∃ m, s.heap.Ns c.env.locals m ∧ ∀ x v, σ.loc.lookup x = some v → LocAt c s.heap m x v
  own : ∀ b ∈ c.own, ∃ o, s.heap.get? b = some o ∧ isDC o.data = true
  ob : OR c.g s.heap σ.ob
  gens : s.gens = #[]
  os : s.os = c.g.os

structure Fi where
  sc : Scope
  d : Nat
  fn : Bool
  k : Kd

noncomputable def listAt (K : Frag) (a : Addr) : Option (List Value) := match K.lookup a with
  | some ⟨.type "list", _, .seq items _, _⟩ => some items.toList
  | _ => none
structure Gx.Ok (g : Gx) : Prop where
  K : (KF g.w.params).In g.base
  T : TopRead qv lo g.mg g.mb g.base
  nD : g.k ≠ .non → g.base.get? g.D = none
  lD : ∀ a items, listAt (KF g.w.params) a = some items → a ≠ g.D

structure Cx.Ok (F : Fi) (c : Cx) : Prop where
  g : c.g.Ok
  fr : c.A.frames = some (c.stk)
  hd : c.A.handled = none
  dp : c.A.depth ≤ F.d
  un : c.A.units ≤ 10 * F.d
  sc : c.env.scope = F.sc
  kd : F.sc.kind = .function
  gl : c.env.globals = mainGlobals
  bu : c.env.builtins = builtinsNs
  k : c.g.k = F.k
  frm : F.fn = true → c.env.frame = some c.env.locals ∧ ∃ outer, c.stk = c.env :: outer
  cel : F.fn = true → ∀ x a, c.env.kindOf x = some .cell → c.env.cells.lookup x = some a → a ∈ c.own
  celD : ∀ x a, c.env.kindOf x = some .cell ∨ c.env.kindOf x = some .free → c.env.cells.lookup x = some a → a ≠ c.g.D
  ownL : c.env.locals ∈ c.own
  nD : c.g.D ∉ c.own
  ownB : ∀ b ∈ c.own, c.g.base.get? b = none
  frD : ∀ e ∈ c.stk, e.frame ≠ some c.g.D

theorem Rel.K {c : Cx} {F : Fi} {σ : St} {s : Shared} (O : c.Ok F) (R : Rel c σ s) : (KF c.g.w.params).In s.heap := O.g.K.keeps R.base

theorem Ext.seqK {c : Cx} {h h' : Heap} (x : Ext c h h') (own : ∀ b ∈ c.own, ∃ o, h.get? b = some o ∧ isDC o.data = true) : SeqK c.g h h' := fun b o items n e hd hD => by
  refine (x.keep b o e (fun hm => ?_) hD).sl
  obtain ⟨o', e', q⟩ := own b hm
  rw [e] at e'; cases e'
  rw [hd] at q; cases q

/-- the parts of Rel other than locals and the object survive a step that keeps base and is Ext -/
theorem LocAt.keep {c : Cx} {h h' : Heap} {m : Str → Option Value} {x : Str} {v : V} (k : SeqK c.g h h') (kc : ∀ a pv, h.IsCell a (some pv) → h'.IsCell a (some pv)) (y : LocAt c h m x v) : LocAt c h' m x v := by
  unfold LocAt at y ⊢
  split at y
  · obtain ⟨pv, a, b⟩ := y; exact ⟨pv, a, b.seqK k⟩
  · obtain ⟨a, pv, b, d, e⟩ := y; exact ⟨a, pv, b, kc _ _ d, e.seqK k⟩
  · obtain ⟨a, pv, b, d, e⟩ := y; exact ⟨a, pv, b, kc _ _ d, e.seqK k⟩
  · exact y.elim

/-! judgements -/
noncomputable def HE (F : Fi) (e : Expr) (σ : St) (Q : V → St → Prop) : Prop :=
  ∀ c : Cx, c.Ok F → ∀ s, Rel c σ s → wpAny (model pw c.g.w) c.A (eval e c.env)
    (fun pv s' => ∃ v σ', Rel c σ' s' ∧ Ext c s.heap s'.heap ∧ VR c.g s'.heap v pv ∧ Q v σ') (fun _ _ => False) s

noncomputable def HT (F : Fi) (e : Expr) (σ : St) (Q : Bool → St → Prop) : Prop :=
  ∀ c : Cx, c.Ok F → ∀ s, Rel c σ s → wpAny (model pw c.g.w) c.A (isTrue e c.env (eval e c.env))
    (fun b s' => ∃ σ', Rel c σ' s' ∧ Ext c s.heap s'.heap ∧ Q b σ') (fun _ _ => False) s

inductive Fl where
  | next | brk | cont | ret (v : V) | exc (i : Nat)

noncomputable def labA : Nat → Addr
  | 0 => 722
  | 1 => 735
  | _ => 748

/-- an exception of one of the three classes, on its way in frame L; fresh against h₀ -/
noncomputable def Thrown (L : Addr) (h₀ h : Heap) (e : Addr) (i : Nat) : Prop :=
  h₀.get? e = none ∧ ∃ oe vs, h.get? e = some oe ∧ oe.cls = .ref (labA i) ∧ oe.data = .fields vs ∧
    (vs[1]? = some .none ∨ ∃ T oT ts, vs[1]? = some (.ref T) ∧ h₀.get? T = none ∧ T ≠ e ∧ h.get? T = some oT ∧ oT.data = .fields ts ∧ (ts[3]? = some (rawInt L)))

noncomputable def FR (c : Cx) (h : Heap) : Flow → Fl → Prop
  | .next, .next => True
  | .brk, .brk => True
  | .cont, .cont => True
  | .ret pv, .ret v => VR c.g h v pv
  | _, _ => False

noncomputable def QS (c : Cx) (h₀ : Heap) (Q : Fl → St → Prop) (f : Flow) (s' : Shared) : Prop :=
  ∃ φ σ', Rel c σ' s' ∧ Ext c h₀ s'.heap ∧ FR c s'.heap f φ ∧ Q φ σ'
noncomputable def ES (c : Cx) (h₀ : Heap) (Q : Fl → St → Prop) (x : Value) (s' : Shared) : Prop :=
  ∃ e i σ', x = .ref e ∧ Thrown c.env.locals h₀ s'.heap e i ∧ Rel c σ' s' ∧ Ext c h₀ s'.heap ∧ Q (.exc i) σ'

noncomputable def HS (F : Fi) (st : Stmt) (σ : St) (Q : Fl → St → Prop) : Prop :=
  ∀ c : Cx, c.Ok F → ∀ s, Rel c σ s → wpAny (model pw c.g.w) c.A (exec st c.env) (QS c s.heap Q) (ES c s.heap Q) s
noncomputable def HB (F : Fi) (b : List Stmt) (σ : St) (Q : Fl → St → Prop) : Prop :=
  ∀ c : Cx, c.Ok F → ∀ s, Rel c σ s → wpAny (model pw c.g.w) c.A (execs b c.env) (QS c s.heap Q) (ES c s.heap Q) s

theorem Thrown.weak {L : Addr} {h₀ h₁ h : Heap} {e : Addr} {i : Nat} (x : Thrown L h₁ h e i) (k : ∀ b, h₁.get? b = none → h₀.get? b = none) : Thrown L h₀ h e i := by
  obtain ⟨a, oe, vs, b, d, f, r⟩ := x
  refine ⟨k _ a, oe, vs, b, d, f, r.imp id ?_⟩
  rintro ⟨T, oT, ts, p, q, r⟩
  exact ⟨T, oT, ts, p, k _ q, r⟩

theorem QS.weak {c : Cx} {h₀ h₁ : Heap} {Q : Fl → St → Prop} {f : Flow} {s' : Shared} (k : Ext c h₀ h₁) (x : QS c h₁ Q f s') : QS c h₀ Q f s' :=
  let ⟨φ, σ', a, b, d, e⟩ := x; ⟨φ, σ', a, k.trans b, d, e⟩
theorem ES.weak {c : Cx} {h₀ h₁ : Heap} {Q : Fl → St → Prop} {f : Value} {s' : Shared} (k : Ext c h₀ h₁) (x : ES c h₁ Q f s') : ES c h₀ Q f s' :=
  let ⟨e, i, σ', a, t, r, b, d⟩ := x; ⟨e, i, σ', a, t.weak k.none, r, k.trans b, d⟩

theorem HB_nil {F : Fi} {σ : St} {Q : Fl → St → Prop} (h : Q .next σ) : HB F [] σ Q := fun c O s R =>
  wpAny_execs_nil ⟨.next, σ, R, .refl _ _, trivial, h⟩
noncomputable def Kont (F : Fi) (rest : List Stmt) (Q : Fl → St → Prop) (φ : Fl) (σ' : St) : Prop := match φ with | .next => HB F rest σ' Q | φ => Q φ σ'
theorem HB_cons {F : Fi} {st : Stmt} {rest : List Stmt} {σ : St} {Q : Fl → St → Prop}
    (h : HS F st σ (Kont F rest Q)) : HB F (st :: rest) σ Q := fun c O s R => by
  refine wpAny_execs_cons (wpAny_mono (h c O s R) (fun f s' q => ?_) fun x s' q => ?_)
  · obtain ⟨φ, σ', R', X, fr, q⟩ := q
    cases f <;> cases φ <;> first
      | exact fr.elim
      | exact wpAny_mono (q c O s' R') (fun _ _ z => z.weak X) fun _ _ z => z.weak X
      | exact ⟨_, σ', R', X, fr, q⟩
  · obtain ⟨e, i, σ', rfl, t, R', X, q⟩ := q
    exact ⟨e, i, σ', rfl, t, R', X, q⟩
end Mine

end

-- W2
section
namespace Mine

noncomputable def hN : Heap := { objs := #[], life := default }
theorem hN_get (b : Addr) : hN.get? b = none := by unfold Heap.get? hN; simp

theorem funFrames_of {base h h' : Heap} (k : ∀ b o, h.get? b = some o → (∀ vs, o.data ≠ .fields vs) → ∃ o', h'.get? b = some o' ∧ ∀ vs, o'.data ≠ .fields vs) : ∀ {l : List Env}, h.FunFrames base l → h'.FunFrames base l
  | [], _ => trivial
  | _ :: _, ⟨hk, ⟨L, o, hf, hn, ho, hd⟩, hr⟩ => let ⟨o', e, q⟩ := k L o ho hd; ⟨hk, ⟨L, o', hf, hn, e, q⟩, funFrames_of k hr⟩

/-- everything but the frame's names is kept as it is; the names read as before -/
structure Kp (c : Cx) (h h' : Heap) : Prop where
  keep : ∀ b o, h.get? b = some o → b ≠ c.env.locals → h'.get? b = some o
  ns : ∀ m, h.Ns c.env.locals m → h'.Ns c.env.locals m

theorem Kp.of_keeps {c : Cx} {h h' : Heap} (k : ∀ b o, h.get? b = some o → h'.get? b = some o) : Kp c h h' := ⟨fun b o e _ => k b o e, fun _ n => n.keeps k⟩
theorem Kp.refl (c : Cx) (h : Heap) : Kp c h h := .of_keeps fun _ _ e => e

theorem ns_uniq {h : Heap} {a : Addr} {m m' : Str → Option Value} (x : h.Ns a m) (y : h.Ns a m') : m = m' := by
  obtain ⟨o, es, ep, ho, hd, _, hf⟩ := x
  obtain ⟨o', es', ep', ho', hd', _, hf'⟩ := y
  rw [ho] at ho'; cases ho'
  rw [hd] at hd'; cases hd'
  funext n
  rw [← hf n, ← hf' n]

theorem OR.keep {g : Gx} {h h' : Heap} {ob : List (Str × V)} (k : SeqK g h h') (kx : ∀ o, h.get? g.X = some o → o.data = .plain → ∃ sl, h'.get? g.X = some { o with slots := sl })
    (kd : ∀ o, h.get? g.D = some o → ∃ sl, h'.get? g.D = some { o with slots := sl }) (x : OR g h ob) : OR g h' ob := by
  unfold OR at x ⊢
  split at x
  · obtain ⟨a, o, e⟩ := x
    obtain ⟨sl, e'⟩ := kd _ e
    exact ⟨a, _, e'⟩
  · obtain ⟨⟨sl, slx, es, n, a, b, e⟩, al⟩ := x
    obtain ⟨slx', a'⟩ := kx _ a rfl
    obtain ⟨sl', b'⟩ := kd _ b
    exact ⟨⟨sl', slx', es, n, a', b', e.seqK k⟩, al⟩
  · obtain ⟨o, items, n, a, b, d, e, f⟩ := x
    obtain ⟨sl', a'⟩ := kd _ a
    exact ⟨_, items, n, a', b, d, e.seqK k, f⟩

theorem dc_ns {h : Heap} {a : Addr} {m : Str → Option Value} (x : h.Ns a m) : ∃ o, h.get? a = some o ∧ isDC o.data = true := by
  obtain ⟨o, es, ep, ho, hd, _⟩ := x
  exact ⟨o, ho, by rw [hd]; rfl⟩

theorem Rel.kp {F : Fi} {c : Cx} {σ : St} {s : Shared} (O : c.Ok F) (R : Rel c σ s) {h' : Heap} (k : Kp c s.heap h') (d : Drawn) (tk : Nat) :
    Rel c σ ⟨h', s.gens, d, tk, s.os⟩ ∧ Ext c s.heap h' := by
  obtain ⟨m, hm, hl⟩ := R.loc
  obtain ⟨oL, hL, dL⟩ := dc_ns hm
  have hm' := k.ns m hm
  have X : Ext c s.heap h' := by
    refine ⟨fun b e => ?_, fun b o e n _ => .of (k.keep b o e fun q => n (q ▸ O.ownL))⟩
    cases hb : s.heap.get? b with
    | none => rfl
    | some o =>
      by_cases q : b = c.env.locals
      · subst q
        obtain ⟨o', h1, _⟩ := dc_ns hm'
        rw [e] at h1; cases h1
      · rw [k.keep b o hb q] at e; cases e
  have sk := X.seqK R.own
  have cellk : ∀ a pv, s.heap.IsCell a (some pv) → h'.IsCell a (some pv) := fun a pv ⟨o, ho, hd⟩ => ⟨o, k.keep a o ho (fun q => by
    subst q
    obtain ⟨o', es, ep, ho', hd', _⟩ := hm
    rw [ho] at ho'; cases ho'
    rw [hd] at hd'; cases hd'), hd⟩
  refine ⟨⟨fun b o e => k.keep b o (R.base b o e) fun q => ?_, ?_, ⟨m, hm', fun x v e => (hl x v e).keep sk cellk⟩, ?_, R.ob.keep sk (fun o e hp => ⟨o.slots, k.keep _ _ e fun q => ?_⟩) (fun o e => ⟨o.slots, k.keep _ _ e fun q => O.nD (q ▸ O.ownL)⟩), R.gens, R.os⟩, X⟩
  · subst q
    rw [O.ownB _ O.ownL] at e; cases e
  · refine funFrames_of (fun b o e nf => ?_) R.fn
    by_cases q : b = c.env.locals
    · subst q
      obtain ⟨o', es, ep, ho', hd', _⟩ := hm'
      exact ⟨o', ho', fun vs z => by rw [hd'] at z; cases z⟩
    · exact ⟨o, k.keep b o e q, nf⟩
  · intro b hb
    by_cases q : b = c.env.locals
    · subst q; exact dc_ns hm'
    · obtain ⟨o, e, z⟩ := R.own b hb; exact ⟨o, k.keep b o e q, z⟩
  · rw [q, hL] at e; cases e
    rw [hp] at dL; cases dL

/-- the ledger of all else -/
noncomputable def allBut (h : Heap) (L : Addr) : List (Addr × Obj) := (List.range h.objs.size).filterMap fun b => if b = L then none else (h.get? b).map fun o => (b, o)
theorem mem_allBut {h : Heap} {L b : Addr} {o : Obj} : (b, o) ∈ allBut h L ↔ h.get? b = some o ∧ b ≠ L := by
  unfold allBut
  rw [List.mem_filterMap]
  constructor
  · rintro ⟨a, ha, e⟩
    split at e
    · cases e
    · rename_i q
      obtain ⟨o', h1, h2⟩ := Option.map_eq_some_iff.mp e
      cases h2
      exact ⟨h1, q⟩
  · rintro ⟨e, q⟩
    refine ⟨b, List.mem_range.mpr (Heap.lt_size e), ?_⟩
    rw [if_neg q, e]; rfl

theorem Rel.led {c : Cx} {σ : St} {s : Shared} (R : Rel c σ s) : ∃ m, Fr hN c.env.locals s.heap m ∧ News hN c.env.locals s.heap (allBut s.heap c.env.locals) ∧
    (∀ h', Fr hN c.env.locals h' m → News hN c.env.locals h' (allBut s.heap c.env.locals) → Kp c s.heap h') := by
  obtain ⟨m, hm, _⟩ := R.loc
  refine ⟨m, ⟨hm, (fun b o e => by rw [hN_get] at e; cases e), Nat.zero_le _⟩, fun p hp => ?_, fun h' F' N' => ⟨fun b o e q => (N' (b, o) (mem_allBut.mpr ⟨e, q⟩)).1, fun m' hm' => ns_uniq hm hm' ▸ F'.ns⟩⟩
  obtain ⟨a, b⟩ := mem_allBut.mp hp
  exact ⟨a, b, hN_get _⟩

theorem Ext.of_kp {F : Fi} {c : Cx} {σ : St} {s : Shared} (O : c.Ok F) (R : Rel c σ s) {h' : Heap} (k : Kp c s.heap h') : Ext c s.heap h' := (R.kp O k s.drawn 0).2

/-- an expression that ends at once -/
theorem endE {F : Fi} {c : Cx} {σ : St} {s : Shared} (O : c.Ok F) (R : Rel c σ s) {h' : Heap} (k : Kp c s.heap h') {d : Drawn} {tk : Nat} {v : V} {pv : Value} {Q : V → St → Prop} (hv : VR c.g h' v pv) (h : Q v σ) :
    ∃ v σ', Rel c σ' ⟨h', s.gens, d, tk, s.os⟩ ∧ Ext c s.heap h' ∧ VR c.g h' v pv ∧ Q v σ' :=
  ⟨v, σ, (R.kp O k d tk).1, (R.kp O k d tk).2, hv, h⟩

section
variable {F : Fi} {σ : St} {Q : V → St → Prop}

theorem HE_int {i : Int} {k pos} (h : Q (.int i) σ) : HE F (.Constant (.int i) k pos) σ Q := fun c O s R =>
  wpAny_Constant_int (endE O R (.refl _ _) (.int _ _) h)
theorem HE_str {x : Str} {k pos} (h : Q (.str x) σ) : HE F (.Constant (.str x) k pos) σ Q := fun c O s R =>
  Constant_str (endE O R (.refl _ _) (.str _ _) h)
theorem HE_bool {b : Bool} {k pos} (h : Q (.bool b) σ) : HE F (.Constant (.bool b) k pos) σ Q := fun c O s R =>
  fun _ _ _ => endE (tk := s.toks) (d := s.drawn) O R (.refl _ _) (.bool _) h
theorem HE_none {k pos} (h : Q .none σ) : HE F (.Constant .none k pos) σ Q := fun c O s R =>
  fun _ _ _ => endE (tk := s.toks) (d := s.drawn) O R (.refl _ _) .none h

noncomputable def isLoc (F : Fi) (x : Str) : Bool := (match F.sc.names.lookup x with
  | some .local => true
  | some .cell => true
  | some .free => !(x == ("__classdict__" : Str))
  | _ => false) && !(x == ("__debug__" : Str))

theorem HE_name {x : Str} {pos} {v : V} (e : σ.loc.lookup x = some v) (hl : isLoc F x = true) (h : Q v σ) : HE F (.Name x pos) σ Q := fun c O s R => by
  obtain ⟨m, hm, hlc⟩ := R.loc
  have := hlc x v e
  unfold LocAt at this
  have hko : c.env.kindOf x = F.sc.names.lookup x := by unfold Env.kindOf; rw [O.sc]
  obtain ⟨hl, hd⟩ := Bool.and_eq_true_iff.mp hl
  have hd : (x == ("__debug__" : Str)) = false := by simpa using hd
  have hk : c.env.scope.kind = .function := by rw [O.sc]; exact O.kd
  rw [hko] at this
  split at this
  · rename_i q
    obtain ⟨pv, a, b⟩ := this
    exact wpAny_Name (wpAny_loadName_local hk (hko.trans q) hm a (endE (tk := s.toks) (d := s.drawn) O R (.refl _ _) b h)) hd
  · rename_i q
    obtain ⟨a, pv, b, d, f⟩ := this
    exact wpAny_Name (wpAny_loadName_cell hk (hko.trans q) b d (endE (tk := s.toks) (d := s.drawn) O R (.refl _ _) f h)) hd
  · rename_i q
    obtain ⟨a, pv, b, d, f⟩ := this
    rw [q] at hl
    exact wpAny_Name (wpAny_loadName_free hk (hko.trans q) b d (endE (tk := s.toks) (d := s.drawn) O R (.refl _ _) f h) (by simpa using hl)) hd
  · exact this.elim

theorem HE_mono {e : Expr} {Q' : V → St → Prop} (h : HE F e σ Q) (k : ∀ v σ, Q v σ → Q' v σ) : HE F e σ Q' := fun c O s R =>
  wpAny_mono (h c O s R) (fun pv s' ⟨v, σ', a, b, d, e⟩ => ⟨v, σ', a, b, d, k _ _ e⟩) fun _ _ z => z
theorem HB_mono {b : List Stmt} {P P' : Fl → St → Prop} (h : HB F b σ P) (k : ∀ v σ, P v σ → P' v σ) : HB F b σ P' := fun c O s R =>
  wpAny_mono (h c O s R) (fun f s' ⟨φ, σ', a, b, d, e⟩ => ⟨φ, σ', a, b, d, k _ _ e⟩) fun _ _ ⟨e, i, σ', a, b, d, f, q⟩ => ⟨e, i, σ', a, b, d, f, k _ _ q⟩
theorem HS_mono {b : Stmt} {P P' : Fl → St → Prop} (h : HS F b σ P) (k : ∀ v σ, P v σ → P' v σ) : HS F b σ P' := fun c O s R =>
  wpAny_mono (h c O s R) (fun f s' ⟨φ, σ', a, b, d, e⟩ => ⟨φ, σ', a, b, d, k _ _ e⟩) fun _ _ ⟨e, i, σ', a, b, d, f, q⟩ => ⟨e, i, σ', a, b, d, f, k _ _ q⟩

/-- two values in a row -/
theorem two {c : Cx} (O : c.Ok F) {s : Shared} {l r : Expr} {P : Value → Shared → Prop} {Q : V → V → St → Prop} (R : Rel c σ s) {f : Value → Value → Sem Value}
    (h : HE F l σ (fun a σ₁ => HE F r σ₁ (Q a)))
    (k : ∀ a b pa pb σ' s', Rel c σ' s' → Ext c s.heap s'.heap → VR c.g s'.heap a pa → VR c.g s'.heap b pb → Q a b σ' → wpAny (model pw c.g.w) c.A (f pa pb) P (fun _ _ => False) s') :
    wpAny (model pw c.g.w) c.A (eval l c.env) (fun a s₁ => wpAny (model pw c.g.w) c.A (eval r c.env) (fun b s₂ => wpAny (model pw c.g.w) c.A (f a b) P (fun _ _ => False) s₂) (fun _ _ => False) s₁) (fun _ _ => False) s := by
  refine wpAny_mono (h c O s R) (fun pa s₁ zz => ?_) fun _ _ z => z
  obtain ⟨a, σ₁, R₁, X₁, va, ha⟩ := zz
  refine wpAny_mono (ha c O s₁ R₁) (fun pb s₂ zz => ?_) fun _ _ z => z
  obtain ⟨b, σ₂, R₂, X₂, vb, hb⟩ := zz
  exact k a b pa pb σ₂ s₂ R₂ (X₁.trans X₂) (va.seqK (X₂.seqK R₁.own)) vb hb

theorem moreE {c : Cx} {h₀ h₁ : Heap} {pv : Value} {s' : Shared} {Q : V → St → Prop} (X : Ext c h₀ h₁) (x : ∃ v σ', Rel c σ' s' ∧ Ext c h₁ s'.heap ∧ VR c.g s'.heap v pv ∧ Q v σ') :
    ∃ v σ', Rel c σ' s' ∧ Ext c h₀ s'.heap ∧ VR c.g s'.heap v pv ∧ Q v σ' :=
  let ⟨v, σ', a, b, d, e⟩ := x; ⟨v, σ', a, X.trans b, d, e⟩
end
end Mine

end

-- W3
section
namespace Mine

theorem seqK_base {F : Fi} {c : Cx} {σ : St} {s : Shared} (R : Rel c σ s) : SeqK c.g c.g.base s.heap := fun b o _ _ e _ _ => ⟨o.slots, R.base b o e⟩

theorem HE_glob {F : Fi} {σ : St} {Q : V → St → Prop} {x : Str} {pos} {v : V} {pv : Value} (hx : F.sc.names.lookup x = some .globalImplicit) (e : ∀ P, nsIn (KF P) mainGlobals x = some (some pv))
    (hv : ∀ g : Gx, g.Ok → VR g g.base v pv) (h : Q v σ) (hd : (x == ("__debug__" : Str)) = false := by decide) : HE F (.Name x pos) σ Q := fun c O s R => by
  have hko : c.env.kindOf x = some .globalImplicit := by unfold Env.kindOf; rw [O.sc]; exact hx
  have hk : c.env.scope.kind = .function := by rw [O.sc]; exact O.kd
  have hg : s.heap.Ns c.env.globals c.g.mg := by rw [O.gl]; exact O.g.T.g.keeps R.base
  refine Name_function_global hk hko (loadGlobal_global hg (mg_of O.g.K O.g.T.g (e _)) ?_) hd
  exact endE (tk := s.toks) (d := s.drawn) O R (.refl _ _) ((hv _ O.g).seqK (seqK_base (F := F) R)) h

/-! the stemmer's attributes -/
theorem isStr_str {x y : Str} {t : Tok} : (Value.str x t).isStr y = (x == y) := rfl

theorem getL_some {g : Gx} {h : Heap} {es : List DictEntry} {ob : List (Str × V)} (x : EsR g h es ob) {name : Str} {v : V} (e : ob.lookup name = some v) : ∃ pv, getL name es = some (some pv) ∧ VR g h v pv := by
  induction x with
  | nil => cases e
  | @cons en es y t v' ob hk hv ha _ ih =>
    rw [List.lookup_cons] at e
    unfold getL
    rw [List.find?_cons, hk, isStr_str]
    by_cases q : name = y
    · subst q
      simp only [beq_self_eq_true] at e ⊢
      cases e
      exact ⟨_, rfl, hv⟩
    · rw [beq_eq_false_iff_ne.mpr q] at e
      rw [beq_eq_false_iff_ne.mpr (Ne.symm q)]
      obtain ⟨pv, a, b⟩ := ih e
      refine ⟨pv, ?_, b⟩
      unfold getL at a
      revert a
      cases List.find? (fun x => x.key.isStr name) es with
      | some _ => exact id
      | none => intro a; dsimp only at a; split at a <;> cases a

theorem getL_isSome {g : Gx} {h : Heap} {es : List DictEntry} {ob : List (Str × V)} (x : EsR g h es ob) (name : Str) : (getL name es).isSome = true ∧ (ob.lookup name = none → getL name es = some none) := by
  have nr : es.any (·.refKey) = false := by
    induction x with
    | nil => rfl
    | cons hk _ _ _ ih => rw [List.any_cons, ih, Bool.or_false]; unfold DictEntry.refKey; rw [hk]
  cases e : ob.lookup name with
  | some v =>
    obtain ⟨pv, a, _⟩ := getL_some x e
    rw [a]; exact ⟨rfl, fun z => by cases z⟩
  | none =>
    have : es.find? (·.key.isStr name) = none := by
      clear nr
      induction x with
      | nil => rfl
      | @cons en es y t v' ob hk hv ha _ ih =>
        rw [List.lookup_cons] at e
        rw [List.find?_cons, hk, isStr_str]
        by_cases q : name = y
        · subst q; simp at e
        · rw [beq_eq_false_iff_ne.mpr q] at e
          rw [beq_eq_false_iff_ne.mpr (Ne.symm q)]
          exact ih e
    unfold getL
    rw [this, nr]
    exact ⟨rfl, fun _ => rfl⟩

noncomputable def setL (name : Str) (v : V) : List (Str × V) → List (Str × V)
  | [] => [(name, v)]
  | (x, u) :: r => if x == name then (x, v) :: r else (x, u) :: setL name v r

theorem putL_R {g : Gx} {h : Heap} {es : List DictEntry} {ob : List (Str × V)} (x : EsR g h es ob) {name : Str} {hsh : Int} {t : Tok} {v : V} {pv : Value} (hv : VR g h v pv) (av : atom v = true) : EsR g h (putL name hsh (.str name t) pv es) (setL name v ob) := by
  induction x with
  | nil => exact .cons rfl hv av .nil
  | @cons en es y t' v' ob hk hv' ha _ ih =>
    unfold putL setL
    rw [hk, isStr_str]
    by_cases q : (y == name) = true
    · rw [if_pos q, if_pos q]; exact .cons rfl hv av (by assumption)
    · rw [if_neg q, if_neg q]; exact .cons hk hv' ha ih

theorem EsR.length {g : Gx} {h : Heap} {es : List DictEntry} {ob : List (Str × V)} (x : EsR g h es ob) : es.length = ob.length := by
  induction x with
  | nil => rfl
  | cons _ _ _ _ ih => simp [ih]

theorem handed {g : Gx} {h : Heap} {v : V} {pv : Value} (x : VR g h v pv) : handedIn pv = true := by cases x <;> rfl

noncomputable def okAttr (K : Frag) (n : Str) : Bool := plainGet K 710 n && hasDictIn K 710 && (match findIn K (.ref 710) n with | some a => noGet K a | none => false) && takerIn K 710 n == some none
noncomputable def okSet (K : Frag) : Bool := plainOver K 710 && findIn K (.ref 710) "__setattr__" == some (some (.builtin "object.__setattr__"))
theorem okAttrs (P : Params) : (selfNames.all (okAttr (KF P)) && okSet (KF P)) = true := by kernel_rfl

theorem okAttr_of {P : Params} {n : Str} (h : selfNames.contains n = true) : plainGet (KF P) 710 n = true ∧ hasDictIn (KF P) 710 = true ∧ (∃ a, findIn (KF P) (.ref 710) n = some a ∧ noGet (KF P) a = true) ∧ takerIn (KF P) 710 n = some none := by
  have := List.all_eq_true.mp (Bool.and_eq_true_iff.mp (okAttrs P)).1 n (by simpa using h)
  unfold okAttr at this
  simp only [Bool.and_eq_true, beq_iff_eq] at this
  obtain ⟨⟨⟨a, b⟩, d⟩, e⟩ := this
  refine ⟨a, b, ?_, e⟩
  split at d
  · rename_i a' q; exact ⟨a', q, d⟩
  · cases d

theorem get_self {F : Fi} {c : Cx} (O : c.Ok F) (hk : F.k = .stem) {σ : St} {s : Shared} (R : Rel c σ s) {name : Str} {v : V} (hn : selfNames.contains name = true) (e : σ.ob.lookup name = some v) {Q : Value → Shared → Prop} {E : Value → Shared → Prop} {expr : Bool}
    (h : ∀ pv, VR c.g s.heap v pv → Q pv { s with toks := s.toks + 1 }) : wpAny (model pw c.g.w) c.A (getAttr (.ref c.g.X) name expr) Q E s := by
  have or := R.ob
  unfold OR at or
  rw [O.k, hk] at or
  obtain ⟨⟨sl, slx, es, n, a, b, x⟩, _⟩ := or
  obtain ⟨pv, hl, hv⟩ := getL_some x e
  obtain ⟨p1, p2, ⟨at', p3, p4⟩, _⟩ := okAttr_of (P := c.g.w.params) hn
  have I : InstAt s.heap c.g.X { instObj 710 c.g.D with slots := slx } 710 (some { dictOf es n with slots := sl }) := ⟨a, rfl, rfl, b⟩
  exact get_value (R.K O) I (plainGet_of p1).1 (findObj_own p2 p3 p4 (hl : lookIn name { dictOf es n with slots := sl } = _)) (handed hv) (h pv hv)

theorem eval_attr_name {id : Str} {p pos : Pos} {attr : Str} {env : Env} : eval (.Attribute (.Name id p) attr pos) env = (do
      let o ← eval (.Name id p) env
      standAt pos.atName
      let r ← holding [o] (getAttr o attr true)
      letTemporaryGo (.Name id p) o r
      pure r) := rfl

theorem HE_self {F : Fi} {σ : St} {Q : V → St → Prop} {x name : Str} {p pos : Pos} {v : V} (hk : F.k = .stem) (hx : σ.loc.lookup x = some .self) (hl : isLoc F x = true) (hn : selfNames.contains name = true) (e : σ.ob.lookup name = some v)
    (h : Q v σ) : HE F (.Attribute (.Name x p) name pos) σ Q := fun c O s R => by
  refine Attribute_any_ (wpAny_mono (HE_name (Q := fun v σ' => v = .self ∧ σ' = σ) hx hl ⟨rfl, rfl⟩ c O s R) (fun pv s' zz => ?_) fun _ _ z => z) rfl
  obtain ⟨v', σ', R', X', hv, e1, e2⟩ := zz
  subst e1 e2
  cases hv
  exact get_self O hk R' hn e fun pv hv => moreE X' (endE O R' (.refl _ _) hv h)

/-- a new state of the changing object -/
theorem Rel.kp2 {F : Fi} {c : Cx} {σ : St} {s : Shared} (O : c.Ok F) (hnn : c.g.k ≠ .non) (R : Rel c σ s) {h' : Heap} {ob' : List (Str × V)} (keep : ∀ b o, s.heap.get? b = some o → b ≠ c.env.locals → b ≠ c.g.D → h'.get? b = some o)
    (ns : ∀ m, s.heap.Ns c.env.locals m → h'.Ns c.env.locals m) (hD : ∃ o, h'.get? c.g.D = some o) (or : SeqK c.g s.heap h' → OR c.g h' ob') (d : Drawn) (tk : Nat) :
    Rel c { σ with ob := ob' } ⟨h', s.gens, d, tk, s.os⟩ ∧ Ext c s.heap h' := by
  obtain ⟨m, hm, hl⟩ := R.loc
  obtain ⟨oL, hL, dL⟩ := dc_ns hm
  have hm' := ns m hm
  have X : Ext c s.heap h' := by
    refine ⟨fun b e => ?_, fun b o e n nd => .of (keep b o e (fun q => n (q ▸ O.ownL)) nd)⟩
    cases hb : s.heap.get? b with
    | none => rfl
    | some o =>
      by_cases q : b = c.env.locals
      · subst q
        obtain ⟨o', h1, _⟩ := dc_ns hm'
        rw [e] at h1; cases h1
      · by_cases q' : b = c.g.D
        · obtain ⟨o', h1⟩ := hD
          rw [q', h1] at e; cases e
        · rw [keep b o hb q q'] at e; cases e
  have sk := X.seqK R.own
  have nDL : ∀ b ∈ c.own, b ≠ c.g.D := fun b hb q => O.nD (q ▸ hb)
  have cellk : ∀ x a pv, c.env.kindOf x = some .cell ∨ c.env.kindOf x = some .free → c.env.cells.lookup x = some a → s.heap.IsCell a (some pv) → h'.IsCell a (some pv) := fun x a pv hk hc ⟨o, ho, hd⟩ => ⟨o, keep a o ho (fun q => by
    subst q
    obtain ⟨o', es, ep, ho', hd', _⟩ := hm
    rw [ho] at ho'; cases ho'
    rw [hd] at hd'; cases hd') (O.celD x a hk hc), hd⟩
  refine ⟨⟨fun b o e => keep b o (R.base b o e) (fun q => ?_) fun q => ?_, ?_, ⟨m, hm', fun x v e => ?_⟩, ?_, or sk, R.gens, R.os⟩, X⟩
  · subst q; rw [O.ownB _ O.ownL] at e; cases e
  · subst q; rw [O.g.nD hnn] at e; cases e
  · have := R.fn
    have key : ∀ {l : List Env}, (∀ e ∈ l, e.frame ≠ some c.g.D) → s.heap.FunFrames c.g.base l → h'.FunFrames c.g.base l := by
      intro l
      induction l with
      | nil => intro _ _; trivial
      | cons en l ih =>
        rintro hn ⟨hk, ⟨L, o, hf, hb, ho, hnf⟩, hr⟩
        refine ⟨hk, ?_, ih (fun e he => hn e (.tail _ he)) hr⟩
        by_cases q : L = c.env.locals
        · subst q
          obtain ⟨o', es, ep, ho', hd', _⟩ := hm'
          exact ⟨_, o', hf, hb, ho', fun vs z => by rw [hd'] at z; cases z⟩
        · exact ⟨L, o, hf, hb, keep L o ho q (fun z => hn en (.head _) (z ▸ hf)), hnf⟩
    exact key O.frD R.fn
  · have := hl x v e
    unfold LocAt at this ⊢
    split at this
    · obtain ⟨pv, a, b⟩ := this; exact ⟨pv, a, b.seqK sk⟩
    · rename_i q; obtain ⟨a, pv, b, d, e⟩ := this; exact ⟨a, pv, b, cellk x a _ (.inl q) b d, e.seqK sk⟩
    · rename_i q; obtain ⟨a, pv, b, d, e⟩ := this; exact ⟨a, pv, b, cellk x a _ (.inr q) b d, e.seqK sk⟩
    · exact this.elim
  · intro b hb
    by_cases q : b = c.env.locals
    · subst q; exact dc_ns hm'
    · obtain ⟨o, e, z⟩ := R.own b hb; exact ⟨o, keep b o e q (nDL b hb), z⟩

theorem set_self {F : Fi} {c : Cx} (O : c.Ok F) (hk : F.k = .stem) {σ : St} {s : Shared} (R : Rel c σ s) {name : Str} {v : V} {pv : Value} (hn : selfNames.contains name = true) (hz : σ.ob.length ≤ 20) (hv : VR c.g s.heap v pv) (av : atom v = true) {Q : Unit → Shared → Prop} {E : Value → Shared → Prop}
    (h : ∀ s', Rel c { σ with ob := setL name v σ.ob } s' → Ext c s.heap s'.heap → Q () s') : wpAny (model pw c.g.w) c.A (setAttr (.ref c.g.X) name pv) Q E s := by
  have or := R.ob
  unfold OR at or
  rw [O.k, hk] at or
  obtain ⟨⟨sl, slx, es, n, a, b, x⟩, al⟩ := or
  obtain ⟨p1, p2, _, p4⟩ := okAttr_of (P := c.g.w.params) hn
  have ps := (Bool.and_eq_true_iff.mp (okAttrs c.g.w.params)).2
  unfold okSet at ps
  simp only [Bool.and_eq_true, beq_iff_eq] at ps
  have I : InstAt s.heap c.g.X { instObj 710 c.g.D with slots := slx } 710 (some { dictOf es n with slots := sl }) := ⟨a, rfl, rfl, b⟩
  obtain ⟨m, Fm, N, _⟩ := R.led
  have nLD : c.g.D ≠ c.env.locals := fun q => O.nD (q ▸ O.ownL)
  have N' : News hN c.env.locals s.heap (((allBut s.heap c.env.locals).filter fun p => p.1 ≠ c.g.D) ++ (c.g.D, ({ dictOf es n with slots := sl } : Obj)) :: []) := by
    intro p hp
    rcases List.mem_append.mp hp with q | q
    · exact N p (List.mem_filter.mp q).1
    · rcases List.mem_singleton.mp q with rfl
      exact ⟨b, nLD, hN_get _⟩
  have e' : Obj.putName name (PyData.keyHash c.g.w.params name) (.str name (s.toks + 1)) pv { dictOf es n with slots := sl } = { dictOf (putL name (PyData.keyHash c.g.w.params name) (.str name (s.toks + 1)) pv es) (putN name es n) with slots := sl } := by
    have := putName_dict name (PyData.keyHash c.g.w.params name) (.str name (s.toks + 1)) pv es n
    rw [Obj.putName_eq] at this ⊢
    unfold Obj.putNameByArray dictOf at this ⊢
    dsimp only at this ⊢
    revert this
    cases Array.findIdx? (fun x => x.key.isStr name) es.toArray with
    | none => intro this; injection this with _ _ t3 _; exact congrArg (fun dd => ({ cls := .type "dict", data := dd, slots := sl } : Obj)) t3
    | some i => intro this; injection this with _ _ t3 _; exact congrArg (fun dd => ({ cls := .type "dict", data := dd, slots := sl } : Obj)) t3
  have KK : (KF c.g.w.params).In s.heap := R.K O
  refine set_plain KK I ps.2 (osa_dict (s := { s with toks := s.toks + 1 }) Fm N' KK I rfl ps.1 p4 p2 (getL_isSome x name).1 (fun p hp => ?_) (fun _ z => nomatch z) e' rfl ?_ fun h' F' N'' => ?_)
  · simpa using (List.mem_filter.mp hp).2
  · have len : ∀ es : List DictEntry, (putL name (PyData.keyHash c.g.w.params name) (.str name (s.toks + 1)) pv es).length ≤ es.length + 1 := by
      intro es
      induction es with
      | nil => exact Nat.le_refl _
      | cons e r ih =>
        unfold putL
        split
        · simp
        · simp only [List.length_cons]; omega
    have := len es
    have := x.length
    omega
  · have hD' : h'.get? c.g.D = some { dictOf (putL name (PyData.keyHash c.g.w.params name) (.str name (s.toks + 1)) pv es) (putN name es n) with slots := sl } := (N'' (c.g.D, _) (List.mem_append_right _ (.head _))).1
    refine (fun (z : Rel c { σ with ob := setL name v σ.ob } ⟨h', s.gens, s.drawn, s.toks + 1 + 1, s.os⟩ ∧ Ext c s.heap h') => h _ z.1 z.2) (R.kp2 O (by rw [O.k, hk]; intro z; cases z) (fun b' o' e1 e2 e3 => ?_) (fun m' hm' => ns_uniq Fm.ns hm' ▸ F'.ns) ⟨_, hD'⟩ (fun sk => ?_) _ _)
    · exact (N'' (b', o') (List.mem_append_left _ (List.mem_filter.mpr ⟨mem_allBut.mpr ⟨e1, e2⟩, by simpa using e3⟩))).1
    · unfold OR
      rw [O.k, hk]
      refine ⟨⟨sl, slx, _, _, ?_, hD', putL_R (x.seqK sk) (hv.seqK sk) av⟩, ?_⟩
      · refine (N'' (c.g.X, _) (List.mem_append_left _ (List.mem_filter.mpr ⟨mem_allBut.mpr ⟨a, fun q => ?_⟩, ?_⟩))).1
        · obtain ⟨oL, hL, dL⟩ := dc_ns Fm.ns
          rw [q, hL] at a; cases a; cases dL
        · simp only [ne_eq, decide_not, Bool.not_eq_true', decide_eq_false_iff_not]
          intro q; rw [q, b] at a; cases a
      · clear hD' N''
        have : ∀ ob : List (Str × V), ob.all (fun x => selfNames.contains x.1) = true → (setL name v ob).all (fun x => selfNames.contains x.1) = true := by
          intro ob
          induction ob with
          | nil => intro _; unfold setL; rw [List.all_cons, hn]; rfl
          | cons e r ih =>
            obtain ⟨y, u⟩ := e
            intro hal
            rw [List.all_cons] at hal
            obtain ⟨h1, h2⟩ := Bool.and_eq_true_iff.mp hal
            unfold setL
            split
            · rw [List.all_cons]; exact Bool.and_eq_true_iff.mpr ⟨h1, h2⟩
            · rw [List.all_cons]; exact Bool.and_eq_true_iff.mpr ⟨h1, ih h2⟩
        exact this _ al
end Mine

end

-- W4
section
namespace Mine

/-- all objects but D are kept up to slots -/
noncomputable def Up (D : Addr) (h h' : Heap) : Prop := ∀ b o, h.get? b = some o → b ≠ D → KO o (h'.get? b)
theorem Up.refl (D : Addr) (h : Heap) : Up D h h := fun _ o e _ => .of e
theorem Up.trans {D : Addr} {h h' h'' : Heap} (x : Up D h h') (y : Up D h' h'') : Up D h h'' := fun b o e n => (x b o e n).trans fun o' e' => y b o' e' n

theorem Up.seqK {g : Gx} {h h' : Heap} (x : Up g.D h h') : SeqK g h h' := fun b o _ _ e _ n => (x b o e n).sl
theorem Up.ns {D : Addr} {h h' : Heap} (x : Up D h h') {a : Addr} {m : Str → Option Value} (n : a ≠ D) (y : h.Ns a m) : h'.Ns a m := by
  obtain ⟨o, es, ep, ho, hd, r⟩ := y
  obtain ⟨sl, e⟩ := (x a o ho n).sl
  exact ⟨_, es, ep, e, hd, r⟩
theorem Up.cell {D : Addr} {h h' : Heap} (x : Up D h h') {a : Addr} {v : Option Value} (n : a ≠ D) (y : h.IsCell a v) : h'.IsCell a v := by
  obtain ⟨o, ho, hd⟩ := y
  obtain ⟨sl, e⟩ := (x a o ho n).sl
  exact ⟨_, e, hd⟩

theorem Rel.up {F : Fi} {c : Cx} {σ : St} {s s' : Shared} (O : c.Ok F) (R : Rel c σ s) {ob' : List (Str × V)} (u : Up c.g.D s.heap s'.heap) (hb : c.g.base.StaysIn s'.heap) (hf : s'.heap.FunFrames c.g.base (c.stk))
    (or : OR c.g s'.heap ob') (hg : s'.gens = #[]) (ho : s'.os = c.g.os) : Rel c { σ with ob := ob' } s' := by
  obtain ⟨m, hm, hl⟩ := R.loc
  have nD : ∀ b ∈ c.own, b ≠ c.g.D := fun b h q => O.nD (q ▸ h)
  refine ⟨hb, hf, ⟨m, u.ns (nD _ O.ownL) hm, fun x v e => ?_⟩, fun b h => ?_, or, hg, ho⟩
  · have := hl x v e
    unfold LocAt at this ⊢
    split at this
    · obtain ⟨pv, a, b⟩ := this; exact ⟨pv, a, b.seqK u.seqK⟩
    · rename_i q; obtain ⟨a, pv, b, d, e⟩ := this; exact ⟨a, pv, b, u.cell (O.celD x a (.inl q) b) d, e.seqK u.seqK⟩
    · rename_i q; obtain ⟨a, pv, b, d, e⟩ := this; exact ⟨a, pv, b, u.cell (O.celD x a (.inr q) b) d, e.seqK u.seqK⟩
    · exact this.elim
  · obtain ⟨o, e, z⟩ := R.own b h
    obtain ⟨sl, e'⟩ := (u b o e (nD b h)).sl
    exact ⟨_, e', z⟩

theorem Up.ext {c : Cx} {h h' : Heap} (u : Up c.g.D h h') (hD : (∃ o, h'.get? c.g.D = some o) ∨ h.get? c.g.D = none) : Ext c h h' := by
  refine ⟨fun b e => ?_, fun b o e _ n => u b o e n⟩
  cases q : h.get? b with
  | none => rfl
  | some o =>
    by_cases z : b = c.g.D
    · subst z
      rcases hD with ⟨o', e'⟩ | e'
      · rw [e] at e'; cases e'
      · rw [e'] at q; cases q
    · obtain ⟨sl, e'⟩ := (u b o q z).sl
      rw [e] at e'; cases e'

inductive ZR (g : Gx) (h : Heap) : List (Str × V) → List (Str × Value) → Prop
  | nil : ZR g h [] []
  | cons {x : Str} {v : V} {pv : Value} {l : List (Str × V)} {r : List (Str × Value)} : VR g h v pv → ZR g h l r → ZR g h ((x, v) :: l) ((x, pv) :: r)
theorem ZR.zip {g : Gx} {h : Heap} {vs : List V} {pvs : List Value} (x : VRs g h vs pvs) : ∀ {ns : List Str}, ZR g h (ns.zip vs) (ns.zip pvs) := by
  induction x with
  | nil => intro ns; cases ns <;> exact .nil
  | cons a _ ih =>
    intro ns
    cases ns with
    | nil => exact .nil
    | cons n ns => exact .cons a ih
theorem ZR.append {g : Gx} {h : Heap} {a b : List (Str × V)} {pa pb : List (Str × Value)} (x : ZR g h a pa) (y : ZR g h b pb) : ZR g h (a ++ b) (pa ++ pb) := by
  induction x with
  | nil => exact y
  | cons v _ ih => exact .cons v ih
theorem ZR.reverse {g : Gx} {h : Heap} {a : List (Str × V)} {pa : List (Str × Value)} (x : ZR g h a pa) : ZR g h a.reverse pa.reverse := by
  induction x with
  | nil => exact .nil
  | cons v _ ih => rw [List.reverse_cons, List.reverse_cons]; exact ih.append (.cons v .nil)
theorem ZR.lookup {g : Gx} {h : Heap} {a : List (Str × V)} {pa : List (Str × Value)} (x : ZR g h a pa) {n : Str} {v : V} (e : a.lookup n = some v) : ∃ pv, pa.lookup n = some pv ∧ VR g h v pv := by
  induction x with
  | nil => cases e
  | @cons y u pu l r hu _ ih =>
    rw [List.lookup_cons] at e ⊢
    cases q : n == y with
    | true => rw [q] at e; cases e; exact ⟨_, rfl, hu⟩
    | false => rw [q] at e; exact ih e
theorem VRs.length {g : Gx} {h : Heap} {vs : List V} {pvs : List Value} (x : VRs g h vs pvs) : vs.length = pvs.length := by
  induction x with
  | nil => rfl
  | cons _ _ ih => simp [ih]
theorem VRs.seq {g : Gx} {h h' : Heap} (k : SeqK g h h') {vs : List V} {pvs : List Value} (x : VRs g h vs pvs) : VRs g h' vs pvs := x.seqK k

/-- the contract of a def -/
noncomputable def HC (d : Nat) (k : Kd) (fa : Addr) (args : List V) (ob : List (Str × V)) (Q : V → List (Str × V) → Prop) : Prop :=
  ∀ (F : Fi) (c : Cx), c.Ok F → F.d ≤ d → F.k = k → ∀ σ s pvs, σ.ob = ob → Rel c σ s → VRs c.g s.heap args pvs →
    codeAny (model pw c.g.w) c.A (.call (.ref fa) ⟨pvs, []⟩)
      (fun r s' => ∃ pv v ob', r = .ok (.ret pv) ∧ Rel c { σ with ob := ob' } s' ∧ Ext c s.heap s'.heap ∧ VR c.g s'.heap v pv ∧ Q v ob') s

noncomputable def fnAt (K : Frag) (fa : Addr) : Option FuncData := match K.lookup fa with
  | some ⟨_, _, .func f, _⟩ => some f
  | _ => none
theorem fnAt_get {K : Frag} {h : Heap} (X : K.In h) {fa : Addr} {f : FuncData} (e : fnAt K fa = some f) : ∃ o, h.get? fa = some o ∧ o.data = .func f := by
  unfold fnAt at e
  split at e
  · rename_i q; cases e; exact ⟨_, X _ _ q, rfl⟩
  · cases e

noncomputable def plainParams (p : Arguments) : Bool := p.posonlyargs.isEmpty && p.vararg.isNone && p.kwonlyargs.isEmpty && p.kw_defaults.isEmpty && p.kwarg.isNone && p.defaults.isEmpty
/-- what is asked of a def that is called -/
structure FnIs (P : Params) (fa : Addr) (ns : List Str) (body : List Stmt) (sc : Scope) : Prop where
  ex : ∃ fd, fnAt (KF P) fa = some fd ∧ (fd.body = .stmts body ∧ fd.scope = sc ∧ fd.globals = mainGlobals ∧ fd.closure = [] ∧ fd.builtins = builtinsNs) ∧
    (∀ vs : List Value, vs.length = ns.length → bindArgs fd ⟨vs, []⟩ = pure (ns.zip vs)) ∧ codeIn (KF P) fd.code fd.qualname = true

theorem Cx.nosize {F : Fi} {c : Cx} {σ : St} {s : Shared} (R : Rel c σ s) : c.g.base.get? s.heap.objs.size = none := R.base.fresh

noncomputable def RetQ (Q : V → List (Str × V) → Prop) (φ : Fl) (σ' : St) : Prop := match φ with | .ret v => Q v σ'.ob | .next => Q .none σ'.ob | _ => False
theorem HC_body {d : Nat} {k : Kd} {fa : Addr} {args : List V} {ob : List (Str × V)} {Q : V → List (Str × V) → Prop} {ns : List Str} {body : List Stmt} {sc : Scope} (fn : ∀ P, FnIs P fa ns body sc)
    (hd : d < 600) (hargs : args.length = ns.length)
    (hloc : ns.all (fun x => sc.names.lookup x == some .local) = true)
    (h : HB ⟨sc, d + 1, true, k⟩ body ⟨(ns.zip args).reverse, ob⟩ (RetQ Q))
    (hco : sc.isCoroutine = false := by rfl) (hgen : sc.isGenerator = false := by rfl) (hk : sc.kind = .function := by rfl) (hcell : ∀ x ∈ sc.names, x.2 ≠ .cell := by decide +kernel) :
    HC d k fa args ob Q := by
  intro F c O hFd hFk σ s pvs hob R hv
  subst hob
  obtain ⟨fd, hfd, ⟨e1, e2, e3, e4, e5⟩, hb, hcd⟩ := (fn c.g.w.params).ex
  obtain ⟨o, ho, hod⟩ := fnAt_get (R.K O) hfd
  have nL : s.heap.get? s.heap.objs.size = none := Heap.get?_none_of_le (Nat.le_refl _)
  refine codeAny_call_def (fd := fd) (body := body) (binds := ns.zip pvs) (Nat.lt_of_le_of_lt O.dp (by show F.d < 1000; omega)) ho hod (O.g.T.nolimit.keeps R.base) (codeRec_of (R.K O) hcd) e1
    (.of_eq (hb pvs (by rw [← hv.length]; exact hargs))) (by rw [e2]; exact hcell) (fun x hx => ?_) (fun h₀ hns hkp => ?_) (by rw [e2]; exact hco) (by rw [e2]; exact hgen) (by rw [e2]; exact hk)
  · have := List.all_eq_true.mp hloc x.1 (List.of_mem_zip hx).1
    rw [e2]; exact beq_iff_eq.mp this
  obtain ⟨c', hc'⟩ : ∃ c' : Cx, c' = ⟨c.g, c.A.deeper (callEnv fd s.heap.objs.size fa), callEnv fd s.heap.objs.size fa, callEnv fd s.heap.objs.size fa :: c.stk, [s.heap.objs.size]⟩ := ⟨_, rfl⟩
  have O' : c'.Ok ⟨sc, d + 1, true, k⟩ := by
    subst hc'
    refine ⟨O.g, Around.frames_deeper O.fr, O.hd, ?_, ?_, e2, hk, e3, e5, O.k.trans hFk, fun _ => ⟨rfl, _, rfl⟩, fun _ x a _ ha => ?_, fun x a _ ha => ?_, List.mem_singleton.mpr rfl, fun hm => ?_, fun b hb => ?_, fun e he => ?_⟩
    · show c.A.depth + 1 ≤ d + 1
      have := O.dp; omega
    · show c.A.units + 3 ≤ 10 * (d + 1)
      have := O.un; omega
    · have ha : fd.closure.lookup x = some a := ha
      rw [e4] at ha; cases ha
    · have ha : fd.closure.lookup x = some a := ha
      rw [e4] at ha; cases ha
    · obtain ⟨oD, hD⟩ := R.ob.has
      rw [List.mem_singleton.mp hm, nL] at hD; cases hD
    · rw [List.mem_singleton.mp hb]; exact R.base.fresh
    · rcases List.mem_cons.mp he with rfl | he
      · intro q
        obtain ⟨oD, hD⟩ := R.ob.has
        have q : s.heap.objs.size = c.g.D := Option.some.inj q
        rw [← q, nL] at hD; cases hD
      · exact O.frD e he
  have u0 : Up c.g.D s.heap h₀ := fun b o e _ => .of (hkp b o e)
  have sk : SeqK c.g s.heap h₀ := u0.seqK
  obtain ⟨oD, hD⟩ := R.ob.has
  have OR' : OR c.g h₀ σ.ob := R.ob.keep sk (fun o e _ => ⟨o.slots, hkp _ o e⟩) fun o e => ⟨o.slots, hkp _ o e⟩
  obtain ⟨oL, hL, dL⟩ := dc_ns hns
  have fr0 : h₀.FunFrames c.g.base (c.stk) := funFrames_of (fun b o e nf => ⟨o, hkp b o e, nf⟩) R.fn
  have R' : Rel c' ⟨(ns.zip args).reverse, σ.ob⟩ ⟨h₀, s.gens, s.drawn, s.toks + (ns.zip pvs).length, s.os⟩ := by
    subst hc'
    refine ⟨fun b o e => hkp b o (R.base b o e), ⟨(by show fd.scope.kind ≠ _; rw [e2, hk]; decide), ⟨_, oL, rfl, R.base.fresh, hL, fun vs q => by rw [q] at dL; cases dL⟩, fr0⟩, ⟨_, hns, fun x v e => ?_⟩, fun b hb => ?_, OR', R.gens, R.os⟩
    · obtain ⟨pv, a, b⟩ := (ZR.zip (ns := ns) hv).reverse.lookup e
      have hx : x ∈ ns := by
        have := List.mem_reverse.mp (mem_of_lookup e)
        exact (List.of_mem_zip this).1
      have hk' : (callEnv fd s.heap.objs.size fa).kindOf x = some .local := by
        have := List.all_eq_true.mp hloc x hx
        show fd.scope.names.lookup x = _
        rw [e2]; exact beq_iff_eq.mp this
      unfold LocAt
      rw [show (Cx.env ⟨c.g, c.A.deeper (callEnv fd s.heap.objs.size fa), callEnv fd s.heap.objs.size fa, callEnv fd s.heap.objs.size fa :: c.stk, [s.heap.objs.size]⟩).kindOf x = some .local from hk']
      exact ⟨pv, a, b.seqK sk⟩
    · rw [List.mem_singleton.mp hb]; exact ⟨oL, hL, dL⟩
  have key : ∀ (σ' : St) (s' : Shared), Rel c' σ' s' → Ext c' h₀ s'.heap → Rel c { σ with ob := σ'.ob } s' ∧ Ext c s.heap s'.heap := by
    subst hc'
    intro σ' s' Rs X
    have u : Up c.g.D s.heap s'.heap := fun b o e n => X.keep b o (hkp b o e) (fun hm => by
      rw [List.mem_singleton.mp hm, nL] at e; cases e) n
    exact ⟨R.up O u Rs.base Rs.fn.2.2 Rs.ob Rs.gens Rs.os, u.ext (.inl Rs.ob.has)⟩
  have hB := h c' O' _ R'
  rw [hc'] at hB key
  refine wpAny_mono hB (fun f s' q => ?_) fun x s' q => ?_
  · obtain ⟨φ, σ', R₁, X₁, fr, q⟩ := q
    obtain ⟨k1, k2⟩ := key σ' s' R₁ X₁
    cases f <;> cases φ <;> first
      | exact fr.elim
      | exact q.elim
      | exact ⟨_, _, _, rfl, k1, k2, .none, q⟩
      | exact ⟨_, _, _, rfl, k1, k2, fr, q⟩
  · obtain ⟨e, i, σ', _, _, _, _, q⟩ := q
    exact q.elim
end Mine

end

-- W5
section
namespace Mine

noncomputable def HA (F : Fi) (args : List Expr) (σ : St) (Q : List V → St → Prop) : Prop :=
  ∀ c : Cx, c.Ok F → ∀ s pos, Rel c σ s → wpAny (model pw c.g.w) c.A (spliced (backTo pos (starEach args c.env)))
    (fun pvs s' => ∃ vs σ', Rel c σ' s' ∧ Ext c s.heap s'.heap ∧ VRs c.g s'.heap vs pvs ∧ Q vs σ') (fun _ _ => False) s

section
variable {F : Fi} {σ : St}
theorem HA_nil {Q : List V → St → Prop} (h : Q [] σ) : HA F [] σ Q := fun c O s pos R => spliced_nil ⟨[], σ, R, .refl _ _, .nil, h⟩
theorem HA_cons {e : Expr} {rest : List Expr} {Q : List V → St → Prop} (h : HE F e σ (fun v σ' => HA F rest σ' (fun vs => Q (v :: vs))))
    (he : ∀ env, starEach (e :: rest) env = (false, eval e env) :: starEach rest env := by intro; rfl) : HA F (e :: rest) σ Q := fun c O s pos R => by
  rw [he]
  refine spliced_cons (wpAny_mono (h c O s R) (fun pv s₁ zz => ?_) fun _ _ z => z)
  obtain ⟨v, σ₁, R₁, X₁, hv, q⟩ := zz
  refine wpAny_mono (q c O s₁ pos R₁) (fun pvs s₂ zz => ?_) fun _ _ z => z
  obtain ⟨vs, σ₂, R₂, X₂, hvs, q⟩ := zz
  exact ⟨v :: vs, σ₂, R₂, X₁.trans X₂, .cons (hv.seqK (X₂.seqK R₁.own)) hvs, q⟩

theorem evalArgs_any {M : Model} {A : Around} {E : Value → Shared → Prop} {s : Shared} {f : Value} {args : List (Bool × Sem Value)} {Q : Args → Shared → Prop} (hp : args.any (·.1) = false)
    (h : wpAny M A (spliced args) (fun vs s' => Q ⟨vs, []⟩ s') E s) : wpAny M A (evalArgs f true args []) Q E s := by
  cases args with
  | nil =>
    unfold evalArgs
    show wpAny M A (spliced [] >>= _) Q E s
    refine wpAny_bind (wpAny_mono h (fun vs s' h' => ?_) fun _ _ x => x)
    refine wpAny_bind (wpAny_pure ?_)
    refine wpAny_holding ?_
    exact wpAny_bind (wpAny_pure (wpAny_bind (wpAny_pure (wpAny_pure h'))))
  | cons x rest =>
    obtain ⟨b, x⟩ := x
    cases b with
    | true => simp at hp
    | false => exact evalArgs_plain h

/-- args given to callWith for a def -/
theorem callWith_A {c : Cx} (O : c.Ok F) {s : Shared} (R : Rel c σ s) {args : List Expr} {pos : Pos} {f : Value} {first : List Value} {P : Value → Shared → Prop} (hk : keepIn (KF c.g.w.params) f = true)
    (hp : (backTo pos (starEach args c.env)).any (·.1) = false) {Q : List V → St → Prop} (h : HA F args σ Q)
    (k : ∀ vs σ' pvs s', Rel c σ' s' → Ext c s.heap s'.heap → VRs c.g s'.heap vs pvs → Q vs σ' → wpAny (model pw c.g.w) c.A (call f (first ++ pvs)) P (fun _ _ => False) s') :
    wpAny (model pw c.g.w) c.A (callWith pos f first (backTo pos (starEach args c.env)) []) P (fun _ _ => False) s := by
  refine callWith_of (P := fun h => (KF c.g.w.params).In h) (by rw [hp]; rfl) (keeps_K (K := KF c.g.w.params) hk) (evalArgs_any hp ?_)
  exact wpAny_mono (h c O s pos R) (fun pvs s' ⟨vs, σ', R', X', hv, q⟩ => ⟨R'.K O, k vs σ' pvs s' R' X' hv q⟩) fun _ _ z => z

theorem callWith_B {c : Cx} (O : c.Ok F) {s : Shared} (R : Rel c σ s) {args : List Expr} {pos : Pos} {id : String} {first : List Value} {P : Value → Shared → Prop}
    (hp : (backTo pos (starEach args c.env)).any (·.1) = false) {Q : List V → St → Prop} (h : HA F args σ Q)
    (k : ∀ vs σ' pvs s', Rel c σ' s' → Ext c s.heap s'.heap → VRs c.g s'.heap vs pvs → Q vs σ' → wpAny (model pw c.g.w) c.A (call (.builtin id) (first ++ pvs)) P (fun _ _ => False) s') :
    wpAny (model pw c.g.w) c.A (callWith pos (.builtin id) first (backTo pos (starEach args c.env)) []) P (fun _ _ => False) s := by
  refine callWith_builtin hp (evalArgs_any hp ?_)
  exact wpAny_mono (h c O s pos R) (fun pvs s' ⟨vs, σ', R', X', hv, q⟩ => k vs σ' pvs s' R' X' hv q) fun _ _ z => z

theorem useC {c : Cx} (O : c.Ok F) {σ' : St} {s s' : Shared} (R' : Rel c σ' s') (X' : Ext c s.heap s'.heap) {d : Nat} {k : Kd} (hd : F.d ≤ d) (hk : F.k = k) {fa : Addr} {args : List V} {pvs : List Value} {Q : V → St → Prop} (hv : VRs c.g s'.heap args pvs)
    (h : HC d k fa args σ'.ob (fun v ob' => Q v { σ' with ob := ob' })) :
    wpAny (model pw c.g.w) c.A (call (.ref fa) pvs) (fun pv s' => ∃ v σ', Rel c σ' s' ∧ Ext c s.heap s'.heap ∧ VR c.g s'.heap v pv ∧ Q v σ') (fun _ _ => False) s' := by
  refine wpAny_call (codeAny_mono (h F c O hd hk σ' s' pvs rfl R' hv) (fun r s₂ zz => ?_))
  obtain ⟨pv, v, ob', e, R₂, X₂, hv₂, q⟩ := zz
  subst e
  exact ⟨v, _, R₂, X'.trans X₂, hv₂, q⟩

noncomputable def okMeth (K : Frag) (n : Str) (fa : Addr) : Bool := plainGet K 710 n && findIn K (.ref 710) n == some (some (.ref fa)) && isFn K (.ref fa) && keepIn K (.ref fa) && !selfNames.contains n

theorem shadow_of {g : Gx} {h : Heap} {es : List DictEntry} {ob : List (Str × V)} {n : Nat} {sl : Array (Option Value)} (x : EsR g h es ob) (al : ob.all (fun x => selfNames.contains x.1) = true) {name : Str} (hn : selfNames.contains name = false) :
    shadowIn (some { dictOf es n with slots := sl }) name = some false := by
  have : ob.lookup name = none := by
    clear x
    induction ob with
    | nil => rfl
    | cons e r ih =>
      obtain ⟨y, u⟩ := e
      rw [List.all_cons] at al
      obtain ⟨a, b⟩ := Bool.and_eq_true_iff.mp al
      rw [List.lookup_cons]
      have : (name == y) = false := by
        refine beq_eq_false_iff_ne.mpr fun q => ?_
        subst q; rw [hn] at a; cases a
      rw [this]; exact ih b
  have e := (getL_isSome x name).2 this
  show (lookIn name { dictOf es n with slots := sl }).map _ = _
  rw [show lookIn name { dictOf es n with slots := sl } = getL name es from rfl, e]; rfl

theorem HE_meth {Q : V → St → Prop} {x name : Str} {p apos pos : Pos} {args : List Expr} {fa : Addr} {d : Nat} (hk : F.k = .stem) (hx : σ.loc.lookup x = some .self) (hl : isLoc F x = true) (hm : ∀ P, okMeth (KF P) name fa = true) (hd : F.d ≤ d)
    (h : HA F args σ (fun vs σ' => HC d .stem fa (.self :: vs) σ'.ob (fun v ob' => Q v { σ' with ob := ob' })))
    (he : ∀ env, eval (.Call (.Attribute (.Name x p) name apos) args [] pos) env = (do
      let ov ← eval (.Name x p) env
      standAt apos.atName
      let (f, first) ← holding [ov] (getMethod ov name (do return (← importBound (.Name x p) env).getD true))
      callWith pos f first (backTo pos (starEach args env)) (backToKw pos (keywordEach [] env))) := by intro; rfl)
    (hp : ∀ env, (backTo pos (starEach args env)).any (·.1) = false := by intro; rfl) : HE F (.Call (.Attribute (.Name x p) name apos) args [] pos) σ Q := fun c O s R => by
  refine methodCall_KW (pl := do return (← importBound (.Name x p) c.env).getD true) ?_ (he c.env)
  refine wpAny_mono (HE_name (Q := fun v σ' => v = .self ∧ σ' = σ) hx hl ⟨rfl, rfl⟩ c O s R) (fun pv s₁ zz => ?_) fun _ _ z => z
  obtain ⟨v', σ', R₁, X₁, hv, e1, e2⟩ := zz
  subst e1 e2
  cases hv
  have or := R₁.ob
  unfold OR at or
  rw [O.k, hk] at or
  obtain ⟨⟨sl, slx, es, n, a, b, x⟩, al⟩ := or
  have I : InstAt s₁.heap c.g.X { instObj 710 c.g.D with slots := slx } 710 (some { dictOf es n with slots := sl }) := ⟨a, rfl, rfl, b⟩
  have m := hm c.g.w.params
  unfold okMeth at m
  simp only [Bool.and_eq_true, beq_iff_eq, Bool.not_eq_true'] at m
  obtain ⟨⟨⟨⟨m1, m2⟩, m3⟩, m4⟩, m5⟩ := m
  refine method_fn (R₁.K O) I (plainGet_of m1).1 (plainGet_of m1).2 m2 (beq_iff_eq.mp m3) (shadow_of x al m5) ?_
  refine callWith_A O R₁ m4 (hp c.env) h fun vs σ' pvs s' R' X' hv q => ?_
  exact useC O R' (X₁.trans X') hd hk (.cons .self hv) q

/-- a call of one of the text's defs by its name -/
theorem HE_call {Q : V → St → Prop} {x : Str} {p pos : Pos} {args : List Expr} {fa : Addr} {d : Nat} {k : Kd} (hk : F.k = k) (hx : F.sc.names.lookup x = some .globalImplicit) (hn : ∀ P, nsIn (KF P) mainGlobals x = some (some (.ref fa))) (hm : ∀ P, keepIn (KF P) (.ref fa) = true) (hd : F.d ≤ d)
    (h : HA F args σ (fun vs σ' => HC d k fa vs σ'.ob (fun v ob' => Q v { σ' with ob := ob' })))
    (hdb : (x == ("__debug__" : Str)) = false := by decide)
    (hp : ∀ env, (backTo pos (starEach args env)).any (·.1) = false := by intro; rfl) : HE F (.Call (.Name x p) args [] pos) σ Q := fun c O s R => by
  rw [arm_eval_Call_Name']
  refine wpAny_bind ?_
  have hko : c.env.kindOf x = some .globalImplicit := by unfold Env.kindOf; rw [O.sc]; exact hx
  have hkf : c.env.scope.kind = .function := by rw [O.sc]; exact O.kd
  have hg : s.heap.Ns c.env.globals c.g.mg := by rw [O.gl]; exact O.g.T.g.keeps R.base
  refine Name_function_global hkf hko (loadGlobal_global hg (mg_of O.g.K O.g.T.g (hn _)) ?_) hdb
  refine callWith_A (first := []) O R (hm _) (hp c.env) h fun vs σ' pvs s' R' X' hv q => ?_
  exact useC O R' X' hd hk hv q

/-- a call of a builtin by its name -/
theorem HE_bi {Q : V → St → Prop} {x : Str} {id : String} {p pos : Pos} {args : List Expr} {P : List V → St → Prop} (hx : F.sc.names.lookup x = some .globalImplicit) (hn : ∀ P, nsIn (KF P) mainGlobals x = some none) (hb : bootBuiltins x = some (.builtin id)) (hne : x ≠ "__name__")
    (h : HA F args σ P)
    (k : ∀ (c : Cx) (O : c.Ok F) (vs : List V) (σ' : St) (s' : Shared) (pvs : List Value), Rel c σ' s' → VRs c.g s'.heap vs pvs → P vs σ' →
      wpAny (model pw c.g.w) c.A (call (.builtin id) pvs) (fun pv s'' => ∃ v σ'', Rel c σ'' s'' ∧ Ext c s'.heap s''.heap ∧ VR c.g s''.heap v pv ∧ Q v σ'') (fun _ _ => False) s')
    (hdb : (x == ("__debug__" : Str)) = false := by decide)
    (hp : ∀ env, (backTo pos (starEach args env)).any (·.1) = false := by intro; rfl) : HE F (.Call (.Name x p) args [] pos) σ Q := fun c O s R => by
  rw [arm_eval_Call_Name']
  refine wpAny_bind ?_
  have hko : c.env.kindOf x = some .globalImplicit := by unfold Env.kindOf; rw [O.sc]; exact hx
  have hkf : c.env.scope.kind = .function := by rw [O.sc]; exact O.kd
  have hg : s.heap.Ns c.env.globals c.g.mg := by rw [O.gl]; exact O.g.T.g.keeps R.base
  have hbn : s.heap.Ns c.env.builtins c.g.mb := by rw [O.bu]; exact O.g.T.b.keeps R.base
  refine Name_function_global hkf hko (loadGlobal_builtin hg (mg_none_of O.g.K O.g.T.g (hn _)) hbn ((O.g.T.builtins x hne).trans hb) ?_) hdb
  refine callWith_B (first := []) O R (hp c.env) h fun vs σ' pvs s' R' X' hv q => ?_
  exact wpAny_mono (k c O vs σ' s' pvs R' hv q) (fun pv s'' z => moreE X' z) fun _ _ z => z
end
end Mine

end

-- W6
section
namespace Mine

noncomputable def strsOf : List V → Option (List Str)
  | [] => some []
  | .str s :: r => (strsOf r).map (s :: ·)
  | _ :: _ => none

noncomputable def cmpI (i j : Int) : CmpOp → Option Bool
  | .Lt => some (decide (i < j))
  | .LtE => some (decide (i ≤ j))
  | .Gt => some (decide (j < i))
  | .GtE => some (decide (j ≤ i))
  | .Eq => some (i == j)
  | .NotEq => some (i != j)
  | _ => none
noncomputable def cmpS (x y : Str) : CmpOp → Option Bool
  | .Eq => some (x == y)
  | .NotEq => some (x != y)
  | _ => none
noncomputable def cmpL (x : Str) (l : List V) : CmpOp → Option Bool
  | .In => (strsOf l).map fun ys => ys.any fun y => y == x
  | .NotIn => (strsOf l).map fun ys => !(ys.any fun y => y == x)
  | _ => none
noncomputable def cmpG (x : Str) : CmpOp → Option Bool
  | .In => some (decide (x ∈ letters.map (·.1)))
  | .NotIn => some (!decide (x ∈ letters.map (·.1)))
  | _ => none
noncomputable def cmpN (b : Bool) : CmpOp → Option Bool
  | .Is => some b
  | .IsNot => some (!b)
  | _ => none
noncomputable def cmpV (op : CmpOp) (a b : V) : Option Bool := match a with
  | .int i => (match b with | .int j => cmpI i j op | _ => none)
  | .str x => (match b with | .str y => cmpS x y op | .list l => cmpL x l op | .gset => cmpG x op | .none => cmpN false op | _ => none)
  | .none => (match b with | .none => cmpN true op | _ => none)
  | _ => none

theorem strsAre_of {g : Gx} {h : Heap} : ∀ {vs : List V} {items : List Value} {ys : List Str}, strsOf vs = some ys → vs.length = items.length → (∀ (j : Nat) v pv, vs[j]? = some v → items[j]? = some pv → VR g h v pv) → StrsAre items ys
  | [], [], ys, e, _, _ => by cases e; exact .nil
  | [], _ :: _, _, _, l, _ => by cases l
  | v :: vs, [], _, _, l, _ => by cases l
  | v :: vs, p :: items, ys, e, l, k => by
    cases v with
    | str s =>
      obtain ⟨ys', e', rfl⟩ := Option.map_eq_some_iff.mp e
      have h0 := k 0 (.str s) p rfl rfl
      cases h0
      exact .cons _ _ (strsAre_of e' (by simpa using l) fun j v pv a b => k (j + 1) v pv (by simpa using a) (by simpa using b))
    | _ => cases e

theorem gset_K (P : Params) : (KF P).lookup 230 = some (setObj P) := by kernel_rfl

section
variable {F : Fi} {σ : St}

theorem cmp_sound {c : Cx} (O : c.Ok F) {s : Shared} (R : Rel c σ s) {op : CmpOp} {a b : V} {pa pb : Value} {t : Bool} (va : VR c.g s.heap a pa) (vb : VR c.g s.heap b pb) (e : cmpV op a b = some t) {Q : Value → Shared → Prop} {E : Value → Shared → Prop}
    (h : ∀ tk, Q (.bool t) ⟨s.heap, s.gens, s.drawn, tk, s.os⟩) : wpAny (model pw c.g.w) c.A (compareOp op pa pb) Q E s := by
  cases a with
  | int i =>
    cases b with
    | int j =>
      cases va; cases vb
      cases op <;> cases e
      · exact eq_int (h s.toks)
      · exact ne_int (h s.toks)
      · exact lt_int (h s.toks)
      · exact le_int (h s.toks)
      · exact gt_int (h s.toks)
      · exact ge_int (h s.toks)
    | _ => cases e
  | str x =>
    cases va with
    | str _ tx =>
    cases b with
    | str y =>
      cases vb
      cases op <;> cases e
      · exact eq_str (h s.toks)
      · exact ne_str (h s.toks)
    | list l =>
      cases vb with
      | @list a o items n vs ho hc hd hD hl k =>
      have hL : s.heap.IsList a items.toList.toArray := ⟨o, ho, hc, n, by rw [hd]⟩
      cases op with
      | In =>
        obtain ⟨ys, e1, rfl⟩ := Option.map_eq_some_iff.mp e
        exact in_list_strs hL (strsAre_of e1 (by rw [← hl]; simp) fun j v pv a b => k j v pv a (by simpa using b)) (h s.toks)
      | NotIn =>
        obtain ⟨ys, e1, rfl⟩ := Option.map_eq_some_iff.mp e
        exact notin_list_strs hL (strsAre_of e1 (by rw [← hl]; simp) fun j v pv a b => k j v pv a (by simpa using b)) (h s.toks)
      | _ => cases e
    | gset =>
      cases vb
      have hS := (setObj_is c.g.w).setOf (R.K O _ _ (gset_K _)) (by decide)
      cases op <;> cases e
      · exact wpAny_inSet_of (isStrOf_self _ tx) rfl hS (h _)
      · exact wpAny_notInSet_of (isStrOf_self _ tx) rfl hS (h _)
    | none =>
      cases vb
      cases op <;> cases e
      · exact wpAny_is_plain rfl (h s.toks)
      · exact wpAny_isNot_plain rfl (h s.toks)
    | _ => cases e
  | none =>
    cases b with
    | none =>
      cases va; cases vb
      cases op <;> cases e
      · exact wpAny_is_plain rfl (h s.toks)
      · exact wpAny_isNot_plain rfl (h s.toks)
    | _ => cases e
  | _ => cases e

theorem HT_cmp {op : CmpOp} {l r : Expr} {pos : Pos} {Q : Bool → St → Prop} (h : HE F l σ (fun a σ₁ => HE F r σ₁ (fun b σ₂ => ∃ t, cmpV op a b = some t ∧ Q t σ₂)))
    (hm : behindInMarks op r = false := by with_unfolding_all rfl) : HT F (.Compare l [op] [r] pos) σ Q := fun c O s R => by
  refine wpAny_isTrue_Compare1 (wpAny_mono (h c O s R) (fun pa s₁ zz => ?_) fun _ _ z => z) hm
  obtain ⟨a, σ₁, R₁, X₁, va, ha⟩ := zz
  refine wpAny_mono (ha c O s₁ R₁) (fun pb s₂ zz => ?_) fun _ _ z => z
  obtain ⟨b, σ₂, R₂, X₂, vb, t, e, q⟩ := zz
  refine cmp_sound O R₂ (va.seqK (X₂.seqK R₁.own)) vb e fun tk => wpAny_truthy_bool ?_
  have := R₂.kp O (.refl c s₂.heap) s₂.drawn tk
  exact ⟨σ₂, this.1, X₁.trans X₂, q⟩

theorem HE_cmp {op : CmpOp} {l r : Expr} {pos : Pos} {Q : V → St → Prop} (h : HE F l σ (fun a σ₁ => HE F r σ₁ (fun b σ₂ => ∃ t, cmpV op a b = some t ∧ Q (.bool t) σ₂)))
    (hm : behindInMarks op r = false := by with_unfolding_all rfl) : HE F (.Compare l [op] [r] pos) σ Q := fun c O s R => by
  refine wpAny_Compare1 (wpAny_mono (h c O s R) (fun pa s₁ zz => ?_) fun _ _ z => z) hm
  obtain ⟨a, σ₁, R₁, X₁, va, ha⟩ := zz
  refine wpAny_mono (ha c O s₁ R₁) (fun pb s₂ zz => ?_) fun _ _ z => z
  obtain ⟨b, σ₂, R₂, X₂, vb, t, e, q⟩ := zz
  refine cmp_sound O R₂ (va.seqK (X₂.seqK R₁.own)) vb e fun tk => ?_
  exact moreE (X₁.trans X₂) (endE O R₂ (.refl _ _) (.bool t) q)

theorem HT_mono {e : Expr} {Q Q' : Bool → St → Prop} (h : HT F e σ Q) (k : ∀ b σ, Q b σ → Q' b σ) : HT F e σ Q' := fun c O s R =>
  wpAny_mono (h c O s R) (fun pv s' ⟨σ', a, b, d⟩ => ⟨σ', a, b, k _ _ d⟩) fun _ _ z => z

theorem HT_not {x : Expr} {pos : Pos} {Q : Bool → St → Prop} (h : HT F x σ (fun b σ' => Q (!b) σ')) : HT F (.UnaryOp .Not x pos) σ Q := fun c O s R =>
  wpAny_isTrue_Not (h c O s R)

theorem HT_or {x y : Expr} {pos : Pos} {Q : Bool → St → Prop} (h : HT F x σ (fun b σ₁ => if b then Q true σ₁ else HT F y σ₁ Q)) : HT F (.BoolOp .Or [x, y] pos) σ Q := fun c O s R => by
  rw [arm_isTrue_BoolOp, arm_allTrue_cons]
  refine wpAny_bind (wpAny_mono (h c O s R) (fun b s₁ zz => ?_) fun _ _ z => z)
  obtain ⟨σ₁, R₁, X₁, q⟩ := zz
  cases b with
  | true => exact wpAny_pure ⟨σ₁, R₁, X₁, q⟩
  | false =>
    show wpAny _ _ (allTrue .Or [y] c.env) _ _ _
    rw [arm_allTrue_cons]
    refine wpAny_bind (wpAny_mono (q c O s₁ R₁) (fun b s₂ zz => ?_) fun _ _ z => z)
    obtain ⟨σ₂, R₂, X₂, q⟩ := zz
    cases b with
    | true => exact wpAny_pure ⟨σ₂, R₂, X₁.trans X₂, q⟩
    | false => exact wpAny_pure ⟨σ₂, R₂, X₁.trans X₂, q⟩
theorem HT_and {x y : Expr} {pos : Pos} {Q : Bool → St → Prop} (h : HT F x σ (fun b σ₁ => if b then HT F y σ₁ Q else Q false σ₁)) : HT F (.BoolOp .And [x, y] pos) σ Q := fun c O s R => by
  rw [arm_isTrue_BoolOp, arm_allTrue_cons]
  refine wpAny_bind (wpAny_mono (h c O s R) (fun b s₁ zz => ?_) fun _ _ z => z)
  obtain ⟨σ₁, R₁, X₁, q⟩ := zz
  cases b with
  | false => exact wpAny_pure ⟨σ₁, R₁, X₁, q⟩
  | true =>
    show wpAny _ _ (allTrue .And [y] c.env) _ _ _
    rw [arm_allTrue_cons]
    refine wpAny_bind (wpAny_mono (q c O s₁ R₁) (fun b s₂ zz => ?_) fun _ _ z => z)
    obtain ⟨σ₂, R₂, X₂, q⟩ := zz
    cases b with
    | true => exact wpAny_pure ⟨σ₂, R₂, X₁.trans X₂, q⟩
    | false => exact wpAny_pure ⟨σ₂, R₂, X₁.trans X₂, q⟩
theorem HT_and3 {x y z : Expr} {pos : Pos} {Q : Bool → St → Prop} (h : HT F x σ (fun b σ₁ => if b then HT F y σ₁ (fun b σ₂ => if b then HT F z σ₂ Q else Q false σ₂) else Q false σ₁)) : HT F (.BoolOp .And [x, y, z] pos) σ Q := fun c O s R => by
  rw [arm_isTrue_BoolOp, arm_allTrue_cons]
  refine wpAny_bind (wpAny_mono (h c O s R) (fun b s₁ zz => ?_) fun _ _ z => z)
  obtain ⟨σ₁, R₁, X₁, q⟩ := zz
  cases b with
  | false => exact wpAny_pure ⟨σ₁, R₁, X₁, q⟩
  | true =>
    show wpAny _ _ (allTrue .And [y, z] c.env) _ _ _
    rw [arm_allTrue_cons]
    refine wpAny_bind (wpAny_mono (q c O s₁ R₁) (fun b s₂ zz => ?_) fun _ _ z => z)
    obtain ⟨σ₂, R₂, X₂, q⟩ := zz
    cases b with
    | false => exact wpAny_pure ⟨σ₂, R₂, X₁.trans X₂, q⟩
    | true =>
      show wpAny _ _ (allTrue .And [z] c.env) _ _ _
      rw [arm_allTrue_cons]
      refine wpAny_bind (wpAny_mono (q c O s₂ R₂) (fun b s₃ zz => ?_) fun _ _ z => z)
      obtain ⟨σ₃, R₃, X₃, q⟩ := zz
      cases b with
      | true => exact wpAny_pure ⟨σ₃, R₃, (X₁.trans X₂).trans X₃, q⟩
      | false => exact wpAny_pure ⟨σ₃, R₃, (X₁.trans X₂).trans X₃, q⟩

theorem HT_val {e : Expr} {Q : Bool → St → Prop} (h : HE F e σ (fun v σ' => ∃ b, v = .bool b ∧ Q b σ'))
    (he : ∀ env, isTrue e env (eval e env) = (do let v ← eval e env; standAt e.pos; holding [v] (truthy v)) := by intro; rfl) : HT F e σ Q := fun c O s R => by
  refine isTrue_plain (wpAny_mono (h c O s R) (fun pv s' zz => ?_) fun _ _ z => z) (he c.env)
  obtain ⟨v, σ', R', X', hv, b, e, q⟩ := zz
  subst e
  cases hv
  exact wpAny_truthy_bool ⟨σ', R', X', q⟩

noncomputable def binI (i j : Int) (P : V → Prop) : Operator → Prop
  | .Add => P (.int (i + j))
  | .Sub => P (.int (i - j))
  | .RShift => 0 ≤ j ∧ P (.int (i.fdiv (2 ^ j.toNat)))
  | .Mod => j ≠ 0 ∧ P (.int (i.fmod j))
  | .FloorDiv => j ≠ 0 ∧ Builtin.divisionGoesByPylong i j = false ∧ P (.int (i.fdiv j))
  | _ => False
noncomputable def binV (op : Operator) (a b : V) (P : V → Prop) : Prop := match a with
  | .int i => (match b with | .int j => binI i j P op | _ => False)
  | .str x => (match b with | .str y => (match op with | .Add => x.length + y.length ≤ sizeLine ∧ P (.str (x ++ y)) | _ => False) | _ => False)
  | .list l => (match b with | .list m => (match op with | .Add => l.length + m.length ≤ sizeLine ∧ P (.list (l ++ m)) | _ => False) | _ => False)
  | _ => False

theorem HE_bin {op : Operator} {l r : Expr} {pos : Pos} {Q : V → St → Prop} (h : HE F l σ (fun a σ₁ => HE F r σ₁ (fun b σ₂ => binV op a b (fun v => Q v σ₂)))) : HE F (.BinOp l op r pos) σ Q := fun c O s R => by
  refine wpAny_BinOp (wpAny_mono (h c O s R) (fun pa s₁ zz => ?_) fun _ _ z => z)
  obtain ⟨a, σ₁, R₁, X₁, va, ha⟩ := zz
  refine wpAny_mono (ha c O s₁ R₁) (fun pb s₂ zz => ?_) fun _ _ z => z
  obtain ⟨b, σ₂, R₂, X₂, vb, q⟩ := zz
  have va := va.seqK (X₂.seqK R₁.own)
  have X := X₁.trans X₂
  have q : binV op a b (fun v => Q v σ₂) := q
  cases a with
  | int i =>
    cases b with
    | int j =>
      cases va; cases vb
      cases op <;> first | exact q.elim | skip
      · exact add_int (moreE X (endE O R₂ (.refl _ _) (.int _ _) q))
      · exact sub_int (moreE X (endE O R₂ (.refl _ _) (.int _ _) q))
      · exact mod_int q.1 (moreE X (endE O R₂ (.refl _ _) (.int _ _) q.2))
      · exact rshift_int q.1 (moreE X (endE O R₂ (.refl _ _) (.int _ _) q.2))
      · exact floordiv_int q.1 (moreE X (endE O R₂ (.refl _ _) (.int _ _) q.2.2)) (.inl q.2.1)
    | _ => exact q.elim
  | str x =>
    cases b with
    | str y =>
      cases va; cases vb
      cases op <;> first | exact q.elim | skip
      exact add_str (fun t' tk => moreE X (endE O R₂ (.refl _ _) (.str _ _) q.2)) q.1
    | _ => exact q.elim
  | list l =>
    cases b with
    | list m' =>
      cases op <;> first | exact q.elim | skip
      cases va with
      | @list la oa ia na _ ho1 hc1 hd1 hD1 hl1 k1 =>
        cases vb with
        | @list lb ob ib nb _ ho2 hc2 hd2 hD2 hl2 k2 =>
          obtain ⟨m, Fm, N, kk⟩ := R₂.led
          refine add_arrays Fm N ⟨oa, ho1, hc1, na, hd1⟩ ⟨ob, ho2, hc2, nb, hd2⟩ (fun h' F' N' => ?_) (by rw [hl1, hl2]; exact q.1)
          have kp := kk h' F' fun p hp => N' p (.tail _ hp)
          have new := (N' _ (.head _)).1
          refine moreE X (endE O R₂ kp (.list new rfl rfl (fun z => ?_) ?_ fun j v pv a b => ?_) q.2)
          · obtain ⟨oD, hD⟩ := R₂.ob.has
            rw [← z] at hD
            exact absurd (Heap.lt_size hD) (Nat.lt_irrefl _)
          · simp [hl1, hl2]
          · have sk := (Ext.of_kp O R₂ kp).seqK R₂.own
            simp only [List.getElem?_toArray] at b
            by_cases z : j < ia.size
            · rw [List.getElem?_append_left (by rw [← hl1]; exact z)] at a
              rw [List.getElem?_append_left (by simpa using z)] at b
              exact (k1 j v pv a (by simpa using b)).seqK sk
            · have z : ia.size ≤ j := by omega
              rw [List.getElem?_append_right (by rw [← hl1]; exact z)] at a
              rw [List.getElem?_append_right (by simpa using z)] at b
              exact (k2 (j - ia.size) v pv (by rw [hl1]; exact a) (by simpa using b)).seqK sk
    | _ => exact q.elim
  | _ => exact q.elim

theorem HE_neg {x : Expr} {pos : Pos} {Q : V → St → Prop} (h : HE F x σ (fun v σ' => ∃ i, v = .int i ∧ Q (.int (-i)) σ')) : HE F (.UnaryOp .USub x pos) σ Q := fun c O s R => by
  refine wpAny_UnaryOp (wpAny_mono (h c O s R) (fun pv s' zz => ?_) fun _ _ z => z)
  obtain ⟨v, σ', R', X', hv, i, e, q⟩ := zz
  subst e
  cases hv
  exact neg_int (moreE X' (endE O R' (.refl _ _) (.int _ _) q))

theorem HE_if {t b e : Expr} {pos : Pos} {Q : V → St → Prop} (h : HT F t σ (fun x σ' => if x then HE F b σ' Q else HE F e σ' Q)) : HE F (.IfExp t b e pos) σ Q := fun c O s R => by
  refine wpAny_IfExp (wpAny_mono (h c O s R) (fun x s' zz => ?_) fun _ _ z => z)
  obtain ⟨σ', R', X', q⟩ := zz
  cases x with
  | true => exact wpAny_mono (q c O s' R') (fun _ _ z => moreE X' z) fun _ _ z => z
  | false => exact wpAny_mono (q c O s' R') (fun _ _ z => moreE X' z) fun _ _ z => z
end
end Mine

end

-- W7
section
namespace Mine

theorem lookup_setL (x : Str) (v : V) (y : Str) : ∀ l : List (Str × V), (setL x v l).lookup y = if y = x then some v else l.lookup y
  | [] => by
    unfold setL
    by_cases q : y = x
    · subst q; simp
    · rw [if_neg q, List.lookup_cons, beq_eq_false_iff_ne.mpr q]
  | (z, u) :: r => by
    unfold setL
    by_cases h : (z == x) = true
    · rw [if_pos h]
      have := beq_iff_eq.mp h
      subst this
      by_cases q : y = z
      · subst q; simp
      · rw [if_neg q, List.lookup_cons, List.lookup_cons, beq_eq_false_iff_ne.mpr q]
    · rw [if_neg h, List.lookup_cons, List.lookup_cons, lookup_setL x v y r]
      by_cases q : y = z
      · subst q
        have : y ≠ x := fun z => h (beq_iff_eq.mpr z)
        simp [this]
      · rw [beq_eq_false_iff_ne.mpr q]

section
variable {F : Fi} {σ : St}

theorem store_local {c : Cx} (O : c.Ok F) {s : Shared} (R : Rel c σ s) {x : Str} {v : V} {pv : Value} (hl : F.sc.names.lookup x = some .local) (hv : VR c.g s.heap v pv) {Q : Unit → Shared → Prop} {E : Value → Shared → Prop}
    (h : ∀ s', Rel c { σ with loc := setL x v σ.loc } s' → Ext c s.heap s'.heap → Q () s') : wpAny (model pw c.g.w) c.A (storeName c.env x pv) Q E s := by
  obtain ⟨m, hm, hlc⟩ := R.loc
  have hko : c.env.kindOf x = some .local := by unfold Env.kindOf; rw [O.sc]; exact hl
  have hkf : c.env.scope.kind = .function := by rw [O.sc]; exact O.kd
  refine wpAny_storeName_local hko hm (fun h' hn hs => ?_) (by show (c.env.scope.kind == .class || (c.env.scope.kind == .module && _)) = false; rw [hkf]; rfl)
  have nLD : c.env.locals ≠ c.g.D := fun q => O.nD (q ▸ O.ownL)
  have X : Ext c s.heap h' := ⟨fun b e => by
      by_cases q : b = c.env.locals
      · subst q
        obtain ⟨o, e', _⟩ := dc_ns hn
        rw [e] at e'; cases e'
      · rw [hs.2 b q] at e; exact e, fun b o e n nd => .of ((hs.2 b fun q => n (q ▸ O.ownL)).trans e)⟩
  have sk := X.seqK R.own
  obtain ⟨oL, hL, dL⟩ := dc_ns hm
  refine h ⟨h', s.gens, s.drawn, s.toks + 1, s.os⟩ ⟨fun b o e => (hs.2 b fun q => ?_).trans (R.base b o e), ?_, ⟨_, hn, fun y u e => ?_⟩, fun b hb => ?_, ?_, R.gens, R.os⟩ X
  · subst q; rw [O.ownB _ O.ownL] at e; cases e
  · refine funFrames_of (fun b o e nf => ?_) R.fn
    by_cases q : b = c.env.locals
    · subst q
      obtain ⟨o', e', d'⟩ := dc_ns hn
      exact ⟨o', e', fun vs z => by rw [z] at d'; cases d'⟩
    · exact ⟨o, (hs.2 b q).trans e, nf⟩
  · rw [lookup_setL] at e
    by_cases q : y = x
    · subst q
      rw [if_pos rfl] at e; cases e
      unfold LocAt; rw [hko]
      exact ⟨pv, if_pos rfl, hv.seqK sk⟩
    · rw [if_neg q] at e
      have cellk : ∀ a v, s.heap.IsCell a v → h'.IsCell a v := fun a v ⟨o, ho, hd⟩ => ⟨o, (hs.2 a fun z => by
        subst z
        rw [hL] at ho; cases ho
        obtain ⟨o', es, ep, ho', hd', _⟩ := hm
        rw [hL] at ho'; cases ho'
        rw [hd] at hd'; cases hd').trans ho, hd⟩
      have := hlc y u e
      unfold LocAt at this ⊢
      split at this
      · obtain ⟨pv, a, b⟩ := this; exact ⟨pv, (if_neg q).trans a, b.seqK sk⟩
      · obtain ⟨a, pv, b, d, e⟩ := this; exact ⟨a, pv, b, cellk _ _ d, e.seqK sk⟩
      · obtain ⟨a, pv, b, d, e⟩ := this; exact ⟨a, pv, b, cellk _ _ d, e.seqK sk⟩
      · exact this.elim
  · by_cases q : b = c.env.locals
    · subst q; exact dc_ns hn
    · obtain ⟨o, e, z⟩ := R.own b hb; exact ⟨o, (hs.2 b q).trans e, z⟩
  · refine R.ob.keep sk (fun o e hp => ⟨o.slots, (hs.2 _ fun q => ?_).trans e⟩) fun o e => ⟨o.slots, (hs.2 _ (Ne.symm nLD)).trans e⟩
    rw [q, hL] at e; cases e; rw [hp] at dL; cases dL

theorem nextS {c : Cx} {h₀ : Heap} {Q : Fl → St → Prop} {s' : Shared} {σ' : St} (R' : Rel c σ' s') (X' : Ext c h₀ s'.heap) (q : Q .next σ') : QS c h₀ Q .next s' := ⟨.next, σ', R', X', trivial, q⟩

theorem HS_assign {x : Str} {pos' pos : Pos} {value : Expr} {Q : Fl → St → Prop} (hl : F.sc.names.lookup x = some .local) (h : HE F value σ (fun v σ' => Q .next { σ' with loc := setL x v σ'.loc }))
    (hs : ∀ env, swapsWith value (some (.Name x pos')) pos.line env = pure false := by intro; rfl) : HS F (.Assign [.Name x pos'] value pos) σ Q := fun c O s R => by
  refine wpAny_Assign_Name (wpAny_mono (h c O s R) (fun pv s₁ zz => ?_) fun _ _ z => z.elim) (hs c.env)
  obtain ⟨v, σ₁, R₁, X₁, hv, q⟩ := zz
  exact store_local O R₁ hl hv fun s' R' X' => nextS R' (X₁.trans X') q

theorem HS_setself {x name : Str} {p pos' pos : Pos} {value : Expr} {Q : Fl → St → Prop} (hk : F.k = .stem) (hl : isLoc F x = true) (hn : selfNames.contains name = true)
    (h : HE F value σ (fun v σ' => σ'.loc.lookup x = some .self ∧ (σ'.ob.length ≤ 20 ∧ atom v = true) ∧ Q .next { σ' with ob := setL name v σ'.ob }))
    (hs : ∀ env, swapsWith value (some (.Attribute (.Name x p) name pos')) pos.line env = pure false := by intro; rfl) : HS F (.Assign [.Attribute (.Name x p) name pos'] value pos) σ Q := fun c O s R => by
  refine plainObj_wpAny_Assign_Attribute (wpAny_mono (h c O s R) (fun pv s₁ zz => ?_) fun _ _ z => z.elim) (hs c.env)
  obtain ⟨v, σ₁, R₁, X₁, hv, e, hz, q⟩ := zz
  refine wpAny_mono (HE_name (Q := fun v σ' => v = .self ∧ σ' = σ₁) e hl ⟨rfl, rfl⟩ c O s₁ R₁) (fun pv' s₂ zz => ?_) fun _ _ z => z.elim
  obtain ⟨v', σ₂, R₂, X₂, hv', e1, e2⟩ := zz
  subst e1 e2
  cases hv'
  exact set_self O hk R₂ hn hz.1 (hv.seqK (X₂.seqK R₁.own)) hz.2 fun s' R' X' => nextS R' ((X₁.trans X₂).trans X') q

noncomputable def inpV (op : Operator) (a b : V) (P : V → Prop) : Prop := match op, a, b with
  | .Add, .int i, .int j => P (.int (i + j))
  | .Sub, .int i, .int j => P (.int (i - j))
  | _, _, _ => False

theorem inp_sound {c : Cx} (O : c.Ok F) {s : Shared} {op : Operator} {a b : V} {pa pb : Value} {P : V → Prop} (va : VR c.g s.heap a pa) (vb : VR c.g s.heap b pb) (q : inpV op a b P) {Q : Value → Shared → Prop} {E : Value → Shared → Prop}
    (h : ∀ i tk tk', P (.int i) → Q (.int i tk) ⟨s.heap, s.gens, s.drawn, tk', s.os⟩) : wpAny (model pw c.g.w) c.A (inplaceOp op pa pb) Q E s := by
  unfold inpV at q
  split at q
  · cases va; cases vb; exact iadd_int (h _ _ _ q)
  · cases va; cases vb; exact PySem.P.isub_int (h _ _ _ q)
  · exact q.elim

theorem HS_aug {x : Str} {pos' pos : Pos} {op : Operator} {value : Expr} {Q : Fl → St → Prop} {a : V} (hl : F.sc.names.lookup x = some .local) (ha : σ.loc.lookup x = some a)
    (h : HE F value σ (fun b σ' => inpV op a b (fun v => Q .next { σ' with loc := setL x v σ'.loc }))) : HS F (.AugAssign (.Name x pos') op value pos) σ Q := fun c O s R => by
  obtain ⟨m, hm, hlc⟩ := R.loc
  have hko : c.env.kindOf x = some .local := by unfold Env.kindOf; rw [O.sc]; exact hl
  have hkf : c.env.scope.kind = .function := by rw [O.sc]; exact O.kd
  have := hlc x a ha
  unfold LocAt at this
  rw [hko] at this
  obtain ⟨pa, e, va⟩ := this
  refine wpAny_AugAssign_Name (wpAny_loadName_local hkf hko hm e ?_)
  refine wpAny_mono (h c O s R) (fun pb s₁ zz => ?_) fun _ _ z => z.elim
  obtain ⟨b, σ₁, R₁, X₁, vb, q⟩ := zz
  refine inp_sound O (va.seqK (X₁.seqK R.own)) vb q fun i tk tk' q => ?_
  have k := R₁.kp O (.refl c s₁.heap) s₁.drawn tk'
  exact store_local O k.1 hl (.int i tk) fun s' R' X' => nextS R' (X₁.trans X') q

theorem HS_augself {x name : Str} {p pos' pos : Pos} {op : Operator} {value : Expr} {Q : Fl → St → Prop} {a : V} (hk : F.k = .stem) (hx : σ.loc.lookup x = some .self) (hl : isLoc F x = true) (hn : selfNames.contains name = true) (ha : σ.ob.lookup name = some a)
    (h : HE F value σ (fun b σ' => inpV op a b (fun v => σ'.ob.length ≤ 20 ∧ Q .next { σ' with ob := setL name v σ'.ob }))) : HS F (.AugAssign (.Attribute (.Name x p) name pos') op value pos) σ Q := fun c O s R => by
  refine wpAny_AugAssign_AttributeAny ?_
  refine wpAny_mono (HE_name (Q := fun v σ' => v = .self ∧ σ' = σ) hx hl ⟨rfl, rfl⟩ c O s R) (fun pv' s₂ zz => ?_) fun _ _ z => z.elim
  obtain ⟨v', σ₂, R₂, X₂, hv', e1, e2⟩ := zz
  subst e1 e2
  cases hv'
  refine get_self O hk R₂ hn ha fun pa va => ?_
  have k := R₂.kp O (.refl c s₂.heap) s₂.drawn (s₂.toks + 1)
  refine wpAny_mono (h c O _ k.1) (fun pb s₁ zz => ?_) fun _ _ z => z.elim
  obtain ⟨b, σ₁, R₁, X₁, vb, q⟩ := zz
  refine inp_sound O (va.seqK (X₁.seqK R₂.own)) vb q fun i tk tk' q => ?_
  have k₁ := R₁.kp O (.refl c s₁.heap) s₁.drawn tk'
  exact set_self O hk k₁.1 hn q.1 (.int i tk) rfl fun s' R' X' => nextS R' ((X₂.trans X₁).trans X') q.2

theorem HS_if {t : Expr} {b e : List Stmt} {pos : Pos} {Q : Fl → St → Prop} (h : HT F t σ (fun x σ' => if x then HB F b σ' Q else HB F e σ' Q)) : HS F (.If t b e pos) σ Q := fun c O s R => by
  refine wpAny_If (wpAny_mono (h c O s R) (fun x s' zz => ?_) fun _ _ z => z.elim)
  obtain ⟨σ', R', X', q⟩ := zz
  cases x with
  | true => exact wpAny_mono (q c O s' R') (fun _ _ z => z.weak X') fun _ _ z => z.weak X'
  | false => exact wpAny_mono (q c O s' R') (fun _ _ z => z.weak X') fun _ _ z => z.weak X'
theorem HS_pass {pos : Pos} {Q : Fl → St → Prop} (h : Q .next σ) : HS F (.Pass pos) σ Q := fun c O s R => wpAny_Pass (nextS R (.refl _ _) h)
theorem HS_break {pos : Pos} {Q : Fl → St → Prop} (h : Q .brk σ) : HS F (.Break pos) σ Q := fun c O s R => wpAny_Break ⟨.brk, σ, R, .refl _ _, trivial, h⟩
theorem HS_cont {pos : Pos} {Q : Fl → St → Prop} (h : Q .cont σ) : HS F (.Continue pos) σ Q := fun c O s R => wpAny_Continue ⟨.cont, σ, R, .refl _ _, trivial, h⟩
theorem HS_ret {e : Expr} {pos : Pos} {Q : Fl → St → Prop} (h : HE F e σ (fun v σ' => Q (.ret v) σ')) : HS F (.Return (some e) pos) σ Q := fun c O s R =>
  wpAny_Return_some (wpAny_mono (h c O s R) (fun pv s' ⟨v, σ', R', X', hv, q⟩ => ⟨.ret v, σ', R', X', hv, q⟩) fun _ _ z => z.elim)
noncomputable def notRef : V → Prop
  | .int _ => True
  | .str _ => True
  | .bool _ => True
  | .none => True
  | _ => False
theorem HS_expr {e : Expr} {pos : Pos} {Q : Fl → St → Prop} (h : HE F e σ (fun v σ' => notRef v ∧ Q .next σ')) (hs : ∀ env, swapsWith e none pos.line env = pure false := by intro; rfl) : HS F (.Expr e pos) σ Q := fun c O s R => by
  refine wpAny_Expr (wpAny_mono (h c O s R) (fun pv s' ⟨v, σ', R', X', hv, nr, q⟩ => ?_) fun _ _ z => z.elim) ?_ (hs c.env)
  · cases hv <;> first | exact nr.elim | exact nextS R' X' q
  · unfold interactive
    rw [O.sc, O.kd]; rfl
theorem HS_assert {t : Expr} {m : Option Expr} {pos : Pos} {Q : Fl → St → Prop} (h : HT F t σ (fun b σ' => b = true ∧ Q .next σ')) : HS F (.Assert t m pos) σ Q := fun c O s R =>
  wpAny_Assert_holds (wpAny_mono (h c O s R) (fun b s' ⟨σ', R', X', e, q⟩ => ⟨e, nextS R' X' q⟩) fun _ _ z => z.elim)
end
end Mine

end

-- W8
section
namespace Mine

noncomputable def chAt (x : Str) (i : Int) : Str := ⟨#[x.cps.getD i.toNat 0]⟩
theorem txt_item (x : Str) (i : Int) (h0 : 0 ≤ i) (h1 : i < x.length) : Txt.item x i = chAt x i := by
  have e : x.length = x.cps.size := rfl
  have hl : i.toNat < x.cps.size := by omega
  unfold Txt.item Txt.charAt seqIndex? chAt
  simp only [show ¬ i < 0 by omega, if_false, h0, h1, decide_true, Bool.and_self, if_true, Option.bind_some]
  rw [Array.getD_eq_getD_getElem?]

section
variable {F : Fi} {σ : St}

theorem HE_item_str {value slice : Expr} {pos : Pos} {Q : V → St → Prop} (h : HE F value σ (fun a σ₁ => HE F slice σ₁ (fun b σ₂ => ∃ x i, a = .str x ∧ b = .int i ∧ 0 ≤ i ∧ i < x.length ∧ x.length ≤ sizeLine ∧ Q (.str (chAt x i)) σ₂)))
    (hs : ∀ o i, subscripted slice false o i = operate [o, i] (getItem o i) := by intros; rfl)
    (ht : ∀ x t r, letTemporaryGo value (.str x t) r = pure () := by intros; rfl) : HE F (.Subscript value slice pos) σ Q := fun c O s R => by
  refine Subscript_ (wpAny_mono (h c O s R) (fun pa s₁ zz => ?_) fun _ _ z => z)
  obtain ⟨a, σ₁, R₁, X₁, va, ha⟩ := zz
  refine wpAny_mono (ha c O s₁ R₁) (fun pb s₂ zz => ?_) fun _ _ z => z
  obtain ⟨b, σ₂, R₂, X₂, vb, x, i, ea, eb, h0, h1, hz, q⟩ := zz
  subst ea eb
  have X := X₁.trans X₂
  cases va; cases vb
  have hz' : sizeLine < 2 ^ 62 := by rw [sizeLine_eq]; decide
  refine item_str (by unfold fitsSsize; simp; omega) (by omega) h1 (fun _ => ?_) (hs _ _) (fun r => ht _ _ r)
  rw [txt_item _ i h0 h1]
  exact moreE X (endE O R₂ (.refl _ _) (.str _ _) q)

theorem HE_item {id : Str} {p : Pos} {slice : Expr} {pos : Pos} {Q : V → St → Prop} (h : HE F (.Name id p) σ (fun a σ₁ => HE F slice σ₁ (fun b σ₂ => ∃ l i v, a = .list l ∧ b = .int i ∧ 0 ≤ i ∧ i < 2 ^ 62 ∧ l[i.toNat]? = some v ∧ Q v σ₂)))
    (hs : ∀ o i, subscripted slice false o i = operate [o, i] (getItem o i) := by intros; rfl) : HE F (.Subscript (.Name id p) slice pos) σ Q := fun c O s R => by
  refine Subscript_ (wpAny_mono (h c O s R) (fun pa s₁ zz => ?_) fun _ _ z => z)
  obtain ⟨a, σ₁, R₁, X₁, va, ha⟩ := zz
  refine wpAny_mono (ha c O s₁ R₁) (fun pb s₂ zz => ?_) fun _ _ z => z
  obtain ⟨b, σ₂, R₂, X₂, vb, l, i, v, ea, eb, h0, h1, hv, q⟩ := zz
  subst ea eb
  have va := va.seqK (X₂.seqK R₁.own)
  have X := X₁.trans X₂
  cases vb
  cases va with
  | @list la oa ia na _ ho hc hd hD hl k =>
    have hi : i.toNat < ia.size := by
      rw [hl]; exact (List.getElem?_eq_some_iff.mp hv).1
    have e : ia[i.toNat]? = some ia[i.toNat] := Array.getElem?_eq_getElem hi
    exact item_list ⟨oa, ho, hc, na, hd⟩ h0 (by omega) e (moreE X (endE (tk := s₂.toks) (d := s₂.drawn) O R₂ (.refl _ _) (k _ _ _ hv e) q)) (hs _ _) (fun _ => rfl)

/-! slices -/
theorem slice_new {M : Model} {A : Around} {E : Value → Shared → Prop} {s : Shared} {a b c : Value} {Q : Value → Shared → Prop}
    (h : Q (.ref s.heap.objs.size) { s with heap := s.heap.push { cls := .type "slice", data := .fields #[a, b, c] } }) : wpAny M A (newFields "slice" [a, b, c]) Q E s := by
  unfold newFields
  exact wpAny_newObj_type h

theorem HE_sl_ss {value lo hi : Expr} {p pos : Pos} {Q : V → St → Prop} (h : HE F value σ (fun a σ₁ => HE F lo σ₁ (fun b σ₂ => HE F hi σ₂ (fun d σ₃ => ∃ x i j, a = .str x ∧ b = .int i ∧ d = .int j ∧ x.length ≤ sizeLine ∧ Q (.str (Txt.slice x (some i) (some j))) σ₃))))
    (ht : ∀ x t r, letTemporaryGo value (.str x t) r = pure () := by intros; rfl) : HE F (.Subscript value (.Slice (some lo) (some hi) none p) pos) σ Q := fun c O s R => by
  refine Subscript_ (wpAny_mono (h c O s R) (fun pa s₁ zz => ?_) fun _ _ z => z)
  obtain ⟨a, σ₁, R₁, X₁, va, ha⟩ := zz
  rw [arm_eval_Slice]
  refine wpAny_bind (wpAny_mono (ha c O s₁ R₁) (fun pb s₂ zz => ?_) fun _ _ z => z)
  obtain ⟨b, σ₂, R₂, X₂, vb, hb⟩ := zz
  refine wpAny_bind (wpAny_holding (wpAny_mono (hb c O s₂ R₂) (fun pd s₃ zz => ?_) fun _ _ z => z))
  obtain ⟨d, σ₃, R₃, X₃, vd, x, i, j, ea, eb, ed, hz, q⟩ := zz
  refine wpAny_bind (wpAny_holding (wpAny_pure (slice_new ?_)))
  subst ea eb ed
  cases va; cases vb; cases vd
  obtain ⟨m, Fm, N, kk⟩ := R₃.led
  exact slice_strN_ss Fm N (fun h' t' k F' N' => moreE ((X₁.trans X₂).trans X₃) (endE O R₃ (kk h' F' N') (.str _ _) q)) rfl (fun r => ht _ _ r) hz
theorem HE_sl_sn {value lo : Expr} {p pos : Pos} {Q : V → St → Prop} (h : HE F value σ (fun a σ₁ => HE F lo σ₁ (fun b σ₂ => ∃ x i, a = .str x ∧ b = .int i ∧ x.length ≤ sizeLine ∧ Q (.str (Txt.slice x (some i) none)) σ₂)))
    (ht : ∀ x t r, letTemporaryGo value (.str x t) r = pure () := by intros; rfl) : HE F (.Subscript value (.Slice (some lo) none none p) pos) σ Q := fun c O s R => by
  refine Subscript_ (wpAny_mono (h c O s R) (fun pa s₁ zz => ?_) fun _ _ z => z)
  obtain ⟨a, σ₁, R₁, X₁, va, ha⟩ := zz
  rw [arm_eval_Slice]
  refine wpAny_bind (wpAny_mono (ha c O s₁ R₁) (fun pb s₂ zz => ?_) fun _ _ z => z)
  obtain ⟨b, σ₂, R₂, X₂, vb, x, i, ea, eb, hz, q⟩ := zz
  refine wpAny_bind (wpAny_holding (wpAny_pure ?_))
  refine wpAny_bind (wpAny_holding (wpAny_pure (slice_new ?_)))
  subst ea eb
  cases va; cases vb
  obtain ⟨m, Fm, N, kk⟩ := R₂.led
  exact slice_strN_sn Fm N (fun h' t' k F' N' => moreE (X₁.trans X₂) (endE O R₂ (kk h' F' N') (.str _ _) q)) rfl (fun r => ht _ _ r) hz
theorem HE_sl_ns {value hi : Expr} {p pos : Pos} {Q : V → St → Prop} (h : HE F value σ (fun a σ₁ => HE F hi σ₁ (fun b σ₂ => ∃ x i, a = .str x ∧ b = .int i ∧ x.length ≤ sizeLine ∧ Q (.str (Txt.slice x none (some i))) σ₂)))
    (ht : ∀ x t r, letTemporaryGo value (.str x t) r = pure () := by intros; rfl) : HE F (.Subscript value (.Slice none (some hi) none p) pos) σ Q := fun c O s R => by
  refine Subscript_ (wpAny_mono (h c O s R) (fun pa s₁ zz => ?_) fun _ _ z => z)
  obtain ⟨a, σ₁, R₁, X₁, va, ha⟩ := zz
  rw [arm_eval_Slice]
  refine wpAny_bind (wpAny_pure ?_)
  refine wpAny_bind (wpAny_holding (wpAny_mono (ha c O s₁ R₁) (fun pb s₂ zz => ?_) fun _ _ z => z))
  obtain ⟨b, σ₂, R₂, X₂, vb, x, i, ea, eb, hz, q⟩ := zz
  refine wpAny_bind (wpAny_holding (wpAny_pure (slice_new ?_)))
  subst ea eb
  cases va; cases vb
  obtain ⟨m, Fm, N, kk⟩ := R₂.led
  exact slice_strN_ns Fm N (fun h' t' k F' N' => moreE (X₁.trans X₂) (endE O R₂ (kk h' F' N') (.str _ _) q)) rfl (fun r => ht _ _ r) hz

theorem vr_new {c : Cx} (O : c.Ok F) {s : Shared} (R : Rel c σ s) : s.heap.objs.size ≠ c.g.D ∧ s.heap.objs.size + 1 ≠ c.g.D := by
  obtain ⟨oD, hD⟩ := R.ob.has
  have := Heap.lt_size hD
  constructor <;> (intro z; rw [← z] at this; exact absurd this (by first | exact Nat.lt_irrefl _ | exact Nat.not_lt.mpr (Nat.le_succ _)))

theorem pick_upto (items : Array Value) (b : Nat) : slicePick items none (some (b : Int)) none = (items.toList.take b).toArray := by
  by_cases h : b ≤ items.size
  · exact slicePick_upto items b h
  · have e : sliceBounds none (some (b : Int)) none items.size = sliceBounds none none none items.size := by
      simp only [sliceBounds, Option.getD_none]
      have h2 : ¬ ((b : Int) < 0) := by omega
      simp only [h2, if_false, show (1 : Int) > 0 by decide, if_true]
      congr 1
      congr 1; omega
    have e' : slicePick items none (some (b : Int)) none = slicePick items none none none := by unfold slicePick; rw [e]
    rw [e', slicePick_all, List.take_of_length_le (by simp; omega)]

theorem VR.list_of {g : Gx} {h : Heap} {a : Addr} {n : Nat} {items : List Value} {vs : List V} (e : h.get? a = some { cls := .type "list", data := .seq items.toArray n }) (hD : a ≠ g.D) (k : VRs g h vs items) : VR g h (.list vs) (.ref a) := by
  refine .list e rfl rfl hD (by simp [k.length]) fun j v pv x y => ?_
  rw [List.getElem?_toArray] at y
  clear e hD
  induction k generalizing j with
  | nil => cases x
  | cons hv _ ih =>
    cases j with
    | zero => cases x; cases y; exact hv
    | succ j => exact ih j (by simpa using x) (by simpa using y)
theorem VRs.of_at {g : Gx} {h : Heap} : ∀ {vs : List V} {items : List Value}, vs.length = items.length → (∀ (j : Nat) v pv, vs[j]? = some v → items[j]? = some pv → VR g h v pv) → VRs g h vs items
  | [], [], _, _ => .nil
  | [], _ :: _, l, _ => by cases l
  | _ :: _, [], l, _ => by cases l
  | v :: vs, p :: items, l, k => .cons (k 0 v p rfl rfl) (VRs.of_at (by simpa using l) fun j v pv a b => k (j + 1) v pv (by simpa using a) (by simpa using b))
theorem VRs.drop {g : Gx} {h : Heap} {vs : List V} {items : List Value} (x : VRs g h vs items) : ∀ k : Nat, VRs g h (vs.drop k) (items.drop k) := by
  induction x with
  | nil => intro k; simp; exact .nil
  | cons a b ih =>
    intro k
    cases k with
    | zero => exact .cons a b
    | succ k => exact ih k
theorem VRs.take {g : Gx} {h : Heap} {vs : List V} {items : List Value} (x : VRs g h vs items) : ∀ k : Nat, VRs g h (vs.take k) (items.take k) := by
  induction x with
  | nil => intro k; simp; exact .nil
  | cons a b ih =>
    intro k
    cases k with
    | zero => exact .nil
    | succ k => exact .cons a (ih k)

theorem HE_ls_from {id : Str} {p1 p pos : Pos} {lo : Expr} {Q : V → St → Prop} (h : HE F (.Name id p1) σ (fun a σ₁ => HE F lo σ₁ (fun b σ₂ => ∃ l k, a = .list l ∧ b = .int k ∧ 0 ≤ k ∧ k ≤ l.length ∧ l.length ≤ sizeLine ∧ Q (.list (l.drop k.toNat)) σ₂))) :
    HE F (.Subscript (.Name id p1) (.Slice (some lo) none none p) pos) σ Q := fun c O s R => by
  refine Subscript_ (wpAny_mono (h c O s R) (fun pa s₁ zz => ?_) fun _ _ z => z)
  obtain ⟨a, σ₁, R₁, X₁, va, ha⟩ := zz
  rw [arm_eval_Slice]
  refine wpAny_bind (wpAny_mono (ha c O s₁ R₁) (fun pb s₂ zz => ?_) fun _ _ z => z)
  obtain ⟨b, σ₂, R₂, X₂, vb, l, k, ea, eb, h0, h1, hz, q⟩ := zz
  refine wpAny_bind (wpAny_holding (wpAny_pure ?_))
  refine wpAny_bind (wpAny_holding (wpAny_pure (slice_new ?_)))
  subst ea eb
  have va := va.seqK (X₂.seqK R₁.own)
  cases vb
  cases va with
  | @list la oa ia na _ ho hc hd hD hl kv =>
    obtain ⟨m, Fm, N, kk⟩ := R₂.led
    refine slice_list Fm N ⟨oa, ho, hc, na, hd⟩ (.int _ _) .none (fun h' F' N' => ?_) rfl (fun r => rfl) (by rw [hl]; exact hz)
    have kp := kk h' F' fun p hp => N' p (.tail _ hp)
    have new := (N' _ (.head _)).1
    have e : k = (k.toNat : Int) := by omega
    rw [e, slicePick_from ia k.toNat (by omega)] at new
    have sk := (Ext.of_kp O R₂ kp).seqK R₂.own
    exact moreE (X₁.trans X₂) (endE (tk := s₂.toks) (d := s₂.drawn) O R₂ kp (.list_of new (vr_new O R₂).2 (((VRs.of_at (by simp [hl]) fun j v pv a b => kv j v pv a (by simpa using b)).drop k.toNat).seqK sk)) q)

theorem HE_ls_upto {id : Str} {p1 p pos : Pos} {hi : Expr} {Q : V → St → Prop} (h : HE F (.Name id p1) σ (fun a σ₁ => HE F hi σ₁ (fun b σ₂ => ∃ l k, a = .list l ∧ b = .int k ∧ 0 ≤ k ∧ l.length ≤ sizeLine ∧ Q (.list (l.take k.toNat)) σ₂))) :
    HE F (.Subscript (.Name id p1) (.Slice none (some hi) none p) pos) σ Q := fun c O s R => by
  refine Subscript_ (wpAny_mono (h c O s R) (fun pa s₁ zz => ?_) fun _ _ z => z)
  obtain ⟨a, σ₁, R₁, X₁, va, ha⟩ := zz
  rw [arm_eval_Slice]
  refine wpAny_bind (wpAny_pure ?_)
  refine wpAny_bind (wpAny_holding (wpAny_mono (ha c O s₁ R₁) (fun pb s₂ zz => ?_) fun _ _ z => z))
  obtain ⟨b, σ₂, R₂, X₂, vb, l, k, ea, eb, h0, hz, q⟩ := zz
  refine wpAny_bind (wpAny_holding (wpAny_pure (slice_new ?_)))
  subst ea eb
  have va := va.seqK (X₂.seqK R₁.own)
  cases vb
  cases va with
  | @list la oa ia na _ ho hc hd hD hl kv =>
    obtain ⟨m, Fm, N, kk⟩ := R₂.led
    refine slice_list Fm N ⟨oa, ho, hc, na, hd⟩ .none (.int _ _) (fun h' F' N' => ?_) rfl (fun r => rfl) (by rw [hl]; exact hz)
    have kp := kk h' F' fun p hp => N' p (.tail _ hp)
    have new := (N' _ (.head _)).1
    have e : k = (k.toNat : Int) := by omega
    rw [e, pick_upto ia k.toNat] at new
    have sk := (Ext.of_kp O R₂ kp).seqK R₂.own
    exact moreE (X₁.trans X₂) (endE (tk := s₂.toks) (d := s₂.drawn) O R₂ kp (.list_of new (vr_new O R₂).2 (((VRs.of_at (by simp [hl]) fun j v pv a b => kv j v pv a (by simpa using b)).take k.toNat).seqK sk)) q)

/-- a list display -/
theorem HE_list {es : List Expr} {pos : Pos} {Q : V → St → Prop} (h : HA F es σ (fun vs σ' => vs.length ≤ 1000 ∧ Q (.list vs) σ')) : HE F (.List es pos) σ Q := fun c O s R => by
  rw [arm_eval_List]
  refine wpAny_bind (wpAny_standAt (wpAny_bind (wpAny_mono (h c O s pos R) (fun pvs s' zz => ?_) fun _ _ z => z)))
  obtain ⟨vs, σ', R', X', hv, hz, q⟩ := zz
  unfold newList
  refine wpAny_newObj_type ?_ (by show pvs.toArray.size ≤ sizeLine; rw [List.size_toArray, ← hv.length, sizeLine_eq]; omega)
  have kp : Kp c s'.heap (s'.heap.push { cls := .type "list", data := .seq pvs.toArray }) := .of_keeps fun b o e => Heap.get?_push_of_some _ e
  have sk := (Ext.of_kp O R' kp).seqK R'.own
  exact moreE X' (endE (tk := s'.toks) (d := s'.drawn) O R' kp (.list_of (Heap.get?_push_size _ rfl) (vr_new O R').1 (hv.seqK sk)) q)

/-! builtins -/
theorem HE_len {p pos : Pos} {e : Expr} {Q : V → St → Prop} (hx : F.sc.names.lookup ("len" : Str) = some .globalImplicit)
    (h : HE F e σ (fun v σ' => (∃ x, v = .str x ∧ x.length ≤ sizeLine ∧ Q (.int x.length) σ') ∨ ∃ l, v = .list l ∧ l.length ≤ sizeLine ∧ Q (.int l.length) σ'))
    (he : ∀ env, starEach [e] env = [(false, eval e env)] := by intro; rfl) : HE F (.Call (.Name "len" p) [e] [] pos) σ Q := by
  have hz' : sizeLine < 2 ^ 62 := by rw [sizeLine_eq]; decide
  refine HE_bi (P := fun vs σ' => ∃ v, vs = [v] ∧ ((∃ x, v = .str x ∧ x.length ≤ sizeLine ∧ Q (.int x.length) σ') ∨ ∃ l, v = .list l ∧ l.length ≤ sizeLine ∧ Q (.int l.length) σ')) hx (fun P => by kernel_rfl) rfl (by decide)
    (HA_cons (HE_mono h fun v σ' q => HA_nil ⟨v, rfl, q⟩) he) (fun c O vs σ' s' pvs R' hv ⟨v, e, q⟩ => ?_) (by decide) (fun env => by rw [he]; rfl)
  subst e
  cases hv with
  | cons hv hn =>
    cases hn
    rcases q with ⟨x, rfl, hz, q⟩ | ⟨l, rfl, hz, q⟩
    · cases hv
      exact PySem.P.len_str (by omega) (endE O R' (.refl _ _) (.int _ _) q)
    · cases hv with
      | @list la oa ia na _ ho hc hd hD hl kv =>
        refine PyProof.Rows.len_list ⟨oa, ho, hc, na, hd⟩ (by omega) ?_
        rw [hl]
        exact endE O R' (.refl _ _) (.int _ _) q

theorem HE_min {p pos : Pos} {a b : Expr} {Q : V → St → Prop} (hx : F.sc.names.lookup ("min" : Str) = some .globalImplicit)
    (h : HE F a σ (fun v σ' => HE F b σ' (fun u σ'' => ∃ i j, v = .int i ∧ u = .int j ∧ Q (.int (if j < i then j else i)) σ'')))
    (he : ∀ env, starEach [a, b] env = [(false, eval a env), (false, eval b env)] := by intro; rfl)
    (he' : ∀ env, starEach [b] env = [(false, eval b env)] := by intro; rfl) : HE F (.Call (.Name "min" p) [a, b] [] pos) σ Q := by
  refine HE_bi (P := fun vs σ' => ∃ i j, vs = [.int i, .int j] ∧ Q (.int (if j < i then j else i)) σ') hx (fun P => by kernel_rfl) rfl (by decide)
    (HA_cons (HE_mono h fun v σ' q => HA_cons (HE_mono q fun u σ'' ⟨i, j, e1, e2, q⟩ => HA_nil ⟨i, j, by rw [e1, e2], q⟩) he') (fun env => by rw [he, he'])) (fun c O vs σ' s' pvs R' hv ⟨i, j, e, q⟩ => ?_) (by decide) (fun env => by rw [he]; rfl)
  subst e
  cases hv with
  | cons hv hn =>
    cases hn with
    | cons hu hn =>
      cases hn; cases hv; cases hu
      obtain ⟨m, Fm, N, kk⟩ := R'.led
      exact min_two_N O.hd Fm N fun h' tk F' N' => endE O R' (kk h' F' N') (.int _ _) q

theorem HE_ord {p pos : Pos} {e : Expr} {Q : V → St → Prop} (hx : F.sc.names.lookup ("ord" : Str) = some .globalImplicit) (h : HE F e σ (fun v σ' => ∃ x, v = .str x ∧ x.length = 1 ∧ Q (.int (x.cps.getD 0 0 : Nat)) σ'))
    (he : ∀ env, starEach [e] env = [(false, eval e env)] := by intro; rfl) : HE F (.Call (.Name "ord" p) [e] [] pos) σ Q := by
  refine HE_bi (P := fun vs σ' => ∃ x, vs = [.str x] ∧ x.length = 1 ∧ Q (.int (x.cps.getD 0 0 : Nat)) σ') hx (fun P => by kernel_rfl) rfl (by decide)
    (HA_cons (HE_mono h fun v σ' ⟨x, e, h1, q⟩ => HA_nil ⟨x, by rw [e], h1, q⟩) he) (fun c O vs σ' s' pvs R' hv ⟨x, e, h1, q⟩ => ?_) (by decide) (fun env => by rw [he]; rfl)
  subst e
  cases hv with
  | cons hv hn =>
    cases hn; cases hv
    exact ord_of_one h1 (endE O R' (.refl _ _) (.int _ _) q)
theorem HE_chr {p pos : Pos} {e : Expr} {Q : V → St → Prop} (hx : F.sc.names.lookup ("chr" : Str) = some .globalImplicit) (h : HE F e σ (fun v σ' => ∃ i, v = .int i ∧ 0 ≤ i ∧ i ≤ 1114111 ∧ Q (.str ⟨#[i.toNat]⟩) σ'))
    (he : ∀ env, starEach [e] env = [(false, eval e env)] := by intro; rfl) : HE F (.Call (.Name "chr" p) [e] [] pos) σ Q := by
  refine HE_bi (P := fun vs σ' => ∃ i, vs = [.int i] ∧ 0 ≤ i ∧ i ≤ 1114111 ∧ Q (.str ⟨#[i.toNat]⟩) σ') hx (fun P => by kernel_rfl) rfl (by decide)
    (HA_cons (HE_mono h fun v σ' ⟨i, e, h1, h2, q⟩ => HA_nil ⟨i, by rw [e], h1, h2, q⟩) he) (fun c O vs σ' s' pvs R' hv ⟨i, e, h1, h2, q⟩ => ?_) (by decide) (fun env => by rw [he]; rfl)
  subst e
  cases hv with
  | cons hv hn =>
    cases hn; cases hv
    exact PySem.P.chr_of_int (by simp; omega) (endE O R' (.refl _ _) (.str _ _) q)
theorem HE_endswith {x : Str} {p apos pos : Pos} {e : Expr} {Q : V → St → Prop} (h : HE F (.Name x p) σ (fun v σ' => ∃ a, v = .str a ∧ HE F e σ' (fun u σ'' => ∃ b, u = .str b ∧ Q (.bool (Txt.endswith a b)) σ'')))
    (he : ∀ env, eval (.Call (.Attribute (.Name x p) "endswith" apos) [e] [] pos) env = (do
      let ov ← eval (.Name x p) env
      standAt apos.atName
      let (f, first) ← holding [ov] (getMethod ov "endswith" (do return (← importBound (.Name x p) env).getD true))
      callWith pos f first (backTo pos (starEach [e] env)) (backToKw pos (keywordEach [] env))) := by intro; rfl)
    (hs : ∀ env, starEach [e] env = [(false, eval e env)] := by intro; rfl) : HE F (.Call (.Attribute (.Name x p) "endswith" apos) [e] [] pos) σ Q := fun c O s R => by
  refine methodCall_KW (pl := do return (← importBound (.Name x p) c.env).getD true) ?_ (he c.env)
  refine wpAny_mono (h c O s R) (fun pv s₁ zz => ?_) fun _ _ z => z
  obtain ⟨v, σ₁, R₁, X₁, hv, a, e1, q⟩ := zz
  subst e1
  cases hv
  refine GM.endswith ?_
  refine callWith_B (first := [_]) (Q := fun vs σ' => ∃ b, vs = [.str b] ∧ Q (.bool (Txt.endswith a b)) σ') O R₁ (by rw [hs]; rfl)
    (HA_cons (HE_mono q fun v σ' ⟨b, e, q⟩ => HA_nil ⟨b, by rw [e], q⟩) hs) fun vs σ' pvs s' R' X' hv ⟨b, e, q⟩ => ?_
  subst e
  cases hv with
  | cons hv hn =>
    cases hn; cases hv
    exact SC.endswith (moreE (X₁.trans X') (endE (tk := s'.toks) (d := s'.drawn) O R' (.refl _ _) (.bool _) q))
end
end Mine

end

-- W9
section
namespace Mine

section
variable {F : Fi} {σ : St}

/-- a step that changes records alone which are fresh against h₀ -/
theorem Rel.mod {c : Cx} (O : c.Ok F) {s : Shared} (R : Rel c σ s) {h₀ h' : Heap} (X : Ext c h₀ s.heap)
    (k : ∀ b o, s.heap.get? b = some o → KO o (h'.get? b) ∨ ((∃ vs, o.data = .fields vs) ∧ h₀.get? b = none ∧ (b = c.g.D → ∃ o', h'.get? b = some o')))
    (hb : c.g.base.StaysIn h') (hf : h'.FunFrames c.g.base (c.stk)) : Rel c σ { s with heap := h' } ∧ Ext c h₀ h' := by
  have kn : ∀ b o, s.heap.get? b = some o → (∀ vs, o.data ≠ .fields vs) → ∃ sl, h'.get? b = some { o with slots := sl } := fun b o e n => by
    rcases k b o e with q | ⟨⟨vs, q⟩, _⟩
    · exact q.sl
    · exact absurd q (n vs)
  have sk : SeqK c.g s.heap h' := fun b o items n e hd _ => kn b o e fun vs q => by rw [hd] at q; cases q
  obtain ⟨m, hm, hl⟩ := R.loc
  have ck : ∀ a v, s.heap.IsCell a v → h'.IsCell a v := fun a v ⟨o, ho, hd⟩ => by
    obtain ⟨sl, e⟩ := kn a o ho fun vs q => by rw [hd] at q; cases q
    exact ⟨_, e, hd⟩
  have nsk : ∀ a m, s.heap.Ns a m → h'.Ns a m := fun a m ⟨o, es, ep, ho, hd, r⟩ => by
    obtain ⟨sl, e⟩ := kn a o ho fun vs q => by rw [hd] at q; cases q
    exact ⟨_, es, ep, e, hd, r⟩
  refine ⟨⟨hb, hf, ⟨m, nsk _ _ hm, fun x v e => ?_⟩, fun b hb => ?_, ?_, R.gens, R.os⟩, ⟨fun b e => ?_, fun b o e n d => ?_⟩⟩
  · have := hl x v e
    unfold LocAt at this ⊢
    split at this
    · obtain ⟨pv, a, b⟩ := this; exact ⟨pv, a, b.seqK sk⟩
    · obtain ⟨a, pv, b, d, e⟩ := this; exact ⟨a, pv, b, ck _ _ d, e.seqK sk⟩
    · obtain ⟨a, pv, b, d, e⟩ := this; exact ⟨a, pv, b, ck _ _ d, e.seqK sk⟩
    · exact this.elim
  · obtain ⟨o, e, z⟩ := R.own b hb
    obtain ⟨sl, e'⟩ := kn b o e fun vs q => by rw [q] at z; cases z
    exact ⟨_, e', z⟩
  · have or := R.ob
    unfold OR at or ⊢
    revert or
    cases c.g.k with
    | non =>
      rintro ⟨a, o, e⟩
      refine ⟨a, ?_⟩
      rcases k _ o e with ⟨⟨sl, q⟩, _⟩ | ⟨_, _, q⟩
      · exact ⟨_, q⟩
      · exact q rfl
    | stem =>
      rintro ⟨⟨sl, slx, es, n, a, b, e⟩, al⟩
      obtain ⟨slx', a'⟩ := kn _ _ a fun vs q => by cases q
      obtain ⟨sl', b'⟩ := kn _ _ b fun vs q => by cases q
      exact ⟨⟨sl', slx', es, n, a', b', e.seqK sk⟩, al⟩
    | words =>
      rintro ⟨o, items, n, a, b, d, e, f⟩
      obtain ⟨sl', a'⟩ := kn _ _ a fun vs q => by rw [d] at q; cases q
      exact ⟨_, items, n, a', b, d, e.seqK sk, f⟩
  · cases q : s.heap.get? b with
    | none => exact X.none b q
    | some o =>
      rcases k b o q with ⟨⟨sl, z⟩, _⟩ | ⟨_, z, _⟩
      · rw [e] at z; cases z
      · exact z
  · refine (X.keep b o e n d).trans fun o' e' => ?_
    rcases k b _ e' with q | ⟨_, q, _⟩
    · exact q
    · rw [e] at q; cases q

noncomputable def Noted (h₀ h : Heap) (e : Addr) (i : Nat) (fl : Value) : Prop :=
  h₀.get? e = none ∧ ∃ oe vs T oT ts, h.get? e = some oe ∧ oe.cls = .ref (labA i) ∧ oe.data = .fields vs ∧ vs[1]? = some (.ref T) ∧ h₀.get? T = none ∧ T ≠ e ∧ h.get? T = some oT ∧ oT.data = .fields ts ∧ ts[3]? = some fl

theorem Noted.thrown {L : Addr} {h₀ h : Heap} {e : Addr} {i : Nat} (x : Noted h₀ h e i (rawInt L)) : Thrown L h₀ h e i := by
  obtain ⟨a, oe, vs, T, oT, ts, b, d, f, g, hh, j, k, l, m⟩ := x
  exact ⟨a, oe, vs, b, d, f, .inr ⟨T, oT, ts, g, hh, j, k, l, m⟩⟩

theorem wp_note {c : Cx} (O : c.Ok F) (hfn : F.fn = true) {s : Shared} (R : Rel c σ s) {h₀ : Heap} (B : c.g.base.StaysIn h₀) (X : Ext c h₀ s.heap) {e : Addr} {i : Nat} (t : Thrown c.env.locals h₀ s.heap e i) {Q : Unit → Shared → Prop} {E : Value → Shared → Prop}
    {A : Around} (hA : A.frames = some (c.stk)) (h : ∀ h', Noted h₀ h' e i (rawInt c.env.locals) → Rel c σ { s with heap := h' } → Ext c h₀ h' → Q () { s with heap := h' }) : wpAny (model pw c.g.w) A (noteFrame (.ref e) c.env) Q E s := by
  obtain ⟨hf, outer, hst⟩ := O.frm hfn
  obtain ⟨hn, oe, vs, he, hc, hd, h1 | ⟨T, oT, ts, h1, hT0, hTe, hT, hTd, h3⟩⟩ := t
  · have hsz : 1 < vs.size := (Array.getElem?_eq_some_iff.mp h1).1
    have ebase : c.g.base.get? e = none := by
      cases q : c.g.base.get? e with
      | none => rfl
      | some o => have := B _ _ q; rw [hn] at this; cases this
    unfold noteFrame
    simp only [hf]
    refine wpAny_bind (wpAny_field he hd h1 ?_)
    rw [if_neg (by decide)]
    refine wpAny_bind (wpAny_frameOf_fun (hst ▸ hA) (hst ▸ R.fn) hf fun h₁ hs₁ => ?_)
    rw [← hst] at hs₁
    refine wpAny_bind (wpAny_entryPlaceOf fun pl hpl => ?_)
    unfold EntryCells.newEntry newFields
    refine wpAny_bind (wpAny_newObj_type ?_ (hpl.sizeOk5 _ _ _ _ _))
    have hene : e ∉ (c.stk).filterMap (·.frame) := fun hm => by
      obtain ⟨_, o, ho, hnf⟩ := R.fn.mem hm
      rw [he] at ho; cases ho; exact hnf vs hd
    have he₁ : h₁.get? e = some oe := (hs₁.2.1 e hene).trans he
    have he₂ := Heap.get?_push_of_some (h := h₁) { cls := .type "traceback", dict := none, data := .fields ([Value.none, .ref c.env.locals, .none, rawInt c.env.locals, .none] ++ (if pl.isEmpty then List.replicate 6 Value.none else pl)).toArray } he₁
    refine wpAny_setField he₂ hd hsz ?_
    have hTe : h₁.objs.size ≠ e := Nat.ne_of_gt (Heap.lt_size he₁)
    have hd₃ := Obj.data_mapFields hd (·.setIfInBounds 1 (Value.ref h₁.objs.size))
    have he₃ := Heap.get?_update_self (Obj.mapFields (·.setIfInBounds 1 (Value.ref h₁.objs.size))) he₂ (Obj.isFreed_of_fields hd₃)
    have keep : ∀ b o, b ≠ e → h₁.get? b = some o →
      ((h₁.push { cls := .type "traceback", dict := none, data := .fields ([Value.none, .ref c.env.locals, .none, rawInt c.env.locals, .none] ++ (if pl.isEmpty then List.replicate 6 Value.none else pl)).toArray }).update e (Obj.mapFields (·.setIfInBounds 1 (Value.ref h₁.objs.size)))).get? b = some o := fun b o hbe hb => by
        rw [Heap.get?_update_other _ _ (Ne.symm hbe)]
        exact Heap.get?_push_of_some _ hb
    have T0 : h₀.get? h₁.objs.size = none := X.none _ (by rw [hs₁.1]; exact Heap.get?_none_of_le (Nat.le_refl _))
    have M := R.mod O (h' := (h₁.push { cls := .type "traceback", dict := none, data := .fields ([Value.none, .ref c.env.locals, .none, rawInt c.env.locals, .none] ++ (if pl.isEmpty then List.replicate 6 Value.none else pl)).toArray }).update e (Obj.mapFields (·.setIfInBounds 1 (Value.ref h₁.objs.size)))) X (fun b o hb => ?_) (fun b o hb => ?_) ?_
    · have hTn : ((h₁.push { cls := .type "traceback", dict := none, data := .fields ([Value.none, .ref c.env.locals, .none, rawInt c.env.locals, .none] ++ (if pl.isEmpty then List.replicate 6 Value.none else pl)).toArray }).update e (Obj.mapFields (·.setIfInBounds 1 (Value.ref h₁.objs.size)))).get? h₁.objs.size = some { cls := .type "traceback", dict := none, data := .fields ([Value.none, .ref c.env.locals, .none, rawInt c.env.locals, .none] ++ (if pl.isEmpty then List.replicate 6 Value.none else pl)).toArray } := by
        rw [Heap.get?_update_other _ _ (Ne.symm hTe)]
        exact Heap.get?_push_size h₁ rfl
      exact h _ ⟨hn, _, _, h₁.objs.size, _, _, he₃, (Obj.cls_mapFields _ _).trans hc, hd₃, by simp [hsz], T0, hTe, hTn, rfl, by simp⟩ M.1 M.2
    · by_cases q : b = e
      · subst q
        rw [he] at hb; cases hb
        exact .inr ⟨⟨vs, hd⟩, hn, fun _ => ⟨_, he₃⟩⟩
      · obtain ⟨sl, z⟩ := hs₁.2.2 b o hb
        refine .inl ⟨⟨sl, keep b _ q z⟩, fun ⟨vs, hv⟩ => ?_⟩
        have nb : b ∉ (c.stk).filterMap (·.frame) := fun hm => by
          obtain ⟨_, o', ho', hnf⟩ := R.fn.mem hm
          rw [hb] at ho'; cases ho'; exact hnf vs hv
        exact keep b _ q ((hs₁.2.1 b nb).trans hb)
    · have nb : b ∉ (c.stk).filterMap (·.frame) := fun hm => by rw [(R.fn.mem hm).1] at hb; cases hb
      exact keep b o (fun q => by rw [q, ebase] at hb; cases hb) ((hs₁.2.1 b nb).trans (R.base b o hb))
    · refine funFrames_of (fun b o hb nf => ?_) R.fn
      have q : b ≠ e := fun q => by subst q; rw [he] at hb; cases hb; exact nf vs hd
      obtain ⟨sl, z⟩ := hs₁.2.2 b o hb
      exact ⟨_, keep b _ q z, nf⟩
  · unfold noteFrame
    simp only [hf]
    refine wpAny_bind (wpAny_field he hd h1 ?_)
    rw [if_pos (show (Value.ref T != Value.none) = true from by simp)]
    refine wpAny_bind (wpAny_field hT hTd h3 ?_)
    rw [if_pos (show (rawInt c.env.locals == rawInt c.env.locals) = true from by simp)]
    exact wpAny_pure (h s.heap ⟨hn, oe, vs, T, oT, ts, he, hc, hd, h1, hT0, hTe, hT, hTd, h3⟩ R X)

theorem wp_flight {c : Cx} (O : c.Ok F) {s : Shared} (R : Rel c σ s) {h₀ : Heap} (B : c.g.base.StaysIn h₀) (X : Ext c h₀ s.heap) {e : Addr} {i : Nat} {fl : Value} (t : Noted h₀ s.heap e i fl) (f : Option Addr) {Q : Unit → Shared → Prop} {E : Value → Shared → Prop}
    {A : Around} (h : ∀ h', Noted h₀ h' e i (f.elim .none fun f => rawInt f) → Rel c σ { s with heap := h' } → Ext c h₀ h' → Q () { s with heap := h' }) : wpAny (model pw c.g.w) A (setFlight (.ref e) f) Q E s := by
  obtain ⟨hn, oe, vs, T, oT, ts, he, hc, hd, h1, hT0, hTe, hT, hTd, h3⟩ := t
  have hsz : 3 < ts.size := (Array.getElem?_eq_some_iff.mp h3).1
  unfold setFlight
  refine wpAny_bind (wpAny_field he hd h1 ?_)
  rw [if_pos (show (Value.ref T != Value.none) = true from by simp)]
  refine wpAny_setField hT hTd hsz ?_
  have hd₃ := Obj.data_mapFields hTd (·.setIfInBounds 3 (f.elim Value.none fun f => rawInt f))
  have hT₃ := Heap.get?_update_self (Obj.mapFields (·.setIfInBounds 3 (f.elim Value.none fun f => rawInt f))) hT (Obj.isFreed_of_fields hd₃)
  have keep : ∀ b o, b ≠ T → s.heap.get? b = some o → (s.heap.update T (Obj.mapFields (·.setIfInBounds 3 (f.elim Value.none fun f => rawInt f)))).get? b = some o := fun b o q hb => by
    rw [Heap.get?_update_other _ _ (Ne.symm q)]; exact hb
  have Tbase : c.g.base.get? T = none := by
    cases q : c.g.base.get? T with
    | none => rfl
    | some o => have := B _ _ q; rw [hT0] at this; cases this
  have M := R.mod O (h' := s.heap.update T (Obj.mapFields (·.setIfInBounds 3 (f.elim Value.none fun f => rawInt f)))) X (fun b o hb => ?_) (fun b o hb => ?_) ?_
  · exact h _ ⟨hn, oe, vs, T, _, _, keep _ _ (Ne.symm hTe) he, hc, hd, h1, hT0, hTe, hT₃, hd₃, by simp [hsz]⟩ M.1 M.2
  · by_cases q : b = T
    · subst q
      rw [hT] at hb; cases hb
      exact .inr ⟨⟨ts, hTd⟩, hT0, fun _ => ⟨_, hT₃⟩⟩
    · exact .inl (.of (keep b o q hb))
  · exact keep b o (fun q => by rw [q, Tbase] at hb; cases hb) (R.base b o hb)
  · refine funFrames_of (fun b o hb nf => ?_) R.fn
    exact ⟨o, keep b o (fun q => by subst q; rw [hT] at hb; cases hb; exact nf ts hTd) hb, nf⟩
end
end Mine

end

-- W10
section
namespace Mine

noncomputable def labs : List (Str × Nat) := [("lab0", 0), ("lab1", 1), ("lab2", 2)]
noncomputable def bmE : List Value := [.type "Exception", .type "BaseException", .type "object"]
theorem lab_facts (P : Params) : (labs.all fun x => nsIn (KF P) mainGlobals x.1 == some (some (.ref (labA x.2))) && excIn (KF P) (labA x.2) bmE "Exception.__new__") = true := by kernel_rfl
theorem lab_fact (P : Params) {x : Str} {i : Nat} (h : labs.lookup x = some i) : nsIn (KF P) mainGlobals x = some (some (.ref (labA i))) ∧ excIn (KF P) (labA i) bmE "Exception.__new__" = true := by
  have := List.all_eq_true.mp (lab_facts P) (x, i) (mem_of_lookup h)
  simp only [Bool.and_eq_true, beq_iff_eq] at this
  exact this

section
variable {F : Fi} {σ : St}

theorem name_ref {c : Cx} (O : c.Ok F) {s : Shared} (R : Rel c σ s) {x : Str} {np : Pos} {v : Value} {A : Around} {Q : Value → Shared → Prop} {E : Value → Shared → Prop} (hx : F.sc.names.lookup x = some .globalImplicit)
    (e : nsIn (KF c.g.w.params) mainGlobals x = some (some v)) (h : Q v s) (hd : (x == ("__debug__" : Str)) = false) : wpAny (model pw c.g.w) A (eval (.Name x np) c.env) Q E s := by
  have hko : c.env.kindOf x = some .globalImplicit := by unfold Env.kindOf; rw [O.sc]; exact hx
  have hkf : c.env.scope.kind = .function := by rw [O.sc]; exact O.kd
  have hg : s.heap.Ns c.env.globals c.g.mg := by rw [O.gl]; exact O.g.T.g.keeps R.base
  exact Name_function_global hkf hko (loadGlobal_global hg (mg_of O.g.K O.g.T.g e) h) hd

theorem HS_raise {x : Str} {np cpos pos : Pos} {i : Nat} {Q : Fl → St → Prop} (hl : labs.lookup x = some i) (hx : F.sc.names.lookup x = some .globalImplicit) (h : Q (.exc i) σ) (hd : (x == ("__debug__" : Str)) = false := by decide) :
    HS F (.Raise (some (.Call (.Name x np) [] [] cpos)) none pos) σ Q := fun c O s R => by
  obtain ⟨h1, h2⟩ := lab_fact c.g.w.params hl
  obtain ⟨tl, N, nm, q, bs, hdct, sn, sub, ab, col, dd, k0, k1, k2, k3, k5, mN, hC, hN, hni, T⟩ := (own_of_in O.g.K O.g.T h1 h2).obj
  refine wpAny_Raise_call_subT (C := labA i) (nm := nm) (q := q) (N := N) (bs := bs) (bm := tl) (hdct := hdct) (sn := sn) (sub := sub) (ab := ab) (col := col) (dd := dd) (k0 := k0) (k1 := k1) (k2 := k2) (k3 := k3) (k5 := k5)
    PySem.F.excBase_Exception (mN := mN) (T.hasType PySem.F.excBase_Exception.hasBase) O.hd rfl hni (name_ref O R hx h1 ⟨rfl, ?_⟩ hd)
  refine evalArgs_empty ⟨rfl, Nat.zero_le _, R.base _ _ hC, hN.keeps R.base, T.keeps R.base, fun h' e M => ?_⟩
  obtain ⟨t, he, ht, _⟩ := M.there
  have k := R.kp O (.of_keeps M.keeps) s.drawn s.toks
  exact ⟨e, i, σ, rfl, ⟨M.new, _, _, he, rfl, rfl, .inl rfl⟩, k.1, k.2, h⟩

theorem cross {c : Cx} (O : c.Ok F) (hfn : F.fn = true) {h₀ : Heap} (B : c.g.base.StaysIn h₀) {Q : Fl → St → Prop} {E : Value → Shared → Prop} {x : Value} {s' : Shared} (z : ES c h₀ Q x s')
    (k : ∀ s', ES c h₀ Q x s' → E x s') : notedBy (model pw c.g.w) c.A c.env (cameBackBy (model pw c.g.w) c.A c.env E) x s' := by
  obtain ⟨e, i, σ', rfl, t, R, X, q⟩ := z
  unfold notedBy
  refine wp_note O hfn R B X t O.fr fun h₁ N₁ R₁ X₁ => ?_
  unfold cameBackBy
  obtain ⟨hn, oe, vs, T, oT, ts, he, hc, hd, h1, r⟩ := N₁
  refine wpAny_bind (wpAny_field he hd h1 ?_)
  rw [if_neg (show ¬ ((Value.ref T == Value.none) = true) from by simp)]
  refine wp_flight O R₁ B X₁ ⟨hn, oe, vs, T, oT, ts, he, hc, hd, h1, r⟩ c.env.frame fun h₂ N₂ R₂ X₂ => ?_
  rw [(O.frm hfn).1] at N₂
  exact k _ ⟨e, i, σ', rfl, Noted.thrown N₂, R₂, X₂, q⟩

noncomputable def KW (I : Nat → St → Prop) (n : Nat) (Q : Fl → St → Prop) (φ : Fl) (σ : St) : Prop := match φ with
  | .next => ∃ m, m < n ∧ I m σ
  | .cont => ∃ m, m < n ∧ I m σ
  | .brk => Q .next σ
  | φ => Q φ σ
noncomputable def KT (i : Nat) (Q : Fl → St → Prop) (φ : Fl) (σ : St) : Prop := match φ with
  | .exc j => j = i ∧ Q .next σ
  | φ => Q φ σ
theorem HS_while {t : Expr} {b o : List Stmt} {pos : Pos} {Q : Fl → St → Prop} (hfn : F.fn = true) (I : Nat → St → Prop) {n : Nat} (h0 : I n σ)
    (turn : ∀ n σ, I n σ → HT F t σ (fun x σ' => if x then HB F b σ' (KW I n Q) else HB F o σ' Q)) : HS F (.While t b o pos) σ Q := fun c O s R => by
  refine wpAny_While (codeAny_whileLoop (fun n s' => ∃ σ', Rel c σ' s' ∧ Ext c s.heap s'.heap ∧ I n σ') (fun n s₁ zz => ?_) n ⟨σ, R, .refl _ _, h0⟩)
  obtain ⟨σ₁, R₁, X₁, i₁⟩ := zz
  refine wpAny_mono (turn n σ₁ i₁ c O s₁ R₁) (fun x s₂ zz => ?_) fun _ _ z => z.elim
  obtain ⟨σ₂, R₂, X₂, q⟩ := zz
  cases x with
  | true =>
    refine wpAny_mono (q c O s₂ R₂) (fun f s₃ ⟨φ, σ₃, R₃, X₃, fr, q⟩ => ?_) fun e s₃ z => ?_
    · have X := (X₁.trans X₂).trans X₃
      cases f <;> cases φ <;> first
        | exact fr.elim
        | (obtain ⟨m, hm, q⟩ := q; exact ⟨m, hm, σ₃, R₃, X, q⟩)
        | exact ⟨.next, σ₃, R₃, X, trivial, q⟩
        | exact ⟨.ret _, σ₃, R₃, X, fr, q⟩
    · refine cross O hfn R.base (h₀ := s.heap) (Q := Q) ?_ fun s' z => z
      obtain ⟨e', i, σ', rfl, t, R', X', q⟩ := z
      exact ⟨e', i, σ', rfl, t.weak (X₁.trans X₂).none, R', (X₁.trans X₂).trans X', q⟩
  | false =>
    refine wpAny_mono (q c O s₂ R₂) (fun f s₃ z => z.weak (X₁.trans X₂)) fun e s₃ z => ?_
    exact cross O hfn R.base (z.weak (X₁.trans X₂)) fun s' z => z

theorem HS_try {x : Str} {np hpos ppos pos : Pos} {b : List Stmt} {i : Nat} {Q : Fl → St → Prop} (hfn : F.fn = true) (hl : labs.lookup x = some i) (hx : F.sc.names.lookup x = some .globalImplicit)
    (h : HB F b σ (KT i Q)) (hd : (x == ("__debug__" : Str)) = false := by decide) :
    HS F (.Try b [.ExceptHandler (some (.Name x np)) none [.Pass ppos] hpos] [] [] pos) σ Q := fun c O s R => by
  refine wpAny_Try_except (wpAny_mono (h c O s R) (fun f s₁ ⟨φ, σ₁, R₁, X₁, fr, q⟩ => ?_) fun e s₁ z => ?_)
  · cases f <;> cases φ <;> first
      | exact fr.elim
      | exact wpAny_execs_nil ⟨.next, σ₁, R₁, X₁, trivial, q⟩
      | exact ⟨.brk, σ₁, R₁, X₁, trivial, q⟩
      | exact ⟨.cont, σ₁, R₁, X₁, trivial, q⟩
      | exact ⟨.ret _, σ₁, R₁, X₁, fr, q⟩
  · obtain ⟨e', j, σ', rfl, t, R', X', ej, q⟩ := z
    subst ej
    obtain ⟨h1, h2⟩ := lab_fact c.g.w.params hl
    refine wp_note O hfn R' R.base X' t O.fr fun h₁ N₁ R₁ X₁ => ?_
    refine wp_flight O R₁ R.base X₁ N₁ none fun h₂ N₂ R₂ X₂ => ?_
    obtain ⟨tl, N, nm, q', bs, hdct, sn, sub, ab, col, dd, k0, k1, k2, k3, k5, mN, hC, hN, hni, T⟩ := (own_of_in O.g.K O.g.T h1 h2).obj
    refine wpAny_handleBy_cons (codeAny_handlers_test (name_ref O R₂ hx h1 ?_ hd)) (by intro q; cases q)
    obtain ⟨hn, oe, vs, T', oT, ts, he, hc, hdd, hr⟩ := N₂
    refine wpAny_excMatches_sub_self (R₂.base _ _ hC) he hc (T.hasType rfl) (codeAny_handlers_suite ?_)
    refine wp_flight O R₂ R.base X₂ ⟨hn, oe, vs, T', oT, ts, he, hc, hdd, hr⟩ none fun h₃ N₃ R₃ X₃ => ?_
    exact wpAny_execs_cons (wpAny_Pass (wpAny_execs_nil ⟨.next, σ', R₃, X₃, trivial, q⟩))
end
end Mine

end

-- W11
section
namespace Mine

noncomputable def KR (I : Nat → St → Prop) (i : Nat) (Q : Fl → St → Prop) (φ : Fl) (σ : St) : Prop := match φ with
  | .next => I (i + 1) σ
  | .cont => I (i + 1) σ
  | .brk => Q .next σ
  | φ => Q φ σ

section
variable {F : Fi} {σ : St}

/-- a change of one fresh record -/
theorem Rel.rec1 {c : Cx} (O : c.Ok F) {s : Shared} (R : Rel c σ s) {h₀ h' : Heap} (B : c.g.base.StaysIn h₀) (X : Ext c h₀ s.heap) {it : Addr} {oi : Obj} {vs : Array Value} (hit : s.heap.get? it = some oi) (hd : oi.data = .fields vs) (h0 : h₀.get? it = none) (hD : it ≠ c.g.D)
    (k : ∀ b o, b ≠ it → s.heap.get? b = some o → h'.get? b = some o) (d : Drawn) (tk : Nat) : Rel c σ ⟨h', s.gens, d, tk, s.os⟩ ∧ Ext c h₀ h' := by
  have := R.mod O X (h' := h') (fun b o e => ?_) (fun b o e => ?_) ?_
  · exact ⟨⟨this.1.base, this.1.fn, this.1.loc, this.1.own, this.1.ob, this.1.gens, this.1.os⟩, this.2⟩
  · by_cases q : b = it
    · subst q
      rw [hit] at e; cases e
      exact .inr ⟨⟨vs, hd⟩, h0, fun z => absurd z hD⟩
    · exact .inl (.of (k b o q e))
  · refine k b o (fun q => ?_) (R.base b o e)
    subst q
    rw [B _ _ e] at h0; cases h0
  · refine funFrames_of (fun b o e nf => ⟨o, k b o (fun q => ?_) e, nf⟩) R.fn
    subst q
    rw [hit] at e; cases e; exact nf vs hd

theorem for_core {c : Cx} (O : c.Ok F) (hfn : F.fn = true) {h₀ : Heap} (B : c.g.base.StaysIn h₀) {x : Str} {px : Pos} {body : List Stmt} {Q : Fl → St → Prop} (hx : F.sc.names.lookup x = some .local) {it : Addr} {n : Nat} (item : Nat → V) (S : Nat → Heap → Prop)
    (hS : ∀ i h h', S i h → (∀ b ∈ c.own, ∃ o, h.get? b = some o ∧ isDC o.data = true) → (∀ b o, h.get? b = some o → b ∉ c.own → b ≠ c.g.D → KO o (h'.get? b)) → S i h')
    (hnext : ∀ i σ s, i < n → Rel c σ s → Ext c h₀ s.heap → S i s.heap → ∀ (P : Option Value → Shared → Prop) (E : Value → Shared → Prop), (∀ pv s', Rel c σ s' → Ext c h₀ s'.heap → S (i + 1) s'.heap → VR c.g s'.heap (item i) pv → P (some pv) s') → wpAny (model pw c.g.w) c.A (pyNext (.ref it)) P E s)
    (hend : ∀ σ s, Rel c σ s → Ext c h₀ s.heap → S n s.heap → ∀ (P : Option Value → Shared → Prop) (E : Value → Shared → Prop), (∀ s', Rel c σ s' → Ext c h₀ s'.heap → P none s') → wpAny (model pw c.g.w) c.A (pyNext (.ref it)) P E s)
    (I : Nat → St → Prop)
    (step : ∀ i σ, i < n → I i σ → HB F body { σ with loc := setL x (item i) σ.loc } (KR I i Q))
    (fin : ∀ σ, I n σ → Q .next σ) {s : Shared} (R : Rel c σ s) (X : Ext c h₀ s.heap) (s0 : S 0 s.heap) (i0 : I 0 σ) :
    codeAny (model pw c.g.w) c.A (.forLoop (.Name x px) (.ref it) body [] c.env) (fun r s' => match r with
      | .ok f => QS c h₀ Q f s'
      | .error e => cameBackBy (model pw c.g.w) c.A c.env (ES c h₀ Q) e s') s := by
  refine codeAny_forLoop (fun k s' => ∃ i σ', k = n - i ∧ i ≤ n ∧ Rel c σ' s' ∧ Ext c h₀ s'.heap ∧ S i s'.heap ∧ I i σ') ?_ n ⟨0, σ, rfl, Nat.zero_le _, R, X, s0, i0⟩
  rintro k s₁ ⟨i, σ₁, rfl, hi, R₁, X₁, S₁, I₁⟩
  by_cases hlt : i < n
  · refine hnext i σ₁ s₁ hlt R₁ X₁ S₁ _ _ fun pv s₂ R₂ X₂ S₂ hv => ?_
    refine wpAny_assign_Name (store_local O R₂ hx hv fun s₃ R₃ X₃ => ?_)
    have S₃ := hS _ _ _ S₂ R₂.own X₃.keep
    refine wpAny_mono (step i σ₁ hlt I₁ c O s₃ R₃) (fun f s₄ ⟨φ, σ₄, R₄, X₄, fr, q⟩ => ?_) fun e s₄ z => ?_
    · have S₄ := hS _ _ _ S₃ R₃.own X₄.keep
      have Y := (X₂.trans X₃).trans X₄
      cases f <;> cases φ <;> first
        | exact fr.elim
        | exact ⟨n - (i + 1), by omega, i + 1, σ₄, rfl, hlt, R₄, Y, S₄, q⟩
        | exact ⟨.next, σ₄, R₄, Y, trivial, q⟩
        | exact ⟨.ret _, σ₄, R₄, Y, fr, q⟩
    · refine cross O hfn B (h₀ := h₀) (Q := Q) ?_ fun s' z => z
      obtain ⟨e', j, σ', rfl, t, R', X', q⟩ := z
      exact ⟨e', j, σ', rfl, t.weak (X₂.trans X₃).none, R', (X₂.trans X₃).trans X', q⟩
  · have : i = n := by omega
    subst this
    exact hend σ₁ s₁ R₁ X₁ S₁ _ _ fun s₂ R₂ X₂ => wpAny_execs_nil ⟨.next, σ₁, R₂, X₂, trivial, fin _ I₁⟩

theorem small_of {a b c : Int} (ha : -(2 ^ 61) ≤ a) (ha' : a ≤ 2 ^ 61) (hb : -(2 ^ 61) ≤ b) (hb' : b ≤ 2 ^ 61) (hc : c = 1 ∨ c = -1) : Builtin.Range.small a b c = true := by
  unfold Builtin.Range.small Builtin.Range.rangeFitsLong Builtin.Range.rangeSize
  rcases hc with rfl | rfl <;> simp <;> split <;> (try simp) <;> omega

/-- for x in range(a, b, c) -/
theorem HS_for_range {x : Str} {px p rpos pos : Pos} {args : List Expr} {body : List Stmt} {Q : Fl → St → Prop} (hfn : F.fn = true) (hx : F.sc.names.lookup x = some .local) (hr : F.sc.names.lookup ("range" : Str) = some .globalImplicit) (I : Nat → St → Prop)
    (h : HA F args σ (fun vs σ' => ∃ a b d, ∃ n : Nat, vs = [.int a, .int b, .int d] ∧ (d = 1 ∨ d = -1) ∧ -(2 ^ 61) ≤ a ∧ a ≤ 2 ^ 61 ∧ -(2 ^ 61) ≤ b ∧ b ≤ 2 ^ 61 ∧ Builtin.Range.rangeSize a b d = n ∧ I 0 σ' ∧
      (∀ (i : Nat) σ₁, i < n → I i σ₁ → HB F body { σ₁ with loc := setL x (.int (a + i * d)) σ₁.loc } (KR I i Q)) ∧ ∀ σ₁, I n σ₁ → Q .next σ₁))
    (hp : ∀ env, (backTo rpos (starEach args env)).any (·.1) = false := by intro; rfl)
    (hs : ∀ env x, foldedSetIterable (.Call (.Name "range" p) args [] rpos) env x = pure x := by intro _ _; rfl) :
    HS F (.For (.Name x px) (.Call (.Name "range" p) args [] rpos) body [] pos) σ Q := fun c O s R => by
  refine wpAny_For ?_ (hs c.env)
  rw [arm_eval_Call_Name']
  refine wpAny_bind ?_
  have hko : c.env.kindOf "range" = some .globalImplicit := by unfold Env.kindOf; rw [O.sc]; exact hr
  have hkf : c.env.scope.kind = .function := by rw [O.sc]; exact O.kd
  have hg : s.heap.Ns c.env.globals c.g.mg := by rw [O.gl]; exact O.g.T.g.keeps R.base
  have hbn : s.heap.Ns c.env.builtins c.g.mb := by rw [O.bu]; exact O.g.T.b.keeps R.base
  have hn : ∀ P, nsIn (KF P) mainGlobals "range" = some none := fun P => by kernel_rfl
  refine Name_function_global hkf hko (loadGlobal_builtin (v := .type "range") hg (mg_none_of O.g.K O.g.T.g (hn _)) hbn ((O.g.T.builtins "range" (by decide)).trans rfl) ?_) (by decide)
  refine PyProof.Rows.callWith_type (hp c.env) (evalArgs_any (hp c.env) (wpAny_mono (h c O s _ R) (fun pvs s₁ zz => ?_) fun _ _ z => z.elim))
  obtain ⟨vs, σ₁, R₁, X₁, hv, a, b, d, n, e, hd, a1, a2, b1, b2, hsz, i0, step, fin⟩ := zz
  subst e
  cases hv with
  | cons hv1 hv =>
  cases hv with
  | cons hv2 hv =>
  cases hv with
  | cons hv3 hv =>
  cases hv
  cases hv1 with
  | int _ t1 =>
  cases hv2 with
  | int _ t2 =>
  cases hv3 with
  | int _ t3 =>
  refine PySem.call_range_3 (by rcases hd with rfl | rfl <;> decide) ?_ (.inl (PyProof.noPylong_small (by rcases hd with rfl | rfl <;> decide)))
  have k1 := R₁.kp O (.of_keeps (h := s₁.heap) (h' := s₁.heap.push { cls := .type "range", data := .fields #[.int a t1, .int b t2, .int d t3] }) fun q o e => Heap.get?_push_of_some { cls := .type "range", data := .fields #[.int a t1, .int b t2, .int d t3] } e) s₁.drawn s₁.toks
  refine wpAny_pyIter_range (IsRange.new ..) (small_of a1 a2 b1 b2 hd) ?_
  have k2 := k1.1.kp O (.of_keeps (h := s₁.heap.push { cls := .type "range", data := .fields #[.int a t1, .int b t2, .int d t3] }) (h' := (s₁.heap.push { cls := .type "range", data := .fields #[.int a t1, .int b t2, .int d t3] }).push { cls := .type "range_iterator", data := .fields #[rawInt a, rawInt (Builtin.Range.rangeSize a b d), rawInt d] }) fun q o e => Heap.get?_push_of_some { cls := .type "range_iterator", data := .fields #[rawInt a, rawInt (Builtin.Range.rangeSize a b d), rawInt d] } e) s₁.drawn s₁.toks
  have n0 : s₁.heap.get? s₁.heap.objs.size = none := Heap.get?_none_of_le (Nat.le_refl _)
  have nD : ∀ k, s₁.heap.objs.size ≤ k → k ≠ c.g.D := fun k hk z => by
    obtain ⟨oD, hD⟩ := R₁.ob.has
    have := Heap.lt_size hD
    rw [← z] at this
    exact absurd this (Nat.not_lt.mpr hk)
  have fr0 : ∀ k, s₁.heap.objs.size ≤ k → s.heap.get? k = none := fun k hk => X₁.none _ (Heap.get?_none_of_le hk)
  rw [hsz] at k2 ⊢
  have big : s₁.heap.objs.size ≤ (s₁.heap.push { cls := .type "range", data := .fields #[.int a t1, .int b t2, .int d t3] }).objs.size := by rw [Heap.size_push]; exact Nat.le_succ _
  refine for_core (Q := Q) O hfn R.base hx (fun i => .int (a + i * d)) (fun i h => IsRangeIter h (s₁.heap.push { cls := .type "range", data := .fields #[.int a t1, .int b t2, .int d t3] }).objs.size (a + i * d) ((n : Int) - i) d)
    (fun i h h' S own k => (k _ _ S (fun hm => ?_) (nD _ big)).rc ⟨_, rfl⟩) (fun i σ' s' hi R' X' S' P E k => ?_) (fun σ' s' R' X' S' P E k => ?_) I step fin k2.1 ((X₁.trans k1.2).trans k2.2) (by
      have := Heap.get?_push_size (s₁.heap.push { cls := .type "range", data := .fields #[.int a t1, .int b t2, .int d t3] }) (o := { cls := .type "range_iterator", data := .fields #[rawInt a, rawInt (n : Int), rawInt d] }) rfl
      simpa using this) i0
  · obtain ⟨o, e, z⟩ := own _ hm
    rw [S] at e; cases e; cases z
  · refine wpAny_pyNext_range_item S' (by omega) fun h' hit' hs' => ?_
    have M := R'.rec1 O R.base X' S' rfl (fr0 _ big) (nD _ big) (fun b o q e => (hs'.2 b q).trans e) s'.drawn (s'.toks + 1)
    refine k _ _ M.1 M.2 ?_ (.int _ _)
    have e1 : a + ((i + 1 : Nat) : Int) * d = a + (i : Int) * d + d := by push_cast; rw [Int.add_mul, Int.one_mul, Int.add_assoc]
    have e2 : (n : Int) - ((i + 1 : Nat) : Int) = (n : Int) - (i : Int) - 1 := by push_cast; omega
    rw [e1, e2]; exact hit'
  · refine wpAny_pyNext_range_end O.hd S' (by omega) fun h' hs' => ?_
    have M := R'.rec1 O R.base X' S' rfl (fr0 _ big) (nD _ big) (fun b o q e => hs' b o q e) s'.drawn s'.toks
    exact k _ M.1 M.2

/-- for x in a list -/
theorem HS_for_list {x : Str} {px pos : Pos} {iter : Expr} {body : List Stmt} {Q : Fl → St → Prop} (hfn : F.fn = true) (hx : F.sc.names.lookup x = some .local) (I : Nat → St → Prop)
    (h : HE F iter σ (fun v σ' => ∃ l, v = .list l ∧ I 0 σ' ∧
      (∀ (i : Nat) σ₁ u, l[i]? = some u → I i σ₁ → HB F body { σ₁ with loc := setL x u σ₁.loc } (KR I i Q)) ∧ ∀ σ₁, I l.length σ₁ → Q .next σ₁))
    (hs : ∀ env x, foldedSetIterable iter env x = pure x := by intro _ _; rfl) :
    HS F (.For (.Name x px) iter body [] pos) σ Q := fun c O s R => by
  refine wpAny_For (wpAny_mono (h c O s R) (fun pv s₁ zz => ?_) fun _ _ z => z.elim) (hs c.env)
  obtain ⟨v, σ₁, R₁, X₁, hv, l, e, i0, step, fin⟩ := zz
  subst e
  cases hv with
  | @list la oa ia na _ ho hc hd hD hl kv =>
  refine wpAny_pyIter_list ⟨oa, ho, hc, na, hd⟩ ?_
  have k2 := R₁.kp O (.of_keeps (h := s₁.heap) (h' := s₁.heap.push { cls := .type "list_iterator", data := .fields #[.ref la, .int 0 0] }) fun q o e => Heap.get?_push_of_some { cls := .type "list_iterator", data := .fields #[.ref la, .int 0 0] } e) s₁.drawn s₁.toks
  have nD : s₁.heap.objs.size ≠ c.g.D := (vr_new O R₁).1
  have fr0 : s.heap.get? s₁.heap.objs.size = none := X₁.none _ (Heap.get?_none_of_le (Nat.le_refl _))
  have hlt := Heap.lt_size ho
  have XX := X₁.trans k2.2
  refine for_core (Q := Q) O hfn R.base hx (n := l.length) (fun i => l.getD i .none) (fun i h => h.IsListIter s₁.heap.objs.size la i ∧ (∃ sl, h.get? la = some { oa with slots := sl }) ∧ SeqK c.g s₁.heap h)
    (fun i h h' S own k => ?_) (fun i σ' s' hi R' X' S' P E k => ?_) (fun σ' s' R' X' S' P E k => ?_) I (fun i σ' hi ii => step i σ' _ (by rw [List.getD_eq_getElem?_getD, List.getElem?_eq_getElem hi]; rfl) ii) fin k2.1 XX ⟨⟨_, Heap.get?_push_size _ rfl, rfl, rfl⟩, ⟨oa.slots, Heap.get?_push_of_some _ ho⟩, k2.2.seqK R₁.own⟩ i0
  · obtain ⟨⟨oi, hoi, hci, hdi⟩, ⟨sl, hla⟩, sk⟩ := S
    refine ⟨⟨oi, (k _ _ hoi (fun hm => ?_) nD).rc ⟨_, hdi⟩, hci, hdi⟩, ?_, fun b o items n e hd' hb => ?_⟩
    · obtain ⟨o, e, z⟩ := own _ hm
      rw [hoi] at e; cases e; rw [hdi] at z; cases z
    · obtain ⟨sl', e'⟩ := (k _ _ hla (fun hm => by
        obtain ⟨o, e, z⟩ := own _ hm
        rw [hla] at e; cases e
        change isDC oa.data = true at z
        rw [hd] at z; cases z) hD).sl
      exact ⟨sl', e'⟩
    · obtain ⟨sl1, e1⟩ := sk b o items n e hd' hb
      obtain ⟨sl2, e2⟩ := (k _ _ e1 (fun hm => by
        obtain ⟨o', e', z⟩ := own _ hm
        rw [e1] at e'; cases e'
        change isDC o.data = true at z
        rw [hd'] at z; cases z) hb).sl
      exact ⟨sl2, e2⟩
  · obtain ⟨hit, ⟨sl, hla⟩, sk⟩ := S'
    have hi' : i < ia.size := by rw [hl]; exact hi
    have e : ia[i]? = some ia[i] := Array.getElem?_eq_getElem hi'
    refine wpAny_pyNext_list_item hit ⟨_, hla, hc, na, hd⟩ e fun h' hit' hs' => ?_
    obtain ⟨oi, hoi, hci, hdi⟩ := hit
    have M := R'.rec1 O R.base X' hoi hdi fr0 nD (fun b o q e => (hs'.2 b q).trans e) s'.drawn s'.toks
    have sk' : SeqK c.g s₁.heap h' := fun b o items n e hd' hb => by
      obtain ⟨sl1, e1⟩ := sk b o items n e hd' hb
      refine ⟨sl1, (hs'.2 b fun q => ?_).trans e1⟩
      subst q
      exact absurd (Heap.lt_size e) (Nat.lt_irrefl _)
    refine k _ _ M.1 M.2 ⟨hit', ⟨sl, (hs'.2 la (Nat.ne_of_lt hlt)).trans hla⟩, sk'⟩ ((kv i (l.getD i .none) _ ?_ e).seqK sk')
    rw [List.getD_eq_getElem?_getD, List.getElem?_eq_getElem hi]; rfl
  · obtain ⟨hit, ⟨sl, hla⟩, sk⟩ := S'
    refine wpAny_pyNext_list_end O.hd hit ⟨_, hla, hc, na, hd⟩ (Array.getElem?_eq_none (by rw [hl]; exact Nat.le_refl _)) fun h' hs' => ?_
    obtain ⟨oi, hoi, hci, hdi⟩ := hit
    have M := R'.rec1 O R.base X' hoi hdi fr0 nD (fun b o q e => hs' b o q e) s'.drawn s'.toks
    exact k _ M.1 M.2
end
end Mine

end

-- W12
section
namespace Mine

noncomputable def relabF (scope fsc : Scope) : Scope :=
  { scope with names := scope.names.map fun (n, k) => if (k == .free && fsc.kind == .function && fsc.names.lookup n == some .cell) then (n, .cell) else (n, k) }

theorem VRs.snoc {g : Gx} {h : Heap} {a : List V} {pa : List Value} (x : VRs g h a pa) {v : V} {pv : Value} (y : VR g h v pv) : VRs g h (a ++ [v]) (pa ++ [pv]) := by
  induction x with
  | nil => exact .cons y .nil
  | cons a _ ih => exact .cons a ih

noncomputable def HTs (F : Fi) (ifs : List Expr) (σ : St) (Q : Bool → St → Prop) : Prop := match ifs with
  | [] => Q true σ
  | [t] => HT F t σ Q
  | _ => False

theorem Rel.weaken {c : Cx} {σ : St} {s : Shared} (R : Rel c σ s) {loc : List (Str × V)} (h : ∀ y v, loc.lookup y = some v → σ.loc.lookup y = some v) : Rel c { σ with loc := loc } s :=
  ⟨R.base, R.fn, let ⟨m, a, b⟩ := R.loc; ⟨m, a, fun y v e => b y v (h y v e)⟩, R.own, R.ob, R.gens, R.os⟩

section
variable {F : Fi} {σ : St}

theorem wp_tests {Fc : Fi} {c : Cx} (O : c.Ok Fc) {σ : St} {s : Shared} (R : Rel c σ s) {ifs : List Expr} {Q : Bool → St → Prop} (h : HTs Fc ifs σ Q) {P : Bool → Shared → Prop} {E : Value → Shared → Prop}
    (k : ∀ b σ' s', Rel c σ' s' → Ext c s.heap s'.heap → Q b σ' → P b s') :
    wpAny (model pw c.g.w) c.A (forIn ifs true fun t r => if r = true then do let ok ← isTrue t c.env (eval t c.env); pure (ForInStep.yield ok) else pure (ForInStep.yield r)) P E s := by
  unfold HTs at h
  split at h
  · exact wpAny_tests_nil (k true σ s R (.refl _ _) h)
  · exact wpAny_tests_one (wpAny_mono (h c O s R) (fun b s' ⟨σ', R', X', q⟩ => k b σ' s' R' X' q) fun _ _ z => z.elim)
  · exact h.elim

/-- the list that is being made -/
theorem Rel.acc {c : Cx} (O : c.Ok F) {s : Shared} (R : Rel c σ s) {h₀ h' : Heap} (B : c.g.base.StaysIn h₀) (X : Ext c h₀ s.heap) {a : Addr} {oa : Obj} {items : Array Value} {n : Nat} (ha : s.heap.get? a = some oa) (hd : oa.data = .seq items n) (h0 : h₀.get? a = none) (hD : a ≠ c.g.D)
    (hpl : σ.loc.all (fun x => plainV x.2) = true) (sb : Heap.SameBut a s.heap h') (hn : ∃ o items n, h'.get? a = some o ∧ o.data = .seq items n) : Rel c σ { s with heap := h' } ∧ Ext c h₀ h' := by
  obtain ⟨m, hm, hl⟩ := R.loc
  obtain ⟨on, itn, nn, han, hdn⟩ := hn
  have k : ∀ b o, s.heap.get? b = some o → (∀ items n, o.data ≠ .seq items n) → h'.get? b = some o := fun b o e z => (sb.2 b (fun q => by
    subst q; rw [ha] at e; cases e; exact z _ _ hd)).trans e
  refine ⟨⟨fun b o e => (sb.2 b (fun q => by subst q; rw [B _ _ e] at h0; cases h0)).trans (R.base b o e), ?_, ⟨m, ?_, fun x v e => ?_⟩, fun b hb => ?_, ?_, R.gens, R.os⟩, ⟨fun b e => ?_, fun b o e n d => ?_⟩⟩
  · refine funFrames_of (fun b o e nf => ?_) R.fn
    by_cases q : b = a
    · subst q; exact ⟨on, han, fun vs z => by rw [hdn] at z; cases z⟩
    · exact ⟨o, (sb.2 b q).trans e, nf⟩
  · obtain ⟨o, es, ep, ho, hd', r⟩ := hm
    exact ⟨o, es, ep, k _ _ ho (fun _ _ z => by rw [hd'] at z; cases z), hd', r⟩
  · have hp : plainV v = true := by
      have := List.all_eq_true.mp hpl (x, v) (mem_of_lookup e)
      exact this
    have := hl x v e
    unfold LocAt at this ⊢
    split at this
    · obtain ⟨pv, a, b⟩ := this; exact ⟨pv, a, b.plain hp⟩
    · obtain ⟨a, pv, b, ⟨o, ho, hd'⟩, e⟩ := this; exact ⟨a, pv, b, ⟨o, k _ _ ho (fun _ _ z => by rw [hd'] at z; cases z), hd'⟩, e.plain hp⟩
    · obtain ⟨a, pv, b, ⟨o, ho, hd'⟩, e⟩ := this; exact ⟨a, pv, b, ⟨o, k _ _ ho (fun _ _ z => by rw [hd'] at z; cases z), hd'⟩, e.plain hp⟩
    · exact this.elim
  · obtain ⟨o, e, z⟩ := R.own b hb
    exact ⟨o, k _ _ e (fun _ _ q => by rw [q] at z; cases z), z⟩
  · have or := R.ob
    unfold OR at or ⊢
    revert or
    cases c.g.k with
    | non =>
      rintro ⟨x, o, e⟩
      exact ⟨x, o, (sb.2 _ (Ne.symm hD)).trans e⟩
    | stem =>
      rintro ⟨⟨sl, slx, es, n, x, b, e⟩, al⟩
      exact ⟨⟨sl, slx, es, n, k _ _ x (fun _ _ z => by cases z), (sb.2 _ (Ne.symm hD)).trans b, e.any⟩, al⟩
    | words =>
      rintro ⟨o, items, n, x, b, d, e, f⟩
      refine ⟨o, items, n, (sb.2 _ (Ne.symm hD)).trans x, b, d, ?_, f⟩
      clear x d
      generalize hob : σ.ob.map (·.2) = vs at e
      have fa : ∀ v ∈ vs, atom v = true := fun v hv => by
        rw [← hob] at hv
        obtain ⟨p, hp, rfl⟩ := List.mem_map.mp hv
        exact List.all_eq_true.mp f p hp
      clear hob
      generalize items.toList = il at e ⊢
      induction e with
      | nil => exact .nil
      | cons a _ ih => exact .cons (a.plain (atom_plain (fa _ (.head _)))) (ih fun v hv => fa v (.tail _ hv))
  · by_cases q : b = a
    · subst q; exact h0
    · exact X.none b ((sb.2 b q).symm.trans e)
  · refine (X.keep b o e n d).trans fun o' e' => ?_
    exact .of ((sb.2 b (fun q => by subst q; rw [e] at h0; cases h0)).trans e')

theorem comp_core {Fc : Fi} {c' : Cx} (O : c'.Ok Fc) {h₀ : Heap} (B : c'.g.base.StaysIn h₀) {elt iter : Expr} {x : Str} {px pos : Pos} {ifs : List Expr} {scope : Scope} (hx : Fc.sc.names.lookup x = some .local) {it acc : Addr} {n : Nat} (hsz : n ≤ sizeLine) (item : Nat → V) (S : Nat → Heap → Prop)
    (hac0 : h₀.get? acc = none) (hacD : acc ≠ c'.g.D)
    (hS : ∀ i h h', S i h → (∀ b ∈ c'.own, ∃ o, h.get? b = some o ∧ isDC o.data = true) → (∀ b o, h.get? b = some o → b ∉ c'.own → b ≠ c'.g.D → b ≠ acc → KO o (h'.get? b)) → S i h')
    (hnext : ∀ i σ s, i < n → Rel c' σ s → Ext c' h₀ s.heap → S i s.heap → ∀ (P : Option Value → Shared → Prop) (E : Value → Shared → Prop), (∀ pv s', Rel c' σ s' → Ext c' h₀ s'.heap → S (i + 1) s'.heap → VR c'.g s'.heap (item i) pv → (∀ o, s.heap.get? acc = some o → (∀ vs, o.data ≠ .fields vs) → s'.heap.get? acc = some o) → P (some pv) s') → wpAny (model pw c'.g.w) c'.A (pyNext (.ref it)) P E s)
    (hend : ∀ σ s, Rel c' σ s → Ext c' h₀ s.heap → S n s.heap → ∀ (P : Option Value → Shared → Prop) (E : Value → Shared → Prop), (∀ s', Rel c' σ s' → Ext c' h₀ s'.heap → (∀ o, s.heap.get? acc = some o → (∀ vs, o.data ≠ .fields vs) → s'.heap.get? acc = some o) → P none s') → wpAny (model pw c'.g.w) c'.A (pyNext (.ref it)) P E s)
    (fl : List (Str × V)) (hfl : fl.all (fun y => plainV y.2 && !(y.1 == x)) = true) (hip : ∀ i, i < n → plainV (item i) = true)
    (I : Nat → List V → List (Str × V) → Prop)
    (step : ∀ i out ob, i < n → I i out ob → HTs Fc ifs ⟨(x, item i) :: fl, ob⟩ (fun b σ' => if b then HE Fc elt σ' (fun v σ'' => σ''.loc = (x, item i) :: fl ∧ atom v = true ∧ I (i + 1) (out ++ [v]) σ''.ob) else σ'.loc = (x, item i) :: fl ∧ I (i + 1) out σ'.ob))
    {R : Result → Shared → Prop} (hR : ∀ s' out ob, Rel c' ⟨fl, ob⟩ s' → Ext c' h₀ s'.heap → (∃ o items n, s'.heap.get? acc = some o ∧ o.cls = .type "list" ∧ o.data = .seq items n ∧ VRs c'.g s'.heap out items.toList) → I n out ob → R (.ok .next) s')
    {s : Shared} {ob : List (Str × V)} (Rl : Rel c' ⟨fl, ob⟩ s) (X : Ext c' h₀ s.heap) (s0 : S 0 s.heap) (hacc : s.heap.get? acc = some { cls := .type "list", data := .seq #[] }) (i0 : I 0 [] ob) :
    codeAny (model pw c'.g.w) c'.A (.compLoop (.ListComp elt [⟨.Name x px, iter, ifs, 0⟩] scope pos) 0 (.ref it) (.ref acc) c'.env) R s := by
  have flx : ∀ y v, fl.lookup y = some v → y ≠ x := fun y v e q => by
    have := List.all_eq_true.mp hfl (y, v) (mem_of_lookup e)
    simp only [Bool.and_eq_true, Bool.not_eq_true', beq_eq_false_iff_ne] at this
    exact this.2 q
  have flp : fl.all (fun y => plainV y.2) = true := List.all_eq_true.mpr fun y hy => (Bool.and_eq_true_iff.mp (List.all_eq_true.mp hfl y hy)).1
  refine codeAny_compLoop_tests (fun k s' => ∃ i out ob, k = n - i ∧ i ≤ n ∧ out.length ≤ i ∧ Rel c' ⟨fl, ob⟩ s' ∧ Ext c' h₀ s'.heap ∧ S i s'.heap ∧ I i out ob ∧ (∃ o items n, s'.heap.get? acc = some o ∧ o.cls = .type "list" ∧ o.data = .seq items n ∧ VRs c'.g s'.heap out items.toList) ∧ ∀ v ∈ out, atom v = true) ?_ n
    ⟨0, [], ob, rfl, Nat.zero_le _, Nat.le_refl _, Rl, X, s0, i0, ⟨_, #[], 0, hacc, rfl, rfl, .nil⟩, fun _ h => nomatch h⟩
  rintro k s₁ ⟨i, out, ob₁, rfl, hi, hlen, R₁, X₁, S₁, I₁, ⟨oa, items, na, ha, hac, had, hav⟩, hat⟩
  have anf : ∀ vs, oa.data ≠ .fields vs := fun vs q => by rw [had] at q; cases q
  by_cases hlt : i < n
  · refine hnext i _ s₁ hlt R₁ X₁ S₁ _ _ fun pv s₂ R₂ X₂ S₂ hv ka => ?_
    have ha₂ := ka _ ha anf
    refine wpAny_assign_Name (store_local O R₂ hx hv fun s₃ R₃ X₃ => ?_)
    have noown : ∀ (h : Heap) (o : Obj), (∀ b ∈ c'.own, ∃ o, h.get? b = some o ∧ isDC o.data = true) → h.get? acc = some o → (∃ items n, o.data = .seq items n) → acc ∉ c'.own := fun h o ow e ⟨it, n, z⟩ hm => by
      obtain ⟨o', e', z'⟩ := ow _ hm
      rw [e] at e'; cases e'; rw [z] at z'; cases z'
    have no₂ := noown _ _ R₂.own ha₂ ⟨_, _, had⟩
    obtain ⟨sl₃, ha₃⟩ := (X₃.keep _ _ ha₂ no₂ hacD).sl
    have S₃ := hS _ _ _ S₂ R₂.own fun b o e a b' _ => X₃.keep b o e a b'
    have R₃' : Rel c' ⟨(x, item i) :: fl, ob₁⟩ s₃ := R₃.weaken (σ := ⟨setL x (item i) fl, ob₁⟩) fun y v e => by
      rw [lookup_setL]
      rw [List.lookup_cons] at e
      by_cases q : y = x
      · subst q; simp only [beq_self_eq_true] at e; rw [if_pos rfl]; exact e
      · rw [beq_eq_false_iff_ne.mpr q] at e; rw [if_neg q]; exact e
    have back : ∀ (σ' : St) (s' : Shared), σ'.loc = (x, item i) :: fl → Rel c' σ' s' → Rel c' ⟨fl, σ'.ob⟩ s' := fun σ' s' e R' => R'.weaken fun y v q => by
      rw [e, List.lookup_cons, beq_eq_false_iff_ne.mpr (flx y v q)]; exact q
    refine wp_tests O R₃' (step i out ob₁ hlt I₁) fun b σ₄ s₄ R₄ X₄ q => ?_
    obtain ⟨sl₄, ha₄⟩ := (X₄.keep _ _ ha₃ no₂ hacD).sl
    have S₄ := hS _ _ _ S₃ R₃.own fun b o e a b' _ => X₄.keep b o e a b'
    have vat : ∀ {h h' : Heap} {vs : List V} {pvs : List Value}, (∀ v ∈ vs, atom v = true) → VRs c'.g h vs pvs → VRs c'.g h' vs pvs := fun {h h' vs pvs} fa e => by
      induction e with
      | nil => exact .nil
      | cons a _ ih => exact .cons (a.plain (atom_plain (fa _ (.head _)))) (ih fun v hv => fa v (.tail _ hv))
    cases b with
    | false =>
      obtain ⟨el, iq⟩ := q
      exact ⟨n - (i + 1), by omega, i + 1, out, σ₄.ob, rfl, hlt, by omega, back σ₄ s₄ el R₄, ((X₂.trans X₃).trans X₄), S₄, iq, ⟨_, items, na, ha₄, hac, had, vat hat hav⟩, hat⟩
    | true =>
      refine wpAny_mono (q c' O s₄ R₄) (fun pe s₅ zz => ?_) fun _ _ z => z.elim
      obtain ⟨v, σ₅, R₅, X₅, hve, el, hatom, iq⟩ := zz
      obtain ⟨sl₅, ha₅⟩ := (X₅.keep _ _ ha₄ no₂ hacD).sl
      have S₅ := hS _ _ _ S₄ R₄.own fun b o e a b' _ => X₅.keep b o e a b'
      refine wpAny_list_append ⟨_, ha₅, hac, na, had⟩ (fun h' hl' sb => ?_) ?_
      · obtain ⟨o', ho', hc', n', hd'⟩ := hl'
        have M := (back σ₅ s₅ el R₅).acc O B (((X₂.trans X₃).trans X₄).trans X₅) ha₅ had hac0 hacD flp sb ⟨o', _, n', ho', hd'⟩
        refine ⟨n - (i + 1), by omega, i + 1, out ++ [v], σ₅.ob, rfl, hlt, by simp; omega, M.1, M.2, ?_, iq, ⟨o', _, n', ho', hc', hd', ?_⟩, ?_⟩
        · exact hS _ _ _ S₅ R₅.own fun b o e _ _ na => .of ((sb.2 b na).trans e)
        · have h1 : VRs c'.g h' out items.toList := vat hat hav
          have h2 : VR c'.g h' v pe := hve.plain (atom_plain hatom)
          rw [Array.toList_push]
          exact h1.snoc h2
        · intro u hu
          rcases List.mem_append.mp hu with hu | hu
          · exact hat u hu
          · rw [List.mem_singleton.mp hu]; exact hatom
      · have := hav.length
        have h3 : items.size = out.length := by rw [this]; simp
        omega
  · have : i = n := by omega
    subst this
    refine hend _ s₁ R₁ X₁ S₁ _ _ fun s₂ R₂ X₂ ka => ?_
    have vat : ∀ {h h' : Heap} {vs : List V} {pvs : List Value}, (∀ v ∈ vs, atom v = true) → VRs c'.g h vs pvs → VRs c'.g h' vs pvs := fun {h h' vs pvs} fa e => by
      induction e with
      | nil => exact .nil
      | cons a _ ih => exact .cons (a.plain (atom_plain (fa _ (.head _)))) (ih fun v hv => fa v (.tail _ hv))
    exact hR s₂ out ob₁ R₂ X₂ ⟨oa, items, na, ka _ ha anf, hac, had, vat hat hav⟩ I₁
end
end Mine

end

-- W13
section
namespace Mine

structure Wk (g : Gx) (A : Around) (h₁ : Heap) (it : Addr) (n : Nat) (item : Nat → V) (S : Nat → Heap → Prop) : Prop where
  init : S 0 h₁
  itD : it ≠ g.D
  rcd : ∃ o vs, h₁.get? it = some o ∧ o.data = .fields vs
  self : ∀ s, S 0 s.heap → ∀ (P : Value → Shared → Prop) (E : Value → Shared → Prop), P (.ref it) s → wpAny (model pw g.w) A (pyIter (.ref it)) P E s
  keep : ∀ (own : List Addr) (acc : Addr) i h h', h₁.get? acc = none → S i h → (∀ b ∈ own, ∃ o, h.get? b = some o ∧ isDC o.data = true) → (∀ b o, h.get? b = some o → b ∉ own → b ≠ g.D → b ≠ acc → KO o (h'.get? b)) → S i h'
  next : ∀ (F : Fi) (c : Cx), c.Ok F → c.g = g → c.A = A → ∀ h₀, g.base.StaysIn h₀ → h₀.get? it = none → ∀ i σ s, i < n → Rel c σ s → Ext c h₀ s.heap → S i s.heap → ∀ (P : Option Value → Shared → Prop) (E : Value → Shared → Prop),
    (∀ pv s', Rel c σ s' → Ext c h₀ s'.heap → S (i + 1) s'.heap → VR g s'.heap (item i) pv → (∀ b o, b ≠ it → s.heap.get? b = some o → s'.heap.get? b = some o) → P (some pv) s') → wpAny (model pw g.w) A (pyNext (.ref it)) P E s
  last : ∀ (F : Fi) (c : Cx), c.Ok F → c.g = g → c.A = A → ∀ h₀, g.base.StaysIn h₀ → h₀.get? it = none → ∀ σ s, Rel c σ s → Ext c h₀ s.heap → S n s.heap → ∀ (P : Option Value → Shared → Prop) (E : Value → Shared → Prop),
    (∀ s', Rel c σ s' → Ext c h₀ s'.heap → (∀ b o, b ≠ it → s.heap.get? b = some o → s'.heap.get? b = some o) → P none s') → wpAny (model pw g.w) A (pyNext (.ref it)) P E s

noncomputable def HI (F : Fi) (iter : Expr) (σ : St) (Q : Nat → (Nat → V) → St → Prop) : Prop :=
  ∀ c : Cx, c.Ok F → ∀ s, Rel c σ s → wpAny (model pw c.g.w) c.A (eval iter c.env) (fun x s₁ => wpAny (model pw c.g.w) c.A (pyIter x)
    (fun it s₂ => ∃ a n item S σ', it = .ref a ∧ Rel c σ' s₂ ∧ Ext c s.heap s₂.heap ∧ s.heap.get? a = none ∧ (∃ o, s₂.heap.get? a = some o) ∧ Wk c.g c.A s₂.heap a n item S ∧ n ≤ sizeLine ∧ Q n item σ') (fun _ _ => False) s₁) (fun _ _ => False) s

section
variable {F : Fi} {σ : St}

theorem HI_str {iter : Expr} {Q : Nat → (Nat → V) → St → Prop} (h : HE F iter σ (fun v σ' => ∃ x, v = .str x ∧ x.length ≤ sizeLine ∧ Q x.length (fun i => .str (chAt x i)) σ')) : HI F iter σ Q := fun c O s R => by
  refine wpAny_mono (h c O s R) (fun pv s₁ zz => ?_) fun _ _ z => z
  obtain ⟨v, σ₁, R₁, X₁, hv, x, e, hz, q⟩ := zz
  subst e
  cases hv with
  | str _ t =>
  have nD : s₁.heap.objs.size ≠ c.g.D := (vr_new O R₁).1
  have fin : ∀ (ty : String) , (∀ (A : Around) (s : Shared) (it : Addr) (i ch : Nat) (P : Option Value → Shared → Prop) (E : Value → Shared → Prop), s.heap.IsStrIter it ty x t i → x.cps[i]? = some ch → (∀ h', h'.IsStrIter it ty x t (i + 1) → Heap.SameBut it s.heap h' → P (some (.str ⟨#[ch]⟩ s.toks)) { s with heap := h', toks := s.toks + 1 }) → wpAny (model pw c.g.w) A (pyNext (.ref it)) P E s) →
      (∀ (A : Around) (s : Shared) (it : Addr) (i : Nat) (P : Option Value → Shared → Prop) (E : Value → Shared → Prop), A.handled = none → s.heap.IsStrIter it ty x t i → x.cps[i]? = none → (∀ h', Heap.ExtBut it s.heap h' → P none { s with heap := h' }) → wpAny (model pw c.g.w) A (pyNext (.ref it)) P E s) →
      (∀ (A : Around) (s : Shared) (it : Addr) (i : Nat) (P : Value → Shared → Prop) (E : Value → Shared → Prop), s.heap.IsStrIter it ty x t i → P (.ref it) s → wpAny (model pw c.g.w) A (pyIter (.ref it)) P E s) →
      ∃ a n item S σ', Value.ref s₁.heap.objs.size = .ref a ∧ Rel c σ' { s₁ with heap := s₁.heap.push { cls := .type ty, data := .fields #[.str x t, .int 0 0] } } ∧ Ext c s.heap (s₁.heap.push { cls := .type ty, data := .fields #[.str x t, .int 0 0] }) ∧ s.heap.get? a = none ∧ (∃ o, (s₁.heap.push { cls := .type ty, data := .fields #[.str x t, .int 0 0] }).get? a = some o) ∧ Wk c.g c.A (s₁.heap.push { cls := .type ty, data := .fields #[.str x t, .int 0 0] }) a n item S ∧ n ≤ sizeLine ∧ Q n item σ' := by
    intro ty hn hl hsf
    have k := R₁.kp O (.of_keeps (h := s₁.heap) (h' := s₁.heap.push { cls := .type ty, data := .fields #[.str x t, .int 0 0] }) fun q o e => Heap.get?_push_of_some { cls := .type ty, data := .fields #[.str x t, .int 0 0] } e) s₁.drawn s₁.toks
    refine ⟨s₁.heap.objs.size, x.length, fun i => .str (chAt x i), fun i h => h.IsStrIter s₁.heap.objs.size ty x t i, σ₁, rfl, k.1, X₁.trans k.2, X₁.none _ (Heap.get?_none_of_le (Nat.le_refl _)), ⟨_, Heap.get?_push_size _ rfl⟩, ⟨⟨_, Heap.get?_push_size _ rfl, rfl, rfl⟩, nD, ⟨_, _, Heap.get?_push_size _ rfl, rfl⟩, fun s h P E q => hsf c.A s _ 0 P E h q, ?_, ?_, ?_⟩, hz, q⟩
    · rintro own acc i h h' ha ⟨o, ho, hc, hd⟩ ow kk
      refine ⟨o, (kk _ _ ho (fun hm => ?_) nD fun q => ?_).rc ⟨_, hd⟩, hc, hd⟩
      · obtain ⟨o', e, z⟩ := ow _ hm
        rw [ho] at e; cases e; rw [hd] at z; cases z
      · rw [← q, Heap.get?_push_size _ rfl] at ha; cases ha
    · rintro F' c' O' rfl' rfl'' h₀ B h0 i σ' s' hi R' X' ⟨o, ho, hc, hd⟩ P E kk
      have hi' : i < x.cps.size := hi
      refine hn c.A s' _ i x.cps[i] P E ⟨o, ho, hc, hd⟩ (Array.getElem?_eq_getElem hi') fun h' hit' sb => ?_
      have M := R'.rec1 O' (rfl' ▸ B) X' ho hd h0 (rfl' ▸ nD) (fun b o q e => (sb.2 b q).trans e) s'.drawn (s'.toks + 1)
      refine kk _ _ M.1 M.2 hit' ?_ fun b o q e => (sb.2 b q).trans e
      have : chAt x (i : Nat) = ⟨#[x.cps[i]]⟩ := by
        unfold chAt
        rw [Int.toNat_natCast, Array.getD_eq_getD_getElem?, Array.getElem?_eq_getElem hi']; rfl
      rw [this]
      exact .str _ _
    · rintro F' c' O' rfl' rfl'' h₀ B h0 σ' s' R' X' ⟨o, ho, hc, hd⟩ P E kk
      refine hl c.A s' _ x.length P E (rfl'' ▸ O'.hd) ⟨o, ho, hc, hd⟩ (Array.getElem?_eq_none (Nat.le_refl _)) fun h' sb => ?_
      have M := R'.rec1 O' (rfl' ▸ B) X' ho hd h0 (rfl' ▸ nD) (fun b o q e => sb b o q e) s'.drawn s'.toks
      exact kk _ M.1 M.2 fun b o q e => sb b o q e
  cases ha : x.cps.all (· < 128)
  · exact wpAny_pyIter_wide ha (fin _ (fun A s it i ch P E a b d => wpAny_pyNext_wide_item a b d) (fun A s it i P E a b d e => wpAny_pyNext_wide_end a b d e) fun A s it i P E a b => wpAny_pyIter_striter_wide a b)
  · exact wpAny_pyIter_ascii ha (fin _ (fun A s it i ch P E a b d => wpAny_pyNext_ascii_item a b d) (fun A s it i P E a b d e => wpAny_pyNext_ascii_end a b d e) fun A s it i P E a b => wpAny_pyIter_striter_ascii a b)

theorem HI_list {iter : Expr} {Q : Nat → (Nat → V) → St → Prop} (h : HE F iter σ (fun v σ' => ∃ l, v = .list l ∧ l.length ≤ sizeLine ∧ Q l.length (fun i => l.getD i .none) σ')) : HI F iter σ Q := fun c O s R => by
  refine wpAny_mono (h c O s R) (fun pv s₁ zz => ?_) fun _ _ z => z
  obtain ⟨v, σ₁, R₁, X₁, hv, l, e, hz, q⟩ := zz
  subst e
  cases hv with
  | @list la oa ia na _ ho hc hd hD hl kv =>
  refine wpAny_pyIter_list ⟨oa, ho, hc, na, hd⟩ ?_
  have nD : s₁.heap.objs.size ≠ c.g.D := (vr_new O R₁).1
  have hlt := Heap.lt_size ho
  have k := R₁.kp O (.of_keeps (h := s₁.heap) (h' := s₁.heap.push { cls := .type "list_iterator", data := .fields #[.ref la, .int 0 0] }) fun q o e => Heap.get?_push_of_some { cls := .type "list_iterator", data := .fields #[.ref la, .int 0 0] } e) s₁.drawn s₁.toks
  refine ⟨s₁.heap.objs.size, l.length, fun i => l.getD i .none, fun i h => h.IsListIter s₁.heap.objs.size la i ∧ (∃ sl, h.get? la = some { oa with slots := sl }) ∧ SeqK c.g s₁.heap h, σ₁, rfl, k.1, X₁.trans k.2, X₁.none _ (Heap.get?_none_of_le (Nat.le_refl _)), ⟨_, Heap.get?_push_size _ rfl⟩, ⟨⟨⟨_, Heap.get?_push_size _ rfl, rfl, rfl⟩, ⟨oa.slots, Heap.get?_push_of_some _ ho⟩, k.2.seqK R₁.own⟩, nD, ⟨_, _, Heap.get?_push_size _ rfl, rfl⟩, fun s h P E q => wpAny_pyIter_listiter h.1 q, ?_, ?_, ?_⟩, hz, q⟩
  · rintro own acc i h h' ha ⟨⟨oi, hoi, hci, hdi⟩, ⟨sl, hla⟩, sk⟩ ow kk
    refine ⟨⟨oi, (kk _ _ hoi (fun hm => ?_) nD fun q => ?_).rc ⟨_, hdi⟩, hci, hdi⟩, ?_, fun b o items n e hd' hb => ?_⟩
    · obtain ⟨o', e, z⟩ := ow _ hm
      rw [hoi] at e; cases e; rw [hdi] at z; cases z
    · rw [← q, Heap.get?_push_size _ rfl] at ha; cases ha
    · obtain ⟨sl', e'⟩ := (kk _ _ hla (fun hm => by
        obtain ⟨o, e, z⟩ := ow _ hm
        rw [hla] at e; cases e
        change isDC oa.data = true at z
        rw [hd] at z; cases z) hD fun q => by
          subst q
          rw [Heap.get?_push_of_some _ ho] at ha; cases ha).sl
      exact ⟨sl', e'⟩
    · obtain ⟨sl1, e1⟩ := sk b o items n e hd' hb
      obtain ⟨sl2, e2⟩ := (kk _ _ e1 (fun hm => by
        obtain ⟨o', e', z⟩ := ow _ hm
        rw [e1] at e'; cases e'
        change isDC o.data = true at z
        rw [hd'] at z; cases z) hb fun q => by
          subst q
          rw [Heap.get?_push_of_some _ e] at ha; cases ha).sl
      exact ⟨sl2, e2⟩
  · rintro F' c' O' rfl' rfl'' h₀ B h0 i σ' s' hi R' X' ⟨hit, ⟨sl, hla⟩, sk⟩ P E kk
    have hi' : i < ia.size := by rw [hl]; exact hi
    have e : ia[i]? = some ia[i] := Array.getElem?_eq_getElem hi'
    refine wpAny_pyNext_list_item hit ⟨_, hla, hc, na, hd⟩ e fun h' hit' hs' => ?_
    obtain ⟨oi, hoi, hci, hdi⟩ := hit
    have M := R'.rec1 O' (rfl' ▸ B) X' hoi hdi h0 (rfl' ▸ nD) (fun b o q e => (hs'.2 b q).trans e) s'.drawn s'.toks
    have sk' : SeqK c.g s₁.heap h' := fun b o items n e hd' hb => by
      obtain ⟨sl1, e1⟩ := sk b o items n e hd' hb
      refine ⟨sl1, (hs'.2 b fun q => ?_).trans e1⟩
      subst q
      exact absurd (Heap.lt_size e) (Nat.lt_irrefl _)
    refine kk _ _ M.1 M.2 ⟨hit', ⟨sl, (hs'.2 la (Nat.ne_of_lt hlt)).trans hla⟩, sk'⟩ ((kv i (l.getD i .none) _ ?_ e).seqK sk') fun b o q e => (hs'.2 b q).trans e
    rw [List.getD_eq_getElem?_getD, List.getElem?_eq_getElem hi]; rfl
  · rintro F' c' O' rfl' rfl'' h₀ B h0 σ' s' R' X' ⟨hit, ⟨sl, hla⟩, sk⟩ P E kk
    refine wpAny_pyNext_list_end (rfl'' ▸ O'.hd) hit ⟨_, hla, hc, na, hd⟩ (Array.getElem?_eq_none (by rw [hl]; exact Nat.le_refl _)) fun h' hs' => ?_
    obtain ⟨oi, hoi, hci, hdi⟩ := hit
    have M := R'.rec1 O' (rfl' ▸ B) X' hoi hdi h0 (rfl' ▸ nD) (fun b o q e => hs' b o q e) s'.drawn s'.toks
    exact kk _ M.1 M.2 fun b o q e => hs' b o q e

theorem HI_range1 {p rpos : Pos} {e : Expr} {Q : Nat → (Nat → V) → St → Prop} (hr : F.sc.names.lookup ("range" : Str) = some .globalImplicit)
    (h : HE F e σ (fun v σ' => ∃ n : Nat, v = .int n ∧ n ≤ sizeLine ∧ Q n (fun i => .int i) σ')) (he : ∀ env, starEach [e] env = [(false, eval e env)] := by intro; rfl) : HI F (.Call (.Name "range" p) [e] [] rpos) σ Q := fun c O s R => by
  rw [arm_eval_Call_Name']
  refine wpAny_bind ?_
  have hko : c.env.kindOf "range" = some .globalImplicit := by unfold Env.kindOf; rw [O.sc]; exact hr
  have hkf : c.env.scope.kind = .function := by rw [O.sc]; exact O.kd
  have hg : s.heap.Ns c.env.globals c.g.mg := by rw [O.gl]; exact O.g.T.g.keeps R.base
  have hbn : s.heap.Ns c.env.builtins c.g.mb := by rw [O.bu]; exact O.g.T.b.keeps R.base
  have hn : ∀ P, nsIn (KF P) mainGlobals "range" = some none := fun P => by kernel_rfl
  refine Name_function_global hkf hko (loadGlobal_builtin (v := .type "range") hg (mg_none_of O.g.K O.g.T.g (hn _)) hbn ((O.g.T.builtins "range" (by decide)).trans rfl) ?_) (by decide)
  have hp : (backTo rpos (starEach [e] c.env)).any (·.1) = false := by rw [he]; rfl
  refine PyProof.Rows.callWith_type hp (evalArgs_any hp (wpAny_mono (HA_cons (Q := fun vs σ' => ∃ n : Nat, vs = [.int n] ∧ n ≤ sizeLine ∧ Q n (fun i => .int i) σ') (HE_mono h fun v σ' ⟨n, e, hz, q⟩ => HA_nil ⟨n, by rw [e], hz, q⟩) he c O s _ R) (fun pvs s₁ zz => ?_) fun _ _ z => z.elim))
  obtain ⟨vs, σ₁, R₁, X₁, hv, n, e, hz, q⟩ := zz
  subst e
  cases hv with
  | cons hv1 hv =>
  cases hv
  cases hv1 with
  | int _ t1 =>
  have hz' : sizeLine < 2 ^ 60 := by rw [sizeLine_eq]; decide
  refine PySem.call_range_1 ?_
  have k1 := R₁.kp O (.of_keeps (h := s₁.heap) (h' := s₁.heap.push { cls := .type "range", data := .fields #[.int 0 s₁.toks, .int n t1, .int 1 (s₁.toks + 1)] }) fun q o e => Heap.get?_push_of_some { cls := .type "range", data := .fields #[.int 0 s₁.toks, .int n t1, .int 1 (s₁.toks + 1)] } e) s₁.drawn (s₁.toks + 1 + 1)
  refine wpAny_pyIter_range (IsRange.new ..) (small_of (by omega) (by omega) (by omega) (by omega) (.inl rfl)) ?_
  have hsz : Builtin.Range.rangeSize 0 n 1 = n := by
    unfold Builtin.Range.rangeSize
    simp; omega
  have k2 := k1.1.kp O (.of_keeps (h := s₁.heap.push { cls := .type "range", data := .fields #[.int 0 s₁.toks, .int n t1, .int 1 (s₁.toks + 1)] }) (h' := (s₁.heap.push { cls := .type "range", data := .fields #[.int 0 s₁.toks, .int n t1, .int 1 (s₁.toks + 1)] }).push { cls := .type "range_iterator", data := .fields #[rawInt 0, rawInt (Builtin.Range.rangeSize 0 n 1), rawInt 1] }) fun q o e => Heap.get?_push_of_some { cls := .type "range_iterator", data := .fields #[rawInt 0, rawInt (Builtin.Range.rangeSize 0 n 1), rawInt 1] } e) s₁.drawn (s₁.toks + 1 + 1)
  have nD : ∀ k, s₁.heap.objs.size ≤ k → k ≠ c.g.D := fun k hk z => by
    obtain ⟨oD, hD⟩ := R₁.ob.has
    have := Heap.lt_size hD
    rw [← z] at this
    exact absurd this (Nat.not_lt.mpr hk)
  have fr0 : ∀ k, s₁.heap.objs.size ≤ k → s.heap.get? k = none := fun k hk => X₁.none _ (Heap.get?_none_of_le hk)
  rw [hsz] at k2 ⊢
  have big : s₁.heap.objs.size ≤ (s₁.heap.push { cls := .type "range", data := .fields #[.int 0 s₁.toks, .int n t1, .int 1 (s₁.toks + 1)] }).objs.size := by rw [Heap.size_push]; exact Nat.le_succ _
  have new := Heap.get?_push_size (s₁.heap.push { cls := .type "range", data := .fields #[.int 0 s₁.toks, .int n t1, .int 1 (s₁.toks + 1)] }) (o := { cls := .type "range_iterator", data := .fields #[rawInt 0, rawInt (n : Int), rawInt 1] }) rfl
  refine ⟨_, n, fun i => .int i, fun i h => IsRangeIter h (s₁.heap.push { cls := .type "range", data := .fields #[.int 0 s₁.toks, .int n t1, .int 1 (s₁.toks + 1)] }).objs.size (i : Int) ((n : Int) - i) 1, σ₁, rfl, k2.1, (X₁.trans k1.2).trans k2.2, fr0 _ big, ⟨_, new⟩, ⟨by simpa using new, nD _ big, ⟨_, _, new, rfl⟩, fun s h P E q => wpAny_pyIter_rangeiter h q, ?_, ?_, ?_⟩, hz, q⟩
  · intro own acc i h h' ha S ow kk
    refine (kk _ _ S (fun hm => ?_) (nD _ big) fun q => ?_).rc ⟨_, rfl⟩
    · obtain ⟨o', e, z⟩ := ow _ hm
      rw [S] at e; cases e; cases z
    · rw [← q, new] at ha; cases ha
  · rintro F' c' O' rfl' rfl'' h₀ B h0 i σ' s' hi R' X' S P E kk
    refine wpAny_pyNext_range_item S (by omega) fun h' hit' hs' => ?_
    have M := R'.rec1 O' (rfl' ▸ B) X' S rfl h0 (rfl' ▸ nD _ big) (fun b o q e => (hs'.2 b q).trans e) s'.drawn (s'.toks + 1)
    refine kk _ _ M.1 M.2 ?_ (.int _ _) fun b o q e => (hs'.2 b q).trans e
    have e1 : ((i + 1 : Nat) : Int) = (i : Int) + 1 := by push_cast; rfl
    have e2 : (n : Int) - ((i + 1 : Nat) : Int) = (n : Int) - (i : Int) - 1 := by push_cast; omega
    rw [e2, e1]; exact hit'
  · rintro F' c' O' rfl' rfl'' h₀ B h0 σ' s' R' X' S P E kk
    refine wpAny_pyNext_range_end (rfl'' ▸ O'.hd) S (by omega) fun h' hs' => ?_
    have M := R'.rec1 O' (rfl' ▸ B) X' S rfl h0 (rfl' ▸ nD _ big) (fun b o q e => hs' b o q e) s'.drawn s'.toks
    exact kk _ M.1 M.2 fun b o q e => hs' b o q e
end
end Mine

end

-- W14
section
namespace Mine

/-- the names a comprehension takes from its function: none, or one cell -/
noncomputable def ClosOk (scope fsc : Scope) : Option (Str × V) → Prop
  | none => ∀ env, closureFor scope env = pure []
  | some (y, _) => (∀ env a, env.cells.lookup y = some a → closureFor scope env = pure [(y, a)]) ∧ fsc.names.lookup y = some .cell ∧ (relabF scope fsc).names.lookup y = some .cell

noncomputable def flOf : Option (Str × V) → List (Str × V)
  | none => []
  | some p => [p]

noncomputable def FiC (F : Fi) (scope : Scope) : Fi := ⟨relabF scope F.sc, F.d, false, F.k⟩

section
variable {F : Fi} {σ : St}

theorem Rel.upN {c : Cx} {σ : St} {s s' : Shared} (O : c.Ok F) (R : Rel c σ s) {ob' : List (Str × V)} (u : ∀ b o, s.heap.get? b = some o → (∀ vs, o.data ≠ .fields vs) → b ≠ c.g.D → KO o (s'.heap.get? b)) (hb : c.g.base.StaysIn s'.heap) (hf : s'.heap.FunFrames c.g.base c.stk)
    (or : OR c.g s'.heap ob') (hg : s'.gens = #[]) (ho : s'.os = c.g.os) : Rel c { σ with ob := ob' } s' := by
  obtain ⟨m, ⟨oL, es, ep, hL, hLd, hLr⟩, hl⟩ := R.loc
  have nD : ∀ b ∈ c.own, b ≠ c.g.D := fun b h q => O.nD (q ▸ h)
  have sk : SeqK c.g s.heap s'.heap := fun b o _ _ e hd n => (u b o e (fun vs q => by rw [hd] at q; cases q) n).sl
  have cell : ∀ a v, a ≠ c.g.D → s.heap.IsCell a v → s'.heap.IsCell a v := fun a v n ⟨o, ho, hd⟩ => by
    obtain ⟨sl, e⟩ := (u a o ho (fun vs q => by rw [hd] at q; cases q) n).sl
    exact ⟨_, e, hd⟩
  obtain ⟨slL, hL'⟩ := (u _ _ hL (fun vs q => by rw [hLd] at q; cases q) (nD _ O.ownL)).sl
  refine ⟨hb, hf, ⟨m, ⟨_, es, ep, hL', hLd, hLr⟩, fun x v e => ?_⟩, fun b h => ?_, or, hg, ho⟩
  · have := hl x v e
    unfold LocAt at this ⊢
    split at this
    · obtain ⟨pv, a, b⟩ := this; exact ⟨pv, a, b.seqK sk⟩
    · rename_i q; obtain ⟨a, pv, b, d, e⟩ := this; exact ⟨a, pv, b, cell _ _ (O.celD x a (.inl q) b) d, e.seqK sk⟩
    · rename_i q; obtain ⟨a, pv, b, d, e⟩ := this; exact ⟨a, pv, b, cell _ _ (O.celD x a (.inr q) b) d, e.seqK sk⟩
    · exact this.elim
  · obtain ⟨o, e, z⟩ := R.own b h
    obtain ⟨sl, e'⟩ := (u b o e (fun vs q => by rw [q] at z; cases z) (nD b h)).sl
    exact ⟨_, e', z⟩

noncomputable def ClIs (c : Cx) : Option (Str × V) → List (Str × Addr) → Prop
  | none, cl => cl = []
  | some (y, _), cl => ∃ a, c.env.cells.lookup y = some a ∧ cl = [(y, a)]

theorem funFrames_ne {base h h' : Heap} {C : Addr} (k : ∀ b o, b ≠ C → h.get? b = some o → h'.get? b = some o) : ∀ {l : List Env}, (∀ e ∈ l, e.frame ≠ some C) → h.FunFrames base l → h'.FunFrames base l
  | [], _, _ => trivial
  | e :: _, hn, ⟨hk, ⟨L, o, hf, hb, ho, hd⟩, hr⟩ => ⟨hk, ⟨L, o, hf, hb, k L o (fun q => hn e (.head _) (q ▸ hf)) ho, hd⟩, funFrames_ne k (fun e he => hn e (.tail _ he)) hr⟩

theorem comp_run {c : Cx} (O : c.Ok F) {elt iter : Expr} {x : Str} {px pos : Pos} {ifs : List Expr} {scope : Scope} (fr : Option (Str × V))
    (hcell : ∀ y ∈ scope.names, y.2 ≠ .cell) (hkind : scope.kind = .function) (hx : scope.names.lookup x = some .local) (hclos : ClosOk scope F.sc fr)
    (hfl : (flOf fr).all (fun y => plainV y.2 && !(y.1 == x)) = true)
    {s s₂ : Shared} {σ' : St} (hfr : ∀ y v, fr = some (y, v) → σ'.loc.lookup y = some v) {it : Addr} {n : Nat} {item : Nat → V} {S : Nat → Heap → Prop} (B : c.g.base.StaysIn s.heap) (R₂ : Rel c σ' s₂) (X₂ : Ext c s.heap s₂.heap) (it0 : s.heap.get? it = none) (W : Wk c.g c.A s₂.heap it n item S) (hsz : n ≤ sizeLine)
    (hip : ∀ i, i < n → plainV (item i) = true) (I : Nat → List V → List (Str × V) → Prop) (i0 : I 0 [] σ'.ob)
    (step : ∀ i out ob, i < n → I i out ob → HTs (FiC F scope) ifs ⟨(x, item i) :: flOf fr, ob⟩ (fun b σ' => if b then HE (FiC F scope) elt σ' (fun v σ'' => σ''.loc = (x, item i) :: flOf fr ∧ atom v = true ∧ I (i + 1) (out ++ [v]) σ''.ob) else σ'.loc = (x, item i) :: flOf fr ∧ I (i + 1) out σ'.ob))
    {cl : List (Str × Addr)} (hcl : ClIs c fr cl)
    {RR : Value → Addr → Result → Shared → Prop}
    (hR : ∀ D C s' out ob', (∃ m, s'.heap.Ns C m) → C ∉ c.own → C ≠ c.g.D → s₂.heap.get? C = none → (∀ h', Heap.SameBut C s'.heap h' → Rel c { σ' with ob := ob' } { s' with heap := h' } ∧ Ext c s.heap h' ∧ VR c.g h' (.list out) (.ref D)) →
      I n out ob' → RR (.ref D) C (.ok .next) s') :
    wpAny (model pw c.g.w) c.A (newList []) (fun acc s₃ => wpAny (model pw c.g.w) c.A (newFunctionEnv scope c.env.globals cl [] c.env.qual none .none (some c.env)) (fun cenv s₄ =>
      codeAny (model pw c.g.w) c.A (.compStart (.ListComp elt [⟨.Name x px, iter, ifs, 0⟩] scope pos) 0 (.ref it) acc { cenv with scope := relabel scope c.env }) (RR acc cenv.locals) s₄) (fun _ _ => False) s₃) (fun _ _ => False) s₂ := by
  refine wpAny_newObj_type (wpAny_newFunctionEnv hcell (by intro y hy; simp at hy) (fun h₁ hns₁ hsb₁ => ?_) hkind)
  dsimp only at hns₁ hsb₁ ⊢
  generalize hH2 : s₂.heap.push { cls := .type "list", dict := none, data := .seq ([] : List Value).toArray } = H2 at hns₁ hsb₁ ⊢
  have hC : H2.objs.size = s₂.heap.objs.size + 1 := by rw [← hH2, Heap.size_push]
  have ltD : s₂.heap.objs.size ≠ c.g.D ∧ s₂.heap.objs.size + 1 ≠ c.g.D := vr_new O R₂
  have hDC : s₂.heap.objs.size ≠ H2.objs.size := by rw [hC]; exact Nat.ne_of_lt (Nat.lt_succ_self _)
  have below : ∀ b o, s₂.heap.get? b = some o → b ≠ H2.objs.size ∧ b ≠ s₂.heap.objs.size := fun b o e => by
    have hb := Heap.lt_size e
    exact ⟨by rw [hC]; exact Nat.ne_of_lt (Nat.lt_succ_of_lt hb), Nat.ne_of_lt hb⟩
  have old : ∀ b o, s₂.heap.get? b = some o → h₁.get? b = some o := fun b o e => hsb₁.extBut b o (below b o e).1 (Heap.get?_push_of_some _ (hH2 ▸ Heap.get?_push_of_some _ e))
  have hacc : h₁.get? s₂.heap.objs.size = some { cls := .type "list", data := .seq #[] } := hsb₁.extBut _ _ hDC (Heap.get?_push_of_some _ (hH2 ▸ Heap.get?_push_size _ rfl))
  have fresh : ∀ a, s₂.heap.objs.size ≤ a → s₂.heap.get? a = none := fun a ha => Heap.get?_none_of_le ha
  have C0 : s₂.heap.get? H2.objs.size = none := fresh _ (by rw [hC]; exact Nat.le_succ _)
  obtain ⟨c', hc'⟩ : ∃ c' : Cx, c' = ⟨c.g, c.A, compEnvC scope cl H2.objs.size c.env, c.stk, [H2.objs.size]⟩ := ⟨_, rfl⟩
  have hrel : relabel scope c.env = relabF scope F.sc := by
    unfold relabel relabF Env.kindOf
    rw [O.sc]
  have hcD : ∀ y a, cl.lookup y = some a → a ≠ c.g.D := by
    intro y a ha
    cases fr with
    | none => rw [show cl = [] from hcl] at ha; cases ha
    | some p =>
      obtain ⟨y', v⟩ := p
      obtain ⟨a', h1, rfl⟩ := hcl
      rw [List.lookup_cons] at ha
      have h2 : c.env.kindOf y' = some .cell := by unfold Env.kindOf; rw [O.sc]; exact hclos.2.1
      cases q : y == y' with
      | true => rw [q] at ha; cases ha; exact O.celD y' _ (.inl h2) h1
      | false => rw [q] at ha; cases ha
  have nCo : H2.objs.size ∉ c.own := fun hm => by
    obtain ⟨o, e, _⟩ := R₂.own _ hm
    rw [C0] at e; cases e
  have O' : c'.Ok (FiC F scope) := by
    subst hc'
    refine ⟨O.g, O.fr, O.hd, O.dp, O.un, hrel, hkind, O.gl, O.bu, O.k, (fun z => by cases z), (fun z => by cases z), (fun y a _ ha => hcD y a ha), List.mem_singleton.mpr rfl, ?_, ?_, O.frD⟩
    · intro hm
      have q : c.g.D = H2.objs.size := List.mem_singleton.mp hm
      rw [hC] at q
      exact ltD.2 q.symm
    · intro b hb
      rw [List.mem_singleton.mp hb]
      cases q : c.g.base.get? H2.objs.size with
      | none => rfl
      | some o => have := R₂.base _ _ q; rw [C0] at this; cases this
  obtain ⟨oC, hCo, dC⟩ := dc_ns hns₁
  have sk1 : SeqK c.g s₂.heap h₁ := fun b o _ _ e _ _ => ⟨o.slots, old b o e⟩
  have R' : Rel c' ⟨flOf fr, σ'.ob⟩ { s₂ with heap := h₁, toks := s₂.toks + ([] : List (Str × Value)).length } := by
    subst hc'
    refine ⟨fun b o e => old b o (R₂.base b o e), funFrames_of (fun b o e nf => ⟨o, old b o e, nf⟩) R₂.fn, ⟨_, hns₁, fun y v e => ?_⟩, fun b hb => ?_, R₂.ob.keep sk1 (fun o e _ => ⟨o.slots, old _ o e⟩) fun o e => ⟨o.slots, old _ o e⟩, R₂.gens, R₂.os⟩
    · cases fr with
      | none => cases e
      | some p =>
        obtain ⟨y', v'⟩ := p
        obtain ⟨a', h1, hcl'⟩ := hcl
        have e : ([(y', v')] : List (Str × V)).lookup y = some v := e
        rw [List.lookup_cons] at e
        cases q : y == y' with
        | false => rw [q] at e; cases e
        | true =>
          rw [q] at e; cases e
          have := beq_iff_eq.mp q
          subst this
          have hk : (compEnvC scope cl H2.objs.size c.env).kindOf y = some .cell := by
            show (relabel scope c.env).names.lookup y = _
            rw [hrel]; exact hclos.2.2
          obtain ⟨m, hm, hl⟩ := R₂.loc
          have L := hl y _ (hfr y _ rfl)
          have h2 : c.env.kindOf y = some .cell := by unfold Env.kindOf; rw [O.sc]; exact hclos.2.1
          unfold LocAt at L ⊢
          rw [h2] at L
          rw [show (Cx.env ⟨c.g, c.A, compEnvC scope cl H2.objs.size c.env, c.stk, [H2.objs.size]⟩).kindOf y = some .cell from hk]
          obtain ⟨a, pv, b, ⟨o, ho, hd⟩, e⟩ := L
          rw [h1] at b; cases b
          refine ⟨a', pv, ?_, ⟨o, old _ _ ho, hd⟩, e.seqK sk1⟩
          show cl.lookup y = _
          rw [hcl', List.lookup_cons, beq_self_eq_true]
    · rw [List.mem_singleton.mp hb]; exact ⟨oC, hCo, dC⟩
  obtain ⟨oit, vit, hoit, hdit⟩ := W.rcd
  have hne : ∀ b o, s.heap.get? b = some o → b ≠ it := fun b o e q => by subst q; rw [it0] at e; cases e
  have Xc : Ext c' (s₂.heap.hide it) h₁ := by
    refine ⟨fun b e => ?_, fun b o e n d => .of (old b o (Heap.of_hide e))⟩
    cases q : (s₂.heap.hide it).get? b with
    | none => rfl
    | some o => rw [old b o (Heap.of_hide q)] at e; cases e
  have Bh : c.g.base.StaysIn (s₂.heap.hide it) := fun b o e => (Heap.hide_ne _ (hne b o (B b o e))).trans (R₂.base b o e)
  have hxr : (FiC F scope).sc.names.lookup x = some .local := by
    show (relabF scope F.sc).names.lookup x = _
    rw [← hrel]; exact lookup_relabel_local hx
  have accit : s₂.heap.objs.size ≠ it := fun q => by rw [← q, fresh _ (Nat.le_refl _)] at hoit; cases hoit
  have loop : codeAny (model pw c'.g.w) c'.A (.compLoop (.ListComp elt [⟨.Name x px, iter, ifs, 0⟩] scope pos) 0 (.ref it) (.ref s₂.heap.objs.size) c'.env) (RR (.ref s₂.heap.objs.size) H2.objs.size) { s₂ with heap := h₁, toks := s₂.toks + ([] : List (Str × Value)).length } := by
    have cg : c'.g = c.g := by rw [hc']
    have cA : c'.A = c.A := by rw [hc']
    have co : c'.own = [H2.objs.size] := by rw [hc']
    refine comp_core O' (h₀ := s₂.heap.hide it) (by rw [cg]; exact Bh) hxr hsz item S (by rw [Heap.hide_ne _ accit]; exact fresh _ (Nat.le_refl _)) (by rw [cg]; exact ltD.1) (fun i h h' St own k => ?_) (fun i σ s hi R' X' St P E k => ?_) (fun σ s R' X' St P E k => ?_) (flOf fr) hfl hip I step (fun s' out ob' Rf Xf z If => ?_) R' Xc ?_ hacc i0
    · rw [cg] at k
      exact W.keep _ _ i h h' (fresh _ (Nat.le_refl _)) St own k
    · have := W.next _ c' O' cg cA (s₂.heap.hide it) Bh (by rw [Heap.hide_self]) i σ s hi R' X' St P E (fun pv s' a b d e f => k pv s' a b d (by rw [cg]; exact e) fun o ho _ => f _ o accit ho)
      rw [cg, cA]; exact this
    · have := W.last _ c' O' cg cA (s₂.heap.hide it) Bh (by rw [Heap.hide_self]) σ s R' X' St P E (fun s' a b f => k s' a b fun o ho _ => f _ o accit ho)
      rw [cg, cA]; exact this
    · obtain ⟨o, items, nn, ha, hac, had, hav⟩ := z
      rw [cg] at hav
      have hBf := Rf.base
      have hFf := Rf.fn
      have hOf := Rf.ob
      have hof := Rf.os
      obtain ⟨mC, hmC, _⟩ := Rf.loc
      rw [hc'] at hBf hFf hOf hof hmC
      refine hR _ _ s' out ob' ⟨mC, hmC⟩ nCo (by rw [hC]; exact ltD.2) C0 (fun h' sb => ?_) If
      have hmC : s'.heap.Ns H2.objs.size mC := hmC
      obtain ⟨oCf, hCf, dCf⟩ := dc_ns hmC
      have kk : ∀ b o, s₂.heap.get? b = some o → b ≠ it → b ≠ c.g.D → KO o (h'.get? b) := fun b o e q d => by
        have hb := (below b o e).1
        rw [sb.2 b hb]
        refine Xf.keep b o ((Heap.hide_ne _ q).trans e) ?_ (by rw [cg]; exact d)
        rw [co]; exact fun hm => hb (List.mem_singleton.mp hm)
      obtain ⟨oD, hDs⟩ := R₂.ob.has
      have hDC' : c.g.D ≠ H2.objs.size := (below _ _ hDs).1
      have skf : SeqK c.g s'.heap h' := fun b o items n e hd d => ⟨o.slots, (sb.2 b fun q => by
        subst q; rw [hCf] at e; cases e; rw [hd] at dCf; cases dCf).trans e⟩
      have orf : OR c.g h' ob' := by
        refine OR.keep skf (fun o e hp => ⟨o.slots, (sb.2 _ fun q => ?_).trans e⟩) (fun o e => ⟨o.slots, (sb.2 _ hDC').trans e⟩) hOf
        rw [q, hCf] at e; cases e; rw [hp] at dCf; cases dCf
      have nonit : ∀ b o, s₂.heap.get? b = some o → (∀ vs, o.data ≠ .fields vs) → b ≠ it := fun b o e nf q => by
        subst q; rw [hoit] at e; cases e; exact nf _ hdit
      have e1 : Rel c { σ' with ob := ob' } { s' with heap := h' } := by
        refine Rel.upN (s' := { s' with heap := h' }) O R₂ (fun b o e nf d => kk b o e (nonit b o e nf) d) (fun b o e => ?_) ?_ orf Rf.gens hof
        · have e2 := R₂.base b o e
          exact (sb.2 b (below b o e2).1).trans (hBf b o e)
        · refine funFrames_ne (C := H2.objs.size) (fun b o q e => (sb.2 b q).trans e) (fun e he q => ?_) hFf
          obtain ⟨_, o, ho, _⟩ := R₂.fn.mem (b := H2.objs.size) (List.mem_filterMap.mpr ⟨e, he, q⟩)
          rw [C0] at ho; cases ho
      refine ⟨e1, ⟨fun b e => ?_, fun b o e n d => ?_⟩, ?_⟩
      · cases q : s.heap.get? b with
        | none => rfl
        | some o =>
          have q2 : s₂.heap.get? b ≠ none := fun z => by rw [X₂.none b z] at q; cases q
          obtain ⟨o2, h2⟩ := Option.ne_none_iff_exists'.mp q2
          by_cases z : b = c.g.D
          · subst z
            obtain ⟨o', e'⟩ := orf.has
            rw [e] at e'; cases e'
          · obtain ⟨sl, e'⟩ := (kk b o2 h2 (hne b o q) z).sl
            rw [e] at e'; cases e'
      · exact (X₂.keep b o e n d).trans fun o' e' => kk b o' e' (hne b o e) d
      · have hac' : h'.get? s₂.heap.objs.size = some o := (sb.2 _ hDC).trans ha
        have hl := hav.length
        refine .list hac' hac had ltD.1 (by rw [hl]; simp) fun j v pv a b => ?_
        have hav' := hav.seqK skf
        clear hl hav If
        rw [← Array.getElem?_toList] at b
        generalize items.toList = il at b hav'
        induction hav' generalizing j with
        | nil => cases a
        | cons hv _ ih =>
          cases j with
          | zero => cases a; cases b; exact hv
          | succ j => exact ih j (by simpa using a) (by simpa using b)
    · exact W.keep c.own s₂.heap.objs.size 0 s₂.heap h₁ (fresh _ (Nat.le_refl _)) W.init R₂.own fun b o e _ _ _ => .of (old b o e)
  rw [hc'] at loop
  refine codeAny_compStart_list loop (W.self _ ?_ _ _ loop)
  exact W.keep c.own s₂.heap.objs.size 0 s₂.heap h₁ (fresh _ (Nat.le_refl _)) W.init R₂.own fun b o e _ _ _ => .of (old b o e)

theorem clos_cl {c : Cx} {s₂ : Shared} (O : c.Ok F) {σ' : St} (R : Rel c σ' s₂) {scope : Scope} {fr : Option (Str × V)} (h : ClosOk scope F.sc fr) (hfr : ∀ y v, fr = some (y, v) → σ'.loc.lookup y = some v) :
    ∃ cl, closureFor scope c.env = pure cl ∧ ClIs c fr cl := by
  cases fr with
  | none => exact ⟨[], h _, rfl⟩
  | some p =>
    obtain ⟨y, v⟩ := p
    obtain ⟨m, hm, hl⟩ := R.loc
    have L := hl y v (hfr y v rfl)
    have h2 : c.env.kindOf y = some .cell := by unfold Env.kindOf; rw [O.sc]; exact h.2.1
    unfold LocAt at L
    rw [h2] at L
    obtain ⟨a, pv, b, _, _⟩ := L
    exact ⟨[(y, a)], h.1 _ a b, a, b, rfl⟩

/-- a dict that is nobody's changes -/
theorem Rel.drop {c : Cx} (O : c.Ok F) {s : Shared} (R : Rel c σ s) {h₀ h' : Heap} (B : c.g.base.StaysIn h₀) (X : Ext c h₀ s.heap) {C : Addr} {oC : Obj} (hC : s.heap.get? C = some oC) (hd : isDC oC.data = true) (hdd : ∀ v, oC.data ≠ .cell v) (h0 : h₀.get? C = none) (hD : C ≠ c.g.D) (ho : C ∉ c.own) (hfr : ∀ e ∈ c.stk, e.frame ≠ some C)
    (sb : Heap.SameBut C s.heap h') : Rel c σ { s with heap := h' } ∧ Ext c h₀ h' := by
  have k : ∀ b o, s.heap.get? b = some o → b ≠ C → h'.get? b = some o := fun b o e q => (sb.2 b q).trans e
  have nseq : ∀ b o items n, s.heap.get? b = some o → o.data = .seq items n → b ≠ C := fun b o items n e q z => by
    subst z; rw [hC] at e; cases e; rw [q] at hd; cases hd
  have sk : SeqK c.g s.heap h' := fun b o items n e q _ => ⟨o.slots, k b o e (nseq b o items n e q)⟩
  have ck : ∀ a v, s.heap.IsCell a v → h'.IsCell a v := fun a v ⟨o, e, q⟩ => ⟨o, k a o e fun z => by subst z; rw [hC] at e; cases e; exact hdd _ q, q⟩
  obtain ⟨m, ⟨oL, es, ep, hL, hr⟩, hl⟩ := R.loc
  have hLC : c.env.locals ≠ C := fun q => ho (q ▸ O.ownL)
  refine ⟨⟨fun b o e => k b o (R.base b o e) fun q => ?_, funFrames_ne (C := C) (fun b o q e => k b o e q) hfr R.fn, ⟨m, ⟨oL, es, ep, k _ _ hL hLC, hr⟩, fun y v e => ?_⟩, fun b hb => ?_, R.ob.keep sk (fun o e hp => ⟨o.slots, k _ o e fun q => ?_⟩) (fun o e => ⟨o.slots, k _ o e (Ne.symm hD)⟩), R.gens, R.os⟩, ⟨fun b e => ?_, fun b o e n d => ?_⟩⟩
  · subst q; rw [B _ _ e] at h0; cases h0
  · have := hl y v e
    unfold LocAt at this ⊢
    split at this
    · obtain ⟨pv, a, b⟩ := this; exact ⟨pv, a, b.seqK sk⟩
    · obtain ⟨a, pv, b, d, e⟩ := this; exact ⟨a, pv, b, ck _ _ d, e.seqK sk⟩
    · obtain ⟨a, pv, b, d, e⟩ := this; exact ⟨a, pv, b, ck _ _ d, e.seqK sk⟩
    · exact this.elim
  · obtain ⟨o, e, z⟩ := R.own b hb
    exact ⟨o, k b o e fun q => ho (q ▸ hb), z⟩
  · rw [q, hC] at e; cases e; rw [hp] at hd; cases hd
  · by_cases q : b = C
    · subst q; exact h0
    · exact X.none b ((sb.2 b q).symm.trans e)
  · refine (X.keep b o e n d).trans fun o' e' => .of (k b o' e' fun q => ?_)
    subst q; rw [e] at h0; cases h0

/-- a list comprehension as a value -/
theorem HE_comp {elt iter : Expr} {x : Str} {px pos : Pos} {ifs : List Expr} {scope : Scope} {Q : V → St → Prop} (fr : Option (Str × V))
    (hx : scope.names.lookup x = some .local) (hclos : ClosOk scope F.sc fr) (hfl : (flOf fr).all (fun y => plainV y.2 && !(y.1 == x)) = true) (hfr0 : ∀ y v, fr = some (y, v) → σ.loc.lookup y = some v)
    (h : HI F iter σ (fun n item σ' => σ'.loc = σ.loc ∧ (∀ i, i < n → plainV (item i) = true) ∧ ∃ I : Nat → List V → List (Str × V) → Prop, I 0 [] σ'.ob ∧
      (∀ i out ob, i < n → I i out ob → HTs (FiC F scope) ifs ⟨(x, item i) :: flOf fr, ob⟩ (fun b σ' => if b then HE (FiC F scope) elt σ' (fun v σ'' => σ''.loc = (x, item i) :: flOf fr ∧ atom v = true ∧ I (i + 1) (out ++ [v]) σ''.ob) else σ'.loc = (x, item i) :: flOf fr ∧ I (i + 1) out σ'.ob)) ∧
      ∀ out ob, I n out ob → Q (.list out) { σ' with ob := ob }))
    (hcell : ∀ y ∈ scope.names, y.2 ≠ .cell := by decide +kernel) (hkind : scope.kind = .function := by rfl) (hnames : ∀ y ∈ scope.names, y.2 = .local → scope.names.lookup y.1 = some .local := by decide +kernel)
    (hs : ∀ env x, foldedSetIterable iter env x = pure x := by intro _ _; rfl) : HE F (.ListComp elt [⟨.Name x px, iter, ifs, 0⟩] scope pos) σ Q := fun c O s R => by
  rw [eval_ListComp]
  obtain ⟨cl, hcl, hcl'⟩ := clos_cl O R hclos hfr0
  refine wpAny_comprehension_free (use := none) rfl (hs c.env) hcl hkind hnames (wpAny_mono (h c O s R) (fun xv s₁ h₁ => wpAny_mono h₁ (fun it s₂ zz => ?_) fun _ _ e => e.elim) fun _ _ e => e.elim)
  obtain ⟨a, n, item, S, σ', e, R₂, X₂, a0, _, W, hsz, el, hip, I, i0, step, fin⟩ := zz
  subst e
  refine wpAny_mono (comp_run (RR := fun acc C => compPost (model pw c.g.w) c.A (fun _ _ => False) none _ acc C) O fr hcell hkind hx hclos hfl (fun y v e => el ▸ hfr0 y v e) R.base R₂ X₂ a0 W hsz hip I i0 step hcl' fun D C s' out ob' hm _ _ _ k hI => ?_) (fun _ _ z => z) fun _ _ z => z
  obtain ⟨m, hm⟩ := hm
  refine ⟨m, hm, fun h' sb => ?_⟩
  obtain ⟨k1, k2, k3⟩ := k h' sb
  exact ⟨.list out, _, k1, k2, k3, fin out ob' hI⟩

/-- a list comprehension assigned to a name -/
theorem HS_comp {elt iter : Expr} {x y : Str} {px py pos spos : Pos} {ifs : List Expr} {scope : Scope} {Q : Fl → St → Prop} (fr : Option (Str × V)) (hy : F.sc.names.lookup y = some .local)
    (hx : scope.names.lookup x = some .local) (hclos : ClosOk scope F.sc fr) (hfl : (flOf fr).all (fun y => plainV y.2 && !(y.1 == x)) = true) (hfr0 : ∀ y v, fr = some (y, v) → σ.loc.lookup y = some v)
    (h : HI F iter σ (fun n item σ' => σ'.loc = σ.loc ∧ (∀ i, i < n → plainV (item i) = true) ∧ ∃ I : Nat → List V → List (Str × V) → Prop, I 0 [] σ'.ob ∧
      (∀ i out ob, i < n → I i out ob → HTs (FiC F scope) ifs ⟨(x, item i) :: flOf fr, ob⟩ (fun b σ' => if b then HE (FiC F scope) elt σ' (fun v σ'' => σ''.loc = (x, item i) :: flOf fr ∧ atom v = true ∧ I (i + 1) (out ++ [v]) σ''.ob) else σ'.loc = (x, item i) :: flOf fr ∧ I (i + 1) out σ'.ob)) ∧
      ∀ out ob, I n out ob → Q .next { σ' with ob := ob, loc := setL y (.list out) σ'.loc }))
    (hsw : ∀ c : Cx, c.Ok F → swapsWith (.ListComp elt [⟨.Name x px, iter, ifs, 0⟩] scope pos) (some (.Name y py)) spos.line c.env = pure true)
    (hcell : ∀ y ∈ scope.names, y.2 ≠ .cell := by decide +kernel) (hkind : scope.kind = .function := by rfl) (hnames : ∀ y ∈ scope.names, y.2 = .local → scope.names.lookup y.1 = some .local := by decide +kernel)
    (hs : ∀ env x, foldedSetIterable iter env x = pure x := by intro _ _; rfl) : HS F (.Assign [.Name y py] (.ListComp elt [⟨.Name x px, iter, ifs, 0⟩] scope pos) spos) σ Q := fun c O s R => by
  rw [exec_Assign_Name_used _ _ _ _ (hsw c O)]
  refine wpAny_bind (wpAny_standAt (wpAny_bind ?_))
  show wpAny _ _ (do let _ ← comprehension (.ListComp elt [⟨.Name x px, iter, ifs, 0⟩] scope pos) scope c.env _ (newList []) false (eval iter c.env) (some (assign (.Name y py) c.env))) _ _ s
  obtain ⟨cl, hcl, hcl'⟩ := clos_cl O R hclos hfr0
  refine wpAny_bind (wpAny_mono (wpAny_comprehension_free (use := some (assign (.Name y py) c.env)) (Q := fun _ s' => QS c s.heap Q .next s') rfl (hs c.env) hcl hkind hnames (wpAny_mono (h c O s R) (fun xv s₁ h₁ => wpAny_mono h₁ (fun it s₂ zz => ?_) fun _ _ e => e.elim) fun _ _ e => e.elim)) (fun _ s' hq => wpAny_pure (wpAny_pure hq)) fun _ _ e => e)
  obtain ⟨a, n, item, S, σ', e, R₂, X₂, a0, _, W, hsz, el, hip, I, i0, step, fin⟩ := zz
  subst e
  refine wpAny_mono (comp_run (RR := fun acc C => compPost (model pw c.g.w) c.A (ES c s.heap Q) (some (assign (.Name y py) c.env)) (fun _ s' => QS c s.heap Q .next s') acc C) O fr hcell hkind hx hclos hfl (fun y v e => el ▸ hfr0 y v e) R.base R₂ X₂ a0 W hsz hip I i0 step hcl' fun D C s' out ob' hm nCo nCD C0 k hI => ?_) (fun _ _ z => wpAny_mono z (fun _ _ z => z) fun _ _ z => z.elim) fun _ _ z => z.elim
  show wpAny _ _ (assign (.Name y py) c.env (.ref D)) _ _ s'
  obtain ⟨m, hm⟩ := hm
  obtain ⟨k1, k2, k3⟩ := k s'.heap (.refl _ _)
  obtain ⟨oC, hC, dC⟩ := dc_ns hm
  have CL : C ≠ c.env.locals := fun q => nCo (q ▸ O.ownL)
  refine wpAny_assign_Name (store_local O k1 hy k3 fun s'' R'' X'' => ?_)
  obtain ⟨slC, hC'⟩ := (X''.keep C oC hC nCo nCD).sl
  refine ⟨m, ?_, fun h' sb => ?_⟩
  · obtain ⟨o, es, ep, ho, hd, r⟩ := hm
    rw [hC] at ho; cases ho
    exact ⟨_, es, ep, hC', hd, r⟩
  · have hdc : ∀ v, oC.data ≠ .cell v := fun v q => by
      obtain ⟨o, es, ep, ho, hd, r⟩ := hm
      rw [hC] at ho; cases ho; rw [hd] at q; cases q
    have M := R''.drop O R.base (k2.trans X'') hC' dC hdc (X₂.none _ C0) nCD nCo (fun e he q => ?_) sb
    · exact ⟨.next, _, M.1, M.2, trivial, fin out ob' hI⟩
    · obtain ⟨_, o, ho, _⟩ := R₂.fn.mem (b := C) (List.mem_filterMap.mpr ⟨e, he, q⟩)
      rw [C0] at ho; cases ho
end
end Mine

end

-- W15
section
namespace Mine

theorem fnIs_of {P : Params} {fa : Addr} {st : Stmt} {ns : List Str}
    (h : (fnAt (KF P) fa).map (fun fd => (fd.body, fd.scope, fd.globals, fd.closure, fd.builtins, fd.params, fd.defaults)) = some (.stmts (fB st), fS st, mainGlobals, [], builtinsNs, fA st, .none))
    (hc : (fnAt (KF P) fa).any (fun fd => codeIn (KF P) fd.code fd.qualname) = true)
    (hb : ∀ fd : FuncData, fd.params = fA st → fd.defaults = .none → ∀ vs : List Value, vs.length = ns.length → bindArgs fd ⟨vs, []⟩ = pure (ns.zip vs)) : FnIs P fa ns (fB st) (fS st) := by
  cases e : fnAt (KF P) fa with
  | none => rw [e] at h; cases h
  | some fd =>
    rw [e] at h hc
    simp only [Option.map_some, Option.some.injEq, Prod.mk.injEq] at h
    obtain ⟨h1, h2, h3, h4, h5, h6, h7⟩ := h
    exact ⟨fd, e, ⟨h1, h2, h3, h4, h5⟩, hb fd h6 h7, hc⟩
noncomputable def par (as : List Arg) : Arguments := ⟨[], as, none, [], [], none, []⟩
theorem bind0 {fd : FuncData} {p0 : Pos} (hp : fd.params = par [⟨"self", none, p0⟩]) (hd : fd.defaults = .none) (vs : List Value) (hl : vs.length = 1) : bindArgs fd ⟨vs, []⟩ = pure ((["self"] : List Str).zip vs) := match vs, hl with
  | [_], _ => by unfold bindArgs; rw [hp, hd]; rfl
theorem bind1 {fd : FuncData} {p0 p1 : Pos} (hp : fd.params = par [⟨"self", none, p0⟩, ⟨"value", none, p1⟩]) (hd : fd.defaults = .none) (vs : List Value) (hl : vs.length = 2) : bindArgs fd ⟨vs, []⟩ = pure ((["self", "value"] : List Str).zip vs) := match vs, hl with
  | [_, _], _ => by unfold bindArgs; rw [hp, hd]; rfl
theorem bind2 {fd : FuncData} {p0 p1 : Pos} (hp : fd.params = par [⟨"self", none, p0⟩, ⟨"s", none, p1⟩]) (hd : fd.defaults = .none) (vs : List Value) (hl : vs.length = 2) : bindArgs fd ⟨vs, []⟩ = pure ((["self", "s"] : List Str).zip vs) := match vs, hl with
  | [_, _], _ => by unfold bindArgs; rw [hp, hd]; rfl
theorem bind3 {fd : FuncData} {p0 p1 : Pos} (hp : fd.params = par [⟨"self", none, p0⟩, ⟨"v", none, p1⟩]) (hd : fd.defaults = .none) (vs : List Value) (hl : vs.length = 2) : bindArgs fd ⟨vs, []⟩ = pure ((["self", "v"] : List Str).zip vs) := match vs, hl with
  | [_, _], _ => by unfold bindArgs; rw [hp, hd]; rfl
theorem bind4 {fd : FuncData} {p0 p1 p2 p3 : Pos} (hp : fd.params = par [⟨"self", none, p0⟩, ⟨"c_bra", none, p1⟩, ⟨"c_ket", none, p2⟩, ⟨"s", none, p3⟩]) (hd : fd.defaults = .none) (vs : List Value) (hl : vs.length = 4) : bindArgs fd ⟨vs, []⟩ = pure ((["self", "c_bra", "c_ket", "s"] : List Str).zip vs) := match vs, hl with
  | [_, _, _, _], _ => by unfold bindArgs; rw [hp, hd]; rfl
theorem bind5 {fd : FuncData} {p0 p1 : Pos} (hp : fd.params = par [⟨"self", none, p0⟩, ⟨"word", none, p1⟩]) (hd : fd.defaults = .none) (vs : List Value) (hl : vs.length = 2) : bindArgs fd ⟨vs, []⟩ = pure ((["self", "word"] : List Str).zip vs) := match vs, hl with
  | [_, _], _ => by unfold bindArgs; rw [hp, hd]; rfl
theorem bind6 {fd : FuncData} {p0 p1 : Pos} (hp : fd.params = par [⟨"self", none, p0⟩, ⟨"words", none, p1⟩]) (hd : fd.defaults = .none) (vs : List Value) (hl : vs.length = 2) : bindArgs fd ⟨vs, []⟩ = pure ((["self", "words"] : List Str).zip vs) := match vs, hl with
  | [_, _], _ => by unfold bindArgs; rw [hp, hd]; rfl
theorem bind7 {fd : FuncData} (hp : fd.params = par []) (hd : fd.defaults = .none) (vs : List Value) (hl : vs.length = 0) : bindArgs fd ⟨vs, []⟩ = pure (([] : List Str).zip vs) := match vs, hl with
  | [], _ => by unfold bindArgs; rw [hp, hd]; rfl
theorem bind8 {fd : FuncData} {p0 p1 : Pos} (hp : fd.params = par [⟨"tail", none, p0⟩, ⟨"ends", none, p1⟩]) (hd : fd.defaults = .none) (vs : List Value) (hl : vs.length = 2) : bindArgs fd ⟨vs, []⟩ = pure ((["tail", "ends"] : List Str).zip vs) := match vs, hl with
  | [_, _], _ => by unfold bindArgs; rw [hp, hd]; rfl
theorem bind9 {fd : FuncData} {p0 p1 : Pos} (hp : fd.params = par [⟨"tail", none, p0⟩, ⟨"kind", none, p1⟩]) (hd : fd.defaults = .none) (vs : List Value) (hl : vs.length = 2) : bindArgs fd ⟨vs, []⟩ = pure ((["tail", "kind"] : List Str).zip vs) := match vs, hl with
  | [_, _], _ => by unfold bindArgs; rw [hp, hd]; rfl
theorem bind10 {fd : FuncData} {p0 : Pos} (hp : fd.params = par [⟨"tail", none, p0⟩]) (hd : fd.defaults = .none) (vs : List Value) (hl : vs.length = 1) : bindArgs fd ⟨vs, []⟩ = pure ((["tail"] : List Str).zip vs) := match vs, hl with
  | [_], _ => by unfold bindArgs; rw [hp, hd]; rfl
theorem bind11 {fd : FuncData} {p0 : Pos} (hp : fd.params = par [⟨"word", none, p0⟩]) (hd : fd.defaults = .none) (vs : List Value) (hl : vs.length = 1) : bindArgs fd ⟨vs, []⟩ = pure ((["word"] : List Str).zip vs) := match vs, hl with
  | [_], _ => by unfold bindArgs; rw [hp, hd]; rfl
theorem bind12 {fd : FuncData} {p0 : Pos} (hp : fd.params = par [⟨"script", none, p0⟩]) (hd : fd.defaults = .none) (vs : List Value) (hl : vs.length = 1) : bindArgs fd ⟨vs, []⟩ = pure ((["script"] : List Str).zip vs) := match vs, hl with
  | [_], _ => by unfold bindArgs; rw [hp, hd]; rfl
theorem fn35 (P : Params) : FnIs P 35 ["self"] (fB (cS 2 0)) (fS (cS 2 0)) := fnIs_of (by kernel_rfl) (by kernel_rfl) fun _ hp hd => bind0 hp hd
theorem fn42 (P : Params) : FnIs P 42 ["self", "value"] (fB (cS 2 1)) (fS (cS 2 1)) := fnIs_of (by kernel_rfl) (by kernel_rfl) fun _ hp hd => bind1 hp hd
theorem fn49 (P : Params) : FnIs P 49 ["self"] (fB (cS 2 2)) (fS (cS 2 2)) := fnIs_of (by kernel_rfl) (by kernel_rfl) fun _ hp hd => bind0 hp hd
theorem fn70 (P : Params) : FnIs P 70 ["self", "s"] (fB (cS 2 5)) (fS (cS 2 5)) := fnIs_of (by kernel_rfl) (by kernel_rfl) fun _ hp hd => bind2 hp hd
theorem fn98 (P : Params) : FnIs P 98 ["self", "s"] (fB (cS 2 9)) (fS (cS 2 9)) := fnIs_of (by kernel_rfl) (by kernel_rfl) fun _ hp hd => bind2 hp hd
theorem fn140 (P : Params) : FnIs P 140 ["self", "v"] (fB (cS 2 15)) (fS (cS 2 15)) := fnIs_of (by kernel_rfl) (by kernel_rfl) fun _ hp hd => bind3 hp hd
theorem fn147 (P : Params) : FnIs P 147 ["self", "c_bra", "c_ket", "s"] (fB (cS 2 16)) (fS (cS 2 16)) := fnIs_of (by kernel_rfl) (by kernel_rfl) fun _ hp hd => bind4 hp hd
theorem fn154 (P : Params) : FnIs P 154 ["self", "s"] (fB (cS 2 17)) (fS (cS 2 17)) := fnIs_of (by kernel_rfl) (by kernel_rfl) fun _ hp hd => bind2 hp hd
theorem fn161 (P : Params) : FnIs P 161 ["self"] (fB (cS 2 18)) (fS (cS 2 18)) := fnIs_of (by kernel_rfl) (by kernel_rfl) fun _ hp hd => bind0 hp hd
theorem fn189 (P : Params) : FnIs P 189 ["self", "word"] (fB (cS 2 22)) (fS (cS 2 22)) := fnIs_of (by kernel_rfl) (by kernel_rfl) fun _ hp hd => bind5 hp hd
theorem fn194 (P : Params) : FnIs P 194 ["self", "words"] (fB (cS 2 23)) (fS (cS 2 23)) := fnIs_of (by kernel_rfl) (by kernel_rfl) fun _ hp hd => bind6 hp hd
theorem fn237 (P : Params) : FnIs P 237 ["self"] (fB (cS 6 3)) (fS (cS 6 3)) := fnIs_of (by kernel_rfl) (by kernel_rfl) fun _ hp hd => bind0 hp hd
theorem fn244 (P : Params) : FnIs P 244 ["self"] (fB (cS 6 4)) (fS (cS 6 4)) := fnIs_of (by kernel_rfl) (by kernel_rfl) fun _ hp hd => bind0 hp hd
theorem fn251 (P : Params) : FnIs P 251 ["self"] (fB (cS 6 5)) (fS (cS 6 5)) := fnIs_of (by kernel_rfl) (by kernel_rfl) fun _ hp hd => bind0 hp hd
theorem fn258 (P : Params) : FnIs P 258 ["self"] (fB (cS 6 6)) (fS (cS 6 6)) := fnIs_of (by kernel_rfl) (by kernel_rfl) fun _ hp hd => bind0 hp hd
theorem fn265 (P : Params) : FnIs P 265 ["self"] (fB (cS 6 7)) (fS (cS 6 7)) := fnIs_of (by kernel_rfl) (by kernel_rfl) fun _ hp hd => bind0 hp hd
theorem fn272 (P : Params) : FnIs P 272 ["self"] (fB (cS 6 8)) (fS (cS 6 8)) := fnIs_of (by kernel_rfl) (by kernel_rfl) fun _ hp hd => bind0 hp hd
theorem fn279 (P : Params) : FnIs P 279 ["self"] (fB (cS 6 9)) (fS (cS 6 9)) := fnIs_of (by kernel_rfl) (by kernel_rfl) fun _ hp hd => bind0 hp hd
theorem fn286 (P : Params) : FnIs P 286 ["self"] (fB (cS 6 10)) (fS (cS 6 10)) := fnIs_of (by kernel_rfl) (by kernel_rfl) fun _ hp hd => bind0 hp hd
theorem fn293 (P : Params) : FnIs P 293 ["self"] (fB (cS 6 11)) (fS (cS 6 11)) := fnIs_of (by kernel_rfl) (by kernel_rfl) fun _ hp hd => bind0 hp hd
theorem fn300 (P : Params) : FnIs P 300 ["self"] (fB (cS 6 12)) (fS (cS 6 12)) := fnIs_of (by kernel_rfl) (by kernel_rfl) fun _ hp hd => bind0 hp hd
theorem fn758 (P : Params) : FnIs P 758 [] (fB (tS 11)) (fS (tS 11)) := fnIs_of (by kernel_rfl) (by kernel_rfl) fun _ hp hd => bind7 hp hd
theorem fn790 (P : Params) : FnIs P 790 ["tail", "ends"] (fB (tS 21)) (fS (tS 21)) := fnIs_of (by kernel_rfl) (by kernel_rfl) fun _ hp hd => bind8 hp hd
theorem fn797 (P : Params) : FnIs P 797 ["tail", "kind"] (fB (tS 22)) (fS (tS 22)) := fnIs_of (by kernel_rfl) (by kernel_rfl) fun _ hp hd => bind9 hp hd
theorem fn804 (P : Params) : FnIs P 804 ["tail"] (fB (tS 23)) (fS (tS 23)) := fnIs_of (by kernel_rfl) (by kernel_rfl) fun _ hp hd => bind10 hp hd
theorem fn809 (P : Params) : FnIs P 809 ["word"] (fB (tS 24)) (fS (tS 24)) := fnIs_of (by kernel_rfl) (by kernel_rfl) fun _ hp hd => bind11 hp hd
theorem fn814 (P : Params) : FnIs P 814 ["script"] (fB (tS 25)) (fS (tS 25)) := fnIs_of (by kernel_rfl) (by kernel_rfl) fun _ hp hd => bind12 hp hd
end Mine

end

-- W16
section
namespace Mine

/-! class attributes -/
theorem reads710 (P : Params) : (typeIn (KF P) (.ref 710) == some (.type "type") && readsIn (KF P) 710 (.type "type")) = true := by kernel_rfl

section
variable {F : Fi} {σ : St}
theorem HE_cattr {name : Str} {p pos : Pos} {pv : Value} {v : V} {Q : V → St → Prop} (hx : F.sc.names.lookup ("RussianStemmer" : Str) = some .globalImplicit) (e : ∀ P, findCls (KF P) (.ref 710) (.type "type") name = some (.val pv))
    (hv : ∀ g : Gx, g.Ok → VR g g.base v pv) (h : Q v σ) : HE F (.Attribute (.Name "RussianStemmer" p) name pos) σ Q := fun c O s R => by
  refine Attribute_any_ (name_ref O R (v := .ref 710) hx (by kernel_rfl) ?_ (by decide)) rfl
  have hvr := (hv c.g O.g).seqK (seqK_base (F := F) R)
  exact cls_value (R.K O) (Bool.and_eq_true_iff.mp (reads710 _)).2 (e _) (handed hvr) (endE O R (.refl _ _) hvr h)
end

/-! tables -/
noncomputable def strIn (n : Str) (od : Obj) : Option Str := match lookIn n od with
  | some (some (.str s _)) => some s
  | _ => none
noncomputable def intIn (n : Str) (od : Obj) : Option Int := match lookIn n od with
  | some (some (.int s _)) => some s
  | _ => none
theorem strIn_of {n s : Str} {od : Obj} (e : strIn n od = some s) : ∃ t, lookIn n od = some (some (.str s t)) := by
  unfold strIn at e
  split at e
  · rename_i h; cases e; exact ⟨_, h⟩
  · cases e
theorem intIn_of {n : Str} {s : Int} {od : Obj} (e : intIn n od = some s) : ∃ t, lookIn n od = some (some (.int s t)) := by
  unfold intIn at e
  split at e
  · rename_i h; cases e; exact ⟨_, h⟩
  · cases e
noncomputable def isPl : Data → Bool
  | .plain => true
  | _ => false
theorem isPl_eq {d : Data} (h : isPl d = true) : d = .plain := by cases d <;> first | rfl | cases h
noncomputable def amOf (K : Frag) (x : Addr) : Option (Str × Int × Int) := (K.lookup x).bind fun o => if (o.cls == .ref 218 && isPl o.data) = true then o.dict.bind fun d => (K.lookup d).bind fun od =>
  (strIn "s" od).bind fun s => (intIn "substring_i" od).bind fun i => (intIn "result" od).map fun r => (s, i, r) else none
theorem amAt_of {K : Frag} {h : Heap} (X : K.In h) {x : Addr} {s : Str} {i r : Int} (e : amOf K x = some (s, i, r)) : AmAt h x s i r := by
  obtain ⟨⟨oc, dd, dat, sl⟩, hx, e⟩ := Option.bind_eq_some_iff.mp e
  by_cases q : ((oc == Value.ref 218) && isPl dat) = true
  · rw [if_pos q] at e
    rw [Bool.and_eq_true] at q
    obtain rfl := beq_iff_eq.mp q.1
    obtain rfl := isPl_eq q.2
    obtain ⟨d, hd0, e1⟩ := Option.bind_eq_some_iff.mp e
    clear e
    have hd0 : dd = some d := hd0
    subst hd0
    obtain ⟨od, hd, e2⟩ := Option.bind_eq_some_iff.mp e1
    obtain ⟨s', h1, e3⟩ := Option.bind_eq_some_iff.mp e2
    obtain ⟨i', h2, e4⟩ := Option.bind_eq_some_iff.mp e3
    obtain ⟨r', h3, e5⟩ := Option.map_eq_some_iff.mp e4
    cases e5
    obtain ⟨t1, h1⟩ := strIn_of h1
    obtain ⟨t2, h2⟩ := intIn_of h2
    obtain ⟨t3, h3⟩ := intIn_of h3
    exact ⟨_, od, t1, t2, t3, ⟨X _ _ hx, rfl, rfl, X _ _ hd⟩, h1, h2, h3⟩
  · rw [if_neg q] at e; cases e
noncomputable def amsOf (K : Frag) : List Value → Option (List (Str × Int × Int))
  | [] => some []
  | .ref x :: r => (amOf K x).bind fun a => (amsOf K r).map (a :: ·)
  | _ :: _ => none
noncomputable def amV (a : Str × Int × Int) : V := .am a.1 a.2.1 a.2.2
theorem ams_of {g : Gx} (O : g.Ok) {h : Heap} : ∀ {items : List Value} {l : List (Str × Int × Int)}, amsOf (KF g.w.params) items = some l → VRs g h (l.map amV) items
  | [], l, e => by cases e; exact .nil
  | .ref x :: r, l, e => by
    obtain ⟨a, h1, h2⟩ := Option.bind_eq_some_iff.mp e
    obtain ⟨l', h3, rfl⟩ := Option.map_eq_some_iff.mp h2
    obtain ⟨s, i, q⟩ := a
    exact .cons (.am (amAt_of O.K h1)) (ams_of O h3)
  | .none :: _, _, e => by cases e
  | .bool _ :: _, _, e => by cases e
  | .int .. :: _, _, e => by cases e
  | .float .. :: _, _, e => by cases e
  | .str .. :: _, _, e => by cases e
  | .bytes .. :: _, _, e => by cases e
  | .type _ :: _, _, e => by cases e
  | .builtin _ :: _, _, e => by cases e
  | .notImplemented :: _, _, e => by cases e
  | .ellipsis :: _, _, e => by cases e

theorem list_base {g : Gx} (O : g.Ok) {a : Addr} {items : List Value} {vs : List V} (e : listAt (KF g.w.params) a = some items) (hk : VRs g g.base vs items) : VR g g.base (.list vs) (.ref a) := by
  have hD := O.lD a items e
  unfold listAt at e
  split at e
  · rename_i d its n sl hx
    cases e
    refine .list (O.K _ _ hx) rfl rfl hD (by rw [hk.length]; simp) fun j v pv x y => ?_
    rw [← Array.getElem?_toList] at y
    clear hx
    generalize its.toList = il at y hk
    induction hk generalizing j with
    | nil => cases x
    | cons hv _ ih =>
      cases j with
      | zero => cases x; cases y; exact hv
      | succ j => exact ih j (by simpa using x) (by simpa using y)
  · cases e

/-- the rows of an Among table, read off the class body's own text -/
noncomputable def intE : Expr → Int
  | .Constant (.int i) _ _ => i
  | .UnaryOp .USub (.Constant (.int i) _ _) _ => -i
  | _ => 0
noncomputable def strE : Expr → Str
  | .Constant (.str s) _ _ => s
  | _ => Str.empty
noncomputable def amRow : Expr → Str × Int × Int
  | .Call _ [s, i, r] _ _ => (strE s, intE i, intE r)
  | _ => (Str.empty, 0, 0)
noncomputable def amRows : Stmt → List (Str × Int × Int)
  | .Assign _ (.List es _) _ => es.map amRow
  | _ => []
noncomputable def kinds : Stmt → List (List Str)
  | .Assign _ (.List es _) _ => es.map fun e => match e with
    | .List ss _ => ss.map strE
    | _ => []
  | _ => []
noncomputable def signs : Stmt → List Str
  | .Assign _ (.List es _) _ => es.map strE
  | _ => []

noncomputable def tabs : List (Addr × Stmt) := [(328, cS 6 13), (407, cS 6 14), (432, cS 6 15), (439, cS 6 16), (578, cS 6 17), (687, cS 6 18), (694, cS 6 19), (707, cS 6 20)]
theorem tab0 (P : Params) : (listAt (KF P) 328).bind (amsOf (KF P)) = some (amRows (cS 6 13)) := by kernel_rfl
theorem tab1 (P : Params) : (listAt (KF P) 407).bind (amsOf (KF P)) = some (amRows (cS 6 14)) := by kernel_rfl
theorem tab2 (P : Params) : (listAt (KF P) 432).bind (amsOf (KF P)) = some (amRows (cS 6 15)) := by kernel_rfl
theorem tab3 (P : Params) : (listAt (KF P) 439).bind (amsOf (KF P)) = some (amRows (cS 6 16)) := by kernel_rfl
theorem tab4 (P : Params) : (listAt (KF P) 578).bind (amsOf (KF P)) = some (amRows (cS 6 17)) := by kernel_rfl
theorem tab5 (P : Params) : (listAt (KF P) 687).bind (amsOf (KF P)) = some (amRows (cS 6 18)) := by kernel_rfl
theorem tab6 (P : Params) : (listAt (KF P) 694).bind (amsOf (KF P)) = some (amRows (cS 6 19)) := by kernel_rfl
theorem tab7 (P : Params) : (listAt (KF P) 707).bind (amsOf (KF P)) = some (amRows (cS 6 20)) := by kernel_rfl
theorem tab_vr {a : Addr} {l : List (Str × Int × Int)} (h : ∀ P, (listAt (KF P) a).bind (amsOf (KF P)) = some l) (g : Gx) (O : g.Ok) : VR g g.base (.list (l.map amV)) (.ref a) := by
  obtain ⟨items, h1, h2⟩ := Option.bind_eq_some_iff.mp (h g.w.params)
  exact list_base O h1 (ams_of O h2)

noncomputable def strsIn : List Value → Option (List Str)
  | [] => some []
  | .str s _ :: r => (strsIn r).map (s :: ·)
  | _ :: _ => none
theorem strsIn_vr {g : Gx} {h : Heap} : ∀ {items : List Value} {l : List Str}, strsIn items = some l → VRs g h (l.map .str) items
  | [], l, e => by cases e; exact .nil
  | .str s t :: r, l, e => by
    obtain ⟨l', h1, rfl⟩ := Option.map_eq_some_iff.mp e
    exact .cons (.str s t) (strsIn_vr h1)
  | .none :: _, _, e => by cases e
  | .bool _ :: _, _, e => by cases e
  | .int .. :: _, _, e => by cases e
  | .float .. :: _, _, e => by cases e
  | .ref _ :: _, _, e => by cases e
  | .bytes .. :: _, _, e => by cases e
  | .type _ :: _, _, e => by cases e
  | .builtin _ :: _, _, e => by cases e
  | .notImplemented :: _, _, e => by cases e
  | .ellipsis :: _, _, e => by cases e
noncomputable def kindIn (K : Frag) : List Value → Option (List (List Str))
  | [] => some []
  | .ref a :: r => ((listAt K a).bind strsIn).bind fun l => (kindIn K r).map (l :: ·)
  | _ :: _ => none
noncomputable def strsV (l : List Str) : V := .list (l.map .str)
noncomputable def kindV (l : List (List Str)) : V := .list (l.map strsV)
theorem kindIn_vr {g : Gx} (O : g.Ok) : ∀ {items : List Value} {l : List (List Str)}, kindIn (KF g.w.params) items = some l → VRs g g.base (l.map strsV) items
  | [], l, e => by cases e; exact .nil
  | .ref a :: r, l, e => by
    obtain ⟨x, h1, h2⟩ := Option.bind_eq_some_iff.mp e
    obtain ⟨l', h3, rfl⟩ := Option.map_eq_some_iff.mp h2
    obtain ⟨its, h4, h5⟩ := Option.bind_eq_some_iff.mp h1
    exact .cons (list_base O h4 (strsIn_vr h5)) (kindIn_vr O h3)
  | .none :: _, _, e => by cases e
  | .bool _ :: _, _, e => by cases e
  | .int .. :: _, _, e => by cases e
  | .float .. :: _, _, e => by cases e
  | .str .. :: _, _, e => by cases e
  | .bytes .. :: _, _, e => by cases e
  | .type _ :: _, _, e => by cases e
  | .builtin _ :: _, _, e => by cases e
  | .notImplemented :: _, _, e => by cases e
  | .ellipsis :: _, _, e => by cases e
theorem kind_vr {a : Addr} {l : List (List Str)} (h : ∀ P, (listAt (KF P) a).bind (kindIn (KF P)) = some l) (g : Gx) (O : g.Ok) : VR g g.base (kindV l) (.ref a) := by
  obtain ⟨items, h1, h2⟩ := Option.bind_eq_some_iff.mp (h g.w.params)
  exact list_base O h1 (kindIn_vr O h2)
theorem strs_vr {a : Addr} {l : List Str} (h : ∀ P, (listAt (KF P) a).bind strsIn = some l) (g : Gx) (O : g.Ok) : VR g g.base (strsV l) (.ref a) := by
  obtain ⟨items, h1, h2⟩ := Option.bind_eq_some_iff.mp (h g.w.params)
  exact list_base O h1 (strsIn_vr h2)
theorem kd12 (P : Params) : (listAt (KF P) 759).bind strsIn = some (signs (tS 12)) := by kernel_rfl
theorem kd13 (P : Params) : (listAt (KF P) 762).bind (kindIn (KF P)) = some (kinds (tS 13)) := by kernel_rfl
theorem kd14 (P : Params) : (listAt (KF P) 765).bind (kindIn (KF P)) = some (kinds (tS 14)) := by kernel_rfl
theorem kd15 (P : Params) : (listAt (KF P) 768).bind (kindIn (KF P)) = some (kinds (tS 15)) := by kernel_rfl
theorem kd16 (P : Params) : (listAt (KF P) 771).bind (kindIn (KF P)) = some (kinds (tS 16)) := by kernel_rfl
theorem kd17 (P : Params) : (listAt (KF P) 774).bind (kindIn (KF P)) = some (kinds (tS 17)) := by kernel_rfl
theorem kd18 (P : Params) : (listAt (KF P) 777).bind (kindIn (KF P)) = some (kinds (tS 18)) := by kernel_rfl
theorem kd19 (P : Params) : (listAt (KF P) 780).bind (kindIn (KF P)) = some (kinds (tS 19)) := by kernel_rfl
theorem kd20 (P : Params) : (listAt (KF P) 783).bind (kindIn (KF P)) = some (kinds (tS 20)) := by kernel_rfl

/-! attributes of an Among -/
noncomputable def amF (name s0 : Str) (i r : Int) : Option V :=
  if name == "s" then some (.str s0) else if name == "substring_i" then some (.int i) else if name == "result" then some (.int r) else none
noncomputable def okAm (K : Frag) (n : Str) : Bool := plainGet K 218 n && hasDictIn K 218 && (match findIn K (.ref 218) n with | some a => noGet K a | none => false)
theorem okAms (P : Params) : ((["s", "substring_i", "result"] : List Str).all (okAm (KF P))) = true := by kernel_rfl

section
variable {F : Fi} {σ : St}
theorem HE_am {x name : Str} {p pos : Pos} {s0 : Str} {i r : Int} {v : V} {Q : V → St → Prop} (hx : σ.loc.lookup x = some (.am s0 i r)) (hl : isLoc F x = true) (hn : amF name s0 i r = some v) (h : Q v σ) : HE F (.Attribute (.Name x p) name pos) σ Q := fun c O s R => by
  refine Attribute_any_ (wpAny_mono (HE_name (Q := fun v σ' => v = .am s0 i r ∧ σ' = σ) hx hl ⟨rfl, rfl⟩ c O s R) (fun pv s' zz => ?_) fun _ _ z => z) rfl
  obtain ⟨v', σ', R', X', hv, e1, e2⟩ := zz
  subst e1 e2
  cases hv with
  | @am xa _ _ _ ha =>
  obtain ⟨ox, od, t1, t2, t3, I, l1, l2, l3⟩ := ha
  have I' : InstAt s'.heap xa ox 218 (some od) := by
    refine ⟨R'.base _ _ I.at_, I.cls, I.no, ?_⟩
    have := I.dict
    revert this
    cases ox.dict with
    | none => exact id
    | some d => exact fun e => R'.base _ _ e
  have fin : ∀ (nm : Str) (pv : Value), (["s", "substring_i", "result"] : List Str).contains nm = true → lookIn nm od = some (some pv) → VR c.g s'.heap v pv → wpAny (model pw c.g.w) c.A (getAttr (.ref xa) nm true) (fun pv s'' => ∃ v σ', Rel c σ' s'' ∧ Ext c s.heap s''.heap ∧ VR c.g s''.heap v pv ∧ Q v σ') (fun _ _ => False) s' := by
    intro nm pv hnm hlk hvr
    have := List.all_eq_true.mp (okAms c.g.w.params) nm (by simpa using hnm)
    unfold okAm at this
    simp only [Bool.and_eq_true] at this
    obtain ⟨⟨a, b⟩, d⟩ := this
    split at d
    · rename_i at' q
      exact get_value (R'.K O) I' (plainGet_of a).1 (findObj_own b q d hlk) (handed hvr) (moreE X' (endE O R' (.refl _ _) hvr h))
    · cases d
  unfold amF at hn
  split at hn
  · rename_i q; cases beq_iff_eq.mp q; cases hn; exact fin "s" _ (by decide +kernel) l1 (.str _ _)
  · split at hn
    · rename_i q; cases beq_iff_eq.mp q; cases hn; exact fin "substring_i" _ (by decide +kernel) l2 (.int _ _)
    · split at hn
      · rename_i q; cases beq_iff_eq.mp q; cases hn; exact fin "result" _ (by decide +kernel) l3 (.int _ _)
      · cases hn
end
end Mine

end

-- X1
section
namespace Mine

structure Sm where
  cur : Str
  c : Int
  l : Int
  lb : Int
  bra : Int
  ket : Int
  reg : Option (Int × Int)

noncomputable def regL : Option (Int × Int) → List (Str × V)
  | none => []
  | some (a, b) => [("I_pV", .int a), ("I_p2", .int b)]
noncomputable def Sm.ob (S : Sm) : List (Str × V) := ("current", .str S.cur) :: ("cursor", .int S.c) :: ("limit", .int S.l) :: ("limit_backward", .int S.lb) :: ("bra", .int S.bra) :: ("ket", .int S.ket) :: regL S.reg
theorem Sm.len (S : Sm) : S.ob.length ≤ 20 := by
  unfold Sm.ob regL
  cases S.reg <;> simp

section
variable {F : Fi} {loc : List (Str × V)} {S : Sm} {x : Str} {p p' pos : Pos} {value : Expr} {Q : Fl → St → Prop}

theorem HS_S {name : Str} {f : V → Sm} {ok : V → Prop} (hs0 : ∀ v, ok v → setL name v S.ob = (f v).ob ∧ atom v = true) (hk : F.k = .stem) (hx : loc.lookup x = some .self) (hl : isLoc F x = true) (hn : selfNames.contains name = true)
    (hs : ∀ env, swapsWith value (some (.Attribute (.Name x p) name p')) pos.line env = pure false)
    (h : HE F value ⟨loc, S.ob⟩ (fun v σ' => σ' = ⟨loc, S.ob⟩ ∧ ok v ∧ Q .next ⟨loc, (f v).ob⟩)) : HS F (.Assign [.Attribute (.Name x p) name p'] value pos) ⟨loc, S.ob⟩ Q := by
  refine HS_setself hk hl hn (HE_mono h fun v σ' ⟨e, ov, q⟩ => ?_) hs
  subst e
  obtain ⟨h1, h2⟩ := hs0 v ov
  exact ⟨hx, ⟨S.len, h2⟩, h1 ▸ q⟩
noncomputable def vInt : V → Int
  | .int i => i
  | _ => 0
noncomputable def vStr : V → Str
  | .str i => i
  | _ => Str.empty
theorem HS_cursor (hk : F.k = .stem) (hx : loc.lookup x = some .self) (hl : isLoc F x = true) (h : HE F value ⟨loc, S.ob⟩ (fun v σ' => σ' = ⟨loc, S.ob⟩ ∧ ∃ i, v = .int i ∧ Q .next ⟨loc, Sm.ob { S with c := i }⟩))
    (hs : ∀ env, swapsWith value (some (.Attribute (.Name x p) "cursor" p')) pos.line env = pure false := by intro; rfl) : HS F (.Assign [.Attribute (.Name x p) "cursor" p'] value pos) ⟨loc, S.ob⟩ Q :=
  HS_S (f := fun v => { S with c := vInt v }) (ok := fun v => ∃ i, v = .int i) (fun v ⟨i, e⟩ => by subst e; exact ⟨rfl, rfl⟩) hk hx hl (by decide +kernel) hs (HE_mono h fun v σ' ⟨a, i, e, q⟩ => by subst e; exact ⟨a, ⟨i, rfl⟩, q⟩)
theorem HS_limit (hk : F.k = .stem) (hx : loc.lookup x = some .self) (hl : isLoc F x = true) (h : HE F value ⟨loc, S.ob⟩ (fun v σ' => σ' = ⟨loc, S.ob⟩ ∧ ∃ i, v = .int i ∧ Q .next ⟨loc, Sm.ob { S with l := i }⟩))
    (hs : ∀ env, swapsWith value (some (.Attribute (.Name x p) "limit" p')) pos.line env = pure false := by intro; rfl) : HS F (.Assign [.Attribute (.Name x p) "limit" p'] value pos) ⟨loc, S.ob⟩ Q :=
  HS_S (f := fun v => { S with l := vInt v }) (ok := fun v => ∃ i, v = .int i) (fun v ⟨i, e⟩ => by subst e; exact ⟨rfl, rfl⟩) hk hx hl (by decide +kernel) hs (HE_mono h fun v σ' ⟨a, i, e, q⟩ => by subst e; exact ⟨a, ⟨i, rfl⟩, q⟩)
theorem HS_lb (hk : F.k = .stem) (hx : loc.lookup x = some .self) (hl : isLoc F x = true) (h : HE F value ⟨loc, S.ob⟩ (fun v σ' => σ' = ⟨loc, S.ob⟩ ∧ ∃ i, v = .int i ∧ Q .next ⟨loc, Sm.ob { S with lb := i }⟩))
    (hs : ∀ env, swapsWith value (some (.Attribute (.Name x p) "limit_backward" p')) pos.line env = pure false := by intro; rfl) : HS F (.Assign [.Attribute (.Name x p) "limit_backward" p'] value pos) ⟨loc, S.ob⟩ Q :=
  HS_S (f := fun v => { S with lb := vInt v }) (ok := fun v => ∃ i, v = .int i) (fun v ⟨i, e⟩ => by subst e; exact ⟨rfl, rfl⟩) hk hx hl (by decide +kernel) hs (HE_mono h fun v σ' ⟨a, i, e, q⟩ => by subst e; exact ⟨a, ⟨i, rfl⟩, q⟩)
theorem HS_bra (hk : F.k = .stem) (hx : loc.lookup x = some .self) (hl : isLoc F x = true) (h : HE F value ⟨loc, S.ob⟩ (fun v σ' => σ' = ⟨loc, S.ob⟩ ∧ ∃ i, v = .int i ∧ Q .next ⟨loc, Sm.ob { S with bra := i }⟩))
    (hs : ∀ env, swapsWith value (some (.Attribute (.Name x p) "bra" p')) pos.line env = pure false := by intro; rfl) : HS F (.Assign [.Attribute (.Name x p) "bra" p'] value pos) ⟨loc, S.ob⟩ Q :=
  HS_S (f := fun v => { S with bra := vInt v }) (ok := fun v => ∃ i, v = .int i) (fun v ⟨i, e⟩ => by subst e; exact ⟨rfl, rfl⟩) hk hx hl (by decide +kernel) hs (HE_mono h fun v σ' ⟨a, i, e, q⟩ => by subst e; exact ⟨a, ⟨i, rfl⟩, q⟩)
theorem HS_ket (hk : F.k = .stem) (hx : loc.lookup x = some .self) (hl : isLoc F x = true) (h : HE F value ⟨loc, S.ob⟩ (fun v σ' => σ' = ⟨loc, S.ob⟩ ∧ ∃ i, v = .int i ∧ Q .next ⟨loc, Sm.ob { S with ket := i }⟩))
    (hs : ∀ env, swapsWith value (some (.Attribute (.Name x p) "ket" p')) pos.line env = pure false := by intro; rfl) : HS F (.Assign [.Attribute (.Name x p) "ket" p'] value pos) ⟨loc, S.ob⟩ Q :=
  HS_S (f := fun v => { S with ket := vInt v }) (ok := fun v => ∃ i, v = .int i) (fun v ⟨i, e⟩ => by subst e; exact ⟨rfl, rfl⟩) hk hx hl (by decide +kernel) hs (HE_mono h fun v σ' ⟨a, i, e, q⟩ => by subst e; exact ⟨a, ⟨i, rfl⟩, q⟩)
theorem HS_current (hk : F.k = .stem) (hx : loc.lookup x = some .self) (hl : isLoc F x = true) (h : HE F value ⟨loc, S.ob⟩ (fun v σ' => σ' = ⟨loc, S.ob⟩ ∧ ∃ i, v = .str i ∧ Q .next ⟨loc, Sm.ob { S with cur := i }⟩))
    (hs : ∀ env, swapsWith value (some (.Attribute (.Name x p) "current" p')) pos.line env = pure false := by intro; rfl) : HS F (.Assign [.Attribute (.Name x p) "current" p'] value pos) ⟨loc, S.ob⟩ Q :=
  HS_S (f := fun v => { S with cur := vStr v }) (ok := fun v => ∃ i, v = .str i) (fun v ⟨i, e⟩ => by subst e; exact ⟨rfl, rfl⟩) hk hx hl (by decide +kernel) hs (HE_mono h fun v σ' ⟨a, i, e, q⟩ => by subst e; exact ⟨a, ⟨i, rfl⟩, q⟩)

theorem HS_augcursor {op : Operator} (hk : F.k = .stem) (hx : loc.lookup x = some .self) (hl : isLoc F x = true) (h : HE F value ⟨loc, S.ob⟩ (fun v σ' => σ' = ⟨loc, S.ob⟩ ∧ inpV op (.int S.c) v (fun u => ∃ i, u = .int i ∧ Q .next ⟨loc, Sm.ob { S with c := i }⟩))) :
    HS F (.AugAssign (.Attribute (.Name x p) "cursor" p') op value pos) ⟨loc, S.ob⟩ Q := by
  refine HS_augself (a := .int S.c) hk hx hl (by decide +kernel) rfl (HE_mono h fun v σ' ⟨e, q⟩ => ?_)
  subst e
  unfold inpV at q ⊢
  split at q
  · obtain ⟨i, e, q⟩ := q; cases e; exact ⟨S.len, q⟩
  · obtain ⟨i, e, q⟩ := q; cases e; exact ⟨S.len, q⟩
  · exact q
theorem HS_auglimit {op : Operator} (hk : F.k = .stem) (hx : loc.lookup x = some .self) (hl : isLoc F x = true) (h : HE F value ⟨loc, S.ob⟩ (fun v σ' => σ' = ⟨loc, S.ob⟩ ∧ inpV op (.int S.l) v (fun u => ∃ i, u = .int i ∧ Q .next ⟨loc, Sm.ob { S with l := i }⟩))) :
    HS F (.AugAssign (.Attribute (.Name x p) "limit" p') op value pos) ⟨loc, S.ob⟩ Q := by
  refine HS_augself (a := .int S.l) hk hx hl (by decide +kernel) rfl (HE_mono h fun v σ' ⟨e, q⟩ => ?_)
  subst e
  unfold inpV at q ⊢
  split at q
  · obtain ⟨i, e, q⟩ := q; cases e; exact ⟨S.len, q⟩
  · obtain ⟨i, e, q⟩ := q; cases e; exact ⟨S.len, q⟩
  · exact q
theorem HE_len_str {e : Expr} {σ : St} {P : V → St → Prop} (hx : F.sc.names.lookup ("len" : Str) = some .globalImplicit)
    (h : HE F e σ (fun v σ' => ∃ x, v = .str x ∧ x.length ≤ sizeLine ∧ P (.int x.length) σ'))
    (he : ∀ env, starEach [e] env = [(false, eval e env)] := by intro; rfl) : HE F (.Call (.Name "len" p) [e] [] pos) σ P :=
  HE_len hx (HE_mono h fun v σ' q => .inl q) he
theorem HE_len_list {e : Expr} {σ : St} {P : V → St → Prop} (hx : F.sc.names.lookup ("len" : Str) = some .globalImplicit)
    (h : HE F e σ (fun v σ' => ∃ l, v = .list l ∧ l.length ≤ sizeLine ∧ P (.int l.length) σ'))
    (he : ∀ env, starEach [e] env = [(false, eval e env)] := by intro; rfl) : HE F (.Call (.Name "len" p) [e] [] pos) σ P :=
  HE_len hx (HE_mono h fun v σ' q => .inr q) he
end
end Mine

end

-- X2
section
namespace Mine

theorem get_current_ {d : Nat} (hd : d < 600) (S : Sm) {Q : V → List (Str × V) → Prop} (h : Q (.str S.cur) S.ob) : HC d .stem 49 [.self] S.ob Q := by
  refine HC_body fn49 hd rfl (by rfl) ?_
  exact HB_cons (HS_ret (HE_self (v := .str S.cur) rfl rfl rfl rfl rfl h))

noncomputable def Sm.new (S : Sm) (w : Str) : Sm := ⟨w, 0, w.length, 0, 0, w.length, S.reg⟩
theorem set_current_ {d : Nat} (hd : d < 600) (S : Sm) (w : Str) (hw : w.length ≤ sizeLine) {Q : V → List (Str × V) → Prop} (h : Q .none (S.new w).ob) : HC d .stem 42 [.self, .str w] S.ob Q := by
  refine HC_body fn42 hd rfl (by rfl) ?_
  refine HB_cons (HS_current rfl rfl rfl (HE_name (v := .str w) rfl rfl ⟨rfl, _, rfl, ?_⟩))
  refine HB_cons (HS_cursor rfl rfl rfl (HE_int ⟨rfl, _, rfl, ?_⟩))
  refine HB_cons (HS_limit rfl rfl rfl (HE_len_str rfl (HE_self (v := .str w) rfl rfl rfl rfl rfl ⟨_, rfl, hw, rfl, _, rfl, ?_⟩)))
  refine HB_cons (HS_lb rfl rfl rfl (HE_int ⟨rfl, _, rfl, ?_⟩))
  refine HB_cons (HS_bra rfl rfl rfl (HE_self (v := .int 0) rfl rfl rfl rfl rfl ⟨rfl, _, rfl, ?_⟩))
  refine HB_cons (HS_ket rfl rfl rfl (HE_self (v := .int w.length) rfl rfl rfl rfl rfl ⟨rfl, _, rfl, ?_⟩))
  exact HB_nil h

noncomputable def Sm.rep (S : Sm) (a b : Int) (s : Str) : Sm :=
  { S with cur := Txt.slice S.cur (some 0) (some a) ++ s ++ Txt.slice S.cur (some b) none, l := S.l + (s.length - (b - a)),
           c := if S.c ≥ b then S.c + (s.length - (b - a)) else if S.c > a then a else S.c }

theorem replace_s_ {d : Nat} (hd : d < 600) (S : Sm) (a b : Int) (s : Str) (hw : S.cur.length ≤ 100000) (hs : s.length ≤ 100000) {Q : V → List (Str × V) → Prop} (h : Q (.int (s.length - (b - a))) (S.rep a b s).ob) : HC d .stem 147 [.self, .int a, .int b, .str s] S.ob Q := by
  have hz : sizeLine = 16777216 := sizeLine_eq
  refine HC_body fn147 hd rfl (by rfl) ?_
  refine HB_cons (HS_assign rfl (HE_bin (HE_len_str rfl (HE_name (v := .str s) rfl rfl ⟨_, rfl, by omega, HE_bin (HE_name (v := .int b) rfl rfl (HE_name (v := .int a) rfl rfl ?_))⟩))))
  refine HB_cons (HS_current rfl rfl rfl (HE_bin (HE_bin (HE_sl_ss (HE_self (v := .str S.cur) rfl rfl rfl rfl rfl (HE_int (HE_name (v := .int a) rfl rfl ⟨_, _, _, rfl, rfl, rfl, by omega, HE_name (v := .str s) rfl rfl ⟨?_, HE_sl_sn (HE_self (v := .str S.cur) rfl rfl rfl rfl rfl (HE_name (v := .int b) rfl rfl ⟨_, _, rfl, rfl, by omega, ?_, rfl, _, rfl, ?_⟩))⟩⟩)))))))
  · have := PyProof.Txt.length_slice_le S.cur (some 0) (some a)
    omega
  · have := PyProof.Txt.length_slice_le S.cur (some 0) (some a)
    have := PyProof.Txt.length_slice_le S.cur (some b) none
    have := PySem.Str.length_append (Txt.slice S.cur (some 0) (some a)) s
    omega
  refine HB_cons (HS_auglimit rfl rfl rfl (HE_name (v := .int (s.length - (b - a))) rfl rfl ⟨rfl, _, rfl, ?_⟩))
  refine HB_cons (HS_if (HT_cmp (HE_self (v := .int S.c) rfl rfl rfl rfl rfl (HE_name (v := .int b) rfl rfl ⟨_, rfl, ?_⟩))))
  by_cases h1 : b ≤ S.c
  · rw [decide_eq_true h1, if_pos rfl]
    refine HB_cons (HS_augcursor rfl rfl rfl (HE_name (v := .int (s.length - (b - a))) rfl rfl ⟨rfl, _, rfl, ?_⟩))
    refine HB_nil (HB_cons (HS_ret (HE_name (v := .int (s.length - (b - a))) rfl rfl ?_)))
    have : S.rep a b s = { S with cur := Txt.slice S.cur (some 0) (some a) ++ s ++ Txt.slice S.cur (some b) none, l := S.l + (s.length - (b - a)), c := S.c + (s.length - (b - a)) } := by
      unfold Sm.rep; rw [if_pos h1]
    rw [this] at h
    exact h
  · rw [decide_eq_false h1, if_neg (by decide)]
    refine HB_cons (HS_if (HT_cmp (HE_self (v := .int S.c) rfl rfl rfl rfl rfl (HE_name (v := .int a) rfl rfl ⟨_, rfl, ?_⟩))))
    by_cases h2 : a < S.c
    · rw [decide_eq_true h2, if_pos rfl]
      refine HB_cons (HS_cursor rfl rfl rfl (HE_name (v := .int a) rfl rfl ⟨rfl, _, rfl, ?_⟩))
      refine HB_nil (HB_nil (HB_cons (HS_ret (HE_name (v := .int (s.length - (b - a))) rfl rfl ?_))))
      have : S.rep a b s = { S with cur := Txt.slice S.cur (some 0) (some a) ++ s ++ Txt.slice S.cur (some b) none, l := S.l + (s.length - (b - a)), c := a } := by
        unfold Sm.rep; rw [if_neg h1, if_pos h2]
      rw [this] at h
      exact h
    · rw [decide_eq_false h2, if_neg (by decide)]
      refine HB_nil (HB_nil (HB_cons (HS_ret (HE_name (v := .int (s.length - (b - a))) rfl rfl ?_))))
      have : S.rep a b s = { S with cur := Txt.slice S.cur (some 0) (some a) ++ s ++ Txt.slice S.cur (some b) none, l := S.l + (s.length - (b - a)) } := by
        unfold Sm.rep; rw [if_neg h1, if_neg h2]
      rw [this] at h
      exact h

noncomputable def Sm.sl (S : Sm) (s : Str) : Sm := { S.rep S.bra S.ket s with ket := S.bra + s.length }

theorem slice_from_ {d : Nat} (hd : d < 500) (S : Sm) (s : Str) (hw : S.cur.length ≤ 100000) (hs : s.length ≤ 100000) (h0 : 0 ≤ S.bra) (h1 : S.bra ≤ S.ket) (h2 : S.ket ≤ S.l) (h3 : S.l ≤ S.cur.length)
    {Q : V → List (Str × V) → Prop} (h : Q .none (S.sl s).ob) : HC d .stem 154 [.self, .str s] S.ob Q := by
  have hz : sizeLine = 16777216 := sizeLine_eq
  refine HC_body fn154 (by omega) rfl (by rfl) ?_
  refine HB_cons (HS_assert (HT_cmp (HE_self (v := .int S.bra) rfl rfl rfl rfl rfl (HE_int ⟨_, rfl, decide_eq_true h0, ?_⟩))))
  refine HB_cons (HS_assert (HT_cmp (HE_self (v := .int S.bra) rfl rfl rfl rfl rfl (HE_self (v := .int S.ket) rfl rfl rfl rfl rfl ⟨_, rfl, decide_eq_true h1, ?_⟩))))
  refine HB_cons (HS_assert (HT_cmp (HE_self (v := .int S.ket) rfl rfl rfl rfl rfl (HE_self (v := .int S.l) rfl rfl rfl rfl rfl ⟨_, rfl, decide_eq_true h2, ?_⟩))))
  refine HB_cons (HS_assert (HT_cmp (HE_self (v := .int S.l) rfl rfl rfl rfl rfl (HE_len_str rfl (HE_self (v := .str S.cur) rfl rfl rfl rfl rfl ⟨_, rfl, by omega, _, rfl, decide_eq_true h3, ?_⟩)))))
  refine HB_cons (HS_expr (HE_meth (fa := 147) (d := d + 1) rfl rfl rfl (fun P => by kernel_rfl) (Nat.le_refl _)
    (HA_cons (HE_self (v := .int S.bra) rfl rfl rfl rfl rfl (HA_cons (HE_self (v := .int S.ket) rfl rfl rfl rfl rfl (HA_cons (HE_name (v := .str s) rfl rfl (HA_nil (replace_s_ (by omega) S S.bra S.ket s hw hs ⟨trivial, ?_⟩))))))))))
  refine HB_cons (HS_ket rfl rfl rfl (HE_bin (HE_self (v := .int S.bra) rfl rfl rfl rfl rfl (HE_len_str rfl (HE_name (v := .str s) rfl rfl ⟨_, rfl, by omega, rfl, _, rfl, ?_⟩)))))
  exact HB_nil h

theorem slice_del_ {d : Nat} (hd : d < 430) (S : Sm) (hw : S.cur.length ≤ 100000) (h0 : 0 ≤ S.bra) (h1 : S.bra ≤ S.ket) (h2 : S.ket ≤ S.l) (h3 : S.l ≤ S.cur.length)
    {Q : V → List (Str × V) → Prop} (h : Q .none (S.sl Str.empty).ob) : HC d .stem 161 [.self] S.ob Q := by
  refine HC_body fn161 (by omega) rfl (by rfl) ?_
  refine HB_cons (HS_ret (HE_meth (fa := 154) (d := d + 1) rfl rfl rfl (fun P => by kernel_rfl) (Nat.le_refl _) (HA_cons (HE_str (HA_nil (slice_from_ (by omega) S _ hw (by decide) h0 h1 h2 h3 h))))))
end Mine

end

-- X3
section
namespace Mine

noncomputable def vAt (w : Str) (i : Int) : Bool := decide (chAt w i ∈ letters.map (·.1))
noncomputable def scan (p : Int → Bool) : Nat → Int → Int × Bool
  | 0, c => (c, false)
  | n + 1, c => if p c then (c, true) else scan p n (c + 1)

theorem scan_zero (p : Int → Bool) (c : Int) : scan p 0 c = (c, false) := rfl
theorem scan_succ (p : Int → Bool) (n : Nat) (c : Int) : scan p (n + 1) c = if p c then (c, true) else scan p n (c + 1) := rfl

theorem go_out_ {d : Nat} (hd : d < 500) (S : Sm) (hw : S.cur.length ≤ 100000) (h0 : 0 ≤ S.c) (h1 : S.c ≤ S.l) (h2 : S.l ≤ S.cur.length) {Q : V → List (Str × V) → Prop}
    (h : Q (.bool (scan (vAt S.cur) (S.l - S.c).toNat S.c).2) (Sm.ob { S with c := (scan (vAt S.cur) (S.l - S.c).toNat S.c).1 })) : HC d .stem 98 [.self, .gset] S.ob Q := by
  have hz : sizeLine = 16777216 := sizeLine_eq
  refine HC_body fn98 (by omega) rfl (by rfl) ?_
  refine HB_cons (HS_while rfl (fun n σ => ∃ c, σ = ⟨[("s", .gset), ("self", .self)], Sm.ob { S with c := c }⟩ ∧ n = (S.l - c).toNat ∧ S.c ≤ c ∧ c ≤ S.l ∧ scan (vAt S.cur) n c = scan (vAt S.cur) (S.l - S.c).toNat S.c) ⟨S.c, rfl, rfl, by omega, h1, rfl⟩ ?_)
  rintro n σ ⟨c, rfl, rfl, a1, a2, a3⟩
  refine HT_cmp (HE_self (v := .int c) rfl rfl rfl rfl rfl (HE_self (v := .int S.l) rfl rfl rfl rfl rfl ⟨_, rfl, ?_⟩))
  by_cases q : c < S.l
  · rw [decide_eq_true q, if_pos rfl]
    obtain ⟨m, hm⟩ : ∃ m, (S.l - c).toNat = m + 1 := ⟨(S.l - c).toNat - 1, by omega⟩
    rw [hm, scan_succ] at a3
    refine HB_cons (HS_if (HT_cmp (HE_item_str (HE_self (v := .str S.cur) rfl rfl rfl rfl rfl (HE_self (v := .int c) rfl rfl rfl rfl rfl ⟨_, _, rfl, rfl, by omega, by omega, by omega, HE_name (v := .gset) rfl rfl ⟨_, rfl, ?_⟩⟩)))))
    by_cases v : vAt S.cur c = true
    · rw [if_pos v] at a3
      rw [show decide (chAt S.cur c ∈ letters.map (·.1)) = true from v, if_pos rfl]
      refine HB_cons (HS_ret (HE_bool ?_))
      rw [← a3] at h
      exact h
    · rw [if_neg v] at a3
      rw [show decide (chAt S.cur c ∈ letters.map (·.1)) = false from Bool.not_eq_true _ ▸ v, if_neg (by decide)]
      refine HB_nil (HB_cons (HS_augcursor rfl rfl rfl (HE_int ⟨rfl, _, rfl, ?_⟩)))
      refine HB_nil ⟨m, by omega, c + 1, rfl, by omega, by omega, by omega, a3⟩
  · rw [decide_eq_false q, if_neg (by decide)]
    have : c = S.l := by omega
    subst this
    rw [show (S.l - S.l).toNat = 0 by omega, scan_zero] at a3
    refine HB_nil (HB_cons (HS_ret (HE_bool ?_)))
    rw [← a3] at h
    exact h

theorem go_in_ {d : Nat} (hd : d < 500) (S : Sm) (hw : S.cur.length ≤ 100000) (h0 : 0 ≤ S.c) (h1 : S.c ≤ S.l) (h2 : S.l ≤ S.cur.length) {Q : V → List (Str × V) → Prop}
    (h : Q (.bool (scan (fun i => !vAt S.cur i) (S.l - S.c).toNat S.c).2) (Sm.ob { S with c := (scan (fun i => !vAt S.cur i) (S.l - S.c).toNat S.c).1 })) : HC d .stem 70 [.self, .gset] S.ob Q := by
  have hz : sizeLine = 16777216 := sizeLine_eq
  refine HC_body fn70 (by omega) rfl (by rfl) ?_
  refine HB_cons (HS_while rfl (fun n σ => ∃ c, σ = ⟨[("s", .gset), ("self", .self)], Sm.ob { S with c := c }⟩ ∧ n = (S.l - c).toNat ∧ S.c ≤ c ∧ c ≤ S.l ∧ scan (fun i => !vAt S.cur i) n c = scan (fun i => !vAt S.cur i) (S.l - S.c).toNat S.c) ⟨S.c, rfl, rfl, by omega, h1, rfl⟩ ?_)
  rintro n σ ⟨c, rfl, rfl, a1, a2, a3⟩
  refine HT_cmp (HE_self (v := .int c) rfl rfl rfl rfl rfl (HE_self (v := .int S.l) rfl rfl rfl rfl rfl ⟨_, rfl, ?_⟩))
  by_cases q : c < S.l
  · rw [decide_eq_true q, if_pos rfl]
    obtain ⟨m, hm⟩ : ∃ m, (S.l - c).toNat = m + 1 := ⟨(S.l - c).toNat - 1, by omega⟩
    rw [hm, scan_succ] at a3
    refine HB_cons (HS_if (HT_cmp (HE_item_str (HE_self (v := .str S.cur) rfl rfl rfl rfl rfl (HE_self (v := .int c) rfl rfl rfl rfl rfl ⟨_, _, rfl, rfl, by omega, by omega, by omega, HE_name (v := .gset) rfl rfl ⟨_, rfl, ?_⟩⟩)))))
    by_cases v : (!vAt S.cur c) = true
    · rw [if_pos v] at a3
      rw [show (!decide (chAt S.cur c ∈ letters.map (·.1))) = true from v, if_pos rfl]
      refine HB_cons (HS_ret (HE_bool ?_))
      rw [← a3] at h
      exact h
    · rw [if_neg v] at a3
      rw [show (!decide (chAt S.cur c ∈ letters.map (·.1))) = false from Bool.not_eq_true _ ▸ v, if_neg (by decide)]
      refine HB_nil (HB_cons (HS_augcursor rfl rfl rfl (HE_int ⟨rfl, _, rfl, ?_⟩)))
      refine HB_nil ⟨m, by omega, c + 1, rfl, by omega, by omega, by omega, a3⟩
  · rw [decide_eq_false q, if_neg (by decide)]
    have : c = S.l := by omega
    subst this
    rw [show (S.l - S.l).toNat = 0 by omega, scan_zero] at a3
    refine HB_nil (HB_cons (HS_ret (HE_bool ?_)))
    rw [← a3] at h
    exact h
end Mine

end

-- P1
section
namespace Mine

noncomputable def ltB : List Nat → List Nat → Bool
  | [], [] => false
  | [], _ :: _ => true
  | _ :: _, [] => false
  | a :: as, b :: bs => a < b || (a == b && ltB as bs)

noncomputable def Share (a b : List Nat) (m : Nat) : Prop := m ≤ a.length ∧ m ≤ b.length ∧ a.take m = b.take m

theorem Share.zero (a b : List Nat) : Share a b 0 := ⟨Nat.zero_le _, Nat.zero_le _, rfl⟩
theorem Share.symm {a b : List Nat} {m : Nat} (x : Share a b m) : Share b a m := ⟨x.2.1, x.1, x.2.2.symm⟩
theorem Share.trans {a b c : List Nat} {m : Nat} (x : Share a b m) (y : Share b c m) : Share a c m := ⟨x.1, y.2.1, x.2.2.trans y.2.2⟩
theorem Share.le {a b : List Nat} {m k : Nat} (x : Share a b m) (h : k ≤ m) : Share a b k := by
  refine ⟨Nat.le_trans h x.1, Nat.le_trans h x.2.1, ?_⟩
  have := congrArg (List.take k) x.2.2
  rwa [List.take_take, List.take_take, Nat.min_eq_left h] at this
theorem Share.cons {a b : Nat} {as bs : List Nat} {m : Nat} (x : Share (a :: as) (b :: bs) (m + 1)) : a = b ∧ Share as bs m := by
  obtain ⟨h1, h2, h3⟩ := x
  simp only [List.take_succ_cons, List.cons.injEq] at h3
  exact ⟨h3.1, by simpa using h1, by simpa using h2, h3.2⟩
theorem Share.mk' {a : Nat} {as bs : List Nat} {m : Nat} (x : Share as bs m) : Share (a :: as) (a :: bs) (m + 1) :=
  ⟨by simpa using x.1, by simpa using x.2.1, by simp [x.2.2]⟩

theorem share_mid : ∀ {m : Nat} {a b c : List Nat}, ltB b a = false → ltB c b = false → Share a c m → Share a b m
  | 0, _, _, _, _, _, _ => .zero ..
  | m + 1, [], _, _, _, _, h => by have := h.1; simp at this
  | m + 1, _ :: _, _, [], _, _, h => by have := h.2.1; simp at this
  | m + 1, x :: as, [], z :: cs, h1, _, _ => by simp [ltB] at h1
  | m + 1, x :: as, y :: bs, z :: cs, h1, h2, h => by
    obtain ⟨rfl, h'⟩ := h.cons
    simp only [ltB, Bool.or_eq_false_iff, decide_eq_false_iff_not, Bool.and_eq_false_iff, beq_eq_false_iff_ne] at h1 h2
    have : y = x := by omega
    subst this
    refine (share_mid ?_ ?_ h').mk'
    · rcases h1.2 with q | q
      · exact absurd rfl q
      · exact q
    · rcases h2.2 with q | q
      · exact absurd rfl q
      · exact q

theorem ltB_irrefl : ∀ a : List Nat, ltB a a = false
  | [] => rfl
  | a :: as => by simp [ltB, ltB_irrefl as]
theorem ltB_trans : ∀ {a b c : List Nat}, ltB a b = true → ltB b c = true → ltB a c = true
  | [], [], _, h, _ => by cases h
  | [], _ :: _, [], _, h => by cases h
  | [], _ :: _, _ :: _, _, _ => rfl
  | _ :: _, [], _, h, _ => by cases h
  | _ :: _, _ :: _, [], _, h => by cases h
  | x :: as, y :: bs, z :: cs, h1, h2 => by
    simp only [ltB, Bool.or_eq_true, decide_eq_true_eq, Bool.and_eq_true, beq_iff_eq] at *
    rcases h1 with h1 | ⟨rfl, h1⟩
    · rcases h2 with h2 | ⟨rfl, h2⟩
      · exact .inl (by omega)
      · exact .inl h1
    · rcases h2 with h2 | ⟨rfl, h2⟩
      · exact .inl h2
      · exact .inr ⟨rfl, ltB_trans h1 h2⟩
theorem ltB_total : ∀ {a b : List Nat}, ltB a b = false → ltB b a = false → a = b
  | [], [], _, _ => rfl
  | [], _ :: _, h, _ => by cases h
  | _ :: _, [], _, h => by cases h
  | x :: as, y :: bs, h1, h2 => by
    simp only [ltB, Bool.or_eq_false_iff, decide_eq_false_iff_not, Bool.and_eq_false_iff, beq_eq_false_iff_ne] at h1 h2
    have : x = y := by omega
    subst this
    have e1 : ltB as bs = false := by rcases h1.2 with q | q; exact absurd rfl q; exact q
    have e2 : ltB bs as = false := by rcases h2.2 with q | q; exact absurd rfl q; exact q
    rw [ltB_total e1 e2]
/-- e is a prefix of t -/
noncomputable def Pre (e t : List Nat) : Prop := Share e t e.length
theorem pre_le {e t : List Nat} (h : Pre e t) : ltB t e = false := by
  unfold Pre at h
  induction e generalizing t with
  | nil => cases t <;> rfl
  | cons a as ih =>
    cases t with
    | nil => have := h.2.1; simp at this
    | cons b bs =>
      obtain ⟨rfl, h'⟩ := Share.cons (m := as.length) h
      simp [ltB, ih h']

/-- the comparison as the text makes it -/
noncomputable def Cmp (t e : List Nat) (m : Nat) (d : Int) : Prop :=
  Share t e m ∧ ((m = e.length ∧ d = 0) ∨ (m < e.length ∧ m = t.length ∧ d < 0) ∨ (m < e.length ∧ m < t.length ∧ d = (t.getD m 0 : Int) - (e.getD m 0 : Int) ∧ d ≠ 0))

theorem cmp_lt : ∀ {m : Nat} {t e : List Nat} {d : Int}, Cmp t e m d → (d < 0 ↔ ltB t e = true)
  | 0, t, [], d, ⟨_, h⟩ => by
    rcases h with ⟨_, rfl⟩ | ⟨h, _⟩ | ⟨h, _⟩
    · cases t <;> simp [ltB]
    · simp at h
    · simp at h
  | 0, [], b :: bs, d, ⟨_, h⟩ => by
    rcases h with ⟨h, _⟩ | ⟨_, _, h⟩ | ⟨_, h, _⟩
    · simp at h
    · simp [ltB, h]
    · simp at h
  | 0, a :: as, b :: bs, d, ⟨_, h⟩ => by
    rcases h with ⟨h, _⟩ | ⟨_, h, _⟩ | ⟨_, _, h1, h2⟩
    · simp at h
    · simp at h
    · simp only [List.getD_cons_zero] at h1
      simp only [ltB, Bool.or_eq_true, decide_eq_true_eq, Bool.and_eq_true, beq_iff_eq]
      constructor
      · intro h; exact .inl (by omega)
      · rintro (h | ⟨h, _⟩)
        · omega
        · omega
  | m + 1, [], e, d, ⟨h, _⟩ => by have := h.1; simp at this
  | m + 1, a :: as, [], d, ⟨h, _⟩ => by have := h.2.1; simp at this
  | m + 1, a :: as, b :: bs, d, ⟨h, k⟩ => by
    obtain ⟨rfl, h'⟩ := h.cons
    have := @cmp_lt m as bs d ⟨h', by simpa using k⟩
    rw [this]
    simp [ltB]

theorem share_step {t e : List Nat} {m : Nat} (h : Share t e m) (h1 : m < t.length) (h2 : m < e.length) (he : t.getD m 0 = e.getD m 0) : Share t e (m + 1) := by
  refine ⟨h1, h2, ?_⟩
  rw [List.take_add_one, List.take_add_one, h.2.2]
  rw [List.getD_eq_getElem?_getD, List.getD_eq_getElem?_getD, List.getElem?_eq_getElem h1, List.getElem?_eq_getElem h2] at he
  rw [List.getElem?_eq_getElem h1, List.getElem?_eq_getElem h2]
  simp only [Option.getD_some] at he
  rw [he]

noncomputable def rv (s : Str) : List Nat := s.cps.toList.reverse
theorem rv_len (s : Str) : (rv s).length = s.length := by unfold rv; simp; rfl
theorem rv_getD (s : Str) {m : Nat} (h : m < s.length) : (rv s).getD m 0 = s.cps.getD (s.length - 1 - m) 0 := by
  have hs : s.length = s.cps.size := rfl
  unfold rv
  rw [hs] at h ⊢
  rw [List.getD_eq_getElem?_getD, List.getElem?_reverse (by simpa using h), Array.getD_eq_getD_getElem?]
  simp

noncomputable abbrev Row := Str × Int × Int
/-- the table is in order, and each row names its longest proper ending in the table -/
noncomputable def tabOk (T : List Row) : Bool :=
  T.all (fun r => !r.1.cps.isEmpty) &&
  (List.range T.length).all (fun b => (List.range b).all fun a => ltB (rv (T.getD a default).1) (rv (T.getD b default).1)) &&
  (List.range T.length).all fun k => let r := T.getD k default
    decide (-1 ≤ r.2.1) && decide (r.2.1 < k) &&
    (decide (r.2.1 < 0) || ((rv (T.getD r.2.1.toNat default).1).isPrefixOf (rv r.1) )) &&
    (List.range T.length).all fun m => m == k || !(rv (T.getD m default).1).isPrefixOf (rv r.1) || (decide (0 ≤ r.2.1) && (rv (T.getD m default).1).isPrefixOf (rv (T.getD r.2.1.toNat default).1))
theorem ok0 : tabOk (amRows (cS 6 13)) = true := by decide +kernel
theorem ok1 : tabOk (amRows (cS 6 14)) = true := by decide +kernel
theorem ok2 : tabOk (amRows (cS 6 15)) = true := by decide +kernel
theorem ok3 : tabOk (amRows (cS 6 16)) = true := by decide +kernel
theorem ok4 : tabOk (amRows (cS 6 17)) = true := by decide +kernel
theorem ok5 : tabOk (amRows (cS 6 18)) = true := by decide +kernel
theorem ok6 : tabOk (amRows (cS 6 19)) = true := by decide +kernel
theorem ok7 : tabOk (amRows (cS 6 20)) = true := by decide +kernel

noncomputable def eR (T : List Row) (k : Nat) : List Nat := rv (T.getD k default).1
noncomputable def sR (T : List Row) (k : Nat) : Int := (T.getD k default).2.1
noncomputable def vR (T : List Row) (k : Nat) : Int := (T.getD k default).2.2

theorem pre_iff {a b : List Nat} : a.isPrefixOf b = true ↔ Pre a b := by
  rw [List.isPrefixOf_iff_prefix]
  unfold Pre Share
  constructor
  · rintro ⟨c, rfl⟩
    simp
  · rintro ⟨_, h2, h3⟩
    rw [List.take_length] at h3
    exact ⟨b.drop a.length, by rw [h3, List.length_take, Nat.min_eq_left h2]; exact List.take_append_drop _ _⟩

structure TabOk (T : List Row) : Prop where
  pos : ∀ k, k < T.length → 0 < (eR T k).length
  inc : ∀ a b, a < b → b < T.length → ltB (eR T a) (eR T b) = true
  sub : ∀ k, k < T.length → -1 ≤ sR T k ∧ sR T k < k ∧ (0 ≤ sR T k → Pre (eR T (sR T k).toNat) (eR T k)) ∧ ∀ m, m < T.length → m ≠ k → Pre (eR T m) (eR T k) → 0 ≤ sR T k ∧ Pre (eR T m) (eR T (sR T k).toNat)
theorem tabOk_of {T : List Row} (h : tabOk T = true) : TabOk T := by
  unfold tabOk at h
  simp only [Bool.and_eq_true, List.all_eq_true, List.mem_range, Bool.not_eq_true', decide_eq_true_eq, Bool.or_eq_true, beq_iff_eq] at h
  obtain ⟨⟨h1, h2⟩, h3⟩ := h
  refine ⟨fun k hk => ?_, fun a b hab hb => h2 b hb a hab, fun k hk => ?_⟩
  · have := h1 (T.getD k default) (by rw [List.getD_eq_getElem?_getD, List.getElem?_eq_getElem hk]; exact List.getElem_mem hk)
    unfold eR rv
    simp only [List.length_reverse, Array.length_toList]
    have h0 : (T.getD k default).1.cps.size ≠ 0 := fun q => by
      rw [Array.isEmpty_eq_false_iff] at this
      exact this (Array.size_eq_zero_iff.mp q)
    omega
  · obtain ⟨⟨⟨a, b⟩, c⟩, d⟩ := h3 k hk
    refine ⟨a, b, fun q => ?_, fun m hm hmk hp => ?_⟩
    · rcases c with c | c
      · unfold sR at q; omega
      · exact pre_iff.mp c
    · rcases d m hm with (d | d) | d
      · exact absurd d hmk
      · exact absurd (pre_iff.mpr hp) (by rw [Bool.not_eq_true]; exact d)
      · exact ⟨d.1, pre_iff.mp d.2⟩

/-- the longest row that ends the text -/
noncomputable def FindOk (T : List Row) (t : List Nat) (n : Nat) (res : Int) : Prop :=
  (∃ k, k < T.length ∧ Pre (eR T k) t ∧ n = (eR T k).length ∧ res = vR T k ∧ ∀ m, m < T.length → Pre (eR T m) t → (eR T m).length ≤ n) ∨
  (n = 0 ∧ res = 0 ∧ ∀ m, m < T.length → ¬ Pre (eR T m) t)

structure Chn (T : List Row) (t : List Nat) (ci k : Nat) : Prop where
  lt : k < T.length
  all : ∀ m, m < T.length → Pre (eR T m) t → (m = k ∨ Pre (eR T m) (eR T k)) ∧ (eR T m).length ≤ ci
  sh : Share t (eR T k) (min ci (eR T k).length)

theorem Chn.hit {T : List Row} {t : List Nat} {ci k : Nat} (c : Chn T t ci k) (h : (eR T k).length ≤ ci) : FindOk T t (eR T k).length (vR T k) := by
  refine .inl ⟨k, c.lt, ?_, rfl, rfl, fun m hm hp => ?_⟩
  · have := c.sh
    rw [Nat.min_eq_right h] at this
    exact this.symm
  · rcases (c.all m hm hp).1 with rfl | q
    · exact Nat.le_refl _
    · exact q.2.1
theorem Chn.stop {T : List Row} {t : List Nat} {ci k : Nat} (O : TabOk T) (c : Chn T t ci k) (h : ci < (eR T k).length) (hs : sR T k < 0) : FindOk T t 0 0 := by
  refine .inr ⟨rfl, rfl, fun m hm hp => ?_⟩
  obtain ⟨a, b⟩ := c.all m hm hp
  have hmk : m ≠ k := fun q => by subst q; omega
  rcases a with q | q
  · exact hmk q
  · have := ((O.sub k c.lt).2.2.2 m hm hmk q).1
    omega
theorem Chn.next {T : List Row} {t : List Nat} {ci k : Nat} (O : TabOk T) (c : Chn T t ci k) (h : ci < (eR T k).length) (hs : 0 ≤ sR T k) : Chn T t ci (sR T k).toNat := by
  obtain ⟨a1, a2, a3, a4⟩ := O.sub k c.lt
  have p := a3 hs
  have lt : (sR T k).toNat < T.length := by have := c.lt; omega
  refine ⟨lt, fun m hm hp => ?_, ?_⟩
  · obtain ⟨a, b⟩ := c.all m hm hp
    have hmk : m ≠ k := fun q => by subst q; omega
    rcases a with q | q
    · exact absurd q hmk
    · exact ⟨.inr (a4 m hm hmk q).2, b⟩
  · have := c.sh
    rw [Nat.min_eq_left (Nat.le_of_lt h)] at this
    exact (this.le (Nat.min_le_left _ _)).trans (p.symm.le (Nat.min_le_right _ _))

theorem Chn.start {T : List Row} {t : List Nat} {ci i : Nat} {d : Int} (O : TabOk T) (hi : i < T.length) (hc : Cmp t (eR T i) ci d) (hd : 0 ≤ d) (hj : ∀ k, i < k → k < T.length → ltB t (eR T k) = true) : Chn T t ci i := by
  have hle : ltB t (eR T i) = false := by
    cases q : ltB t (eR T i) with
    | false => rfl
    | true => have := (cmp_lt hc).mpr q; omega
  refine ⟨hi, fun m hm hp => ?_, hc.1.le (Nat.min_le_left _ _)⟩
  have hmi : m ≤ i := by
    rcases Nat.lt_or_ge i m with q | q
    · have := hj m q hm
      rw [pre_le hp] at this; cases this
    · exact q
  have hme : m = i ∨ Pre (eR T m) (eR T i) := by
    rcases Nat.lt_or_eq_of_le hmi with q | q
    · refine .inr (share_mid ?_ hle hp)
      cases z : ltB (eR T i) (eR T m) with
      | false => rfl
      | true => have := ltB_trans (O.inc m i q hi) z; rw [ltB_irrefl] at this; cases this
    · exact .inl q
  refine ⟨hme, ?_⟩
  have hsh : Share t (eR T i) (eR T m).length := by
    rcases hme with rfl | q
    · exact hp.symm
    · exact hp.symm.trans q
  rcases Nat.lt_or_ge ci (eR T m).length with q | q
  · exfalso
    rcases hc.2 with ⟨e, _⟩ | ⟨_, _, e⟩ | ⟨e1, e2, e3, e4⟩
    · have := hsh.2.1; omega
    · omega
    · have h2 := hsh.le (k := ci + 1) q
      have h3 : t.getD ci 0 = (eR T i).getD ci 0 := by
        have := congrArg (fun l => l.getD ci 0) h2.2.2
        simpa [List.getD_eq_getElem?_getD, List.getElem?_take] using this
      omega
  · exact q
theorem Chn.start0 {T : List Row} {t : List Nat} (h0 : 0 < T.length) (hj : ∀ k, k < T.length → ltB t (eR T k) = true) : Chn T t 0 0 := by
  refine ⟨h0, fun m hm hp => ?_, by rw [Nat.zero_min]; exact .zero ..⟩
  have := hj m hm
  rw [pre_le hp] at this; cases this
end Mine

end

-- X4
section
namespace Mine

noncomputable def Sub : List (Str × V) → List (Str × V) → Prop
  | [], _ => True
  | (x, v) :: r, l => l.lookup x = some v ∧ Sub r l
theorem Sub.of_eq : ∀ {r l : List (Str × V)}, (r.map fun p => l.lookup p.1) = (r.map fun p => some p.2) → Sub r l
  | [], _, _ => trivial
  | (x, v) :: r, l, e => by
    rw [List.map_cons, List.map_cons, List.cons.injEq] at e
    exact ⟨e.1, Sub.of_eq e.2⟩
theorem Sub.get {r l : List (Str × V)} (h : Sub r l) {x : Str} {v : V} (e : r.lookup x = some v) : l.lookup x = some v := by
  induction r with
  | nil => cases e
  | cons p r ih =>
    obtain ⟨y, u⟩ := p
    rw [List.lookup_cons] at e
    cases q : x == y with
    | true => rw [q] at e; cases e; have := beq_iff_eq.mp q; subst this; exact h.1
    | false => rw [q] at e; exact ih h.2 e
section
variable {F : Fi} {σ : St}
theorem HB_sub {b : List Stmt} {Q : Fl → St → Prop} {loc : List (Str × V)} (s : Sub loc σ.loc) (h : HB F b ⟨loc, σ.ob⟩ Q) : HB F b σ Q := fun c O s' R => h c O s' (R.weaken fun y v e => s.get e)
theorem HT_sub {b : Expr} {Q : Bool → St → Prop} {loc : List (Str × V)} (s : Sub loc σ.loc) (h : HT F b ⟨loc, σ.ob⟩ Q) : HT F b σ Q := fun c O s' R => h c O s' (R.weaken fun y v e => s.get e)
end

noncomputable def txt (S : Sm) : List Nat := ((S.cur.cps.toList.take S.c.toNat).drop S.lb.toNat).reverse
theorem txt_nat (S : Sm) {b c : Nat} (hb : S.lb = b) (hc : S.c = c) : txt S = ((S.cur.cps.toList.take c).drop b).reverse := by
  unfold txt; rw [hb, hc]; rfl
theorem txt_nlen (l : List Nat) {b c : Nat} (h2 : c ≤ l.length) : ((l.take c).drop b).length = c - b := by
  rw [List.length_drop, List.length_take, Nat.min_eq_left h2]
theorem txt_len (S : Sm) (h0 : 0 ≤ S.lb) (h1 : S.lb ≤ S.c) (h2 : S.c ≤ S.cur.length) : ((txt S).length : Int) = S.c - S.lb := by
  obtain ⟨b, hb⟩ := Int.eq_ofNat_of_zero_le h0
  obtain ⟨c, hc⟩ := Int.eq_ofNat_of_zero_le (Int.le_trans h0 h1)
  rw [hb, hc] at h1
  rw [hc] at h2
  rw [txt_nat S hb hc, List.length_reverse, txt_nlen _ (by exact Int.ofNat_le.mp h2), hb, hc]
  exact Int.ofNat_sub (Int.ofNat_le.mp h1)
theorem getD_rev (l : List Nat) {b c m : Nat} (h2 : c ≤ l.length) (h : m < c - b) : ((l.take c).drop b).reverse.getD m 0 = l.getD (c - 1 - m) 0 := by
  have hl := txt_nlen l (b := b) h2
  rw [List.getD_eq_getElem?_getD, List.getElem?_reverse (by rw [hl]; exact h), hl, List.getElem?_drop, List.getElem?_take_of_lt (by omega), List.getD_eq_getElem?_getD]
  congr 2
  omega
theorem txt_getD (S : Sm) (h0 : 0 ≤ S.lb) (h1 : S.lb ≤ S.c) (h2 : S.c ≤ S.cur.length) {m : Nat} (h : m < (txt S).length) : (txt S).getD m 0 = S.cur.cps.getD (S.c - 1 - m).toNat 0 := by
  obtain ⟨b, hb⟩ := Int.eq_ofNat_of_zero_le h0
  obtain ⟨c, hc⟩ := Int.eq_ofNat_of_zero_le (Int.le_trans h0 h1)
  rw [hc] at h2
  have h2 : c ≤ S.cur.cps.toList.length := Int.ofNat_le.mp h2
  rw [txt_nat S hb hc, List.length_reverse, txt_nlen _ h2] at h
  have e : S.c - 1 - (m : Int) = ((c - 1 - m : Nat) : Int) := by
    clear h0 h1
    omega
  rw [txt_nat S hb hc, getD_rev _ h2 h, e, Int.toNat_natCast, List.getD_eq_getElem?_getD, Array.getD_eq_getD_getElem?, Array.getElem?_toList]

theorem T_at {T : List Row} {k : Nat} (h : k < T.length) : (T.map amV)[k]? = some (amV (T.getD k default)) := by
  rw [List.getElem?_map, List.getElem?_eq_getElem h, List.getD_eq_getElem?_getD, List.getElem?_eq_getElem h]; rfl

noncomputable def LO (T : List Row) (S : Sm) (i j ci cj : Nat) (f : Bool) : List (Str × V) :=
  [("self", .self), ("v", .list (T.map amV)), ("i", .int i), ("j", .int j), ("c", .int S.c), ("lb", .int S.lb), ("common_i", .int ci), ("common_j", .int cj), ("first_key_inspected", .bool f)]
noncomputable def LI (T : List Row) (S : Sm) (i j ci cj : Nat) (f : Bool) (k : Nat) (d : Int) (m : Nat) (w : V) : List (Str × V) :=
  [("self", .self), ("v", .list (T.map amV)), ("i", .int i), ("j", .int j), ("c", .int S.c), ("lb", .int S.lb), ("common_i", .int ci), ("common_j", .int cj), ("first_key_inspected", .bool f), ("k", .int k), ("diff", .int d), ("common", .int m), ("w", w)]

/-- where the search stands -/
structure Srch (T : List Row) (t : List Nat) (i j ci cj : Nat) (f : Bool) : Prop where
  lt : i < j
  le : j ≤ T.length
  at_i : (i = 0 ∧ ci = 0 ∧ f = false) ∨ (i = 0 ∧ ci = 0 ∧ j = 1) ∨ ∃ d, 0 ≤ d ∧ Cmp t (eR T i) ci d
  at_j : (j = T.length ∧ cj = 0) ∨ (j < T.length ∧ ∃ d, d < 0 ∧ Cmp t (eR T j) cj d)
  fst : f = true → i = 0 ∧ j = 1

theorem Srch.share {T : List Row} {t : List Nat} {i j ci cj : Nat} {f : Bool} (O : TabOk T) (s : Srch T t i j ci cj f) {k : Nat} (h1 : i ≤ k) (h2 : k < j) : Share t (eR T k) (min ci cj) := by
  have hk : k < T.length := Nat.lt_of_lt_of_le h2 s.le
  by_cases z : min ci cj = 0
  · rw [z]; exact .zero ..
  have hi : ∃ d, 0 ≤ d ∧ Cmp t (eR T i) ci d := by
    rcases s.at_i with ⟨_, e, _⟩ | ⟨_, e, _⟩ | e
    · exfalso; apply z; rw [e]; simp
    · exfalso; apply z; rw [e]; simp
    · exact e
  obtain ⟨di, _, hci⟩ := hi
  have hj : j < T.length ∧ ∃ d, d < 0 ∧ Cmp t (eR T j) cj d := by
    rcases s.at_j with ⟨_, e⟩ | e
    · exfalso; apply z; rw [e]; simp
    · exact e
  obtain ⟨hjl, dj, _, hcj⟩ := hj
  have a := hci.1.le (k := min ci cj) (Nat.min_le_left _ _)
  have b := hcj.1.le (k := min ci cj) (Nat.min_le_right _ _)
  have ab := a.symm.trans b
  have nlt : ∀ a b, a < b → b < T.length → ltB (eR T b) (eR T a) = false := fun a b hab hb => by
    cases q : ltB (eR T b) (eR T a) with
    | false => rfl
    | true => have := ltB_trans (O.inc a b hab hb) q; rw [ltB_irrefl] at this; cases this
  rcases Nat.lt_or_eq_of_le h1 with q | q
  · have := share_mid (nlt i k q hk) (nlt k j h2 hjl) ab
    exact a.trans this
  · subst q; exact a

/-- what one turn brings -/
structure Stp (T : List Row) (t : List Nat) (i j : Nat) (f : Bool) (i' j' ci' cj' : Nat) : Prop where
  le : i' ≤ j'
  jn : j' ≤ T.length
  eq : i' = j' → i' = 0 ∧ ci' = 0 ∧ ∀ k, k < T.length → ltB t (eR T k) = true
  at_i : i' < j' → (i' = 0 ∧ ci' = 0 ∧ f = false) ∨ ∃ d, 0 ≤ d ∧ Cmp t (eR T i') ci' d
  at_j : (j' = T.length ∧ cj' = 0) ∨ (j' < T.length ∧ ∃ d, d < 0 ∧ Cmp t (eR T j') cj' d)
  m1 : j' - i' ≤ j - i
  m2 : 2 ≤ j' - i' → j' - i' < j - i
  ff : f = true → j' ≤ 1

theorem Srch.below {T : List Row} {t : List Nat} {i j ci cj : Nat} {f : Bool} (O : TabOk T) (s : Srch T t i j ci cj f) {k m : Nat} {d : Int} (hk : k = i + (j - i) / 2) (hc : Cmp t (eR T k) m d) (hd : d < 0) : Stp T t i j f i k ci m := by
  have hij := s.lt
  have hjn := s.le
  refine ⟨by omega, by omega, fun e => ?_, fun e => ?_, .inr ⟨by omega, d, hd, hc⟩, by omega, by omega, fun e => by have := s.fst e; omega⟩
  · have hlt := (cmp_lt hc).mp hd
    have hi0 : i = 0 ∧ ci = 0 := by
      rcases s.at_i with ⟨a, b, _⟩ | ⟨a, b, _⟩ | ⟨d', h1, h2⟩
      · exact ⟨a, b⟩
      · exact ⟨a, b⟩
      · exfalso
        have := (cmp_lt h2).mpr (e ▸ hlt)
        omega
    refine ⟨hi0.1, hi0.2, fun q hq => ?_⟩
    have hk0 : k = 0 := by omega
    rcases Nat.eq_zero_or_pos q with z | z
    · rw [z, ← hk0]; exact hlt
    · have := O.inc 0 q z hq
      exact ltB_trans (hk0 ▸ hlt) this
  · rcases s.at_i with h | ⟨a, b, c⟩ | h
    · exact .inl h
    · exfalso; omega
    · exact .inr h
theorem Srch.above {T : List Row} {t : List Nat} {i j ci cj : Nat} {f : Bool} (s : Srch T t i j ci cj f) {k m : Nat} {d : Int} (hk : k = i + (j - i) / 2) (hc : Cmp t (eR T k) m d) (hd : ¬ d < 0) : Stp T t i j f k j m cj := by
  have hij := s.lt
  have hjn := s.le
  refine ⟨by omega, by omega, fun e => by omega, fun e => .inr ⟨d, by omega, hc⟩, s.at_j, by omega, by omega, fun e => by have := s.fst e; omega⟩

theorem half (i j : Nat) (h : i ≤ j) : (i : Int) + Int.fdiv ((j : Int) - i) (2 ^ (1 : Int).toNat) = ((i + (j - i) / 2 : Nat) : Int) := by
  have e : (j : Int) - i = ((j - i : Nat) : Int) := by omega
  rw [e, show (2 : Int) ^ (1 : Int).toNat = ((2 : Nat) : Int) by decide, Int.fdiv_eq_ediv_of_nonneg _ (by decide)]
  push_cast
  omega

theorem HB_abs {F : Fi} {b : List Stmt} {σ : St} {Q : Fl → St → Prop} (h : ∀ Q' : Fl → St → Prop, (∀ φ σ, Q φ σ → Q' φ σ) → HB F b σ Q') : HB F b σ Q := h Q fun _ _ h => h
theorem HS_abs {F : Fi} {b : Stmt} {σ : St} {Q : Fl → St → Prop} (h : ∀ Q' : Fl → St → Prop, (∀ φ σ, Q φ σ → Q' φ σ) → HS F b σ Q') : HS F b σ Q := h Q fun _ _ h => h
noncomputable def FBw (S : Sm) (T : List Row) (n : Nat) (σ : St) : Prop := σ.ob = S.ob ∧ ∃ i j ci cj f, n = 2 * (j - i) + (if f then 0 else 1) ∧ Srch T (txt S) i j ci cj f ∧ Sub (LO T S i j ci cj f) σ.loc
noncomputable def FBa (S : Sm) (T : List Row) (φ : Fl) (σ : St) : Prop := φ = .next ∧ σ.ob = S.ob ∧ ∃ i ci, Chn T (txt S) ci i ∧ Sub [("self", .self), ("v", .list (T.map amV)), ("i", .int (i : Nat)), ("c", .int S.c), ("common_i", .int (ci : Nat))] σ.loc
noncomputable def FBb (S : Sm) (T : List Row) (i j ci cj : Nat) (f : Bool) (k : Nat) (w : V) (s0 : Str) (φ : Fl) (σ : St) : Prop := φ = .next ∧ σ.ob = S.ob ∧ ∃ m dd, Cmp (txt S) (rv s0) m dd ∧ Sub (LI T S i j ci cj f k dd m w) σ.loc
noncomputable def FBr (S : Sm) (T : List Row) (i j ci cj : Nat) (f : Bool) (k m0 : Nat) (w : V) (s0 : Str) (n : Nat) (σ : St) : Prop := σ.ob = S.ob ∧ Share (txt S) (rv s0) (m0 + n) ∧ Sub (LI T S i j ci cj f k 0 (m0 + n) w) σ.loc
noncomputable def FBc (S : Sm) (T : List Row) (i j : Nat) (f : Bool) (φ : Fl) (σ : St) : Prop := φ = .next ∧ σ.ob = S.ob ∧ ∃ i' j' ci' cj', Stp T (txt S) i j f i' j' ci' cj' ∧ Sub (LO T S i' j' ci' cj' f) σ.loc
noncomputable def FBz (S : Sm) (T : List Row) (ci : Nat) (n : Nat) (σ : St) : Prop := σ.ob = S.ob ∧ Chn T (txt S) ci n ∧ Sub [("self", .self), ("v", .list (T.map amV)), ("i", .int n), ("c", .int S.c), ("common_i", .int ci)] σ.loc

local macro_rules | `(tactic| walk_at "sub") => `(tactic| first | exact Sub.of_eq rfl | repeat (first | exact trivial | refine ⟨rfl, ?_⟩))

theorem find_b_ {d : Nat} (hd : d < 500) (S : Sm) (T : List Row) (O : TabOk T) (hT : 0 < T.length) (hT' : T.length ≤ 1000) (hrow : ∀ k, k < T.length → (eR T k).length ≤ 1000) (hw : S.cur.length ≤ 100000) (h0 : 0 ≤ S.lb) (h1 : S.lb ≤ S.c) (h2 : S.c ≤ S.cur.length)
    {Q : V → List (Str × V) → Prop} (h : ∀ n res, FindOk T (txt S) n res → Q (.int res) (Sm.ob { S with c := S.c - n })) : HC d .stem 140 [.self, .list (T.map amV)] S.ob Q := by
  have hz : sizeLine = 16777216 := sizeLine_eq
  have htl := txt_len S h0 h1 h2
  refine HC_body fn140 (by omega) rfl (by rfl) ?_
  refine HB_cons (HS_assign rfl (HE_int ?_))
  refine HB_cons (HS_assign rfl (HE_len_list rfl (HE_name (v := .list (T.map amV)) rfl rfl ⟨_, rfl, by simp; omega, ?_⟩)))
  refine HB_cons (HS_assign rfl (HE_self (v := .int S.c) rfl rfl rfl rfl rfl ?_))
  refine HB_cons (HS_assign rfl (HE_self (v := .int S.lb) rfl rfl rfl rfl rfl ?_))
  refine HB_cons (HS_assign rfl (HE_int ?_))
  refine HB_cons (HS_assign rfl (HE_int ?_))
  refine HB_cons (HS_assign rfl (HE_bool ?_))
  refine HB_sub (loc := LO T S 0 T.length 0 0 false) ?_ ?_
  · refine ⟨rfl, rfl, rfl, ?_, ?_⟩
    · show some _ = some _
      simp
    · walk_at "sub"
  refine HB_cons (HS_mono (P := FBa S T) (HS_while rfl (FBw S T) ⟨rfl, 0, T.length, 0, 0, false, rfl, ⟨hT, Nat.le_refl _, .inl ⟨rfl, rfl, rfl⟩, .inl ⟨rfl, rfl⟩, fun q => by cases q⟩, ?_⟩ ?_) ?_)
  · walk_at "sub"
  · rintro n σ ⟨hob, i, j, ci, cj, f, rfl, sr, hsub⟩
    refine HT_val (HE_bool ⟨true, rfl, ?_⟩)
    rw [if_pos rfl]
    refine HB_sub hsub ?_
    rw [hob]
    clear hsub hob
    refine HB_abs fun Q0 hQ0 => ?_
    have hij := sr.lt
    have hjn := sr.le
    refine HB_cons (HS_assign rfl (HE_bin (HE_name (v := .int i) rfl rfl (HE_bin (HE_bin (HE_name (v := .int j) rfl rfl (HE_name (v := .int i) rfl rfl ?_)))))))
    refine HE_int ⟨by decide, ?_⟩
    obtain ⟨k, hk⟩ : ∃ k, k = i + (j - i) / 2 := ⟨_, rfl⟩
    show HB _ _ ⟨setL "k" (.int ((i : Int) + Int.fdiv ((j : Int) - i) (2 ^ (1 : Int).toNat))) (LO T S i j ci cj f), S.ob⟩ _
    rw [half i j (Nat.le_of_lt hij), ← hk]
    have hik : i ≤ k := by omega
    have hkj : k < j := by omega
    have hkn : k < T.length := by omega
    refine HB_cons (HS_assign rfl (HE_int ?_))
    refine HB_cons (HS_assign rfl (HE_min rfl (HE_name (v := .int ci) rfl rfl (HE_name (v := .int cj) rfl rfl ⟨_, _, rfl, rfl, ?_⟩))))
    refine HB_cons (HS_assign rfl (HE_item (HE_name (v := .list (T.map amV)) rfl rfl (HE_name (v := .int k) rfl rfl ⟨_, _, _, rfl, rfl, by omega, by omega, T_at hkn, ?_⟩))))
    have hE : ∀ s0 si r, T.getD k default = (s0, si, r) → eR T k = rv s0 := fun s0 si r e => by unfold eR; rw [e]
    have shr := sr.share O hik hkj
    have hm0 : (if (cj : Int) < ci then (cj : Int) else ci) = ((min ci cj : Nat) : Int) := by split <;> omega
    have hlen := hrow k hkn
    rcases hrw : T.getD k default with ⟨s0, si, r⟩
    have hE := hE s0 si r hrw
    rw [hE] at shr hlen
    have hsl := rv_len s0
    generalize hmm : min ci cj = m0 at shr hm0
    refine HB_sub (loc := LI T S i j ci cj f k 0 m0 (.am s0 si r)) ?_ ?_
    · refine ⟨rfl, rfl, rfl, rfl, rfl, rfl, rfl, rfl, rfl, rfl, rfl, ?_, ?_, trivial⟩
      · show some (V.int (if (cj : Int) < ci then (cj : Int) else ci)) = _
        rw [hm0]
      · show some (amV (T.getD k default)) = _
        rw [hrw]; rfl
    refine HB_cons (HS_mono (P := FBb S T i j ci cj f k (.am s0 si r) s0)
      (HS_for_range rfl rfl rfl (FBr S T i j ci cj f k m0 (.am s0 si r) s0) ?_) ?_)
    · refine HA_cons (HE_bin (HE_bin (HE_len_str rfl (HE_am (v := .str s0) rfl rfl rfl ⟨_, rfl, by omega, ?_⟩))))
      refine HE_int ?_
      refine HE_name (v := .int m0) rfl rfl ?_
      refine HA_cons (HE_neg (HE_int ⟨_, rfl, ?_⟩))
      refine HA_cons (HE_neg (HE_int ⟨_, rfl, ?_⟩))
      have hml := shr.2.1
      refine HA_nil ⟨_, _, _, (rv s0).length - m0, rfl, .inr rfl, by omega, by omega, by omega, by omega, ?_, ⟨rfl, shr, ?_⟩, ?_, ?_⟩
      · unfold Builtin.Range.rangeSize
        rw [if_neg (by decide)]
        split
        · simp only [Int.neg_neg, Int.ediv_one]; omega
        · omega
      · walk_at "sub"
      · rintro n σ hn ⟨hob, sh, hsub⟩
        obtain ⟨m, hmn⟩ : ∃ m, m = m0 + n := ⟨_, rfl⟩
        rw [← hmn] at sh hsub
        have hi2 : ((s0.length : Int) - 1 - m0) + n * (-1) = ((s0.length - 1 - m : Nat) : Int) := by omega
        rw [hi2]
        have sh1 := sh.1
        have sh2 := sh.2.1
        refine HB_sub (loc := ("i2", .int ((s0.length - 1 - m : Nat) : Int)) :: LI T S i j ci cj f k 0 m (.am s0 si r)) ?_ ?_
        · refine ⟨?_, ?_⟩
          · rw [lookup_setL, if_pos rfl]
          · have key : ∀ (L : List (Str × V)), (∀ p ∈ L, p.1 ≠ ("i2" : Str)) → Sub L σ.loc → Sub L (setL "i2" (.int ((s0.length - 1 - m : Nat) : Int)) σ.loc) := by
              intro L
              induction L with
              | nil => intro _ _; trivial
              | cons p L ih =>
                obtain ⟨y, u⟩ := p
                rintro hne ⟨a, b⟩
                refine ⟨?_, ih (fun q hq => hne q (.tail _ hq)) b⟩
                rw [lookup_setL, if_neg (hne (y, u) (.head _))]; exact a
            refine key _ ?_ hsub
            intro p hp
            have hk : (LI T S i j ci cj f k 0 m (.am s0 si r)).all (fun p => !(p.1 == ("i2" : Str))) = true := by rfl
            have := List.all_eq_true.mp hk p hp
            simpa using this
        show HB _ _ ⟨_, σ.ob⟩ _
        rw [hob]
        refine HB_abs fun Q1 hQ1 => ?_
        refine HB_cons (HS_if (HT_cmp (HE_bin (HE_name (v := .int S.c) rfl rfl (HE_name (v := .int m) rfl rfl ?_)))))
        refine HE_name (v := .int S.lb) rfl rfl ⟨_, rfl, ?_⟩
        by_cases q : S.c - m = S.lb
        · have : (S.c - (m : Int) == S.lb) = true := beq_iff_eq.mpr q
          rw [this, if_pos rfl]
          refine HB_cons (HS_assign rfl (HE_neg (HE_int ⟨_, rfl, ?_⟩)))
          refine HB_cons (HS_break ?_)
          refine hQ1 _ _ ⟨rfl, rfl, m, -1, ⟨sh, .inr (.inl ⟨by omega, by omega, by decide⟩)⟩, ?_⟩
          walk_at "sub"
        · have hq : (S.c - (m : Int) == S.lb) = false := by simpa using q
          rw [hq, if_neg (by decide)]
          have hmt : m < (txt S).length := by omega
          have hme : m < (rv s0).length := by omega
          have ht := txt_getD S h0 h1 h2 hmt
          have he := rv_getD s0 (m := m) (by omega)
          refine HB_nil ?_
          refine HB_cons (HS_assign rfl (HE_bin (HE_ord rfl (HE_item_str (HE_self (v := .str S.cur) rfl rfl rfl rfl rfl (HE_bin (HE_bin (HE_name (v := .int S.c) rfl rfl ?_))))))))
          refine HE_int ?_
          refine HE_name (v := .int m) rfl rfl ?_
          refine ⟨_, _, rfl, rfl, by omega, by omega, by omega, _, rfl, rfl, ?_⟩
          refine HE_ord rfl (HE_item_str (HE_am (v := .str s0) rfl rfl rfl (HE_name (v := .int ((s0.length - 1 - m : Nat) : Int)) rfl rfl ⟨_, _, rfl, rfl, by omega, by omega, by omega, _, rfl, rfl, ?_⟩)))
          obtain ⟨dd, hdd⟩ : ∃ dd : Int, dd = ((txt S).getD m 0 : Int) - ((rv s0).getD m 0 : Int) := ⟨_, rfl⟩
          have hddv : ((S.cur.cps.getD (S.c - 1 - m).toNat 0 : Nat) : Int) - ((s0.cps.getD (s0.length - 1 - m) 0 : Nat) : Int) = dd := by rw [hdd, ht, he]
          refine HB_sub (loc := LI T S i j ci cj f k dd m (.am s0 si r)) ?_ ?_
          · refine ⟨rfl, rfl, rfl, rfl, rfl, rfl, rfl, rfl, rfl, rfl, ?_, rfl, rfl, trivial⟩
            show some (V.int (((S.cur.cps.getD (S.c - 1 - m).toNat 0 : Nat) : Int) - ((s0.cps.getD ((s0.length - 1 - m : Nat) : Int).toNat 0 : Nat) : Int))) = _
            rw [Int.toNat_natCast, hddv]
          refine HB_cons (HS_if (HT_cmp (HE_name (v := .int dd) rfl rfl (HE_int ⟨_, rfl, ?_⟩))))
          by_cases z : dd = 0
          · have : (dd != 0) = false := by simp [z]
            rw [this, if_neg (by decide)]
            refine HB_nil (HB_cons (HS_aug (a := .int m) rfl rfl (HE_int ?_)))
            refine HB_nil (hQ1 _ _ ⟨rfl, ?_, ?_⟩)
            · rw [← Nat.add_assoc, ← hmn]
              exact share_step sh hmt hme (by omega)
            · rw [← Nat.add_assoc, ← hmn, z]
              refine ⟨rfl, rfl, rfl, rfl, rfl, rfl, rfl, rfl, rfl, rfl, rfl, ?_, rfl, trivial⟩
              show some (V.int ((m : Int) + 1)) = _
              push_cast; rfl
          · have : (dd != 0) = true := by simp [z]
            rw [this, if_pos rfl]
            refine HB_cons (HS_break (hQ1 _ _ ⟨rfl, rfl, m, dd, ⟨sh, .inr (.inr ⟨hme, hmt, hdd, z⟩)⟩, ?_⟩))
            walk_at "sub"
      · rintro σ ⟨hob, sh, hsub⟩
        have e : m0 + ((rv s0).length - m0) = (rv s0).length := by omega
        rw [e] at sh hsub
        exact ⟨rfl, hob, _, 0, ⟨sh, .inl ⟨rfl, rfl⟩⟩, hsub⟩
    · rintro φ σ ⟨rfl, hob, m, dd, cm, hsub⟩
      refine HB_sub hsub ?_
      rw [hob]
      clear hsub hob
      rw [← hE] at cm
      refine HB_cons (HS_mono (P := FBc S T i j f) (HS_if (HT_cmp (HE_name (v := .int dd) rfl rfl (HE_int ⟨_, rfl, ?_⟩)))) ?_)
      · by_cases z : dd < 0
        · rw [decide_eq_true z, if_pos rfl]
          refine HB_cons (HS_assign rfl (HE_name (v := .int k) rfl rfl ?_))
          refine HB_cons (HS_assign rfl (HE_name (v := .int m) rfl rfl ?_))
          refine HB_nil ⟨rfl, rfl, i, k, ci, m, sr.below O hk cm z, ?_⟩
          walk_at "sub"
        · rw [decide_eq_false z, if_neg (by decide)]
          refine HB_cons (HS_assign rfl (HE_name (v := .int k) rfl rfl ?_))
          refine HB_cons (HS_assign rfl (HE_name (v := .int m) rfl rfl ?_))
          refine HB_nil ⟨rfl, rfl, k, j, m, cj, sr.above hk cm z, ?_⟩
          walk_at "sub"
      · rintro φ σ ⟨rfl, hob, i', j', ci', cj', st, hsub⟩
        refine HB_sub hsub ?_
        rw [hob]
        clear hsub hob
        have a1 := st.le
        have a2 := st.m1
        have a3 := st.m2
        refine HB_cons (HS_if (HT_cmp (HE_bin (HE_name (v := .int j') rfl rfl (HE_name (v := .int i') rfl rfl ?_)))))
        refine HE_int ⟨_, rfl, ?_⟩
        by_cases q : (j' : Int) - i' ≤ 1
        · rw [decide_eq_true q, if_pos rfl]
          refine HB_cons (HS_if (HT_cmp (HE_name (v := .int i') rfl rfl (HE_int ⟨_, rfl, ?_⟩))))
          have exitC : i' < j' → (∃ d, 0 ≤ d ∧ Cmp (txt S) (eR T i') ci' d) → Chn T (txt S) ci' i' := by
            rintro lt ⟨d0, hd0, hc0⟩
            have hjn' := st.jn
            refine .start O (by omega) hc0 hd0 fun q hq hqn => ?_
            have hje : j' ≤ q := by omega
            rcases st.at_j with ⟨e, _⟩ | ⟨e, dj, hdj, hcj⟩
            · omega
            · have l1 := (cmp_lt hcj).mp hdj
              rcases Nat.lt_or_eq_of_le hje with z | z
              · exact ltB_trans l1 (O.inc _ _ z hqn)
              · rw [← z]; exact l1
          by_cases q1 : (0 : Int) < i'
          · rw [decide_eq_true q1, if_pos rfl]
            have lt : i' < j' := by
              rcases Nat.lt_or_eq_of_le a1 with z | z
              · exact z
              · have := (st.eq z).1; omega
            have hc : Chn T (txt S) ci' i' := by
              rcases st.at_i lt with ⟨z, _, _⟩ | z
              · omega
              · exact exitC lt z
            refine HB_cons (HS_break (hQ0 _ _ ⟨rfl, rfl, i', ci', hc, ?_⟩))
            walk_at "sub"
          · rw [decide_eq_false q1, if_neg (by decide)]
            refine HB_nil (HB_cons (HS_if (HT_cmp (HE_name (v := .int j') rfl rfl (HE_name (v := .int i') rfl rfl ⟨_, rfl, ?_⟩)))))
            by_cases q2 : j' = i'
            · have : ((j' : Int) == i') = true := by simp [q2]
              rw [this, if_pos rfl]
              obtain ⟨e1, e2, e3⟩ := st.eq q2.symm
              refine HB_cons (HS_break (hQ0 _ _ ⟨rfl, rfl, i', ci', ?_, ?_⟩))
              · rw [e1, e2]; exact .start0 hT e3
              · walk_at "sub"
            · have : ((j' : Int) == i') = false := by simp; omega
              rw [this, if_neg (by decide)]
              have lt : i' < j' := by omega
              refine HB_nil (HB_cons (HS_if (HT_val (HE_name (v := .bool f) rfl rfl ⟨f, rfl, ?_⟩))))
              cases f with
              | true =>
                rw [if_pos rfl]
                have hc : Chn T (txt S) ci' i' := by
                  rcases st.at_i lt with ⟨_, _, z⟩ | z
                  · cases z
                  · exact exitC lt z
                refine HB_cons (HS_break (hQ0 _ _ ⟨rfl, rfl, i', ci', hc, ?_⟩))
                walk_at "sub"
              | false =>
                rw [if_neg (by decide)]
                refine HB_nil (HB_cons (HS_assign rfl (HE_bool ?_)))
                refine HB_nil (HB_nil (hQ0 _ _ ⟨2 * (j' - i') + 0, ?_, rfl, i', j', ci', cj', true, rfl, ⟨lt, st.jn, ?_, st.at_j, fun _ => ⟨by omega, by omega⟩⟩, ?_⟩))
                · show 2 * (j' - i') + 0 < 2 * (j - i) + 1
                  omega
                · rcases st.at_i lt with ⟨z1, z2, _⟩ | z
                  · exact .inr (.inl ⟨z1, z2, by omega⟩)
                  · exact .inr (.inr z)
                · walk_at "sub"
        · rw [decide_eq_false q, if_neg (by decide)]
          refine HB_nil (HB_nil (hQ0 _ _ ⟨2 * (j' - i') + (if f = true then 0 else 1), ?_, rfl, i', j', ci', cj', f, rfl, ⟨by omega, st.jn, ?_, st.at_j, fun e => by have := st.ff e; omega⟩, ?_⟩))
          · have := a3 (by omega)
            omega
          · rcases st.at_i (by omega) with z | z
            · exact .inl z
            · exact .inr (.inr z)
          · walk_at "sub"
  · rintro φ σ ⟨rfl, hob, i, ci, ch, hsub⟩
    refine HB_sub hsub ?_
    rw [hob]
    clear hsub hob
    refine HB_cons (HS_while rfl (FBz S T ci) (n := i) ⟨rfl, ch, by walk_at "sub"⟩ ?_)
    rintro n σ ⟨hob, ch, hsub⟩
    refine HT_val (HE_bool ⟨true, rfl, ?_⟩)
    rw [if_pos rfl]
    refine HB_sub hsub ?_
    rw [hob]
    clear hsub hob
    refine HB_abs fun Q2 hQ2 => ?_
    have hn := ch.lt
    have hlen := hrow n hn
    refine HB_cons (HS_assign rfl (HE_item (HE_name (v := .list (T.map amV)) rfl rfl (HE_name (v := .int n) rfl rfl ⟨_, _, _, rfl, rfl, by omega, by omega, T_at hn, ?_⟩))))
    have hE : ∀ s0 si r, T.getD n default = (s0, si, r) → eR T n = rv s0 ∧ sR T n = si ∧ vR T n = r := fun s0 si r e => by unfold eR sR vR; rw [e]; exact ⟨rfl, rfl, rfl⟩
    rcases hrw : T.getD n default with ⟨s0, si, r⟩
    obtain ⟨hE, hS, hV⟩ := hE s0 si r hrw
    have hsl := rv_len s0
    rw [hE] at hlen
    refine HB_sub (loc := [("self", .self), ("v", .list (T.map amV)), ("i", .int n), ("c", .int S.c), ("common_i", .int ci), ("w", .am s0 si r)]) ?_ ?_
    · refine ⟨rfl, rfl, rfl, rfl, rfl, ?_, trivial⟩
      show some (amV (T.getD n default)) = _
      rw [hrw]; rfl
    refine HB_cons (HS_if (HT_cmp (HE_name (v := .int ci) rfl rfl (HE_len_str rfl (HE_am (v := .str s0) rfl rfl rfl ⟨_, rfl, by omega, _, rfl, ?_⟩)))))
    by_cases q : (s0.length : Int) ≤ ci
    · rw [decide_eq_true q, if_pos rfl]
      refine HB_cons (HS_cursor rfl rfl rfl (HE_bin (HE_name (v := .int S.c) rfl rfl (HE_len_str rfl (HE_am (v := .str s0) rfl rfl rfl ⟨_, rfl, by omega, rfl, _, rfl, ?_⟩)))))
      refine HB_cons (HS_ret (HE_am (v := .int r) rfl rfl rfl ?_))
      have := h _ _ (ch.hit (by rw [hE]; omega))
      rw [hE, hsl, hV] at this
      exact hQ2 _ _ this
    · rw [decide_eq_false q, if_neg (by decide)]
      refine HB_nil (HB_cons (HS_assign rfl (HE_am (v := .int si) rfl rfl rfl ?_)))
      refine HB_cons (HS_if (HT_cmp (HE_name (v := .int si) rfl rfl (HE_int ⟨_, rfl, ?_⟩))))
      by_cases z : si < 0
      · rw [decide_eq_true z, if_pos rfl]
        refine HB_cons (HS_ret (HE_int ?_))
        have := h _ _ (ch.stop O (by rw [hE]; omega) (by rw [hS]; exact z))
        have this2 : Q (.int 0) S.ob := by simpa using this
        exact hQ2 _ _ this2
      · rw [decide_eq_false z, if_neg (by decide)]
        have hs1 := (O.sub n hn).2.1
        rw [hS] at hs1
        have nx := ch.next O (by rw [hE]; omega) (by rw [hS]; omega)
        rw [hS] at nx
        refine HB_nil (HB_nil (hQ2 _ _ ⟨si.toNat, by omega, rfl, nx, ?_⟩))
        refine ⟨rfl, rfl, ?_, rfl, rfl, trivial⟩
        show some (V.int si) = _
        rw [Int.toNat_of_nonneg (by omega)]
end Mine

end

-- X5
section
namespace Mine

noncomputable def mkS (l : List Nat) : Str := ⟨l.toArray⟩
theorem mkS_len (l : List Nat) : (mkS l).length = l.length := by show l.toArray.size = _; simp
theorem mkS_cps (s : Str) : mkS s.cps.toList = s := by unfold mkS; simp
theorem mkS_app (a b : List Nat) : mkS a ++ mkS b = mkS (a ++ b) := by
  show (⟨(mkS a).cps ++ (mkS b).cps⟩ : Str) = _
  unfold mkS; simp
theorem mkS_inj {a b : List Nat} (h : mkS a = mkS b) : a = b := by
  have := congrArg (fun s => s.cps.toList) h
  simpa [mkS] using this
theorem sl_ss (l : List Nat) {i j : Nat} (h : i ≤ j) (h2 : j ≤ l.length) : Txt.slice (mkS l) (some i) (some j) = mkS ((l.drop i).take (j - i)) := by
  have := slice_closes (x := mkS l) (i := i) (j := j) ⟨by omega, by omega, by simp [mkS]; omega⟩
  rw [beq_iff_eq.mp this]
  unfold mkS
  simp
theorem sl_ns (l : List Nat) {j : Nat} (h2 : j ≤ l.length) : Txt.slice (mkS l) none (some j) = mkS (l.take j) := by
  have := slice_closes_to (x := mkS l) (j := j) ⟨by omega, by simp [mkS]; omega⟩
  rw [beq_iff_eq.mp this]
  unfold mkS
  simp
theorem sl_sn (l : List Nat) {i : Nat} (h : i ≤ l.length) : Txt.slice (mkS l) (some i) none = mkS (l.drop i) := by
  rw [slice_from_eq (x := mkS l) (i := i) (b := l.length) (by omega) (by rw [mkS_len]; omega) (by rw [mkS_len])]
  unfold mkS
  simp only [List.toList_toArray, Int.toNat_natCast]
  congr 2
  rw [List.take_of_length_le]
  simp

/-- the stemmer with its text as a list; the limit is the text's end -/
noncomputable abbrev Zs (x : List Nat) (c lb b k : Int) (reg : Option (Int × Int)) : Sm := ⟨mkS x, c, x.length, lb, b, k, reg⟩

theorem Zs_sl (x : List Nat) (c lb : Int) {b k : Nat} (reg : Option (Int × Int)) (s : List Nat) (h1 : b ≤ k) (h2 : k ≤ x.length) :
    (Zs x c lb b k reg).sl (mkS s) = Zs (x.take b ++ s ++ x.drop k) (if c ≥ k then c + (s.length - (k - b)) else if c > b then b else c) lb b (b + s.length) reg := by
  unfold Sm.sl Sm.rep Zs
  dsimp only
  have e0 := sl_ss x (i := 0) (j := b) (Nat.zero_le _) (by omega)
  simp only [Int.ofNat_zero, Nat.sub_zero, List.drop_zero] at e0
  rw [e0, sl_sn x h2, mkS_app, mkS_app, mkS_len]
  congr 1
  simp only [List.length_append, List.length_take, List.length_drop]
  omega
end Mine

end

-- X6
section
namespace Mine

theorem FindOk.le {T : List Row} {t : List Nat} {n : Nat} {res : Int} (h : FindOk T t n res) : n ≤ t.length := by
  rcases h with ⟨k, _, p, rfl, _⟩ | ⟨rfl, _⟩
  · exact p.2.1
  · exact Nat.zero_le _
theorem txt_Zs (x : List Nat) (lb : Nat) (b k : Int) (reg) : txt (Zs x x.length lb b k reg) = (x.drop lb).reverse := by
  unfold txt Zs mkS
  simp

theorem len0 (k : Nat) (h : k < (amRows (cS 6 13)).length) : (eR (amRows (cS 6 13)) k).length ≤ 1000 := by
  have : ((List.range (amRows (cS 6 13)).length).all fun k => decide ((eR (amRows (cS 6 13)) k).length ≤ 1000)) = true := by decide +kernel
  exact of_decide_eq_true (List.all_eq_true.mp this k (List.mem_range.mpr h))
noncomputable def shortT (T : List Row) : Bool := decide (0 < T.length) && decide (T.length ≤ 1000) && (List.range T.length).all fun k => decide ((eR T k).length ≤ 1000)
theorem short0 : shortT (amRows (cS 6 13)) = true := by decide +kernel
theorem short1 : shortT (amRows (cS 6 14)) = true := by decide +kernel
theorem short2 : shortT (amRows (cS 6 15)) = true := by decide +kernel
theorem short3 : shortT (amRows (cS 6 16)) = true := by decide +kernel
theorem short4 : shortT (amRows (cS 6 17)) = true := by decide +kernel
theorem short5 : shortT (amRows (cS 6 18)) = true := by decide +kernel
theorem short6 : shortT (amRows (cS 6 19)) = true := by decide +kernel
theorem short7 : shortT (amRows (cS 6 20)) = true := by decide +kernel

/-- find_among_b at the text's end -/
theorem find_Z {d : Nat} (hd : d < 500) {T : List Row} (O : TabOk T) (sh : shortT T = true) (x : List Nat) {lb : Nat} (hlb : lb ≤ x.length) (hx : x.length ≤ 100000) (b k : Int) (reg) {Q : V → List (Str × V) → Prop}
    (h : ∀ n res, FindOk T (x.drop lb).reverse n res → n ≤ x.length - lb → Q (.int res) (Zs x (x.length - n) lb b k reg).ob) : HC d .stem 140 [.self, .list (T.map amV)] (Zs x x.length lb b k reg).ob Q := by
  unfold shortT at sh
  simp only [Bool.and_eq_true, decide_eq_true_eq, List.all_eq_true, List.mem_range] at sh
  obtain ⟨⟨s1, s2⟩, s3⟩ := sh
  refine find_b_ hd (Zs x x.length lb b k reg) T O s1 s2 s3 (by rw [mkS_len]; exact hx) (by show (0 : Int) ≤ lb; omega) (by show (lb : Int) ≤ x.length; omega) (by show (x.length : Int) ≤ (mkS x).length; rw [mkS_len]; exact Int.le_refl _) fun n res hf => ?_
  rw [txt_Zs] at hf
  refine h n res hf ?_
  have := hf.le
  simpa using this

theorem cut_end (x : List Nat) {m : Nat} (lb b : Nat) (h : m ≤ x.length) (reg) : (Zs x m lb m x.length reg).sl Str.empty = Zs (x.take m) m lb m m reg := by
  have := Zs_sl x m lb (b := m) (k := x.length) reg [] h (Nat.le_refl _)
  rw [show Str.empty = mkS [] from rfl, this]
  simp only [List.drop_length, List.append_nil, List.length_nil]
  congr 1
  · split
    · have : m = x.length := by omega
      subst this; simp
    · rw [if_neg (by omega)]

theorem r_adjective_ {d : Nat} (hd : d < 410) (x : List Nat) {lb : Nat} (hlb : lb ≤ x.length) (hx : x.length ≤ 100000) (b k : Int) (reg) {Q : V → List (Str × V) → Prop}
    (h : ∀ n res, FindOk (amRows (cS 6 14)) (x.drop lb).reverse n res → n ≤ x.length - lb → ∀ b' k', if res = 0 then Q (.bool false) (Zs x (x.length - n) lb b' k' reg).ob else Q (.bool true) (Zs (x.take (x.length - n)) ((x.length - n : Nat) : Int) lb b' k' reg).ob) :
    HC d .stem 251 [.self] (Zs x x.length lb b k reg).ob Q := by
  refine HC_body fn251 (by omega) rfl (by rfl) ?_
  refine HB_cons (HS_ket rfl rfl rfl (HE_self (v := .int x.length) rfl rfl rfl rfl rfl ⟨rfl, _, rfl, ?_⟩))
  refine HB_cons (HS_if (HT_cmp (HE_meth (fa := 140) (d := d + 1) rfl rfl rfl (fun P => by kernel_rfl) (Nat.le_refl _)
    (HA_cons (HE_cattr rfl (fun P => by kernel_rfl) (fun g O => tab_vr tab1 g O) (HA_nil (find_Z (by omega) (tabOk_of ok1) short1 x hlb hx b x.length reg fun n res hf hn => HE_int ⟨_, rfl, ?_⟩)))))))
  have h := h n res hf hn
  by_cases z : res = 0
  · have : (res == 0) = true := by simp [z]
    rw [this, if_pos rfl]
    have := h b x.length
    rw [if_pos z] at this
    exact HB_cons (HS_ret (HE_bool this))
  · have : (res == 0) = false := by simp [z]
    rw [this, if_neg (by decide)]
    refine HB_nil (HB_cons (HS_bra rfl rfl rfl (HE_self (v := .int (x.length - n)) rfl rfl rfl rfl rfl ⟨rfl, _, rfl, ?_⟩)))
    obtain ⟨m, hm⟩ : ∃ m, m = x.length - n := ⟨_, rfl⟩
    have e : (x.length : Int) - n = (m : Int) := by omega
    rw [e]
    refine HB_cons (HS_expr (HE_meth (fa := 161) (d := d + 1) rfl rfl rfl (fun P => by kernel_rfl) (Nat.le_refl _) (HA_nil (slice_del_ (by omega) (Zs x m lb m x.length reg) (by rw [mkS_len]; exact hx) (by show (0 : Int) ≤ m; omega) (by show (m : Int) ≤ x.length; omega) (Int.le_refl _) (by show (x.length : Int) ≤ (mkS x).length; rw [mkS_len]; exact Int.le_refl _) ⟨trivial, ?_⟩))))
    rw [cut_end x lb m (by omega)]
    have := h m m
    rw [if_neg z, ← hm] at this
    exact HB_cons (HS_ret (HE_bool this))
theorem r_reflexive_ {d : Nat} (hd : d < 410) (x : List Nat) {lb : Nat} (hlb : lb ≤ x.length) (hx : x.length ≤ 100000) (b k : Int) (reg) {Q : V → List (Str × V) → Prop}
    (h : ∀ n res, FindOk (amRows (cS 6 16)) (x.drop lb).reverse n res → n ≤ x.length - lb → ∀ b' k', if res = 0 then Q (.bool false) (Zs x (x.length - n) lb b' k' reg).ob else Q (.bool true) (Zs (x.take (x.length - n)) ((x.length - n : Nat) : Int) lb b' k' reg).ob) :
    HC d .stem 265 [.self] (Zs x x.length lb b k reg).ob Q := by
  refine HC_body fn265 (by omega) rfl (by rfl) ?_
  refine HB_cons (HS_ket rfl rfl rfl (HE_self (v := .int x.length) rfl rfl rfl rfl rfl ⟨rfl, _, rfl, ?_⟩))
  refine HB_cons (HS_if (HT_cmp (HE_meth (fa := 140) (d := d + 1) rfl rfl rfl (fun P => by kernel_rfl) (Nat.le_refl _)
    (HA_cons (HE_cattr rfl (fun P => by kernel_rfl) (fun g O => tab_vr tab3 g O) (HA_nil (find_Z (by omega) (tabOk_of ok3) short3 x hlb hx b x.length reg fun n res hf hn => HE_int ⟨_, rfl, ?_⟩)))))))
  have h := h n res hf hn
  by_cases z : res = 0
  · have : (res == 0) = true := by simp [z]
    rw [this, if_pos rfl]
    have := h b x.length
    rw [if_pos z] at this
    exact HB_cons (HS_ret (HE_bool this))
  · have : (res == 0) = false := by simp [z]
    rw [this, if_neg (by decide)]
    refine HB_nil (HB_cons (HS_bra rfl rfl rfl (HE_self (v := .int (x.length - n)) rfl rfl rfl rfl rfl ⟨rfl, _, rfl, ?_⟩)))
    obtain ⟨m, hm⟩ : ∃ m, m = x.length - n := ⟨_, rfl⟩
    have e : (x.length : Int) - n = (m : Int) := by omega
    rw [e]
    refine HB_cons (HS_expr (HE_meth (fa := 161) (d := d + 1) rfl rfl rfl (fun P => by kernel_rfl) (Nat.le_refl _) (HA_nil (slice_del_ (by omega) (Zs x m lb m x.length reg) (by rw [mkS_len]; exact hx) (by show (0 : Int) ≤ m; omega) (by show (m : Int) ≤ x.length; omega) (Int.le_refl _) (by show (x.length : Int) ≤ (mkS x).length; rw [mkS_len]; exact Int.le_refl _) ⟨trivial, ?_⟩))))
    rw [cut_end x lb m (by omega)]
    have := h m m
    rw [if_neg z, ← hm] at this
    exact HB_cons (HS_ret (HE_bool this))
theorem r_noun_ {d : Nat} (hd : d < 410) (x : List Nat) {lb : Nat} (hlb : lb ≤ x.length) (hx : x.length ≤ 100000) (b k : Int) (reg) {Q : V → List (Str × V) → Prop}
    (h : ∀ n res, FindOk (amRows (cS 6 18)) (x.drop lb).reverse n res → n ≤ x.length - lb → ∀ b' k', if res = 0 then Q (.bool false) (Zs x (x.length - n) lb b' k' reg).ob else Q (.bool true) (Zs (x.take (x.length - n)) ((x.length - n : Nat) : Int) lb b' k' reg).ob) :
    HC d .stem 279 [.self] (Zs x x.length lb b k reg).ob Q := by
  refine HC_body fn279 (by omega) rfl (by rfl) ?_
  refine HB_cons (HS_ket rfl rfl rfl (HE_self (v := .int x.length) rfl rfl rfl rfl rfl ⟨rfl, _, rfl, ?_⟩))
  refine HB_cons (HS_if (HT_cmp (HE_meth (fa := 140) (d := d + 1) rfl rfl rfl (fun P => by kernel_rfl) (Nat.le_refl _)
    (HA_cons (HE_cattr rfl (fun P => by kernel_rfl) (fun g O => tab_vr tab5 g O) (HA_nil (find_Z (by omega) (tabOk_of ok5) short5 x hlb hx b x.length reg fun n res hf hn => HE_int ⟨_, rfl, ?_⟩)))))))
  have h := h n res hf hn
  by_cases z : res = 0
  · have : (res == 0) = true := by simp [z]
    rw [this, if_pos rfl]
    have := h b x.length
    rw [if_pos z] at this
    exact HB_cons (HS_ret (HE_bool this))
  · have : (res == 0) = false := by simp [z]
    rw [this, if_neg (by decide)]
    refine HB_nil (HB_cons (HS_bra rfl rfl rfl (HE_self (v := .int (x.length - n)) rfl rfl rfl rfl rfl ⟨rfl, _, rfl, ?_⟩)))
    obtain ⟨m, hm⟩ : ∃ m, m = x.length - n := ⟨_, rfl⟩
    have e : (x.length : Int) - n = (m : Int) := by omega
    rw [e]
    refine HB_cons (HS_expr (HE_meth (fa := 161) (d := d + 1) rfl rfl rfl (fun P => by kernel_rfl) (Nat.le_refl _) (HA_nil (slice_del_ (by omega) (Zs x m lb m x.length reg) (by rw [mkS_len]; exact hx) (by show (0 : Int) ≤ m; omega) (by show (m : Int) ≤ x.length; omega) (Int.le_refl _) (by show (x.length : Int) ≤ (mkS x).length; rw [mkS_len]; exact Int.le_refl _) ⟨trivial, ?_⟩))))
    rw [cut_end x lb m (by omega)]
    have := h m m
    rw [if_neg z, ← hm] at this
    exact HB_cons (HS_ret (HE_bool this))

theorem r_derivational_ {d : Nat} (hd : d < 410) (x : List Nat) {lb : Nat} (hlb : lb ≤ x.length) (hx : x.length ≤ 100000) (b k : Int) (pV p2 : Int) {Q : V → List (Str × V) → Prop}
    (h : ∀ n res, FindOk (amRows (cS 6 19)) (x.drop lb).reverse n res → n ≤ x.length - lb → ∀ b' k', if res = 0 ∨ (x.length : Int) - n < p2 then ∀ r, Q r (Zs x (x.length - n) lb b' k' (some (pV, p2))).ob else ∀ r, Q r (Zs (x.take (x.length - n)) ((x.length - n : Nat) : Int) lb b' k' (some (pV, p2))).ob) :
    HC d .stem 286 [.self] (Zs x x.length lb b k (some (pV, p2))).ob (fun r ob => notRef r ∧ Q r ob) := by
  refine HC_body fn286 (by omega) rfl (by rfl) ?_
  refine HB_cons (HS_ket rfl rfl rfl (HE_self (v := .int x.length) rfl rfl rfl rfl rfl ⟨rfl, _, rfl, ?_⟩))
  refine HB_cons (HS_if (HT_cmp (HE_meth (fa := 140) (d := d + 1) rfl rfl rfl (fun P => by kernel_rfl) (Nat.le_refl _)
    (HA_cons (HE_cattr rfl (fun P => by kernel_rfl) (fun g O => tab_vr tab6 g O) (HA_nil (find_Z (by omega) (tabOk_of ok6) short6 x hlb hx b x.length (some (pV, p2)) fun n res hf hn => HE_int ⟨_, rfl, ?_⟩)))))))
  have h := h n res hf hn
  by_cases z : res = 0
  · have : (res == 0) = true := by simp [z]
    rw [this, if_pos rfl]
    have := h b x.length
    rw [if_pos (.inl z)] at this
    exact HB_cons (HS_ret (HE_bool ⟨trivial, this _⟩))
  · have : (res == 0) = false := by simp [z]
    rw [this, if_neg (by decide)]
    refine HB_nil (HB_cons (HS_bra rfl rfl rfl (HE_self (v := .int (x.length - n)) rfl rfl rfl rfl rfl ⟨rfl, _, rfl, ?_⟩)))
    refine HB_cons (HS_if (HT_cmp (HE_self (v := .int p2) rfl rfl rfl rfl rfl (HE_self (v := .int (x.length - n)) rfl rfl rfl rfl rfl ⟨_, rfl, ?_⟩))))
    by_cases z2 : (x.length : Int) - n < p2
    · rw [decide_eq_true z2, if_pos rfl]
      have := h (x.length - n) x.length
      rw [if_pos (.inr z2)] at this
      exact HB_cons (HS_ret (HE_bool ⟨trivial, this _⟩))
    · rw [decide_eq_false z2, if_neg (by decide)]
      obtain ⟨m, hm⟩ : ∃ m, m = x.length - n := ⟨_, rfl⟩
      have e : (x.length : Int) - n = (m : Int) := by omega
      rw [e]
      refine HB_nil (HB_cons (HS_expr (HE_meth (fa := 161) (d := d + 1) rfl rfl rfl (fun P => by kernel_rfl) (Nat.le_refl _) (HA_nil (slice_del_ (by omega) (Zs x m lb m x.length (some (pV, p2))) (by rw [mkS_len]; exact hx) (by show (0 : Int) ≤ m; omega) (by show (m : Int) ≤ x.length; omega) (Int.le_refl _) (by show (x.length : Int) ≤ (mkS x).length; rw [mkS_len]; exact Int.le_refl _) ⟨trivial, ?_⟩)))))
      rw [cut_end x lb m (by omega)]
      have := h m m
      rw [if_neg (by rintro (q | q); exact z q; exact z2 q), ← hm] at this
      exact HB_cons (HS_ret (HE_bool ⟨trivial, this _⟩))
end Mine

end

-- X7
section
namespace Mine

theorem ch_ne (x : List Nat) (m : Nat) (hm : 0 < m) (ch : Nat) (s : Str) (hs : s = ⟨#[ch]⟩) : (chAt (mkS x) ((m : Int) - 1) != s) = !(x.getD (m - 1) 0 == ch) := by
  have e : chAt (mkS x) ((m : Int) - 1) = ⟨#[x.getD (m - 1) 0]⟩ := by
    unfold chAt mkS
    rw [show ((m : Int) - 1).toNat = m - 1 by omega]
    congr 2
    simp [Array.getD_eq_getD_getElem?, List.getD_eq_getElem?_getD]
  rw [e, hs]
  by_cases q : x.getD (m - 1) 0 = ch
  · rw [q]; simp
  · have : (⟨#[x.getD (m - 1) 0]⟩ : Str) ≠ ⟨#[ch]⟩ := by intro z; injection z with z; simp at z; exact q (by simpa [List.getD_eq_getElem?_getD] using z)
    rw [bne_iff_ne.mpr this, beq_eq_false_iff_ne.mpr q]; rfl

noncomputable def preAY (x : List Nat) (lb m : Nat) : Bool := decide (lb < m) && (x.getD (m - 1) 0 == 1072 || x.getD (m - 1) 0 == 1103)

section
variable {F : Fi} {loc : List (Str × V)}
/-- self.cursor <= self.limit_backward or self.current[self.cursor - 1] != ch -/
theorem HT_pre {p1 p2 p3 p4 p5 p6 p7 p8 p9 p10 p11 p12 p13 pc pc2 : Pos} {k1 k2 : Nat} (hk : F.k = .stem) (hx : loc.lookup ("self" : Str) = some .self) (hl : isLoc F "self" = true) (x : List Nat) (hxl : x.length ≤ 100000) {m lb : Nat} (hm : m ≤ x.length) (b k : Int) (reg) (ch : Nat) (s : Str) (hs : s = ⟨#[ch]⟩) {Q : Bool → St → Prop}
    (h : Q (!(decide (lb < m) && x.getD (m - 1) 0 == ch)) ⟨loc, (Zs x m lb b k reg).ob⟩) :
    HT F (.BoolOp .Or [.Compare (.Attribute (.Name "self" p1) "cursor" p2) [.LtE] [.Attribute (.Name "self" p3) "limit_backward" p4] p5,
      .Compare (.Subscript (.Attribute (.Name "self" p6) "current" p7) (.BinOp (.Attribute (.Name "self" p8) "cursor" p9) .Sub (.Constant (.int 1) k1 p10) p11) p12) [.NotEq] [.Constant (.str s) k2 p13] pc] pc2) ⟨loc, (Zs x m lb b k reg).ob⟩ Q := by
  have hz : sizeLine = 16777216 := sizeLine_eq
  refine HT_or (HT_cmp (HE_self (v := .int m) hk hx hl (by decide +kernel) rfl (HE_self (v := .int lb) hk hx hl (by decide +kernel) rfl ⟨_, rfl, ?_⟩)))
  by_cases q : lb < m
  · rw [decide_eq_true q, Bool.true_and] at h
    rw [decide_eq_false (by omega), if_neg (by decide)]
    refine HT_cmp (HE_item_str (HE_self (v := .str (mkS x)) hk hx hl (by decide +kernel) rfl (HE_bin (HE_self (v := .int m) hk hx hl (by decide +kernel) rfl ?_))))
    refine HE_int ⟨_, _, rfl, rfl, by omega, by rw [mkS_len]; omega, by rw [mkS_len]; omega, HE_str ⟨_, rfl, ?_⟩⟩
    rw [ch_ne x m (by omega) ch s hs]; exact h
  · rw [decide_eq_false q, Bool.false_and] at h
    rw [decide_eq_true (by omega), if_pos rfl]
    exact h
end

theorem r_perfective_gerund_ {d : Nat} (hd : d < 410) (x : List Nat) {lb : Nat} (hlb : lb ≤ x.length) (hx : x.length ≤ 100000) (b k : Int) (reg) {Q : V → List (Str × V) → Prop}
    (h : ∀ n res, FindOk (amRows (cS 6 13)) (x.drop lb).reverse n res → n ≤ x.length - lb → ∀ c' b' k' : Int, if res = 0 ∨ (res = 1 ∧ preAY x lb (x.length - n) = false) then Q (.bool false) (Zs x c' lb b' k' reg).ob else Q (.bool true) (Zs (x.take (x.length - n)) c' lb b' k' reg).ob) :
    HC d .stem 244 [.self] (Zs x x.length lb b k reg).ob Q := by
  refine HC_body fn244 (by omega) rfl (by rfl) ?_
  refine HB_cons (HS_ket rfl rfl rfl (HE_self (v := .int x.length) rfl rfl rfl rfl rfl ⟨rfl, _, rfl, ?_⟩))
  refine HB_cons (HS_assign rfl (HE_meth (fa := 140) (d := d + 1) rfl rfl rfl (fun P => by kernel_rfl) (Nat.le_refl _)
    (HA_cons (HE_cattr rfl (fun P => by kernel_rfl) (fun g O => tab_vr tab0 g O) (HA_nil (find_Z (by omega) (tabOk_of ok0) short0 x hlb hx b x.length reg fun n res hf hn => ?_))))))
  refine HB_cons (HS_if (HT_cmp (HE_name (v := .int res) rfl rfl (HE_int ⟨_, rfl, ?_⟩))))
  have h := h n res hf hn
  by_cases z : res = 0
  · have : (res == 0) = true := by simp [z]
    rw [this, if_pos rfl]
    have := h (x.length - n) b x.length
    rw [if_pos (.inl z)] at this
    exact HB_cons (HS_ret (HE_bool this))
  · have : (res == 0) = false := by simp [z]
    rw [this, if_neg (by decide)]
    refine HB_nil (HB_cons (HS_bra rfl rfl rfl (HE_self (v := .int (x.length - n)) rfl rfl rfl rfl rfl ⟨rfl, _, rfl, ?_⟩)))
    obtain ⟨m, hm⟩ : ∃ m, m = x.length - n := ⟨_, rfl⟩
    have e : (x.length : Int) - n = (m : Int) := by omega
    rw [e]
    rw [← hm] at h
    have mle : m ≤ x.length := by omega
    have del : ∀ (c : Int) {P : V → List (Str × V) → Prop}, c ≤ m → P .none (Zs (x.take m) c lb m m reg).ob → HC (d + 1) .stem 161 [.self] (Zs x c lb m x.length reg).ob P := fun c P hc hp => by
      refine slice_del_ (by omega) (Zs x c lb m x.length reg) (by rw [mkS_len]; exact hx) (by show (0 : Int) ≤ m; omega) (by show (m : Int) ≤ x.length; omega) (Int.le_refl _) (by show (x.length : Int) ≤ (mkS x).length; rw [mkS_len]; exact Int.le_refl _) ?_
      have := Zs_sl x c lb (b := m) (k := x.length) reg [] mle (Nat.le_refl _)
      rw [show Str.empty = mkS [] from rfl, this]
      simp only [List.drop_length, List.append_nil, List.length_nil]
      have e2 : (if c ≥ (x.length : Int) then c + (((0 : Nat) : Int) - ((x.length : Int) - (m : Int))) else if c > (m : Int) then (m : Int) else c) = c := by
        split
        · omega
        · rw [if_neg (by omega)]
      rw [e2]
      simpa using hp
    refine HB_cons (HS_if (HT_cmp (HE_name (v := .int res) rfl rfl (HE_int ⟨_, rfl, ?_⟩))))
    by_cases z1 : res = 1
    · have : (res == 1) = true := by simp [z1]
      rw [this, if_pos rfl]
      refine HB_cons (HS_while rfl (fun n σ => n = 0 ∧ σ = ⟨[("self", .self), ("among_var", .int res)], (Zs x m lb m x.length reg).ob⟩) (n := 0) ⟨rfl, rfl⟩ ?_)
      rintro n' σ ⟨rfl, rfl⟩
      refine HT_val (HE_bool ⟨true, rfl, ?_⟩)
      rw [if_pos rfl]
      have good : preAY x lb m = true → Q (.bool true) (Zs (x.take m) ((m : Int) - 1) lb m m reg).ob := fun g => by
        have := h ((m : Int) - 1) m m
        rw [if_neg (by rintro (q | ⟨_, q⟩); exact z q; rw [g] at q; cases q)] at this
        exact this
      refine HB_cons (HS_try rfl rfl rfl ?_)
      refine HB_cons (HS_if (HT_pre rfl rfl rfl x hx mle m x.length reg 1072 _ rfl ?_))
      by_cases a : (decide (lb < m) && x.getD (m - 1) 0 == 1072) = true
      · rw [a]
        show HB _ _ _ _
        refine HB_nil (HB_cons (HS_augcursor rfl rfl rfl (HE_int ⟨rfl, _, rfl, ?_⟩)))
        refine HB_cons (HS_break ?_)
        refine HB_cons (HS_expr (HE_meth (fa := 161) (d := d + 1) rfl rfl rfl (fun P => by kernel_rfl) (Nat.le_refl _) (HA_nil (del (m - 1) (by omega) ⟨trivial, ?_⟩))))
        refine HB_nil (HB_cons (HS_ret (HE_bool (good ?_))))
        unfold preAY
        rw [Bool.and_eq_true] at a
        rw [a.1, a.2]; rfl
      · rw [Bool.not_eq_true] at a
        rw [a]
        show HB _ _ _ _
        refine HB_cons (HS_raise rfl rfl ⟨rfl, ?_⟩)
        refine HB_cons (HS_if (HT_pre rfl rfl rfl x hx mle m x.length reg 1103 _ rfl ?_))
        by_cases a' : (decide (lb < m) && x.getD (m - 1) 0 == 1103) = true
        · rw [a']
          show HB _ _ _ _
          refine HB_nil (HB_cons (HS_augcursor rfl rfl rfl (HE_int ⟨rfl, _, rfl, ?_⟩)))
          refine HB_cons (HS_break ?_)
          refine HB_cons (HS_expr (HE_meth (fa := 161) (d := d + 1) rfl rfl rfl (fun P => by kernel_rfl) (Nat.le_refl _) (HA_nil (del (m - 1) (by omega) ⟨trivial, ?_⟩))))
          refine HB_nil (HB_cons (HS_ret (HE_bool (good ?_))))
          unfold preAY
          rw [Bool.and_eq_true] at a'
          rw [a'.1, a'.2]; simp
        · rw [Bool.not_eq_true] at a'
          rw [a']
          show HB _ _ _ _
          have np : preAY x lb m = false := by
            unfold preAY
            cases q : decide (lb < m) with
            | false => rfl
            | true => rw [q, Bool.true_and] at a a'; rw [a, a']; rfl
          have := h m m x.length
          rw [if_pos (.inr ⟨z1, np⟩)] at this
          exact HB_cons (HS_ret (HE_bool this))
    · have : (res == 1) = false := by simp [z1]
      rw [this, if_neg (by decide)]
      refine HB_cons (HS_expr (HE_meth (fa := 161) (d := d + 1) rfl rfl rfl (fun P => by kernel_rfl) (Nat.le_refl _) (HA_nil (del m (by omega) ⟨trivial, ?_⟩))))
      have := h m m m
      rw [if_neg (by rintro (q | ⟨q, _⟩); exact z q; exact z1 q)] at this
      exact HB_nil (HB_cons (HS_ret (HE_bool this)))
theorem r_verb_ {d : Nat} (hd : d < 410) (x : List Nat) {lb : Nat} (hlb : lb ≤ x.length) (hx : x.length ≤ 100000) (b k : Int) (reg) {Q : V → List (Str × V) → Prop}
    (h : ∀ n res, FindOk (amRows (cS 6 17)) (x.drop lb).reverse n res → n ≤ x.length - lb → ∀ c' b' k' : Int, if res = 0 ∨ (res = 1 ∧ preAY x lb (x.length - n) = false) then Q (.bool false) (Zs x c' lb b' k' reg).ob else Q (.bool true) (Zs (x.take (x.length - n)) c' lb b' k' reg).ob) :
    HC d .stem 272 [.self] (Zs x x.length lb b k reg).ob Q := by
  refine HC_body fn272 (by omega) rfl (by rfl) ?_
  refine HB_cons (HS_ket rfl rfl rfl (HE_self (v := .int x.length) rfl rfl rfl rfl rfl ⟨rfl, _, rfl, ?_⟩))
  refine HB_cons (HS_assign rfl (HE_meth (fa := 140) (d := d + 1) rfl rfl rfl (fun P => by kernel_rfl) (Nat.le_refl _)
    (HA_cons (HE_cattr rfl (fun P => by kernel_rfl) (fun g O => tab_vr tab4 g O) (HA_nil (find_Z (by omega) (tabOk_of ok4) short4 x hlb hx b x.length reg fun n res hf hn => ?_))))))
  refine HB_cons (HS_if (HT_cmp (HE_name (v := .int res) rfl rfl (HE_int ⟨_, rfl, ?_⟩))))
  have h := h n res hf hn
  by_cases z : res = 0
  · have : (res == 0) = true := by simp [z]
    rw [this, if_pos rfl]
    have := h (x.length - n) b x.length
    rw [if_pos (.inl z)] at this
    exact HB_cons (HS_ret (HE_bool this))
  · have : (res == 0) = false := by simp [z]
    rw [this, if_neg (by decide)]
    refine HB_nil (HB_cons (HS_bra rfl rfl rfl (HE_self (v := .int (x.length - n)) rfl rfl rfl rfl rfl ⟨rfl, _, rfl, ?_⟩)))
    obtain ⟨m, hm⟩ : ∃ m, m = x.length - n := ⟨_, rfl⟩
    have e : (x.length : Int) - n = (m : Int) := by omega
    rw [e]
    rw [← hm] at h
    have mle : m ≤ x.length := by omega
    have del : ∀ (c : Int) {P : V → List (Str × V) → Prop}, c ≤ m → P .none (Zs (x.take m) c lb m m reg).ob → HC (d + 1) .stem 161 [.self] (Zs x c lb m x.length reg).ob P := fun c P hc hp => by
      refine slice_del_ (by omega) (Zs x c lb m x.length reg) (by rw [mkS_len]; exact hx) (by show (0 : Int) ≤ m; omega) (by show (m : Int) ≤ x.length; omega) (Int.le_refl _) (by show (x.length : Int) ≤ (mkS x).length; rw [mkS_len]; exact Int.le_refl _) ?_
      have := Zs_sl x c lb (b := m) (k := x.length) reg [] mle (Nat.le_refl _)
      rw [show Str.empty = mkS [] from rfl, this]
      simp only [List.drop_length, List.append_nil, List.length_nil]
      have e2 : (if c ≥ (x.length : Int) then c + (((0 : Nat) : Int) - ((x.length : Int) - (m : Int))) else if c > (m : Int) then (m : Int) else c) = c := by
        split
        · omega
        · rw [if_neg (by omega)]
      rw [e2]
      simpa using hp
    refine HB_cons (HS_if (HT_cmp (HE_name (v := .int res) rfl rfl (HE_int ⟨_, rfl, ?_⟩))))
    by_cases z1 : res = 1
    · have : (res == 1) = true := by simp [z1]
      rw [this, if_pos rfl]
      refine HB_cons (HS_while rfl (fun n σ => n = 0 ∧ σ = ⟨[("self", .self), ("among_var", .int res)], (Zs x m lb m x.length reg).ob⟩) (n := 0) ⟨rfl, rfl⟩ ?_)
      rintro n' σ ⟨rfl, rfl⟩
      refine HT_val (HE_bool ⟨true, rfl, ?_⟩)
      rw [if_pos rfl]
      have good : preAY x lb m = true → Q (.bool true) (Zs (x.take m) ((m : Int) - 1) lb m m reg).ob := fun g => by
        have := h ((m : Int) - 1) m m
        rw [if_neg (by rintro (q | ⟨_, q⟩); exact z q; rw [g] at q; cases q)] at this
        exact this
      refine HB_cons (HS_try rfl rfl rfl ?_)
      refine HB_cons (HS_if (HT_pre rfl rfl rfl x hx mle m x.length reg 1072 _ rfl ?_))
      by_cases a : (decide (lb < m) && x.getD (m - 1) 0 == 1072) = true
      · rw [a]
        show HB _ _ _ _
        refine HB_nil (HB_cons (HS_augcursor rfl rfl rfl (HE_int ⟨rfl, _, rfl, ?_⟩)))
        refine HB_cons (HS_break ?_)
        refine HB_cons (HS_expr (HE_meth (fa := 161) (d := d + 1) rfl rfl rfl (fun P => by kernel_rfl) (Nat.le_refl _) (HA_nil (del (m - 1) (by omega) ⟨trivial, ?_⟩))))
        refine HB_nil (HB_cons (HS_ret (HE_bool (good ?_))))
        unfold preAY
        rw [Bool.and_eq_true] at a
        rw [a.1, a.2]; rfl
      · rw [Bool.not_eq_true] at a
        rw [a]
        show HB _ _ _ _
        refine HB_cons (HS_raise rfl rfl ⟨rfl, ?_⟩)
        refine HB_cons (HS_if (HT_pre rfl rfl rfl x hx mle m x.length reg 1103 _ rfl ?_))
        by_cases a' : (decide (lb < m) && x.getD (m - 1) 0 == 1103) = true
        · rw [a']
          show HB _ _ _ _
          refine HB_nil (HB_cons (HS_augcursor rfl rfl rfl (HE_int ⟨rfl, _, rfl, ?_⟩)))
          refine HB_cons (HS_break ?_)
          refine HB_cons (HS_expr (HE_meth (fa := 161) (d := d + 1) rfl rfl rfl (fun P => by kernel_rfl) (Nat.le_refl _) (HA_nil (del (m - 1) (by omega) ⟨trivial, ?_⟩))))
          refine HB_nil (HB_cons (HS_ret (HE_bool (good ?_))))
          unfold preAY
          rw [Bool.and_eq_true] at a'
          rw [a'.1, a'.2]; simp
        · rw [Bool.not_eq_true] at a'
          rw [a']
          show HB _ _ _ _
          have np : preAY x lb m = false := by
            unfold preAY
            cases q : decide (lb < m) with
            | false => rfl
            | true => rw [q, Bool.true_and] at a a'; rw [a, a']; rfl
          have := h m m x.length
          rw [if_pos (.inr ⟨z1, np⟩)] at this
          exact HB_cons (HS_ret (HE_bool this))
    · have : (res == 1) = false := by simp [z1]
      rw [this, if_neg (by decide)]
      refine HB_cons (HS_expr (HE_meth (fa := 161) (d := d + 1) rfl rfl rfl (fun P => by kernel_rfl) (Nat.le_refl _) (HA_nil (del m (by omega) ⟨trivial, ?_⟩))))
      have := h m m m
      rw [if_neg (by rintro (q | ⟨q, _⟩); exact z q; exact z1 q)] at this
      exact HB_nil (HB_cons (HS_ret (HE_bool this)))
end Mine

end

-- X8
section
namespace Mine

noncomputable def isN (x : List Nat) (lb m : Nat) : Bool := decide (lb < m) && x.getD (m - 1) 0 == 1085
noncomputable def tidyX (x : List Nat) (lb n : Nat) (res : Int) : List Nat :=
  if res = 0 then x
  else if res = 1 then (if isN x lb (x.length - n) && isN x lb (x.length - n - 1) then x.take (x.length - n - 1) else x.take (x.length - n))
  else if res = 2 then (if isN x lb (x.length - n) then x.take (x.length - n) else x)
  else x.take (x.length - n)

theorem del_ {d : Nat} (hd : d < 430) (x : List Nat) (hx : x.length ≤ 100000) (lb : Nat) {m : Nat} (mle : m ≤ x.length) (reg) (c : Int) {P : V → List (Str × V) → Prop} (hc : c ≤ m) (hp : P .none (Zs (x.take m) c lb m m reg).ob) : HC d .stem 161 [.self] (Zs x c lb m x.length reg).ob P := by
  refine slice_del_ (by omega) (Zs x c lb m x.length reg) (by rw [mkS_len]; exact hx) (by show (0 : Int) ≤ m; omega) (by show (m : Int) ≤ x.length; omega) (Int.le_refl _) (by show (x.length : Int) ≤ (mkS x).length; rw [mkS_len]; exact Int.le_refl _) ?_
  have := Zs_sl x c lb (b := m) (k := x.length) reg [] mle (Nat.le_refl _)
  rw [show Str.empty = mkS [] from rfl, this]
  simp only [List.drop_length, List.append_nil, List.length_nil]
  have e2 : (if c ≥ (x.length : Int) then c + (((0 : Nat) : Int) - ((x.length : Int) - (m : Int))) else if c > (m : Int) then (m : Int) else c) = c := by
    split
    · omega
    · rw [if_neg (by omega)]
  rw [e2]
  simpa using hp

theorem isN_take (x : List Nat) (lb m k : Nat) (h : k ≤ m) : isN (x.take m) lb k = isN x lb k := by
  unfold isN
  by_cases q : lb < k
  · have : k - 1 < m := by omega
    simp [List.getD_eq_getElem?_getD, List.getElem?_take, this]
  · simp [q]

theorem r_tidy_up_ {d : Nat} (hd : d < 410) (x : List Nat) {lb : Nat} (hlb : lb ≤ x.length) (hx : x.length ≤ 100000) (b k : Int) (reg) {Q : V → List (Str × V) → Prop}
    (h : ∀ n res, FindOk (amRows (cS 6 20)) (x.drop lb).reverse n res → n ≤ x.length - lb → ∀ (r : V) (c' b' k' : Int), Q r (Zs (tidyX x lb n res) c' lb b' k' reg).ob) :
    HC d .stem 293 [.self] (Zs x x.length lb b k reg).ob (fun r ob => notRef r ∧ Q r ob) := by
  refine HC_body fn293 (by omega) rfl (by rfl) ?_
  refine HB_cons (HS_ket rfl rfl rfl (HE_self (v := .int x.length) rfl rfl rfl rfl rfl ⟨rfl, _, rfl, ?_⟩))
  refine HB_cons (HS_assign rfl (HE_meth (fa := 140) (d := d + 1) rfl rfl rfl (fun P => by kernel_rfl) (Nat.le_refl _)
    (HA_cons (HE_cattr rfl (fun P => by kernel_rfl) (fun g O => tab_vr tab7 g O) (HA_nil (find_Z (by omega) (tabOk_of ok7) short7 x hlb hx b x.length reg fun n res hf hn => ?_))))))
  refine HB_cons (HS_if (HT_cmp (HE_name (v := .int res) rfl rfl (HE_int ⟨_, rfl, ?_⟩))))
  have h := h n res hf hn
  unfold tidyX at h
  by_cases z : res = 0
  · have : (res == 0) = true := by simp [z]
    rw [this, if_pos rfl]
    rw [if_pos z] at h
    exact HB_cons (HS_ret (HE_bool ⟨trivial, h _ _ _ _⟩))
  · have : (res == 0) = false := by simp [z]
    rw [this, if_neg (by decide)]
    rw [if_neg z] at h
    refine HB_nil (HB_cons (HS_bra rfl rfl rfl (HE_self (v := .int (x.length - n)) rfl rfl rfl rfl rfl ⟨rfl, _, rfl, ?_⟩)))
    obtain ⟨m, hm⟩ : ∃ m, m = x.length - n := ⟨_, rfl⟩
    have e : (x.length : Int) - n = (m : Int) := by omega
    rw [e]
    rw [← hm] at h
    have mle : m ≤ x.length := by omega
    refine HB_cons (HS_if (HT_cmp (HE_name (v := .int res) rfl rfl (HE_int ⟨_, rfl, ?_⟩))))
    by_cases z1 : res = 1
    · have : (res == 1) = true := by simp [z1]
      rw [this, if_pos rfl]
      rw [if_pos z1] at h
      refine HB_cons (HS_expr (HE_meth (fa := 161) (d := d + 1) rfl rfl rfl (fun P => by kernel_rfl) (Nat.le_refl _) (HA_nil (del_ (by omega) x hx lb mle reg m (Int.le_refl _) ⟨trivial, ?_⟩))))
      obtain ⟨y, hy⟩ : ∃ y, y = x.take m := ⟨_, rfl⟩
      have yl : y.length = m := by rw [hy]; simp [mle]
      have hN : ∀ k, k ≤ m → isN y lb k = isN x lb k := fun k hk => by rw [hy]; exact isN_take x lb m k hk
      have hyx : y.length ≤ 100000 := by omega
      have tk : y.take (m - 1) = x.take (m - 1) := by rw [hy, List.take_take]; congr 1; omega
      rw [← hN m (Nat.le_refl _), ← hN (m - 1) (by omega), ← hy, ← tk] at h
      rw [← hy, ← yl]
      rw [← yl] at h
      clear hN tk hy
      refine HB_cons (HS_ket rfl rfl rfl (HE_self (v := .int y.length) rfl rfl rfl rfl rfl ⟨rfl, _, rfl, ?_⟩))
      refine HB_cons (HS_if (HT_pre rfl rfl rfl y hyx (Nat.le_refl _) y.length y.length reg 1085 _ rfl ?_))
      by_cases a : isN y lb y.length = true
      · rw [show (decide (lb < y.length) && y.getD (y.length - 1) 0 == 1085) = true from a]
        show HB _ _ _ _
        refine HB_nil (HB_cons (HS_augcursor rfl rfl rfl (HE_int ⟨rfl, _, rfl, ?_⟩)))
        have hpos : 0 < y.length := by
          unfold isN at a; rw [Bool.and_eq_true] at a; have := of_decide_eq_true a.1; omega
        obtain ⟨q, hq⟩ : ∃ q, q = y.length - 1 := ⟨_, rfl⟩
        have e : (y.length : Int) - 1 = (q : Int) := by omega
        rw [e]
        refine HB_cons (HS_bra rfl rfl rfl (HE_self (v := .int q) rfl rfl rfl rfl rfl ⟨rfl, _, rfl, ?_⟩))
        refine HB_cons (HS_if (HT_pre rfl rfl rfl y hyx (m := q) (by omega) q y.length reg 1085 _ rfl ?_))
        rw [a, Bool.true_and, ← hq] at h
        by_cases a' : isN y lb q = true
        · rw [show (decide (lb < q) && y.getD (q - 1) 0 == 1085) = true from a']
          show HB _ _ _ _
          refine HB_nil (HB_cons (HS_augcursor rfl rfl rfl (HE_int ⟨rfl, _, rfl, ?_⟩)))
          refine HB_cons (HS_expr (HE_meth (fa := 161) (d := d + 1) rfl rfl rfl (fun P => by kernel_rfl) (Nat.le_refl _) (HA_nil (del_ (by omega) y hyx lb (m := q) (by omega) reg (q - 1) (by omega) ⟨trivial, ?_⟩))))
          rw [if_pos a'] at h
          exact HB_nil (HB_cons (HS_ret (HE_bool ⟨trivial, h _ _ _ _⟩)))
        · rw [Bool.not_eq_true] at a'
          rw [show (decide (lb < q) && y.getD (q - 1) 0 == 1085) = false from a']
          show HB _ _ _ _
          rw [if_neg (by rw [a']; decide)] at h
          exact HB_cons (HS_ret (HE_bool ⟨trivial, h _ _ _ _⟩))
      · rw [Bool.not_eq_true] at a
        rw [show (decide (lb < y.length) && y.getD (y.length - 1) 0 == 1085) = false from a]
        show HB _ _ _ _
        rw [a, Bool.false_and, if_neg (by decide)] at h
        exact HB_cons (HS_ret (HE_bool ⟨trivial, h _ _ _ _⟩))
    · have : (res == 1) = false := by simp [z1]
      rw [this, if_neg (by decide)]
      rw [if_neg z1] at h
      refine HB_cons (HS_if (HT_cmp (HE_name (v := .int res) rfl rfl (HE_int ⟨_, rfl, ?_⟩))))
      by_cases z2 : res = 2
      · have : (res == 2) = true := by simp [z2]
        rw [this, if_pos rfl]
        rw [if_pos z2] at h
        refine HB_cons (HS_if (HT_pre rfl rfl rfl x hx mle m x.length reg 1085 _ rfl ?_))
        by_cases a : isN x lb m = true
        · rw [show (decide (lb < m) && x.getD (m - 1) 0 == 1085) = true from a]
          show HB _ _ _ _
          rw [if_pos a] at h
          refine HB_nil (HB_cons (HS_augcursor rfl rfl rfl (HE_int ⟨rfl, _, rfl, ?_⟩)))
          refine HB_cons (HS_expr (HE_meth (fa := 161) (d := d + 1) rfl rfl rfl (fun P => by kernel_rfl) (Nat.le_refl _) (HA_nil (del_ (by omega) x hx lb mle reg (m - 1) (by omega) ⟨trivial, ?_⟩))))
          exact HB_nil (HB_nil (HB_cons (HS_ret (HE_bool ⟨trivial, h _ _ _ _⟩))))
        · rw [Bool.not_eq_true] at a
          rw [show (decide (lb < m) && x.getD (m - 1) 0 == 1085) = false from a]
          show HB _ _ _ _
          rw [if_neg (by rw [a]; decide)] at h
          exact HB_cons (HS_ret (HE_bool ⟨trivial, h _ _ _ _⟩))
      · have : (res == 2) = false := by simp [z2]
        rw [this, if_neg (by decide)]
        rw [if_neg z2] at h
        refine HB_cons (HS_expr (HE_meth (fa := 161) (d := d + 1) rfl rfl rfl (fun P => by kernel_rfl) (Nat.le_refl _) (HA_nil (del_ (by omega) x hx lb mle reg m (by omega) ⟨trivial, ?_⟩))))
        exact HB_nil (HB_nil (HB_cons (HS_ret (HE_bool ⟨trivial, h _ _ _ _⟩))))
end Mine

end

-- X9
section
namespace Mine

noncomputable def partX (y : List Nat) (lb n : Nat) (res : Int) : List Nat := if res = 0 ∨ (res = 1 ∧ preAY y lb (y.length - n) = false) then y else y.take (y.length - n)

theorem r_adjectival_ {d : Nat} (hd : d < 405) (x : List Nat) {lb : Nat} (hlb : lb ≤ x.length) (hx : x.length ≤ 100000) (b k : Int) (reg) {Q : V → List (Str × V) → Prop}
    (h : ∀ n res, FindOk (amRows (cS 6 14)) (x.drop lb).reverse n res → n ≤ x.length - lb → if res = 0 then ∀ c' b' k' : Int, Q (.bool false) (Zs x c' lb b' k' reg).ob
      else ∀ n2 res2, FindOk (amRows (cS 6 15)) ((x.take (x.length - n)).drop lb).reverse n2 res2 → n2 ≤ x.length - n - lb → ∀ c' b' k' : Int, Q (.bool true) (Zs (partX (x.take (x.length - n)) lb n2 res2) c' lb b' k' reg).ob) :
    HC d .stem 258 [.self] (Zs x x.length lb b k reg).ob Q := by
  refine HC_body fn258 (by omega) rfl (by rfl) ?_
  refine HB_cons (HS_if (HT_not (HT_val (HE_meth (fa := 251) (d := d + 1) rfl rfl rfl (fun P => by kernel_rfl) (Nat.le_refl _) (HA_nil (r_adjective_ (by omega) x hlb hx b k reg fun n res hf hn b1 k1 => ?_))))))
  have h := h n res hf hn
  by_cases z : res = 0
  · rw [if_pos z] at h ⊢
    refine ⟨_, rfl, ?_⟩
    show HB _ _ _ _
    exact HB_cons (HS_ret (HE_bool (h _ _ _)))
  · rw [if_neg z] at h ⊢
    refine ⟨_, rfl, ?_⟩
    show HB _ _ _ _
    obtain ⟨y, hy⟩ : ∃ y, y = x.take (x.length - n) := ⟨_, rfl⟩
    have yl : y.length = x.length - n := by rw [hy]; simp
    rw [← hy, ← yl]
    rw [← hy, ← yl] at h
    have hyb : lb ≤ y.length := by omega
    have hyx : y.length ≤ 100000 := by omega
    clear hy hf hn
    refine HB_nil (HB_cons (HS_assign rfl (HE_bin (HE_self (v := .int y.length) rfl rfl rfl rfl rfl (HE_self (v := .int y.length) rfl rfl rfl rfl rfl ?_)))))
    have fin : ∀ (loc : List (Str × V)) (c' b' k' : Int) (z' : List Nat), (∀ c' b' k' : Int, Q (.bool true) (Zs z' c' lb b' k' reg).ob) → True := fun _ _ _ _ _ _ => trivial
    refine HB_cons (HS_try rfl rfl rfl ?_)
    refine HB_cons (HS_ket rfl rfl rfl (HE_self (v := .int y.length) rfl rfl rfl rfl rfl ⟨rfl, _, rfl, ?_⟩))
    refine HB_cons (HS_assign rfl (HE_meth (fa := 140) (d := d + 1) rfl rfl rfl (fun P => by kernel_rfl) (Nat.le_refl _)
      (HA_cons (HE_cattr rfl (fun P => by kernel_rfl) (fun g O => tab_vr tab2 g O) (HA_nil (find_Z (by omega) (tabOk_of ok2) short2 y hyb hyx b1 y.length reg fun n2 res2 hf2 hn2 => ?_))))))
    refine HB_cons (HS_if (HT_cmp (HE_name (v := .int res2) rfl rfl (HE_int ⟨_, rfl, ?_⟩))))
    have h := h n2 res2 hf2 hn2
    unfold partX at h
    by_cases w : res2 = 0
    · have : (res2 == 0) = true := by simp [w]
      rw [this, if_pos rfl]
      rw [if_pos (.inl w)] at h
      refine HB_cons (HS_cursor rfl rfl rfl (HE_bin (HE_self (v := .int y.length) rfl rfl rfl rfl rfl (HE_name (v := .int (y.length - y.length)) rfl rfl ⟨rfl, _, rfl, ?_⟩))))
      refine HB_cons (HS_raise rfl rfl ⟨rfl, ?_⟩)
      exact HB_cons (HS_ret (HE_bool (h _ _ _)))
    · have : (res2 == 0) = false := by simp [w]
      rw [this, if_neg (by decide)]
      refine HB_nil (HB_cons (HS_bra rfl rfl rfl (HE_self (v := .int (y.length - n2)) rfl rfl rfl rfl rfl ⟨rfl, _, rfl, ?_⟩)))
      obtain ⟨m, hm⟩ : ∃ m, m = y.length - n2 := ⟨_, rfl⟩
      have e : (y.length : Int) - n2 = (m : Int) := by omega
      rw [e]
      rw [← hm] at h
      have mle : m ≤ y.length := by omega
      refine HB_cons (HS_if (HT_cmp (HE_name (v := .int res2) rfl rfl (HE_int ⟨_, rfl, ?_⟩))))
      by_cases z1 : res2 = 1
      · have : (res2 == 1) = true := by simp [z1]
        rw [this, if_pos rfl]
        refine HB_cons (HS_while rfl (fun n σ => n = 0 ∧ σ = ⟨[("self", .self), ("v_1", .int (y.length - y.length)), ("among_var", .int res2)], (Zs y m lb m y.length reg).ob⟩) (n := 0) ⟨rfl, rfl⟩ ?_)
        rintro n' σ ⟨rfl, rfl⟩
        refine HT_val (HE_bool ⟨true, rfl, ?_⟩)
        rw [if_pos rfl]
        have good : preAY y lb m = true → ∀ c' b' k' : Int, Q (.bool true) (Zs (y.take m) c' lb b' k' reg).ob := fun g => by
          rw [if_neg (by rintro (q | ⟨_, q⟩); exact w q; rw [g] at q; cases q)] at h
          exact h
        refine HB_cons (HS_try rfl rfl rfl ?_)
        refine HB_cons (HS_if (HT_pre rfl rfl rfl y hyx mle m y.length reg 1072 _ rfl ?_))
        by_cases a : (decide (lb < m) && y.getD (m - 1) 0 == 1072) = true
        · rw [a]
          show HB _ _ _ _
          refine HB_nil (HB_cons (HS_augcursor rfl rfl rfl (HE_int ⟨rfl, _, rfl, ?_⟩)))
          refine HB_cons (HS_break ?_)
          refine HB_cons (HS_expr (HE_meth (fa := 161) (d := d + 1) rfl rfl rfl (fun P => by kernel_rfl) (Nat.le_refl _) (HA_nil (del_ (by omega) y hyx lb mle reg (m - 1) (by omega) ⟨trivial, ?_⟩))))
          refine HB_nil (HB_nil (HB_cons (HS_ret (HE_bool (good ?_ _ _ _)))))
          unfold preAY
          rw [Bool.and_eq_true] at a
          rw [a.1, a.2]; rfl
        · rw [Bool.not_eq_true] at a
          rw [a]
          show HB _ _ _ _
          refine HB_cons (HS_raise rfl rfl ⟨rfl, ?_⟩)
          refine HB_cons (HS_if (HT_pre rfl rfl rfl y hyx mle m y.length reg 1103 _ rfl ?_))
          by_cases a' : (decide (lb < m) && y.getD (m - 1) 0 == 1103) = true
          · rw [a']
            show HB _ _ _ _
            refine HB_nil (HB_cons (HS_augcursor rfl rfl rfl (HE_int ⟨rfl, _, rfl, ?_⟩)))
            refine HB_cons (HS_break ?_)
            refine HB_cons (HS_expr (HE_meth (fa := 161) (d := d + 1) rfl rfl rfl (fun P => by kernel_rfl) (Nat.le_refl _) (HA_nil (del_ (by omega) y hyx lb mle reg (m - 1) (by omega) ⟨trivial, ?_⟩))))
            refine HB_nil (HB_nil (HB_cons (HS_ret (HE_bool (good ?_ _ _ _)))))
            unfold preAY
            rw [Bool.and_eq_true] at a'
            rw [a'.1, a'.2]; simp
          · rw [Bool.not_eq_true] at a'
            rw [a']
            show HB _ _ _ _
            have np : preAY y lb m = false := by
              unfold preAY
              cases q : decide (lb < m) with
              | false => rfl
              | true => rw [q, Bool.true_and] at a a'; rw [a, a']; rfl
            rw [if_pos (.inr ⟨z1, np⟩)] at h
            refine HB_cons (HS_cursor rfl rfl rfl (HE_bin (HE_self (v := .int y.length) rfl rfl rfl rfl rfl (HE_name (v := .int (y.length - y.length)) rfl rfl ⟨rfl, _, rfl, ?_⟩))))
            refine HB_cons (HS_raise rfl rfl ⟨rfl, ?_⟩)
            exact HB_cons (HS_ret (HE_bool (h _ _ _)))
      · have : (res2 == 1) = false := by simp [z1]
        rw [this, if_neg (by decide)]
        rw [if_neg (by rintro (q | ⟨q, _⟩); exact w q; exact z1 q)] at h
        refine HB_cons (HS_expr (HE_meth (fa := 161) (d := d + 1) rfl rfl rfl (fun P => by kernel_rfl) (Nat.le_refl _) (HA_nil (del_ (by omega) y hyx lb mle reg m (by omega) ⟨trivial, ?_⟩))))
        exact HB_nil (HB_nil (HB_cons (HS_ret (HE_bool (h _ _ _)))))
end Mine

end

-- X10
section
namespace Mine

theorem scan_bd (p : Int → Bool) : ∀ (n : Nat) (c : Int), c ≤ (scan p n c).1 ∧ (scan p n c).1 ≤ c + n ∧ ((scan p n c).2 = true → (scan p n c).1 < c + n)
  | 0, c => ⟨Int.le_refl _, by simp [scan], fun h => by cases h⟩
  | n + 1, c => by
    rw [scan_succ]
    split
    · exact ⟨Int.le_refl _, by omega, fun _ => by show c < _; omega⟩
    · have := scan_bd p n (c + 1)
      exact ⟨by omega, by omega, fun h => by have := this.2.2 h; omega⟩

noncomputable def regs (w : Str) (l : Int) : Int × Int :=
  if (scan (vAt w) (l - 0).toNat 0).2 = false then (l, l)
  else if (scan (fun i => !vAt w i) (l - ((scan (vAt w) (l - 0).toNat 0).1 + 1)).toNat ((scan (vAt w) (l - 0).toNat 0).1 + 1)).2 = false then ((scan (vAt w) (l - 0).toNat 0).1 + 1, l)
  else
    let c2 := (scan (fun i => !vAt w i) (l - ((scan (vAt w) (l - 0).toNat 0).1 + 1)).toNat ((scan (vAt w) (l - 0).toNat 0).1 + 1)).1 + 1
    if (scan (vAt w) (l - c2).toNat c2).2 = false then ((scan (vAt w) (l - 0).toNat 0).1 + 1, l)
    else
      let c3 := (scan (vAt w) (l - c2).toNat c2).1 + 1
      if (scan (fun i => !vAt w i) (l - c3).toNat c3).2 = false then ((scan (vAt w) (l - 0).toNat 0).1 + 1, l)
      else ((scan (vAt w) (l - 0).toNat 0).1 + 1, (scan (fun i => !vAt w i) (l - c3).toNat c3).1 + 1)

section
variable {w : Str} {l q1 q2 q3 : Int}
theorem regs_a (f1 : (scan (vAt w) (l - 0).toNat 0).2 = false) : regs w l = (l, l) := by unfold regs; rw [if_pos f1]
theorem regs_b (f1 : (scan (vAt w) (l - 0).toNat 0).2 = true) (hq1 : q1 = (scan (vAt w) (l - 0).toNat 0).1 + 1) (f2 : (scan (fun i => !vAt w i) (l - q1).toNat q1).2 = false) : regs w l = (q1, l) := by
  subst hq1; unfold regs; rw [if_neg (by rw [f1]; decide), if_pos f2]
theorem regs_c (f1 : (scan (vAt w) (l - 0).toNat 0).2 = true) (hq1 : q1 = (scan (vAt w) (l - 0).toNat 0).1 + 1) (f2 : (scan (fun i => !vAt w i) (l - q1).toNat q1).2 = true) (hq2 : q2 = (scan (fun i => !vAt w i) (l - q1).toNat q1).1 + 1)
    (f3 : (scan (vAt w) (l - q2).toNat q2).2 = false) : regs w l = (q1, l) := by
  subst hq2; subst hq1; unfold regs; rw [if_neg (by rw [f1]; decide), if_neg (by rw [f2]; decide)]; dsimp only; rw [if_pos f3]
theorem regs_de (f1 : (scan (vAt w) (l - 0).toNat 0).2 = true) (hq1 : q1 = (scan (vAt w) (l - 0).toNat 0).1 + 1) (f2 : (scan (fun i => !vAt w i) (l - q1).toNat q1).2 = true) (hq2 : q2 = (scan (fun i => !vAt w i) (l - q1).toNat q1).1 + 1)
    (f3 : (scan (vAt w) (l - q2).toNat q2).2 = true) (hq3 : q3 = (scan (vAt w) (l - q2).toNat q2).1 + 1) :
    regs w l = if (scan (fun i => !vAt w i) (l - q3).toNat q3).2 = false then (q1, l) else (q1, (scan (fun i => !vAt w i) (l - q3).toNat q3).1 + 1) := by
  subst hq3; subst hq2; subst hq1; unfold regs; rw [if_neg (by rw [f1]; decide), if_neg (by rw [f2]; decide)]; dsimp only; rw [if_neg (by rw [f3]; decide)]
end

section
variable {F : Fi} {loc : List (Str × V)} {S : Sm} {x : Str} {p p' pos : Pos} {value : Expr} {Q : Fl → St → Prop}
theorem HS_pV {a b : Int} (hk : F.k = .stem) (hx : loc.lookup x = some .self) (hl : isLoc F x = true) (h : HE F value ⟨loc, Sm.ob { S with reg := some (a, b) }⟩ (fun v σ' => σ' = ⟨loc, Sm.ob { S with reg := some (a, b) }⟩ ∧ ∃ i, v = .int i ∧ Q .next ⟨loc, Sm.ob { S with reg := some (i, b) }⟩))
    (hs : ∀ env, swapsWith value (some (.Attribute (.Name x p) "I_pV" p')) pos.line env = pure false := by intro; rfl) : HS F (.Assign [.Attribute (.Name x p) "I_pV" p'] value pos) ⟨loc, Sm.ob { S with reg := some (a, b) }⟩ Q :=
  HS_S (f := fun v => { S with reg := some (vInt v, b) }) (ok := fun v => ∃ i, v = .int i) (fun v ⟨i, e⟩ => by subst e; exact ⟨rfl, rfl⟩) hk hx hl (by decide +kernel) hs (HE_mono h fun v σ' ⟨a, i, e, q⟩ => by subst e; exact ⟨a, ⟨i, rfl⟩, q⟩)
theorem HS_p2 {a b : Int} (hk : F.k = .stem) (hx : loc.lookup x = some .self) (hl : isLoc F x = true) (h : HE F value ⟨loc, Sm.ob { S with reg := some (a, b) }⟩ (fun v σ' => σ' = ⟨loc, Sm.ob { S with reg := some (a, b) }⟩ ∧ ∃ i, v = .int i ∧ Q .next ⟨loc, Sm.ob { S with reg := some (a, i) }⟩))
    (hs : ∀ env, swapsWith value (some (.Attribute (.Name x p) "I_p2" p')) pos.line env = pure false := by intro; rfl) : HS F (.Assign [.Attribute (.Name x p) "I_p2" p'] value pos) ⟨loc, Sm.ob { S with reg := some (a, b) }⟩ Q :=
  HS_S (f := fun v => { S with reg := some (a, vInt v) }) (ok := fun v => ∃ i, v = .int i) (fun v ⟨i, e⟩ => by subst e; exact ⟨rfl, rfl⟩) hk hx hl (by decide +kernel) hs (HE_mono h fun v σ' ⟨a, i, e, q⟩ => by subst e; exact ⟨a, ⟨i, rfl⟩, q⟩)
end

theorem r_mark_regions_ {d : Nat} (hd : d < 410) (S : Sm) (hw : S.cur.length ≤ 100000) (hl : S.l = S.cur.length) (hc : S.c = 0) {Q : V → List (Str × V) → Prop}
    (h : Q (.bool true) (Sm.ob { S with reg := some (regs S.cur S.l) })) : HC d .stem 237 [.self] S.ob Q := by
  obtain ⟨w, c, l, lb, b, k, reg⟩ := S
  dsimp only at hw hl hc h
  subst hc
  have hl0 : 0 ≤ l := by omega
  refine HC_body fn237 (by omega) rfl (by rfl) ?_
  refine HB_cons (HS_setself rfl rfl rfl (HE_self (v := .int l) rfl rfl rfl rfl rfl ⟨rfl, ⟨Sm.len _, rfl⟩, ?_⟩))
  have l7 : (setL "I_pV" (.int l) (Sm.ob ⟨w, 0, l, lb, b, k, reg⟩)).length ≤ 20 := by
    unfold Sm.ob regL
    cases reg <;> exact Nat.le_of_ble_eq_true rfl
  refine HB_cons (HS_setself rfl rfl rfl (HE_self (v := .int l) rfl rfl rfl rfl rfl ⟨rfl, ⟨l7, rfl⟩, ?_⟩))
  have e8 : setL "I_p2" (.int l) (setL "I_pV" (.int l) (Sm.ob ⟨w, 0, l, lb, b, k, reg⟩)) = Sm.ob ⟨w, 0, l, lb, b, k, some (l, l)⟩ := by
    unfold Sm.ob regL
    cases reg <;> rfl
  show HB _ _ ⟨[("self", .self)], setL "I_p2" (.int l) (setL "I_pV" (.int l) (Sm.ob ⟨w, 0, l, lb, b, k, reg⟩))⟩ _
  rw [e8]
  clear e8 l7
  refine HB_cons (HS_assign rfl (HE_self (v := .int 0) rfl rfl rfl rfl rfl ?_))
  have done : ∀ (c p q : Int), (p, q) = regs w l → HB ⟨fS (cS 6 3), d + 1, true, .stem⟩ ((fB (cS 6 3)).drop 4) ⟨[("self", .self), ("v_1", .int 0)], Sm.ob ⟨w, c, l, lb, b, k, some (p, q)⟩⟩ (RetQ Q) := fun c p q e => by
    refine HB_cons (HS_cursor rfl rfl rfl (HE_name (v := .int 0) rfl rfl ⟨rfl, _, rfl, ?_⟩))
    rw [← e] at h
    exact HB_cons (HS_ret (HE_bool h))
  refine HB_cons (HS_try rfl rfl rfl ?_)
  obtain ⟨s1, hs1⟩ : ∃ s1, s1 = scan (vAt w) (l - 0).toNat 0 := ⟨_, rfl⟩
  have b1 := scan_bd (vAt w) (l - 0).toNat 0
  rw [← hs1] at b1
  refine HB_cons (HS_if (HT_not (HT_val (HE_meth (fa := 98) (d := d + 1) rfl rfl rfl (fun P => by kernel_rfl) (Nat.le_refl _) (HA_cons (HE_cattr (v := .gset) rfl (fun P => by kernel_rfl) (fun g O => .gset) (HA_nil (go_out_ (by omega) ⟨w, 0, l, lb, b, k, some (l, l)⟩ hw (Int.le_refl _) hl0 (by show l ≤ w.length; omega) ⟨_, rfl, ?_⟩))))))))
  show if (!(scan (vAt w) (l - 0).toNat 0).2) = true then HB _ _ ⟨_, Sm.ob ⟨w, (scan (vAt w) (l - 0).toNat 0).1, l, lb, b, k, some (l, l)⟩⟩ _ else HB _ _ ⟨_, Sm.ob ⟨w, (scan (vAt w) (l - 0).toNat 0).1, l, lb, b, k, some (l, l)⟩⟩ _
  rw [← hs1]
  cases f1 : s1.2 with
  | false =>
    rw [if_pos (by decide)]
    refine HB_cons (HS_raise rfl rfl ⟨rfl, ?_⟩)
    exact done _ _ _ (regs_a (by rw [← hs1]; exact f1)).symm
  | true =>
    rw [if_neg (by decide)]
    have c1 := b1.2.2 f1
    refine HB_nil (HB_cons (HS_augcursor rfl rfl rfl (HE_int ⟨rfl, _, rfl, ?_⟩)))
    refine HB_cons (HS_pV (S := ⟨w, s1.1 + 1, l, lb, b, k, some (l, l)⟩) rfl rfl rfl (HE_self (v := .int (s1.1 + 1)) rfl rfl rfl rfl rfl ⟨rfl, _, rfl, ?_⟩))
    obtain ⟨q1, hq1⟩ : ∃ q1, q1 = s1.1 + 1 := ⟨_, rfl⟩
    rw [← hq1]
    obtain ⟨s2, hs2⟩ : ∃ s2, s2 = scan (fun i => !vAt w i) (l - q1).toNat q1 := ⟨_, rfl⟩
    have b2 := scan_bd (fun i => !vAt w i) (l - q1).toNat q1
    rw [← hs2] at b2
    refine HB_cons (HS_if (HT_not (HT_val (HE_meth (fa := 70) (d := d + 1) rfl rfl rfl (fun P => by kernel_rfl) (Nat.le_refl _) (HA_cons (HE_cattr (v := .gset) rfl (fun P => by kernel_rfl) (fun g O => .gset) (HA_nil (go_in_ (by omega) ⟨w, q1, l, lb, b, k, some (q1, l)⟩ hw (by show 0 ≤ q1; omega) (by show q1 ≤ l; omega) (by show l ≤ w.length; omega) ⟨_, rfl, ?_⟩))))))))
    show if (!(scan (fun i => !vAt w i) (l - q1).toNat q1).2) = true then HB _ _ ⟨_, Sm.ob ⟨w, (scan (fun i => !vAt w i) (l - q1).toNat q1).1, l, lb, b, k, some (q1, l)⟩⟩ _ else HB _ _ ⟨_, Sm.ob ⟨w, (scan (fun i => !vAt w i) (l - q1).toNat q1).1, l, lb, b, k, some (q1, l)⟩⟩ _
    rw [← hs2]
    cases f2 : s2.2 with
    | false =>
      rw [if_pos (by decide)]
      refine HB_cons (HS_raise rfl rfl ⟨rfl, ?_⟩)
      exact done _ _ _ (regs_b (q1 := q1) (by rw [← hs1]; exact f1) (by rw [← hs1]; exact hq1) (by rw [← hs2]; exact f2)).symm
    | true =>
      rw [if_neg (by decide)]
      have c2 := b2.2.2 f2
      refine HB_nil (HB_cons (HS_augcursor rfl rfl rfl (HE_int ⟨rfl, _, rfl, ?_⟩)))
      obtain ⟨q2, hq2⟩ : ∃ q2, q2 = s2.1 + 1 := ⟨_, rfl⟩
      rw [← hq2]
      obtain ⟨s3, hs3⟩ : ∃ s3, s3 = scan (vAt w) (l - q2).toNat q2 := ⟨_, rfl⟩
      have b3 := scan_bd (vAt w) (l - q2).toNat q2
      rw [← hs3] at b3
      refine HB_cons (HS_if (HT_not (HT_val (HE_meth (fa := 98) (d := d + 1) rfl rfl rfl (fun P => by kernel_rfl) (Nat.le_refl _) (HA_cons (HE_cattr (v := .gset) rfl (fun P => by kernel_rfl) (fun g O => .gset) (HA_nil (go_out_ (by omega) ⟨w, q2, l, lb, b, k, some (q1, l)⟩ hw (by show 0 ≤ q2; omega) (by show q2 ≤ l; omega) (by show l ≤ w.length; omega) ⟨_, rfl, ?_⟩))))))))
      show if (!(scan (vAt w) (l - q2).toNat q2).2) = true then HB _ _ ⟨_, Sm.ob ⟨w, (scan (vAt w) (l - q2).toNat q2).1, l, lb, b, k, some (q1, l)⟩⟩ _ else HB _ _ ⟨_, Sm.ob ⟨w, (scan (vAt w) (l - q2).toNat q2).1, l, lb, b, k, some (q1, l)⟩⟩ _
      rw [← hs3]
      cases f3 : s3.2 with
      | false =>
        rw [if_pos (by decide)]
        refine HB_cons (HS_raise rfl rfl ⟨rfl, ?_⟩)
        exact done _ _ _ (regs_c (q1 := q1) (q2 := q2) (by rw [← hs1]; exact f1) (by rw [← hs1]; exact hq1) (by rw [← hs2]; exact f2) (by rw [← hs2]; exact hq2) (by rw [← hs3]; exact f3)).symm
      | true =>
        rw [if_neg (by decide)]
        have c3 := b3.2.2 f3
        refine HB_nil (HB_cons (HS_augcursor rfl rfl rfl (HE_int ⟨rfl, _, rfl, ?_⟩)))
        obtain ⟨q3, hq3⟩ : ∃ q3, q3 = s3.1 + 1 := ⟨_, rfl⟩
        rw [← hq3]
        obtain ⟨s4, hs4⟩ : ∃ s4, s4 = scan (fun i => !vAt w i) (l - q3).toNat q3 := ⟨_, rfl⟩
        have b4 := scan_bd (fun i => !vAt w i) (l - q3).toNat q3
        rw [← hs4] at b4
        refine HB_cons (HS_if (HT_not (HT_val (HE_meth (fa := 70) (d := d + 1) rfl rfl rfl (fun P => by kernel_rfl) (Nat.le_refl _) (HA_cons (HE_cattr (v := .gset) rfl (fun P => by kernel_rfl) (fun g O => .gset) (HA_nil (go_in_ (by omega) ⟨w, q3, l, lb, b, k, some (q1, l)⟩ hw (by show 0 ≤ q3; omega) (by show q3 ≤ l; omega) (by show l ≤ w.length; omega) ⟨_, rfl, ?_⟩))))))))
        show if (!(scan (fun i => !vAt w i) (l - q3).toNat q3).2) = true then HB _ _ ⟨_, Sm.ob ⟨w, (scan (fun i => !vAt w i) (l - q3).toNat q3).1, l, lb, b, k, some (q1, l)⟩⟩ _ else HB _ _ ⟨_, Sm.ob ⟨w, (scan (fun i => !vAt w i) (l - q3).toNat q3).1, l, lb, b, k, some (q1, l)⟩⟩ _
        rw [← hs4]
        cases f4 : s4.2 with
        | false =>
          rw [if_pos (by decide)]
          refine HB_cons (HS_raise rfl rfl ⟨rfl, ?_⟩)
          exact done _ _ _ (by rw [regs_de (q1 := q1) (q2 := q2) (q3 := q3) (by rw [← hs1]; exact f1) (by rw [← hs1]; exact hq1) (by rw [← hs2]; exact f2) (by rw [← hs2]; exact hq2) (by rw [← hs3]; exact f3) (by rw [← hs3]; exact hq3), ← hs4, if_pos f4])
        | true =>
          rw [if_neg (by decide)]
          refine HB_nil (HB_cons (HS_augcursor rfl rfl rfl (HE_int ⟨rfl, _, rfl, ?_⟩)))
          refine HB_cons (HS_p2 (S := ⟨w, s4.1 + 1, l, lb, b, k, some (q1, l)⟩) rfl rfl rfl (HE_self (v := .int (s4.1 + 1)) rfl rfl rfl rfl rfl ⟨rfl, _, rfl, ?_⟩))
          exact HB_nil (done _ _ _ (by rw [regs_de (q1 := q1) (q2 := q2) (q3 := q3) (by rw [← hs1]; exact f1) (by rw [← hs1]; exact hq1) (by rw [← hs2]; exact f2) (by rw [← hs2]; exact hq2) (by rw [← hs3]; exact f3) (by rw [← hs3]; exact hq3), ← hs4, if_neg (by rw [f4]; decide)]))
end Mine

end

-- X11
section
namespace Mine

noncomputable def sAt (b : List Stmt) (i : Nat) : Stmt := b.getD i (.Pass ⟨0, 0, 0, 0⟩)
noncomputable def yo (x : List Nat) : List Nat := x.map fun c => if c = 1105 then 1077 else c
noncomputable def tk (x : List Nat) (e : Nat) : List Nat := (yo x).take e ++ x.drop e
theorem yo_len (x : List Nat) : (yo x).length = x.length := by unfold yo; simp
theorem tk_len (x : List Nat) {e : Nat} (h : e ≤ x.length) : (tk x e).length = x.length := by
  unfold tk; simp [yo_len]; omega
theorem tk_zero (x : List Nat) : tk x 0 = x := by unfold tk; simp
theorem tk_all (x : List Nat) : tk x x.length = yo x := by
  unfold tk; simp [List.take_of_length_le (Nat.le_of_eq (yo_len x))]
theorem tk_at (x : List Nat) {e c : Nat} (h : c < x.length) (he : e ≤ x.length) : (tk x e).getD c 0 = if c < e then (if x.getD c 0 = 1105 then 1077 else x.getD c 0) else x.getD c 0 := by
  unfold tk
  by_cases q : c < e
  · rw [if_pos q]
    simp only [List.getD_eq_getElem?_getD]
    rw [List.getElem?_append_left (by simp [yo_len]; omega), List.getElem?_take, if_pos q]
    unfold yo
    rw [List.getElem?_map, List.getElem?_eq_getElem h]
    rfl
  · rw [if_neg q]
    simp only [List.getD_eq_getElem?_getD]
    rw [List.getElem?_append_right (by simp [yo_len]; omega), List.getElem?_drop]
    congr 2
    simp [yo_len]; omega
theorem tk_step (x : List Nat) {c : Nat} (h : c < x.length) (hne : x.getD c 0 ≠ 1105) : tk x c = tk x (c + 1) := by
  unfold tk
  rw [List.take_add_one, List.append_assoc]
  congr 1
  have e : (yo x)[c]? = some (x[c]) := by
    unfold yo
    rw [List.getElem?_map, List.getElem?_eq_getElem h]
    rw [List.getD_eq_getElem?_getD, List.getElem?_eq_getElem h] at hne
    simp only [Option.getD_some] at hne
    simp [hne]
  rw [e, List.drop_eq_getElem_cons h]
  rfl
theorem tk_put (x : List Nat) {c : Nat} (h : c < x.length) (hyo : x.getD c 0 = 1105) : (tk x c).take c ++ [1077] ++ (tk x c).drop (c + 1) = tk x (c + 1) := by
  have e : (yo x)[c]? = some 1077 := by
    unfold yo
    rw [List.getElem?_map, List.getElem?_eq_getElem h]
    rw [List.getD_eq_getElem?_getD, List.getElem?_eq_getElem h] at hyo
    simp only [Option.getD_some] at hyo
    simp [hyo]
  unfold tk
  have l : ((yo x).take c).length = c := by simp [yo_len]; omega
  rw [List.take_append_of_le_length (by omega), List.take_take, Nat.min_self, List.drop_append, l, List.drop_drop, List.take_add_one, e]
  have : List.drop (c + 1) ((yo x).take c) = [] := List.drop_eq_nil_of_le (by omega)
  rw [this]
  simp

theorem ch_ne' (x : List Nat) (c : Nat) (ch : Nat) (s : Str) (hs : s = ⟨#[ch]⟩) : (chAt (mkS x) (c : Int) != s) = !(x.getD c 0 == ch) := by
  have := ch_ne x (c + 1) (Nat.succ_pos _) ch s hs
  rw [show (((c + 1 : Nat) : Int) - 1) = (c : Int) by omega] at this
  exact this

/-- the loop that turns ё into е -/
noncomputable def YW (x : List Nat) (lb : Int) (reg : Option (Int × Int)) (n : Nat) (σ : St) : Prop := ∃ (c e : Nat) (b k : Int), n = 2 * (x.length - c) + (if e = c then 1 else 0) ∧ c ≤ e ∧ e ≤ c + 1 ∧ e ≤ x.length ∧ c ≤ x.length ∧ σ.ob = (Zs (tk x e) c lb b k reg).ob ∧ Sub [("self", .self), ("v_1", .int 0)] σ.loc
noncomputable def YP (x : List Nat) (lb : Int) (reg : Option (Int × Int)) (c0 e0 : Nat) (φ : Fl) (σ : St) : Prop := (φ = .next ∧ ∃ (c : Nat), c0 ≤ c ∧ c < x.length ∧ (c0 = c → e0 = c0) ∧ x.getD c 0 = 1105 ∧ σ.ob = (Zs (tk x c) c lb c (c + 1 : Nat) reg).ob ∧ Sub [("self", .self), ("v_1", .int 0), ("v_2", .int c0)] σ.loc) ∨ (φ = .exc 1 ∧ ∃ (c b k : Int), σ.ob = (Zs (yo x) c lb b k reg).ob ∧ Sub [("self", .self), ("v_1", .int 0), ("v_2", .int c0)] σ.loc)
noncomputable def YI (x : List Nat) (lb : Int) (reg : Option (Int × Int)) (c0 e0 : Nat) (n : Nat) (σ : St) : Prop := ∃ (c e : Nat) (b k : Int), n = x.length - c ∧ c0 ≤ c ∧ c ≤ e ∧ e ≤ c + 1 ∧ e ≤ x.length ∧ c ≤ x.length ∧ (c = c0 → e = e0) ∧ σ.ob = (Zs (tk x e) c lb b k reg).ob ∧ Sub [("self", .self), ("v_1", .int 0), ("v_2", .int c0)] σ.loc
theorem stem_yo {d : Nat} (hd : d < 400) (x : List Nat) (hx : x.length ≤ 1000) (lb b k : Int) (reg) {P : Fl → St → Prop}
    (h : ∀ (σ : St) (c b k : Int), σ.ob = (Zs (yo x) c lb b k reg).ob → Sub [("self", .self), ("v_1", .int 0)] σ.loc → P .next σ) :
    HS ⟨fS (cS 6 12), d + 1, true, .stem⟩ (sAt (fB (cS 6 12)) 1) ⟨[("self", .self), ("v_1", .int 0)], (Zs x 0 lb b k reg).ob⟩ P := by
  have hz : sizeLine = 16777216 := sizeLine_eq
  refine HS_try (x := "lab0") (i := 0) rfl rfl rfl ?_
  refine HB_cons (HS_while rfl (YW x lb reg) ⟨0, 0, b, k, rfl, Nat.le_refl _, by omega, by omega, by omega, by rw [tk_zero]; rfl, ⟨rfl, rfl, trivial⟩⟩ ?_)
  rintro n σ ⟨c0, e0, b0, k0, rfl, l1, l2, l3, l4, hob, hsub⟩
  refine HT_val (HE_bool ⟨true, rfl, ?_⟩)
  rw [if_pos rfl]
  refine HB_sub hsub ?_
  rw [hob]
  clear hsub hob
  refine HB_abs fun Q0 hQ0 => ?_
  refine HB_cons (HS_assign rfl (HE_self (v := .int c0) rfl rfl rfl rfl rfl ?_))
  refine HB_cons (HS_try rfl rfl rfl ?_)
  refine HB_cons (HS_mono (P := YP x lb reg c0 e0)
    (HS_while rfl (YI x lb reg c0 e0) ⟨c0, e0, b0, k0, rfl, Nat.le_refl _, l1, l2, l3, l4, fun _ => rfl, rfl, ⟨rfl, rfl, rfl, trivial⟩⟩ ?_) ?_)
  · rintro n σ ⟨c, e, b1, k1, rfl, m0, m1, m2, m3, m4, m5, hob, hsub⟩
    refine HT_val (HE_bool ⟨true, rfl, ?_⟩)
    rw [if_pos rfl]
    refine HB_sub hsub ?_
    rw [hob]
    clear hsub hob
    refine HB_abs fun Q1 hQ1 => ?_
    have tl := tk_len x m3
    refine HB_cons (HS_assign rfl (HE_self (v := .int c) rfl rfl rfl rfl rfl ?_))
    refine HB_cons (HS_try rfl rfl rfl ?_)
    refine HB_cons (HS_bra rfl rfl rfl (HE_self (v := .int c) rfl rfl rfl rfl rfl ⟨rfl, _, rfl, ?_⟩))
    by_cases q : c = x.length
    · have e1 : ((c : Int) == (tk x e).length) = true := by rw [tl, q]; simp
      refine HB_cons (HS_if (HT_or (HT_cmp (HE_self (v := .int c) rfl rfl rfl rfl rfl (HE_self (v := .int (tk x e).length) rfl rfl rfl rfl rfl ⟨_, rfl, ?_⟩)))))
      rw [e1, if_pos rfl]
      show HB _ _ _ _
      refine HB_cons (HS_raise rfl rfl ⟨rfl, ?_⟩)
      refine HB_cons (HS_cursor rfl rfl rfl (HE_name (v := .int c) rfl rfl ⟨rfl, _, rfl, ?_⟩))
      refine HB_cons (HS_if (HT_cmp (HE_self (v := .int c) rfl rfl rfl rfl rfl (HE_self (v := .int (tk x e).length) rfl rfl rfl rfl rfl ⟨_, rfl, ?_⟩))))
      rw [decide_eq_true (by rw [tl]; omega), if_pos rfl]
      refine HB_cons (HS_raise rfl rfl (hQ1 _ _ (.inr ⟨rfl, c, c, k1, ?_, ⟨rfl, rfl, rfl, trivial⟩⟩)))
      have : e = x.length := by omega
      rw [this, tk_all]
    · have e1 : ((c : Int) == (tk x e).length) = false := by rw [tl]; simp; omega
      refine HB_cons (HS_if (HT_or (HT_cmp (HE_self (v := .int c) rfl rfl rfl rfl rfl (HE_self (v := .int (tk x e).length) rfl rfl rfl rfl rfl ⟨_, rfl, ?_⟩)))))
      rw [e1, if_neg (by decide)]
      refine HT_cmp (HE_item_str (HE_self (v := .str (mkS (tk x e))) rfl rfl rfl rfl rfl (HE_self (v := .int c) rfl rfl rfl rfl rfl ⟨_, _, rfl, rfl, by omega, by rw [mkS_len, tl]; omega, by rw [mkS_len, tl]; omega, HE_str ⟨_, rfl, ?_⟩⟩)))
      rw [ch_ne' (tk x e) c 1105 ("ё" : Str) rfl]
      have at_ := tk_at x (e := e) (c := c) (by omega) m3
      by_cases w : (tk x e).getD c 0 = 1105
      · have : (!((tk x e).getD c 0 == 1105)) = false := by rw [w]; rfl
        rw [this]
        show HB _ _ _ _
        have hec : e = c ∧ x.getD c 0 = 1105 := by
          rw [w] at at_
          by_cases z : c < e
          · rw [if_pos z] at at_
            split at at_
            · omega
            · rename_i q2; exact absurd at_.symm q2
          · rw [if_neg z] at at_
            exact ⟨by omega, at_.symm⟩
        refine HB_nil (HB_cons (HS_augcursor rfl rfl rfl (HE_int ⟨rfl, _, rfl, ?_⟩)))
        refine HB_cons (HS_ket rfl rfl rfl (HE_self (v := .int (c + 1)) rfl rfl rfl rfl rfl ⟨rfl, _, rfl, ?_⟩))
        refine HB_cons (HS_cursor rfl rfl rfl (HE_name (v := .int c) rfl rfl ⟨rfl, _, rfl, ?_⟩))
        refine HB_cons (HS_break (hQ1 _ _ (.inl ⟨rfl, c, m0, by omega, fun z => by have := m5 z.symm; omega, hec.2, ?_, ⟨rfl, rfl, rfl, trivial⟩⟩)))
        rw [hec.1]
        show _ = Sm.ob _
        congr 1
      · have : (!((tk x e).getD c 0 == 1105)) = true := by simp only [Bool.not_eq_true', beq_eq_false_iff_ne]; exact w
        rw [this]
        show HB _ _ _ _
        refine HB_cons (HS_raise rfl rfl ⟨rfl, ?_⟩)
        refine HB_cons (HS_cursor rfl rfl rfl (HE_name (v := .int c) rfl rfl ⟨rfl, _, rfl, ?_⟩))
        refine HB_cons (HS_if (HT_cmp (HE_self (v := .int c) rfl rfl rfl rfl rfl (HE_self (v := .int (tk x e).length) rfl rfl rfl rfl rfl ⟨_, rfl, ?_⟩))))
        rw [decide_eq_false (by rw [tl]; omega), if_neg (by decide)]
        refine HB_nil (HB_cons (HS_augcursor rfl rfl rfl (HE_int ⟨rfl, _, rfl, ?_⟩)))
        have te : tk x e = tk x (c + 1) := by
          by_cases z : c < e
          · have : e = c + 1 := by omega
            rw [this]
          · have ec : e = c := by omega
            rw [if_neg z] at at_
            rw [ec]
            exact tk_step x (by omega) (by rw [← at_]; exact w)
        refine HB_nil (hQ1 _ _ ⟨x.length - (c + 1), by omega, c + 1, c + 1, c, k1, rfl, by omega, Nat.le_refl _, by omega, by omega, by omega, fun z => by omega, ?_, ⟨rfl, rfl, rfl, trivial⟩⟩)
        rw [te]
        show _ = Sm.ob _
        congr 1
  · rintro φ σ (⟨rfl, c, m0, m1, m2, m3, hob, hsub⟩ | ⟨rfl, c, b1, k1, hob, hsub⟩)
    · refine HB_sub hsub ?_
      rw [hob]
      clear hsub hob
      have tl := tk_len x (Nat.le_of_lt m1)
      refine HB_cons (HS_expr (HE_meth (fa := 154) (d := d + 1) rfl rfl rfl (fun P => by kernel_rfl) (Nat.le_refl _) (HA_cons (HE_str (HA_nil (slice_from_ (by omega) (Zs (tk x c) c lb c (c + 1 : Nat) reg) _ (by rw [mkS_len, tl]; omega) (by decide) (by show (0 : Int) ≤ c; omega) (by show (c : Int) ≤ (c + 1 : Nat); omega) (by show ((c + 1 : Nat) : Int) ≤ (tk x c).length; rw [tl]; omega) (by show ((tk x c).length : Int) ≤ (mkS (tk x c)).length; rw [mkS_len]; exact Int.le_refl _) ⟨trivial, ?_⟩))))))
      refine HB_cons (HS_cont ?_)
      have z := Zs_sl (tk x c) c lb (b := c) (k := c + 1) reg [1077] (by omega) (by rw [tl]; omega)
      rw [tk_put x m1 m3] at z
      rw [if_neg (by omega), if_neg (by omega)] at z
      refine hQ0 _ _ ⟨2 * (x.length - c) + 0, ?_, c, c + 1, c, _, ?_, by omega, by omega, by omega, by omega, congrArg Sm.ob z, ⟨rfl, rfl, trivial⟩⟩
      · by_cases z1 : e0 = c0
        · rw [if_pos z1]; omega
        · rw [if_neg z1]
          have : c0 ≠ c := fun z2 => z1 (m2 z2)
          omega
      · rw [if_neg (by omega)]
    · refine ⟨rfl, ?_⟩
      refine HB_sub hsub ?_
      rw [hob]
      refine HB_cons (HS_cursor rfl rfl rfl (HE_name (v := .int c0) rfl rfl ⟨rfl, _, rfl, ?_⟩))
      refine HB_cons (HS_break (hQ0 _ _ (HB_nil ?_)))
      exact h _ c0 b1 k1 rfl ⟨rfl, rfl, trivial⟩
end Mine

end

-- X12
section
namespace Mine

noncomputable def fnd (T : List Row) (t : List Nat) : Nat × Int := match ((List.range T.length).filter fun k => (eR T k).isPrefixOf t).getLast? with
  | some k => ((eR T k).length, vR T k)
  | none => (0, 0)

theorem FindOk.uniq {T : List Row} (O : TabOk T) {t : List Nat} {n : Nat} {res : Int} (h : FindOk T t n res) : fnd T t = (n, res) := by
  unfold fnd
  rcases h with ⟨k, hk, hp, hn, hr, hm⟩ | ⟨rfl, rfl, hno⟩
  · have km : k ∈ (List.range T.length).filter fun k => (eR T k).isPrefixOf t := List.mem_filter.mpr ⟨List.mem_range.mpr hk, pre_iff.mpr hp⟩
    cases e : ((List.range T.length).filter fun k => (eR T k).isPrefixOf t).getLast? with
    | none =>
      rw [List.getLast?_eq_none_iff] at e
      rw [e] at km; cases km
    | some k2 =>
      have k2m : k2 ∈ (List.range T.length).filter fun k => (eR T k).isPrefixOf t := List.mem_of_getLast? e
      obtain ⟨a, b⟩ := List.mem_filter.mp k2m
      have hp2 := pre_iff.mp b
      have hk2 := List.mem_range.mp a
      have hle : k ≤ k2 := by
        have srt : ((List.range T.length).filter fun k => (eR T k).isPrefixOf t).Pairwise (· ≤ ·) := by
          refine List.Pairwise.filter _ ?_
          exact List.pairwise_le_range
        obtain ⟨l, hl⟩ : ∃ l, (List.range T.length).filter (fun k => (eR T k).isPrefixOf t) = l ++ [k2] := by
          obtain ⟨l, hl⟩ := List.getLast?_eq_some_iff.mp e
          exact ⟨l, hl⟩
        rw [hl] at srt km
        rcases List.mem_append.mp km with q | q
        · exact (List.pairwise_append.mp srt).2.2 k q k2 (List.mem_singleton.mpr rfl)
        · rw [List.mem_singleton.mp q]; exact Nat.le_refl _
      have : k2 = k := by
        rcases Nat.lt_or_eq_of_le hle with q | q
        · exfalso
          have h1 := O.inc k k2 q hk2
          have h2 := hm k2 hk2 hp2
          have h3 : Pre (eR T k2) (eR T k) := by
            have a1 : Share t (eR T k) (eR T k2).length := (hp.symm).le (by omega)
            exact hp2.trans a1
          have := pre_le h3
          rw [h1] at this; cases this
        · exact q.symm
      subst this
      rw [hn, hr]
  · have e : ((List.range T.length).filter fun k => (eR T k).isPrefixOf t) = [] := by
      rw [List.filter_eq_nil_iff]
      intro k hk q
      exact hno k (List.mem_range.mp hk) (pre_iff.mp q)
    rw [e]; rfl

noncomputable def endT (x : List Nat) (lb : Nat) : List Nat := (x.drop lb).reverse
/-- a deletion that asks nothing -/
noncomputable def delX (T : List Row) (x : List Nat) (lb : Nat) : Option (List Nat) := if (fnd T (endT x lb)).2 = 0 then none else some (x.take (x.length - (fnd T (endT x lb)).1))
/-- a deletion whose first kind asks for а or я -/
noncomputable def delAY (T : List Row) (x : List Nat) (lb : Nat) : Option (List Nat) :=
  if (fnd T (endT x lb)).2 = 0 ∨ ((fnd T (endT x lb)).2 = 1 ∧ preAY x lb (x.length - (fnd T (endT x lb)).1) = false) then none else some (x.take (x.length - (fnd T (endT x lb)).1))
noncomputable def mainX (x : List Nat) (lb : Nat) : List Nat :=
  match delAY (amRows (cS 6 13)) x lb with
  | some y => y
  | none =>
    let z := (delX (amRows (cS 6 16)) x lb).getD x
    match delX (amRows (cS 6 14)) z lb with
    | some y => (delAY (amRows (cS 6 15)) y lb).getD y
    | none => match delAY (amRows (cS 6 17)) z lb with
      | some y => y
      | none => (delX (amRows (cS 6 18)) z lb).getD z
noncomputable def isI (x : List Nat) (lb : Nat) : Bool := decide (lb < x.length) && x.getD (x.length - 1) 0 == 1080
noncomputable def iX (x : List Nat) (lb : Nat) : List Nat := if isI x lb then x.take (x.length - 1) else x
noncomputable def derX (x : List Nat) (lb : Nat) (p2 : Int) : List Nat := if (fnd (amRows (cS 6 19)) (endT x lb)).2 = 0 ∨ (x.length : Int) - (fnd (amRows (cS 6 19)) (endT x lb)).1 < p2 then x else x.take (x.length - (fnd (amRows (cS 6 19)) (endT x lb)).1)
noncomputable def tidX (x : List Nat) (lb : Nat) : List Nat := tidyX x lb (fnd (amRows (cS 6 20)) (endT x lb)).1 (fnd (amRows (cS 6 20)) (endT x lb)).2
noncomputable def stemL (x0 : List Nat) : List Nat :=
  let x := yo x0
  let r := regs (mkS x) x.length
  let lb := r.1.toNat
  tidX (derX (iX (mainX x lb) lb) lb r.2) lb

theorem regs_bd (w : Str) (l : Int) (hl : 0 ≤ l) : 0 ≤ (regs w l).1 ∧ (regs w l).1 ≤ l ∧ 0 ≤ (regs w l).2 ∧ (regs w l).2 ≤ l := by
  have b1 := scan_bd (vAt w) (l - 0).toNat 0
  unfold regs
  split
  · exact ⟨hl, Int.le_refl _, hl, Int.le_refl _⟩
  · rename_i f1
    have f1 : (scan (vAt w) (l - 0).toNat 0).2 = true := by simpa using f1
    have c1 := b1.2.2 f1
    have r1 : 0 ≤ (scan (vAt w) (l - 0).toNat 0).1 + 1 ∧ (scan (vAt w) (l - 0).toNat 0).1 + 1 ≤ l := by omega
    split
    · exact ⟨r1.1, r1.2, hl, Int.le_refl _⟩
    · rename_i f2
      dsimp only
      split
      · exact ⟨r1.1, r1.2, hl, Int.le_refl _⟩
      · rename_i f3
        split
        · exact ⟨r1.1, r1.2, hl, Int.le_refl _⟩
        · rename_i f4
          have b2 := scan_bd (fun i => !vAt w i) (l - ((scan (vAt w) (l - 0).toNat 0).1 + 1)).toNat ((scan (vAt w) (l - 0).toNat 0).1 + 1)
          have b3 := scan_bd (vAt w) (l - ((scan (fun i => !vAt w i) (l - ((scan (vAt w) (l - 0).toNat 0).1 + 1)).toNat ((scan (vAt w) (l - 0).toNat 0).1 + 1)).1 + 1)).toNat ((scan (fun i => !vAt w i) (l - ((scan (vAt w) (l - 0).toNat 0).1 + 1)).toNat ((scan (vAt w) (l - 0).toNat 0).1 + 1)).1 + 1)
          have b4 := scan_bd (fun i => !vAt w i) (l - ((scan (vAt w) (l - ((scan (fun i => !vAt w i) (l - ((scan (vAt w) (l - 0).toNat 0).1 + 1)).toNat ((scan (vAt w) (l - 0).toNat 0).1 + 1)).1 + 1)).toNat ((scan (fun i => !vAt w i) (l - ((scan (vAt w) (l - 0).toNat 0).1 + 1)).toNat ((scan (vAt w) (l - 0).toNat 0).1 + 1)).1 + 1)).1 + 1)).toNat ((scan (vAt w) (l - ((scan (fun i => !vAt w i) (l - ((scan (vAt w) (l - 0).toNat 0).1 + 1)).toNat ((scan (vAt w) (l - 0).toNat 0).1 + 1)).1 + 1)).toNat ((scan (fun i => !vAt w i) (l - ((scan (vAt w) (l - 0).toNat 0).1 + 1)).toNat ((scan (vAt w) (l - 0).toNat 0).1 + 1)).1 + 1)).1 + 1)
          have c2 := b2.2.2 (by simpa using f2)
          have c3 := b3.2.2 (by simpa using f3)
          have c4 := b4.2.2 (by simpa using f4)
          exact ⟨r1.1, r1.2, by dsimp only; omega, by dsimp only; omega⟩
end Mine

end

-- X13
section
namespace Mine

theorem fnd_le (T : List Row) (t : List Nat) : (fnd T t).1 ≤ t.length := by
  unfold fnd
  cases e : ((List.range T.length).filter fun k => (eR T k).isPrefixOf t).getLast? with
  | none => exact Nat.zero_le _
  | some k => 
    obtain ⟨a, b⟩ := List.mem_filter.mp (List.mem_of_getLast? e)
    exact (List.isPrefixOf_iff_prefix.mp b).length_le
theorem delX_bd (T : List Row) (x : List Nat) {lb : Nat} (hlb : lb ≤ x.length) : ((delX T x lb).getD x).length ≤ x.length ∧ lb ≤ ((delX T x lb).getD x).length := by
  have q := fnd_le T (endT x lb)
  have : (endT x lb).length = x.length - lb := by unfold endT; simp
  unfold delX
  split
  · exact ⟨Nat.le_refl _, hlb⟩
  · show (x.take (x.length - _)).length ≤ _ ∧ lb ≤ (x.take (x.length - _)).length
    rw [List.length_take]; omega
theorem delAY_bd (T : List Row) (x : List Nat) {lb : Nat} (hlb : lb ≤ x.length) : ((delAY T x lb).getD x).length ≤ x.length ∧ lb ≤ ((delAY T x lb).getD x).length := by
  have q := fnd_le T (endT x lb)
  have : (endT x lb).length = x.length - lb := by unfold endT; simp
  unfold delAY
  split
  · exact ⟨Nat.le_refl _, hlb⟩
  · show (x.take (x.length - _)).length ≤ _ ∧ lb ≤ (x.take (x.length - _)).length
    rw [List.length_take]; omega

noncomputable def innerX (z : List Nat) (lb : Nat) : List Nat := match delX (amRows (cS 6 14)) z lb with
  | some y => (delAY (amRows (cS 6 15)) y lb).getD y
  | none => match delAY (amRows (cS 6 17)) z lb with
    | some y => y
    | none => (delX (amRows (cS 6 18)) z lb).getD z
noncomputable def MTp (z : List Nat) (lb : Nat) (reg : Option (Int × Int)) (σ : St) : Prop := ∃ y, ∃ c b k : Int, σ.ob = (Zs y c lb b k reg).ob ∧ Sub [("self", .self), ("v_5", .int 0), ("v_6", .int 0)] σ.loc ∧ y = innerX z lb
noncomputable def MTo (z : List Nat) (lb : Nat) (reg : Option (Int × Int)) (φ : Fl) (σ : St) : Prop := (φ = .next ∧ MTp z lb reg σ) ∨ (φ = .exc 0 ∧ MTp z lb reg σ)
noncomputable def MTr (z : List Nat) (lb : Nat) (reg : Option (Int × Int)) (φ : Fl) (σ : St) : Prop := φ = .next ∧ ∃ b k : Int, σ.ob = (Zs z z.length lb b k reg).ob ∧ Sub [("self", .self), ("v_5", .int 0), ("v_6", .int 0)] σ.loc
theorem main_try {d : Nat} (hd : d < 400) (x : List Nat) (hx : x.length ≤ 100000) {lb : Nat} (hlb : lb ≤ x.length) (b k : Int) (reg) {P : Fl → St → Prop} {L : List (Str × V)} (hL : Sub [("self", .self), ("v_5", .int 0), ("v_6", .int 0)] L)
    (h : ∀ (σ : St) (c b k : Int), σ.ob = (Zs (mainX x lb) c lb b k reg).ob → Sub [("self", .self), ("v_5", .int 0), ("v_6", .int 0)] σ.loc → P .next σ) :
    HS ⟨fS (cS 6 12), d + 1, true, .stem⟩ (sAt (fB (cS 6 12)) 10) ⟨L, (Zs x x.length lb b k reg).ob⟩ P := by
  refine HS_try (x := "lab0") (i := 0) rfl rfl rfl ?_
  refine HB_sub (loc := [("self", .self), ("v_5", .int 0), ("v_6", .int 0)]) hL ?_
  clear hL
  unfold mainX at h
  refine HB_cons (HS_while rfl (fun n σ => n = 0 ∧ σ = ⟨[("self", .self), ("v_5", .int 0), ("v_6", .int 0)], (Zs x x.length lb b k reg).ob⟩) (n := 0) ⟨rfl, rfl⟩ ?_)
  rintro n0 σ0 ⟨rfl, rfl⟩
  refine HT_val (HE_bool ⟨true, rfl, ?_⟩)
  rw [if_pos rfl]
  have z0 : (x.length : Int) - x.length = 0 := by omega
  refine HB_cons (HS_assign rfl (HE_bin (HE_self (v := .int x.length) rfl rfl rfl rfl rfl (HE_self (v := .int x.length) rfl rfl rfl rfl rfl ?_))))
  show HB _ _ ⟨setL "v_7" (.int ((x.length : Int) - x.length)) [("self", .self), ("v_5", .int 0), ("v_6", .int 0)], (Zs x x.length lb b k reg).ob⟩ _
  rw [z0]
  refine HB_cons (HS_try rfl rfl rfl ?_)
  refine HB_cons (HS_if (HT_not (HT_val (HE_meth (fa := 244) (d := d + 1) rfl rfl rfl (fun P => by kernel_rfl) (Nat.le_refl _) (HA_nil (r_perfective_gerund_ (by omega) x hlb hx b k reg fun n res hf hn c1 b1 k1 => ?_))))))
  have e := hf.uniq (tabOk_of ok0)
  have hG : delAY (amRows (cS 6 13)) x lb = if res = 0 ∨ (res = 1 ∧ preAY x lb (x.length - n) = false) then none else some (x.take (x.length - n)) := by
    unfold delAY endT; rw [e]
  by_cases q : res = 0 ∨ (res = 1 ∧ preAY x lb (x.length - n) = false)
  · rw [if_pos q]
    rw [hG, if_pos q] at h
    refine ⟨_, rfl, ?_⟩
    show HB _ _ _ _
    refine HB_cons (HS_raise rfl rfl ⟨rfl, ?_⟩)
    clear hG q hf hn e
    refine HB_cons (HS_cursor rfl rfl rfl (HE_bin (HE_self (v := .int x.length) rfl rfl rfl rfl rfl (HE_name (v := .int 0) rfl rfl ⟨rfl, _, rfl, ?_⟩))))
    have z1 : (x.length : Int) - 0 = x.length := by omega
    rw [z1]
    refine HB_cons (HS_assign rfl (HE_bin (HE_self (v := .int x.length) rfl rfl rfl rfl rfl (HE_self (v := .int x.length) rfl rfl rfl rfl rfl ?_))))
    refine HB_sub (loc := [("self", .self), ("v_5", .int 0), ("v_6", .int 0), ("v_8", .int 0)]) ⟨rfl, rfl, rfl, by show some (V.int ((x.length : Int) - x.length)) = _; rw [z0], trivial⟩ ?_
    have key : ∀ (z : List Nat), (z = (delX (amRows (cS 6 16)) x lb).getD x) → z.length ≤ 100000 ∧ lb ≤ z.length := by
      rintro z rfl
      have := delX_bd (amRows (cS 6 16)) x hlb
      omega
    obtain ⟨z, hz⟩ : ∃ z, z = (delX (amRows (cS 6 16)) x lb).getD x := ⟨_, rfl⟩
    obtain ⟨zx, zl⟩ := key z hz
    clear key
    have zz : (z.length : Int) - z.length = 0 := by omega
    refine HB_cons (HS_mono (P := MTr z lb reg) (HS_try rfl rfl rfl ?_) ?_)
    · refine HB_abs fun Q0 hQ0 => ?_
      refine HB_cons (HS_if (HT_not (HT_val (HE_meth (fa := 265) (d := d + 1) rfl rfl rfl (fun P => by kernel_rfl) (Nat.le_refl _) (HA_nil (r_reflexive_ (by omega) x hlb hx b1 k1 reg fun n res hf hn b2 k2 => ?_))))))
      have e := hf.uniq (tabOk_of ok3)
      have hG : z = if res = 0 then x else x.take (x.length - n) := by
        rw [hz]; unfold delX endT; rw [e]; dsimp only; split <;> rfl
      by_cases q : res = 0
      · rw [if_pos q]
        rw [if_pos q] at hG
        refine ⟨_, rfl, ?_⟩
        show HB _ _ _ _
        refine HB_cons (HS_cursor rfl rfl rfl (HE_bin (HE_self (v := .int x.length) rfl rfl rfl rfl rfl (HE_name (v := .int 0) rfl rfl ⟨rfl, _, rfl, ?_⟩))))
        rw [z1]
        refine HB_cons (HS_raise rfl rfl (hQ0 _ _ ⟨rfl, rfl, b2, k2, ?_, ⟨rfl, rfl, rfl, trivial⟩⟩))
        rw [hG]
      · rw [if_neg q]
        rw [if_neg q] at hG
        refine ⟨_, rfl, ?_⟩
        show HB _ _ _ _
        refine HB_nil (HB_nil (hQ0 _ _ ⟨rfl, b2, k2, ?_, ⟨rfl, rfl, rfl, trivial⟩⟩))
        have : z.length = x.length - n := by rw [hG]; simp
        rw [this, hG]
    · rintro φ σ ⟨rfl, b2, k2, hob, hsub⟩
      refine HB_sub hsub ?_
      rw [hob]
      clear hsub hob
      rw [← hz] at h
      clear hz
      refine HB_cons (HS_mono (P := MTo z lb reg)
        (HS_while rfl (fun n σ => n = 0 ∧ σ = ⟨[("self", .self), ("v_5", .int 0), ("v_6", .int 0)], (Zs z z.length lb b2 k2 reg).ob⟩) (n := 0) ⟨rfl, rfl⟩ ?_) ?_)
      · rintro n0 σ0 ⟨rfl, rfl⟩
        refine HT_val (HE_bool ⟨true, rfl, ?_⟩)
        rw [if_pos rfl]
        refine HB_abs fun Q1 hQ1 => ?_
        obtain ⟨iz, hiz⟩ : ∃ iz, iz = innerX z lb := ⟨_, rfl⟩
        have hI := hiz.symm
        unfold innerX at hI
        refine HB_cons (HS_assign rfl (HE_bin (HE_self (v := .int z.length) rfl rfl rfl rfl rfl (HE_self (v := .int z.length) rfl rfl rfl rfl rfl ?_))))
        show HB _ _ ⟨setL "v_9" (.int ((z.length : Int) - z.length)) [("self", .self), ("v_5", .int 0), ("v_6", .int 0)], (Zs z z.length lb b2 k2 reg).ob⟩ _
        rw [zz]
        have z2 : (z.length : Int) - 0 = z.length := by omega
        refine HB_cons (HS_try rfl rfl rfl ?_)
        refine HB_cons (HS_if (HT_not (HT_val (HE_meth (fa := 258) (d := d + 1) rfl rfl rfl (fun P => by kernel_rfl) (Nat.le_refl _) (HA_nil (r_adjectival_ (by omega) z zl zx b2 k2 reg fun n res hf hn => ?_))))))
        have e := hf.uniq (tabOk_of ok1)
        have hG : delX (amRows (cS 6 14)) z lb = if res = 0 then none else some (z.take (z.length - n)) := by
          unfold delX endT; rw [e]
        by_cases q : res = 0
        · rw [if_pos q]
          rw [if_pos q] at hG
          rw [hG] at hI
          intro c3 b3 k3
          refine ⟨_, rfl, ?_⟩
          show HB _ _ _ _
          refine HB_cons (HS_raise rfl rfl ⟨rfl, ?_⟩)
          clear hG q hf hn e
          refine HB_cons (HS_cursor rfl rfl rfl (HE_bin (HE_self (v := .int z.length) rfl rfl rfl rfl rfl (HE_name (v := .int 0) rfl rfl ⟨rfl, _, rfl, ?_⟩))))
          rw [z2]
          refine HB_cons (HS_try rfl rfl rfl ?_)
          refine HB_cons (HS_if (HT_not (HT_val (HE_meth (fa := 272) (d := d + 1) rfl rfl rfl (fun P => by kernel_rfl) (Nat.le_refl _) (HA_nil (r_verb_ (by omega) z zl zx b3 k3 reg fun n res hf hn c4 b4 k4 => ?_))))))
          have e := hf.uniq (tabOk_of ok4)
          have hG : delAY (amRows (cS 6 17)) z lb = if res = 0 ∨ (res = 1 ∧ preAY z lb (z.length - n) = false) then none else some (z.take (z.length - n)) := by
            unfold delAY endT; rw [e]
          by_cases q : res = 0 ∨ (res = 1 ∧ preAY z lb (z.length - n) = false)
          · rw [if_pos q]
            rw [if_pos q] at hG
            rw [hG] at hI
            refine ⟨_, rfl, ?_⟩
            show HB _ _ _ _
            refine HB_cons (HS_raise rfl rfl ⟨rfl, ?_⟩)
            clear hG q hf hn e
            refine HB_cons (HS_cursor rfl rfl rfl (HE_bin (HE_self (v := .int z.length) rfl rfl rfl rfl rfl (HE_name (v := .int 0) rfl rfl ⟨rfl, _, rfl, ?_⟩))))
            rw [z2]
            refine HB_cons (HS_if (HT_not (HT_val (HE_meth (fa := 279) (d := d + 1) rfl rfl rfl (fun P => by kernel_rfl) (Nat.le_refl _) (HA_nil (r_noun_ (by omega) z zl zx b4 k4 reg fun n res hf hn b5 k5 => ?_))))))
            have e := hf.uniq (tabOk_of ok5)
            have hG : (delX (amRows (cS 6 18)) z lb).getD z = if res = 0 then z else z.take (z.length - n) := by
              unfold delX endT; rw [e]; dsimp only; split <;> rfl
            by_cases q : res = 0
            · rw [if_pos q]
              rw [if_pos q] at hG
              refine ⟨_, rfl, ?_⟩
              show HB _ _ _ _
              exact HB_cons (HS_raise rfl rfl (hQ1 _ _ (.inr ⟨rfl, _, _, _, _, rfl, ⟨rfl, rfl, rfl, trivial⟩, hG.symm.trans (hI.trans hiz)⟩)))
            · rw [if_neg q]
              rw [if_neg q] at hG
              refine ⟨_, rfl, ?_⟩
              show HB _ _ _ _
              exact HB_nil (HB_cons (HS_break (hQ1 _ _ (.inl ⟨rfl, _, _, _, _, rfl, ⟨rfl, rfl, rfl, trivial⟩, hG.symm.trans (hI.trans hiz)⟩))))
          · rw [if_neg q]
            rw [if_neg q] at hG
            rw [hG] at hI
            refine ⟨_, rfl, ?_⟩
            show HB _ _ _ _
            exact HB_nil (HB_cons (HS_break (hQ1 _ _ (.inl ⟨rfl, _, _, _, _, rfl, ⟨rfl, rfl, rfl, trivial⟩, hI.trans hiz⟩))))
        · rw [if_neg q]
          rw [if_neg q] at hG
          rw [hG] at hI
          intro n2 res2 hf2 hn2 c3 b3 k3
          have e2 := hf2.uniq (tabOk_of ok2)
          refine ⟨_, rfl, ?_⟩
          show HB _ _ _ _
          refine HB_nil (HB_cons (HS_break (hQ1 _ _ (.inl ⟨rfl, _, _, _, _, rfl, ⟨rfl, rfl, rfl, trivial⟩, ?_⟩))))
          refine Eq.trans ?_ (hI.trans hiz)
          show partX _ _ _ _ = (delAY (amRows (cS 6 15)) (z.take (z.length - n)) lb).getD (z.take (z.length - n))
          unfold partX delAY endT
          rw [e2]
          dsimp only
          split <;> rfl
      · rintro φ σ (⟨rfl, y, c3, b3, k3, hob, hsub, hy⟩ | ⟨rfl, y, c3, b3, k3, hob, hsub, hy⟩)
        · exact HB_cons (HS_break (HB_nil (h σ c3 b3 k3 (hob.trans (by rw [hy] <;> rfl)) hsub)))
        · exact ⟨rfl, h σ c3 b3 k3 (hob.trans (by rw [hy] <;> rfl)) hsub⟩
  · rw [if_neg q]
    rw [hG, if_neg q] at h
    refine ⟨_, rfl, ?_⟩
    show HB _ _ _ _
    refine HB_nil (HB_cons (HS_break (HB_nil ?_)))
    exact h _ c1 b1 k1 rfl ⟨rfl, rfl, rfl, trivial⟩
end Mine

end

-- X14
section
namespace Mine

theorem mainX_bd (x : List Nat) {lb : Nat} (hlb : lb ≤ x.length) : (mainX x lb).length ≤ x.length ∧ lb ≤ (mainX x lb).length := by
  have g1 := delAY_bd (amRows (cS 6 13)) x hlb
  have g2 := delX_bd (amRows (cS 6 16)) x hlb
  unfold mainX
  cases e1 : delAY (amRows (cS 6 13)) x lb with
  | some y => rw [e1] at g1; exact g1
  | none =>
    dsimp only
    generalize (delX (amRows (cS 6 16)) x lb).getD x = z at g2 ⊢
    have g3 := delX_bd (amRows (cS 6 14)) z g2.2
    cases e2 : delX (amRows (cS 6 14)) z lb with
    | some y =>
      rw [e2] at g3
      have g3 : y.length ≤ z.length ∧ lb ≤ y.length := g3
      have g4 := delAY_bd (amRows (cS 6 15)) y g3.2
      dsimp only
      omega
    | none =>
      dsimp only
      have g4 := delAY_bd (amRows (cS 6 17)) z g2.2
      cases e3 : delAY (amRows (cS 6 17)) z lb with
      | some y =>
        rw [e3] at g4
        have g4 : y.length ≤ z.length ∧ lb ≤ y.length := g4
        dsimp only; omega
      | none =>
        have g5 := delX_bd (amRows (cS 6 18)) z g2.2
        dsimp only; omega
theorem iX_bd (x : List Nat) {lb : Nat} (hlb : lb ≤ x.length) : (iX x lb).length ≤ x.length ∧ lb ≤ (iX x lb).length := by
  unfold iX
  split
  · rename_i h
    unfold isI at h
    rw [Bool.and_eq_true] at h
    have := of_decide_eq_true h.1
    rw [List.length_take]; omega
  · omega
theorem derX_bd (x : List Nat) {lb : Nat} (hlb : lb ≤ x.length) (p2 : Int) : (derX x lb p2).length ≤ x.length ∧ lb ≤ (derX x lb p2).length := by
  have q := fnd_le (amRows (cS 6 19)) (endT x lb)
  have : (endT x lb).length = x.length - lb := by unfold endT; simp
  unfold derX
  split
  · omega
  · rw [List.length_take]; omega

noncomputable def SIp (y : List Nat) (lb : Nat) (p2 : Int) (φ : Fl) (σ : St) : Prop := φ = .next ∧ ∃ c b k : Int, σ.ob = (Zs (iX y lb) (iX y lb).length lb b k (some ((lb : Int), p2))).ob ∧ Sub [("self", .self), ("v_5", .int 0)] σ.loc
theorem stem_ {d : Nat} (hd : d < 390) (x0 : List Nat) (hx0 : x0.length ≤ 1000) (lb0 b k : Int) (reg) {Q : V → List (Str × V) → Prop}
    (h : ∀ (c lb b k : Int) reg, Q (.bool true) (Zs (stemL x0) c lb b k reg).ob) : HC d .stem 300 [.self] (Zs x0 0 lb0 b k reg).ob Q := by
  refine HC_body fn300 (by omega) rfl (by rfl) ?_
  refine HB_cons (HS_assign rfl (HE_self (v := .int 0) rfl rfl rfl rfl rfl ?_))
  refine HB_cons (stem_yo (by omega) x0 hx0 lb0 b k reg ?_)
  intro σ c b k hob hsub
  refine HB_sub hsub ?_
  rw [hob]
  clear hsub hob
  unfold stemL at h
  have hx : (yo x0).length ≤ 1000 := by rw [yo_len]; exact hx0
  generalize yo x0 = x at hx h
  try dsimp only at h
  refine HB_cons (HS_cursor rfl rfl rfl (HE_name (v := .int 0) rfl rfl ⟨rfl, _, rfl, ?_⟩))
  refine HB_cons (HS_expr (HE_meth (fa := 237) (d := d + 1) rfl rfl rfl (fun P => by kernel_rfl) (Nat.le_refl _) (HA_nil (r_mark_regions_ (by omega) (Zs x 0 lb0 b k reg) (by show (mkS x).length ≤ _; rw [mkS_len]; omega) (by show (x.length : Int) = ((mkS x).length : Int); rw [mkS_len]) rfl ⟨trivial, ?_⟩))))
  have rb := regs_bd (mkS x) x.length (by omega)
  show HB _ _ ⟨_, (Zs x 0 lb0 b k (some (regs (mkS x) x.length))).ob⟩ _
  generalize regs (mkS x) x.length = rg at rb h ⊢
  obtain ⟨pV, p2⟩ := rg
  try dsimp only at rb
  try dsimp only at h
  obtain ⟨r1, r2, r3, r4⟩ := rb
  obtain ⟨lb, rfl⟩ : ∃ lb : Nat, pV = lb := ⟨pV.toNat, by omega⟩
  have hlb : lb ≤ x.length := by omega
  rw [Int.toNat_natCast] at h
  refine HB_cons (HS_lb rfl rfl rfl (HE_self (v := .int 0) rfl rfl rfl rfl rfl ⟨rfl, _, rfl, ?_⟩))
  refine HB_cons (HS_cursor rfl rfl rfl (HE_self (v := .int x.length) rfl rfl rfl rfl rfl ⟨rfl, _, rfl, ?_⟩))
  refine HB_cons (HS_if (HT_cmp (HE_self (v := .int x.length) rfl rfl rfl rfl rfl (HE_self (v := .int lb) rfl rfl rfl rfl rfl ⟨_, rfl, ?_⟩))))
  rw [decide_eq_false (by omega)]
  show HB _ _ _ _
  refine HB_nil ?_
  refine HB_cons (HS_assign rfl (HE_self (v := .int 0) rfl rfl rfl rfl rfl ?_))
  refine HB_cons (HS_lb rfl rfl rfl (HE_self (v := .int lb) rfl rfl rfl rfl rfl ⟨rfl, _, rfl, ?_⟩))
  refine HB_cons (HS_assign rfl (HE_bin (HE_self (v := .int x.length) rfl rfl rfl rfl rfl (HE_self (v := .int x.length) rfl rfl rfl rfl rfl ?_))))
  refine HB_sub (loc := [("self", .self), ("v_5", .int 0), ("v_6", .int 0)]) ⟨rfl, rfl, by show some (V.int ((x.length : Int) - x.length)) = _; rw [show (x.length : Int) - x.length = 0 by omega], trivial⟩ ?_
  have mb := mainX_bd x hlb
  refine HB_cons (main_try (by omega) x (by omega) hlb b k (some ((lb : Int), p2)) ⟨rfl, rfl, rfl, trivial⟩ ?_)
  intro σ c1 b1 k1 hob hsub
  refine HB_sub hsub ?_
  rw [hob]
  clear hsub hob
  generalize hy : mainX x lb = y at mb h
  have hy1 : y.length ≤ 1000 := by omega
  have hlb1 := mb.2
  have z1 : (y.length : Int) - 0 = y.length := by omega
  clear hy mb
  refine HB_cons (HS_cursor rfl rfl rfl (HE_bin (HE_self (v := .int y.length) rfl rfl rfl rfl rfl (HE_name (v := .int 0) rfl rfl ⟨rfl, _, rfl, ?_⟩))))
  rw [z1]
  refine HB_cons (HS_assign rfl (HE_bin (HE_self (v := .int y.length) rfl rfl rfl rfl rfl (HE_self (v := .int y.length) rfl rfl rfl rfl rfl ?_))))
  refine HB_sub (loc := [("self", .self), ("v_5", .int 0), ("v_10", .int 0)]) ⟨rfl, rfl, by show some (V.int ((y.length : Int) - y.length)) = _; rw [show (y.length : Int) - y.length = 0 by omega], trivial⟩ ?_
  have ib := iX_bd y hlb1
  refine HB_cons (HS_mono (P := SIp y lb p2) (HS_try rfl rfl rfl ?_) ?_)
  · refine HB_abs fun Q1 hQ1 => ?_
    refine HB_cons (HS_ket rfl rfl rfl (HE_self (v := .int y.length) rfl rfl rfl rfl rfl ⟨rfl, _, rfl, ?_⟩))
    refine HB_cons (HS_if (HT_pre rfl rfl rfl y (by omega) (Nat.le_refl _) b1 y.length (some ((lb : Int), p2)) 1080 _ rfl ?_))
    have hix : ∀ z, (if isI y lb = true then y.take (y.length - 1) else y) = z → iX y lb = z := fun z e => e
    unfold iX at ib
    by_cases a : isI y lb = true
    · rw [if_pos a] at ib hix
      rw [show (decide (lb < y.length) && y.getD (y.length - 1) 0 == 1080) = true from a]
      have a1 : lb < y.length := by
        unfold isI at a; rw [Bool.and_eq_true] at a; exact of_decide_eq_true a.1
      show HB _ _ _ _
      refine HB_nil (HB_cons (HS_augcursor rfl rfl rfl (HE_int ⟨rfl, _, rfl, ?_⟩)))
      obtain ⟨q, hq⟩ : ∃ q, q = y.length - 1 := ⟨_, rfl⟩
      have e : (y.length : Int) - 1 = (q : Int) := by omega
      rw [e]
      rw [← hq] at ib hix
      refine HB_cons (HS_bra rfl rfl rfl (HE_self (v := .int q) rfl rfl rfl rfl rfl ⟨rfl, _, rfl, ?_⟩))
      refine HB_cons (HS_expr (HE_meth (fa := 161) (d := d + 1) rfl rfl rfl (fun P => by kernel_rfl) (Nat.le_refl _) (HA_nil (del_ (by omega) y (by omega) lb (m := q) (by omega) _ q (Int.le_refl _) ⟨trivial, ?_⟩))))
      refine HB_nil (hQ1 _ _ ⟨rfl, q, q, q, ?_, ⟨rfl, rfl, trivial⟩⟩)
      have : (y.take q).length = q := by rw [List.length_take]; omega
      rw [hix _ rfl, this]
    · have a : isI y lb = false := by simpa using a
      rw [if_neg (by rw [a]; decide)] at hix
      rw [show (decide (lb < y.length) && y.getD (y.length - 1) 0 == 1080) = false from a]
      show HB _ _ _ _
      refine HB_cons (HS_cursor rfl rfl rfl (HE_bin (HE_self (v := .int y.length) rfl rfl rfl rfl rfl (HE_name (v := .int 0) rfl rfl ⟨rfl, _, rfl, ?_⟩))))
      rw [z1]
      exact HB_cons (HS_raise rfl rfl (hQ1 _ _ ⟨rfl, rfl, y.length, b1, y.length, by rw [hix _ rfl], ⟨rfl, rfl, trivial⟩⟩))
  rintro φ σ ⟨rfl, -, b2, k2, hob, hsub⟩
  refine HB_sub hsub ?_
  rw [hob]
  clear hsub hob
  generalize iX y lb = z at ib h
  have hz1 : z.length ≤ 1000 := by omega
  have hlb2 := ib.2
  have z2 : (z.length : Int) - z.length = 0 := by omega
  clear ib z1 hlb1 hy1
  refine HB_cons (HS_assign rfl (HE_bin (HE_self (v := .int z.length) rfl rfl rfl rfl rfl (HE_self (v := .int z.length) rfl rfl rfl rfl rfl ?_))))
  refine HB_sub (loc := [("self", .self), ("v_5", .int 0), ("v_11", .int 0)]) ⟨rfl, rfl, by show some (V.int ((z.length : Int) - z.length)) = _; rw [z2], trivial⟩ ?_
  refine HB_cons (HS_expr (HE_meth (fa := 286) (d := d + 1) rfl rfl rfl (fun P => by kernel_rfl) (Nat.le_refl _) (HA_nil (r_derivational_ (by omega) z hlb2 (by omega) b2 k2 lb p2 (Q := fun r ob => HB _ _ ⟨_, ob⟩ _) fun n res hf hn b3 k3 => ?_))))
  have e := hf.uniq (tabOk_of ok6)
  have db := derX_bd z hlb2 p2
  have hG : derX z lb p2 = if res = 0 ∨ (z.length : Int) - n < p2 then z else z.take (z.length - n) := by
    unfold derX endT; rw [e]
  have main : ∀ (y : List Nat) (c : Int), y = derX z lb p2 → HB ⟨fS (cS 6 12), d + 1, true, .stem⟩ ((fB (cS 6 12)).drop 16) ⟨[("self", .self), ("v_5", .int 0), ("v_11", .int 0)], (Zs y c lb b3 k3 (some ((lb : Int), p2))).ob⟩ (fun φ σ => match φ with
      | .ret r => Q r σ.ob
      | .next => Q .none σ.ob
      | _ => False) := by
    intro y c hy
    rw [← hy] at db h
    have z1 : (y.length : Int) - 0 = y.length := by omega
    have z3 : (y.length : Int) - y.length = 0 := by omega
    refine HB_cons (HS_cursor rfl rfl rfl (HE_bin (HE_self (v := .int y.length) rfl rfl rfl rfl rfl (HE_name (v := .int 0) rfl rfl ⟨rfl, _, rfl, ?_⟩))))
    rw [z1]
    refine HB_cons (HS_assign rfl (HE_bin (HE_self (v := .int y.length) rfl rfl rfl rfl rfl (HE_self (v := .int y.length) rfl rfl rfl rfl rfl ?_))))
    refine HB_sub (loc := [("self", .self), ("v_5", .int 0), ("v_12", .int 0)]) ⟨rfl, rfl, by show some (V.int ((y.length : Int) - y.length)) = _; rw [z3], trivial⟩ ?_
    refine HB_cons (HS_expr (HE_meth (fa := 293) (d := d + 1) rfl rfl rfl (fun P => by kernel_rfl) (Nat.le_refl _) (HA_nil (r_tidy_up_ (by omega) y db.2 (by omega) b3 k3 _ (Q := fun r ob => HB _ _ ⟨_, ob⟩ _) fun n2 res2 hf2 hn2 r c4 b4 k4 => ?_))))
    have e2 := hf2.uniq (tabOk_of ok7)
    have hT : tidX y lb = tidyX y lb n2 res2 := by unfold tidX endT; rw [e2]
    rw [hT] at h
    generalize tidyX y lb n2 res2 = w at h
    refine HB_cons (HS_cursor rfl rfl rfl (HE_bin (HE_self (v := .int w.length) rfl rfl rfl rfl rfl (HE_name (v := .int 0) rfl rfl ⟨rfl, _, rfl, ?_⟩))))
    refine HB_cons (HS_lb rfl rfl rfl (HE_name (v := .int 0) rfl rfl ⟨rfl, _, rfl, ?_⟩))
    refine HB_cons (HS_cursor rfl rfl rfl (HE_self (v := .int 0) rfl rfl rfl rfl rfl ⟨rfl, _, rfl, ?_⟩))
    exact HB_cons (HS_ret (HE_bool (h _ _ _ _ _)))
  by_cases q : res = 0 ∨ (z.length : Int) - n < p2
  · rw [if_pos q] at hG ⊢
    exact fun r => main _ _ hG.symm
  · rw [if_neg q] at hG ⊢
    exact fun r => main _ _ hG.symm
end Mine

end

-- X15
section
namespace Mine

theorem stemWord_ {d : Nat} (hd : d < 380) (S : Sm) (x : List Nat) (hx : x.length ≤ 1000) {Q : V → List (Str × V) → Prop}
    (h : ∀ (c lb b k : Int) reg, Q (.str (mkS (stemL x))) (Zs (stemL x) c lb b k reg).ob) : HC d .stem 189 [.self, .str (mkS x)] S.ob Q := by
  have hz : sizeLine = 16777216 := sizeLine_eq
  refine HC_body fn189 (by omega) rfl (by rfl) ?_
  refine HB_cons (HS_expr (HE_meth (fa := 42) (d := d + 1) rfl rfl rfl (fun P => by kernel_rfl) (Nat.le_refl _) (HA_cons (HE_name (v := .str (mkS x)) rfl rfl (HA_nil (set_current_ (by omega) S (mkS x) (by rw [mkS_len]; omega) ⟨trivial, ?_⟩))))))
  have e : (S.new (mkS x)) = Zs x 0 0 0 x.length S.reg := by
    unfold Sm.new Zs
    simp only [mkS_len]
  rw [e]
  refine HB_cons (HS_expr (HE_meth (fa := 300) (d := d + 1) rfl rfl rfl (fun P => by kernel_rfl) (Nat.le_refl _) (HA_nil (stem_ (by omega) x hx 0 0 x.length S.reg (Q := fun r ob => notRef r ∧ HB _ _ ⟨_, ob⟩ _) fun c lb b k reg => ⟨trivial, ?_⟩))))
  exact HB_cons (HS_ret (HE_meth (fa := 49) (d := d + 1) rfl rfl rfl (fun P => by kernel_rfl) (Nat.le_refl _) (HA_nil (get_current_ (by omega) (Zs (stemL x) c lb b k reg) (h c lb b k reg)))))
end Mine

end

-- X16
section
namespace Mine

noncomputable abbrev sv (x : List Nat) : V := .str (mkS x)
noncomputable def svs (l : List (List Nat)) : V := .list (l.map sv)
noncomputable def vowN : List Nat := [1072, 1077, 1080, 1086, 1091, 1099, 1101, 1102, 1103]

theorem law_vowels_ {d : Nat} (hd : d < 500) {k : Kd} (ob : List (Str × V)) {Q : V → List (Str × V) → Prop} (h : Q (svs (vowN.map fun c => [c])) ob) : HC d k 758 [] ob Q := by
  refine HC_body fn758 (by omega) rfl (by rfl) ?_
  refine HB_cons ?_
  refine HS_ret ?_
  refine HE_list ?_
  iterate 9 refine HA_cons (HE_str ?_)
  exact HA_nil ⟨by decide, h⟩
end Mine

end

-- X17
section
namespace Mine

/-- the law's ending: the longest of n, n-1 .. 1 letters that is in E -/
noncomputable def lend (t : List Nat) (E : List (List Nat)) : Nat → List Nat
  | 0 => []
  | n + 1 => if E.contains (t.drop (t.length - (n + 1))) then t.drop (t.length - (n + 1)) else lend t E n

theorem strsOf_svs : ∀ l : List (List Nat), strsOf (l.map sv) = some (l.map mkS)
  | [] => rfl
  | x :: r => by
    show (strsOf (r.map sv)).map (mkS x :: ·) = _
    rw [strsOf_svs r]; rfl
theorem any_svs (E : List (List Nat)) (x : List Nat) : ((E.map mkS).any fun y => y == mkS x) = E.contains x := by
  rw [List.contains_eq_any_beq, List.any_map]
  congr 1
  funext y
  show (mkS y == mkS x) = (x == y)
  rw [Bool.eq_iff_iff, beq_iff_eq, beq_iff_eq]
  exact ⟨fun e => (mkS_inj e).symm, fun e => by rw [e]⟩

noncomputable def LEi (t : List Nat) (E : List (List Nat)) (ob : List (Str × V)) (n i : Nat) (σ : St) : Prop := i ≤ n ∧ σ.ob = ob ∧ Sub [("tail", sv t), ("ends", svs E)] σ.loc ∧ lend t E (n - i) = lend t E n
theorem law_end_ {d : Nat} (hd : d < 500) {k : Kd} (ob : List (Str × V)) (t : List Nat) (ht : t.length ≤ 100000) (E : List (List Nat)) {Q : V → List (Str × V) → Prop}
    (h : Q (sv (lend t E (min 6 t.length))) ob) : HC d k 790 [sv t, svs E] ob Q := by
  have hz : sizeLine = 16777216 := sizeLine_eq
  refine HC_body fn790 (by omega) rfl (by rfl) ?_
  refine HB_cons ?_
  refine HS_for_range rfl rfl rfl (LEi t E ob (min 6 t.length)) ?_
  refine HA_cons ?_
  refine HE_min rfl ?_
  refine HE_int ?_
  refine HE_len_str rfl ?_
  refine HE_name (v := sv t) rfl rfl ?_
  refine ⟨_, rfl, by rw [mkS_len]; omega, _, _, rfl, rfl, ?_⟩
  refine HA_cons (HE_int ?_)
  refine HA_cons ?_
  refine HE_neg ?_
  refine HE_int ⟨_, rfl, ?_⟩
  refine HA_nil ?_
  have hm : (if ((mkS t).length : Int) < 6 then ((mkS t).length : Int) else 6) = ((min 6 t.length : Nat) : Int) := by rw [mkS_len]; split <;> omega
  obtain ⟨n, hn⟩ : ∃ n, n = min 6 t.length := ⟨_, rfl⟩
  rw [hm, ← hn]
  rw [← hn] at h
  refine ⟨n, 0, -1, n, rfl, .inr rfl, by omega, by omega, by omega, by omega, ?_, ⟨Nat.zero_le _, rfl, ⟨rfl, rfl, trivial⟩, rfl⟩, ?_, ?_⟩
  · unfold Builtin.Range.rangeSize
    simp
    try omega
  · rintro i σ hi ⟨-, hob, hsub, hl⟩
    obtain ⟨m, hm2⟩ : ∃ m, n - i = m + 1 := ⟨n - i - 1, by omega⟩
    have hm3 : n - (i + 1) = m := by omega
    have ev : (n : Int) + (i : Int) * -1 = ((m + 1 : Nat) : Int) := by omega
    rw [ev]
    have hle : m + 1 ≤ t.length := by omega
    have sl : Txt.slice (mkS t) (some ((t.length : Int) - ((m + 1 : Nat) : Int))) none = mkS (t.drop (t.length - (m + 1))) := by
      rw [show (t.length : Int) - ((m + 1 : Nat) : Int) = ((t.length - (m + 1) : Nat) : Int) by omega]
      exact sl_sn t (by omega)
    refine HB_sub (loc := [("tail", sv t), ("ends", svs E), ("size", .int ((m + 1 : Nat) : Int))]) ?_ ?_
    · obtain ⟨a, b, _⟩ := hsub
      refine ⟨?_, ?_, ?_, trivial⟩
      · rw [lookup_setL]; exact a
      · rw [lookup_setL]; exact b
      · rw [lookup_setL]; rfl
    rw [hob]
    clear hsub hob
    refine HB_abs fun Q1 hQ1 => ?_
    refine HB_cons ?_
    refine HS_if ?_
    refine HT_cmp ?_
    refine HE_sl_sn ?_
    refine HE_name (v := sv t) rfl rfl ?_
    refine HE_bin ?_
    refine HE_len_str rfl ?_
    refine HE_name (v := sv t) rfl rfl ?_
    refine ⟨_, rfl, by rw [mkS_len]; omega, ?_⟩
    refine HE_name (v := .int ((m + 1 : Nat) : Int)) rfl rfl ?_
    refine ⟨mkS t, _, rfl, rfl, by rw [mkS_len]; omega, ?_⟩
    refine HE_name (v := svs E) rfl rfl ?_
    refine ⟨_, congrArg (Option.map _) (strsOf_svs E), ?_⟩
    show if ((E.map mkS).any fun y => y == Txt.slice (mkS t) (some (((mkS t).length : Int) - ((m + 1 : Nat) : Int))) none) = true then _ else _
    rw [mkS_len, sl, any_svs]
    have hl : (if E.contains (t.drop (t.length - (m + 1))) then t.drop (t.length - (m + 1)) else lend t E m) = lend t E n := by
      rw [← hl, hm2]; rfl
    by_cases q : E.contains (t.drop (t.length - (m + 1))) = true
    · rw [if_pos q]
      rw [if_pos q] at hl
      refine HB_cons ?_
      refine HS_ret ?_
      refine HE_sl_sn ?_
      refine HE_name (v := sv t) rfl rfl ?_
      refine HE_bin ?_
      refine HE_len_str rfl ?_
      refine HE_name (v := sv t) rfl rfl ?_
      refine ⟨_, rfl, by rw [mkS_len]; omega, ?_⟩
      refine HE_name (v := .int ((m + 1 : Nat) : Int)) rfl rfl ?_
      refine ⟨mkS t, _, rfl, rfl, by rw [mkS_len]; omega, ?_⟩
      rw [mkS_len, sl, hl]
      exact hQ1 _ _ h
    · rw [if_neg q]
      rw [if_neg q] at hl
      refine HB_nil (HB_nil (hQ1 _ _ ⟨by omega, rfl, ⟨rfl, rfl, trivial⟩, ?_⟩))
      rw [hm3]; exact hl
  · rintro σ ⟨-, hob, hsub, hl⟩
    refine HB_cons ?_
    refine HS_ret ?_
    refine HE_str ?_
    rw [Nat.sub_self] at hl
    rw [← hl] at h
    show Q _ σ.ob
    rw [hob]
    exact h
end Mine

end

-- X18
section
namespace Mine

noncomputable def endsAY (r : List Nat) : Bool := Txt.endswith (mkS r) (mkS [1072]) || Txt.endswith (mkS r) (mkS [1103])
/-- the law's deletion -/
noncomputable def shorn (t : List Nat) (A B : List (List Nat)) : Option (List Nat) :=
  let e := lend t (A ++ B) (min 6 t.length)
  let r := t.take (t.length - e.length)
  if e = [] ∨ (A.contains e = true ∧ endsAY r = false) then none else some r
theorem lend_len (t : List Nat) (E : List (List Nat)) : ∀ n, (lend t E n).length ≤ t.length
  | 0 => Nat.zero_le _
  | n + 1 => by
    unfold lend
    split
    · rw [List.length_drop]; omega
    · exact lend_len t E n

noncomputable def optV : Option (List Nat) → V
  | none => .none
  | some x => sv x

theorem law_shorn_ {d : Nat} (hd : d < 450) {k : Kd} (ob : List (Str × V)) (t : List Nat) (ht : t.length ≤ 100000) (A B : List (List Nat)) (hA : A.length ≤ 1000) (hB : B.length ≤ 1000) {Q : V → List (Str × V) → Prop}
    (h : Q (optV (shorn t A B)) ob) : HC d k 797 [sv t, .list [svs A, svs B]] ob Q := by
  have hz : sizeLine = 16777216 := sizeLine_eq
  refine HC_body fn797 (by omega) rfl (by rfl) ?_
  refine HB_cons ?_
  refine HS_assign rfl ?_
  refine HE_call (fa := 790) (d := d + 1) rfl rfl (fun P => by kernel_rfl) (fun P => by kernel_rfl) (Nat.le_refl _) ?_
  refine HA_cons ?_
  refine HE_name (v := sv t) rfl rfl ?_
  refine HA_cons ?_
  refine HE_bin ?_
  refine HE_item ?_
  refine HE_name (v := .list [svs A, svs B]) rfl rfl ?_
  refine HE_int ⟨_, 0, svs A, rfl, rfl, by omega, by omega, rfl, ?_⟩
  refine HE_item ?_
  refine HE_name (v := .list [svs A, svs B]) rfl rfl ?_
  refine HE_int ⟨_, 1, svs B, rfl, rfl, by omega, by omega, rfl, ?_⟩
  refine ⟨by rw [List.length_map, List.length_map]; omega, ?_⟩
  refine HA_nil ?_
  rw [← List.map_append]
  refine law_end_ (by omega) ob t ht (A ++ B) ?_
  unfold shorn at h
  dsimp only at h
  have le := lend_len t (A ++ B) (min 6 t.length)
  generalize lend t (A ++ B) (min 6 t.length) = e at h le
  refine HB_cons ?_
  refine HS_assign rfl ?_
  refine HE_sl_ns ?_
  refine HE_name (v := sv t) rfl rfl ?_
  refine HE_bin ?_
  refine HE_len_str rfl ?_
  refine HE_name (v := sv t) rfl rfl ?_
  refine ⟨_, rfl, by rw [mkS_len]; omega, ?_⟩
  refine HE_len_str rfl ?_
  refine HE_name (v := sv e) rfl rfl ?_
  refine ⟨_, rfl, by rw [mkS_len]; omega, ?_⟩
  refine ⟨mkS t, _, rfl, rfl, by rw [mkS_len]; omega, ?_⟩
  have sl : Txt.slice (mkS t) none (some (((mkS t).length : Int) - (mkS e).length)) = mkS (t.take (t.length - e.length)) := by
    rw [mkS_len, mkS_len, show (t.length : Int) - (e.length : Int) = ((t.length - e.length : Nat) : Int) by omega]
    exact sl_ns t (by omega)
  rw [sl]
  generalize t.take (t.length - e.length) = r at h
  refine HB_sub (loc := [("tail", sv t), ("kind", .list [svs A, svs B]), ("end", sv e), ("rest", sv r)]) ⟨rfl, rfl, rfl, rfl, trivial⟩ ?_
  refine HB_cons ?_
  refine HS_if ?_
  refine HT_or ?_
  refine HT_cmp ?_
  refine HE_name (v := sv e) rfl rfl ?_
  refine HE_str ⟨_, rfl, ?_⟩
  by_cases q : e = []
  · rw [if_pos (.inl q)] at h
    subst q
    show HB _ _ _ _
    exact HB_cons (HS_ret (HE_none h))
  · have e0 : (mkS e == ("" : Str)) = false := by
      rw [beq_eq_false_iff_ne]
      intro z
      exact q (mkS_inj (b := []) z)
    rw [e0]
    refine HT_and3 ?_
    refine HT_cmp ?_
    refine HE_name (v := sv e) rfl rfl ?_
    refine HE_item ?_
    refine HE_name (v := .list [svs A, svs B]) rfl rfl ?_
    refine HE_int ⟨_, 0, svs A, rfl, rfl, by omega, by omega, rfl, ?_⟩
    refine ⟨_, congrArg (Option.map _) (strsOf_svs A), ?_⟩
    show if ((A.map mkS).any fun y => y == mkS e) = true then _ else _
    rw [any_svs]
    by_cases qa : A.contains e = true
    · rw [if_pos qa]
      refine HT_not ?_
      refine HT_val ?_
      refine HE_endswith ?_
      refine HE_name (v := sv r) rfl rfl ?_
      refine ⟨_, rfl, ?_⟩
      refine HE_str ⟨_, rfl, _, rfl, ?_⟩
      have w1 : Txt.endswith (mkS r) ("а" : Str) = Txt.endswith (mkS r) (mkS [1072]) := rfl
      have w2 : Txt.endswith (mkS r) ("я" : Str) = Txt.endswith (mkS r) (mkS [1103]) := rfl
      rw [w1]
      unfold endsAY at h
      by_cases q1 : Txt.endswith (mkS r) (mkS [1072]) = true
      · rw [q1] at h ⊢
        rw [if_neg (by rintro (z | z); exact q z; cases z.2)] at h
        show HB _ _ _ _
        refine HB_nil (HB_cons ?_)
        refine HS_ret ?_
        exact HE_name (v := sv r) rfl rfl h
      · have q1 : Txt.endswith (mkS r) (mkS [1072]) = false := by simpa using q1
        rw [q1] at h ⊢
        rw [Bool.false_or] at h
        show HT _ _ _ _
        refine HT_not ?_
        refine HT_val ?_
        refine HE_endswith ?_
        refine HE_name (v := sv r) rfl rfl ?_
        refine ⟨_, rfl, ?_⟩
        refine HE_str ⟨_, rfl, _, rfl, ?_⟩
        rw [w2]
        by_cases q2 : Txt.endswith (mkS r) (mkS [1103]) = true
        · rw [q2] at h ⊢
          rw [if_neg (by rintro (z | z); exact q z; cases z.2)] at h
          show HB _ _ _ _
          refine HB_nil (HB_cons ?_)
          refine HS_ret ?_
          exact HE_name (v := sv r) rfl rfl h
        · have q2 : Txt.endswith (mkS r) (mkS [1103]) = false := by simpa using q2
          rw [q2] at h ⊢
          rw [if_pos (.inr ⟨qa, rfl⟩)] at h
          show HB _ _ _ _
          exact HB_cons (HS_ret (HE_none h))
    · rw [if_neg qa]
      rw [if_neg (by rintro (z | z); exact q z; exact qa z.1)] at h
      show HB _ _ _ _
      refine HB_nil (HB_cons ?_)
      refine HS_ret ?_
      exact HE_name (v := sv r) rfl rfl h
end Mine

end

-- X19
section
namespace Mine

theorem kindV_two (A B : List (List Nat)) : kindV [A.map mkS, B.map mkS] = .list [svs A, svs B] := by
  simp [kindV, strsV, svs, Function.comp_def]
theorem HE_kind {F : Fi} {σ : St} {Q : V → St → Prop} {x : Str} {pos} {a : Addr} {A B : List (List Nat)} (hx : F.sc.names.lookup x = some .globalImplicit) (e : ∀ P, nsIn (KF P) mainGlobals x = some (some (.ref a)))
    (hk : ∀ P, (listAt (KF P) a).bind (kindIn (KF P)) = some [A.map mkS, B.map mkS]) (h : Q (.list [svs A, svs B]) σ) (hd : (x == ("__debug__" : Str)) = false := by decide) : HE F (.Name x pos) σ Q :=
  HE_glob hx e (fun g O => kindV_two A B ▸ kind_vr hk g O) h hd
noncomputable def signN : List (List Nat) := [[1072], [1073], [1074], [1075], [1076], [1077], [1078], [1079], [1080], [1081], [1082], [1083], [1084], [1085], [1086], [1087], [1088], [1089], [1090], [1091], [1092], [1093], [1094], [1095], [1096], [1097], [1098], [1099], [1100], [1101], [1102], [1103], [1105], [1025], [1071], [119], [45]]
noncomputable def gerA : List (List Nat) := [[1074], [1074, 1096, 1080], [1074, 1096, 1080, 1089, 1100]]
noncomputable def gerB : List (List Nat) := [[1080, 1074], [1080, 1074, 1096, 1080], [1080, 1074, 1096, 1080, 1089, 1100], [1099, 1074], [1099, 1074, 1096, 1080], [1099, 1074, 1096, 1080, 1089, 1100]]
theorem kn13 : kinds (tS 13) = [gerA.map mkS, gerB.map mkS] := by kernel_rfl
theorem HE_ger {F : Fi} {σ : St} {Q : V → St → Prop} {pos} (hx : F.sc.names.lookup ("_law_gerund" : Str) = some .globalImplicit) (h : Q (.list [svs gerA, svs gerB]) σ) : HE F (.Name "_law_gerund" pos) σ Q :=
  HE_kind hx (fun P => by kernel_rfl) (fun P => (kd13 P).trans (by rw [kn13])) h
noncomputable def reflA : List (List Nat) := []
noncomputable def reflB : List (List Nat) := [[1089, 1103], [1089, 1100]]
theorem kn14 : kinds (tS 14) = [reflA.map mkS, reflB.map mkS] := by kernel_rfl
theorem HE_refl {F : Fi} {σ : St} {Q : V → St → Prop} {pos} (hx : F.sc.names.lookup ("_law_reflexive" : Str) = some .globalImplicit) (h : Q (.list [svs reflA, svs reflB]) σ) : HE F (.Name "_law_reflexive" pos) σ Q :=
  HE_kind hx (fun P => by kernel_rfl) (fun P => (kd14 P).trans (by rw [kn14])) h
noncomputable def adjA : List (List Nat) := []
noncomputable def adjB : List (List Nat) := [[1077, 1077], [1080, 1077], [1099, 1077], [1086, 1077], [1080, 1084, 1080], [1099, 1084, 1080], [1077, 1081], [1080, 1081], [1099, 1081], [1086, 1081], [1077, 1084], [1080, 1084], [1099, 1084], [1086, 1084], [1077, 1075, 1086], [1086, 1075, 1086], [1077, 1084, 1091], [1086, 1084, 1091], [1080, 1093], [1099, 1093], [1091, 1102], [1102, 1102], [1072, 1103], [1103, 1103], [1086, 1102], [1077, 1102]]
theorem kn15 : kinds (tS 15) = [adjA.map mkS, adjB.map mkS] := by kernel_rfl
theorem HE_adj {F : Fi} {σ : St} {Q : V → St → Prop} {pos} (hx : F.sc.names.lookup ("_law_adjective" : Str) = some .globalImplicit) (h : Q (.list [svs adjA, svs adjB]) σ) : HE F (.Name "_law_adjective" pos) σ Q :=
  HE_kind hx (fun P => by kernel_rfl) (fun P => (kd15 P).trans (by rw [kn15])) h
noncomputable def partA : List (List Nat) := [[1077, 1084], [1085, 1085], [1074, 1096], [1102, 1097], [1097]]
noncomputable def partB : List (List Nat) := [[1080, 1074, 1096], [1099, 1074, 1096], [1091, 1102, 1097]]
theorem kn16 : kinds (tS 16) = [partA.map mkS, partB.map mkS] := by kernel_rfl
theorem HE_part {F : Fi} {σ : St} {Q : V → St → Prop} {pos} (hx : F.sc.names.lookup ("_law_participle" : Str) = some .globalImplicit) (h : Q (.list [svs partA, svs partB]) σ) : HE F (.Name "_law_participle" pos) σ Q :=
  HE_kind hx (fun P => by kernel_rfl) (fun P => (kd16 P).trans (by rw [kn16])) h
noncomputable def verbA : List (List Nat) := [[1083, 1072], [1085, 1072], [1077, 1090, 1077], [1081, 1090, 1077], [1083, 1080], [1081], [1083], [1077, 1084], [1085], [1083, 1086], [1085, 1086], [1077, 1090], [1102, 1090], [1085, 1099], [1090, 1100], [1077, 1096, 1100], [1085, 1085, 1086]]
noncomputable def verbB : List (List Nat) := [[1080, 1083, 1072], [1099, 1083, 1072], [1077, 1085, 1072], [1077, 1081, 1090, 1077], [1091, 1081, 1090, 1077], [1080, 1090, 1077], [1080, 1083, 1080], [1099, 1083, 1080], [1077, 1081], [1091, 1081], [1080, 1083], [1099, 1083], [1080, 1084], [1099, 1084], [1077, 1085], [1080, 1083, 1086], [1099, 1083, 1086], [1077, 1085, 1086], [1103, 1090], [1091, 1077, 1090], [1091, 1102, 1090], [1080, 1090], [1099, 1090], [1077, 1085, 1099], [1080, 1090, 1100], [1099, 1090, 1100], [1080, 1096, 1100], [1091, 1102], [1102]]
theorem kn17 : kinds (tS 17) = [verbA.map mkS, verbB.map mkS] := by kernel_rfl
theorem HE_verb {F : Fi} {σ : St} {Q : V → St → Prop} {pos} (hx : F.sc.names.lookup ("_law_verb" : Str) = some .globalImplicit) (h : Q (.list [svs verbA, svs verbB]) σ) : HE F (.Name "_law_verb" pos) σ Q :=
  HE_kind hx (fun P => by kernel_rfl) (fun P => (kd17 P).trans (by rw [kn17])) h
noncomputable def nounA : List (List Nat) := []
noncomputable def nounB : List (List Nat) := [[1072], [1077, 1074], [1086, 1074], [1080, 1077], [1100, 1077], [1077], [1080, 1103, 1084, 1080], [1103, 1084, 1080], [1072, 1084, 1080], [1077, 1080], [1080, 1080], [1080], [1080, 1077, 1081], [1077, 1081], [1086, 1081], [1080, 1081], [1081], [1080, 1103, 1084], [1103, 1084], [1080, 1077, 1084], [1077, 1084], [1072, 1084], [1086, 1084], [1086], [1091], [1072, 1093], [1080, 1103, 1093], [1103, 1093], [1099], [1100], [1080, 1102], [1100, 1102], [1102], [1080, 1103], [1100, 1103], [1103]]
theorem kn18 : kinds (tS 18) = [nounA.map mkS, nounB.map mkS] := by kernel_rfl
theorem HE_noun {F : Fi} {σ : St} {Q : V → St → Prop} {pos} (hx : F.sc.names.lookup ("_law_noun" : Str) = some .globalImplicit) (h : Q (.list [svs nounA, svs nounB]) σ) : HE F (.Name "_law_noun" pos) σ Q :=
  HE_kind hx (fun P => by kernel_rfl) (fun P => (kd18 P).trans (by rw [kn18])) h
noncomputable def derA : List (List Nat) := []
noncomputable def derB : List (List Nat) := [[1086, 1089, 1090], [1086, 1089, 1090, 1100]]
theorem kn19 : kinds (tS 19) = [derA.map mkS, derB.map mkS] := by kernel_rfl
theorem HE_der {F : Fi} {σ : St} {Q : V → St → Prop} {pos} (hx : F.sc.names.lookup ("_law_derived" : Str) = some .globalImplicit) (h : Q (.list [svs derA, svs derB]) σ) : HE F (.Name "_law_derived" pos) σ Q :=
  HE_kind hx (fun P => by kernel_rfl) (fun P => (kd19 P).trans (by rw [kn19])) h
noncomputable def highA : List (List Nat) := []
noncomputable def highB : List (List Nat) := [[1077, 1081, 1096], [1077, 1081, 1096, 1077]]
theorem kn20 : kinds (tS 20) = [highA.map mkS, highB.map mkS] := by kernel_rfl
theorem HE_high {F : Fi} {σ : St} {Q : V → St → Prop} {pos} (hx : F.sc.names.lookup ("_law_highest" : Str) = some .globalImplicit) (h : Q (.list [svs highA, svs highB]) σ) : HE F (.Name "_law_highest" pos) σ Q :=
  HE_kind hx (fun P => by kernel_rfl) (fun P => (kd20 P).trans (by rw [kn20])) h
/-- the law's first step -/
noncomputable def firstL (t : List Nat) : List Nat :=
  match shorn t gerA gerB with
  | some r => r
  | none => match shorn ((shorn t reflA reflB).getD t) adjA adjB with
    | some r => (shorn r partA partB).getD r
    | none => match shorn ((shorn t reflA reflB).getD t) verbA verbB with
      | some r => r
      | none => (shorn ((shorn t reflA reflB).getD t) nounA nounB).getD ((shorn t reflA reflB).getD t)
theorem shorn_len {t r : List Nat} {A B : List (List Nat)} (e : shorn t A B = some r) : r.length ≤ t.length := by
  unfold shorn at e
  dsimp only at e
  split at e
  · cases e
  · cases e
    rw [List.length_take]; omega
theorem shorn_getD_len (t : List Nat) (A B : List (List Nat)) : ((shorn t A B).getD t).length ≤ t.length := by
  cases e : shorn t A B with
  | none => exact Nat.le_refl _
  | some r => exact shorn_len e
end Mine

end

-- X20
section
namespace Mine

theorem law_first_ {d : Nat} (hd : d < 440) {k : Kd} (ob : List (Str × V)) (t : List Nat) (ht : t.length ≤ 100000) {Q : V → List (Str × V) → Prop}
    (h : Q (sv (firstL t)) ob) : HC d k 804 [sv t] ob Q := by
  refine HC_body fn804 (by omega) rfl (by rfl) ?_
  refine HB_cons ?_
  refine HS_assign rfl ?_
  refine HE_call (fa := 797) (d := d + 1) rfl rfl (fun P => by kernel_rfl) (fun P => by kernel_rfl) (Nat.le_refl _) ?_
  refine HA_cons ?_
  refine HE_name (v := sv t) rfl rfl ?_
  refine HA_cons ?_
  refine HE_ger rfl ?_
  refine HA_nil ?_
  refine law_shorn_ (by omega) ob t ht gerA gerB (by decide) (by decide) ?_
  unfold firstL at h
  cases e1 : shorn t gerA gerB with
  | some r =>
    rw [e1] at h
    refine HB_cons ?_
    refine HS_if ?_
    refine HT_cmp ?_
    refine HE_name (v := sv r) rfl rfl ?_
    refine HE_none ⟨_, rfl, ?_⟩
    show HB _ _ _ _
    refine HB_cons ?_
    refine HS_ret ?_
    exact HE_name (v := sv r) rfl rfl h
  | none =>
    rw [e1] at h
    dsimp only at h
    refine HB_cons ?_
    refine HS_if ?_
    refine HT_cmp ?_
    refine HE_name (v := .none) rfl rfl ?_
    refine HE_none ⟨_, rfl, ?_⟩
    show HB _ _ _ _
    refine HB_nil ?_
    refine HB_cons ?_
    refine HS_assign rfl ?_
    refine HE_call (fa := 797) (d := d + 1) rfl rfl (fun P => by kernel_rfl) (fun P => by kernel_rfl) (Nat.le_refl _) ?_
    refine HA_cons ?_
    refine HE_name (v := sv t) rfl rfl ?_
    refine HA_cons ?_
    refine HE_refl rfl ?_
    refine HA_nil ?_
    refine law_shorn_ (by omega) ob t ht reflA reflB (by decide) (by decide) ?_
    have hu := shorn_getD_len t reflA reflB
    have main : ∀ u : List Nat, u = (shorn t reflA reflB).getD t → HB ⟨fS (tS 23), d + 1, true, k⟩ ((fB (tS 23)).drop 4) ⟨[("tail", sv u)], ob⟩ (RetQ Q) := by
      intro u e
      rw [← e] at h hu
      clear e e1
      have hz : u.length ≤ 100000 := by omega
      refine HB_cons ?_
      refine HS_assign rfl ?_
      refine HE_call (fa := 797) (d := d + 1) rfl rfl (fun P => by kernel_rfl) (fun P => by kernel_rfl) (Nat.le_refl _) ?_
      refine HA_cons ?_
      refine HE_name (v := sv u) rfl rfl ?_
      refine HA_cons ?_
      refine HE_adj rfl ?_
      refine HA_nil ?_
      refine law_shorn_ (by omega) ob u hz adjA adjB (by decide) (by decide) ?_
      cases e2 : shorn u adjA adjB with
      | some r =>
        rw [e2] at h
        dsimp only at h
        have hr := shorn_len e2
        refine HB_cons ?_
        refine HS_if ?_
        refine HT_cmp ?_
        refine HE_name (v := sv r) rfl rfl ?_
        refine HE_none ⟨_, rfl, ?_⟩
        show HB _ _ _ _
        refine HB_cons ?_
        refine HS_assign rfl ?_
        refine HE_call (fa := 797) (d := d + 1) rfl rfl (fun P => by kernel_rfl) (fun P => by kernel_rfl) (Nat.le_refl _) ?_
        refine HA_cons ?_
        refine HE_name (v := sv r) rfl rfl ?_
        refine HA_cons ?_
        refine HE_part rfl ?_
        refine HA_nil ?_
        refine law_shorn_ (by omega) ob r (by omega) partA partB (by decide) (by decide) ?_
        cases e3 : shorn r partA partB with
        | some q =>
          rw [e3] at h
          refine HB_cons ?_
          refine HS_ret ?_
          refine HE_if ?_
          refine HT_cmp ?_
          refine HE_name (v := sv q) rfl rfl ?_
          refine HE_none ⟨_, rfl, ?_⟩
          show HE _ _ _ _
          exact HE_name (v := sv q) rfl rfl h
        | none =>
          rw [e3] at h
          refine HB_cons ?_
          refine HS_ret ?_
          refine HE_if ?_
          refine HT_cmp ?_
          refine HE_name (v := .none) rfl rfl ?_
          refine HE_none ⟨_, rfl, ?_⟩
          show HE _ _ _ _
          exact HE_name (v := sv r) rfl rfl h
      | none =>
        rw [e2] at h
        dsimp only at h
        refine HB_cons ?_
        refine HS_if ?_
        refine HT_cmp ?_
        refine HE_name (v := .none) rfl rfl ?_
        refine HE_none ⟨_, rfl, ?_⟩
        show HB _ _ _ _
        refine HB_nil ?_
        refine HB_cons ?_
        refine HS_for_list rfl rfl (fun i σ => σ.ob = ob ∧ Sub [("tail", sv u)] σ.loc ∧ (1 ≤ i → shorn u verbA verbB = none) ∧ (2 ≤ i → shorn u nounA nounB = none)) ?_
        refine HE_list ?_
        refine HA_cons ?_
        refine HE_verb rfl ?_
        refine HA_cons ?_
        refine HE_noun rfl ?_
        refine HA_nil ⟨by decide, _, rfl, ⟨rfl, ⟨rfl, trivial⟩, by omega, by omega⟩, ?_, ?_⟩
        · intro i σ w hw I
          obtain ⟨ob', loc', h1, h2⟩ := I
          match i, hw with
          | 0, hw =>
            obtain rfl : V.list [svs verbA, svs verbB] = w := Option.some.inj hw
            refine HB_sub (loc := [("tail", sv u), ("kind", .list [svs verbA, svs verbB])]) ⟨(lookup_setL _ _ _ _).trans loc'.1, lookup_setL _ _ _ _, trivial⟩ ?_
            rw [ob']
            refine HB_cons ?_
            refine HS_assign rfl ?_
            refine HE_call (fa := 797) (d := d + 1) rfl rfl (fun P => by kernel_rfl) (fun P => by kernel_rfl) (Nat.le_refl _) ?_
            refine HA_cons ?_
            refine HE_name (v := sv u) rfl rfl ?_
            refine HA_cons ?_
            refine HE_name (v := .list [svs verbA, svs verbB]) rfl rfl ?_
            refine HA_nil ?_
            refine law_shorn_ (by omega) ob u hz verbA verbB (by decide) (by decide) ?_
            cases e3 : shorn u verbA verbB with
            | some q =>
              rw [e3] at h
              refine HB_cons ?_
              refine HS_if ?_
              refine HT_cmp ?_
              refine HE_name (v := sv q) rfl rfl ?_
              refine HE_none ⟨_, rfl, ?_⟩
              show HB _ _ _ _
              refine HB_cons ?_
              refine HS_ret ?_
              exact HE_name (v := sv q) rfl rfl h
            | none =>
              refine HB_cons ?_
              refine HS_if ?_
              refine HT_cmp ?_
              refine HE_name (v := .none) rfl rfl ?_
              refine HE_none ⟨_, rfl, ?_⟩
              show HB _ _ _ _
              refine HB_nil ?_
              refine HB_nil ⟨rfl, ⟨rfl, trivial⟩, fun _ => rfl, by omega⟩
          | 1, hw =>
            obtain rfl : V.list [svs nounA, svs nounB] = w := Option.some.inj hw
            have e3 := h1 (by omega)
            rw [e3] at h
            dsimp only at h
            refine HB_sub (loc := [("tail", sv u), ("kind", .list [svs nounA, svs nounB])]) ⟨(lookup_setL _ _ _ _).trans loc'.1, lookup_setL _ _ _ _, trivial⟩ ?_
            rw [ob']
            refine HB_cons ?_
            refine HS_assign rfl ?_
            refine HE_call (fa := 797) (d := d + 1) rfl rfl (fun P => by kernel_rfl) (fun P => by kernel_rfl) (Nat.le_refl _) ?_
            refine HA_cons ?_
            refine HE_name (v := sv u) rfl rfl ?_
            refine HA_cons ?_
            refine HE_name (v := .list [svs nounA, svs nounB]) rfl rfl ?_
            refine HA_nil ?_
            refine law_shorn_ (by omega) ob u hz nounA nounB (by decide) (by decide) ?_
            cases e4 : shorn u nounA nounB with
            | some q =>
              rw [e4] at h
              refine HB_cons ?_
              refine HS_if ?_
              refine HT_cmp ?_
              refine HE_name (v := sv q) rfl rfl ?_
              refine HE_none ⟨_, rfl, ?_⟩
              show HB _ _ _ _
              refine HB_cons ?_
              refine HS_ret ?_
              exact HE_name (v := sv q) rfl rfl h
            | none =>
              refine HB_cons ?_
              refine HS_if ?_
              refine HT_cmp ?_
              refine HE_name (v := .none) rfl rfl ?_
              refine HE_none ⟨_, rfl, ?_⟩
              show HB _ _ _ _
              refine HB_nil ?_
              refine HB_nil ⟨rfl, ⟨rfl, trivial⟩, fun _ => e3, fun _ => rfl⟩
          | n + 2, hw => cases hw
        · rintro σ ⟨ob', loc', h1, h2⟩
          rw [h1 (by decide), h2 (by decide)] at h
          refine HB_sub (loc := [("tail", sv u)]) loc' ?_
          rw [ob']
          refine HB_cons ?_
          refine HS_ret ?_
          exact HE_name (v := sv u) rfl rfl h
    cases e2 : shorn t reflA reflB with
    | some r =>
      rw [e2] at main
      refine HB_cons ?_
      refine HS_if ?_
      refine HT_cmp ?_
      refine HE_name (v := sv r) rfl rfl ?_
      refine HE_none ⟨_, rfl, ?_⟩
      show HB _ _ _ _
      refine HB_cons ?_
      refine HS_assign rfl ?_
      refine HE_name (v := sv r) rfl rfl ?_
      refine HB_nil ?_
      exact HB_sub (loc := [("tail", sv r)]) ⟨rfl, trivial⟩ (main r rfl)
    | none =>
      rw [e2] at main
      refine HB_cons ?_
      refine HS_if ?_
      refine HT_cmp ?_
      refine HE_name (v := .none) rfl rfl ?_
      refine HE_none ⟨_, rfl, ?_⟩
      show HB _ _ _ _
      refine HB_nil ?_
      exact HB_sub (loc := [("tail", sv t)]) ⟨rfl, trivial⟩ (main t rfl)
end Mine

end

-- X21
section
namespace Mine

theorem bindL_loc {kind : Str → Option NameKind} : ∀ (l : List (Str × Value)) (m : Str → Option Value), (∀ x ∈ l, kind x.1 = some .local) → ∀ y, bindL kind l m y = (l.reverse.lookup y).or (m y)
  | [], m, _, y => by simp [bindL]
  | (n, v) :: r, m, h, y => by
    unfold bindL
    rw [if_pos (h _ List.mem_cons_self), bindL_loc r _ (fun x hx => h x (List.mem_cons_of_mem _ hx)) y, List.reverse_cons, List.lookup_append]
    cases q : r.reverse.lookup y with
    | some w => simp
    | none =>
      simp only [Option.none_or]
      by_cases z : y = n
      · subst z; simp
      · rw [if_neg z, List.lookup_cons, beq_eq_false_iff_ne.mpr z]; simp
theorem bindC_loc {kind : Str → Option NameKind} : ∀ (l : List (Str × Value)) (m : Str → Option Value), (∀ x ∈ l, kind x.1 = some .local) → bindC kind l m = m
  | [], m, _ => rfl
  | (n, v) :: r, m, h => by
    unfold bindC
    rw [if_pos (h _ List.mem_cons_self), bindC_loc r m (fun x hx => h x (List.mem_cons_of_mem _ hx))]

/-- the contract of a def whose first argument is its one cell -/
theorem HC_bodyC {d : Nat} {k : Kd} {fa : Addr} {a0 : V} {args : List V} {ob : List (Str × V)} {Q : V → List (Str × V) → Prop} {y : Str} {ns : List Str} {body : List Stmt} {sc : Scope} (fn : ∀ P, FnIs P fa (y :: ns) body sc)
    (hd : d < 600) (hargs : args.length = ns.length)
    (hy : sc.names.lookup y = some .cell) (hcf : ∀ n, cellsFrom n sc.names [] = [(y, n)])
    (hloc : ns.all (fun x => sc.names.lookup x == some .local) = true)
    (h : HB ⟨sc, d + 1, true, k⟩ body ⟨(ns.zip args).reverse ++ [(y, a0)], ob⟩ (RetQ Q))
    (hco : sc.isCoroutine = false := by rfl) (hgen : sc.isGenerator = false := by rfl) (hk : sc.kind = .function := by rfl) :
    HC d k fa (a0 :: args) ob Q := by
  intro F c O hFd hFk σ s pvs hob R hv
  subst hob
  obtain ⟨fd, hfd, ⟨e1, e2, e3, e4, e5⟩, hb, hcd⟩ := (fn c.g.w.params).ex
  obtain ⟨o, ho, hod⟩ := fnAt_get (R.K O) hfd
  cases hv with
  | @cons _ p0 _ pvs hv0 hv =>
  obtain ⟨L, hLe⟩ : ∃ L, L = s.heap.objs.size := ⟨_, rfl⟩
  have nL : ∀ b, L ≤ b → s.heap.get? b = none := fun b hb => Heap.get?_none_of_le (hLe ▸ hb)
  have hcf' := hcf (s.heap.objs.size + 1)
  refine codeAny_call_cells (fd := fd) (body := body) (binds := (y :: ns).zip (p0 :: pvs)) (Nat.lt_of_le_of_lt O.dp (by show F.d < 1000; omega)) ho hod (O.g.T.nolimit.keeps R.base) (codeRec_of (R.K O) hcd) e1
    (hb _ (by rw [List.length_cons, List.length_cons, ← hv.length, hargs])) e4 (fun x hx => ?_) (fun s₁ hi => ?_) (by rw [e2]; exact hco) (by rw [e2]; exact hgen) (by rw [e2]; exact hk)
  · rw [List.zip_cons_cons] at hx
    rcases List.mem_cons.mp hx with rfl | hx
    · refine .inr ?_
      rw [e2, hcf']
      exact ⟨hy, by simp⟩
    · have := List.all_eq_true.mp hloc x.1 (List.of_mem_zip hx).1
      rw [e2]; exact .inl (beq_iff_eq.mp this)
  obtain ⟨E, hE⟩ : ∃ E, E = callEnvC fd s.heap.objs.size fa := ⟨_, rfl⟩
  rw [← hE] at hi ⊢
  have hsc : E.scope = sc := by rw [hE]; exact e2
  have hEl : E.locals = L := by rw [hE, hLe]; rfl
  have hEc : E.cells = [(y, L + 1)] := by rw [hE]; show cellsFrom (s.heap.objs.size + 1) fd.scope.names [] = _; rw [e2, hcf', hLe]
  have hEf : E.frame = some L := by rw [hE, hLe]; rfl
  have hEg : E.globals = mainGlobals := by rw [hE]; exact e3
  have hEb : E.builtins = builtinsNs := by rw [hE]; exact e5
  have kindE : ∀ x, E.kindOf x = sc.names.lookup x := fun x => by unfold Env.kindOf; rw [hsc]
  obtain ⟨c', hc'⟩ : ∃ c' : Cx, c' = ⟨c.g, c.A.deeper E, E, E :: c.stk, [L, L + 1]⟩ := ⟨_, rfl⟩
  obtain ⟨oD, hD⟩ := R.ob.has
  have DL : ∀ b, L ≤ b → b ≠ c.g.D := fun b hb q => by
    have := nL b hb
    rw [q, hD] at this; cases this
  have O' : c'.Ok ⟨sc, d + 1, true, k⟩ := by
    subst hc'
    refine ⟨O.g, Around.frames_deeper O.fr, O.hd, ?_, ?_, hsc, hk, hEg, hEb, O.k.trans hFk, fun _ => ⟨by rw [hEf, hEl], _, rfl⟩, fun _ x a _ ha => ?_, fun x a _ ha => ?_, ?_, fun hm => ?_, fun b hb => ?_, fun e he => ?_⟩
    · show c.A.depth + 1 ≤ d + 1
      have := O.dp; omega
    · show c.A.units + 3 ≤ 10 * (d + 1)
      have := O.un; omega
    · have ha : E.cells.lookup x = some a := ha
      rw [hEc] at ha
      rw [(Prod.mk.inj (List.mem_singleton.mp (mem_of_lookup ha))).2]
      exact .tail _ (.head _)
    · have ha : E.cells.lookup x = some a := ha
      rw [hEc] at ha
      rw [(Prod.mk.inj (List.mem_singleton.mp (mem_of_lookup ha))).2]
      exact DL _ (Nat.le_succ _)
    · show E.locals ∈ _
      rw [hEl]; exact .head _
    · rcases List.mem_cons.mp hm with q | q
      · exact DL _ (Nat.le_refl _) q.symm
      · exact DL _ (Nat.le_succ _) (List.mem_singleton.mp q).symm
    · have : L ≤ b := by
        rcases List.mem_cons.mp hb with q | q
        · rw [q]; exact Nat.le_refl _
        · rw [List.mem_singleton.mp q]; exact Nat.le_succ _
      cases z : c.g.base.get? b with
      | none => rfl
      | some ob => have := R.base _ _ z; rw [nL b (by assumption)] at this; cases this
    · rcases List.mem_cons.mp he with rfl | he
      · rw [hEf]
        exact fun q => DL L (Nat.le_refl _) (Option.some.inj q)
      · exact O.frD e he
  obtain ⟨h₀, tk, rfl, hkp⟩ := hi.done
  have u0 : Up c.g.D s.heap h₀ := fun b o e _ => .of (hkp b o e)
  have sk : SeqK c.g s.heap h₀ := u0.seqK
  have OR' : OR c.g h₀ σ.ob := R.ob.keep sk (fun o e _ => ⟨o.slots, hkp _ o e⟩) fun o e => ⟨o.slots, hkp _ o e⟩
  have hns := hi.toInCall.ns
  obtain ⟨oL, hL, dL⟩ := dc_ns hns
  have fr0 : h₀.FunFrames c.g.base (c.stk) := funFrames_of (fun b o e nf => ⟨o, hkp b o e, nf⟩) R.fn
  have hnl : ¬ E.kindOf y = some .local := by rw [kindE, hy]; decide
  have hlz : ∀ x ∈ ns.zip pvs, E.kindOf x.1 = some .local := fun x hx => by
    rw [kindE]; exact beq_iff_eq.mp (List.all_eq_true.mp hloc x.1 (List.of_mem_zip hx).1)
  have hcell := hi.cell y (L + 1) (by rw [hEc]; simp)
  have hcell2 : h₀.IsCell (L + 1) (some p0) := by
    have e : bindC E.kindOf ((y :: ns).zip (p0 :: pvs)) (fun _ => none) y = some p0 := by
      rw [List.zip_cons_cons]
      unfold bindC
      rw [if_neg hnl, bindC_loc _ _ hlz]
      simp
    rw [e] at hcell; exact hcell
  have hm : ∀ x pv, (ns.zip pvs).reverse.lookup x = some pv → bindL E.kindOf ((y :: ns).zip (p0 :: pvs)) (fun _ => none) x = some pv := fun x pv q => by
    rw [List.zip_cons_cons]
    unfold bindL
    rw [if_neg hnl, bindL_loc _ _ hlz, q]; rfl
  have R' : Rel c' ⟨(ns.zip args).reverse ++ [(y, a0)], σ.ob⟩ ⟨h₀, s.gens, s.drawn, tk, s.os⟩ := by
    subst hc'
    refine ⟨fun b o e => hkp b o (R.base b o e), ⟨(by show E.scope.kind ≠ _; rw [hsc, hk]; decide), ⟨L, oL, hEf, ?_, hEl ▸ hL, fun vs q => by rw [q] at dL; cases dL⟩, fr0⟩, ⟨_, hns, fun x v e => ?_⟩, fun b hb => ?_, OR', R.gens, R.os⟩
    · cases z : c.g.base.get? L with
      | none => rfl
      | some ob => have := R.base _ _ z; rw [nL L (Nat.le_refl _)] at this; cases this
    · rw [List.lookup_append] at e
      cases q : (ns.zip args).reverse.lookup x with
      | some w =>
        rw [q] at e
        obtain rfl : w = v := Option.some.inj e
        obtain ⟨pv, a, b⟩ := (ZR.zip (ns := ns) hv).reverse.lookup q
        have hx : x ∈ ns := (List.of_mem_zip (List.mem_reverse.mp (mem_of_lookup q))).1
        have hk' : E.kindOf x = some .local := by rw [kindE]; exact beq_iff_eq.mp (List.all_eq_true.mp hloc x hx)
        unfold LocAt
        rw [show (Cx.env ⟨c.g, c.A.deeper E, E, E :: c.stk, [L, L + 1]⟩).kindOf x = some .local from hk']
        exact ⟨pv, hm _ _ a, b.seqK sk⟩
      | none =>
        rw [q] at e
        have e : List.lookup x [(y, a0)] = some v := e
        obtain ⟨rfl, rfl⟩ := Prod.mk.inj (List.mem_singleton.mp (mem_of_lookup e))
        have hk' : E.kindOf x = some .cell := by rw [kindE]; exact hy
        unfold LocAt
        rw [show (Cx.env ⟨c.g, c.A.deeper E, E, E :: c.stk, [L, L + 1]⟩).kindOf x = some .cell from hk']
        exact ⟨L + 1, p0, by show E.cells.lookup x = _; rw [hEc]; simp, hcell2, hv0.seqK sk⟩
    · rcases List.mem_cons.mp hb with q | q
      · rw [q, ← hEl]; exact ⟨oL, hL, dL⟩
      · rw [List.mem_singleton.mp q]
        obtain ⟨oc, h1, h2⟩ := hcell2
        exact ⟨oc, h1, by rw [h2]; rfl⟩
  have key : ∀ (σ' : St) (s' : Shared), Rel c' σ' s' → Ext c' h₀ s'.heap → Rel c { σ with ob := σ'.ob } s' ∧ Ext c s.heap s'.heap := by
    subst hc'
    intro σ' s' Rs X
    have u : Up c.g.D s.heap s'.heap := fun b o e n => X.keep b o (hkp b o e) (fun hm => by
      have : L ≤ b := by
        rcases List.mem_cons.mp hm with q | q
        · rw [q]; exact Nat.le_refl _
        · rw [List.mem_singleton.mp q]; exact Nat.le_succ _
      rw [nL b this] at e; cases e) n
    exact ⟨R.up O u Rs.base Rs.fn.2.2 Rs.ob Rs.gens Rs.os, u.ext (.inl Rs.ob.has)⟩
  have hB := h c' O' _ R'
  rw [hc'] at hB key
  refine wpAny_mono hB (fun f s' q => ?_) fun x s' q => ?_
  · obtain ⟨φ, σ', R₁, X₁, fr, q⟩ := q
    obtain ⟨k1, k2⟩ := key σ' s' R₁ X₁
    cases f <;> cases φ <;> first
      | exact fr.elim
      | exact q.elim
      | exact ⟨_, _, _, rfl, k1, k2, .none, q⟩
      | exact ⟨_, _, _, rfl, k1, k2, fr, q⟩
  · obtain ⟨e, i, σ', _, _, _, _, q⟩ := q
    exact q.elim
end Mine

end

-- X22
section
namespace Mine
section
variable {F : Fi} {σ : St}

noncomputable def oneCell (sc : Scope) (x : Str) : Bool := sc.names.all fun z => z.2 != .free && (z.2 != .cell || z.1 == x)
theorem oneCell_free {sc : Scope} {x z : Str} (h : oneCell sc x = true) : sc.names.lookup z ≠ some .free := fun e => by
  have := List.all_eq_true.mp h _ (mem_of_lookup e)
  simp at this
theorem oneCell_cell {sc : Scope} {x z : Str} (h : oneCell sc x = true) (e : sc.names.lookup z = some .cell) : z = x := by
  have := List.all_eq_true.mp h _ (mem_of_lookup e)
  simpa using this

theorem store_cell {c : Cx} (O : c.Ok F) (hfn : F.fn = true) {s : Shared} (R : Rel c σ s) {x : Str} {v u : V} {pv : Value} (hl : F.sc.names.lookup x = some .cell) (h1 : oneCell F.sc x = true) (hx : σ.loc.lookup x = some u) (hv : VR c.g s.heap v pv) {Q : Unit → Shared → Prop} {E : Value → Shared → Prop}
    (h : ∀ s', Rel c { σ with loc := setL x v σ.loc } s' → Ext c s.heap s'.heap → Q () s') : wpAny (model pw c.g.w) c.A (storeName c.env x pv) Q E s := by
  obtain ⟨m, hm, hlc⟩ := R.loc
  have hkE : ∀ y, c.env.kindOf y = F.sc.names.lookup y := fun y => by unfold Env.kindOf; rw [O.sc]
  have hko : c.env.kindOf x = some .cell := by rw [hkE]; exact hl
  have hkf : c.env.scope.kind = .function := by rw [O.sc]; exact O.kd
  have hc := hlc x u hx
  unfold LocAt at hc
  rw [hko] at hc
  obtain ⟨a, pv0, ha, hca, _⟩ := hc
  have aown := O.cel hfn x a hko ha
  have aD : a ≠ c.g.D := O.celD x a (.inl hko) ha
  have aL : a ≠ c.env.locals := fun q => by
    obtain ⟨o, ho, hd⟩ := hca
    obtain ⟨o', es, ep, ho', hd', _⟩ := hm
    rw [q] at ho; rw [ho] at ho'; cases ho'
    rw [hd] at hd'; cases hd'
  refine wpAny_storeName_cell hkf hko ha hca fun h' hn hs => ?_
  have X : Ext c s.heap h' := ⟨fun b e => by
      by_cases q : b = a
      · subst q
        obtain ⟨o, e', _⟩ := hn
        rw [e] at e'; cases e'
      · rw [hs.2 b q] at e; exact e, fun b o e n nd => .of ((hs.2 b fun q => n (q ▸ aown)).trans e)⟩
  have sk := X.seqK R.own
  refine h ⟨h', s.gens, s.drawn, s.toks, s.os⟩ ⟨fun b o e => (hs.2 b fun q => ?_).trans (R.base b o e), ?_, ⟨m, hm.sameBut hs (Ne.symm aL), fun y w e => ?_⟩, fun b hb => ?_, ?_, R.gens, R.os⟩ X
  · subst q; rw [O.ownB _ aown] at e; cases e
  · refine funFrames_of (fun b o e nf => ?_) R.fn
    by_cases q : b = a
    · subst q
      obtain ⟨o', e', d'⟩ := hn
      exact ⟨o', e', fun vs z => by rw [z] at d'; cases d'⟩
    · exact ⟨o, (hs.2 b q).trans e, nf⟩
  · rw [lookup_setL] at e
    by_cases q : y = x
    · subst q
      rw [if_pos rfl] at e; cases e
      unfold LocAt; rw [hko]
      exact ⟨a, pv, ha, hn, hv.seqK sk⟩
    · rw [if_neg q] at e
      have := hlc y w e
      unfold LocAt at this ⊢
      split at this
      · obtain ⟨pv, a, b⟩ := this; exact ⟨pv, a, b.seqK sk⟩
      · rename_i z
        rw [hkE] at z
        exact absurd (oneCell_cell h1 z) q
      · rename_i z
        rw [hkE] at z
        exact absurd z (oneCell_free h1)
      · exact this.elim
  · by_cases q : b = a
    · subst q
      obtain ⟨o, e, z⟩ := hn
      exact ⟨o, e, by rw [z]; rfl⟩
    · obtain ⟨o, e, z⟩ := R.own b hb; exact ⟨o, (hs.2 b q).trans e, z⟩
  · refine R.ob.keep sk (fun o e hp => ⟨o.slots, (hs.2 _ fun q => ?_).trans e⟩) fun o e => ⟨o.slots, (hs.2 _ (Ne.symm aD)).trans e⟩
    obtain ⟨o', e', z⟩ := hca
    rw [q, e'] at e; cases e; rw [hp] at z; cases z
theorem HS_assignC {x : Str} {pos' pos : Pos} {value : Expr} {u : V} {Q : Fl → St → Prop} (hfn : F.fn = true) (hl : F.sc.names.lookup x = some .cell) (h1 : oneCell F.sc x = true) (h : HE F value σ (fun v σ' => σ'.loc.lookup x = some u ∧ Q .next { σ' with loc := setL x v σ'.loc }))
    (hs : ∀ env, swapsWith value (some (.Name x pos')) pos.line env = pure false := by intro; rfl) : HS F (.Assign [.Name x pos'] value pos) σ Q := fun c O s R => by
  refine wpAny_Assign_Name (wpAny_mono (h c O s R) (fun pv s₁ zz => ?_) fun _ _ z => z.elim) (hs c.env)
  obtain ⟨v, σ₁, R₁, X₁, hv, hx, q⟩ := zz
  exact store_cell O hfn R₁ hl h1 hx hv fun s' R' X' => nextS R' (X₁.trans X') q
end
end Mine

end

-- X23
section
open PySem PySem.W PyProof.Rows PySem.Calls PySem.Spec PySem.SeqAt
namespace Mine

theorem strsOf_map : ∀ l : List Str, strsOf (l.map .str) = some l
  | [] => rfl
  | x :: r => by
    show (strsOf (r.map .str)).map (x :: ·) = _
    rw [strsOf_map r]; rfl

/-! lists of strs compared -/
theorem readsAll_strs {h : Heap} : ∀ {vs : List Value} {ns : List Str}, StrsAre vs ns → ReadsAll h vs (ns.map PyData.str) []
  | _, _, .nil => .nil
  | _, _, .cons k t r => by
    have := ReadsAll.cons (Reads.str (h := h) k t) (readsAll_strs (h := h) r)
    simpa using this
theorem canLayAll0_strs : ∀ ns : List Str, (∀ y ∈ ns, PyData.strOk y = true) → PyData.canLayAll0 (ns.map PyData.str) = true
  | [], _ => by simp [PyData.canLayAll0]
  | n :: r, h => by simp [PyData.canLayAll0, PyData.canLay0, canLayAll0_strs r (fun y m => h y (.tail _ m)), h n (.head _)]
theorem depthAll_strs : ∀ ns : List Str, PyData.depthAll (ns.map PyData.str) ≤ 1
  | [] => by simp [PyData.depthAll]
  | n :: r => by
    have := depthAll_strs r
    simp only [List.map_cons, PyData.depthAll, PyData.depth]
    omega
theorem shaped_strs (ns : List Str) (hns : ∀ y ∈ ns, PyData.strOk y = true) : shaped (.list (ns.map PyData.str)) = true := by
  have h1 := depthAll_strs ns
  have h2 : PyData.depth (.list (ns.map PyData.str)) ≤ 64 := by simp only [PyData.depth]; omega
  show (PyData.canLay0 (.list (ns.map PyData.str)) && decide (PyData.depth (.list (ns.map PyData.str)) ≤ 64)) = true
  rw [Bool.and_eq_true]
  exact ⟨by simp only [PyData.canLay0]; exact canLayAll0_strs ns hns, decide_eq_true h2⟩
theorem noMix_strs : ∀ ns ms : List Str, noMixAll (ns.map PyData.str) (ms.map PyData.str) = true
  | [], [] => by simp [noMixAll]
  | [], _ :: _ => by simp [noMixAll]
  | _ :: _, [] => by simp [noMixAll]
  | _ :: r, _ :: q => by simp [noMixAll, noMix, noMix_strs r q]
theorem same_strs_self : ∀ ns : List Str, PySem.Spec.sameAll (ns.map PyData.str) (ns.map PyData.str) = true
  | [] => by simp [PySem.Spec.sameAll]
  | n :: r => by
    simp only [List.map_cons, PySem.Spec.sameAll, PySem.Spec.same, same_strs_self r]
    simp

section
variable {F : Fi} {σ : St}

theorem units_ok {c : Cx} (O : c.Ok F) (hd : F.d < 600) : c.A.units + 64 < cLine := by
  have h1 : cLine = 9900 := by decide
  have := O.un
  omega

theorem HE_eq_strs {l r : Expr} {pos : Pos} {Q : V → St → Prop} (hd : F.d < 600) (h : HE F l σ (fun a σ₁ => HE F r σ₁ (fun b σ₂ => ∃ ys, a = strsV ys ∧ b = strsV ys ∧ (∀ y ∈ ys, PyData.strOk y = true) ∧ Q (.bool true) σ₂)))
    (hm : behindInMarks .Eq r = false := by with_unfolding_all rfl) : HE F (.Compare l [.Eq] [r] pos) σ Q := fun c O s R => by
  refine wpAny_Compare1 (wpAny_mono (h c O s R) (fun pa s₁ zz => ?_) fun _ _ z => z) hm
  obtain ⟨a, σ₁, R₁, X₁, va, ha⟩ := zz
  refine wpAny_mono (ha c O s₁ R₁) (fun pb s₂ zz => ?_) fun _ _ z => z
  obtain ⟨b, σ₂, R₂, X₂, vb, ys, ea, eb, hys, q⟩ := zz
  subst ea eb
  have va := va.seqK (X₂.seqK R₁.own)
  cases va with
  | @list _ o items n _ ho hc hdt hD hl k =>
  cases vb with
  | @list _ o' items' n' _ ho' hc' hdt' hD' hl' k' =>
    have z1 := strsAre_of (items := items.toList) (strsOf_map ys) hl.symm (fun j v pv x y => k j v pv x (by simpa using y))
    have z2 := strsAre_of (items := items'.toList) (strsOf_map ys) hl'.symm (fun j v pv x y => k' j v pv x (by simpa using y))
    exact eq_dataH_same (Reads.list ho hc hdt (readsAll_strs z1)) (Reads.list ho' hc' hdt' (readsAll_strs z2)) (shaped_strs ys hys) (shaped_strs ys hys) (units_ok O hd) (by simp only [noMix]; exact noMix_strs ys ys)
      (by simp only [PySem.Spec.same]; rw [same_strs_self]; exact moreE (X₁.trans X₂) (endE (tk := s₂.toks) (d := s₂.drawn) O R₂ (.refl _ _) (.bool true) q))

noncomputable def intsV (l : List Int) : V := .list (l.map .int)
theorem intsAre_of {g : Gx} {h : Heap} : ∀ {ns : List Int} {items : List Value}, ns.length = items.length → (∀ (j : Nat) v pv, (ns.map V.int)[j]? = some v → items[j]? = some pv → VR g h v pv) → IntsAre items ns
  | [], [], _, _ => .nil
  | [], _ :: _, l, _ => by cases l
  | _ :: _, [], l, _ => by cases l
  | n :: ns, p :: items, l, k => by
    have h0 := k 0 (.int n) p rfl rfl
    cases h0
    exact .cons _ _ (intsAre_of (by simpa using l) fun j v pv a b => k (j + 1) v pv (by simpa using a) (by simpa using b))

theorem HT_ne_ints {l r : Expr} {pos : Pos} {Q : Bool → St → Prop} (hd : F.d < 600) (h : HE F l σ (fun a σ₁ => HE F r σ₁ (fun b σ₂ => ∃ xs ys, a = intsV xs ∧ b = intsV ys ∧ Q (!decide (xs = ys)) σ₂)))
    (hm : behindInMarks .NotEq r = false := by with_unfolding_all rfl) : HT F (.Compare l [.NotEq] [r] pos) σ Q := fun c O s R => by
  refine wpAny_isTrue_Compare1 (wpAny_mono (h c O s R) (fun pa s₁ zz => ?_) fun _ _ z => z) hm
  obtain ⟨a, σ₁, R₁, X₁, va, ha⟩ := zz
  refine wpAny_mono (ha c O s₁ R₁) (fun pb s₂ zz => ?_) fun _ _ z => z
  obtain ⟨b, σ₂, R₂, X₂, vb, xs, ys, ea, eb, q⟩ := zz
  subst ea eb
  have va := va.seqK (X₂.seqK R₁.own)
  cases va with
  | @list _ o items n _ ho hc hdt hD hl k =>
  cases vb with
  | @list _ o' items' n' _ ho' hc' hdt' hD' hl' k' =>
    have z1 := intsAre_of (ns := xs) (items := items.toList) (by simpa using hl.symm) (fun j v pv x y => k j v pv x (by simpa using y))
    have z2 := intsAre_of (ns := ys) (items := items'.toList) (by simpa using hl'.symm) (fun j v pv x y => k' j v pv x (by simpa using y))
    exact ne_intsK (vs := items.toList) (us := items'.toList) ⟨_, ho, hc, n, by simpa using hdt⟩ z1 ⟨_, ho', hc', n', by simpa using hdt'⟩ z2 (units_ok O hd) (wpAny_truthy_bool ⟨σ₂, R₂, X₁.trans X₂, q⟩)

/-! ''.join -/
theorem HE_join {k : _} {p apos pos : Pos} {e : Expr} {Q : V → St → Prop} (h : HE F e σ (fun u σ' => ∃ ys, u = strsV ys ∧ (ys.map (·.length)).sum + ys.length ≤ 1048576 ∧ Q (.str (Txt.join "" ys)) σ'))
    (he : ∀ env, eval (.Call (.Attribute (.Constant (.str "") k p) "join" apos) [e] [] pos) env = (do
      let ov ← eval (.Constant (.str "") k p) env
      standAt apos.atName
      let (f, first) ← holding [ov] (getMethod ov "join" (do return (← importBound (.Constant (.str "") k p) env).getD true))
      callWith pos f first (backTo pos (starEach [e] env)) (backToKw pos (keywordEach [] env))) := by intro; rfl)
    (hs : ∀ env, starEach [e] env = [(false, eval e env)] := by intro; rfl) : HE F (.Call (.Attribute (.Constant (.str "") k p) "join" apos) [e] [] pos) σ Q := fun c O s R => by
  refine methodCall_KW (pl := do return (← importBound (.Constant (.str "") k p) c.env).getD true) ?_ (he c.env)
  refine wpAny_mono (HE_str (F := F) (Q := fun v σ' => v = .str "" ∧ σ' = σ) ⟨rfl, rfl⟩ c O s R) (fun pv s₁ zz => ?_) fun _ _ z => z
  obtain ⟨v, σ₁, R₁, X₁, hv, e1, e2⟩ := zz
  subst e1 e2
  cases hv
  refine GM.join ?_
  refine callWith_B (first := [_]) (Q := fun vs σ' => ∃ ys, vs = [strsV ys] ∧ (ys.map (·.length)).sum + ys.length ≤ 1048576 ∧ Q (.str (Txt.join "" ys)) σ') O R₁ (by rw [hs]; rfl)
    (HA_cons (HE_mono h fun v σ' ⟨ys, e, z, q⟩ => HA_nil ⟨ys, by rw [e], z, q⟩) hs) fun vs σ' pvs s' R' X' hv ⟨ys, e, z, q⟩ => ?_
  subst e
  cases hv with
  | cons hv hn =>
    cases hn
    cases hv with
    | @list _ o items n _ ho hc hdt hD hl k =>
      exact join_listW (items := items) ⟨o, ho, hc, n, hdt⟩ (strsAre_of (strsOf_map ys) (by simpa using hl.symm) (fun j v pv x y => k j v pv x (by simpa using y))) (by decide) z
        fun t' tk => moreE (X₁.trans X') (endE (tk := tk) (d := s'.drawn) O R' (.refl _ _) (.str _ _) q)
end
end Mine

end

-- X24
section
namespace Mine

theorem clos_loop {env : Env} {y : Str} {a : Addr} (e : env.cells.lookup y = some a) {f : Str × NameKind → List (Str × Addr) → Sem (ForInStep (List (Str × Addr)))}
    (hf : ∀ n k r, f (n, k) r = if (k == .free) = true then (do let t ← cellOf env n; pure (ForInStep.yield ((n, t) :: r))) else pure (ForInStep.yield r)) : ∀ (names : List (Str × NameKind)) (acc : List (Str × Addr)), (∀ z ∈ names, z.2 = .free → z.1 = y) →
    (forIn names acc f : Sem (List (Str × Addr))) = pure (((names.filter (·.2 == .free)).map fun x => (x.1, a)).reverse ++ acc)
  | [], acc, _ => by rw [List.forIn_nil]; rfl
  | (n, k) :: r, acc, h => by
    rw [List.forIn_cons, hf]
    have ih := clos_loop e hf r
    by_cases q : (k == NameKind.free) = true
    · obtain rfl : n = y := h _ (.head _) (beq_iff_eq.mp q)
      have e1 : cellOf env n = pure a := by unfold cellOf; rw [e]
      rw [if_pos q, e1]
      show (forIn (m := Sem) r ((n, a) :: acc) f) = _
      rw [ih ((n, a) :: acc) (fun z hz => h z (.tail _ hz)), List.filter_cons]
      dsimp only
      rw [if_pos q]
      simp
    · rw [if_neg q]
      show (forIn (m := Sem) r acc f) = _
      rw [ih acc (fun z hz => h z (.tail _ hz)), List.filter_cons]
      dsimp only
      rw [if_neg q]
theorem clos_one {scope : Scope} {y : Str} (h : scope.names.filter (·.2 == .free) = [(y, .free)]) (env : Env) (a : Addr) (e : env.cells.lookup y = some a) : closureFor scope env = pure [(y, a)] := by
  unfold closureFor
  have := fun f hf => clos_loop (f := f) e hf scope.names [] (fun z hz q => by
    have : z ∈ scope.names.filter (·.2 == .free) := List.mem_filter.mpr ⟨hz, by rw [q]; rfl⟩
    rw [h] at this
    rw [List.mem_singleton.mp this])
  rw [h] at this
  dsimp only
  rw [this]
  · rfl
  · intro n k r
    cases q : k == NameKind.free <;> simp

theorem take_snoc {α β : Type} (f : α → β) (xs : List α) {i : Nat} (hi : i < xs.length) : (xs.take i).map f ++ [f xs[i]] = (xs.take (i + 1)).map f := by
  rw [List.take_add_one, List.getElem?_eq_getElem hi, List.map_append]; rfl

theorem stemWords_ {d : Nat} (hd : d < 370) (S : Sm) (xs : List (List Nat)) (hxs : ∀ x ∈ xs, x.length ≤ 1000) (hlen : xs.length ≤ 1000) {Q : V → List (Str × V) → Prop}
    (h : ∀ S' : Sm, Q (svs (xs.map stemL)) S'.ob) : HC d .stem 194 [.self, svs xs] S.ob Q := by
  have hz : sizeLine = 16777216 := sizeLine_eq
  refine HC_bodyC fn194 (by omega) rfl rfl (fun n => rfl) (by rfl) ?_
  refine HB_cons ?_
  refine HS_ret ?_
  refine HE_comp (some ("self", .self)) rfl ⟨clos_one rfl, rfl, rfl⟩ rfl (fun y v e => by cases e; rfl) ?_
  refine HI_list ?_
  refine HE_name (v := svs xs) rfl rfl ?_
  refine ⟨_, rfl, by rw [List.length_map]; omega, rfl, ?_, fun i out ob => ∃ S : Sm, ob = S.ob ∧ out = (xs.take i).map fun x => sv (stemL x), ⟨S, rfl, rfl⟩, ?_, ?_⟩
  · intro i hi
    rw [List.length_map] at hi
    dsimp only
    rw [List.getD_eq_getElem?_getD, List.getElem?_map, List.getElem?_eq_getElem hi]
    rfl
  · rintro i out ob hi ⟨S, rfl, rfl⟩
    rw [List.length_map] at hi
    have e : (xs.map sv).getD i .none = sv xs[i] := by
      rw [List.getD_eq_getElem?_getD, List.getElem?_map, List.getElem?_eq_getElem hi]; rfl
    dsimp only
    rw [e]
    show HE _ _ _ _
    refine HE_meth (fa := 189) (d := d + 1) rfl rfl rfl (fun P => by kernel_rfl) (Nat.le_refl _) ?_
    refine HA_cons ?_
    refine HE_name (v := sv xs[i]) rfl rfl ?_
    refine HA_nil ?_
    refine stemWord_ (by omega) S xs[i] (hxs _ (List.getElem_mem hi)) fun c lb b k reg => ?_
    refine ⟨rfl, rfl, _, rfl, ?_⟩
    exact take_snoc (fun x => sv (stemL x)) xs hi
  · rintro out ob ⟨S', rfl, rfl⟩
    rw [List.length_map, List.take_length]
    have := h S'
    rw [svs, List.map_map] at this
    exact this
end Mine

end

-- X25
section
namespace Mine

theorem clos_none {scope : Scope} (h : scope.names.filter (·.2 == .free) = []) (env : Env) : closureFor scope env = pure [] := by
  have : ∀ (names : List (Str × NameKind)) (acc : List (Str × Addr)) (f : Str × NameKind → List (Str × Addr) → Sem (ForInStep (List (Str × Addr)))),
      (∀ n k r, f (n, k) r = if (k == .free) = true then (do let t ← cellOf env n; pure (ForInStep.yield ((n, t) :: r))) else pure (ForInStep.yield r)) →
      names.filter (·.2 == .free) = [] → (forIn names acc f : Sem (List (Str × Addr))) = pure acc := by
    intro names
    induction names with
    | nil => intro acc f _ _; rw [List.forIn_nil]
    | cons x r ih =>
      intro acc f hf hn
      obtain ⟨n, k⟩ := x
      rw [List.filter_cons] at hn
      by_cases q : (k == NameKind.free) = true
      · dsimp only at hn
        rw [if_pos q] at hn; cases hn
      · dsimp only at hn
        rw [if_neg q] at hn
        rw [List.forIn_cons, hf, if_neg q]
        exact ih acc f hf hn
  unfold closureFor
  dsimp only
  rw [this scope.names [] _ (fun n k r => by cases q : k == NameKind.free <;> simp) h]
  rfl

theorem swaps_fn {F : Fi} {elt : Expr} {gens : List Comprehension} {scope : Scope} {pos py : Pos} {y : Str} {line : Nat} (hk : F.sc.kind = .function) (hy : F.sc.names.lookup y = some .local) (hl : (py.line == pos.line) = true)
    (hn : (scope.names.any fun (n, k) => n == y && (k == .local || k == .cell)) = false) (c : Cx) (O : c.Ok F) :
    swapsWith (.ListComp elt gens scope pos) (some (.Name y py)) line c.env = pure true := by
  unfold swapsWith
  have e1 : c.env.blockKind = .function := by
    unfold Env.blockKind
    rw [O.sc, hk]
    rfl
  have e2 : c.env.kindOf y = some .local := by unfold Env.kindOf; rw [O.sc]; exact hy
  show (pure (_ && _ && (py.line == pos.line) && !_) : Sem Bool) = _
  rw [e1, e2, hl, hn]
  rfl

/-! the law's stem, plain -/
noncomputable def yoMap (x : List Nat) : List Nat := x.map fun c => if c == 1105 then 1077 else c
noncomputable def isVow (c : Nat) : Bool := vowN.contains c
noncomputable def vowsP (w : List Nat) : List Nat := (List.range w.length).filter fun p => isVow (w.getD p 0)
noncomputable def closT (w : List Nat) (p : Nat) : Bool := decide (p + 1 < w.length) && !isVow (w.getD (p + 1) 0)
noncomputable def closP (w : List Nat) : List Nat := (vowsP w).filter (closT w)
noncomputable def nearP (w : List Nat) : Nat := if vowsP w = [] then w.length else (vowsP w).getD 0 0 + 1
noncomputable def farP (w : List Nat) : Nat := if 1 < (closP w).length then (closP w).getD 1 0 + 2 else w.length
noncomputable def endsP (t : List Nat) (e : List Nat) : Bool := Txt.endswith (mkS t) (mkS e)
noncomputable def tail1 (t : List Nat) : List Nat := if endsP t [1080] then t.take (t.length - 1) else t
noncomputable def tail2 (near far : Nat) (t : List Nat) : List Nat := match shorn t derA derB with
  | some r => if far ≤ near + r.length then r else t
  | none => t
noncomputable def tail3 (t : List Nat) : List Nat :=
  let rest := shorn t highA highB
  let u := rest.getD t
  if endsP u [1085, 1085] || (rest.isNone && endsP u [1100]) then u.take (u.length - 1) else u
noncomputable def lawW (w : List Nat) : List Nat := w.take (nearP w) ++ tail3 (tail2 (nearP w) (farP w) (tail1 (firstL (w.drop (nearP w)))))
noncomputable def lawL (x : List Nat) : List Nat := lawW (yoMap x)

theorem chAt_mk (x : List Nat) (i : Nat) : chAt (mkS x) (i : Int) = mkS [x.getD i 0] := by
  unfold chAt mkS
  simp
theorem str1 (a b : Nat) : (mkS [a] == mkS [b]) = (a == b) := by
  rw [Bool.eq_iff_iff, beq_iff_eq, beq_iff_eq]
  exact ⟨fun e => by simpa using mkS_inj e, fun e => by rw [e]⟩
theorem join_one : ∀ l : List Nat, Txt.join "" (l.map fun c => mkS [c]) = mkS l := by
  intro l
  show Builtin.Str.glued (Str.ofString "") _ = _
  unfold Builtin.Str.glued
  cases l with
  | nil => rfl
  | cons a r =>
    have : ∀ (r : List Nat) (acc : Array Nat), (r.map fun c => mkS [c]).foldl (fun acc p => acc ++ (Str.ofString "").cps ++ p.cps) acc = acc ++ r.toArray := by
      intro r
      induction r with
      | nil => intro acc; simp
      | cons b r ih =>
        intro acc
        rw [List.map_cons, List.foldl_cons, ih]
        show acc ++ (#[] : Array Nat) ++ [b].toArray ++ r.toArray = _
        simp
    show (⟨((r.map fun c => mkS [c])).foldl _ ([a].toArray)⟩ : Str) = mkS (a :: r)
    rw [this]
    unfold mkS
    simp
theorem sum_ones : ∀ l : List Nat, ((l.map fun c => mkS [c]).map (·.length)).sum = l.length
  | [] => rfl
  | a :: r => by
    rw [List.map_cons, List.map_cons, List.sum_cons, sum_ones r, mkS_len]
    simp; omega

theorem filter_snoc {α : Type} (p : α → Bool) (xs : List α) {i : Nat} (hi : i < xs.length) : (xs.take (i + 1)).filter p = (xs.take i).filter p ++ if p xs[i] then [xs[i]] else [] := by
  rw [List.take_add_one, List.getElem?_eq_getElem hi, List.filter_append]
  congr 1
  show [xs[i]].filter p = _
  rw [List.filter_cons]
  split <;> rfl
theorem vow_any (c : Nat) : (((vowN.map fun c => [c]).map mkS).any fun y => y == mkS [c]) = isVow c := by
  unfold isVow
  rw [List.contains_eq_any_beq, List.any_map, List.any_map]
  congr 1
  funext y
  show (mkS [y] == mkS [c]) = (c == y)
  rw [str1, Bool.beq_comm]
theorem strsOf_svs' (l : List (List Nat)) : strsOf (l.map sv) = some (l.map mkS) := strsOf_svs l
end Mine

end

-- X26
section
namespace Mine

noncomputable def natsV (l : List Nat) : V := .list (l.map fun p : Nat => V.int p)
theorem natsV_ints (l : List Nat) : natsV l = intsV (l.map fun p : Nat => (p : Int)) := by
  unfold natsV intsV
  rw [List.map_map]; rfl

theorem cmp_in_svs (s : Str) (E : List (List Nat)) : cmpV .In (.str s) (svs E) = some ((E.map mkS).any fun y => y == s) := congrArg (Option.map _) (strsOf_svs E)
theorem cmp_notin_svs (s : Str) (E : List (List Nat)) : cmpV .NotIn (.str s) (svs E) = some (!((E.map mkS).any fun y => y == s)) := congrArg (Option.map _) (strsOf_svs E)

theorem fms_t {α β : Type} (f : α → β) (p : α → Bool) (xs : List α) {i : Nat} {a : α} (ha : xs[i]? = some a) (q : p a = true) : ((xs.take i).filter p).map f ++ [f a] = ((xs.take (i + 1)).filter p).map f := by
  obtain ⟨hi, rfl⟩ := List.getElem?_eq_some_iff.mp ha
  rw [filter_snoc p xs hi, if_pos q, List.map_append]; rfl
theorem fms_f {α β : Type} (f : α → β) (p : α → Bool) (xs : List α) {i : Nat} {a : α} (ha : xs[i]? = some a) (q : p a = false) : ((xs.take i).filter p).map f = ((xs.take (i + 1)).filter p).map f := by
  obtain ⟨hi, rfl⟩ := List.getElem?_eq_some_iff.mp ha
  rw [filter_snoc p xs hi, if_neg (by rw [q]; decide), List.append_nil]

section
variable {F : Fi} {ob : List (Str × V)} {Q : Fl → St → Prop}
/-- the first statement: every ё an е -/
theorem ls0 {loc : List (Str × V)} (hfn : F.fn = true) (hsc : F.sc = fS (tS 24)) (x : List Nat) (hx : x.length ≤ 1000) (hw : loc.lookup ("word" : Str) = some (sv x)) (h : Q .next ⟨setL "word" (sv (yoMap x)) loc, ob⟩) : HS F ((fB (tS 24)).getD 0 (.Pass ⟨0, 0, 0, 0⟩)) ⟨loc, ob⟩ Q := by
  have hz : sizeLine = 16777216 := sizeLine_eq
  obtain ⟨sc, d, fn, k⟩ := F
  subst hsc
  refine HS_assignC (u := sv x) hfn rfl rfl ?_
  refine HE_join ?_
  refine HE_comp none rfl (clos_none rfl) rfl (fun y v e => by cases e) ?_
  refine HI_str ?_
  refine HE_name (v := sv x) hw rfl ?_
  refine ⟨_, rfl, by rw [mkS_len]; omega, rfl, fun _ _ => rfl, fun i out ob' => ob' = ob ∧ out = (x.take i).map fun c => sv [if c == 1105 then 1077 else c], ⟨rfl, rfl⟩, ?_, ?_⟩
  · rintro i out ob' hi ⟨rfl, rfl⟩
    rw [mkS_len] at hi
    dsimp only
    rw [chAt_mk]
    show HE _ _ _ _
    have ex : x.getD i 0 = x[i] := by rw [List.getD_eq_getElem?_getD, List.getElem?_eq_getElem hi]; rfl
    rw [ex]
    refine HE_if ?_
    refine HT_cmp ?_
    refine HE_name (v := sv [x[i]]) rfl rfl ?_
    refine HE_str ⟨_, rfl, ?_⟩
    have e1 : (mkS [x[i]] == ("ё" : Str)) = (x[i] == 1105) := str1 _ _
    rw [e1]
    have tk := take_snoc (fun c => sv [if c == 1105 then 1077 else c]) x hi
    cases q : x[i] == 1105 with
    | true =>
      rw [q] at tk
      show HE _ _ _ _
      exact HE_str ⟨rfl, rfl, rfl, tk⟩
    | false =>
      rw [q] at tk
      show HE _ _ _ _
      exact HE_name (v := sv [x[i]]) rfl rfl ⟨rfl, rfl, rfl, tk⟩
  · rintro out ob' ⟨rfl, rfl⟩
    rw [mkS_len, List.take_length]
    refine ⟨(yoMap x).map fun c => mkS [c], ?_, ?_, hw, ?_⟩
    · unfold strsV yoMap
      rw [List.map_map, List.map_map]
      rfl
    · rw [sum_ones, List.length_map]
      unfold yoMap
      rw [List.length_map]; omega
    · rw [join_one]
      exact h
/-- vowels -/
theorem ls1 {loc : List (Str × V)} (hfn : F.fn = true) (hd : F.d < 460) (hsc : F.sc = fS (tS 24)) (w : List Nat) (hx : w.length ≤ 1000) (hw : loc.lookup ("word" : Str) = some (sv w)) (h : Q .next ⟨setL "vowels" (natsV (vowsP w)) loc, ob⟩) : HS F ((fB (tS 24)).getD 1 (.Pass ⟨0, 0, 0, 0⟩)) ⟨loc, ob⟩ Q := by
  have hz : sizeLine = 16777216 := sizeLine_eq
  obtain ⟨sc, d, fn, k⟩ := F
  subst hsc
  refine HS_comp (some ("word", sv w)) rfl rfl ⟨clos_one rfl, rfl, rfl⟩ rfl (fun y v e => by cases e; exact hw) ?_ (swaps_fn rfl rfl rfl rfl)
  refine HI_range1 rfl ?_
  refine HE_len_str rfl ?_
  refine HE_name (v := sv w) hw rfl ?_
  refine ⟨_, rfl, by rw [mkS_len]; omega, w.length, by rw [mkS_len], by omega, rfl, fun _ _ => rfl, fun i out ob' => ob' = ob ∧ out = ((List.range w.length).take i |>.filter fun p => isVow (w.getD p 0)).map fun (p : Nat) => V.int p, ⟨rfl, rfl⟩, ?_, ?_⟩
  · rintro i out ob' hi ⟨rfl, rfl⟩
    show HT _ _ _ _
    refine HT_cmp ?_
    refine HE_item_str ?_
    refine HE_name (v := sv w) rfl rfl ?_
    refine HE_name (v := .int i) rfl rfl ?_
    refine ⟨_, _, rfl, rfl, by omega, by rw [mkS_len]; omega, by rw [mkS_len]; omega, ?_⟩
    refine HE_call (fa := 758) (d := d) rfl rfl (fun P => by kernel_rfl) (fun P => by kernel_rfl) (Nat.le_refl _) ?_
    refine HA_nil ?_
    refine law_vowels_ (by have : d < 460 := hd; omega) ob' ?_
    refine ⟨_, cmp_in_svs _ _, ?_⟩
    rw [chAt_mk, vow_any]
    have hr : (List.range w.length)[i]? = some i := by rw [List.getElem?_range hi]
    cases q : isVow (w.getD i 0) with
    | true =>
      show HE _ _ _ _
      exact HE_name (v := .int i) rfl rfl ⟨rfl, rfl, rfl, fms_t (fun (p : Nat) => V.int p) (fun p => isVow (w.getD p 0)) _ hr q⟩
    | false => exact ⟨rfl, rfl, fms_f (fun (p : Nat) => V.int p) (fun p => isVow (w.getD p 0)) _ hr q⟩
  · rintro out ob' ⟨rfl, rfl⟩
    have e : (List.range w.length).take w.length = List.range w.length := by rw [List.take_of_length_le]; rw [List.length_range]; exact Nat.le_refl _
    rw [e]
    exact h
end
end Mine

end

-- X27
section
namespace Mine

section
variable {F : Fi} {ob : List (Str × V)} {Q : Fl → St → Prop}
theorem natsV_item (l : List Nat) {i : Nat} (hi : i < l.length) : (l.map fun p : Nat => V.int p).getD i .none = .int (l[i] : Nat) := by
  rw [List.getD_eq_getElem?_getD, List.getElem?_map, List.getElem?_eq_getElem hi]; rfl
/-- closed -/
theorem ls2 {loc : List (Str × V)} (hfn : F.fn = true) (hd : F.d < 460) (hsc : F.sc = fS (tS 24)) (w : List Nat) (hx : w.length ≤ 1000) (hw : loc.lookup ("word" : Str) = some (sv w)) (hv : loc.lookup ("vowels" : Str) = some (natsV (vowsP w))) (h : Q .next ⟨setL "closed" (natsV (closP w)) loc, ob⟩) : HS F ((fB (tS 24)).getD 2 (.Pass ⟨0, 0, 0, 0⟩)) ⟨loc, ob⟩ Q := by
  have hz : sizeLine = 16777216 := sizeLine_eq
  obtain ⟨sc, d, fn, k⟩ := F
  subst hsc
  have hlen : (vowsP w).length ≤ w.length := by
    unfold vowsP
    have := List.length_filter_le (fun p => isVow (w.getD p 0)) (List.range w.length)
    rw [List.length_range] at this; exact this
  refine HS_comp (some ("word", sv w)) rfl rfl ⟨clos_one rfl, rfl, rfl⟩ rfl (fun y v e => by cases e; exact hw) ?_ (swaps_fn rfl rfl rfl rfl)
  refine HI_list ?_
  refine HE_name (v := natsV (vowsP w)) hv rfl ?_
  refine ⟨_, rfl, by rw [List.length_map]; omega, rfl, ?_, fun i out ob' => ob' = ob ∧ out = ((vowsP w).take i |>.filter (closT w)).map fun (p : Nat) => V.int p, ⟨rfl, rfl⟩, ?_, ?_⟩
  · intro i hi
    rw [List.length_map] at hi
    dsimp only
    rw [natsV_item _ hi]; rfl
  · rintro i out ob' hi ⟨rfl, rfl⟩
    rw [List.length_map] at hi
    dsimp only
    rw [natsV_item _ hi]
    have hr : (vowsP w)[i]? = some (vowsP w)[i] := List.getElem?_eq_getElem hi
    have hp : (vowsP w)[i] < w.length := List.mem_range.mp (List.mem_filter.mp (List.getElem_mem hi)).1
    generalize (vowsP w)[i] = p at hr hp
    show HT _ _ _ _
    refine HT_and ?_
    refine HT_cmp ?_
    refine HE_bin ?_
    refine HE_name (v := .int p) rfl rfl ?_
    refine HE_int ?_
    refine HE_len_str rfl ?_
    refine HE_name (v := sv w) rfl rfl ?_
    refine ⟨_, rfl, by rw [mkS_len]; omega, ?_⟩
    refine ⟨_, rfl, ?_⟩
    rw [mkS_len]
    have e1 : decide ((p : Int) + 1 < (w.length : Int)) = decide (p + 1 < w.length) := by
      by_cases q : p + 1 < w.length
      · rw [decide_eq_true q, decide_eq_true (by omega)]
      · rw [decide_eq_false q, decide_eq_false (by omega)]
    rw [e1]
    by_cases q : p + 1 < w.length
    · rw [decide_eq_true q]
      show HT _ _ _ _
      refine HT_cmp ?_
      refine HE_item_str ?_
      refine HE_name (v := sv w) rfl rfl ?_
      refine HE_bin ?_
      refine HE_name (v := .int p) rfl rfl ?_
      refine HE_int ?_
      refine ⟨mkS w, ((p + 1 : Nat) : Int), rfl, by show V.int ((p : Int) + 1) = _; rw [show (p : Int) + 1 = ((p + 1 : Nat) : Int) by omega], by omega, by rw [mkS_len]; omega, by rw [mkS_len]; omega, ?_⟩
      refine HE_call (fa := 758) (d := d) rfl rfl (fun P => by kernel_rfl) (fun P => by kernel_rfl) (Nat.le_refl _) ?_
      refine HA_nil ?_
      refine law_vowels_ (by have : d < 460 := hd; omega) ob' ?_
      refine ⟨_, cmp_notin_svs _ _, ?_⟩
      rw [chAt_mk, vow_any]
      have hc : closT w p = !isVow (w.getD (p + 1) 0) := by unfold closT; rw [decide_eq_true q, Bool.true_and]
      rw [← hc]
      cases q2 : closT w p with
      | true =>
        show HE _ _ _ _
        exact HE_name (v := .int p) rfl rfl ⟨rfl, rfl, rfl, fms_t (fun (p : Nat) => V.int p) (closT w) _ hr q2⟩
      | false => exact ⟨rfl, rfl, fms_f (fun (p : Nat) => V.int p) (closT w) _ hr q2⟩
    · rw [decide_eq_false q]
      have q2 : closT w p = false := by unfold closT; rw [decide_eq_false q, Bool.false_and]
      exact ⟨rfl, rfl, fms_f (fun (p : Nat) => V.int p) (closT w) _ hr q2⟩
  · rintro out ob' ⟨rfl, rfl⟩
    rw [List.length_map, List.take_length]
    exact h
/-- near -/
theorem ls3 {loc : List (Str × V)} (hd : F.d < 460) (hsc : F.sc = fS (tS 24)) (w : List Nat) (hx : w.length ≤ 1000) (hw : loc.lookup ("word" : Str) = some (sv w)) (hv : loc.lookup ("vowels" : Str) = some (natsV (vowsP w))) (h : Q .next ⟨setL "near" (.int (nearP w)) loc, ob⟩) : HS F ((fB (tS 24)).getD 3 (.Pass ⟨0, 0, 0, 0⟩)) ⟨loc, ob⟩ Q := by
  have hz : sizeLine = 16777216 := sizeLine_eq
  obtain ⟨sc, d, fn, k⟩ := F
  subst hsc
  refine HS_assign rfl ?_
  refine HE_if ?_
  refine HT_ne_ints (by have : d < 460 := hd; show d < 600; omega) ?_
  refine HE_name (v := natsV (vowsP w)) hv rfl ?_
  refine HE_list ?_
  refine HA_nil ⟨by decide, (vowsP w).map (fun p : Nat => (p : Int)), [], natsV_ints _, rfl, ?_⟩
  unfold nearP at h
  by_cases q : vowsP w = []
  · rw [if_pos q] at h
    rw [q, decide_eq_true (show List.map (fun p : Nat => (p : Int)) [] = [] from rfl)]
    show HE _ _ _ _
    refine HE_len_str rfl ?_
    refine HE_name (v := sv w) hw rfl ?_
    refine ⟨_, rfl, by rw [mkS_len]; omega, ?_⟩
    rw [mkS_len]
    exact h
  · rw [if_neg q] at h
    rw [decide_eq_false (by simpa using q)]
    show HE _ _ _ _
    refine HE_bin ?_
    refine HE_item ?_
    refine HE_name (v := natsV (vowsP w)) hv rfl ?_
    refine HE_int ?_
    have hi : 0 < (vowsP w).length := List.length_pos_iff.mpr q
    refine ⟨_, 0, .int ((vowsP w).getD 0 0 : Nat), rfl, rfl, by omega, by omega, ?_, ?_⟩
    · show ((vowsP w).map fun p : Nat => V.int p)[0]? = _
      rw [List.getElem?_map, List.getD_eq_getElem?_getD, List.getElem?_eq_getElem hi]; rfl
    refine HE_int ?_
    show Q _ _
    exact h
/-- far -/
theorem ls4 {loc : List (Str × V)} (hd : F.d < 460) (hsc : F.sc = fS (tS 24)) (w : List Nat) (hx : w.length ≤ 1000) (hw : loc.lookup ("word" : Str) = some (sv w)) (hv : loc.lookup ("closed" : Str) = some (natsV (closP w))) (hc : (closP w).length ≤ 1000) (h : Q .next ⟨setL "far" (.int (farP w)) loc, ob⟩) : HS F ((fB (tS 24)).getD 4 (.Pass ⟨0, 0, 0, 0⟩)) ⟨loc, ob⟩ Q := by
  have hz : sizeLine = 16777216 := sizeLine_eq
  obtain ⟨sc, d, fn, k⟩ := F
  subst hsc
  refine HS_assign rfl ?_
  refine HE_if ?_
  refine HT_cmp ?_
  refine HE_len_list rfl ?_
  refine HE_name (v := natsV (closP w)) hv rfl ?_
  refine ⟨_, rfl, by rw [List.length_map]; omega, ?_⟩
  refine HE_int ⟨_, rfl, ?_⟩
  rw [List.length_map]
  unfold farP at h
  by_cases q : 1 < (closP w).length
  · rw [if_pos q] at h
    rw [decide_eq_true (by omega)]
    show HE _ _ _ _
    refine HE_bin ?_
    refine HE_item ?_
    refine HE_name (v := natsV (closP w)) hv rfl ?_
    refine HE_int ?_
    refine ⟨_, 1, .int ((closP w).getD 1 0 : Nat), rfl, rfl, by omega, by omega, ?_, ?_⟩
    · show ((closP w).map fun p : Nat => V.int p)[1]? = _
      rw [List.getElem?_map, List.getD_eq_getElem?_getD, List.getElem?_eq_getElem q]; rfl
    refine HE_int ?_
    show Q _ _
    exact h
  · rw [if_neg q] at h
    rw [decide_eq_false (by omega)]
    show HE _ _ _ _
    refine HE_len_str rfl ?_
    refine HE_name (v := sv w) hw rfl ?_
    refine ⟨_, rfl, by rw [mkS_len]; omega, ?_⟩
    rw [mkS_len]
    exact h
end
end Mine

end

-- X28
section
namespace Mine

theorem firstL_len (t : List Nat) : (firstL t).length ≤ t.length := by
  unfold firstL
  have h0 := shorn_getD_len t reflA reflB
  cases e1 : shorn t gerA gerB with
  | some r => exact shorn_len e1
  | none =>
    dsimp only
    generalize (shorn t reflA reflB).getD t = u at h0
    cases e2 : shorn u adjA adjB with
    | some r =>
      have := shorn_len e2
      have := shorn_getD_len r partA partB
      dsimp only; omega
    | none =>
      dsimp only
      cases e3 : shorn u verbA verbB with
      | some r =>
        have := shorn_len e3
        dsimp only; omega
      | none =>
        have := shorn_getD_len u nounA nounB
        dsimp only; omega
theorem tail1_len (t : List Nat) : (tail1 t).length ≤ t.length := by
  unfold tail1
  split
  · rw [List.length_take]; omega
  · omega
theorem tail2_len (n f : Nat) (t : List Nat) : (tail2 n f t).length ≤ t.length := by
  unfold tail2
  cases e : shorn t derA derB with
  | some r =>
    have := shorn_len e
    dsimp only
    split <;> omega
  | none => exact Nat.le_refl _
theorem tail3_len (t : List Nat) : (tail3 t).length ≤ t.length := by
  unfold tail3
  have := shorn_getD_len t highA highB
  dsimp only
  split
  · rw [List.length_take]; omega
  · omega
theorem nearP_le (w : List Nat) : nearP w ≤ w.length := by
  unfold nearP
  split
  · omega
  · rename_i q
    have hi : 0 < (vowsP w).length := List.length_pos_iff.mpr q
    rw [List.getD_eq_getElem?_getD, List.getElem?_eq_getElem hi]
    have := List.mem_range.mp (List.mem_filter.mp (List.getElem_mem hi)).1
    show (vowsP w)[0] + 1 ≤ _
    omega
theorem vowsP_len (w : List Nat) : (vowsP w).length ≤ w.length := by
  unfold vowsP
  have := List.length_filter_le (fun p => isVow (w.getD p 0)) (List.range w.length)
  rw [List.length_range] at this; exact this
theorem closP_len (w : List Nat) : (closP w).length ≤ w.length := Nat.le_trans (List.length_filter_le _ _) (vowsP_len w)

section
variable {F : Fi} {ob : List (Str × V)}
noncomputable abbrev lsEnd (Q : V → List (Str × V) → Prop) : Fl → St → Prop := RetQ Q

/-- the last step and the end -/
theorem ls9 {Q : V → List (Str × V) → Prop} (hd : F.d < 440) (hfn : F.fn = true) (hsc : F.sc = fS (tS 24)) (w : List Nat) (hx : w.length ≤ 1000) (n : Nat) (hn : n ≤ w.length) (t : List Nat) (ht : t.length ≤ 1000)
    (h : Q (sv (w.take n ++ tail3 t)) ob) : HB F ((fB (tS 24)).drop 9) ⟨[("word", sv w), ("near", .int n), ("tail", sv t)], ob⟩ (lsEnd Q) := by
  have hz : sizeLine = 16777216 := sizeLine_eq
  obtain ⟨sc, d, fn, k⟩ := F
  subst hsc
  have hd : d < 440 := hd
  refine HB_cons ?_
  refine HS_assign rfl ?_
  refine HE_call (fa := 797) (d := d) rfl rfl (fun P => by kernel_rfl) (fun P => by kernel_rfl) (Nat.le_refl _) ?_
  refine HA_cons ?_
  refine HE_name (v := sv t) rfl rfl ?_
  refine HA_cons ?_
  refine HE_high rfl ?_
  refine HA_nil ?_
  refine law_shorn_ (by omega) ob t (by omega) highA highB (by decide) (by decide) ?_
  have hu := shorn_getD_len t highA highB
  unfold tail3 at h
  dsimp only at h
  have fin : ∀ u : List Nat, u.length ≤ 1000 → Q (sv (w.take n ++ u)) ob → HB ⟨fS (tS 24), d, fn, k⟩ ((fB (tS 24)).drop 12) ⟨[("word", sv w), ("near", .int n), ("tail", sv u)], ob⟩ (lsEnd Q) := by
    intro u hu h
    refine HB_cons ?_
    refine HS_ret ?_
    refine HE_bin ?_
    refine HE_sl_ns ?_
    refine HE_name (v := sv w) rfl rfl ?_
    refine HE_name (v := .int n) rfl rfl ?_
    refine ⟨_, _, rfl, rfl, by rw [mkS_len]; omega, ?_⟩
    refine HE_name (v := sv u) rfl rfl ?_
    rw [sl_ns w hn]
    refine ⟨?_, ?_⟩
    · rw [mkS_len, mkS_len, List.length_take]; omega
    · rw [mkS_app]; exact h
  have cut : ∀ u : List Nat, u.length ≤ 1000 → Q (sv (w.take n ++ u.take (u.length - 1))) ob → HB ⟨fS (tS 24), d, fn, k⟩ (match (fB (tS 24)).getD 11 (.Pass ⟨0, 0, 0, 0⟩) with | .If _ b _ _ => b | _ => []) ⟨[("word", sv w), ("near", .int n), ("tail", sv u)], ob⟩ (Kont ⟨fS (tS 24), d, fn, k⟩ ((fB (tS 24)).drop 12) (lsEnd Q)) := by
    intro u hu h
    refine HB_cons ?_
    refine HS_assign rfl ?_
    refine HE_sl_ns ?_
    refine HE_name (v := sv u) rfl rfl ?_
    refine HE_bin ?_
    refine HE_len_str rfl ?_
    refine HE_name (v := sv u) rfl rfl ?_
    refine ⟨_, rfl, by rw [mkS_len]; omega, ?_⟩
    refine HE_int ?_
    refine ⟨_, _, rfl, rfl, by rw [mkS_len]; omega, ?_⟩
    have sl : Txt.slice (mkS u) none (some (((mkS u).length : Int) - 1)) = mkS (u.take (u.length - 1)) := by
      rw [mkS_len]
      by_cases q : u.length = 0
      · have : u = [] := List.length_eq_zero_iff.mp q
        subst this; rfl
      · rw [show (u.length : Int) - 1 = ((u.length - 1 : Nat) : Int) by omega]
        exact sl_ns u (by omega)
    rw [sl]
    refine HB_nil ?_
    exact HB_sub (loc := [("word", sv w), ("near", .int n), ("tail", sv (u.take (u.length - 1)))]) ⟨rfl, rfl, rfl, trivial⟩ (fin _ (by rw [List.length_take]; omega) h)
  have ew1 : ∀ u, Txt.endswith (mkS u) ("нн" : Str) = endsP u [1085, 1085] := fun _ => rfl
  have ew2 : ∀ u, Txt.endswith (mkS u) ("ь" : Str) = endsP u [1100] := fun _ => rfl
  cases e : shorn t highA highB with
  | some r =>
    rw [e] at h hu
    have h : Q (sv (w.take n ++ if (endsP r [1085, 1085] || (false && endsP r [1100])) = true then r.take (r.length - 1) else r)) ob := h
    rw [Bool.false_and, Bool.or_false] at h
    have hu : r.length ≤ t.length := hu
    refine HB_cons ?_
    refine HS_if ?_
    refine HT_cmp ?_
    refine HE_name (v := sv r) rfl rfl ?_
    refine HE_none ⟨_, rfl, ?_⟩
    show HB _ _ _ _
    refine HB_cons ?_
    refine HS_assign rfl ?_
    refine HE_name (v := sv r) rfl rfl ?_
    refine HB_nil ?_
    refine HB_sub (loc := [("word", sv w), ("near", .int n), ("tail", sv r), ("rest", sv r)]) ⟨rfl, rfl, rfl, rfl, trivial⟩ ?_
    refine HB_cons ?_
    refine HS_if ?_
    refine HT_or ?_
    refine HT_val ?_
    refine HE_endswith ?_
    refine HE_name (v := sv r) rfl rfl ?_
    refine ⟨_, rfl, ?_⟩
    refine HE_str ⟨_, rfl, _, rfl, ?_⟩
    rw [ew1]
    cases q : endsP r [1085, 1085] with
    | true =>
      rw [q] at h
      show HB _ _ _ _
      exact HB_sub (loc := [("word", sv w), ("near", .int n), ("tail", sv r)]) ⟨rfl, rfl, rfl, trivial⟩ (cut r (by omega) h)
    | false =>
      rw [q] at h
      show HT _ _ _ _
      refine HT_and ?_
      refine HT_cmp ?_
      refine HE_name (v := sv r) rfl rfl ?_
      refine HE_none ⟨_, rfl, ?_⟩
      show HB _ _ _ _
      refine HB_nil ?_
      exact HB_sub (loc := [("word", sv w), ("near", .int n), ("tail", sv r)]) ⟨rfl, rfl, rfl, trivial⟩ (fin r (by omega) h)
  | none =>
    rw [e] at h hu
    have h : Q (sv (w.take n ++ if (endsP t [1085, 1085] || (true && endsP t [1100])) = true then t.take (t.length - 1) else t)) ob := h
    rw [Bool.true_and] at h
    refine HB_cons ?_
    refine HS_if ?_
    refine HT_cmp ?_
    refine HE_name (v := .none) rfl rfl ?_
    refine HE_none ⟨_, rfl, ?_⟩
    show HB _ _ _ _
    refine HB_nil ?_
    refine HB_sub (loc := [("word", sv w), ("near", .int n), ("tail", sv t), ("rest", .none)]) ⟨rfl, rfl, rfl, rfl, trivial⟩ ?_
    refine HB_cons ?_
    refine HS_if ?_
    refine HT_or ?_
    refine HT_val ?_
    refine HE_endswith ?_
    refine HE_name (v := sv t) rfl rfl ?_
    refine ⟨_, rfl, ?_⟩
    refine HE_str ⟨_, rfl, _, rfl, ?_⟩
    rw [ew1]
    cases q : endsP t [1085, 1085] with
    | true =>
      rw [q] at h
      show HB _ _ _ _
      exact HB_sub (loc := [("word", sv w), ("near", .int n), ("tail", sv t)]) ⟨rfl, rfl, rfl, trivial⟩ (cut t ht h)
    | false =>
      rw [q] at h
      show HT _ _ _ _
      refine HT_and ?_
      refine HT_cmp ?_
      refine HE_name (v := .none) rfl rfl ?_
      refine HE_none ⟨_, rfl, ?_⟩
      show HT _ _ _ _
      refine HT_val ?_
      refine HE_endswith ?_
      refine HE_name (v := sv t) rfl rfl ?_
      refine ⟨_, rfl, ?_⟩
      refine HE_str ⟨_, rfl, _, rfl, ?_⟩
      rw [ew2]
      cases q2 : endsP t [1100] with
      | true =>
        rw [q2] at h
        show HB _ _ _ _
        exact HB_sub (loc := [("word", sv w), ("near", .int n), ("tail", sv t)]) ⟨rfl, rfl, rfl, trivial⟩ (cut t ht h)
      | false =>
        rw [q2] at h
        show HB _ _ _ _
        refine HB_nil ?_
        exact HB_sub (loc := [("word", sv w), ("near", .int n), ("tail", sv t)]) ⟨rfl, rfl, rfl, trivial⟩ (fin t ht h)
end
end Mine

end

-- X29
section
namespace Mine

section
variable {F : Fi} {ob : List (Str × V)}
theorem ls7 {Q : V → List (Str × V) → Prop} (hd : F.d < 440) (hfn : F.fn = true) (hsc : F.sc = fS (tS 24)) (w : List Nat) (hx : w.length ≤ 1000) (n f : Nat) (hn : n ≤ w.length) (t : List Nat) (ht : t.length ≤ 1000)
    (h : Q (sv (w.take n ++ tail3 (tail2 n f t))) ob) : HB F ((fB (tS 24)).drop 7) ⟨[("word", sv w), ("near", .int n), ("far", .int f), ("tail", sv t)], ob⟩ (lsEnd Q) := by
  have hz : sizeLine = 16777216 := sizeLine_eq
  obtain ⟨sc, d, fn, k⟩ := F
  subst hsc
  have hd : d < 440 := hd
  refine HB_cons ?_
  refine HS_assign rfl ?_
  refine HE_call (fa := 797) (d := d) rfl rfl (fun P => by kernel_rfl) (fun P => by kernel_rfl) (Nat.le_refl _) ?_
  refine HA_cons ?_
  refine HE_name (v := sv t) rfl rfl ?_
  refine HA_cons ?_
  refine HE_der rfl ?_
  refine HA_nil ?_
  refine law_shorn_ (by omega) ob t (by omega) derA derB (by decide) (by decide) ?_
  have hl := tail2_len n f t
  have fin : ∀ u : List Nat, u = tail2 n f t → HB ⟨fS (tS 24), d, fn, k⟩ ((fB (tS 24)).drop 9) ⟨[("word", sv w), ("near", .int n), ("tail", sv u)], ob⟩ (lsEnd Q) := by
    intro u e
    rw [← e] at h hl
    exact ls9 (F := ⟨fS (tS 24), d, fn, k⟩) hd hfn rfl w hx n hn u (by omega) h
  unfold tail2 at fin
  cases e : shorn t derA derB with
  | some r =>
    rw [e] at fin
    have hr := shorn_len e
    refine HB_cons ?_
    refine HS_if ?_
    refine HT_and ?_
    refine HT_cmp ?_
    refine HE_name (v := sv r) rfl rfl ?_
    refine HE_none ⟨_, rfl, ?_⟩
    show HT _ _ _ _
    refine HT_cmp ?_
    refine HE_bin ?_
    refine HE_name (v := .int n) rfl rfl ?_
    refine HE_len_str rfl ?_
    refine HE_name (v := sv r) rfl rfl ?_
    refine ⟨_, rfl, by rw [mkS_len]; omega, ?_⟩
    refine HE_name (v := .int f) rfl rfl ?_
    refine ⟨_, rfl, ?_⟩
    rw [mkS_len]
    by_cases q : f ≤ n + r.length
    · have fin := fin r (if_pos q).symm
      rw [decide_eq_true (by omega)]
      show HB _ _ _ _
      refine HB_cons ?_
      refine HS_assign rfl ?_
      refine HE_name (v := sv r) rfl rfl ?_
      refine HB_nil ?_
      exact HB_sub (loc := [("word", sv w), ("near", .int n), ("tail", sv r)]) ⟨rfl, rfl, rfl, trivial⟩ fin
    · have fin := fin t (if_neg q).symm
      rw [decide_eq_false (by omega)]
      show HB _ _ _ _
      refine HB_nil ?_
      exact HB_sub (loc := [("word", sv w), ("near", .int n), ("tail", sv t)]) ⟨rfl, rfl, rfl, trivial⟩ fin
  | none =>
    rw [e] at fin
    refine HB_cons ?_
    refine HS_if ?_
    refine HT_and ?_
    refine HT_cmp ?_
    refine HE_name (v := .none) rfl rfl ?_
    refine HE_none ⟨_, rfl, ?_⟩
    show HB _ _ _ _
    refine HB_nil ?_
    exact HB_sub (loc := [("word", sv w), ("near", .int n), ("tail", sv t)]) ⟨rfl, rfl, rfl, trivial⟩ (fin t rfl)

theorem ls5 {Q : V → List (Str × V) → Prop} (hd : F.d < 430) (hfn : F.fn = true) (hsc : F.sc = fS (tS 24)) (w : List Nat) (hx : w.length ≤ 1000) (n f : Nat) (hn : n ≤ w.length)
    (h : Q (sv (w.take n ++ tail3 (tail2 n f (tail1 (firstL (w.drop n)))))) ob) : HB F ((fB (tS 24)).drop 5) ⟨[("word", sv w), ("near", .int n), ("far", .int f)], ob⟩ (lsEnd Q) := by
  have hz : sizeLine = 16777216 := sizeLine_eq
  obtain ⟨sc, d, fn, k⟩ := F
  subst hsc
  have hd : d < 430 := hd
  refine HB_cons ?_
  refine HS_assign rfl ?_
  refine HE_call (fa := 804) (d := d) rfl rfl (fun P => by kernel_rfl) (fun P => by kernel_rfl) (Nat.le_refl _) ?_
  refine HA_cons ?_
  refine HE_sl_sn ?_
  refine HE_name (v := sv w) rfl rfl ?_
  refine HE_name (v := .int n) rfl rfl ?_
  refine ⟨_, _, rfl, rfl, by rw [mkS_len]; omega, ?_⟩
  rw [sl_sn w hn]
  refine HA_nil ?_
  refine law_first_ (by omega) ob (w.drop n) (by rw [List.length_drop]; omega) ?_
  have hl := firstL_len (w.drop n)
  rw [List.length_drop] at hl
  generalize firstL (w.drop n) = t at h hl
  have hl1 := tail1_len t
  have fin : ∀ u : List Nat, u = tail1 t → HB ⟨fS (tS 24), d, fn, k⟩ ((fB (tS 24)).drop 7) ⟨[("word", sv w), ("near", .int n), ("far", .int f), ("tail", sv u)], ob⟩ (lsEnd Q) := by
    intro u e
    rw [← e] at h hl1
    exact ls7 (F := ⟨fS (tS 24), d, fn, k⟩) (by show d < 440; omega) hfn rfl w hx n f hn u (by omega) h
  unfold tail1 at fin
  have ew1 : ∀ u, Txt.endswith (mkS u) ("и" : Str) = endsP u [1080] := fun _ => rfl
  refine HB_cons ?_
  refine HS_if ?_
  refine HT_val ?_
  refine HE_endswith ?_
  refine HE_name (v := sv t) rfl rfl ?_
  refine ⟨_, rfl, ?_⟩
  refine HE_str ⟨_, rfl, _, rfl, ?_⟩
  rw [ew1]
  cases q : endsP t [1080] with
  | true =>
    rw [q] at fin
    show HB _ _ _ _
    refine HB_cons ?_
    refine HS_assign rfl ?_
    refine HE_sl_ns ?_
    refine HE_name (v := sv t) rfl rfl ?_
    refine HE_bin ?_
    refine HE_len_str rfl ?_
    refine HE_name (v := sv t) rfl rfl ?_
    refine ⟨_, rfl, by rw [mkS_len]; omega, ?_⟩
    refine HE_int ?_
    refine ⟨_, _, rfl, rfl, by rw [mkS_len]; omega, ?_⟩
    have sl : Txt.slice (mkS t) none (some (((mkS t).length : Int) - 1)) = mkS (t.take (t.length - 1)) := by
      rw [mkS_len]
      by_cases q : t.length = 0
      · have : t = [] := List.length_eq_zero_iff.mp q
        subst this; rfl
      · rw [show (t.length : Int) - 1 = ((t.length - 1 : Nat) : Int) by omega]
        exact sl_ns t (by omega)
    rw [sl]
    refine HB_nil ?_
    exact HB_sub (loc := [("word", sv w), ("near", .int n), ("far", .int f), ("tail", sv (t.take (t.length - 1)))]) ⟨rfl, rfl, rfl, rfl, trivial⟩ (fin _ rfl)
  | false =>
    rw [q] at fin
    show HB _ _ _ _
    refine HB_nil ?_
    exact HB_sub (loc := [("word", sv w), ("near", .int n), ("far", .int f), ("tail", sv t)]) ⟨rfl, rfl, rfl, rfl, trivial⟩ (fin _ rfl)
end

theorem law_stem_ {d : Nat} (hd : d < 420) {k : Kd} (ob : List (Str × V)) (x : List Nat) (hx : x.length ≤ 1000) {Q : V → List (Str × V) → Prop}
    (h : Q (sv (lawL x)) ob) : HC d k 809 [sv x] ob Q := by
  refine HC_bodyC fn809 (by omega) rfl rfl (fun n => rfl) (by rfl) ?_
  have hw : (yoMap x).length ≤ 1000 := by unfold yoMap; rw [List.length_map]; exact hx
  unfold lawL at h
  refine HB_cons (ls0 rfl rfl x hx rfl ?_)
  generalize yoMap x = w at hw h
  refine HB_sub (loc := [("word", sv w)]) ⟨rfl, trivial⟩ ?_
  refine HB_cons (ls1 rfl (by show d + 1 < 460; omega) rfl w hw rfl ?_)
  refine HB_cons (ls2 rfl (by show d + 1 < 460; omega) rfl w hw rfl rfl ?_)
  refine HB_cons (ls3 (by show d + 1 < 460; omega) rfl w hw rfl rfl ?_)
  refine HB_cons (ls4 (by show d + 1 < 460; omega) rfl w hw rfl rfl (Nat.le_trans (closP_len w) hw) ?_)
  refine HB_sub (loc := [("word", sv w), ("near", .int (nearP w)), ("far", .int (farP w))]) ⟨rfl, rfl, rfl, trivial⟩ ?_
  exact ls5 (by show d + 1 < 430; omega) rfl rfl w hw (nearP w) (farP w) (nearP_le w) h
end Mine

end

-- X30
section
open PySem PySem.W PyProof.Rows PySem.Calls PySem.SeqAt
namespace Mine

/-- the list of words, as it lies -/
noncomputable abbrev wlObj (items : Array Value) (n : Nat) (sl : Array (Option Value)) : Obj := { cls := .type "list", data := .seq items n, slots := sl }
noncomputable def wob (l : List (List Nat)) : List (Str × V) := l.map fun x => ("", sv x)
theorem wob_snd (l : List (List Nat)) : (wob l).map (·.2) = l.map sv := by unfold wob; rw [List.map_map]; rfl
theorem wob_atom (l : List (List Nat)) : (wob l).all (fun x => atom x.2) = true := by
  rw [List.all_eq_true]
  intro x hx
  obtain ⟨y, _, rfl⟩ := List.mem_map.mp hx
  rfl

section
variable {prog : Program} {w : World} {A : Around} {E : Value → Shared → Prop} {s : Shared}
theorem wl_put {D : Addr} {items : Array Value} {n : Nat} {sl : Array (Option Value)} {k : Int} {t : Tok} {v : Value} {Q : Unit → Shared → Prop} (ho : s.heap.get? D = some (wlObj items n sl)) (h0 : k < 0) (h1 : -(items.size : Int) ≤ k) (hfit : -(2 ^ 63) ≤ k)
    (h : ∀ h', Heap.SameBut D s.heap h' → h'.get? D = some (wlObj (items.setIfInBounds (k + items.size).toNat v) n sl) → Q () { s with heap := h' }) : wpAny (model prog w) A (setItem (.ref D) (.int k t) v) Q E s := by
  have hl : s.heap.IsList D items := ⟨_, ho, rfl, n, rfl⟩
  have hlt : (k + items.size).toNat < items.size := by omega
  have hx : items[(k + items.size).toNat]? = some items[(k + items.size).toNat] := Array.getElem?_eq_getElem hlt
  have hQ : Q () { s with heap := s.heap.update D (Obj.mapSeq (·.setIfInBounds (k + items.size).toNat v)) } := by
    have e : Obj.mapSeq (·.setIfInBounds (k + items.size).toNat v) (wlObj items n sl) = wlObj (items.setIfInBounds (k + items.size).toNat v) n sl := by
      simp [Obj.mapSeq]
    refine h _ (Heap.SameBut.update ..) ?_
    rw [Heap.get?_update_self _ ho (by rw [e]; rfl), e]
  unfold setItem
  try with_reducible refine wpAny_holding ?_
  first | refine wpAny_bind (wpAny_pure ?_) | skip
  refine wpAny_bind (wpAny_sequenceKey hl.typeIs (by decide) ?_)
  refine wpAny_bind (wpAny_callSpecial?_slot (name := Str.ofString "__setitem__") hl.typeIs slot_list_setitem
    (wpAny_call_entry slot_list_setitem hl.typeIs entry_list_setitem ?_ (args_list_setitem _ _ _)))
  show wpAny _ _ (Builtin.List.listSubscript? (.int k t) >>= _) _ _ s
  refine wpAny_bind (wpAny_listSubscript_int (fitsIndex_neg h0 hfit) ?_)
  clear hfit
  have hidx := PySem.seqIndex_neg h0 h1
  obtain ⟨j, rfl⟩ : ∃ j : Nat, k = Int.negSucc j := by
    cases k with
    | ofNat n => exact absurd h0 (Int.not_lt.mpr (Int.natCast_nonneg n))
    | negSucc n => exact ⟨n, rfl⟩
  show wpAny _ _ ((Builtin.List.listItems (.ref D) >>= fun xs => pure ((seqIndex? (Int.negSucc j) xs.size).bind fun i => xs[i]?.map (i, ·))) >>= _) _ _ s
  refine wpAny_bind (wpAny_bind ?_)
  show wpAny _ _ (seqItems? (.ref D) >>= _) _ _ s
  refine wpAny_bind (wpAny_seqItems ho rfl (wpAny_pure (wpAny_pure ?_)))
  rw [hidx]
  simp only [Option.bind_some, hx, Option.map_some]
  show wpAny _ _ (setSeqItemAt D (Int.negSucc j + items.size).toNat v >>= _) _ _ s
  refine wpAny_bind (wpAny_setSeqItemAt ho rfl ?_)
  first
    | exact wpAny_bind (wpAny_pure (wpAny_pure ⟨.none, rfl, wpAny_pure hQ⟩))
    | exact wpAny_pure ⟨.none, rfl, wpAny_pure hQ⟩
theorem wl_append {D : Addr} {items : Array Value} {n : Nat} {sl : Array (Option Value)} {x : Value} {Q : Value → Shared → Prop} (ho : s.heap.get? D = some (wlObj items n sl)) (hsz : items.size ≤ sizeLine)
    (h : ∀ h', Heap.SameBut D s.heap h' → h'.get? D = some (wlObj (items.push x) (n + 1) sl) → Q .none { s with heap := h' }) : wpAny (model prog w) A (call (.builtin "list.append") [.ref D, x]) Q E s := by
  have e : Obj.mapSeq (·.push x) (wlObj items n sl) = wlObj (items.push x) (n + 1) sl := by
    simp [Obj.mapSeq]
  refine wpAny_call_entry slot_list_append ⟨_, ho, rfl⟩ entry_list_append ?_ (args_list_append _ _)
  show wpAny _ _ (updateSeq D (·.push x) >>= fun _ => ret .none) _ _ s
  refine wpAny_bind (wpAny_updateSeq ho rfl (wpAny_pure ⟨.none, rfl, h _ (Heap.SameBut.update ..) ?_⟩))
  rw [Heap.get?_update_self _ ho (by rw [e]; rfl), e]
end

section
variable {F : Fi} {σ : St}
theorem words_at {c : Cx} (O : c.Ok F) (hk : F.k = .words) {s : Shared} (R : Rel c σ s) {l : List (List Nat)} (hob : σ.ob = wob l) :
    ∃ items n sl, s.heap.get? c.g.D = some (wlObj items n sl) ∧ VRs c.g s.heap (l.map sv) items.toList ∧ items.size = l.length := by
  have or := R.ob
  unfold OR at or
  rw [O.k, hk] at or
  obtain ⟨o, items, n, h1, ⟨h2, h3⟩, h4, h5, _⟩ := or
  rw [hob, wob_snd] at h5
  obtain ⟨oc, od, odat, sl⟩ := o
  dsimp only at h2 h3 h4
  subst h2 h3 h4
  refine ⟨items, n, sl, h1, h5, ?_⟩
  have := h5.length
  rw [List.length_map] at this
  exact this.symm
theorem words_put {c : Cx} (O : c.Ok F) (hk : F.k = .words) {s : Shared} (R : Rel c σ s) {h' : Heap} {l : List (List Nat)} (sb : Heap.SameBut c.g.D s.heap h') {items : Array Value} {n : Nat} {sl : Array (Option Value)} (e : h'.get? c.g.D = some (wlObj items n sl)) (hv : VRs c.g s.heap (l.map sv) items.toList) (d : Drawn) (tk : Nat) :
    Rel c { σ with ob := wob l } ⟨h', s.gens, d, tk, s.os⟩ ∧ Ext c s.heap h' := by
  have nLD : c.env.locals ≠ c.g.D := fun q => O.nD (q ▸ O.ownL)
  refine R.kp2 O (by rw [O.k, hk]; intro z; cases z) (fun b o e1 _ e3 => (sb.2 b e3).trans e1) (fun m hm => hm.sameBut sb nLD) ⟨_, e⟩ (fun sk => ?_) d tk
  unfold OR
  rw [O.k, hk]
  exact ⟨_, items, n, e, ⟨rfl, rfl⟩, rfl, by rw [wob_snd]; exact hv.seq sk, wob_atom l⟩

theorem HE_len_words {p pos p1 : Pos} {x : Str} {l : List (List Nat)} {Q : V → St → Prop} (hk : F.k = .words) (hx : F.sc.names.lookup ("len" : Str) = some .globalImplicit) (hw : σ.loc.lookup x = some .words) (hl : isLoc F x = true) (hob : σ.ob = wob l) (hz : l.length ≤ 1000)
    (h : Q (.int l.length) σ) : HE F (.Call (.Name "len" p) [.Name x p1] [] pos) σ Q := by
  refine HE_bi (P := fun vs σ' => vs = [.words] ∧ σ' = σ) hx (fun P => by kernel_rfl) rfl (by decide)
    (HA_cons (HE_name hw hl (HA_nil ⟨rfl, rfl⟩))) (fun c O vs σ' s' pvs R' hv ⟨e, e2⟩ => ?_) (by decide)
  subst e e2
  cases hv with
  | cons hv hn =>
    cases hn
    cases hv
    obtain ⟨items, n, sl, h1, h2, h3⟩ := words_at O hk R' hob
    refine PyProof.Rows.len_list (items := items) ⟨_, h1, rfl, n, rfl⟩ (by omega) ?_
    rw [h3]
    exact endE O R' (.refl _ _) (.int _ _) h

theorem snoc_vr {g : Gx} {h : Heap} {l : List (List Nat)} {y : List Nat} {items : List Value} (x : VRs g h ((l ++ [y]).map sv) items) : ∃ vi v, items = vi ++ [v] ∧ VRs g h (l.map sv) vi ∧ VR g h (sv y) v := by
  induction l generalizing items with
  | nil =>
    cases x with
    | @cons _ pv _ _ a b => cases b; exact ⟨[], pv, rfl, .nil, a⟩
  | cons a r ih =>
    cases x with
    | @cons _ pv _ pvs a b =>
      obtain ⟨vi, v, rfl, h1, h2⟩ := ih b
      exact ⟨pv :: vi, v, rfl, .cons a h1, h2⟩

theorem HE_neg1 {k : Nat} {p1 p2 : Pos} {Q : V → St → Prop} (h : Q (.int (-1)) σ) : HE F (.UnaryOp .USub (.Constant (.int 1) k p1) p2) σ Q := HE_neg (HE_int ⟨_, rfl, h⟩)

theorem HE_last {x : Str} {k : Nat} {p1 p2 p3 pos : Pos} {l : List (List Nat)} {y : List Nat} {Q : V → St → Prop} (hk : F.k = .words) (hw : σ.loc.lookup x = some .words) (hl : isLoc F x = true) (hob : σ.ob = wob (l ++ [y])) (h : Q (sv y) σ) :
    HE F (.Subscript (.Name x p1) (.UnaryOp .USub (.Constant (.int 1) k p2) p3) pos) σ Q := fun c O s R => by
  refine Subscript_ (wpAny_mono (HE_name (Q := fun v σ' => v = .words ∧ σ' = σ) hw hl ⟨rfl, rfl⟩ c O s R) (fun pa s₁ zz => ?_) fun _ _ z => z)
  obtain ⟨a, σ₁, R₁, X₁, va, e1, e2⟩ := zz
  subst e1 e2
  refine wpAny_mono (HE_neg1 (F := F) (Q := fun v σ' => v = .int (-1) ∧ σ' = σ₁) ⟨rfl, rfl⟩ c O s₁ R₁) (fun pb s₂ zz => ?_) fun _ _ z => z
  obtain ⟨b, σ₂, R₂, X₂, vb, e1, e2⟩ := zz
  subst e1 e2
  cases va
  cases vb
  obtain ⟨items, n, sl, h1, h2, h3⟩ := words_at O hk R₂ hob
  obtain ⟨vi, v, e, _, hv⟩ := snoc_vr h2
  have hi : items = (vi ++ [v]).toArray := by rw [← e]
  exact item_last (vi := vi) (v := v) ⟨_, h1, rfl, n, by rw [← hi]⟩ (moreE (X₁.trans X₂) (endE (tk := s₂.toks) (d := s₂.drawn) O R₂ (.refl _ _) hv h)) rfl (fun _ => rfl)

theorem HS_setlast {x : Str} {k : Nat} {p1 p2 p3 p4 pos : Pos} {value : Expr} {Q : Fl → St → Prop} (hk : F.k = .words) (hl : isLoc F x = true)
    (h : HE F value σ (fun u σ' => ∃ l y z, u = sv z ∧ σ'.loc.lookup x = some .words ∧ σ'.ob = wob (l ++ [y]) ∧ Q .next { σ' with ob := wob (l ++ [z]) }))
    (hs : ∀ env, swapsWith value (some (.Subscript (.Name x p1) (.UnaryOp .USub (.Constant (.int 1) k p2) p3) p4)) pos.line env = pure false := by intro; rfl) :
    HS F (.Assign [.Subscript (.Name x p1) (.UnaryOp .USub (.Constant (.int 1) k p2) p3) p4] value pos) σ Q := fun c O s R => by
  refine wpAny_Assign_Subscript (wpAny_mono (h c O s R) (fun pv s₀ zz => ?_) fun _ _ z => z.elim) (hs c.env)
  obtain ⟨u, σ₀, R₀, X₀, hu, l, y, z, eu, hw, hob, q⟩ := zz
  subst eu
  refine wpAny_mono (HE_name (Q := fun v σ' => v = .words ∧ σ' = σ₀) hw hl ⟨rfl, rfl⟩ c O s₀ R₀) (fun pa s₁ zz => ?_) fun _ _ z => z.elim
  obtain ⟨a, σ₁, R₁, X₁, va, e1, e2⟩ := zz
  subst e1 e2
  refine wpAny_mono (HE_neg1 (F := F) (Q := fun v σ' => v = .int (-1) ∧ σ' = σ₁) ⟨rfl, rfl⟩ c O s₁ R₁) (fun pb s₂ zz => ?_) fun _ _ z => z.elim
  obtain ⟨b, σ₂, R₂, X₂, vb, e1, e2⟩ := zz
  subst e1 e2
  have hu := (hu.plain (h' := s₂.heap) rfl)
  cases va
  cases vb
  obtain ⟨items, n, sl, h1, h2, h3⟩ := words_at O hk R₂ hob
  obtain ⟨vi, v, e, hvi, hv⟩ := snoc_vr h2
  have hi : items = (vi ++ [v]).toArray := by rw [← e]
  subst hi
  have hn : ((-1 : Int) + ((vi ++ [v]).toArray.size : Int)).toNat = vi.length := by simp; omega
  refine wl_put h1 (by decide) (by simp; omega) (by decide) fun h' sb e' => ?_
  rw [hn] at e'
  have e2 : (vi ++ [v]).toArray.setIfInBounds vi.length pv = (vi ++ [pv]).toArray := by
    apply Array.toList_inj.mp
    simp
  rw [e2] at e'
  have hvs : VRs c.g s₂.heap ((l ++ [z]).map sv) (vi ++ [pv]) := by
    rw [List.map_append]
    exact hvi.snoc hu
  have M := words_put O hk R₂ sb e' (l := l ++ [z]) hvs s₂.drawn s₂.toks
  exact nextS M.1 (((X₀.trans X₁).trans X₂).trans M.2) q

theorem HE_append {x : Str} {p apos pos : Pos} {e : Expr} {Q : V → St → Prop} (hk : F.k = .words) (hl : isLoc F x = true) (hw : σ.loc.lookup x = some .words)
    (h : HE F e σ (fun u σ' => ∃ l z, u = sv z ∧ l.length ≤ 1000 ∧ σ'.ob = wob l ∧ Q .none { σ' with ob := wob (l ++ [z]) }))
    (he : ∀ env, eval (.Call (.Attribute (.Name x p) "append" apos) [e] [] pos) env = (do
      let ov ← eval (.Name x p) env
      standAt apos.atName
      let (f, first) ← holding [ov] (getMethod ov "append" (do return (← importBound (.Name x p) env).getD true))
      callWith pos f first (backTo pos (starEach [e] env)) (backToKw pos (keywordEach [] env))) := by intro; rfl)
    (hs : ∀ env, starEach [e] env = [(false, eval e env)] := by intro; rfl) : HE F (.Call (.Attribute (.Name x p) "append" apos) [e] [] pos) σ Q := fun c O s R => by
  have hz : sizeLine = 16777216 := sizeLine_eq
  refine methodCall_KW (pl := do return (← importBound (.Name x p) c.env).getD true) ?_ (he c.env)
  refine wpAny_mono (HE_name (Q := fun v σ' => v = .words ∧ σ' = σ) hw hl ⟨rfl, rfl⟩ c O s R) (fun pv s₁ zz => ?_) fun _ _ z => z
  obtain ⟨v, σ₁, R₁, X₁, hv, e1, e2⟩ := zz
  subst e1 e2
  cases hv
  have or := R₁.ob
  unfold OR at or
  rw [O.k, hk] at or
  obtain ⟨o, items, n, h1, ⟨h2, h3⟩, h4, h5, _⟩ := or
  refine getMethod_list_append h1 h2 h3 ?_
  refine callWith_B (first := [_]) (Q := fun vs σ' => ∃ l z, vs = [sv z] ∧ l.length ≤ 1000 ∧ σ'.ob = wob l ∧ Q .none { σ' with ob := wob (l ++ [z]) }) O R₁ (by rw [hs]; rfl)
    (HA_cons (HE_mono h fun v σ' ⟨l, z, e, r⟩ => HA_nil ⟨l, z, by rw [e], r⟩) hs) fun vs σ' pvs s' R' X' hv ⟨l, z, e, hl1, hob, q⟩ => ?_
  subst e
  cases hv with
  | @cons _ pz _ _ hv hn =>
    cases hn
    obtain ⟨items, n, sl, h1, h2, h3⟩ := words_at O hk R' hob
    refine wl_append h1 (by rw [h3]; omega) fun h' sb e' => ?_
    have hvs : VRs c.g s'.heap ((l ++ [z]).map sv) (items.push pz).toList := by
      rw [List.map_append, Array.toList_push]
      exact h2.snoc hv
    have M := words_put O hk R' sb e' (l := l ++ [z]) hvs s'.drawn s'.toks
    exact ⟨.none, _, M.1, (X₁.trans X').trans M.2, .none, q⟩
end
end Mine

end

-- P2
section
namespace Mine

noncomputable def rowN (T : List Row) (k : Nat) : List Nat := (T.getD k default).1.cps.toList
theorem eR_row (T : List Row) (k : Nat) : eR T k = (rowN T k).reverse := rfl

/-- e ends t -/
noncomputable def Suf (e t : List Nat) : Prop := e.length ≤ t.length ∧ t.drop (t.length - e.length) = e
theorem pre_suf {e t : List Nat} : Pre e.reverse t.reverse ↔ Suf e t := by
  unfold Pre Share Suf
  rw [List.length_reverse, List.length_reverse]
  constructor
  · rintro ⟨_, h2, h3⟩
    refine ⟨h2, ?_⟩
    rw [List.take_reverse, List.take_reverse, Nat.sub_self, List.drop_zero] at h3
    exact (List.reverse_inj.mp h3).symm
  · rintro ⟨h2, h3⟩
    refine ⟨Nat.le_refl _, h2, ?_⟩
    rw [List.take_reverse, List.take_reverse, Nat.sub_self, List.drop_zero, h3]
theorem Suf.len {e t : List Nat} (h : Suf e t) : e.length ≤ t.length := h.1

theorem lend_spec (t : List Nat) (E : List (List Nat)) : ∀ n, n ≤ t.length →
    (lend t E n = [] ∧ ∀ m, 1 ≤ m → m ≤ n → E.contains (t.drop (t.length - m)) = false) ∨
    (∃ m, 1 ≤ m ∧ m ≤ n ∧ lend t E n = t.drop (t.length - m) ∧ E.contains (t.drop (t.length - m)) = true ∧ ∀ m', m < m' → m' ≤ n → E.contains (t.drop (t.length - m')) = false)
  | 0, _ => .inl ⟨rfl, fun m h1 h2 => by omega⟩
  | n + 1, hn => by
    unfold lend
    cases q : E.contains (t.drop (t.length - (n + 1))) with
    | true =>
      rw [if_pos rfl]
      exact .inr ⟨n + 1, by omega, Nat.le_refl _, rfl, q, fun m' h1 h2 => by omega⟩
    | false =>
      rw [if_neg (by decide)]
      rcases lend_spec t E n (by omega) with ⟨h1, h2⟩ | ⟨m, h1, h2, h3, h4, h5⟩
      · refine .inl ⟨h1, fun m a b => ?_⟩
        by_cases z : m = n + 1
        · rw [z]; exact q
        · exact h2 m a (by omega)
      · refine .inr ⟨m, h1, by omega, h3, h4, fun m' a b => ?_⟩
        by_cases z : m' = n + 1
        · rw [z]; exact q
        · exact h5 m' a (by omega)

/-- what lend is, by endings -/
theorem lend_is (t : List Nat) (E : List (List Nat)) (h6 : ∀ e ∈ E, e.length ≤ 6) :
    (lend t E (min 6 t.length) = [] ∧ ∀ e ∈ E, e ≠ [] → ¬ Suf e t) ∨
    (lend t E (min 6 t.length) ≠ [] ∧ lend t E (min 6 t.length) ∈ E ∧ Suf (lend t E (min 6 t.length)) t ∧ ∀ e ∈ E, Suf e t → e.length ≤ (lend t E (min 6 t.length)).length) := by
  rcases lend_spec t E (min 6 t.length) (Nat.min_le_right _ _) with ⟨h1, h2⟩ | ⟨m, h1, h2, h3, h4, h5⟩
  · refine .inl ⟨h1, fun e he hne hs => ?_⟩
    have hl : 1 ≤ e.length := List.length_pos_iff.mpr hne
    have := h2 e.length hl (by have := h6 e he; have := hs.1; omega)
    rw [hs.2] at this
    rw [← Bool.not_eq_true, List.contains_iff_mem] at this
    exact this he
  · have hm : (t.drop (t.length - m)).length = m := by rw [List.length_drop]; omega
    refine .inr ⟨fun z => ?_, ?_, ?_, fun e he hs => ?_⟩
    · rw [h3] at z; rw [z] at hm; simp at hm; omega
    · rw [h3]; exact List.contains_iff_mem.mp h4
    · rw [h3]
      refine ⟨by rw [List.length_drop]; omega, by rw [hm]⟩
    · rw [h3, hm]
      false_or_by_contra
      rename_i z
      have := h5 e.length (by omega) (by have := h6 e he; have := hs.1; omega)
      rw [hs.2] at this
      rw [← Bool.not_eq_true, List.contains_iff_mem] at this
      exact this he

/-- the table holds just these endings -/
noncomputable def tabHas (T : List Row) (E : List (List Nat)) : Bool := (T.all fun r => decide (r.1.cps.toList.length ≤ 6) && E.contains r.1.cps.toList) && E.all fun s => T.any fun r => r.1.cps.toList == s
structure Has (T : List Row) (E : List (List Nat)) : Prop where
  six : ∀ e ∈ E, e.length ≤ 6
  mem : ∀ k, k < T.length → rowN T k ∈ E
  row : ∀ e ∈ E, ∃ k, k < T.length ∧ rowN T k = e
theorem getD_mem {T : List Row} {k : Nat} (h : k < T.length) : T.getD k default ∈ T := by
  rw [List.getD_eq_getElem?_getD, List.getElem?_eq_getElem h]; exact List.getElem_mem h
theorem has_of {T : List Row} {E : List (List Nat)} (h : tabHas T E = true) : Has T E := by
  unfold tabHas at h
  simp only [Bool.and_eq_true, List.all_eq_true, List.any_eq_true, decide_eq_true_eq, beq_iff_eq] at h
  obtain ⟨h1, h2⟩ := h
  have row : ∀ e ∈ E, ∃ k, k < T.length ∧ rowN T k = e := fun e he => by
    obtain ⟨r, hr, q⟩ := h2 e he
    obtain ⟨k, hk, rfl⟩ := List.mem_iff_getElem.mp hr
    refine ⟨k, hk, ?_⟩
    unfold rowN
    rw [List.getD_eq_getElem?_getD, List.getElem?_eq_getElem hk]; exact q
  refine ⟨fun e he => ?_, fun k hk => ?_, row⟩
  · obtain ⟨k, hk, rfl⟩ := row e he
    exact (h1 _ (getD_mem hk)).1
  · exact List.contains_iff_mem.mp (h1 _ (getD_mem hk)).2

theorem fnd_lend {T : List Row} (O : TabOk T) {E : List (List Nat)} (H : Has T E) (t : List Nat) :
    (lend t E (min 6 t.length) = [] ∧ fnd T t.reverse = (0, 0) ∧ ∀ e ∈ E, ¬ Suf e t) ∨
    (∃ k, k < T.length ∧ rowN T k = lend t E (min 6 t.length) ∧ lend t E (min 6 t.length) ≠ [] ∧ Suf (rowN T k) t ∧ fnd T t.reverse = ((rowN T k).length, vR T k) ∧ ∀ e ∈ E, Suf e t → e.length ≤ (rowN T k).length) := by
  have pos : ∀ e ∈ E, e ≠ [] := fun e he z => by
    obtain ⟨k, hk, q⟩ := H.row e he
    have := O.pos k hk
    rw [eR_row, q, z] at this; simp at this
  rcases lend_is t E H.six with ⟨h1, h2⟩ | ⟨h1, h2, h3, h4⟩
  · refine .inl ⟨h1, FindOk.uniq O (.inr ⟨rfl, rfl, fun m hm hp => ?_⟩), fun e he => h2 e he (pos e he)⟩
    have hr := H.mem m hm
    exact h2 _ hr (pos _ hr) (pre_suf.mp hp)
  · obtain ⟨k, hk, q⟩ := H.row _ h2
    rw [← q] at h1 h3 h4
    refine .inr ⟨k, hk, q, q ▸ h1, h3, FindOk.uniq O (.inl ⟨k, hk, pre_suf.mpr h3, by rw [eR_row, List.length_reverse], rfl, fun m hm hp => ?_⟩), h4⟩
    rw [eR_row, List.length_reverse]
    exact h4 _ (H.mem m hm) (pre_suf.mp hp)

theorem endsP_suf (t e : List Nat) : endsP t e = true ↔ Suf e t := by
  unfold endsP Txt.endswith Suf
  rw [mkS_len, mkS_len, Bool.and_eq_true, decide_eq_true_eq, StrLaws.subAt_eq, beq_iff_eq, mkS_len]
  have e1 : (mkS t).cps.toList = t := by unfold mkS; simp
  have e2 : (mkS e).cps.toList = e := by unfold mkS; simp
  rw [e1, e2]
  constructor
  · rintro ⟨h1, h2⟩
    have h1 : e.length ≤ t.length := by omega
    refine ⟨h1, ?_⟩
    rw [List.take_of_length_le (by rw [List.length_drop]; omega)] at h2
    exact h2
  · rintro ⟨h1, h2⟩
    refine ⟨by omega, ?_⟩
    rw [h2, List.take_length]
theorem suf_one (t : List Nat) (c : Nat) : Suf [c] t ↔ 0 < t.length ∧ t.getD (t.length - 1) 0 = c := by
  unfold Suf
  show 1 ≤ t.length ∧ t.drop (t.length - 1) = [c] ↔ _
  constructor
  · rintro ⟨h1, h2⟩
    refine ⟨h1, ?_⟩
    have := congrArg (fun l => l.getD 0 0) h2
    simp only [List.getD_eq_getElem?_getD, List.getElem?_drop] at this ⊢
    simpa using this
  · rintro ⟨h1, h2⟩
    refine ⟨h1, ?_⟩
    have hi : t.length - 1 < t.length := by omega
    rw [List.drop_eq_getElem_cons hi, show t.length - 1 + 1 = t.length by omega, List.drop_length]
    rw [List.getD_eq_getElem?_getD, List.getElem?_eq_getElem hi] at h2
    rw [← h2]; rfl
end Mine

end

-- P3
section
namespace Mine

theorem vAt_is (w : List Nat) (i : Nat) : vAt (mkS w) (i : Int) = isVow (w.getD i 0) := by
  unfold vAt isVow
  rw [chAt_mk]
  generalize w.getD i 0 = c
  have e : letters.map (·.1) = vowN.map fun c => mkS [c] := by rfl
  rw [e, Bool.eq_iff_iff, decide_eq_true_eq, List.contains_iff_mem, List.mem_map]
  constructor
  · rintro ⟨a, ha, q⟩
    have := mkS_inj q
    simp at this
    rw [← this]; exact ha
  · intro h; exact ⟨c, h, rfl⟩

/-- the scan, by places -/
theorem scan_is (p : Int → Bool) (q : Nat → Bool) (h : ∀ i : Nat, p (i : Int) = q i) : ∀ n a : Nat,
    ((scan p n (a : Int)).2 = false ∧ ∀ i, a ≤ i → i < a + n → q i = false) ∨
    (∃ j : Nat, scan p n (a : Int) = ((j : Int), true) ∧ a ≤ j ∧ j < a + n ∧ q j = true ∧ ∀ i, a ≤ i → i < j → q i = false)
  | 0, a => .inl ⟨rfl, fun i h1 h2 => by omega⟩
  | n + 1, a => by
    unfold scan
    rw [h a]
    cases z : q a with
    | true => exact .inr ⟨a, rfl, Nat.le_refl _, by omega, z, fun i h1 h2 => by omega⟩
    | false =>
      rw [if_neg (by decide)]
      have e : (a : Int) + 1 = ((a + 1 : Nat) : Int) := by omega
      rw [e]
      rcases scan_is p q h n (a + 1) with ⟨h1, h2⟩ | ⟨j, h1, h2, h3, h4, h5⟩
      · refine .inl ⟨h1, fun i a1 a2 => ?_⟩
        by_cases y : i = a
        · rw [y]; exact z
        · exact h2 i (by omega) (by omega)
      · refine .inr ⟨j, h1, by omega, by omega, h4, fun i a1 a2 => ?_⟩
        by_cases y : i = a
        · rw [y]; exact z
        · exact h5 i (by omega) a2

noncomputable def fr (P : Nat → Bool) (a e : Nat) : List Nat := (List.range' a (e - a)).filter P
theorem filter_none {P : Nat → Bool} : ∀ {n a : Nat}, (∀ i, a ≤ i → i < a + n → P i = false) → (List.range' a n).filter P = []
  | 0, _, _ => rfl
  | n + 1, a, h => by
    rw [List.range'_succ, List.filter_cons, h a (Nat.le_refl _) (by omega), if_neg (by decide)]
    exact filter_none fun i h1 h2 => h i (by omega) (by omega)
theorem filter_skip {P : Nat → Bool} : ∀ {k n a : Nat}, (∀ i, a ≤ i → i < a + k → P i = false) → (List.range' a (k + n)).filter P = (List.range' (a + k) n).filter P
  | 0, n, a, _ => by rw [Nat.zero_add, Nat.add_zero]
  | k + 1, n, a, h => by
    rw [show k + 1 + n = (k + n) + 1 by omega, List.range'_succ, List.filter_cons, h a (Nat.le_refl _) (by omega), if_neg (by decide)]
    rw [filter_skip (k := k) fun i h1 h2 => h i (by omega) (by omega), show a + 1 + k = a + (k + 1) by omega]
theorem fr_none {P : Nat → Bool} {a e : Nat} (h : ∀ i, a ≤ i → i < e → P i = false) : fr P a e = [] := filter_none fun i h1 h2 => h i h1 (by omega)
theorem fr_at {P : Nat → Bool} {a j e : Nat} (h1 : a ≤ j) (h2 : j < e) (h : ∀ i, a ≤ i → i < j → P i = false) (hj : P j = true) : fr P a e = j :: fr P (j + 1) e := by
  unfold fr
  rw [show e - a = (j - a) + (e - j) by omega, filter_skip (k := j - a) (fun i q1 q2 => h i q1 (by omega)), show a + (j - a) = j by omega]
  rw [show e - j = (e - (j + 1)) + 1 by omega, List.range'_succ, List.filter_cons, hj, if_pos rfl]

theorem vowsP_range (w : List Nat) : vowsP w = fr (fun p => isVow (w.getD p 0)) 0 w.length := by
  unfold vowsP; rw [List.range_eq_range']; rfl
theorem closP_range (w : List Nat) : closP w = fr (fun p => isVow (w.getD p 0) && closT w p) 0 w.length := by
  unfold closP
  rw [vowsP_range]
  unfold fr
  rw [List.filter_filter]
  congr 1
  funext p
  rw [Bool.and_comm]
theorem scan_e (p : Int → Bool) (q : Nat → Bool) (h : ∀ i : Nat, p (i : Int) = q i) {a e : Nat} (hae : a ≤ e) :
    ((scan p (e - a) (a : Int)).2 = false ∧ ∀ i, a ≤ i → i < e → q i = false) ∨
    (∃ j : Nat, scan p (e - a) (a : Int) = ((j : Int), true) ∧ a ≤ j ∧ j < e ∧ q j = true ∧ ∀ i, a ≤ i → i < j → q i = false) := by
  have z : a + (e - a) = e := by omega
  rcases scan_is p q h (e - a) a with ⟨h1, h2⟩ | ⟨j, h1, h2, h3, h4⟩
  · exact .inl ⟨h1, fun i q1 q2 => h2 i q1 (z.symm ▸ q2)⟩
  · exact .inr ⟨j, h1, h2, z ▸ h3, h4⟩
theorem ge_of {v : Nat → Bool} {a j i : Nat} {b : Bool} (d : ∀ i, a ≤ i → i < j → v i = b) (ai : a ≤ i) (h : v i = !b) : j ≤ i := Nat.le_of_not_lt fun y => by
  rw [d i ai y] at h; cases b <;> cases h

/-- the places of the closed vowels, by a scan -/
theorem far_is {v P : Nat → Bool} {L : Nat} (P0 : ∀ p, v p = false → P p = false) (P1 : ∀ p, v (p + 1) = true → P p = false) (P2 : ∀ p, L ≤ p + 1 → P p = false)
    (P3 : ∀ p, v p = true → p + 1 < L → v (p + 1) = false → P p = true) {f : Nat} (hf : f < L) (c1 : v f = true) (d1 : ∀ i, 0 ≤ i → i < f → v i = false) :
    ((∀ i, f + 1 ≤ i → i < L → v i = true) → fr P 0 L = []) ∧
    ∀ m1, f ≤ m1 → m1 + 1 < L → (∀ i, f + 1 ≤ i → i < m1 + 1 → v i = true) → v (m1 + 1) = false →
      ((∀ i, m1 + 1 + 1 ≤ i → i < L → v i = false) → fr P 0 L = [m1]) ∧
      ∀ j2, m1 + 1 + 1 ≤ j2 → j2 < L → v j2 = true → (∀ i, m1 + 1 + 1 ≤ i → i < j2 → v i = false) →
        ((∀ i, j2 + 1 ≤ i → i < L → v i = true) → fr P 0 L = [m1]) ∧
        ∀ m3, j2 ≤ m3 → m3 + 1 < L → (∀ i, j2 + 1 ≤ i → i < m3 + 1 → v i = true) → v (m3 + 1) = false → ∃ r, fr P 0 L = m1 :: m3 :: r := by
  have step : ∀ {s : Nat} {e : Nat}, (∀ i, s + 1 ≤ i → i < e → v i = true) → ∀ i, s ≤ i → i + 1 < e → P i = false := fun h i q1 q2 => P1 i (h (i + 1) (Nat.succ_le_succ q1) q2)
  refine ⟨fun n2 => fr_none fun i _ q => ?_, fun m1 hm1 hL run1 vj1 => ?_⟩
  · cases hvi : v i with
    | false => exact P0 i hvi
    | true =>
      by_cases y : i + 1 < L
      · exact step n2 i (ge_of (b := false) d1 (Nat.zero_le i) hvi) y
      · exact P2 i (Nat.le_of_not_lt y)
  have vm1 : v m1 = true := by
    rcases Nat.lt_or_eq_of_le hm1 with y | y
    · exact run1 m1 y (Nat.lt_succ_self _)
    · rw [← y]; exact c1
  have Pa : P m1 = true := P3 m1 vm1 hL vj1
  have Pb : ∀ i, 0 ≤ i → i < m1 → P i = false := fun i _ q => by
    cases hvi : v i with
    | false => exact P0 i hvi
    | true => exact step run1 i (ge_of (b := false) d1 (Nat.zero_le i) hvi) (Nat.succ_lt_succ q)
  have E1 : fr P 0 L = m1 :: fr P (m1 + 1) L := fr_at (Nat.zero_le _) (Nat.lt_of_succ_lt hL) Pb Pa
  have zz : ∀ {e : Nat}, (∀ i, m1 + 1 + 1 ≤ i → i < e → v i = false) → ∀ i, m1 + 1 ≤ i → i < e → v i = false := fun h i q1 q2 => by
    rcases Nat.lt_or_eq_of_le q1 with y | y
    · exact h i y q2
    · rw [← y]; exact vj1
  refine ⟨fun n3 => ?_, fun j2 a3 b3 c3 d3 => ?_⟩
  · rw [E1, fr_none fun i q1 q2 => P0 i (zz n3 i q1 q2)]
  have z2 := zz d3
  refine ⟨fun n4 => ?_, fun m3 hm3 hL3 run3 vj3 => ?_⟩
  · rw [E1, fr_none fun i q1 q2 => ?_]
    cases hvi : v i with
    | false => exact P0 i hvi
    | true =>
      by_cases y : i + 1 < L
      · exact step n4 i (ge_of (b := false) z2 q1 hvi) y
      · exact P2 i (Nat.le_of_not_lt y)
  have vm3 : v m3 = true := by
    rcases Nat.lt_or_eq_of_le hm3 with y | y
    · exact run3 m3 y (Nat.lt_succ_self _)
    · rw [← y]; exact c3
  refine ⟨_, E1.trans (congrArg (m1 :: ·) (fr_at (Nat.le_trans (Nat.le_of_succ_le a3) hm3) (Nat.lt_of_succ_lt hL3) (fun i q1 q2 => ?_) (P3 m3 vm3 hL3 vj3)))⟩
  cases hvi : v i with
  | false => exact P0 i hvi
  | true => exact step run3 i (ge_of (b := false) z2 q1 hvi) (Nat.succ_lt_succ q2)

theorem regs_is (w : List Nat) : regs (mkS w) w.length = ((nearP w : Int), (farP w : Int)) := by
  obtain ⟨v, hve⟩ : ∃ v : Nat → Bool, v = fun i => isVow (w.getD i 0) := ⟨_, rfl⟩
  have hv : ∀ i : Nat, vAt (mkS w) (i : Int) = v i := fun i => by rw [vAt_is w i, hve]
  have hn : ∀ i : Nat, (fun i => !vAt (mkS w) i) (i : Int) = !v i := fun i => by rw [← hv i]
  obtain ⟨P, hP⟩ : ∃ P : Nat → Bool, P = fun p => v p && closT w p := ⟨_, rfl⟩
  have hVP : vowsP w = fr v 0 w.length := by rw [vowsP_range, hve]
  have hCP : closP w = fr P 0 w.length := by rw [closP_range, hP, hve]
  have hC : ∀ p, closT w p = (decide (p + 1 < w.length) && !v (p + 1)) := fun p => by rw [hve]; rfl
  have P0 : ∀ p, v p = false → P p = false := fun p q => by rw [hP]; show (v p && _) = false; rw [q]; rfl
  have P1 : ∀ p, v (p + 1) = true → P p = false := fun p q => by rw [hP]; show (v p && closT w p) = false; rw [hC, q]; simp
  have P2 : ∀ p, w.length ≤ p + 1 → P p = false := fun p q => by rw [hP]; show (v p && closT w p) = false; rw [hC, decide_eq_false (Nat.not_lt.mpr q)]; simp
  have P3 : ∀ p, v p = true → p + 1 < w.length → v (p + 1) = false → P p = true := fun p q1 q2 q3 => by rw [hP]; show (v p && closT w p) = true; rw [hC, q1, q3, decide_eq_true q2]; rfl
  clear hve hP hC
  have len1 : ∀ m, closP w = [m] → farP w = w.length := fun m e => by unfold farP; rw [e]; rfl
  have len0 : closP w = [] → farP w = w.length := fun e => by unfold farP; rw [e]; rfl
  have len2 : ∀ m k r, closP w = m :: k :: r → farP w = k + 2 := fun m k r e => by unfold farP; rw [e]; exact if_pos (by simp)
  rw [hCP] at len0 len1 len2
  have near1 : ∀ f r, vowsP w = f :: r → nearP w = f + 1 := fun f r e => by unfold nearP; rw [e]; rfl
  have near0 : vowsP w = [] → nearP w = w.length := fun e => by unfold nearP; rw [e]; rfl
  rw [hVP] at near0 near1
  generalize w.length = L at *
  have sc : ∀ (p : Int → Bool) (a : Nat), scan p ((L : Int) - (a : Int)).toNat (a : Int) = scan p (L - a) (a : Int) := fun p a => by rw [Int.toNat_sub]
  have up : ∀ a : Nat, (a : Int) + 1 = ((a + 1 : Nat) : Int) := fun _ => rfl
  unfold regs
  have sc0 : scan (vAt (mkS w)) ((L : Int) - 0).toNat 0 = scan (vAt (mkS w)) (L - 0) ((0 : Nat) : Int) := sc _ 0
  rw [sc0]
  rcases scan_e (vAt (mkS w)) v hv (Nat.zero_le L) with ⟨f1, n1⟩ | ⟨f, e1, _, b1, c1, d1⟩
  · rw [if_pos f1, near0 (fr_none n1), len0 (fr_none fun i q1 q2 => P0 i (n1 i q1 q2))]
  have FI := far_is P0 P1 P2 P3 b1 c1 d1
  rw [e1, if_neg (by simp), near1 f _ (fr_at (Nat.zero_le f) b1 d1 c1)]
  dsimp only
  rw [up, sc]
  rcases scan_e (fun i => !vAt (mkS w) i) (fun i => !v i) hn b1 with ⟨f2, n2⟩ | ⟨j1, e2, a2, b2, c2, d2⟩
  · rw [if_pos f2, len0 (FI.1 fun i q1 q2 => by simpa using n2 i q1 q2)]
  obtain ⟨m1, rfl⟩ : ∃ m, j1 = m + 1 := ⟨j1 - 1, (Nat.succ_pred_eq_of_pos (Nat.lt_of_lt_of_le (Nat.succ_pos f) a2)).symm⟩
  have FI := FI.2 m1 (Nat.le_of_succ_le_succ a2) b2 (fun i q1 q2 => by simpa using d2 i q1 q2) (by simpa using c2)
  rw [e2, if_neg (by simp)]
  dsimp only
  rw [up, sc]
  rcases scan_e (vAt (mkS w)) v hv b2 with ⟨f3, n3⟩ | ⟨j2, e3, a3, b3, c3, d3⟩
  · rw [if_pos f3, len1 _ (FI.1 n3)]
  have FI := FI.2 j2 a3 b3 c3 d3
  rw [e3, if_neg (by simp)]
  dsimp only
  rw [up, sc]
  rcases scan_e (fun i => !vAt (mkS w) i) (fun i => !v i) hn b3 with ⟨f4, n4⟩ | ⟨j3, e4, a4, b4, c4, d4⟩
  · rw [if_pos f4, len1 _ (FI.1 fun i q1 q2 => by simpa using n4 i q1 q2)]
  obtain ⟨m3, rfl⟩ : ∃ m, j3 = m + 1 := ⟨j3 - 1, (Nat.succ_pred_eq_of_pos (Nat.lt_of_lt_of_le (Nat.succ_pos j2) a4)).symm⟩
  obtain ⟨r, er⟩ := FI.2 m3 (Nat.le_of_succ_le_succ a4) b4 (fun i q1 q2 => by simpa using d4 i q1 q2) (by simpa using c4)
  rw [e4, if_neg (by simp), len2 _ _ _ er]
  rfl
end Mine

end

-- P4
section
namespace Mine

theorem endT_app (p t : List Nat) : endT (p ++ t) p.length = t.reverse := by
  unfold endT; rw [List.drop_left]
theorem take_app (p t : List Nat) {n : Nat} (h : n ≤ t.length) : (p ++ t).take ((p ++ t).length - n) = p ++ t.take (t.length - n) := by
  rw [List.length_append, show p.length + t.length - n = p.length + (t.length - n) by omega, List.take_append]
  rw [List.take_of_length_le (by omega), show p.length + (t.length - n) - p.length = t.length - n by omega]

/-- a table of bound (1) and free endings -/
noncomputable def kindOk (T : List Row) (A : List (List Nat)) : Bool := T.all fun r => r.2.2 != 0 && ((r.2.2 == 1) == A.contains r.1.cps.toList)
noncomputable def freeOk (T : List Row) : Bool := T.all fun r => r.2.2 != 0
theorem kindOk_at {T : List Row} {A : List (List Nat)} (h : kindOk T A = true) {k : Nat} (hk : k < T.length) : vR T k ≠ 0 ∧ (vR T k = 1 ↔ A.contains (rowN T k) = true) := by
  have := List.all_eq_true.mp h _ (getD_mem hk)
  simp only [Bool.and_eq_true, bne_iff_ne, beq_iff_eq] at this
  refine ⟨this.1, ?_⟩
  have h2 := this.2
  unfold vR rowN
  rw [← h2, beq_iff_eq]
theorem freeOk_at {T : List Row} (h : freeOk T = true) {k : Nat} (hk : k < T.length) : vR T k ≠ 0 := by
  have := List.all_eq_true.mp h _ (getD_mem hk)
  unfold vR
  simpa using this

theorem app_getD (p t : List Nat) {m : Nat} (h : 0 < m) : (p ++ t).getD (p.length + m - 1) 0 = t.getD (m - 1) 0 := by
  rw [List.getD_eq_getElem?_getD, List.getD_eq_getElem?_getD, List.getElem?_append_right (by omega), show p.length + m - 1 - p.length = m - 1 by omega]
theorem take_getD (t : List Nat) {m i : Nat} (h : i < m) : (t.take m).getD i 0 = t.getD i 0 := by
  rw [List.getD_eq_getElem?_getD, List.getD_eq_getElem?_getD, List.getElem?_take_of_lt h]
theorem endsP_one (t : List Nat) (c : Nat) : endsP t [c] = (decide (0 < t.length) && t.getD (t.length - 1) 0 == c) := by
  rw [Bool.eq_iff_iff, endsP_suf, suf_one, Bool.and_eq_true, decide_eq_true_eq, beq_iff_eq]
theorem preAY_is (p t : List Nat) {m : Nat} (h : m ≤ t.length) : preAY (p ++ t) p.length (p.length + m) = endsAY (t.take m) := by
  have e1 := endsP_one (t.take m) 1072
  have e2 := endsP_one (t.take m) 1103
  have hl : (t.take m).length = m := by rw [List.length_take]; omega
  rw [hl] at e1 e2
  unfold endsP at e1 e2
  unfold preAY endsAY
  rw [e1, e2]
  by_cases q : 0 < m
  · rw [app_getD p t q, take_getD t (by omega), decide_eq_true q, decide_eq_true (by omega)]; simp
  · rw [decide_eq_false (by omega), decide_eq_false (by omega)]; simp

theorem delAY_is {T : List Row} {A B : List (List Nat)} (O : TabOk T) (H : Has T (A ++ B)) (K : kindOk T A = true) (p t : List Nat) : delAY T (p ++ t) p.length = (shorn t A B).map (p ++ ·) := by
  unfold delAY shorn
  rw [endT_app]
  dsimp only
  rcases fnd_lend O H t with ⟨h1, h2, _⟩ | ⟨k, hk, h1, h2, h3, h4, _⟩
  · rw [h1, h2, if_pos (.inl rfl), if_pos (.inl rfl)]; rfl
  · rw [← h1] at h2 ⊢
    rw [h4]
    obtain ⟨k1, k2⟩ := kindOk_at K hk
    have hl := h3.1
    dsimp only
    have e : (p ++ t).length - (rowN T k).length = p.length + (t.length - (rowN T k).length) := by rw [List.length_append]; omega
    by_cases q : A.contains (rowN T k) = true ∧ endsAY (t.take (t.length - (rowN T k).length)) = false
    · rw [if_pos (.inr ⟨k2.mpr q.1, by rw [e, preAY_is p t (by omega)]; exact q.2⟩), if_pos (.inr q)]; rfl
    · rw [if_neg (show ¬ _ from fun z => z.elim k1 fun z => q ⟨k2.mp z.1, by rw [e, preAY_is p t (by omega)] at z; exact z.2⟩), if_neg (show ¬ _ from fun z => z.elim h2 q), take_app p t hl]; rfl
theorem delX_is {T : List Row} {A B : List (List Nat)} (O : TabOk T) (hA : A = []) (H : Has T (A ++ B)) (K : freeOk T = true) (p t : List Nat) : delX T (p ++ t) p.length = (shorn t A B).map (p ++ ·) := by
  unfold delX shorn
  rw [endT_app]
  dsimp only
  rcases fnd_lend O H t with ⟨h1, h2, _⟩ | ⟨k, hk, h1, h2, h3, h4, _⟩
  · rw [h1, h2, if_pos rfl, if_pos (.inl rfl)]; rfl
  · rw [← h1] at h2 ⊢
    rw [h4]
    have k1 := freeOk_at K hk
    have hl := h3.1
    dsimp only
    rw [if_neg k1, if_neg (show ¬ _ from fun z => z.elim h2 fun z => by rw [hA] at z; cases z.1), take_app p t hl]; rfl

theorem has0 : Has (amRows (cS 6 13)) (gerA ++ gerB) := has_of (by decide +kernel)
theorem has1 : Has (amRows (cS 6 14)) (adjA ++ adjB) := has_of (by decide +kernel)
theorem has2 : Has (amRows (cS 6 15)) (partA ++ partB) := has_of (by decide +kernel)
theorem has3 : Has (amRows (cS 6 16)) (reflA ++ reflB) := has_of (by decide +kernel)
theorem has4 : Has (amRows (cS 6 17)) (verbA ++ verbB) := has_of (by decide +kernel)
theorem has5 : Has (amRows (cS 6 18)) (nounA ++ nounB) := has_of (by decide +kernel)
theorem has6 : Has (amRows (cS 6 19)) (derA ++ derB) := has_of (by decide +kernel)
noncomputable def tidE : List (List Nat) := [[1077, 1081, 1096, 1077], [1085], [1077, 1081, 1096], [1100]]
theorem has7 : Has (amRows (cS 6 20)) tidE := has_of (by decide +kernel)
theorem kd_0 : kindOk (amRows (cS 6 13)) gerA = true := by decide +kernel
theorem kd_2 : kindOk (amRows (cS 6 15)) partA = true := by decide +kernel
theorem kd_4 : kindOk (amRows (cS 6 17)) verbA = true := by decide +kernel
theorem fr_1 : freeOk (amRows (cS 6 14)) = true := by decide +kernel
theorem fr_3 : freeOk (amRows (cS 6 16)) = true := by decide +kernel
theorem fr_5 : freeOk (amRows (cS 6 18)) = true := by decide +kernel
theorem fr_6 : freeOk (amRows (cS 6 19)) = true := by decide +kernel

theorem getD_map (p t : List Nat) (o : Option (List Nat)) : (o.map (p ++ ·)).getD (p ++ t) = p ++ o.getD t := by cases o <;> rfl
theorem mainX_is (p t : List Nat) : mainX (p ++ t) p.length = p ++ firstL t := by
  unfold mainX firstL
  rw [delAY_is (tabOk_of ok0) has0 kd_0 p t]
  cases e0 : shorn t gerA gerB with
  | some r => rfl
  | none =>
    rw [delX_is (A := reflA) (B := reflB) (tabOk_of ok3) rfl has3 fr_3 p t]
    simp only [Option.map_none]
    rw [getD_map]
    generalize (shorn t reflA reflB).getD t = u
    rw [delX_is (A := adjA) (B := adjB) (tabOk_of ok1) rfl has1 fr_1 p u]
    cases e1 : shorn u adjA adjB with
    | some r =>
      simp only [Option.map_some]
      rw [delAY_is (tabOk_of ok2) has2 kd_2 p r, getD_map]
    | none =>
      simp only [Option.map_none]
      rw [delAY_is (tabOk_of ok4) has4 kd_4 p u]
      cases e2 : shorn u verbA verbB with
      | some r => rfl
      | none =>
        simp only [Option.map_none]
        rw [delX_is (A := nounA) (B := nounB) (tabOk_of ok5) rfl has5 fr_5 p u, getD_map]
theorem iX_is (p t : List Nat) : iX (p ++ t) p.length = p ++ tail1 t := by
  unfold iX tail1 isI
  rw [endsP_one]
  have e : (decide (p.length < (p ++ t).length) && (p ++ t).getD ((p ++ t).length - 1) 0 == 1080) = (decide (0 < t.length) && t.getD (t.length - 1) 0 == 1080) := by
    rw [List.length_append]
    by_cases q : 0 < t.length
    · rw [app_getD p t q, decide_eq_true q, decide_eq_true (by omega)]
    · rw [decide_eq_false (by omega), decide_eq_false (by omega)]; rfl
  rw [e]
  split
  · rename_i h
    have : 0 < t.length := by
      rw [Bool.and_eq_true] at h; exact of_decide_eq_true h.1
    rw [take_app p t (by omega)]
  · rfl
theorem derX_is (p t : List Nat) (far : Nat) : derX (p ++ t) p.length (far : Int) = p ++ tail2 p.length far t := by
  have h := delX_is (A := derA) (B := derB) (tabOk_of ok6) rfl has6 fr_6 p t
  unfold derX tail2
  unfold delX at h
  have hle := fnd_le (amRows (cS 6 19)) (endT (p ++ t) p.length)
  have hll : (endT (p ++ t) p.length).length = t.length := by rw [endT_app, List.length_reverse]
  rw [hll] at hle
  generalize fnd (amRows (cS 6 19)) (endT (p ++ t) p.length) = nr at h hle ⊢
  by_cases q : nr.2 = 0
  · rw [if_pos q] at h
    rw [if_pos (.inl q)]
    cases e : shorn t derA derB with
    | none => rfl
    | some r => rw [e] at h; cases h
  · rw [if_neg q] at h
    cases e : shorn t derA derB with
    | none => rw [e] at h; cases h
    | some r =>
      rw [e] at h
      have h : (p ++ t).take ((p ++ t).length - nr.1) = p ++ r := Option.some.inj h
      have hr := shorn_len e
      have hl := congrArg List.length h
      rw [List.length_take, List.length_append, List.length_append] at hl
      dsimp only
      by_cases z : far ≤ p.length + r.length
      · rw [if_pos z, if_neg, h]
        rintro (y | y)
        · exact q y
        · rw [List.length_append] at y; omega
      · rw [if_neg z]
        rw [if_pos]
        by_cases y : nr.1 ≤ t.length + p.length
        · refine .inr ?_
          rw [List.length_append]; omega
        · refine .inr ?_
          rw [List.length_append]; omega
end Mine

end

-- P5
section
namespace Mine

theorem isN_is (p t : List Nat) {m : Nat} (h : m ≤ t.length) : isN (p ++ t) p.length (p.length + m) = endsP (t.take m) [1085] := by
  rw [endsP_one]
  have hl : (t.take m).length = m := by rw [List.length_take]; omega
  rw [hl]
  unfold isN
  by_cases q : 0 < m
  · rw [app_getD p t q, take_getD t (by omega), decide_eq_true q, decide_eq_true (by omega)]
  · rw [decide_eq_false (by omega), decide_eq_false (by omega)]; rfl
theorem isN_zero (x : List Nat) (lb m : Nat) (h : m ≤ lb) : isN x lb m = false := by
  unfold isN; rw [decide_eq_false (by omega)]; rfl
theorem suf_app {e t : List Nat} : Suf e t ↔ ∃ p, t = p ++ e := by
  constructor
  · rintro ⟨h1, h2⟩
    refine ⟨t.take (t.length - e.length), ?_⟩
    conv => lhs; rw [← List.take_append_drop (t.length - e.length) t]
    rw [h2]
  · rintro ⟨p, rfl⟩
    unfold Suf
    rw [List.length_append, Nat.add_sub_cancel, List.drop_left]
    exact ⟨Nat.le_add_left _ _, rfl⟩
theorem ends_two (r : List Nat) : endsP r [1085, 1085] = (endsP r [1085] && endsP (r.take (r.length - 1)) [1085]) := by
  rw [Bool.eq_iff_iff, Bool.and_eq_true, endsP_suf, endsP_suf, endsP_suf, suf_app, suf_app, suf_app, ← List.dropLast_eq_take]
  constructor
  · rintro ⟨p, rfl⟩
    have e : p ++ [1085, 1085] = (p ++ [1085]) ++ [1085] := by simp
    rw [e, List.dropLast_concat]
    exact ⟨⟨_, rfl⟩, ⟨_, rfl⟩⟩
  · rintro ⟨⟨q, rfl⟩, ⟨p, e⟩⟩
    rw [List.dropLast_concat] at e
    subst e
    exact ⟨p, by simp⟩

theorem highSix : ∀ e ∈ highA ++ highB, e.length ≤ 6 := by decide
theorem shorn_high {t e : List Nat} (he : e ∈ highA ++ highB) (hne : e ≠ []) (hs : Suf e t) (hm : ∀ e' ∈ highA ++ highB, Suf e' t → e'.length ≤ e.length) : shorn t highA highB = some (t.take (t.length - e.length)) := by
  unfold shorn
  dsimp only
  rcases lend_is t (highA ++ highB) highSix with ⟨h1, h2⟩ | ⟨h1, h2, h3, h4⟩
  · exact absurd hs (h2 e he hne)
  · have l1 := h4 e he hs
    have l2 := hm _ h2 h3
    have : lend t (highA ++ highB) (min 6 t.length) = e := by
      rw [← h3.2, show (lend t (highA ++ highB) (min 6 t.length)).length = e.length by omega]
      exact hs.2
    rw [this, if_neg]
    rintro (z | z)
    · exact hne z
    · cases z.1
theorem shorn_nohigh {t : List Nat} (h : ∀ e ∈ highA ++ highB, ¬ Suf e t) : shorn t highA highB = none := by
  unfold shorn
  dsimp only
  rcases lend_is t (highA ++ highB) highSix with ⟨h1, h2⟩ | ⟨h1, h2, h3, h4⟩
  · rw [h1, if_pos (.inl rfl)]
  · exact absurd h3 (h _ h2)
theorem highSub : ∀ e ∈ highA ++ highB, e ∈ tidE ∧ 3 ≤ e.length := by decide
theorem suf_last {t : List Nat} {a b : Nat} (h1 : Suf [a] t) (h2 : Suf [b] t) : a = b := by
  rw [← ((suf_one t a).mp h1).2, ← ((suf_one t b).mp h2).2]

theorem row7 : (rowN (amRows (cS 6 20)) 0 = [1077, 1081, 1096, 1077] ∧ vR (amRows (cS 6 20)) 0 = 1) ∧ (rowN (amRows (cS 6 20)) 1 = [1085] ∧ vR (amRows (cS 6 20)) 1 = 2) ∧ (rowN (amRows (cS 6 20)) 2 = [1077, 1081, 1096] ∧ vR (amRows (cS 6 20)) 2 = 1) ∧
    (rowN (amRows (cS 6 20)) 3 = [1100] ∧ vR (amRows (cS 6 20)) 3 = 3) ∧ (amRows (cS 6 20)).length = 4 := by decide +kernel

/-- the highest degree's ending off, and a doubled н behind it -/
theorem tid_high (p t e : List Nat) (he : e ∈ highA ++ highB) (hne : e ≠ []) (hs : Suf e t) (hm : ∀ e' ∈ highA ++ highB, Suf e' t → e'.length ≤ e.length) : tidyX (p ++ t) p.length e.length 1 = p ++ tail3 t := by
  unfold tail3
  rw [shorn_high he hne hs hm]
  obtain ⟨m, hme⟩ : ∃ m, m = t.length - e.length := ⟨_, rfl⟩
  have hle : m ≤ t.length := hme ▸ Nat.sub_le _ _
  have e1 : (p ++ t).length - e.length = p.length + m := by rw [List.length_append, hme, Nat.add_sub_assoc hs.1]
  have cut : ∀ m, m ≤ t.length → (p ++ t).take (p.length + m) = p ++ t.take m := fun m h => by
    rw [List.take_append, List.take_of_length_le (Nat.le_add_right _ _), Nat.add_sub_cancel_left]
  unfold tidyX
  rw [if_neg (by decide), if_pos rfl, e1, ← hme]
  show _ = p ++ (if (endsP (t.take m) [1085, 1085] || (false && _)) = true then (t.take m).take ((t.take m).length - 1) else t.take m)
  rw [Bool.false_and, Bool.or_false, ends_two, isN_is p t hle, List.length_take, Nat.min_eq_left hle]
  cases m with
  | zero =>
    have e3 : endsP (t.take 0) [1085] = false := by rw [endsP_one]; rfl
    rw [e3, Bool.false_and, Bool.false_and, if_neg (by decide), if_neg (by decide), cut 0 hle]
  | succ k =>
    have hk : k ≤ t.length := Nat.le_of_succ_le hle
    have e3 : (t.take (k + 1)).take (k + 1 - 1) = t.take k := by rw [List.take_take, Nat.add_sub_cancel, Nat.min_eq_left (Nat.le_succ k)]
    rw [show p.length + (k + 1) - 1 = p.length + k from rfl, isN_is p t hk, e3]
    split
    · rw [cut _ hk]
    · rw [cut _ hle]

theorem tidX_is (p t : List Nat) : tidX (p ++ t) p.length = p ++ tail3 t := by
  obtain ⟨⟨r0, v0⟩, ⟨r1, v1⟩, ⟨r2, v2⟩, ⟨r3, v3⟩, hlen⟩ := row7
  unfold tidX
  rw [endT_app]
  rcases fnd_lend (tabOk_of ok7) has7 t with ⟨h1, h2, h3⟩ | ⟨k, hk, h1, h2, h3, h4, h5⟩
  · rw [h2]
    have n1 : endsP t [1085] = false := by
      rw [← Bool.not_eq_true, endsP_suf]; exact h3 _ (by decide)
    have n2 : endsP t [1100] = false := by
      rw [← Bool.not_eq_true, endsP_suf]; exact h3 _ (by decide)
    unfold tail3
    rw [shorn_nohigh fun e he => h3 e (highSub e he).1]
    show tidyX (p ++ t) p.length 0 0 = p ++ (if (endsP t [1085, 1085] || (true && endsP t [1100])) = true then _ else t)
    rw [ends_two, n1, n2]
    rfl
  · rw [h4]
    rw [hlen] at hk
    have no1 : (rowN (amRows (cS 6 20)) k).length = 1 → shorn t highA highB = none := fun q => shorn_nohigh fun e he hs => by
      have := h5 e (highSub e he).1 hs
      have := (highSub e he).2
      omega
    have cut1 : 0 < t.length → (p ++ t).take ((p ++ t).length - 1) = p ++ t.take (t.length - 1) := fun h => take_app p t (by omega)
    match k, hk with
    | 0, _ =>
      rw [r0] at h3 h5 ⊢
      rw [v0]
      exact tid_high p t _ (by decide) (by decide) h3 fun e he hs => h5 e (highSub e he).1 hs
    | 2, _ =>
      rw [r2] at h3 h5 ⊢
      rw [v2]
      exact tid_high p t _ (by decide) (by decide) h3 fun e he hs => h5 e (highSub e he).1 hs
    | 1, _ =>
      have no := no1 (by rw [r1]; rfl)
      rw [r1] at h3 h5 ⊢
      rw [v1]
      have hp : 0 < t.length := ((suf_one t _).mp h3).1
      have n2 : endsP t [1100] = false := by
        rw [← Bool.not_eq_true, endsP_suf]
        intro z
        have := suf_last h3 z
        cases this
      have n1 : endsP t [1085] = true := (endsP_suf _ _).mpr h3
      unfold tail3
      rw [no]
      show tidyX (p ++ t) p.length 1 2 = p ++ (if (endsP t [1085, 1085] || (true && endsP t [1100])) = true then t.take (t.length - 1) else t)
      rw [ends_two, n1, n2, Bool.true_and, Bool.and_false, Bool.or_false]
      unfold tidyX
      rw [if_neg (by decide), if_neg (by decide), if_pos rfl, cut1 hp]
      have e1 : (p ++ t).length - 1 = p.length + (t.length - 1) := by rw [List.length_append]; omega
      rw [e1, isN_is p t (by omega)]
      split <;> rfl
    | 3, _ =>
      have no := no1 (by rw [r3]; rfl)
      rw [r3] at h3 h5 ⊢
      rw [v3]
      have hp : 0 < t.length := ((suf_one t _).mp h3).1
      have n1 : endsP t [1100] = true := (endsP_suf _ _).mpr h3
      unfold tail3
      rw [no]
      show tidyX (p ++ t) p.length 1 3 = p ++ (if (endsP t [1085, 1085] || (true && endsP t [1100])) = true then t.take (t.length - 1) else t)
      rw [n1, Bool.true_and, Bool.or_true, if_pos rfl]
      unfold tidyX
      rw [if_neg (by decide), if_neg (by decide), if_neg (by decide)]
      exact cut1 hp
    | n + 4, h => omega

theorem yo_is (x : List Nat) : yo x = yoMap x := by
  unfold yo yoMap
  congr 1
  funext c
  by_cases q : c = 1105
  · rw [if_pos q, if_pos (by rw [q]; rfl)]
  · rw [if_neg q, if_neg (by simpa using q)]

/-- the plain law -/
theorem stem_law (x : List Nat) : stemL x = lawL x := by
  unfold stemL lawL
  rw [yo_is]
  generalize yoMap x = w
  dsimp only
  rw [regs_is]
  have hn := nearP_le w
  dsimp only
  rw [Int.toNat_natCast]
  unfold lawW
  have hw : w = w.take (nearP w) ++ w.drop (nearP w) := (List.take_append_drop _ _).symm
  have hp : (w.take (nearP w)).length = nearP w := by rw [List.length_take]; omega
  generalize farP w = far
  generalize hq : w.take (nearP w) = p at hw hp
  generalize w.drop (nearP w) = t at hw ⊢
  generalize nearP w = n at hp hq ⊢
  subst hp
  rw [hw, mainX_is, iX_is, derX_is, tidX_is]
end Mine

end

-- X31
section
namespace Mine

/-- a block that ends by returning True -/
noncomputable def LB (F : Fi) (b : List Stmt) (σ : St) : Prop :=
  ∀ c : Cx, c.Ok F → ∀ s, Rel c σ s → wpAny (model pw c.g.w) c.A (execs b c.env) (fun f s' => f = .ret (.bool true) ∧ s'.gens = #[] ∧ c.g.base.StaysIn s'.heap ∧ s'.os = c.g.os) (fun _ _ => False) s

section
variable {F : Fi} {σ : St}
theorem LB_ret {b : List Stmt} (h : HB F b σ (fun φ _ => φ = .ret (.bool true))) : LB F b σ := fun c O s R => by
  refine wpAny_mono (h c O s R) (fun f s' zz => ?_) fun x s' ⟨e, i, σ', _, _, _, _, q⟩ => by cases q
  obtain ⟨φ, σ', R', X', fr, q⟩ := zz
  subst q
  cases f with
  | ret pv =>
    have fr : VR c.g s'.heap (.bool true) pv := fr
    cases fr
    exact ⟨rfl, R'.gens, R'.base, R'.os⟩
  | _ => exact fr.elim
noncomputable def KL (F : Fi) (rest : List Stmt) (φ : Fl) (σ : St) : Prop := match φ with | .next => LB F rest σ | _ => False
theorem LB_cons {st : Stmt} {rest : List Stmt} (h : HS F st σ (KL F rest)) : LB F (st :: rest) σ := fun c O s R => by
  refine wpAny_execs_cons (wpAny_mono (h c O s R) (fun f s' zz => ?_) fun x s' ⟨e, i, σ', _, _, _, _, q⟩ => q.elim)
  obtain ⟨φ, σ', R', X', fr, q⟩ := zz
  cases f <;> cases φ <;> first
    | exact fr.elim
    | exact q.elim
    | exact q c O s' R'
theorem LB_sub {b : List Stmt} {loc : List (Str × V)} (s : Sub loc σ.loc) (h : LB F b ⟨loc, σ.ob⟩) : LB F b σ := fun c O s' R => h c O s' (R.weaken fun y v e => s.get e)

/-- a value that names no address but its own list's -/
noncomputable def flatV : V → Bool
  | .list l => l.all atom
  | v => atom v
theorem VR.flat {g g' : Gx} {h h' : Heap} (k : ∀ b o, h.get? b = some o → h'.get? b = some o) (hD : h.get? g'.D = Option.none) {v : V} {pv : Value} (hf : flatV v = true) (x : VR g h v pv) : VR g' h' v pv := by
  have at_ : ∀ {v : V} {pv : Value}, atom v = true → VR g h v pv → VR g' h' v pv := by
    intro v pv ha x
    cases x with
    | int i t => exact .int i t
    | str s t => exact .str s t
    | bool b => exact .bool b
    | none => exact .none
    | _ => cases ha
  cases v with
  | list l =>
    cases x with
    | @list a o items n _ ho hc hd hDa hl kk =>
      refine .list (k _ _ ho) hc hd (fun q => ?_) hl fun j v pv a b => at_ (List.all_eq_true.mp hf v (List.mem_of_getElem? a)) (kk j v pv a b)
      rw [q, hD] at ho; cases ho
  | int i => exact at_ rfl x
  | str i => exact at_ rfl x
  | bool i => exact at_ rfl x
  | none => exact at_ rfl x
  | _ => cases hf

noncomputable def noCell (sc : Scope) : Bool := sc.names.all fun z => z.2 != .cell && z.2 != .free
theorem noCell_at {sc : Scope} (h : noCell sc = true) {x : Str} : sc.names.lookup x ≠ some .cell ∧ sc.names.lookup x ≠ some .free := by
  constructor <;> intro e <;> have := List.all_eq_true.mp h _ (mem_of_lookup e) <;> simp at this

/-- the frame's context with another changing object -/
noncomputable def Cx.to (c : Cx) (k : Kd) (X D : Addr) : Cx := { c with g := { c.g with k := k, X := X, D := D } }
theorem Cx.to_ok {c : Cx} (O : c.Ok F) {s : Heap} (hb : c.g.base.StaysIn s) (hfr : s.FunFrames c.g.base c.stk) (hown : ∀ b ∈ c.own, ∃ o, s.get? b = some o ∧ isDC o.data = true) (hnc : noCell F.sc = true) {k : Kd} {X D : Addr}
    (hDb : c.g.base.get? D = none) (hDo : D ∉ c.own) (hDf : ∀ e ∈ c.stk, e.frame ≠ some D) : (c.to k X D).Ok { F with k := k } := by
  have nk : ∀ x, c.env.kindOf x ≠ some .cell ∧ c.env.kindOf x ≠ some .free := fun x => by
    unfold Env.kindOf; rw [O.sc]; exact noCell_at hnc
  refine ⟨⟨O.g.K, O.g.T, fun _ => hDb, fun a items e q => ?_⟩, O.fr, O.hd, O.dp, O.un, O.sc, O.kd, O.gl, O.bu, rfl, O.frm, O.cel, fun x a h => ?_, O.ownL, hDo, O.ownB, hDf⟩
  · have q : a = D := q
    have e : listAt (KF c.g.w.params) a = some items := e
    unfold listAt at e
    split at e
    · rename_i z
      have := O.g.K _ _ z
      rw [q] at this
      rw [hDb] at this; cases this
    · cases e
  · rcases h with h | h
    · exact absurd h (nk x).1
    · exact absurd h (nk x).2
theorem Rel.to {c : Cx} {s : Shared} (R : Rel c σ s) {k : Kd} {X D : Addr} {loc : List (Str × V)} {ob : List (Str × V)}
    (hloc : ∀ m, (∀ x v, σ.loc.lookup x = some v → LocAt c s.heap m x v) → ∀ x v, loc.lookup x = some v → LocAt (c.to k X D) s.heap m x v) (or : OR (c.to k X D).g s.heap ob) : Rel (c.to k X D) ⟨loc, ob⟩ s := by
  obtain ⟨m, hm, hl⟩ := R.loc
  exact ⟨R.base, R.fn, ⟨m, hm, hloc m hl⟩, R.own, or, R.gens, R.os⟩

theorem not_frame {c : Cx} {s : Heap} (hfr : s.FunFrames c.g.base c.stk) {D : Addr} (h : s.get? D = none) : ∀ e ∈ c.stk, e.frame ≠ some D := fun e he q => by
  obtain ⟨_, o, ho, _⟩ := hfr.mem (b := D) (List.mem_filterMap.mpr ⟨e, he, q⟩)
  rw [h] at ho; cases ho
theorem not_own {c : Cx} {s : Heap} (hown : ∀ b ∈ c.own, ∃ o, s.get? b = some o ∧ isDC o.data = true) {D : Addr} (h : s.get? D = none) : D ∉ c.own := fun hm => by
  obtain ⟨o, ho, _⟩ := hown D hm
  rw [h] at ho; cases ho
theorem not_base {c : Cx} {s : Heap} (hb : c.g.base.StaysIn s) {D : Addr} (h : s.get? D = none) : c.g.base.get? D = none := by
  cases q : c.g.base.get? D with
  | none => rfl
  | some o => have := hb _ _ q; rw [h] at this; cases this

/-- words = [''] -/
theorem LB_words {rest : List Stmt} {loc : List (Str × V)} {p p2 p3 pos : Pos} {k2 : Nat} (hfn : F.fn = true) (hnc : noCell F.sc = true) (hx : F.sc.names.lookup ("words" : Str) = some .local) (hs : Sub loc σ.loc) (hf : loc.all (fun x => flatV x.2) = true)
    (h : LB { F with k := .words } rest ⟨setL "words" .words loc, wob [[]]⟩)
    (hsw : ∀ env, swapsWith (.List [.Constant (.str "") k2 p2] p3) (some (.Name "words" p)) pos.line env = pure false := by intro; rfl) : LB F (.Assign [.Name "words" p] (.List [.Constant (.str "") k2 p2] p3) pos :: rest) σ := fun c O s R => by
  have R : Rel c ⟨loc, σ.ob⟩ s := R.weaken fun y v e => hs.get e
  refine wpAny_execs_cons (wpAny_Assign_Name ?_ (hsw c.env))
  rw [arm_eval_List]
  have hA : HA F [.Constant (.str "") k2 p2] ⟨loc, σ.ob⟩ (fun vs σ' => vs = [sv []] ∧ σ' = ⟨loc, σ.ob⟩) := HA_cons (HE_str (HA_nil ⟨rfl, rfl⟩))
  refine wpAny_bind (wpAny_standAt (wpAny_bind (wpAny_mono (hA c O s p3 R) (fun pvs s' zz => ?_) fun _ _ z => z.elim)))
  obtain ⟨vs, σ', R', X', hv, e1, e2⟩ := zz
  subst e1 e2
  unfold newList
  refine wpAny_newObj_type ?_ (by show pvs.toArray.size ≤ sizeLine; rw [List.size_toArray, ← hv.length, sizeLine_eq]; decide)
  obtain ⟨D, hD⟩ : ∃ D, D = s'.heap.objs.size := ⟨_, rfl⟩
  have nD : s'.heap.get? D = none := Heap.get?_none_of_le (by omega)
  have kk : ∀ b o, s'.heap.get? b = some o → (s'.heap.push { cls := .type "list", data := .seq pvs.toArray }).get? b = some o := fun b o e => Heap.get?_push_of_some _ e
  have new : (s'.heap.push { cls := .type "list", data := .seq pvs.toArray }).get? D = some { cls := .type "list", data := .seq pvs.toArray } := by rw [hD]; exact Heap.get?_push_size _ rfl
  have M := (R'.kp O (.of_keeps kk) s'.drawn s'.toks).1
  have Ok' : (c.to .words c.g.X D).Ok { F with k := .words } := Cx.to_ok O R'.base R'.fn R'.own hnc (not_base R'.base nD) (not_own R'.own nD) (not_frame R'.fn nD)
  have R2 : Rel (c.to .words c.g.X D) ⟨loc, wob [[]]⟩ ⟨s'.heap.push { cls := .type "list", data := .seq pvs.toArray }, s'.gens, s'.drawn, s'.toks, s'.os⟩ := by
    obtain ⟨m, hm, hl⟩ := R'.loc
    refine ⟨M.base, M.fn, ⟨m, hm.keeps kk, fun x v e => ?_⟩, M.own, ?_, M.gens, M.os⟩
    · have hv0 : flatV v = true := List.all_eq_true.mp hf (x, v) (mem_of_lookup e)
      have y := hl x v e
      have hk1 : ∀ x, c.env.kindOf x ≠ some .cell ∧ c.env.kindOf x ≠ some .free := fun x => by
        unfold Env.kindOf; rw [O.sc]; exact noCell_at hnc
      unfold LocAt at y ⊢
      show match c.env.kindOf x with | _ => _
      split at y
      · rename_i z
        obtain ⟨pv, a, b⟩ := y
        have : (c.to .words c.g.X D).env.kindOf x = some .local := z
        rw [this]
        exact ⟨pv, a, b.flat kk nD hv0⟩
      · rename_i z; exact absurd z (hk1 x).1
      · rename_i z; exact absurd z (hk1 x).2
      · exact y.elim
    · show ∃ o items n, _
      refine ⟨_, pvs.toArray, 0, new, ⟨rfl, rfl⟩, rfl, ?_, wob_atom _⟩
      cases hv with
      | cons a b =>
        cases b
        cases a
        exact .cons (.str _ _) .nil
  refine store_local Ok' R2 (x := "words") (v := .words) hx (by rw [show Value.ref s'.heap.objs.size = Value.ref (c.to .words c.g.X D).g.D by rw [hD]; rfl]; exact .words) fun s₃ R₃ X₃ => ?_
  exact h _ Ok' s₃ R₃
end
end Mine

end

-- X32
section
namespace Mine

noncomputable def Sm0 : Sm := ⟨"", 0, 0, 0, 0, 0, none⟩
/-- set_current('') on a new stemmer -/
theorem set_current0 {d : Nat} (hd : d < 600) {Q : V → List (Str × V) → Prop} (h : Q .none Sm0.ob) : HC d .stem 42 [.self, .str ""] [] Q := by
  have hz : sizeLine = 16777216 := sizeLine_eq
  refine HC_body fn42 hd rfl (by rfl) ?_
  refine HB_cons (HS_setself rfl rfl rfl (HE_name (v := .str "") rfl rfl ⟨rfl, ⟨by decide, rfl⟩, ?_⟩))
  show HB _ _ ⟨_, [("current", .str "")]⟩ _
  refine HB_cons (HS_setself rfl rfl rfl (HE_int ⟨rfl, ⟨by decide, rfl⟩, ?_⟩))
  show HB _ _ ⟨_, [("current", .str ""), ("cursor", .int 0)]⟩ _
  refine HB_cons (HS_setself rfl rfl rfl (HE_len_str rfl (HE_self (v := .str "") rfl rfl rfl rfl rfl ⟨_, rfl, by rw [hz]; decide, rfl, ⟨by decide, rfl⟩, ?_⟩)))
  show HB _ _ ⟨_, [("current", .str ""), ("cursor", .int 0), ("limit", .int 0)]⟩ _
  refine HB_cons (HS_setself rfl rfl rfl (HE_int ⟨rfl, ⟨by decide, rfl⟩, ?_⟩))
  show HB _ _ ⟨_, [("current", .str ""), ("cursor", .int 0), ("limit", .int 0), ("limit_backward", .int 0)]⟩ _
  refine HB_cons (HS_setself rfl rfl rfl (HE_self (v := .int 0) rfl rfl rfl rfl rfl ⟨rfl, ⟨by decide, rfl⟩, ?_⟩))
  show HB _ _ ⟨_, [("current", .str ""), ("cursor", .int 0), ("limit", .int 0), ("limit_backward", .int 0), ("bra", .int 0)]⟩ _
  refine HB_cons (HS_setself rfl rfl rfl (HE_self (v := .int 0) rfl rfl rfl rfl rfl ⟨rfl, ⟨by decide, rfl⟩, ?_⟩))
  show HB _ _ ⟨_, [("current", .str ""), ("cursor", .int 0), ("limit", .int 0), ("limit_backward", .int 0), ("bra", .int 0), ("ket", .int 0)]⟩ _
  exact HB_nil h
theorem init_ {d : Nat} (hd : d < 500) {Q : V → List (Str × V) → Prop} (h : Q .none Sm0.ob) : HC d .stem 35 [.self] [] Q := by
  refine HC_body fn35 (by omega) rfl (by rfl) ?_
  refine HB_cons (HS_expr (HE_meth (fa := 42) (d := d + 1) rfl rfl rfl (fun P => by kernel_rfl) (Nat.le_refl _) (HA_cons (HE_str (HA_nil (set_current0 (by omega) ⟨trivial, ?_⟩))))))
  exact HB_nil h

theorem VRs.at {g : Gx} {h : Heap} {vs : List V} {pvs : List Value} (x : VRs g h vs pvs) : ∀ (j : Nat) v pv, vs[j]? = some v → pvs[j]? = some pv → VR g h v pv := by
  induction x with
  | nil => intro j v pv a; cases a
  | cons a _ ih =>
    intro j v pv p q
    cases j with
    | zero => cases p; cases q; exact a
    | succ j => exact ih j v pv (by simpa using p) (by simpa using q)

theorem mk_ok (P : Params) : makesIn (KF P) 710 = true ∧ findIn (KF P) (.ref 710) "__init__" = some (some (.ref 35)) ∧ typeIn (KF P) (.ref 35) = some (.type "function") ∧ keepIn (KF P) (.ref 710) = true := ⟨by kernel_rfl, by kernel_rfl, by kernel_rfl, by kernel_rfl⟩

section
variable {F : Fi} {σ : St}
/-- stemmer = RussianStemmer() -/
theorem LB_stem {rest : List Stmt} {l : List (List Nat)} {p p2 p3 pos : Pos} (hk : F.k = .words) (hfn : F.fn = true) (hnc : noCell F.sc = true) (hd : F.d < 400) (hx : F.sc.names.lookup ("stemmer" : Str) = some .local) (hR : F.sc.names.lookup ("RussianStemmer" : Str) = some .globalImplicit)
    (hwk : F.sc.names.lookup ("words" : Str) = some .local) (hw : σ.loc.lookup ("words" : Str) = some .words) (hob : σ.ob = wob l)
    (h : LB { F with k := .stem } rest ⟨[("words", svs l), ("stemmer", .self)], Sm0.ob⟩)
    (hsw : ∀ env, swapsWith (.Call (.Name "RussianStemmer" p2) [] [] p3) (some (.Name "stemmer" p)) pos.line env = pure false := by intro; rfl) : LB F (.Assign [.Name "stemmer" p] (.Call (.Name "RussianStemmer" p2) [] [] p3) pos :: rest) σ := fun c O s R => by
  obtain ⟨m1, m2, m3, m4⟩ := mk_ok c.g.w.params
  refine wpAny_execs_cons (wpAny_Assign_Name ?_ (hsw c.env))
  rw [arm_eval_Call_Name']
  refine wpAny_bind ?_
  have hkE : ∀ x, c.env.kindOf x = F.sc.names.lookup x := fun x => by unfold Env.kindOf; rw [O.sc]
  have hkf : c.env.scope.kind = .function := by rw [O.sc]; exact O.kd
  have hg : s.heap.Ns c.env.globals c.g.mg := by rw [O.gl]; exact O.g.T.g.keeps R.base
  refine Name_function_global hkf ((hkE _).trans hR) (loadGlobal_global hg (mg_of O.g.K O.g.T.g (v := .ref 710) (by kernel_rfl)) ?_) (by decide)
  refine callWith_A (first := []) O R m4 (by rfl) (HA_nil (Q := fun vs σ' => vs = [] ∧ σ' = σ) ⟨rfl, rfl⟩) fun vs σ' pvs s' R' X' hv ⟨e1, e2⟩ => ?_
  subst e1 e2
  cases hv
  obtain ⟨m, Fm, N, kk⟩ := R'.led
  refine wpAny_call (make_K Fm N (R'.K O) m1 m2 m3 fun x dx h' F' N' l1 l2 => ?_)
  have kp := kk h' F' fun p hp => N' p (.tail _ (.tail _ hp))
  have M := (R'.kp O kp s'.drawn s'.toks).1
  have hxo := (N' (x, _) (.head _)).1
  have hdo := (N' (dx, _) (.tail _ (.head _))).1
  have fresh : ∀ b o, s'.heap.get? b = some o → b ≠ c.env.locals → b < dx := fun b o e n => l1 (b, o) (mem_allBut.mpr ⟨e, n⟩)
  have nL : ∀ b, dx ≤ b → b ≠ c.env.locals → s'.heap.get? b = none := fun b hb n => by
    cases q : s'.heap.get? b with
    | none => rfl
    | some o => exact absurd (fresh b o q n) (Nat.not_lt.mpr hb)
  have nd : s'.heap.get? dx = none := nL dx (Nat.le_refl _) (N' (dx, _) (.tail _ (.head _))).2.1
  have O1 : (c.to .stem x dx).Ok { F with k := .stem } := Cx.to_ok O R'.base R'.fn R'.own hnc (not_base R'.base nd) (not_own R'.own nd) (not_frame R'.fn nd)
  have dD : c.g.D ≠ dx := fun q => by
    obtain ⟨o, ho⟩ := R'.ob.has
    rw [q, nd] at ho; cases ho
  have R1 : Rel (c.to .stem x dx) ⟨[("words", svs l)], []⟩ ⟨h', s'.gens, s'.drawn, s'.toks, s'.os⟩ := by
    refine M.to (fun m hl y v e => ?_) ?_
    · obtain ⟨rfl, rfl⟩ := Prod.mk.inj (List.mem_singleton.mp (mem_of_lookup e))
      have z := hl _ _ hw
      unfold LocAt at z ⊢
      rw [(hkE _).trans hwk] at z
      show match c.env.kindOf ("words" : Str) with | _ => _
      rw [show (c.to .stem x dx).env.kindOf ("words" : Str) = some .local from (hkE _).trans hwk]
      obtain ⟨pv, a, b⟩ := z
      refine ⟨pv, a, ?_⟩
      cases b
      obtain ⟨items, n, sl, h1, h2, h3⟩ := words_at O hk M hob
      refine .list h1 rfl rfl dD (by rw [h3]; simp) fun j v pv p q => ?_
      have zz := h2.at j v pv p (by simpa using q)
      rw [List.getElem?_map] at p
      obtain ⟨y, _, rfl⟩ := Option.map_eq_some_iff.mp p
      cases zz
      exact .str _ _
    · show OR ⟨_, _, _, _, _, _, .stem, _⟩ _ _
      exact ⟨⟨#[], #[], [], 0, hxo, hdo, .nil⟩, rfl⟩
  obtain ⟨c2, hc2⟩ : ∃ c2 : Cx, c2 = { c.to .stem x dx with A := c.A.under (.builtin "type.__call__" ⟨[.ref 710], []⟩) } := ⟨_, rfl⟩
  have O2 : c2.Ok ⟨F.sc, F.d + 1, F.fn, .stem⟩ := by
    subst hc2
    refine ⟨O1.g, O1.fr, O1.hd, ?_, ?_, O1.sc, O1.kd, O1.gl, O1.bu, rfl, O1.frm, O1.cel, O1.celD, O1.ownL, O1.nD, O1.ownB, O1.frD⟩
    · show c.A.depth + 1 ≤ F.d + 1
      have := O.dp; omega
    · show c.A.units + 1 ≤ 10 * (F.d + 1)
      have := O.un; omega
  have R2 : Rel c2 ⟨[("words", svs l)], []⟩ ⟨h', s'.gens, s'.drawn, s'.toks, s'.os⟩ := by
    subst hc2
    exact ⟨R1.base, R1.fn, R1.loc, R1.own, R1.ob, R1.gens, R1.os⟩
  have call := init_ (d := F.d + 1) (by omega) (Q := fun v ob' => v = .none ∧ ob' = Sm0.ob) ⟨rfl, rfl⟩ _ c2 O2 (Nat.le_refl _) rfl ⟨[("words", svs l)], []⟩ _ [.ref x] rfl R2 (.cons (by subst hc2; exact .self) .nil)
  rw [hc2] at call
  refine codeAny_mono call fun r s₃ ⟨pv, v, ob', er, R₃, X₃, vv, ev, eo⟩ => ?_
  subst er ev eo
  cases vv
  refine ⟨rfl, ?_⟩
  have R₃ : Rel (c.to .stem x dx) ⟨[("words", svs l)], Sm0.ob⟩ s₃ := ⟨R₃.base, R₃.fn, R₃.loc, R₃.own, R₃.ob, R₃.gens, R₃.os⟩
  refine store_local O1 R₃ (x := "stemmer") (v := .self) hx .self fun s₄ R₄ X₄ => ?_
  exact h _ O1 s₄ R₄
end
end Mine

end

-- X33
section
namespace Mine

noncomputable def kindsN : List (List (List Nat) × List (List Nat)) := [(gerA, gerB), (reflA, reflB), (adjA, adjB), (partA, partB), (verbA, verbB), (nounA, nounB), (derA, derB), (highA, highB)]
noncomputable def pieceN (i : Nat) : List (List Nat) := signN ++ (kindsN.take i).flatMap fun k => k.1 ++ k.2
noncomputable def kV (k : List (List Nat) × List (List Nat)) : V := .list [svs k.1, svs k.2]
theorem piece_succ {i : Nat} {k : List (List Nat) × List (List Nat)} (h : kindsN[i]? = some k) : pieceN (i + 1) = pieceN i ++ k.1 ++ k.2 := by
  unfold pieceN
  rw [List.take_add_one, h, List.flatMap_append]
  simp
theorem piece_len (i : Nat) : (pieceN i).length ≤ 1000 := by
  have : ∀ j, (pieceN j).length ≤ (pieceN 8).length := fun j => by
    unfold pieceN
    rw [List.length_append, List.length_append]
    have : ((kindsN.take j).flatMap fun k => k.1 ++ k.2).length ≤ (kindsN.flatMap fun k => k.1 ++ k.2).length := by
      rw [List.length_flatMap, List.length_flatMap]
      have := List.take_append_drop j kindsN
      conv => rhs; rw [← this]
      rw [List.map_append, List.sum_append]
      omega
    have e : kindsN.take 8 = kindsN := rfl
    rw [e]; omega
  have e : (pieceN 8).length ≤ 1000 := by decide +kernel
  exact Nat.le_trans (this i) e
theorem sign_nums : signs (tS 12) = signN.map mkS := by kernel_rfl
theorem HE_signs {F : Fi} {σ : St} {Q : V → St → Prop} {pos} (hx : F.sc.names.lookup ("_law_signs" : Str) = some .globalImplicit) (h : Q (svs signN) σ) : HE F (.Name "_law_signs" pos) σ Q :=
  HE_glob hx (fun P => by kernel_rfl) (fun g O => by
    have := strs_vr (a := 759) (l := signN.map mkS) (fun P => (kd12 P).trans (by rw [sign_nums])) g O
    unfold strsV at this
    rw [List.map_map] at this
    exact this) h

theorem svs_app (a b : List (List Nat)) : a.map sv ++ b.map sv = (a ++ b).map sv := List.map_append.symm

section
variable {F : Fi} {σ : St}
/-- pieces = pieces + kind[0] + kind[1] over the eight kinds -/
theorem law_pieces {ob : List (Str × V)} {script : V} (hfn : F.fn = true) (hsc : F.sc = fS (tS 25)) {Q : Fl → St → Prop}
    (h : ∀ σ, σ.ob = ob → Sub [("script", script), ("pieces", svs (pieceN 8))] σ.loc → Q .next σ) : HS F ((fB (tS 25)).getD 1 (.Pass ⟨0, 0, 0, 0⟩)) ⟨[("script", script), ("pieces", svs signN)], ob⟩ Q := by
  have hz : sizeLine = 16777216 := sizeLine_eq
  obtain ⟨sc, d, fn, k⟩ := F
  subst hsc
  refine HS_for_list hfn rfl (fun i σ => σ.ob = ob ∧ Sub [("script", script), ("pieces", svs (pieceN i))] σ.loc) ?_
  refine HE_list ?_
  refine HA_cons ?_
  refine HE_ger rfl ?_
  refine HA_cons ?_
  refine HE_refl rfl ?_
  refine HA_cons ?_
  refine HE_adj rfl ?_
  refine HA_cons ?_
  refine HE_part rfl ?_
  refine HA_cons ?_
  refine HE_verb rfl ?_
  refine HA_cons ?_
  refine HE_noun rfl ?_
  refine HA_cons ?_
  refine HE_der rfl ?_
  refine HA_cons ?_
  refine HE_high rfl ?_
  refine HA_nil ?_
  refine ⟨by decide, kindsN.map kV, rfl, ⟨rfl, rfl, rfl, trivial⟩, ?_, ?_⟩
  · rintro i σ u hu ⟨hob, hsub⟩
    rw [List.getElem?_map] at hu
    obtain ⟨kk, hkk, rfl⟩ := Option.map_eq_some_iff.mp hu
    have l1 := piece_len (i + 1)
    rw [piece_succ hkk] at l1
    rw [List.length_append, List.length_append] at l1
    refine HB_sub (loc := [("script", script), ("pieces", svs (pieceN i)), ("kind", kV kk)]) ⟨(lookup_setL _ _ _ _).trans hsub.1, (lookup_setL _ _ _ _).trans hsub.2.1, lookup_setL _ _ _ _, trivial⟩ ?_
    rw [hob]
    refine HB_cons ?_
    refine HS_assign rfl ?_
    refine HE_bin ?_
    refine HE_bin ?_
    refine HE_name (v := svs (pieceN i)) rfl rfl ?_
    refine HE_item ?_
    refine HE_name (v := kV kk) rfl rfl ?_
    refine HE_int ⟨_, 0, svs kk.1, rfl, rfl, by omega, by omega, rfl, ?_⟩
    refine ⟨by rw [List.length_map, List.length_map]; omega, ?_⟩
    refine HE_item ?_
    refine HE_name (v := kV kk) rfl rfl ?_
    refine HE_int ⟨_, 1, svs kk.2, rfl, rfl, by omega, by omega, rfl, ?_⟩
    refine ⟨by rw [List.length_append, List.length_map, List.length_map, List.length_map]; omega, ?_⟩
    refine HB_nil ⟨rfl, ?_⟩
    rw [svs_app, svs_app, ← piece_succ hkk]
    exact ⟨rfl, rfl, trivial⟩
  · rintro σ ⟨hob, hsub⟩
    exact h σ hob hsub

/-- the words so far -/
structure WOk (i : Nat) (ws : List (List Nat)) : Prop where
  ne : ws ≠ []
  four : ws.length ≤ 4
  len : ∀ w ∈ ws, w.length ≤ 6 * i
  ok : ∀ w ∈ ws, ∀ c ∈ w, c < 1114112
theorem WOk.zero : WOk 0 [[]] := ⟨by simp, by decide, fun w h => by rw [List.mem_singleton.mp h]; exact Nat.le_refl _, fun w h c hc => by rw [List.mem_singleton.mp h] at hc; cases hc⟩
theorem WOk.more {i : Nat} {ws : List (List Nat)} (h : WOk i ws) : WOk (i + 1) ws := ⟨h.ne, h.four, fun w m => Nat.le_trans (h.len w m) (by omega), h.ok⟩
theorem WOk.last {i : Nat} {init : List (List Nat)} {y : List Nat} (h : WOk i (init ++ [y])) {p : List Nat} (hp : p.length ≤ 6) (hc : ∀ c ∈ p, c < 1114112) : WOk (i + 1) (init ++ [y ++ p]) := by
  refine ⟨by simp, by have := h.four; simpa using this, fun w m => ?_, fun w m c hcm => ?_⟩
  · rcases List.mem_append.mp m with q | q
    · exact Nat.le_trans (h.len w (List.mem_append_left _ q)) (by omega)
    · have := h.len y (List.mem_append_right _ (.head _))
      rw [List.mem_singleton.mp q, List.length_append]; omega
  · rcases List.mem_append.mp m with q | q
    · exact h.ok w (List.mem_append_left _ q) c hcm
    · rw [List.mem_singleton.mp q] at hcm
      rcases List.mem_append.mp hcm with z | z
      · exact h.ok y (List.mem_append_right _ (.head _)) c z
      · exact hc c z
theorem WOk.app {i : Nat} {ws : List (List Nat)} (h : WOk i ws) (hl : ws.length < 4) : WOk (i + 1) (ws ++ [[]]) := by
  refine ⟨by simp, by rw [List.length_append]; show ws.length + 1 ≤ 4; omega, fun w m => ?_, fun w m c hcm => ?_⟩
  · rcases List.mem_append.mp m with q | q
    · exact Nat.le_trans (h.len w q) (by omega)
    · rw [List.mem_singleton.mp q]; exact Nat.zero_le _
  · rcases List.mem_append.mp m with q | q
    · exact h.ok w q c hcm
    · rw [List.mem_singleton.mp q] at hcm; cases hcm
theorem piece_ok : (pieceN 8).all (fun p => decide (p.length ≤ 6) && p.all fun c => decide (c < 1114112)) = true := by decide +kernel
theorem piece_at {p : List Nat} (h : p ∈ pieceN 8) : p.length ≤ 6 ∧ ∀ c ∈ p, c < 1114112 := by
  have := List.all_eq_true.mp piece_ok p h
  simp only [Bool.and_eq_true, decide_eq_true_eq, List.all_eq_true] at this
  exact this

noncomputable abbrev Nx (Q : St → Prop) : Fl → St → Prop := fun φ σ' => match φ with
  | .next => Q σ'
  | .cont => Q σ'
  | .brk => False
  | _ => False
/-- one number of the script -/
theorem law_turn {F : Fi} (hk : F.k = .words) (hfn : F.fn = true) (hsc : F.sc = fS (tS 25)) {i : Nat} {ws : List (List Nat)} (W : WOk i ws) (hi : i ≤ 100) (z : Int) {Q : Fl → St → Prop}
    (h : ∀ σ ws', WOk (i + 1) ws' → σ.ob = wob ws' → Sub [("pieces", svs (pieceN 8)), ("words", .words)] σ.loc → Q .next σ) :
    HB F (match (fB (tS 25)).getD 3 (.Pass ⟨0, 0, 0, 0⟩) with | .For _ _ b _ _ => b | _ => []) ⟨[("pieces", svs (pieceN 8)), ("words", .words), ("number", .int z)], wob ws⟩ Q := by
  have hz : sizeLine = 16777216 := sizeLine_eq
  obtain ⟨sc, d, fn, k⟩ := F
  subst hsc
  have hk : k = .words := hk
  subst hk
  have hP : (pieceN 8).length ≤ 174 := by decide +kernel
  obtain ⟨init, y, hw⟩ : ∃ init y, ws = init ++ [y] := by
    rcases List.eq_nil_or_concat ws with q | ⟨a, b, q⟩
    · exact absurd q W.ne
    · exact ⟨a, b, by simpa using q⟩
  have hy : y.length ≤ 600 := by
    have := W.len y (by rw [hw]; exact List.mem_append_right _ (.head _))
    omega
  refine HB_cons ?_
  refine HS_assign rfl ?_
  refine HE_bin ?_
  refine HE_name (v := .int z) rfl rfl ?_
  refine HE_int ?_
  refine ⟨by decide, ?_⟩
  obtain ⟨r, hr⟩ : ∃ r : Nat, z.fmod 180 = r := ⟨(z.fmod 180).toNat, by have := Int.fmod_nonneg_of_pos z (b := 180) (by decide); omega⟩
  rw [hr]
  have hr2 : r < 180 := by
    have := Int.fmod_lt_of_pos z (b := 180) (by decide)
    omega
  refine HB_cons ?_
  refine HS_if ?_
  refine HT_cmp ?_
  refine HE_name (v := .int r) rfl rfl ?_
  refine HE_len_list rfl ?_
  refine HE_name (v := svs (pieceN 8)) rfl rfl ?_
  refine ⟨_, rfl, by rw [List.length_map]; omega, ?_⟩
  refine ⟨_, rfl, ?_⟩
  rw [List.length_map]
  by_cases q : r < (pieceN 8).length
  · rw [decide_eq_true (by omega)]
    show HB _ _ _ _
    have pm := piece_at (List.getElem_mem q)
    refine HB_cons ?_
    refine HS_setlast rfl rfl ?_
    refine HE_bin ?_
    refine HE_last rfl rfl rfl (l := init) (y := y) (by rw [hw]) ?_
    refine HE_item ?_
    refine HE_name (v := svs (pieceN 8)) rfl rfl ?_
    refine HE_name (v := .int r) rfl rfl ?_
    refine ⟨_, r, sv (pieceN 8)[r], rfl, rfl, by omega, by omega, ?_, ?_⟩
    · rw [Int.toNat_natCast, List.getElem?_map, List.getElem?_eq_getElem q]; rfl
    refine ⟨by rw [mkS_len, mkS_len]; omega, ?_⟩
    refine ⟨init, y, y ++ (pieceN 8)[r], by rw [mkS_app], rfl, by rw [hw], ?_⟩
    refine HB_nil ?_
    refine HB_nil ?_
    exact h _ _ (WOk.last (hw ▸ W) pm.1 pm.2) rfl ⟨rfl, rfl, trivial⟩
  · rw [decide_eq_false (by omega)]
    show HB _ _ _ _
    refine HB_cons ?_
    refine HS_if ?_
    refine HT_cmp ?_
    refine HE_name (v := .int r) rfl rfl ?_
    refine HE_int ⟨_, rfl, ?_⟩
    by_cases q2 : (r : Int) < 174
    · rw [decide_eq_true q2]
      show HB _ _ _ _
      obtain ⟨c, hc⟩ : ∃ c : Nat, (z.fdiv 180).fmod 1280 = c := ⟨((z.fdiv 180).fmod 1280).toNat, by have := Int.fmod_nonneg_of_pos (z.fdiv 180) (b := 1280) (by decide); omega⟩
      have hc2 : c < 1280 := by
        have := Int.fmod_lt_of_pos (z.fdiv 180) (b := 1280) (by decide)
        omega
      refine HB_cons ?_
      refine HS_setlast rfl rfl ?_
      refine HE_bin ?_
      refine HE_last rfl rfl rfl (l := init) (y := y) (by rw [hw]) ?_
      refine HE_chr rfl ?_
      refine HE_bin ?_
      refine HE_bin ?_
      refine HE_name (v := .int z) rfl rfl ?_
      refine HE_int ?_
      refine ⟨by decide, PyProof.noPylong_small (by decide), ?_⟩
      refine HE_int ?_
      refine ⟨by decide, ?_⟩
      rw [hc]
      refine ⟨c, rfl, by omega, by omega, ?_⟩
      rw [Int.toNat_natCast]
      have e1 : (⟨#[c]⟩ : Str) = mkS [c] := rfl
      rw [e1]
      refine ⟨by rw [mkS_len, mkS_len]; show y.length + 1 ≤ _; omega, ?_⟩
      refine ⟨init, y, y ++ [c], by rw [mkS_app], rfl, by rw [hw], ?_⟩
      refine HB_nil ?_
      refine HB_nil ?_
      refine HB_nil ?_
      exact h _ _ (WOk.last (hw ▸ W) (by simp) (fun a m => by rw [List.mem_singleton.mp m]; omega)) rfl ⟨rfl, rfl, trivial⟩
    · rw [decide_eq_false q2]
      show HB _ _ _ _
      have h4 := W.four
      refine HB_cons ?_
      refine HS_if ?_
      refine HT_cmp ?_
      refine HE_len_words rfl rfl rfl rfl (l := ws) rfl (by omega) ?_
      refine HE_int ⟨_, rfl, ?_⟩
      by_cases q3 : ws.length < 4
      · rw [decide_eq_true (by omega)]
        show HB _ _ _ _
        refine HB_cons ?_
        refine HS_expr ?_
        refine HE_append rfl rfl rfl ?_
        refine HE_str ?_
        refine ⟨ws, [], rfl, by omega, rfl, trivial, ?_⟩
        refine HB_nil ?_
        refine HB_nil ?_
        refine HB_nil ?_
        refine HB_nil ?_
        exact h _ _ (W.app q3) rfl ⟨rfl, rfl, trivial⟩
      · rw [decide_eq_false (by omega)]
        show HB _ _ _ _
        refine HB_nil ?_
        refine HB_nil ?_
        refine HB_nil ?_
        refine HB_nil ?_
        exact h _ _ W.more rfl ⟨rfl, rfl, trivial⟩
end
end Mine

end

-- X34
section
namespace Mine

theorem flat_ints (ns : List Int) : flatV (intsV ns) = true := by
  show (ns.map V.int).all atom = true
  rw [List.all_eq_true]
  intro x hx
  obtain ⟨y, _, rfl⟩ := List.mem_map.mp hx
  rfl
theorem flat_svs (l : List (List Nat)) : flatV (svs l) = true := by
  show (l.map sv).all atom = true
  rw [List.all_eq_true]
  intro x hx
  obtain ⟨y, _, rfl⟩ := List.mem_map.mp hx
  rfl

/-! the letters of a stem -/
theorem yo_lt {x : List Nat} (h : ∀ c ∈ x, c < 1114112) : ∀ c ∈ yo x, c < 1114112 := fun c hc => by
  obtain ⟨a, ha, rfl⟩ := List.mem_map.mp hc
  split
  · decide
  · exact h a ha
theorem shorn_sub {t r : List Nat} {A B : List (List Nat)} (e : shorn t A B = some r) : ∀ c ∈ r, c ∈ t := by
  unfold shorn at e
  dsimp only at e
  split at e
  · cases e
  · cases e
    exact fun c hc => List.mem_of_mem_take hc
theorem getD_sub (t : List Nat) (A B : List (List Nat)) : ∀ c ∈ (shorn t A B).getD t, c ∈ t := by
  cases e : shorn t A B with
  | none => exact fun c hc => hc
  | some r => exact shorn_sub e
theorem first_sub (t : List Nat) : ∀ c ∈ firstL t, c ∈ t := by
  unfold firstL
  have h0 := getD_sub t reflA reflB
  cases e1 : shorn t gerA gerB with
  | some r => exact shorn_sub e1
  | none =>
    dsimp only
    generalize (shorn t reflA reflB).getD t = u at h0
    cases e2 : shorn u adjA adjB with
    | some r => exact fun c hc => h0 c (shorn_sub e2 c (getD_sub r partA partB c hc))
    | none =>
      dsimp only
      cases e3 : shorn u verbA verbB with
      | some r => exact fun c hc => h0 c (shorn_sub e3 c hc)
      | none => exact fun c hc => h0 c (getD_sub u nounA nounB c hc)
theorem law_sub (x : List Nat) : ∀ c ∈ lawL x, c ∈ yoMap x := by
  unfold lawL lawW
  generalize yoMap x = w
  intro c hc
  rcases List.mem_append.mp hc with q | q
  · exact List.mem_of_mem_take q
  · have h3 : ∀ t, ∀ c ∈ tail3 t, c ∈ t := fun t c hc => by
      unfold tail3 at hc
      dsimp only at hc
      have := getD_sub t highA highB
      split at hc
      · exact this c (List.mem_of_mem_take hc)
      · exact this c hc
    have h2 : ∀ n f t, ∀ c ∈ tail2 n f t, c ∈ t := fun n f t c hc => by
      unfold tail2 at hc
      cases e : shorn t derA derB with
      | none => rw [e] at hc; exact hc
      | some r =>
        rw [e] at hc
        dsimp only at hc
        split at hc
        · exact shorn_sub e c hc
        · exact hc
    have h1 : ∀ t, ∀ c ∈ tail1 t, c ∈ t := fun t c hc => by
      unfold tail1 at hc
      split at hc
      · exact List.mem_of_mem_take hc
      · exact hc
    exact List.mem_of_mem_drop (first_sub _ c (h1 _ c (h2 _ _ _ c (h3 _ c q))))
theorem stem_ok {x : List Nat} (h : ∀ c ∈ x, c < 1114112) : PyData.strOk (mkS (stemL x)) = true := by
  unfold PyData.strOk
  rw [stem_law]
  have : ∀ c ∈ lawL x, c < 0x110000 := fun c hc => yo_lt h c (by rw [yo_is]; exact law_sub x c hc)
  show (lawL x).toArray.all (fun x => decide (x < 0x110000)) = true
  simpa using this

theorem law_body {d : Nat} (hd : d < 360) (ns : List Int) (hns : ns.length ≤ 1000) : LB ⟨fS (tS 25), d, true, .non⟩ (fB (tS 25)) ⟨[("script", intsV ns)], []⟩ := by
  have hz : sizeLine = 16777216 := sizeLine_eq
  refine LB_cons ?_
  refine HS_assign rfl ?_
  refine HE_signs rfl ?_
  show LB _ _ _
  refine LB_sub (loc := [("script", intsV ns), ("pieces", svs signN)]) ⟨rfl, rfl, trivial⟩ ?_
  refine LB_cons ?_
  refine law_pieces rfl rfl ?_
  intro σ hob hsub
  show LB _ _ _
  refine LB_words (loc := [("script", intsV ns), ("pieces", svs (pieceN 8))]) rfl rfl rfl hsub ?_ ?_
  · rw [List.all_cons, List.all_cons, flat_ints, flat_svs]; rfl
  clear hsub hob
  refine LB_sub (loc := [("script", intsV ns), ("pieces", svs (pieceN 8)), ("words", .words)]) ⟨rfl, rfl, rfl, trivial⟩ ?_
  refine LB_cons ?_
  refine HS_for_list rfl rfl (fun i σ => ∃ ws, WOk i ws ∧ σ.ob = wob ws ∧ Sub [("pieces", svs (pieceN 8)), ("words", .words)] σ.loc) ?_
  refine HE_ls_upto ?_
  refine HE_name (v := intsV ns) rfl rfl ?_
  refine HE_int ?_
  refine ⟨ns.map .int, 32, rfl, rfl, by decide, by rw [List.length_map]; omega, ?_⟩
  refine ⟨_, rfl, ⟨[[]], WOk.zero, rfl, ⟨rfl, rfl, trivial⟩⟩, ?_, ?_⟩
  · rintro i σ u hu ⟨ws, W, hob, hsub⟩
    have hi : i < 32 := by
      have := (List.getElem?_eq_some_iff.mp hu).1
      rw [List.length_take] at this
      have : i < 32 := Nat.lt_of_lt_of_le this (Nat.min_le_left _ _)
      exact this
    obtain ⟨z, rfl⟩ : ∃ z : Int, u = .int z := by
      have := List.mem_of_mem_take (List.mem_of_getElem? hu)
      obtain ⟨z, _, e⟩ := List.mem_map.mp this
      exact ⟨z, e.symm⟩
    refine HB_sub (loc := [("pieces", svs (pieceN 8)), ("words", .words), ("number", .int z)]) ⟨(lookup_setL _ _ _ _).trans hsub.1, (lookup_setL _ _ _ _).trans hsub.2.1, lookup_setL _ _ _ _, trivial⟩ ?_
    rw [hob]
    refine law_turn (F := ⟨fS (tS 25), d, true, .words⟩) rfl rfl rfl W (by omega) z ?_
    intro σ ws' W' hob' hsub'
    exact ⟨ws', W', hob', hsub'⟩
  · rintro σ ⟨ws, W, hob, hsub⟩
    have W : WOk 32 ws := by
      refine ⟨W.ne, W.four, fun w m => Nat.le_trans (W.len w m) ?_, W.ok⟩
      have : (List.take (Int.toNat 32) (ns.map V.int)).length ≤ 32 := by
        rw [List.length_take]; exact Nat.min_le_left _ _
      omega
    show LB _ _ _
    refine LB_stem (l := ws) rfl rfl rfl (by show d < 400; omega) rfl rfl rfl hsub.2.1 hob ?_
    obtain ⟨w0, wr, rfl⟩ : ∃ w0 wr, ws = w0 :: wr := by
      cases ws with
      | nil => exact absurd rfl W.ne
      | cons a b => exact ⟨a, b, rfl⟩
    have hl : ∀ w ∈ w0 :: wr, w.length ≤ 1000 := fun w m => by have := W.len w m; omega
    have h4 : (w0 :: wr).length ≤ 4 := W.four
    have h4' : wr.length ≤ 3 := by simpa using h4
    clear hsub hob
    refine LB_cons ?_
    refine HS_assign rfl ?_
    refine HE_bin ?_
    refine HE_list ?_
    refine HA_cons ?_
    refine HE_meth (fa := 189) (d := d) rfl rfl rfl (fun P => by kernel_rfl) (Nat.le_refl _) ?_
    refine HA_cons ?_
    refine HE_item ?_
    refine HE_name (v := svs (w0 :: wr)) rfl rfl ?_
    refine HE_int ⟨_, 0, sv w0, rfl, rfl, by omega, by omega, rfl, ?_⟩
    refine HA_nil ?_
    refine stemWord_ (by omega) Sm0 w0 (hl _ (.head _)) fun c lb b k reg => ?_
    refine HA_nil ⟨by simp, ?_⟩
    refine HE_meth (fa := 194) (d := d) rfl rfl rfl (fun P => by kernel_rfl) (Nat.le_refl _) ?_
    refine HA_cons ?_
    refine HE_ls_from ?_
    refine HE_name (v := svs (w0 :: wr)) rfl rfl ?_
    refine HE_int ⟨_, 1, rfl, rfl, by omega, by simp; omega, by rw [List.length_map]; omega, ?_⟩
    refine HA_nil ?_
    refine stemWords_ (by omega) _ wr (fun x m => hl x (.tail _ m)) (by omega) fun S => ?_
    refine ⟨by rw [List.length_map, List.length_map]; show 1 + wr.length ≤ _; omega, ?_⟩
    have e : [V.str (mkS (stemL w0))] ++ (wr.map stemL).map sv = ((w0 :: wr).map stemL).map sv := rfl
    rw [e]
    show LB _ _ ⟨_, S.ob⟩
    refine LB_sub (loc := [("words", svs (w0 :: wr)), ("told", svs ((w0 :: wr).map stemL))]) ⟨rfl, rfl, trivial⟩ ?_
    have hok := W.ok
    generalize w0 :: wr = ws at hl h4 hok
    refine LB_ret ?_
    refine HB_cons ?_
    refine HS_ret ?_
    refine HE_eq_strs (by show d < 600; omega) ?_
    refine HE_name (v := svs (ws.map stemL)) rfl rfl ?_
    refine HE_comp none rfl (clos_none rfl) rfl (fun y v e => by cases e) ?_
    refine HI_list ?_
    refine HE_name (v := svs ws) rfl rfl ?_
    refine ⟨_, rfl, by rw [List.length_map]; omega, rfl, ?_, fun i out ob' => ob' = S.ob ∧ out = (ws.take i).map fun x => sv (lawL x), ⟨rfl, rfl⟩, ?_, ?_⟩
    · intro i hi
      rw [List.length_map] at hi
      dsimp only
      rw [List.getD_eq_getElem?_getD, List.getElem?_map, List.getElem?_eq_getElem hi]
      rfl
    · rintro i out ob hi ⟨rfl, rfl⟩
      rw [List.length_map] at hi
      have e : (ws.map sv).getD i .none = sv ws[i] := by
        rw [List.getD_eq_getElem?_getD, List.getElem?_map, List.getElem?_eq_getElem hi]; rfl
      dsimp only
      rw [e]
      show HE _ _ _ _
      refine HE_call (fa := 809) (d := d) rfl rfl (fun P => by kernel_rfl) (fun P => by kernel_rfl) (Nat.le_refl _) ?_
      refine HA_cons ?_
      refine HE_name (v := sv ws[i]) rfl rfl ?_
      refine HA_nil ?_
      refine law_stem_ (by omega) S.ob ws[i] (hl _ (List.getElem_mem hi)) ?_
      exact ⟨rfl, rfl, rfl, take_snoc (fun x => sv (lawL x)) ws hi⟩
    · rintro out ob ⟨rfl, rfl⟩
      rw [List.length_map, List.take_length]
      refine ⟨ws.map fun x => mkS (stemL x), ?_, ?_, ?_, rfl⟩
      · unfold svs strsV
        rw [List.map_map, List.map_map]; rfl
      · unfold strsV
        rw [List.map_map]
        congr 1
        refine List.map_congr_left fun x _ => ?_
        show sv (lawL x) = sv (stemL x)
        rw [stem_law]
      · intro y hy
        obtain ⟨x, hx, rfl⟩ := List.mem_map.mp hy
        exact stem_ok (hok x hx)
end Mine

end

-- X35
section
namespace Mine

theorem list710 (P : Params) : listAt (KF P) 710 = none := by kernel_rfl
theorem law814 (P : Params) : nsIn (KF P) mainGlobals "law" = some (some (.ref 814)) := by kernel_rfl
theorem loose_eq : looseW qv lo = lo := by kernel_rfl
theorem obj710 (P : Params) : ((KF P).lookup 710).isSome = true := by kernel_rfl

theorem cls710 (P : Params) : ((KF P).lookup 710).any (fun o => match o.data with | .seq .. => false | _ => true) = true := by kernel_rfl
theorem ints_at {g : Gx} {h : Heap} {items : List Value} {ns : List Int} (x : IntsAre items ns) : ∀ (j : Nat) v pv, (ns.map V.int)[j]? = some v → items[j]? = some pv → VR g h v pv := by
  induction x with
  | nil => intro j v pv a; cases a
  | cons k t _ ih =>
    intro j v pv a b
    cases j with
    | zero => cases a; cases b; exact .int k t
    | succ j => exact ih j v pv (by simpa using a) (by simpa using b)

/-- the call of the law, from the caller -/
theorem law_run (w : World) (s₁ : Shared) (mg mb : Str → Option Value) (K : (KF w.params).In s₁.heap) (T : TopRead qv lo mg mb s₁.heap) (hg : s₁.gens = #[]) (a : Addr) (items : List Value) (ns : List Int) (hl : s₁.heap.IsList a items.toArray) (hi : IntsAre items ns) (hn : ns.length ≤ 1000) :
    codeAny (model pw w) callerA (.call (.ref 814) ⟨[.ref a], []⟩) (fun r s' => r = .ok (.ret (.bool true)) ∧ s'.gens = #[] ∧ s₁.heap.StaysIn s'.heap ∧ s'.os = s₁.os) s₁ := by
  obtain ⟨fd, hfd, ⟨e1, e2, e3, e4, e5⟩, hb, hcd⟩ := (fn814 w.params).ex
  obtain ⟨o, ho, hod⟩ := fnAt_get K hfd
  obtain ⟨o710, h710⟩ := Option.isSome_iff_exists.mp (obj710 w.params)
  have h710 := K _ _ h710
  obtain ⟨oa, hoa, hac, na, had⟩ := hl
  have nL : s₁.heap.get? s₁.heap.objs.size = none := Heap.get?_none_of_le (Nat.le_refl _)
  have hm0 : claimMargin = 300 := rfl
  refine codeAny_call_def (fd := fd) (body := fB (tS 25)) (binds := [("script", .ref a)]) (by show 1 + claimMargin < 1000; omega) ho hod T.nolimit (codeRec_of K hcd) e1
    (.of_eq (hb [.ref a] rfl)) (by rw [e2]; decide +kernel) (fun x hx => ?_) (fun h₀ hns hkp => ?_) (by rw [e2]; rfl) (by rw [e2]; rfl) (by rw [e2]; rfl)
  · rw [List.mem_singleton.mp hx, e2]; rfl
  obtain ⟨g, hge⟩ : ∃ g : Gx, g = ⟨w, s₁.heap, mg, mb, 710, 710, .non, s₁.os⟩ := ⟨_, rfl⟩
  have gw : g.w = w := by rw [hge]
  have gb : g.base = s₁.heap := by rw [hge]
  have a710 : a ≠ 710 := fun q => by
    subst q
    have c := cls710 w.params
    have z := K
    cases e : (KF w.params).lookup 710 with
    | none => rw [e] at c; cases c
    | some o7 =>
      rw [e] at c
      have e2 := K _ _ e
      rw [hoa] at e2
      obtain rfl := Option.some.inj e2
      have c : (match oa.data with | .seq .. => false | _ => true) = true := c
      rw [had] at c; cases c
  obtain ⟨c', hc'⟩ : ∃ c' : Cx, c' = ⟨⟨w, s₁.heap, mg, mb, 710, 710, .non, s₁.os⟩, callerA.deeper (callEnv fd s₁.heap.objs.size 814), callEnv fd s₁.heap.objs.size 814, [callEnv fd s₁.heap.objs.size 814], [s₁.heap.objs.size]⟩ := ⟨_, rfl⟩
  obtain ⟨oL, hL, dL⟩ := dc_ns hns
  have O' : c'.Ok ⟨fS (tS 25), 302, true, .non⟩ := by
    subst hc'
    refine ⟨⟨K, T, fun q => absurd rfl q, fun b its e q => ?_⟩, rfl, rfl, ?_, ?_, e2, rfl, e3, e5, rfl, fun _ => ⟨rfl, _, rfl⟩, fun _ x b _ ha => ?_, fun x b _ ha => ?_, List.mem_singleton.mpr rfl, fun hm => ?_, fun b hb => ?_, fun e he => ?_⟩
    · have q : b = 710 := q
      subst q
      have e : listAt (KF w.params) 710 = some its := e
      rw [list710] at e; cases e
    · show 1 + claimMargin + 1 ≤ 302
      omega
    · show 4 + 3 ≤ 10 * 302
      decide
    · have ha : fd.closure.lookup x = some b := ha
      rw [e4] at ha; cases ha
    · have ha : fd.closure.lookup x = some b := ha
      rw [e4] at ha; cases ha
    · have hm : (710 : Addr) = s₁.heap.objs.size := List.mem_singleton.mp hm
      rw [hm, nL] at h710; cases h710
    · rw [List.mem_singleton.mp hb]; exact nL
    · obtain rfl := List.mem_singleton.mp he
      intro q
      have q : s₁.heap.objs.size = 710 := Option.some.inj q
      rw [← q, nL] at h710; cases h710
  have R' : Rel c' ⟨[("script", intsV ns)], []⟩ ⟨h₀, s₁.gens, s₁.drawn, s₁.toks + 1, s₁.os⟩ := by
    subst hc'
    refine ⟨fun b o e => hkp b o e, ⟨(by show fd.scope.kind ≠ _; rw [e2]; decide), ⟨_, oL, rfl, nL, hL, fun vs q => by rw [q] at dL; cases dL⟩, trivial⟩, ⟨_, hns, fun x v e => ?_⟩, fun b hb => ?_, ⟨rfl, _, hkp _ _ h710⟩, hg, rfl⟩
    · obtain ⟨rfl, rfl⟩ := Prod.mk.inj (List.mem_singleton.mp (mem_of_lookup e))
      have hk' : (callEnv fd s₁.heap.objs.size 814).kindOf "script" = some .local := by
        show fd.scope.names.lookup _ = _
        rw [e2]; rfl
      unfold LocAt
      rw [show (Cx.env ⟨⟨w, s₁.heap, mg, mb, 710, 710, .non, s₁.os⟩, callerA.deeper (callEnv fd s₁.heap.objs.size 814), callEnv fd s₁.heap.objs.size 814, [callEnv fd s₁.heap.objs.size 814], [s₁.heap.objs.size]⟩).kindOf "script" = some .local from hk']
      refine ⟨.ref a, rfl, .list (hkp _ _ hoa) hac had a710 ?_ fun j v pv p q => ?_⟩
      · rw [List.length_map, List.size_toArray]
        exact hi.length
      · exact ints_at hi j v pv p (by simpa using q)
    · rw [List.mem_singleton.mp hb]; exact ⟨oL, hL, dL⟩
  have hB := law_body (d := 302) (by decide) ns hn c' O' _ R'
  rw [hc'] at hB
  refine wpAny_mono hB (fun f s' q => ?_) fun x s' q => q.elim
  obtain ⟨q1, q2, q3, q4⟩ := q
  subst q1
  exact ⟨rfl, q2, q3, q4⟩
end Mine

end

-- X36
set_option maxHeartbeats 8000000
namespace Mine
noncomputable abbrev HK : Hook := kHook KF KA KF_is
theorem post_true (args : List WData) : PySem.Challenge.rw_iu0026_01.row.toRowW.claim.post args (.bool true) args = true := by
  refine postW_of (r := PySem.Challenge.rw_iu0026_01.row.toRowW) (X := true) (by first | rfl | decide | simp [WShape.has]) ?_ rfl
  show WTm.value _ (.eq .res (.lit (.bool true))) _ = _
  exact w_eq_bool (k := true) (l := true) (by simp [WTm.value]) (by simp [WTm.value])
noncomputable def defs0 : DefRec × List (Str × Expr) := (defOf qv rr.name).getD ⟨⟨"", ⟨[], [], none, [], [], none, []⟩, [], ⟨.function, [], false, false, []⟩, ⟨0, 0, 0, 0⟩⟩, []⟩
theorem hdef0 : defOf qv rr.name = some (defs0.1, defs0.2) := by kernel_rfl
theorem hp0 : rr.prog.theDef rr.name = some (defs0.1.params, defs0.1.body, defs0.1.scope) := by kernel_rfl
theorem hk0 : kwWritten? defs0.1.params.kwonlyargs defs0.1.params.kw_defaults = some defs0.2 := by kernel_rfl
theorem ok0' : (chainsOk qv && opensWell rr.prog && (frees rr.toRowW && rr.within.isEmpty)) = true := by kernel_rfl
theorem bare0 : rr.prog.bare := ⟨rfl, rfl, rfl, rfl, rfl, by kernel_rfl⟩
theorem wit0 : PySem.Challenge.rw_iu0026_01.row.toRowW.promised := by w_witness2
theorem walk0 : WalkO qv lo (XL qv []) (Hook.says HK) rr.toRowW defs0.1 defs0.2 fun f vs => PySem.call f vs := by
  intro w s₀ s₁ mg mb G Y fa o pm cd doc dV kV ho hd hcd hD hmg hg args vals as hpre hlay hrd hwl hlo
  have KX := kIn_of Y
  have T : TopRead qv lo mg mb s₁.heap := by
    have := topRead_of G.T
    rw [loose_eq] at this
    exact this
  have hm := mg_of KX T.g (law814 _)
  have hfa : fa = 814 := by
    have en : defs0.1.name = ("law" : Str) := by kernel_rfl
    rw [en, hm] at hmg
    cases hmg; rfl
  subst hfa
  clear hd hcd hD hmg ho hm
  wrow_args hpre hlay hrd hwl hlo
  rename_i ns _ _ _ _ _ _ _ a items _ hL _ _ _ hI _ hC _
  have hn : ns.length ≤ 1000 := by omega
  refine wpAny_call (codeAny_mono (law_run w s₁ mg mb KX T hg a items ns hL hI hn) fun r s' z => ?_)
  obtain ⟨er, q2, q3, q4⟩ := z
  subst er
  exact GoodW.toG ⟨.inl ⟨.bool true, .bool true, [], rfl, fun _ => rfl, .bool true, post_true _, fun _ => ⟨.nil, fun a h => nomatch h⟩⟩, q3, q4, q2⟩
theorem lkb1 : readsOut rr.prog rr.prog.main.body "vars" = false := by kernel_rfl
theorem lkb2 : readsOut rr.prog rr.prog.main.body "dir" = false := by kernel_rfl
theorem lkb3 : readsOut rr.prog rr.prog.main.body "locals" = false := by kernel_rfl
theorem lkb : (([("vars" : Str), "dir", "locals"] : List Str).filter (readsOut rr.prog rr.prog.main.body)) = [] := by
  rw [List.filter_cons, lkb1, if_neg (by decide), List.filter_cons, lkb2, if_neg (by decide), List.filter_cons, lkb3, if_neg (by decide), List.filter_nil]
theorem lks : (!(importedModules rr.prog.main.body).all cThrough.contains) = false := by kernel_rfl
theorem sl4a : noRoadLSs { strict := false, foot := none, bare := [] } rr.prog.main.body = true := by kernel_rfl
theorem sl2 : namesResolve rr.prog = true := by kernel_rfl
theorem sl5 : namesMeet rr.prog rr.prog.main.body (fun _ n => attrL n) = true := by kernel_rfl
theorem slO : looksOpen rr.prog = true := by
  unfold looksOpen
  rw [lkb, lks, sl2, sl4a, sl5]
  kernel_rfl
theorem rowSaid : rr.wellSaid = true := by
  have h : looksOpen rr.toRowW.prog = true := slO
  unfold OpenRow.wellSaid OpenRow.partSaid
  rw [h]
  kernel_rfl
noncomputable abbrev LL : OpenLaw := PySem.Challenge.rw_iu0026_01
theorem saidF : noRoadLSs { strict := true, foot := some LL.bound', writes := LL.writes, may := LL.may } LL.footing = true := by kernel_rfl
theorem saidA : (defStands LL.about LL.above && LL.namesIt) = true := by kernel_rfl
theorem said0 : LL.wellSaid = true := by
  have h : LL.row.wellSaid = true := rowSaid
  have hA := saidA
  rw [Bool.and_eq_true] at hA
  unfold OpenLaw.wellSaid
  rw [h, saidF, hA.1, hA.2]
  kernel_rfl
theorem whole : PySem.Challenge.rw_iu0026_01.Holds :=
  holds_law said0 fun said => holds_open (q := qv) (loose := lo) (Xt := XtF) (XP := XL qv []) (Yf := Hook.obs HK) (Ya := Hook.val HK) (YP := Hook.says HK) (N := 26000) left (Hook.of HK) (Hook.keeps HK)
    (fun s e => xl_of s (Bool.and_eq_true_iff.mp e).1) XL.keeps hdef0 hp0 hk0 (fun s e => recFacts_of (Bool.and_eq_true_iff.mp e).2) rfl said ok0' bare0 wit0 walk0
end Mine

theorem PySem.Challenge.cw_iu0026_01_holds : PySem.Challenge.rw_iu0026_01.Holds := by
  exact Mine.whole
