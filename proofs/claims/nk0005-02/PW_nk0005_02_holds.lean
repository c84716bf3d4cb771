import PyProof.Rows.All
import Wide.All
import OpenK.AllK
import Wide.FinOn
import Open.Tops
import PyProof.SetScanFacts
import KE.KSliceW
import KE.KRevSl
import KE.KIntText
import KE.KIsAll
import PyProof.ZipIter
import PyProof.TupleIter
import KE.KSortTup
import KE.KLcTest
import Lean
import PySem.Challenge.RW_nk0005_02
set_option Elab.async false
set_option linter.all false
section
open PySem PySem.W PyProof.Rows
set_option maxRecDepth 100000
namespace Mine
section goes
variable {p : Program} {w : World} {cd : Code} {q0 : Pos}
def Goes (p : Program) (w : World) (cd : Code) (q0 : Pos) {α : Type} (c : Nat) (t : Sem α) (s : Shared) (q : Pos) (a : α) (s' : Shared) (q' : Pos) : Prop :=
  ∀ (K : α → Sem Fin) (H : Value → Sem Fin) (gd : Bool → Bool) (lv : List Value → List Value), ∃ n, n ≤ c ∧ ∀ N r,
    segRun treeTable p w 28 (some (.ref 6)) 1 N s' ⟨K a, cd, q', [topFrame q0]⟩ = some r → segRun treeTable p w 28 (some (.ref 6)) 1 (n + N) s ⟨t.wrap K H gd lv, cd, q, [topFrame q0]⟩ = some r

theorem Goes.pure {α : Type} {a : α} {s : Shared} {q : Pos} : Goes p w cd q0 0 (Pure.pure a : Sem α) s q a s q :=
  fun K H gd lv => ⟨0, Nat.le_refl _, fun N r h => by rw [Nat.zero_add]; exact h⟩
theorem Goes.mono {α : Type} {c c' : Nat} {t : Sem α} {s s' : Shared} {q q' : Pos} {a : α} (h : Goes p w cd q0 c t s q a s' q') (hc : c ≤ c') : Goes p w cd q0 c' t s q a s' q' :=
  fun K H gd lv => let ⟨n, hn, x⟩ := h K H gd lv; ⟨n, Nat.le_trans hn hc, x⟩
theorem Goes.bind {α β : Type} {c d : Nat} {t : Sem α} {f : α → Sem β} {s s1 s2 : Shared} {q q1 q2 : Pos} {a : α} {b : β}
    (h : Goes p w cd q0 c t s q a s1 q1) (k : Goes p w cd q0 d (f a) s1 q1 b s2 q2) : Goes p w cd q0 (c + d) (t >>= f) s q b s2 q2 := by
  intro K H gd lv
  rw [Sem.bind_eq_wrap', Sem.wrap_wrap]
  obtain ⟨m, hm, k'⟩ := k K H gd lv
  obtain ⟨n, hn, h'⟩ := h (fun a => (f a).wrap K H gd lv) (fun e => (Sem.raise e : Sem β).wrap K H gd lv) (fun g => gd (id g)) (fun l => lv (id l))
  refine ⟨n + m, by omega, fun N r x => ?_⟩
  rw [Nat.add_assoc]
  exact h' _ _ (k' N r x)
theorem Goes.keep {α : Type} {c : Nat} {t : Sem α} {s s' : Shared} {q q' : Pos} {a : α} {vs : List Value} (h : Goes p w cd q0 c t s q a s' q') : Goes p w cd q0 c (t.keep vs) s q a s' q' := by
  intro K H gd lv
  rw [Sem.keep_eq_wrap, Sem.wrap_wrap]
  exact h K _ _ _
theorem Goes.holding {α : Type} {c : Nat} {t : Sem α} {s s' : Shared} {q q' : Pos} {a : α} {vs : List Value} (h : Goes p w cd q0 c t s q a s' q') : Goes p w cd q0 c (holding vs t) s q a s' q' := by
  unfold PySem.holding
  split
  · exact h
  · exact h.keep
theorem Goes.ofT {α : Type} {c : Nat} {t : Sem α} {S S' : SharedT} {q q' : Pos} {a : α} (n : Nat) (hn : n ≤ c)
    (h : ∀ K H gd lv, segGoT treeTable p w 28 (some (.ref 6)) 1 n S ⟨t.wrap K H gd lv, cd, q, [topFrame q0]⟩ = some (S', ⟨K a, cd, q', [topFrame q0]⟩)) : Goes p w cd q0 c t S.abs q a S'.abs q' :=
  fun K H gd lv => ⟨n, hn, fun _ _ x => seg_go (segGo_of (h K H gd lv)) x⟩

theorem seg1 {s s' : Shared} {t t' : Thread} {N : Nat} {r : Flow × Shared × Code × Pos} (he : endAt 1 t = none) (hk : stepOk 28 (some (.ref 6)) t = true) (hs : step (denote treeTable) p w s t = .go s' t')
    (h : segRun treeTable p w 28 (some (.ref 6)) 1 N s' t' = some r) : segRun treeTable p w 28 (some (.ref 6)) 1 (1 + N) s t = some r := by
  rw [Nat.add_comm]; unfold segRun; rw [he, hk, hs]; exact h
theorem Goes.rule {tag : String} {s : Shared} {q : Pos} : Goes p w cd q0 1 (PySem.rule tag) s q () s q :=
  fun K H gd lv => ⟨1, Nat.le_refl _, fun N r h => seg1 rfl rfl (by cases s; rfl) h⟩
theorem Goes.standAt {pos : Pos} {s : Shared} {q : Pos} : Goes p w cd q0 1 (PySem.standAt pos) s q () s pos :=
  fun K H gd lv => ⟨1, Nat.le_refl _, fun N r h => seg1 rfl rfl (by cases s; rfl) h⟩
theorem Goes.load {a : Addr} {o : Obj} {s : Shared} {q : Pos} (ho : s.heap.get? a = some o) : Goes p w cd q0 1 (PySem.load a) s q o s q :=
  fun K H gd lv => ⟨1, Nat.le_refl _, fun N r h => seg1 rfl rfl (by
    obtain ⟨hp, g, d, tk, os⟩ := s
    show step _ _ _ _ ⟨.load a none fun x => K x, cd, q, _⟩ = _
    simp only [step]
    rw [show hp.get? a = some o from ho]) h⟩
theorem Goes.update {a : Addr} {o : Obj} {f : Obj → Obj} {s : Shared} {q : Pos} (ho : s.heap.get? a = some o) (ha : 28 ≤ a) : Goes p w cd q0 1 (PySem.update a f) s q () { s with heap := s.heap.update a f } q :=
  fun K H gd lv => ⟨1, Nat.le_refl _, fun N r h => seg1 rfl (by
    show stepOk 28 (some (.ref 6)) ⟨.update a none f fun x => K x, cd, q, _⟩ = true
    unfold stepOk
    have : Nat.ble 28 a = true := Nat.ble_eq_true_of_le ha
    simp only [this, Bool.true_or, Bool.and_true]
    rfl) (by
    obtain ⟨hp, g, d, tk, os⟩ := s
    show step _ _ _ _ ⟨.update a none f fun x => K x, cd, q, _⟩ = _
    simp only [step]
    rw [show hp.get? a = some o from ho]
    rfl) h⟩

/-- a set object -/
def setO (es : Array (Int × Value)) (ep : Nat) (t : SetTable) : Obj := ⟨.type "set", none, .set es ep t, #[]⟩
theorem update_const {h : Heap} {a : Addr} {o : Obj} {f : Obj → Obj} (ho : h.get? a = some o) : h.update a f = h.update a (fun _ => f o) := by
  have ho' := ((Heap.get?_eq_some _ _ _).1 ho).1
  obtain ⟨objs, life⟩ := h
  simp only [Heap.update, Heap.mk.injEq, and_true]
  apply Array.ext_getElem?
  intro j
  simp only [Array.getElem?_modify]
  by_cases h1 : a = j
  · subst h1
    have ho'' : objs[a]? = some o := ho'
    simp [ho'']
  · simp [h1]
theorem update_twice {h : Heap} {a : Addr} {o o' : Obj} : (h.update a (fun _ => o)).update a (fun _ => o') = h.update a (fun _ => o') := by
  obtain ⟨objs, life⟩ := h
  simp only [Heap.update, Heap.mk.injEq, and_true]
  apply Array.ext_getElem?
  intro j
  simp only [Array.getElem?_modify]
  by_cases h1 : a = j
  · subst h1
    cases objs[a]? <;> simp
  · simp [h1]
theorem get_update_set {h : Heap} {a : Addr} {o : Obj} {es : Array (Int × Value)} {ep : Nat} {t : SetTable} (ho : h.get? a = some o) : (h.update a (fun _ => setO es ep t)).get? a = some (setO es ep t) :=
  Heap.get?_update_self _ ho rfl
theorem Goes.storeSet {a : Addr} {es es' : Array (Int × Value)} {ep : Nat} {t t' : SetTable} {s : Shared} {q : Pos} (ho : s.heap.get? a = some (setO es ep t)) (ha : 28 ≤ a) (hz : es'.size ≤ sizeLine) :
    Goes p w cd q0 2 (PySem.storeSet a es' t') s q () { s with heap := s.heap.update a (fun _ => setO es' (ep + 1) t') } q := by
  unfold PySem.storeSet
  refine Goes.bind (c := 1) (d := 1) (Goes.load ho) ?_
  show Goes p w cd q0 1 (if es'.size > sizeLine then _ else PySem.update a (Obj.putSet es' t')) s q _ _ _
  rw [if_neg (Nat.not_lt.mpr hz)]
  have := Goes.update (p := p) (w := w) (cd := cd) (q0 := q0) (f := Obj.putSet es' t') (q := q) ho ha
  rw [update_const ho] at this
  exact this
theorem Goes.setState {a : Addr} {es : Array (Int × Value)} {ep : Nat} {t : SetTable} {s : Shared} {q : Pos} (ho : s.heap.get? a = some (setO es ep t)) (hf : t.fits es.size = true) :
    Goes p w cd q0 1 (PySem.setState a) s q (es, ep, t) s q := by
  unfold PySem.setState
  refine Goes.bind (c := 1) (d := 0) (Goes.load ho) ?_
  show Goes p w cd q0 0 (if (t.place.size != es.size || decide (t.fill > t.mask)) = true then _ else Pure.pure (es, ep, t)) s q _ _ _
  have : (t.place.size != es.size || decide (t.fill > t.mask)) = false := by
    simp only [SetTable.fits, Bool.and_eq_true, beq_iff_eq, decide_eq_true_eq] at hf
    simp only [Bool.or_eq_false_iff, bne_eq_false_iff_eq, decide_eq_false_iff_not]
    omega
  rw [this]
  exact Goes.pure

/-- what one add of a str makes -/
def addP (h : Int) (x : Value) (es : Array (Int × Value)) (ep : Nat) (t : SetTable) : Array (Int × Value) × Nat × SetTable :=
  let r := layNew t es h x
  let t1 : SetTable := { r.2.1 with plain := false }
  if (!r.2.2.1 && t1.tooFull) = true then ((relayAll t1 r.1 (SetTable.grown r.1.size)).1, ep + 2, (relayAll t1 r.1 (SetTable.grown r.1.size)).2.1) else (r.1, ep + 1, t1)


theorem fits_plain {t : SetTable} {n : Nat} {b : Bool} : SetTable.fits { t with plain := b } n = t.fits n := rfl

/-- the elements are these, in some order; the table fits -/
structure SetInv (es : Array (Int × Value)) (t : SetTable) (L : List Value) : Prop where
  perm : (es.toList.map (·.2)).Perm L
  fits : t.fits es.size = true

theorem SetInv.size {es : Array (Int × Value)} {t : SetTable} {L : List Value} (I : SetInv es t L) : es.size = L.length := by
  have := I.perm.length_eq
  simpa using this
theorem SetInv.add {es : Array (Int × Value)} {t : SetTable} {L : List Value} (I : SetInv es t L) (h : Int) (x : Value) (ep : Nat) :
    SetInv (addP h x es ep t).1 (addP h x es ep t).2.2 (L ++ [x]) := by
  have hp : (((layNew t es h x).1.toList).map (·.2)).Perm (L ++ [x]) := by
    refine ((layNew_perm t es h x).map _).trans ?_
    rw [Array.toList_push, List.map_append]
    exact I.perm.append_right _
  unfold addP
  dsimp only
  split
  · exact ⟨((relayAll_perm _ _ _).map _).trans hp, relayAll_fits _ _ _⟩
  · exact ⟨hp, layNew_fits t es h x⟩

theorem Goes.setScan {a : Addr} {es : Array (Int × Value)} {sx : Str} {tx : Tok} {h : Int} {L : List Value} {s : Shared} {q : Pos} (hL : ∀ v ∈ L, ∃ y t', v = .str y t' ∧ y ≠ sx) (hp : (es.toList.map (·.2)).Perm L) :
    Goes p w cd q0 0 (PySem.setScan a (.str sx tx) h true es) s q .absent s q := by
  have hall : ∀ e ∈ es, ∃ y t', e.2 = .str y t' ∧ y ≠ sx := fun e he => hL _ ((hp.mem_iff).mp (List.mem_map_of_mem (Array.mem_toList_iff.mpr he)))
  have h1 : es.all (fun e => isExactStrKey e.2) = true := by
    rw [Array.all_eq_true']
    intro e he
    obtain ⟨y, t', e1, _⟩ := hall e he
    rw [e1]; rfl
  have h2 : es.findIdx? (fun e => e.2.isStr sx) = none := by
    rw [Array.findIdx?_eq_none_iff]
    intro e he
    obtain ⟨y, t', e1, e2⟩ := hall e he
    rw [e1]
    show (y == sx) = false
    simpa using e2
  show Goes p w cd q0 0 (if es.all (fun e => isExactStrKey e.2) then setScanStrs a (.str sx tx) sx true es else _) s q _ s q
  rw [h1]
  show Goes p w cd q0 0 (setScanStrs a (.str sx tx) sx true es) s q _ s q
  unfold setScanStrs
  rw [h2]
  exact Goes.pure

theorem Goes.addScan {a : Addr} {es : Array (Int × Value)} {ep : Nat} {t : SetTable} {sx : Str} {tx : Tok} {h : Int} {L : List Value} {s : Shared} {q : Pos}
    (ho : s.heap.get? a = some (setO es ep t)) (ha : 28 ≤ a) (I : SetInv es t L) (hn : L.length < 100) (hL : ∀ v ∈ L, ∃ y t', v = .str y t' ∧ y ≠ sx) :
    Goes p w cd q0 9 (PySem.setAddByScan a (.str sx tx) h es t) s q (some true)
      { s with heap := s.heap.update a (fun _ => setO (addP h (.str sx tx) es ep t).1 (addP h (.str sx tx) es ep t).2.1 (addP h (.str sx tx) es ep t).2.2) } q := by
  have J := I.add h (.str sx tx) ep
  have hz := J.size
  rw [List.length_append, List.length_singleton] at hz
  have hz' := I.size
  have hb : 100 ≤ sizeLine := by decide
  have hl : (layNew t es h (.str sx tx)).1.size = es.size + 1 := by
    have := (layNew_perm t es h (.str sx tx)).length_eq
    simpa using this
  unfold PySem.setAddByScan
  refine Goes.bind (c := 1) (d := 8) Goes.rule ?_
  refine Goes.bind (c := 0) (d := 8) (Goes.setScan hL I.perm) ?_
  dsimp only
  generalize hr : layNew t es h (.str sx tx) = r at hl
  obtain ⟨es1, t1, wd, gv⟩ := r
  dsimp only at hl ⊢
  refine Goes.bind (c := 1) (d := 7) (s1 := s) (q1 := q) (a := ()) ?_ ?_
  · cases gv
    · exact Goes.pure.mono (Nat.zero_le _)
    · exact Goes.rule
  suffices key : Goes p w cd q0 7 (do
      PySem.storeSet a es1 { t1 with plain := false }
      if (!wd && SetTable.tooFull { t1 with plain := false }) = true then do
        (match (relayAll { t1 with plain := false } es1 (SetTable.grown es1.size)).2.2 with | true => PySem.rule "set.scan.the-table-gave-way" | false => Pure.pure ())
        PySem.storeSet a (relayAll { t1 with plain := false } es1 (SetTable.grown es1.size)).1 (relayAll { t1 with plain := false } es1 (SetTable.grown es1.size)).2.1
        Pure.pure (some true)
      else Pure.pure (some true)) s q (some true) { s with heap := s.heap.update a (fun _ => setO (addP h (.str sx tx) es ep t).1 (addP h (.str sx tx) es ep t).2.1 (addP h (.str sx tx) es ep t).2.2) } q by
    obtain ⟨m, pl, du, fi, le, mo, plain⟩ := t1
    cases plain
    · exact key
    · exact key
  refine Goes.bind (c := 2) (d := 5) (Goes.storeSet ho ha (by omega)) ?_
  unfold addP
  rw [hr]
  dsimp only
  cases hc : (!wd && SetTable.tooFull { t1 with plain := false }) with
  | false =>
    simp only [Bool.false_eq_true, if_false]
    exact Goes.pure.mono (Nat.zero_le _)
  | true =>
    simp only [if_true]
    generalize hr2 : relayAll { t1 with plain := false } es1 (SetTable.grown es1.size) = r2
    have hl2 : r2.1.size = es1.size := by
      have := (relayAll_perm { t1 with plain := false } es1 (SetTable.grown es1.size)).length_eq
      rw [hr2] at this
      simpa using this
    obtain ⟨es2, t2, gv2⟩ := r2
    dsimp only at hl2 ⊢
    refine Goes.bind (c := 1) (d := 4) (s1 := { s with heap := s.heap.update a (fun _ => setO es1 (ep + 1) { t1 with plain := false }) }) (q1 := q) (a := ()) ?_ ?_
    · cases gv2
      · exact Goes.pure.mono (Nat.zero_le _)
      · exact Goes.rule
    have hs := Goes.storeSet (p := p) (w := w) (cd := cd) (q0 := q0) (es' := es2) (t' := t2) (q := q) (s := { s with heap := s.heap.update a (fun _ => setO es1 (ep + 1) { t1 with plain := false }) }) (get_update_set ho) ha (by omega)
    dsimp only at hs
    rw [update_twice] at hs
    exact (Goes.mono (c := 2) (c' := 4) (Goes.bind (c := 2) (d := 0) hs Goes.pure) (by decide))

theorem Goes.setAdd {a : Addr} {es : Array (Int × Value)} {ep : Nat} {t : SetTable} {sx : Str} {tx : Tok} {h : Int} {L : List Value} {s s1 : Shared} {q : Pos}
    (hh : Goes p w cd q0 40 (PySem.pyHash (.str sx tx)) s q h s1 q)
    (ho : s1.heap.get? a = some (setO es ep t)) (ha : 28 ≤ a) (I : SetInv es t L) (hn : L.length < 100) (hL : ∀ v ∈ L, ∃ y t', v = .str y t' ∧ y ≠ sx) :
    Goes p w cd q0 50 (PySem.setAdd a (.str sx tx)) s q true
      { s1 with heap := s1.heap.update a (fun _ => setO (addP h (.str sx tx) es ep t).1 (addP h (.str sx tx) es ep t).2.1 (addP h (.str sx tx) es ep t).2.2) } q := by
  unfold PySem.setAdd
  refine Goes.holding (Goes.bind (c := 40) (d := 10) hh ?_)
  unfold PySem.setAddHashed
  refine Goes.holding ?_
  show Goes p w cd q0 10 (PySem.setAddHashedIn a (.str sx tx) h (99999 + 1)) s1 q _ _ _
  unfold PySem.setAddHashedIn
  refine Goes.bind (c := 1) (d := 9) (Goes.setState ho I.fits) ?_
  have hb : byScan (.str sx tx) es = true := by
    unfold byScan
    have h1 : es.size < scanBound := by rw [I.size]; unfold scanBound; omega
    have h2 : es.all (·.2.scannable) = true := by
      rw [Array.all_eq_true']
      intro e he
      obtain ⟨y, t', e1, _⟩ := hL _ ((I.perm.mem_iff).mp (List.mem_map_of_mem (Array.mem_toList_iff.mpr he)))
      rw [e1]; rfl
    rw [h2, decide_eq_true h1]; rfl
  show Goes p w cd q0 9 (if byScan (.str sx tx) es = true then _ else _) s1 q _ _ _
  rw [if_pos hb]
  exact Goes.bind (c := 9) (d := 0) (Goes.addScan ho ha I hn hL) Goes.pure
end goes
end Mine
end
section
open PySem PySem.W PyProof.Rows
set_option maxRecDepth 100000
set_option maxHeartbeats 0
namespace Mine
/-- the one set display of the top, turned into a list display of the same cost -/
def tupled : Stmt → Stmt
  | .Assign ts (.Set elts _ pos) p => .Assign ts (.List (elts ++ elts) pos) p
  | s => s
def p2 : Program := { PySem.Challenge.pw_nk0005_02 with main := { PySem.Challenge.pw_nk0005_02.main with body := PySem.Challenge.pw_nk0005_02.main.body.map tupled } }
open_shared hA for PySem.Challenge.pw_nk0005_02 leaving 23
open_shared hd for p2 leaving 0
end Mine
end
section
open PySem PySem.W PyProof.Rows
set_option maxRecDepth 100000
namespace Mine
theorem hashT {p : Program} {w : World} {b : Bool} {cd : Code} {q0 q : Pos} {T : BT} {m tk : Nat} {os : OsState} {sx : Str} {tx : Tok} {K : Int → Sem PySem.Fin} {H : Value → Sem PySem.Fin} {gd : Bool → Bool} {lv : List Value → List Value} : segGoT treeTable p (w.withFollow "special-get-raises" b) 28 (some (.ref 6)) 1 7 ⟨T, m, {}, #[], {}, tk, os⟩ ⟨(pyHash (.str sx tx)).wrap K H gd lv, cd, q, [topFrame q0]⟩ = some (⟨T,m,{},#[],{},tk+1,os⟩, ⟨K (PyData.keyHash w.params sx), cd, q, [topFrame q0]⟩) := by
  cases b <;> kernel_rfl
section
variable {p : Program} {w : World} {cd : Code} {q0 q : Pos} {os : OsState}
/-- the state, over a tree -/
def ST (T : BT) (n tk : Nat) (os : OsState) : SharedT := ⟨T, n, {}, #[], {}, tk, os⟩
theorem hash_goes {T : BT} {m tk : Nat} {sx : Str} {tx : Tok} : Goes p w cd q0 40 (pyHash (.str sx tx)) (ST T m tk os).abs q (PyData.keyHash w.params sx) (ST T m (tk + 1) os).abs q :=
  Goes.ofT 7 (by decide) fun K H gd lv => by
    have := @hashT p w (w.params.followText "special-get-raises") cd q0 q T m tk os sx tx K H gd lv
    rw [World.withFollow_self] at this
    exact this
def VObj (r : Array (Int × Value) × Nat × SetTable) : Obj := setO r.1 r.2.1 r.2.2
def addAll (P : Params) (xs : List (Str × Tok)) (r : Array (Int × Value) × Nat × SetTable) : Array (Int × Value) × Nat × SetTable :=
  xs.foldl (fun r x => addP (PyData.keyHash P x.1) (.str x.1 x.2) r.1 r.2.1 r.2.2) r
theorem set_set {T : BT} {a n : Nat} {o o' : Obj} {x : Obj} (ha : T.get a = some x) : absHeap ((T.set a fun _ => o).set a fun _ => o') n {} = absHeap (T.set a fun _ => o') n {} := by
  rw [absHeap_set (o := o) (by rw [BT.get_set, if_pos rfl, ha]; rfl), absHeap_set ha, absHeap_set ha, update_twice]
theorem adds_goes {T : BT} {n a : Nat} {x : Obj} (ha : T.get a = some x) (h28 : 28 ≤ a) (han : a < n) : ∀ (xs : List (Str × Tok)) (r : Array (Int × Value) × Nat × SetTable) (L : List (Str × Tok)) (tk : Nat),
    SetInv r.1 r.2.2 (L.map fun y => .str y.1 y.2) → ((L ++ xs).map (·.1)).Nodup → (L ++ xs).length < 100 →
    Goes p w cd q0 (50 * xs.length) (forIn (xs.map fun y => Value.str y.1 y.2) PUnit.unit fun v r => do let _ ← PySem.setAdd a v; Pure.pure (ForInStep.yield PUnit.unit))
      (ST (T.set a fun _ => VObj r) n tk os).abs q PUnit.unit (ST (T.set a fun _ => VObj (addAll w.params xs r)) n (tk + xs.length) os).abs q
  | [], r, L, tk, I, hnd, hlen => by
    exact Goes.pure
  | y :: xs, r, L, tk, I, hnd, hlen => by
    rw [List.map_cons, List.forIn_cons]
    have hlen' := hlen
    rw [List.length_append, List.length_cons] at hlen'
    have hy : ∀ v ∈ (L.map fun y => Value.str y.1 y.2), ∃ z t', v = .str z t' ∧ z ≠ y.1 := by
      intro v hv
      obtain ⟨z, hz, rfl⟩ := List.mem_map.mp hv
      refine ⟨z.1, z.2, rfl, fun e => ?_⟩
      rw [List.map_append, List.map_cons, List.nodup_append] at hnd
      exact hnd.2.2 z.1 (List.mem_map_of_mem hz) y.1 (List.mem_cons_self ..) e
    have hg : ((ST (T.set a fun _ => VObj r) n (tk + 1) os).abs).heap.get? a = some (setO r.1 r.2.1 r.2.2) :=
      (abs_get (t := T.set a fun _ => VObj r) (life := {}) (o := VObj r) han (by rw [BT.get_set, if_pos rfl, ha]; rfl)).trans rfl
    have h1 := Goes.setAdd (p := p) (w := w) (cd := cd) (q0 := q0) (tx := y.2) (q := q) (hash_goes (T := T.set a fun _ => VObj r) (m := n) (tk := tk) (os := os) (sx := y.1)) hg h28 I (by rw [List.length_map]; omega) hy
    have e1 : ({ (ST (T.set a fun _ => VObj r) n (tk + 1) os).abs with heap := ((ST (T.set a fun _ => VObj r) n (tk + 1) os).abs).heap.update a (fun _ => setO (addP (PyData.keyHash w.params y.1) (.str y.1 y.2) r.1 r.2.1 r.2.2).1 (addP (PyData.keyHash w.params y.1) (.str y.1 y.2) r.1 r.2.1 r.2.2).2.1 (addP (PyData.keyHash w.params y.1) (.str y.1 y.2) r.1 r.2.1 r.2.2).2.2) } : Shared) =
        (ST (T.set a fun _ => VObj (addP (PyData.keyHash w.params y.1) (.str y.1 y.2) r.1 r.2.1 r.2.2)) n (tk + 1) os).abs := by
      show Shared.mk _ _ _ _ _ = Shared.mk _ _ _ _ _
      refine congrArg (fun h => Shared.mk h #[] {} (tk + 1) os) ?_
      show (absHeap (T.set a fun _ => VObj r) n {}).update a _ = absHeap (T.set a fun _ => VObj _) n {}
      rw [← absHeap_set (o := VObj r) (by rw [BT.get_set, if_pos rfl, ha]; rfl)]
      exact set_set ha
    rw [e1] at h1
    have ih := adds_goes ha h28 han xs (addP (PyData.keyHash w.params y.1) (.str y.1 y.2) r.1 r.2.1 r.2.2) (L ++ [y]) (tk + 1)
      (by rw [List.map_append]; exact I.add _ _ _) (by rw [List.append_assoc]; exact hnd) (by rw [List.append_assoc]; exact hlen)
    have e2 : tk + 1 + xs.length = tk + (y :: xs).length := by rw [List.length_cons]; omega
    rw [e2] at ih
    refine Goes.mono (c := 50 + 0 + 50 * xs.length) ?_ (by rw [List.length_cons]; omega)
    exact Goes.bind (c := 50 + 0) (Goes.bind (c := 50) (d := 0) h1 Goes.pure) ih
end
end Mine
end
section
open PySem PySem.W PyProof.Rows
set_option maxRecDepth 100000
namespace Mine
noncomputable def bE : List Stmt := behindTheImports PySem.Challenge.pw_nk0005_02
noncomputable def cE : Code := .body bE hA.env_1
noncomputable def varsStmt : Stmt := bE.getD 6 (.Pass default)
def swappedNone (e : Stmt) : Option (Str × Pos × List PySem.Expr × Pos × Pos) := match e with
  | .Assign [.Name x p1] (.Set elts 0 p2) p3 => some (x, p1, elts, p2, p3)
  | _ => none
def vars8 : List (Str × Tok) := [("n", 396), ("i", 397), ("v", 398), ("w", 399), ("f", 400), ("t", 401), ("c", 402), ("e", 403)]
noncomputable def T0 (P : Params) : BT := hA.tree_116 P
def freshO (w : World) : Obj := setO #[] 0 (.fresh 0 0 (!w.params.followText "set-order"))

abbrev pw := PySem.Challenge.pw_nk0005_02
def r0 (P : Params) : Array (Int × Value) × Nat × SetTable := (#[], 0, .fresh 0 0 (!P.followText "set-order"))
noncomputable def TV (P : Params) (o : Obj) : BT := ((T0 P).ins 107 default).set 107 (fun _ => o)
def rV (P : Params) : Array (Int × Value) × Nat × SetTable := addAll P vars8 (r0 P)
/-- the set, as the top leaves it -/
def oV (P : Params) : Obj := setO (rV P).1 ((rV P).2.1 + 1) { (rV P).2.2 with led := false }
section
variable {w : World} {q0 q : Pos} {os : OsState}
theorem new_goes : Goes pw w cE q0 2 (newSet (.type "set")) (ST (T0 w.params) 107 396 os).abs q (.ref 107) (ST (TV w.params (VObj (r0 w.params))) 108 396 os).abs q :=
  Goes.ofT 2 (by decide) fun K H gd lv => by kernel_rfl
theorem main_goes : Goes pw w cE q0 2 (inMainModule hA.env_1) (ST (T0 w.params) 107 396 os).abs q true (ST (T0 w.params) 107 396 os).abs q :=
  Goes.ofT 2 (by decide) fun K H gd lv => by kernel_rfl
theorem bind_goes {o : Obj} : Goes pw w cE q0 18 (bindName hA.env_1 (Str.ofString "_VARS") (.ref 107)) (ST (TV w.params o) 108 412 os).abs ⟨43, 0, 43, 5⟩ () (ST ((hd.tree_117 w.params).set 107 (fun _ => o)) 108 413 os).abs ⟨43, 0, 43, 5⟩ :=
  Goes.ofT 6 (by decide) fun K H gd lv => by kernel_rfl
end
theorem inv0 {w : World} : SetInv (r0 w.params).1 (r0 w.params).2.2 (([] : List (Str × Tok)).map fun y => .str y.1 y.2) := ⟨by exact List.Perm.nil, by rfl⟩
theorem addAll_inv {P : Params} : ∀ (xs : List (Str × Tok)) (r : Array (Int × Value) × Nat × SetTable) (L : List (Str × Tok)), SetInv r.1 r.2.2 (L.map fun y => .str y.1 y.2) →
    SetInv (addAll P xs r).1 (addAll P xs r).2.2 ((L ++ xs).map fun y => .str y.1 y.2)
  | [], r, L, I => by rw [List.append_nil]; exact I
  | y :: xs, r, L, I => by
    have := addAll_inv (P := P) xs (addP (PyData.keyHash P y.1) (.str y.1 y.2) r.1 r.2.1 r.2.2) (L ++ [y]) (by rw [List.map_append]; exact I.add _ _ _)
    rw [List.append_assoc] at this
    exact this
theorem rV_inv {w : World} : SetInv (rV w.params).1 (rV w.params).2.2 (vars8.map fun y => .str y.1 y.2) := by
  have := addAll_inv (P := w.params) vars8 (r0 w.params) [] inv0
  rw [List.nil_append] at this
  unfold rV
  exact this
theorem stmt_goes {w : World} {q0 q : Pos} {os : OsState} : Goes pw w cE q0 500 (exec varsStmt hA.env_1) (ST (T0 w.params) 107 396 os).abs q .next (ST ((hd.tree_117 w.params).set 107 (fun _ => oV w.params)) 108 413 os).abs ⟨43,0,43,5⟩ := by
  have e : varsStmt = .Assign [.Name _ _] (.Set _ _ _) _ := rfl
  rw [e, exec_Assign_Name]
  refine Goes.bind (c := 1) (d := 499) Goes.standAt ?_
  refine Goes.bind (c := 480) (d := 19) (a := .ref 107) (s1 := (ST (TV w.params (oV w.params)) 108 412 os).abs) (q1 := ⟨43, 8, 43, 48⟩) ?_ ?_
  rotate_left 1
  · refine Goes.bind (c := 1) (d := 18) Goes.standAt ?_
    exact Goes.bind (c := 18) (d := 0) bind_goes Goes.pure
  · exact rfl
  rw [arm_eval_Set]
  refine Goes.bind (c := 1) (d := 479) Goes.standAt ?_
  refine Goes.bind (c := 2) (d := 477) main_goes ?_
  unfold setDisplay
  refine Goes.bind (c := 2) (d := 475) (s1 := (ST (TV w.params (VObj (r0 w.params))) 108 396 os).abs) new_goes ?_
  refine Goes.bind (c := 475) (d := 0) (a := ()) ?_ Goes.pure
  refine Goes.holding ?_
  refine Goes.bind (c := 16) (d := 459) (a := vars8.map fun y => .str y.1 y.2) (s1 := (ST (TV w.params (VObj (r0 w.params))) 108 404 os).abs) (q1 := ⟨43, 8, 43, 48⟩) (Goes.ofT 16 (by decide) fun K H gd lv => by kernel_rfl) ?_
  refine Goes.bind (c := 459) (d := 0) (a := ()) (s1 := (ST (TV w.params (oV w.params)) 108 412 os).abs) (q1 := ⟨43, 8, 43, 48⟩) ?_ ?_
  rotate_left 1
  · exact Goes.pure
  refine Goes.holding ?_
  have hT : ((T0 w.params).ins 107 default).get 107 = some default := by kernel_rfl
  have hnd : (([] ++ vars8).map (fun y : Str × Tok => y.1)).Nodup := by decide +kernel
  refine Goes.bind (c := 400) (d := 59) (adds_goes hT (by decide) (by decide) vars8 (r0 w.params) [] 404 inv0 hnd (by decide)) ?_
  refine Goes.bind (c := 1) (d := 58) Goes.rule ?_
  unfold setUnled
  have hg : ((ST (TV w.params (VObj (rV w.params))) 108 412 os).abs).heap.get? 107 = some (setO (rV w.params).1 (rV w.params).2.1 (rV w.params).2.2) :=
    (abs_get (t := TV w.params (VObj (rV w.params))) (life := {}) (o := VObj (rV w.params)) (show 107 < 108 by decide) (by unfold TV; rw [BT.get_set, if_pos rfl, hT]; rfl)).trans rfl
  refine Goes.bind (c := 1) (d := 57) (Goes.setState hg rV_inv.fits) ?_
  have h2 := Goes.storeSet (p := pw) (w := w) (cd := cE) (q0 := q0) (es' := (rV w.params).1) (t' := { (rV w.params).2.2 with led := false }) (q := ⟨43, 8, 43, 48⟩) hg (by decide) (by rw [rV_inv.size]; decide)
  have e1 : ({ (ST (TV w.params (VObj (rV w.params))) 108 412 os).abs with heap := ((ST (TV w.params (VObj (rV w.params))) 108 412 os).abs).heap.update 107 (fun _ => setO (rV w.params).1 ((rV w.params).2.1 + 1) { (rV w.params).2.2 with led := false }) } : Shared) =
      (ST (TV w.params (oV w.params)) 108 412 os).abs := by
    show Shared.mk _ _ _ _ _ = Shared.mk _ _ _ _ _
    refine congrArg (fun h => Shared.mk h #[] {} 412 os) ?_
    show (absHeap (((T0 w.params).ins 107 default).set 107 fun _ => VObj (rV w.params)) 108 {}).update 107 _ = absHeap _ 108 {}
    rw [← absHeap_set (o := VObj (rV w.params)) (by rw [BT.get_set, if_pos rfl, hT]; rfl)]
    exact set_set hT
  rw [e1] at h2
  exact h2.mono (by decide)
end Mine
end
section
open PySem PySem.W PyProof.Rows
set_option maxRecDepth 100000
set_option maxHeartbeats 0
namespace Mine
noncomputable def H0 (P : Params) : Heap := ⟨#[hd.o_1 P, hd.o_2 P, hd.o_3 P, hd.o_4 P, hd.o_5 P, hd.o_6 P, hd.o_7 P, hd.o_8 P, hd.o_9 P, hd.o_10 P, hd.o_11 P, hd.o_12 P, hd.o_13 P, hd.o_14 P, hd.o_15 P, hd.o_16 P, hd.o_17 P, hd.o_18 P, hd.o_19 P, hd.o_20 P, hd.o_21 P, hd.o_22 P, hd.o_23 P, hd.o_24 P, hd.o_25 P, hd.o_26 P, hd.o_27 P, hd.o_28 P], {}⟩
noncomputable abbrev B0 : List Frame := [topFrame ⟨0,0,0,0⟩]
noncomputable abbrev sg (n : Nat) (w : World) (s : SharedT) (l : List Stmt) (p : Pos) := segRunT treeTable pw w 28 (some (.ref 6)) 1 n s (piecesOf l hA.env_1 cE p B0)
noncomputable abbrev rt (s : SharedT) (p : Pos) : Option (Flow × SharedT × Code × Pos) := some (.next, s, cE, p)
noncomputable def St (T : Params → BT) (n toks : Nat) (o : Obj) (w : World) (os : OsState) : SharedT := ST ((T w.params).set 107 (fun _ => o)) n toks os
theorem pre_run (w : World) (os : OsState) : topGo treeTable pw w 28 (some (.ref 6)) 12 ⟨H0 w.params, #[], {}, 276, os⟩ (topStub pw) = some ((ST (hA.tree_32 w.params) 32 282 os).abs, ⟨denote treeTable cE, cE, ⟨0,0,0,0⟩, B0⟩) := by
  kernel_rfl
theorem block_run (w : World) (os : OsState) : segRun treeTable pw w 28 (some (.ref 6)) 1 1 (ST (hA.tree_32 w.params) 32 282 os).abs (blockOf bE hA.env_1 cE ⟨0,0,0,0⟩ B0) = some (.next, (ST (hA.tree_32 w.params) 32 282 os).abs, cE, ⟨0,0,0,0⟩) := by
  kernel_rfl
theorem body_is : bE = hA.sts_32 ++ (hA.sts_51 ++ (hA.sts_101 ++ ([varsStmt] ++ (hd.sts_119 ++ (hd.sts_157 ++ (hd.sts_181 ++ (hd.sts_269 ++ (hd.sts_286 ++ (hd.sts_506 ++ (hd.sts_557 ++ [])))))))))) := by
  kernel_rfl

section
variable (w : World) (os : OsState)
theorem s119 (o : Obj) : sg 377 w (St hd.tree_117 108 413 o w os) hd.sts_119 ⟨43, 0, 43, 5⟩ = rt (St hd.tree_155 143 655 o w os) ⟨63,0,64,30⟩ := by
  kernel_rfl
theorem s157 (o : Obj) : sg 88 w (St hd.tree_155 143 655 o w os) hd.sts_157 ⟨63,0,64,30⟩ = rt (St hd.tree_179 164 676 o w os) ⟨69,0,70,25⟩ := by
  kernel_rfl
theorem s181 (o : Obj) : sg 523 w (St hd.tree_179 164 676 o w os) hd.sts_181 ⟨69,0,70,25⟩ = rt (St hd.tree_267 249 787 o w os) ⟨71,0,155,55⟩ := by
  kernel_rfl
theorem s269 (o : Obj) : sg 61 w (St hd.tree_267 249 787 o w os) hd.sts_269 ⟨71,0,155,55⟩ = rt (St hd.tree_284 263 803 o w os) ⟨158,0,159,49⟩ := by
  kernel_rfl
theorem s286 (o : Obj) : sg 802 w (St hd.tree_284 263 803 o w os) hd.sts_286 ⟨158,0,159,49⟩ = rt (St hd.tree_416 390 936 o w os) ⟨160,0,184,35⟩ := by
  kernel_rfl
theorem s506 (o : Obj) : sg 474 w (St hd.tree_416 390 936 o w os) hd.sts_506 ⟨160,0,184,35⟩ = rt (St hd.tree_555 437 983 o w os) ⟨185,0,202,95⟩ := by
  kernel_rfl
theorem s557 (o : Obj) : sg 253 w (St hd.tree_555 437 983 o w os) hd.sts_557 ⟨185,0,202,95⟩ = rt (St hd.tree_612 491 1054 o w os) ⟨245,0,273,98⟩ := by
  kernel_rfl
noncomputable def Sf : Shared := (St hd.tree_612 491 1054 (oV w.params) w os).abs
theorem piece_vars {N : Nat} {rest : List Stmt} {r : Shared} (k : topRun treeTable pw w 28 (some (.ref 6)) N (St hd.tree_117 108 413 (oV w.params) w os).abs (restOf rest hA.env_1 cE ⟨43, 0, 43, 5⟩ B0) = some r) :
    topRun treeTable pw w 28 (some (.ref 6)) (501 + N) (ST (T0 w.params) 107 396 os).abs (restOf ([varsStmt] ++ rest) hA.env_1 cE ⟨41,0,42,8⟩ B0) = some r := by
  obtain ⟨n, hn, h⟩ := stmt_goes (w := w) (q0 := ⟨0,0,0,0⟩) (q := ⟨41,0,42,8⟩) (os := os) doneF deadEnd id id
  have h1 := h 1 (.next, (ST ((hd.tree_117 w.params).set 107 (fun _ => oV w.params)) 108 413 os).abs, cE, ⟨43,0,43,5⟩) rfl
  have h2 := piece_cons (rest := rest) h1 k
  have := topRun_mono (500 - n) _ _ _ _ h2
  rw [show n + 1 + N + (500 - n) = 501 + N by omega] at this
  exact this
theorem fin_run : topRun treeTable pw w 28 (some (.ref 6)) 2 (Sf w os) ⟨doneF .next, cE, ⟨245,0,273,98⟩, B0⟩ = some (Sf w os) := by
  kernel_rfl
theorem chain_app {n N : Nat} {S S' : SharedT} {l rest : List Stmt} {q q' : Pos} {r : Shared} (h : sg n w S l q = rt S' q') (k : topRun treeTable pw w 28 (some (.ref 6)) N S'.abs (restOf rest hA.env_1 cE q' B0) = some r) :
    topRun treeTable pw w 28 (some (.ref 6)) (n + N) S.abs (restOf (l ++ rest) hA.env_1 cE q B0) = some r :=
  piece_app (segRun_of h) k
def M : Nat := 12 + (1 + (Nat.add 84 (Nat.add 595 (Nat.add 197 (501 + (377 + (88 + (523 + (61 + (802 + (474 + (253 + 2))))))))))))
theorem run : topRun treeTable pw w 28 (some (.ref 6)) M ⟨H0 w.params, #[], {}, 276, os⟩ (topStub pw) = some (Sf w os) := by
  refine go_top (pre_run w os) (piece_block (block_run w os) ?_)
  have b := body_is
  rw [show restOf bE hA.env_1 cE ⟨0,0,0,0⟩ B0 = restOf (hA.sts_32 ++ (hA.sts_51 ++ (hA.sts_101 ++ ([varsStmt] ++ (hd.sts_119 ++ (hd.sts_157 ++ (hd.sts_181 ++ (hd.sts_269 ++ (hd.sts_286 ++ (hd.sts_506 ++ (hd.sts_557 ++ []))))))))))) hA.env_1 cE ⟨0,0,0,0⟩ B0 from by unfold restOf; rw [← b]]
  refine hA.chain pw bE w os _ _ _ ?_
  refine piece_vars w os ?_
  refine chain_app w (s119 w os (oV w.params)) ?_
  refine chain_app w (s157 w os (oV w.params)) ?_
  refine chain_app w (s181 w os (oV w.params)) ?_
  refine chain_app w (s269 w os (oV w.params)) ?_
  refine chain_app w (s286 w os (oV w.params)) ?_
  refine chain_app w (s506 w os (oV w.params)) ?_
  refine chain_app w (s557 w os (oV w.params)) ?_
  exact piece_nil (fin_run w os)
end
end Mine
end
section
open PySem PySem.W PyProof.Rows
set_option maxRecDepth 100000
set_option maxHeartbeats 0
namespace Mine
theorem size0 (w : World) : ((H0 w.params).isNs mainGlobals && (#[] : Array GenState).size == 0, (H0 w.params).objs.size, (H0 w.params).nsMap mainGlobals "__annotations__") = (true, 28, some (.ref 6)) := by
  kernel_rfl
theorem open0 (w : World) : (fencedOpening treeTable pw w 7300).map (fun s => (s.heap, s.gens, s.drawn, s.toks)) = some (H0 w.params, #[], {}, 276) := by
  kernel_rfl
end Mine
end
section
open PySem PySem.W PyProof.Rows
set_option maxRecDepth 100000
set_option maxHeartbeats 0
namespace Mine
noncomputable def H1 (P : Params) : Heap := absHeap ((hd.tree_612 P).set 107 (fun _ => oV P)) 491 {}
theorem Sf_is (w : World) (os : OsState) : Sf w os = ⟨H1 w.params, #[], {}, 1054, os⟩ := rfl
def q : Program := view pw [0, 1, 2, 4, 5, 6, 7, 8, 9, 12, 13, 14, 15, 16, 19, 20, 22, 23, 24, 25, 26, 27, 28, 29]
def loose : List Str := ["PluralRule", "_VARS", "_RULES", "test_next_token", "skip_token", "_binary_compiler", "_unary_compiler", "_Compiler", "_UnicodeCompiler"]
theorem look1 (w : World) (os : OsState) : (staticsOk (importedModules pw.main.body) (H0 w.params) (H1 w.params) && namesBound pw (H1 w.params) && gensDone ⟨H1 w.params, #[], {}, 1054, os⟩ && laidKept (H0 w.params) (H1 w.params)) = true := by
  kernel_rfl
theorem look2 (w : World) (os : OsState) : openSeen q loose (importedModules pw.main.body) (fun _ => true) true ⟨H1 w.params, #[], {}, 1054, os⟩ = openGood q loose := by
  kernel_rfl
end Mine
end
section
open PySem PySem.W PyProof.Rows
set_option maxRecDepth 100000
set_option maxHeartbeats 8000000
namespace Mine
def BaseIn (w : World) (h : Heap) : Prop := ∀ b o, (H1 w.params).get? b = some o → h.get? b = some o
theorem left : LeftO pw q loose (fun _ => true) (fun s => s.heap) (fun w => H1 w.params) 7300 :=
  LeftO.of_pieces (M := M) open0 size0 (fun w os => run w os) (by decide +kernel) (fun w => funext fun os => by
    refine Prod.ext ?_ (Prod.ext ?_ ?_)
    · exact look1 w os
    · exact look2 w os
    · exact rfl)
abbrev rowW := PySem.Challenge.rw_nk0005_02.row.toRowW
theorem top_holds (d : DefRec) (kwd : List (Str × PySem.Expr)) (hdef : defOf q "law" = some (d, kwd)) (hp : pw.theDef "law" = some (d.params, d.body, d.scope)) (hk : kwWritten? d.params.kwonlyargs d.params.kw_defaults = some kwd)
    (walk : WalkO q loose (fun _ _ => True) BaseIn rowW d kwd fun f vs => PySem.call f vs) : PySem.Challenge.rw_nk0005_02.Holds := by
  w_on
  o_law
  refine holds_open (q := q) (loose := loose) (Xt := fun _ => true) (XP := fun _ _ => True) (Yf := fun s => s.heap) (Ya := fun w => H1 w.params) (YP := BaseIn) (N := 7300) left (fun w s e b o h => by rw [e]; exact h) (fun w h h' x k b o e => k b o (x b o e)) (fun _ _ => trivial) (fun _ _ _ _ _ => trivial)
    hdef hp hk (fun _ _ => recFacts_nil rfl) (by first | rfl) (by first | assumption | decide +kernel) (by decide +kernel) ⟨rfl, rfl, rfl, rfl, rfl, by decide +kernel⟩ ?hw walk
  case hw => w_witness2
end Mine
end
section
open PySem PySem.W PyProof.Rows
set_option maxRecDepth 100000
namespace Rk
/-- values that nothing changes any more -/
abbrev V := PyData
/-- a value, or a name of an object that may change -/
inductive PV where
  | v (x : V) | ref (i : Nat) | cst (v : Value) | any | fset (l : List Str) | mat (x : Str) (sp : List Int)
  deriving Inhabited
inductive AObj where
  | vlist (xs : List V)
  | vrev (ys : List V)
  | rlist (xs : List PV)
  | inst (C : Addr) (j : Nat) (fs : List (Option PV))
  | dict (es : List (Str × PV))
  | sset (xs : List Str)
  | junk
  deriving Inhabited
abbrev tupO (vs : List Value) : Obj := { cls := .type "tuple", data := .seq vs.toArray }
abbrev slotO (C d : Addr) (vs : List (Option Value)) : Obj := { cls := .ref C, dict := some d, data := .plain, slots := vs.toArray }
abbrev setOb (T : String) (es : Array (Int × Value)) (n : Nat) (t : SetTable) : Obj := { cls := .type T, data := .set es n t }
abbrev Led := List (Addr × Obj)
/-- the members of a set of strs -/
def Mems (P : Params) (xs : List Str) (es : Array (Int × Value)) (t : SetTable) : Prop :=
  t.fits es.size = true ∧ es.size < scanBound ∧ xs.Nodup ∧ ∃ L : List (Str × Tok), es.toList = (L.map fun y => (PyData.keyHash P y.1, Value.str y.1 y.2)) ∧ (L.map (·.1)).Perm xs
/-- the members of a frozenset -/
def FMem (P : Params) (xs : List Str) (es : Array (Int × Value)) (t : SetTable) : Prop :=
  ∃ L : List (Str × Tok), es.toList.Perm (L.map fun y => (PyData.keyHash P y.1, Value.str y.1 y.2)) ∧ L.map (·.1) = xs ∧ xs.Nodup ∧ t.fits es.size = true ∧ t.led = !P.followText "set-order" ∧ (0 < L.length → t.plain = false)
mutual
inductive VRep (fro : Led) : V → Value → Prop
  | none : VRep fro .none .none
  | bool (b : Bool) : VRep fro (.bool b) (.bool b)
  | int (i : Int) (t : Tok) : VRep fro (.int i) (.int i t)
  | str {s : Str} (t : Tok) (hs : PyData.strOk s = true) (hz : s.length ≤ sizeLine) : VRep fro (.str s) (.str s t)
  | tup {ps : List V} {vs : List Value} {a : Addr} (hm : (a, tupO vs) ∈ fro) (hr : VReps fro ps vs) (hz : vs.length ≤ sizeLine) : VRep fro (.tuple ps) (.ref a)
  | lst {ps : List V} {vs : List Value} {a : Addr} {n : Nat} (hm : (a, listOf vs.toArray n) ∈ fro) (hr : VReps fro ps vs) (hz : vs.length ≤ sizeLine) : VRep fro (.list ps) (.ref a)
inductive VReps (fro : Led) : List V → List Value → Prop
  | nil : VReps fro [] []
  | cons {p : V} {v : Value} {ps : List V} {vs : List Value} (h : VRep fro p v) (t : VReps fro ps vs) : VReps fro (p :: ps) (v :: vs)
end
/-- a world: the numbered objects, and the objects that stay -/
structure Wd where
  mu : List Addr
  fro : Led
  ex : Led
  P : Params
structure Wd.Le (W W' : Wd) : Prop where
  num : ∀ (i : Nat) (a : Addr), W.mu[i]? = some a → W'.mu[i]? = some a
  kp : ∀ p ∈ W.fro, p ∈ W'.fro
  ex : W'.ex = W.ex
  P : W'.P = W.P
theorem Wd.Le.refl {W : Wd} : W.Le W := ⟨fun _ _ h => h, fun _ h => h, rfl, rfl⟩
theorem Wd.Le.trans {W W' W'' : Wd} (h : W.Le W') (h' : W'.Le W'') : W.Le W'' := ⟨fun i a e => h'.num i a (h.num i a e), fun p e => h'.kp p (h.kp p e), h'.ex.trans h.ex, h'.P.trans h.P⟩
section mono
variable {fro fro' : Led}
mutual
theorem VRep.up (G : ∀ p ∈ fro, p ∈ fro') : ∀ {p : V} {v : Value}, VRep fro p v → VRep fro' p v
  | _, _, .none => .none
  | _, _, .bool b => .bool b
  | _, _, .int i t => .int i t
  | _, _, .str t h z => .str t h z
  | _, _, .tup hm hr z => .tup (G _ hm) (VReps.up G hr) z
  | _, _, .lst hm hr z => .lst (G _ hm) (VReps.up G hr) z
theorem VReps.up (G : ∀ p ∈ fro, p ∈ fro') : ∀ {ps : List V} {vs : List Value}, VReps fro ps vs → VReps fro' ps vs
  | _, _, .nil => .nil
  | _, _, .cons h t => .cons (VRep.up G h) (VReps.up G t)
end
theorem VReps.length : ∀ {ps : List V} {vs : List Value}, VReps fro ps vs → vs.length = ps.length
  | _, _, .nil => rfl
  | _, _, .cons _ t => by rw [List.length_cons, List.length_cons, t.length]
theorem VReps.get : ∀ {ps : List V} {vs : List Value}, VReps fro ps vs → ∀ {i : Nat} {p : V}, ps[i]? = some p → ∃ v, vs[i]? = some v ∧ VRep fro p v
  | _, _, .cons h t, 0, p, e => by cases e; exact ⟨_, rfl, h⟩
  | _, _, .cons _ t, i + 1, p, e => t.get (by simpa using e)
theorem VReps.append : ∀ {ps qs : List V} {vs us : List Value}, VReps fro ps vs → VReps fro qs us → VReps fro (ps ++ qs) (vs ++ us)
  | _, _, _, _, .nil, y => y
  | _, _, _, _, .cons h t, y => .cons h (t.append y)
theorem VReps.take : ∀ {ps : List V} {vs : List Value}, VReps fro ps vs → ∀ n, VReps fro (ps.take n) (vs.take n)
  | _, _, .nil, n => by simp; exact .nil
  | _, _, .cons h t, 0 => .nil
  | _, _, .cons h t, n + 1 => .cons h (t.take n)
theorem VReps.drop : ∀ {ps : List V} {vs : List Value}, VReps fro ps vs → ∀ n, VReps fro (ps.drop n) (vs.drop n)
  | _, _, .nil, n => by simp; exact .nil
  | _, _, .cons h t, 0 => .cons h t
  | _, _, .cons h t, n + 1 => t.drop n
theorem VReps.reverse : ∀ {ps : List V} {vs : List Value}, VReps fro ps vs → VReps fro ps.reverse vs.reverse
  | _, _, .nil => .nil
  | _, _, .cons h t => by rw [List.reverse_cons, List.reverse_cons]; exact t.reverse.append (.cons h .nil)
end mono
inductive Rep (W : Wd) : PV → Value → Prop
  | v {x : V} {v : Value} (h : VRep W.fro x v) : Rep W (.v x) v
  | ref {i : Nat} {a : Addr} (h : W.mu[i]? = some a) : Rep W (.ref i) (.ref a)
  | cst (v : Value) : Rep W (.cst v) v
  | any (v : Value) : Rep W .any v
  | fset {xs : List Str} {es : Array (Int × Value)} {n : Nat} {t : SetTable} {a : Addr} (hm : (a, setOb "frozenset" es n t) ∈ W.fro) (hr : FMem W.P xs es t) : Rep W (.fset xs) (.ref a)
  | mat {x : Str} {sp : List Int} {a b : Addr} {t : Tok} {c1 c2 c3 c4 : Value} (hm : (a, ({ cls := .type "re.Match", data := .fields #[.str x t, c1, c2, c3, c4, .ref b] } : Obj)) ∈ W.fro) (hb : (b, tupO (sp.map rawInt)) ∈ W.fro) (hs : PyData.strOk x = true) (hz : x.length ≤ sizeLine) : Rep W (.mat x sp) (.ref a)
inductive Reps (W : Wd) : List PV → List Value → Prop
  | nil : Reps W [] []
  | cons {p : PV} {v : Value} {ps : List PV} {vs : List Value} (h : Rep W p v) (t : Reps W ps vs) : Reps W (p :: ps) (v :: vs)
section
variable {W W' : Wd}
theorem Rep.up (G : W.Le W') {p : PV} {v : Value} (r : Rep W p v) : Rep W' p v := by
  cases r with
  | v h => exact .v (h.up G.kp)
  | ref h => exact .ref (G.num _ _ h)
  | cst v => exact .cst v
  | any v => exact .any v
  | fset hm hr => exact .fset (G.kp _ hm) (G.P ▸ hr)
  | mat hm hb hs hz => exact .mat (G.kp _ hm) (G.kp _ hb) hs hz
theorem Reps.up (G : W.Le W') : ∀ {ps : List PV} {vs : List Value}, Reps W ps vs → Reps W' ps vs
  | _, _, .nil => .nil
  | _, _, .cons h t => .cons (h.up G) (t.up G)
theorem Reps.length : ∀ {ps : List PV} {vs : List Value}, Reps W ps vs → vs.length = ps.length
  | _, _, .nil => rfl
  | _, _, .cons _ t => by rw [List.length_cons, List.length_cons, t.length]
theorem Reps.get : ∀ {ps : List PV} {vs : List Value}, Reps W ps vs → ∀ {i : Nat} {p : PV}, ps[i]? = some p → ∃ v, vs[i]? = some v ∧ Rep W p v
  | _, _, .cons h t, 0, p, e => by cases e; exact ⟨_, rfl, h⟩
  | _, _, .cons _ t, i + 1, p, e => t.get (by simpa using e)
theorem Reps.append : ∀ {ps qs : List PV} {vs us : List Value}, Reps W ps vs → Reps W qs us → Reps W (ps ++ qs) (vs ++ us)
  | _, _, _, _, .nil, y => y
  | _, _, _, _, .cons h t, y => .cons h (t.append y)
theorem VReps.reps : ∀ {ps : List V} {vs : List Value}, VReps W.fro ps vs → Reps W (ps.map .v) vs
  | _, _, .nil => .nil
  | _, _, .cons h t => .cons (.v h) t.reps
/-- values alone -/
def allV : List PV → Option (List V)
  | [] => some []
  | .v x :: r => (allV r).map (x :: ·)
  | _ :: _ => none
theorem Reps.vs : ∀ {ps : List PV} {vs : List Value} {xs : List V}, Reps W ps vs → allV ps = some xs → VReps W.fro xs vs
  | _, _, _, .nil, e => by cases e; exact .nil
  | _, _, _, .cons (.v h) t, e => by
    simp only [allV, Option.map_eq_some_iff] at e
    obtain ⟨ys, e, rfl⟩ := e
    exact .cons h (t.vs e)
  | _, _, _, .cons (.ref h) t, e => by cases e
  | _, _, _, .cons (.cst _) t, e => by cases e
  | _, _, _, .cons (.any _) t, e => by cases e
  | _, _, _, .cons (.fset _ _) t, e => by cases e
  | _, _, _, .cons (.mat _ _ _ _) t, e => by cases e
mutual
theorem VRep.reads {fro : Led} {h : Heap} (k : ∀ p ∈ fro, h.get? p.1 = some p.2) : ∀ {x : V} {v : Value}, VRep fro x v → ∃ as, Reads h v x as
  | _, _, .none => ⟨_, .none⟩
  | _, _, .bool b => ⟨_, .bool b⟩
  | _, _, .int i t => ⟨_, .int i t⟩
  | _, _, .str t hs _ => ⟨_, .str _ t⟩
  | _, _, .tup hm hr _ => by
    obtain ⟨as, r⟩ := VReps.reads k hr
    exact ⟨as, .tuple (k _ hm) rfl rfl (by rw [List.toList_toArray]; exact r)⟩
  | _, _, .lst hm hr _ => by
    obtain ⟨as, r⟩ := VReps.reads k hr
    exact ⟨_ :: as, .list (k _ hm) rfl rfl (by rw [List.toList_toArray]; exact r)⟩
theorem VReps.reads {fro : Led} {h : Heap} (k : ∀ p ∈ fro, h.get? p.1 = some p.2) : ∀ {xs : List V} {vs : List Value}, VReps fro xs vs → ∃ as, ReadsAll h vs xs as
  | _, _, .nil => ⟨_, .nil⟩
  | _, _, .cons h t => by
    obtain ⟨as, r⟩ := VRep.reads k h
    obtain ⟨bs, q⟩ := VReps.reads k t
    exact ⟨_, .cons r q⟩
end
mutual
theorem VRep.lay {fro : Led} : ∀ {x : V} {v : Value}, VRep fro x v → x.canLay0 = true
  | _, _, .none => rfl
  | _, _, .bool b => rfl
  | _, _, .int i t => rfl
  | _, _, .str t hs _ => by unfold PyData.canLay0; exact hs
  | _, _, .tup hm hr _ => by unfold PyData.canLay0; exact hr.lay
  | _, _, .lst hm hr _ => by unfold PyData.canLay0; exact hr.lay
theorem VReps.lay {fro : Led} : ∀ {xs : List V} {vs : List Value}, VReps fro xs vs → PyData.canLayAll0 xs = true
  | _, _, .nil => rfl
  | _, _, .cons h t => by unfold PyData.canLayAll0; rw [h.lay, t.lay]; rfl
end
end
/-- the entries of a dict keyed by names -/
inductive Ents (W : Wd) : List (Str × PV) → List DictEntry → Prop
  | nil : Ents W [] []
  | cons {x : Str} {p : PV} {es : List (Str × PV)} {ds : List DictEntry} {hsh : Int} {t : Tok} {v : Value} (h : Rep W p v) (r : Ents W es ds) : Ents W ((x, p) :: es) (⟨hsh, .str x t, v⟩ :: ds)
inductive Slts (W : Wd) : List (Option PV) → List (Option Value) → Prop
  | nil : Slts W [] []
  | no {ps : List (Option PV)} {vs : List (Option Value)} (r : Slts W ps vs) : Slts W (none :: ps) (none :: vs)
  | yes {p : PV} {v : Value} {ps : List (Option PV)} {vs : List (Option Value)} (h : Rep W p v) (r : Slts W ps vs) : Slts W (some p :: ps) (some v :: vs)
section
variable {W W' : Wd}
theorem Ents.up (G : W.Le W') : ∀ {es : List (Str × PV)} {ds : List DictEntry}, Ents W es ds → Ents W' es ds
  | _, _, .nil => .nil
  | _, _, .cons h r => .cons (h.up G) (r.up G)
theorem Slts.up (G : W.Le W') : ∀ {es : List (Option PV)} {ds : List (Option Value)}, Slts W es ds → Slts W' es ds
  | _, _, .nil => .nil
  | _, _, .no r => .no (r.up G)
  | _, _, .yes h r => .yes (h.up G) (r.up G)
/-- what stands at an address -/
def ObjR (W : Wd) : AObj → Obj → Prop
  | .vlist xs, o => ∃ vs n, o = listOf vs.toArray n ∧ VReps W.fro xs vs ∧ vs.length ≤ sizeLine
  | .vrev ys, o => ∃ vs n, o = listOf vs.toArray n ∧ VReps W.fro ys.reverse vs ∧ vs.length ≤ sizeLine
  | .rlist xs, o => ∃ vs n, o = listOf vs.toArray n ∧ Reps W xs vs ∧ vs.length ≤ sizeLine
  | .inst C j fs, o => ∃ d vs, o = slotO C d vs ∧ W.mu[j]? = some d ∧ Slts W fs vs
  | .dict es, o => ∃ ds n, o = dictOf ds n ∧ Ents W es ds
  | .sset xs, o => ∃ es n t, o = setOb "set" es n t ∧ Mems W.P xs es t
  | .junk, _ => True
theorem ObjR.up (G : W.Le W') : ∀ {x : AObj} {o : Obj}, ObjR W x o → ObjR W' x o
  | .vlist _, _, ⟨vs, n, e, h, z⟩ => ⟨vs, n, e, h.up G.kp, z⟩
  | .vrev _, _, ⟨vs, n, e, h, z⟩ => ⟨vs, n, e, h.up G.kp, z⟩
  | .rlist _, _, ⟨vs, n, e, h, z⟩ => ⟨vs, n, e, h.up G, z⟩
  | .inst _ _ _, _, ⟨d, vs, e, h, h'⟩ => ⟨d, vs, e, G.num _ _ h, h'.up G⟩
  | .dict _, _, ⟨ds, n, e, h⟩ => ⟨ds, n, e, h.up G⟩
  | .sset _, _, ⟨es, n, t, e, h⟩ => ⟨es, n, t, e, G.P ▸ h⟩
  | .junk, _, _ => trivial
end
def AObj.live : AObj → Bool
  | .junk => false
  | _ => true
/-- the places where the code objects of tokenize_rule and of tags keep the code of what stands in them: they grow -/
def holes : List Addr := [114, 79]
def HoleO (o : Obj) : Prop := ∃ ps : Array Value, o = ({ cls := .none, data := .fields ps } : Obj) ∧ TriplesOk ps.toList
def HolOk (W : Wd) (news : Led) : Prop := ∀ a ∈ holes, (∃ o, (a, o) ∈ news ∧ HoleO o) ∧ a ∉ W.mu ∧ (∀ q ∈ W.fro, q.1 ≠ a) ∧ ∀ q ∈ W.ex, q.1 ≠ a
/-- the holes stand in the ledger -/
def HolIn (news : Led) : Prop := ∀ a ∈ holes, ∃ o, (a, o) ∈ news ∧ HoleO o
theorem HolOk.in_ {W : Wd} {news : Led} (h : HolOk W news) : HolIn news := fun a ha => (h a ha).1
theorem HolOk.mono {W : Wd} {news news' : Led} (h : HolOk W news) (k : ∀ p ∈ news, p ∈ news') : HolOk W news' := fun a ha => by
  obtain ⟨⟨o, h1, h2⟩, h3⟩ := h a ha
  exact ⟨⟨o, k _ h1, h2⟩, h3⟩
theorem HolOk.not {W : Wd} {news : Led} (h : HolOk W news) {a : Addr} (hn : ∀ p ∈ news, p.1 ≠ a) : a ∉ holes := fun ha => by
  obtain ⟨⟨o, h1, _⟩, _⟩ := h a ha
  exact hn _ h1 rfl
theorem HolOk.mu {W : Wd} {news : Led} (h : HolOk W news) {a : Addr} {i : Nat} (ha : W.mu[i]? = some a) : a ∉ holes := fun hh => (h a hh).2.1 (List.mem_of_getElem? ha)
theorem HolOk.fro {W : Wd} {news : Led} (h : HolOk W news) {a : Addr} {o : Obj} (hn : ∀ p ∈ news, p.1 ≠ a) : HolOk ⟨W.mu, (a, o) :: W.fro, W.ex, W.P⟩ ((a, o) :: news) := fun b hb => by
  have hab : a ≠ b := fun e => h.not hn (e ▸ hb)
  obtain ⟨⟨o', h1, h2⟩, h3, h4, h5⟩ := h b hb
  refine ⟨⟨o', .tail _ h1, h2⟩, h3, fun q hq => ?_, h5⟩
  rcases List.mem_cons.mp hq with rfl | hq
  · exact hab
  · exact h4 q hq
/-- the heap of numbered objects -/
structure HR (W : Wd) (news : Led) (H : List AObj) : Prop where
  len : W.mu.length = H.length
  nd : ∀ (i j : Nat) (x y : AObj) (a : Addr), H[i]? = some x → x.live = true → H[j]? = some y → y.live = true → W.mu[i]? = some a → W.mu[j]? = some a → i = j
  fro : ∀ p ∈ W.fro, p ∈ news
  exs : ∀ p ∈ W.ex, p ∈ news ∧ p.1 ∉ W.mu ∧ ∀ q ∈ W.fro, q.1 ≠ p.1
  own : ∀ a ∈ W.mu, ∃ p ∈ news, p.1 = a
  at_ : ∀ (i : Nat) (x : AObj) (a : Addr), H[i]? = some x → x.live = true → W.mu[i]? = some a → ∃ o, (a, o) ∈ news ∧ ObjR W x o
  apart : ∀ (i : Nat) (x : AObj) (a : Addr), H[i]? = some x → x.live = true → W.mu[i]? = some a → ∀ p ∈ W.fro, p.1 ≠ a
  hol : HolOk W news
end Rk
end
section
open PySem PySem.W PyProof.Rows
set_option maxRecDepth 100000
namespace Rk
def put (x : Str) (p : PV) : List (Str × PV) → List (Str × PV)
  | [] => [(x, p)]
  | (y, q) :: r => if y = x then (x, p) :: r else (y, q) :: put x p r
theorem put_lookup (x y : Str) (p : PV) : ∀ l, (put x p l).lookup y = if y = x then some p else l.lookup y
  | [] => by
    unfold put
    by_cases h : y = x
    · subst h; simp
    · have : (y == x) = false := by simpa using h
      simp [List.lookup, this, h]
  | (z, q) :: r => by
    unfold put
    by_cases hz : z = x
    · rw [if_pos hz]
      subst hz
      by_cases h : y = z
      · subst h; simp
      · have : (y == z) = false := by simpa using h
        simp [List.lookup, this, h]
    · rw [if_neg hz]
      by_cases h : y = z
      · subst h; simp [hz]
      · have : (y == z) = false := by simpa using h
        simp only [List.lookup, this]
        exact put_lookup x y p r
structure St where
  loc : List (Str × PV)
  H : List AObj
inductive Out (β : Type) where
  | ok (b : β) (σ : St)
  | exc (c : Value)
  | no
def Out.bind {β γ : Type} (o : Out β) (f : β → St → Out γ) : Out γ := match o with
  | .ok b σ => f b σ
  | .exc c => .exc c
  | .no => .no
/-- the program -/
structure Pg where
  p : Program
  q : Program
  loose : List Str
  K : Params → Frag
/-- a def of the program -/
structure Fn where
  nm : Str
  scope : Scope
  fa : Addr
  cd : Value
  mt : Bool := false
  prot : List Str := []
/-- where a function's body runs -/
structure Cx (G : Pg) (F : Fn) where
  w : World
  mean : ExcName → Option Value
  mg : Str → Option Value
  mb : Str → Option Value
  Ac : Around
  base : Heap
  h₀ : Heap
  outer : List Env
  L : Addr
  os : OsState
  EP : Value → Value → Shared → Prop
  dep : Nat
  pv : List (Str × Value) := []
section
variable {G : Pg} {F : Fn}
abbrev Cx.env (X : Cx G F) : Env := envOf F.nm F.scope X.L F.fa F.cd
abbrev Cx.A (X : Cx G F) : Around := X.Ac.deeper X.env
abbrev Cx.M (X : Cx G F) : Model := model G.p X.w
abbrev Cx.K (X : Cx G F) : Frag := G.K X.w.params
structure Cx.Ok (X : Cx G F) : Prop where
  below : Below X.Ac X.base X.outer X.h₀
  kin : X.K.In X.h₀
  top : Top G.q G.loose X.mean X.mg X.mb X.h₀
  kind : F.scope.kind = .function
  handled : X.Ac.handled = none
  guards : X.Ac.guards = some []
  depth : X.Ac.depth + 4 * X.dep + 2 < recursionLimit
  units : X.Ac.units + 20 * X.dep + 60 < cLine
  pass : ∀ c, PassesOwn X.M X.A X.env (X.EP c)
  prot : ∀ q ∈ X.pv, F.prot.contains q.1 = true
  made : F.prot.isEmpty = true → ∀ c e vs h s m news, Fr X.h₀ X.L h m → News X.h₀ X.L h news → HolIn news → Heap.MadeExcOf h s.heap e c vs → s.os = X.os → AllBare s.gens → X.EP c (.ref e) s
  passed : ∀ c e g s m news, (∀ q ∈ X.pv, m q.1 = some q.2) → Fr X.h₀ X.L g m → HolIn news → RaisedN X.base (X.env :: X.outer) e c news s.heap → g.UpToSlots s.heap → s.os = X.os → AllBare s.gens → X.EP c (.ref e) s
end
variable {G : Pg} {F : Fn}
structure InvX (X : Cx G F) (W : Wd) (σ : St) (s : Shared) (m : Str → Option Value) (news : Led) : Prop where
  fr : Fr X.h₀ X.L s.heap m
  nw : News X.h₀ X.L s.heap news
  nd : (news.map (·.1)).Nodup
  hr : HR W news σ.H
  loc : ∀ x p, σ.loc.lookup x = some p → ∃ v, m x = some v ∧ Rep W p v
  os : s.os = X.os ∧ ∀ q ∈ X.pv, m q.1 = some q.2
  gens : AllBare s.gens
  P : W.P = X.w.params
def Inv (X : Cx G F) (W : Wd) (σ : St) (s : Shared) : Prop := ∃ m news, InvX X W σ s m news
theorem Inv.toks {X : Cx G F} {W : Wd} {σ : St} {s : Shared} (I : Inv X W σ s) (t : Nat) : Inv X W σ { s with toks := t } := by
  obtain ⟨m, news, I⟩ := I
  exact ⟨m, news, ⟨I.fr, I.nw, I.nd, I.hr, I.loc, I.os, I.gens, I.P⟩⟩
theorem Inv.kept {X : Cx G F} {W : Wd} {σ : St} {s : Shared} {h' : Heap} {tk : Nat} (I : Inv X W σ s) (k : ∀ b o, s.heap.get? b = some o → h'.get? b = some o) : Inv X W σ { s with heap := h', toks := tk } := by
  obtain ⟨m, news, I⟩ := I
  exact ⟨m, news, ⟨I.fr.keeps k, fun p hp => ⟨k _ _ (I.nw p hp).1, (I.nw p hp).2⟩, I.nd, I.hr, I.loc, I.os, I.gens, I.P⟩⟩
/-- results of a kind -/
class Res (β α : Type) where
  rl : Wd → β → α → Prop
  up : ∀ {W W' : Wd} {b : β} {a : α}, W.Le W' → rl W b a → rl W' b a
instance : Res PV Value := ⟨Rep, fun G h => h.up G⟩
instance : Res (List PV) (List Value) := ⟨Reps, fun G h => h.up G⟩
instance : Res Bool Bool := ⟨fun _ b c => b = c, fun _ h => h⟩
instance : Res Unit Unit := ⟨fun _ _ _ => True, fun _ h => h⟩
inductive AFlow where
  | next | brk | cont
  | ret (v : PV)
inductive FRep (W : Wd) : AFlow → Flow → Prop
  | next : FRep W .next .next
  | brk : FRep W .brk .brk
  | cont : FRep W .cont .cont
  | ret {p : PV} {v : Value} (h : Rep W p v) : FRep W (.ret p) (.ret v)
instance : Res AFlow Flow := ⟨FRep, fun G h => by cases h <;> constructor; next h => exact h.up G⟩
def Post {β α : Type} [Res β α] (X : Cx G F) (W : Wd) (o : Out β) (a : α) (s : Shared) : Prop := ∃ W' b σ, W.Le W' ∧ o = .ok b σ ∧ Res.rl W' b a ∧ Inv X W' σ s
def EPO {β : Type} (X : Cx G F) (o : Out β) (v : Value) (s : Shared) : Prop := ∃ c, o = .exc c ∧ X.EP c v s
/-- the tree does what the reckoning says -/
def Sat {β α : Type} [Res β α] (X : Cx G F) (W : Wd) (t : Sem α) (σ : St) (o : Out β) : Prop :=
  o ≠ .no → ∀ s, Inv X W σ s → wpAny X.M X.A t (Post X W o) (EPO X o) s
section
variable {X : Cx G F} {W : Wd} {σ : St} {β α γ δ : Type} [Res β α] [Res γ δ]
theorem Sat.no {t : Sem α} : Sat (β := β) X W t σ .no := fun h => (h rfl).elim
theorem Sat.cast {t t' : Sem α} {o o' : Out β} (h : Sat X W t σ o) (e : t' = t) (e' : o' = o) : Sat X W t' σ o' := by subst e e'; exact h
theorem Sat.pure {b : β} {a : α} (h : Res.rl W b a) : Sat X W (Pure.pure a) σ (.ok b σ) := fun _ s I => wpAny_pure ⟨W, b, σ, .refl, rfl, h, I⟩
theorem bind_ok {o : Out β} {g : β → St → Out γ} (h : o.bind g ≠ .no) : o ≠ .no := fun e => h (by rw [e]; rfl)
theorem Sat.bind {t : Sem α} {f : α → Sem δ} {o : Out β} {g : β → St → Out γ} (h : Sat X W t σ o)
    (k : ∀ W' b a σ', W.Le W' → Res.rl W' b a → o = .ok b σ' → Sat X W' (f a) σ' (g b σ')) : Sat X W (t >>= f) σ (o.bind g) := by
  intro hne s I
  refine wpAny_bind (wpAny_mono (h (bind_ok hne) s I) (fun a s' ⟨W', b, σ', le, e, r, J⟩ => ?_) fun v s' ⟨c, e, q⟩ => ⟨c, by rw [e]; rfl, q⟩)
  subst e
  refine wpAny_mono (k W' b a σ' le r rfl hne s' J) (fun a' s'' ⟨W'', b', σ'', le', e', r', J'⟩ => ⟨W'', b', σ'', le.trans le', e', r', J'⟩) fun _ _ x => x
theorem Sat.standAt {pos : Pos} {t : Sem α} {o : Out β} (h : Sat X W t σ o) : Sat X W (do PySem.standAt pos; t) σ o :=
  fun hn s I => wpAny_bind (wpAny_standAt (h hn s I))
theorem Sat.holding {vs : List Value} {t : Sem α} {o : Out β} (h : Sat X W t σ o) : Sat X W (holding vs t) σ o :=
  fun hn s I => wpAny_holding (h hn s I)
theorem Sat.operate {vs : List Value} {t : Sem Value} {o : Out PV} (h : Sat X W t σ o) : Sat X W (operate vs t) σ o :=
  fun hn s I => wpAny_operateT (h hn s I)
/-- a tree that changes nothing that is numbered -/
theorem Sat.of {t : Sem α} {b : β} (h : ∀ s m news, InvX X W σ s m news → wpAny X.M X.A t (fun a s' => (∃ tk, s' = { s with toks := tk }) ∧ Res.rl W b a) (fun _ _ => False) s) : Sat X W t σ (.ok b σ) := by
  intro _ s I
  obtain ⟨m, news, J⟩ := id I
  exact wpAny_mono (h s m news J) (fun a s' ⟨⟨tk, e⟩, r⟩ => ⟨W, b, σ, .refl, rfl, r, by rw [e]; exact I.toks tk⟩) fun _ _ x => x.elim
end
section
variable {X : Cx G F} {W : Wd} {σ : St} {s : Shared} {m : Str → Option Value} {news : Led}
theorem InvX.inv (I : InvX X W σ s m news) : Inv X W σ s := ⟨m, news, I⟩
theorem InvX.get (I : InvX X W σ s m news) {p : Addr × Obj} (h : p ∈ news) : s.heap.get? p.1 = some p.2 := (I.nw p h).1
theorem InvX.k (I : InvX X W σ s m news) (ok : X.Ok) : X.K.In s.heap := ok.kin.keeps I.fr.keep
/-- the next object stands in no ledger -/
theorem InvX.new (I : InvX X W σ s m news) : ∀ p ∈ news, p.1 < s.heap.objs.size := fun p hp => Heap.lt_size (I.nw p hp).1
theorem nodup_get : ∀ {l : List Addr}, l.Nodup → ∀ {i j : Nat} {a : Addr}, l[i]? = some a → l[j]? = some a → i = j
  | [], _, i, j, a, h1, _ => by simp at h1
  | x :: l, n, 0, 0, a, _, _ => rfl
  | x :: l, n, 0, j + 1, a, h1, h2 => by
    have h1 : x = a := by simpa using h1
    subst h1
    exact absurd (List.mem_of_getElem? (by simpa using h2 : l[j]? = some x)) (List.nodup_cons.mp n).1
  | x :: l, n, i + 1, 0, a, h1, h2 => by
    have h2 : x = a := by simpa using h2
    subst h2
    exact absurd (List.mem_of_getElem? (by simpa using h1 : l[i]? = some x)) (List.nodup_cons.mp n).1
  | x :: l, n, i + 1, j + 1, a, h1, h2 => by
    rw [nodup_get (List.nodup_cons.mp n).2 (by simpa using h1 : l[i]? = some a) (by simpa using h2 : l[j]? = some a)]
/-- a frozen object is added -/
theorem InvX.addFro {o : Obj} {h' : Heap} {tk : Nat} (I : InvX X W σ s m news) (F' : Fr X.h₀ X.L h' m) (N' : News X.h₀ X.L h' ((s.heap.objs.size, o) :: news)) :
    InvX X ⟨W.mu, (s.heap.objs.size, o) :: W.fro, W.ex, W.P⟩ σ { s with heap := h', toks := tk } m ((s.heap.objs.size, o) :: news) ∧ W.Le ⟨W.mu, (s.heap.objs.size, o) :: W.fro, W.ex, W.P⟩ := by
  have le : W.Le ⟨W.mu, (s.heap.objs.size, o) :: W.fro, W.ex, W.P⟩ := ⟨fun _ _ e => e, fun p hp => List.mem_cons_of_mem _ hp, rfl, rfl⟩
  refine ⟨⟨F', N', ?_, ⟨I.hr.len, I.hr.nd, ?_, fun p hp => ⟨.tail _ (I.hr.exs p hp).1, (I.hr.exs p hp).2.1, fun q hq => by
    rcases List.mem_cons.mp hq with rfl | hq
    · exact fun e => absurd (I.new p (I.hr.exs p hp).1) (by rw [← e]; exact Nat.lt_irrefl _)
    · exact (I.hr.exs p hp).2.2 q hq⟩, fun a ha => (I.hr.own a ha).imp fun p q => ⟨.tail _ q.1, q.2⟩, ?_, ?_, I.hr.hol.fro fun p hp => Nat.ne_of_lt (I.new p hp)⟩, fun x p e => ?_, I.os, I.gens, I.P⟩, le⟩
  · rw [List.map_cons, List.nodup_cons]
    refine ⟨fun q => ?_, I.nd⟩
    obtain ⟨p, hp, e⟩ := List.mem_map.mp q
    exact absurd (I.new p hp) (by rw [e]; exact Nat.lt_irrefl _)
  · intro p hp
    rcases List.mem_cons.mp hp with rfl | hp
    · exact .head _
    · exact .tail _ (I.hr.fro p hp)
  · intro i x a hi hl ha
    obtain ⟨o', ho, hx⟩ := I.hr.at_ i x a hi hl ha
    exact ⟨o', .tail _ ho, hx.up le⟩
  · intro i x a hi hl ha p hp
    rcases List.mem_cons.mp hp with rfl | hp
    · obtain ⟨o', ho, _⟩ := I.hr.at_ i x a hi hl ha
      exact fun q => absurd (I.new _ ho) (by rw [← q]; exact Nat.lt_irrefl _)
    · exact I.hr.apart i x a hi hl ha p hp
  · obtain ⟨v, hv, hr⟩ := I.loc x p e
    exact ⟨v, hv, hr.up le⟩
end
end Rk
end
section
open PySem PySem.W PyProof.Rows
set_option maxRecDepth 100000
namespace Rk
def swapIn (a : Addr) (o' : Obj) (news : Led) : Led := news.map fun p => if p.1 = a then (a, o') else p
theorem swapIn_keys (a : Addr) (o' : Obj) (news : Led) : (swapIn a o' news).map (·.1) = news.map (·.1) := by
  unfold swapIn
  rw [List.map_map]
  refine List.map_congr_left fun p _ => ?_
  show (if p.1 = a then (a, o') else p).1 = p.1
  split
  · rename_i h; exact h.symm
  · rfl
theorem swapIn_none {a : Addr} {o' : Obj} : ∀ {news : Led}, (∀ p ∈ news, p.1 ≠ a) → swapIn a o' news = news
  | [], _ => rfl
  | p :: r, h => by
    unfold swapIn
    rw [List.map_cons, if_neg (h p (.head _))]
    exact congrArg _ (swapIn_none fun q hq => h q (.tail _ hq))
theorem upd_of {a : Addr} {o : Obj} (o' : Obj) : ∀ {news : Led}, (news.map (·.1)).Nodup → (a, o) ∈ news → Upd a o o' news (swapIn a o' news)
  | p :: r, nd, h => by
    rw [List.map_cons, List.nodup_cons] at nd
    unfold swapIn
    rw [List.map_cons]
    rcases List.mem_cons.mp h with rfl | h
    · have hr : ∀ q ∈ r, q.1 ≠ a := fun q hq e => nd.1 (List.mem_map.mpr ⟨q, hq, e⟩)
      rw [if_pos rfl, show r.map (fun p => if p.1 = a then (a, o') else p) = r from swapIn_none hr]
      exact .head hr
    · have hp : p.1 ≠ a := fun e => nd.1 (List.mem_map.mpr ⟨_, h, e.symm⟩)
      rw [if_neg hp]
      exact .tail hp (upd_of o' nd.2 h)
theorem mem_swapIn {a : Addr} {o' : Obj} {news : Led} {p : Addr × Obj} (h : p ∈ news) (hp : p.1 ≠ a) : p ∈ swapIn a o' news :=
  List.mem_map.mpr ⟨p, h, if_neg hp⟩
theorem HolOk.swap {W : Wd} {news : Led} (h : HolOk W news) {a : Addr} {o' : Obj} (hn : a ∉ holes) : HolOk W (swapIn a o' news) := fun b hb => by
  obtain ⟨⟨o, h1, h2⟩, h3⟩ := h b hb
  exact ⟨⟨o, mem_swapIn h1 (fun (e : b = a) => hn (e ▸ hb)), h2⟩, h3⟩
theorem mem_swapIn_self {a : Addr} {o o' : Obj} {news : Led} (h : (a, o) ∈ news) : (a, o') ∈ swapIn a o' news :=
  List.mem_map.mpr ⟨_, h, if_pos rfl⟩
theorem key_inj {news : Led} (nd : (news.map (·.1)).Nodup) {a : Addr} {o o' : Obj} (h : (a, o) ∈ news) (h' : (a, o') ∈ news) : o = o' := by
  induction news with
  | nil => cases h
  | cons p r ih =>
    rw [List.map_cons, List.nodup_cons] at nd
    rcases List.mem_cons.mp h with e | h1
    · rcases List.mem_cons.mp h' with e' | h2
      · exact (Prod.mk.inj (e.trans e'.symm)).2
      · exact absurd (List.mem_map.mpr ⟨(a, o'), h2, (show a = p.1 from congrArg Prod.fst e)⟩) nd.1
    · rcases List.mem_cons.mp h' with e | h2
      · exact absurd (List.mem_map.mpr ⟨(a, o), h1, (show a = p.1 from congrArg Prod.fst e)⟩) nd.1
      · exact ih nd.2 h1 h2
section
variable {W : Wd} {news : Led} {H : List AObj}
/-- an object of the ledger changes -/
theorem HR.set (R : HR W news H) {i : Nat} {x x' : AObj} {a : Addr} {o o' : Obj} (hi : H[i]? = some x) (hl : x.live = true) (ha : W.mu[i]? = some a) (ho : (a, o) ∈ news) (h : ObjR W x' o') :
    HR W (swapIn a o' news) (H.set i x') := by
  have back : ∀ (j : Nat) (y : AObj), (H.set i x')[j]? = some y → y.live = true → ∃ y', H[j]? = some y' ∧ y'.live = true := fun j y hj hy => by
    by_cases e : i = j
    · subst e; exact ⟨x, hi, hl⟩
    · rw [List.getElem?_set_ne e] at hj; exact ⟨y, hj, hy⟩
  refine ⟨by rw [List.length_set]; exact R.len, fun j k y z b hj hy hk hz h1 h2 => by
    obtain ⟨y', e1, e2⟩ := back j y hj hy
    obtain ⟨z', e3, e4⟩ := back k z hk hz
    exact R.nd j k y' z' b e1 e2 e3 e4 h1 h2, fun p hp => mem_swapIn (R.fro p hp) (R.apart i x a hi hl ha p hp), fun p hp => ⟨mem_swapIn (R.exs p hp).1 fun q => (R.exs p hp).2.1 (q ▸ List.mem_of_getElem? ha), (R.exs p hp).2⟩, fun b hb => by
    obtain ⟨p, hp, e⟩ := R.own b hb
    have : b ∈ (swapIn a o' news).map (·.1) := by rw [swapIn_keys]; exact List.mem_map.mpr ⟨p, hp, e⟩
    exact List.mem_map.mp this, fun j y b hj hy hb => ?_, fun j y b hj hy hb p hp => ?_, R.hol.swap (R.hol.mu ha)⟩
  · by_cases e : i = j
    · subst e
      rw [ha] at hb; cases hb
      rw [List.getElem?_set_self (List.getElem?_eq_some_iff.mp hi).1] at hj; cases hj
      exact ⟨o', mem_swapIn_self ho, h⟩
    · rw [List.getElem?_set_ne e] at hj
      obtain ⟨o₁, h1, h2⟩ := R.at_ j y b hj hy hb
      exact ⟨o₁, mem_swapIn h1 (fun (q : b = a) => e (R.nd i j x y a hi hl hj hy ha (q ▸ hb))), h2⟩
  · by_cases e : i = j
    · subst e
      rw [ha] at hb; cases hb
      exact R.apart i x a hi hl ha p hp
    · rw [List.getElem?_set_ne e] at hj
      exact R.apart j y b hj hy hb p hp
/-- an object is numbered -/
theorem HR.push (R : HR W news H) {a : Addr} {o : Obj} {x : AObj} (hn : ∀ p ∈ news, p.1 ≠ a) (h : ObjR ⟨W.mu ++ [a], W.fro, W.ex, W.P⟩ x o) : HR ⟨W.mu ++ [a], W.fro, W.ex, W.P⟩ ((a, o) :: news) (H ++ [x]) ∧ W.Le ⟨W.mu ++ [a], W.fro, W.ex, W.P⟩ := by
  have hm : a ∉ W.mu := fun h => by
    obtain ⟨p, hp, e⟩ := R.own a h
    exact hn p hp e
  have le : W.Le ⟨W.mu ++ [a], W.fro, W.ex, W.P⟩ := ⟨fun i b e => by rw [List.getElem?_append_left (List.getElem?_eq_some_iff.mp e).1]; exact e, fun p hp => hp, rfl, rfl⟩
  refine ⟨⟨?_, ?_, fun p hp => .tail _ (R.fro p hp), fun p hp => ⟨.tail _ (R.exs p hp).1, fun q => ?_, (R.exs p hp).2.2⟩, fun b hb => ?_, fun j y b hj hy hb => ?_, fun j y b hj hy hb p hp => ?_, fun b hb => ?_⟩, le⟩
  rotate_right 1
  · obtain ⟨⟨o', h1, h2⟩, h3, h4⟩ := R.hol b hb
    refine ⟨⟨o', .tail _ h1, h2⟩, fun q => ?_, h4⟩
    rcases List.mem_append.mp q with q | q
    · exact h3 q
    · exact hn _ h1 (List.mem_singleton.mp q)
  · simp only [List.length_append, List.length_singleton, R.len]
  · have cut : ∀ (j : Nat) (y : AObj) (b : Addr), (H ++ [x])[j]? = some y → (W.mu ++ [a])[j]? = some b → (H[j]? = some y ∧ W.mu[j]? = some b) ∨ (j = H.length ∧ b = a) := fun j y b hj hb => by
      by_cases e : j < H.length
      · rw [List.getElem?_append_left e] at hj
        rw [List.getElem?_append_left (R.len ▸ e)] at hb
        exact .inl ⟨hj, hb⟩
      · have ej : j = H.length := by
          have := (List.getElem?_eq_some_iff.mp hj).1
          simp only [List.length_append, List.length_singleton] at this
          omega
        subst ej
        rw [List.getElem?_append_right (Nat.le_of_eq R.len), R.len, Nat.sub_self] at hb
        exact .inr ⟨rfl, by simpa using hb.symm⟩
    intro j k y z b hj hy hk hz h1 h2
    rcases cut j y b hj h1 with ⟨e1, e2⟩ | ⟨e1, e2⟩
    · rcases cut k z b hk h2 with ⟨e3, e4⟩ | ⟨e3, e4⟩
      · exact R.nd j k y z b e1 hy e3 hz e2 e4
      · exact absurd (List.mem_of_getElem? e2) (e4 ▸ hm)
    · rcases cut k z b hk h2 with ⟨e3, e4⟩ | ⟨e3, e4⟩
      · exact absurd (List.mem_of_getElem? e4) (e2 ▸ hm)
      · exact e1.trans e3.symm
  · rcases List.mem_append.mp q with q | q
    · exact (R.exs p hp).2.1 q
    · exact hn p (R.exs p hp).1 (List.mem_singleton.mp q)
  · rcases List.mem_append.mp hb with hb | hb
    · exact (R.own b hb).imp fun p q => ⟨.tail _ q.1, q.2⟩
    · exact ⟨_, .head _, (List.mem_singleton.mp hb).symm⟩
  · by_cases e : j < H.length
    · rw [List.getElem?_append_left e] at hj
      rw [List.getElem?_append_left (R.len ▸ e)] at hb
      obtain ⟨o₁, h1, h2⟩ := R.at_ j y b hj hy hb
      exact ⟨o₁, .tail _ h1, h2.up le⟩
    · have ej : j = H.length := by
        have := (List.getElem?_eq_some_iff.mp hj).1
        simp only [List.length_append, List.length_singleton] at this
        omega
      subst ej
      rw [List.getElem?_append_right (Nat.le_refl _), Nat.sub_self] at hj
      have hj : x = y := by simpa using hj
      rw [List.getElem?_append_right (Nat.le_of_eq R.len), R.len, Nat.sub_self] at hb
      have hb : a = b := by simpa using hb
      subst hj; subst hb
      exact ⟨o, .head _, h⟩
  · by_cases e : j < H.length
    · rw [List.getElem?_append_left e] at hj
      rw [List.getElem?_append_left (R.len ▸ e)] at hb
      exact R.apart j y b hj hy hb p hp
    · have ej : j = H.length := by
        have := (List.getElem?_eq_some_iff.mp hj).1
        simp only [List.length_append, List.length_singleton] at this
        omega
      subst ej
      rw [List.getElem?_append_right (Nat.le_of_eq R.len), R.len, Nat.sub_self] at hb
      have hb : a = b := by simpa using hb
      subst hb
      exact hn p (R.fro p hp)
/-- freezing -/
def frz1 (H : List AObj) : PV → Option (V × List AObj)
  | .v x => some (x, H)
  | .ref i => match H[i]? with
    | some (.vlist xs) => some (.list xs, H.set i .junk)
    | _ => none
  | _ => none
def frzAll (H : List AObj) : List PV → Option (List V × List AObj)
  | [] => some ([], H)
  | p :: r => (frz1 H p).bind fun y => (frzAll y.2 r).map fun z => (y.1 :: z.1, z.2)
theorem HR.addFro (R : HR W news H) {i : Nat} {x : AObj} {a : Addr} {o : Obj} (hi : H[i]? = some x) (hl : x.live = true) (ha : W.mu[i]? = some a) (ho : (a, o) ∈ news) :
    HR ⟨W.mu, (a, o) :: W.fro, W.ex, W.P⟩ news (H.set i .junk) ∧ W.Le ⟨W.mu, (a, o) :: W.fro, W.ex, W.P⟩ := by
  have le : W.Le ⟨W.mu, (a, o) :: W.fro, W.ex, W.P⟩ := ⟨fun _ _ e => e, fun p hp => .tail _ hp, rfl, rfl⟩
  have back : ∀ (j : Nat) (y : AObj), (H.set i .junk)[j]? = some y → y.live = true → H[j]? = some y := fun j y hj hy => by
    by_cases e : i = j
    · subst e
      rw [List.getElem?_set_self (List.getElem?_eq_some_iff.mp hi).1] at hj; cases hj; cases hy
    · rw [List.getElem?_set_ne e] at hj; exact hj
  refine ⟨⟨by rw [List.length_set]; exact R.len, fun j k y z b hj hy hk hz h1 h2 => R.nd j k y z b (back j y hj hy) hy (back k z hk hz) hz h1 h2, fun p hp => ?_, fun p hp => ⟨(R.exs p hp).1, (R.exs p hp).2.1, fun q hq => ?_⟩, R.own, fun j y b hj hy hb => ?_, fun j y b hj hy hb p hp => ?_, fun b hb => ?_⟩, le⟩
  rotate_right 1
  · obtain ⟨h1, h3, h4, h5⟩ := R.hol b hb
    refine ⟨h1, h3, fun q hq => ?_, h5⟩
    rcases List.mem_cons.mp hq with rfl | hq
    · exact fun (e : a = b) => h3 (e ▸ List.mem_of_getElem? ha)
    · exact h4 q hq
  · rcases List.mem_cons.mp hp with rfl | hp
    · exact ho
    · exact R.fro p hp
  · rcases List.mem_cons.mp hq with rfl | hq
    · exact fun (e : a = p.1) => (R.exs p hp).2.1 (e ▸ List.mem_of_getElem? ha)
    · exact (R.exs p hp).2.2 q hq
  · by_cases e : i = j
    · subst e
      rw [List.getElem?_set_self (List.getElem?_eq_some_iff.mp hi).1] at hj; cases hj; cases hy
    · rw [List.getElem?_set_ne e] at hj
      obtain ⟨o₁, h1, h2⟩ := R.at_ j y b hj hy hb
      exact ⟨o₁, h1, h2.up le⟩
  · by_cases e : i = j
    · subst e
      rw [List.getElem?_set_self (List.getElem?_eq_some_iff.mp hi).1] at hj; cases hj; cases hy
    · rw [List.getElem?_set_ne e] at hj
      rcases List.mem_cons.mp hp with rfl | hp
      · exact fun (q : a = b) => e (R.nd i j x y a hi hl hj hy ha (q ▸ hb))
      · exact R.apart j y b hj hy hb p hp
theorem HR.frz1 (R : HR W news H) {p : PV} {v : Value} {x : V} {H' : List AObj} (h : Rep W p v) (e : Rk.frz1 H p = some (x, H')) : ∃ W', W.Le W' ∧ HR W' news H' ∧ VRep W'.fro x v := by
  cases h with
  | v h => cases e; exact ⟨W, .refl, R, h⟩
  | ref h =>
    unfold Rk.frz1 at e
    dsimp only at e
    split at e
    · rename_i xs hi
      cases e
      obtain ⟨o, ho, vs, n, rfl, hv, hz⟩ := R.at_ _ _ _ hi rfl h
      obtain ⟨R', le⟩ := R.addFro hi rfl h ho
      exact ⟨_, le, R', .lst (.head _) (hv.up le.kp) hz⟩
    · cases e
  | _ => cases e
theorem HR.frzAll : ∀ {ps : List PV} {vs : List Value} {W : Wd} {H : List AObj} {xs : List V} {H' : List AObj}, HR W news H → Reps W ps vs → Rk.frzAll H ps = some (xs, H') → ∃ W', W.Le W' ∧ HR W' news H' ∧ VReps W'.fro xs vs
  | _, _, W, H, _, _, R, .nil, e => by cases e; exact ⟨W, .refl, R, .nil⟩
  | _, _, W, H, _, _, R, .cons h t, e => by
    unfold Rk.frzAll at e
    rw [Option.bind_eq_some_iff] at e
    obtain ⟨⟨y, H₁⟩, e1, e2⟩ := e
    rw [Option.map_eq_some_iff] at e2
    obtain ⟨⟨zs, H₂⟩, e2, e3⟩ := e2
    cases e3
    obtain ⟨W₁, le₁, R₁, h₁⟩ := R.frz1 h e1
    obtain ⟨W₂, le₂, R₂, h₂⟩ := R₁.frzAll (t.up le₁) e2
    exact ⟨W₂, le₁.trans le₂, R₂, .cons (h₁.up le₂.kp) h₂⟩
end
section
variable {G : Pg} {F : Fn} {X : Cx G F} {W : Wd} {σ : St} {s : Shared} {m : Str → Option Value} {news : Led}
/-- what the ledger's heap becomes -/
theorem InvX.re {W' : Wd} {H' : List AObj} (I : InvX X W σ s m news) (le : W.Le W') (R : HR W' news H') : InvX X W' ⟨σ.loc, H'⟩ s m news :=
  ⟨I.fr, I.nw, I.nd, R, fun x p e => by obtain ⟨v, hv, hr⟩ := I.loc x p e; exact ⟨v, hv, hr.up le⟩, I.os, I.gens, le.P.trans I.P⟩
end
end Rk
end
section
open PySem PySem.W PyProof.Rows
set_option maxRecDepth 100000
namespace Rk
/-- a def, as the reckoning reads it -/
structure FnI where
  nm : Str
  scope : Scope
  cd : Value
  names : List Str
  dfl : List (V × Value)
  body : List Stmt
  mt : Bool
  keepR : Bool
def FnI.fn (f : FnI) (a : Addr) : Fn := ⟨f.nm, f.scope, a, f.cd, f.mt, []⟩
structure ClI where
  init : Addr
  attrs : List Str
  slots : List (Str × Nat × Addr)
  meths : List (Str × Addr)
  props : List (Str × Addr × Addr)
  cms : List (Str × Addr × Addr)
/-- the tables of the program -/
structure Tb where
  globs : List (Str × Value)
  bis : List (Str × Value)
  vals : List (Addr × V)
  sets : List (Addr × List Str)
  fns : List (Addr × FnI)
  clss : List (Addr × ClI)
  pat : Option Addr
  rx : Str → Nat → Option (Option (List Int))
  N : Nat
structure Ev where
  ev : Fn → Expr → St → Out PV
  tr : Fn → Expr → St → Out Bool
  ex : Fn → List Stmt → St → Out AFlow
  fn : Addr → List PV → St → Out PV
def fitsN (n : Nat) : Bool := Nat.ble n sizeLine
def okO {β : Type} (o : Option β) (σ : St) : Out β := match o with
  | some b => .ok b σ
  | none => .no
def vO (o : Option V) (σ : St) : Out PV := match o with
  | some b => .ok (.v b) σ
  | none => .no
def isStar : Expr → Bool
  | .Starred .. => true
  | _ => false
def evs (E : Ev) (F : Fn) : List Expr → St → Out (List PV)
  | [], σ => .ok [] σ
  | e :: r, σ => match isStar e with
    | true => .no
    | false => (E.ev F e σ).bind fun p σ => (evs E F r σ).bind fun ps σ => .ok (p :: ps) σ
def constE : Const → St → Out PV
  | .none, σ => .ok (.v .none) σ
  | .bool b, σ => .ok (.v (.bool b)) σ
  | .int i, σ => .ok (.v (.int i)) σ
  | .str s, σ => match PyData.strOk s && fitsN s.length with
    | true => .ok (.v (.str s)) σ
    | false => .no
  | _, _ => .no
def nameE (T : Tb) (F : Fn) (x : Str) (σ : St) : Out PV := match x == ("__debug__" : Str) with
  | true => .no
  | false => match F.scope.names.lookup x with
    | some .local => okO (σ.loc.lookup x) σ
    | some .globalImplicit => (match T.globs.lookup x with
      | some v => .ok (.cst v) σ
      | none => (match T.bis.lookup x with
        | some v => .ok (.cst v) σ
        | none => .no))
    | _ => .no
/-- is it true -/
def truV : V → Bool
  | .none => false
  | .bool b => b
  | .int i => i != 0
  | .str s => !(s.length == 0)
  | .list xs => !xs.isEmpty
  | .tuple xs => !xs.isEmpty
  | .dict _ => false
def isDict : V → Bool
  | .dict _ => true
  | _ => false
def truE (H : List AObj) : PV → Option Bool
  | .v x => match isDict x with
    | true => none
    | false => some (truV x)
  | .ref i => (match H[i]? with
    | some (.vlist xs) => some (!xs.isEmpty)
    | some (.vrev xs) => some (!xs.isEmpty)
    | some (.rlist xs) => some (!xs.isEmpty)
    | _ => none)
  | _ => none
def binE (op : Operator) (a b : PV) (_H : List AObj) : Option V := match op, a, b with
  | .Add, .v (.int x), .v (.int y) => some (.int (x + y))
  | .Sub, .v (.int x), .v (.int y) => some (.int (x - y))
  | .Mod, .v (.int x), .v (.int y) => (match y == 0 with
    | true => none
    | false => some (.int (x.fmod y)))
  | .FloorDiv, .v (.int x), .v (.int y) => (match y == 0 || !(decide (y.natAbs < 1073741824)) with
    | true => none
    | false => some (.int (x.fdiv y)))
  | .Add, .v (.str x), .v (.str y) => (match fitsN (x.length + y.length) with
    | true => some (.str (x ++ y))
    | false => none)
  | .Add, .v (.list x), .v (.list y) => (match fitsN (x.length + y.length) with
    | true => some (.list (x ++ y))
    | false => none)
  | _, _, _ => none
def isNone : PV → Option Bool
  | .v .none => some true
  | .v _ => some false
  | .ref _ => some false
  | .mat _ _ => some false
  | .fset _ => some false
  | _ => none
def lowD (x : V) : Bool := Nat.ble x.depth 20
def inL (x : V) (ys : List V) : Option Bool := match Nat.ble (PyData.depthAll ys) 20 with
  | true => some (ys.any fun y => PyData.eqv y x)
  | false => none
def inE (T : Tb) (H : List AObj) (a b : PV) : Option Bool := match a, b with
  | .v x, .v (.list ys) => inL x ys
  | .v x, .v (.tuple ys) => inL x ys
  | .v (.str x), .cst (.ref c) => (match T.vals.lookup c with
    | some (.tuple ys) => inL (.str x) ys
    | _ => (match T.sets.lookup c with
      | some ys => some (ys.contains x)
      | none => none))
  | .v (.str x), .ref i => (match H[i]? with
    | some (.sset ys) => some (ys.contains x)
    | _ => none)
  | _, _ => none
def cmpE (T : Tb) (op : CmpOp) (a b : PV) (H : List AObj) : Option Bool := match op, a, b with
  | .Eq, .v x, .v y => (match lowD y with
    | true => some (PyData.eqv x y)
    | false => none)
  | .NotEq, .v x, .v y => (match lowD y with
    | true => some (!PyData.eqv x y)
    | false => none)
  | .Lt, .v (.int x), .v (.int y) => some (decide (x < y))
  | .LtE, .v (.int x), .v (.int y) => some (decide (x ≤ y))
  | .Gt, .v (.int x), .v (.int y) => some (decide (x > y))
  | .GtE, .v (.int x), .v (.int y) => some (decide (x ≥ y))
  | .In, a, b => inE T H a b
  | .NotIn, a, b => (inE T H a b).map (!·)
  | .Is, a, .v .none => isNone a
  | .IsNot, a, .v .none => (isNone a).map (!·)
  | _, _, _ => none
def atI {α : Type} (xs : List α) (k : Int) : Option α := match decide (0 ≤ k) with
  | true => match decide (k < 2 ^ 63) with
    | true => xs[k.toNat]?
    | false => none
  | false => match decide (-(xs.length : Int) ≤ k ∧ -(2 ^ 63) ≤ k) with
    | true => xs[(k + xs.length).toNat]?
    | false => none
def subE (a i : PV) (H : List AObj) : Option PV := match a, i with
  | .v (.list xs), .v (.int k) => (atI xs k).map .v
  | .v (.tuple xs), .v (.int k) => (atI xs k).map .v
  | .v (.str x), .v (.int k) => (match fitsSsize k && (Txt.charAt x k).isSome && PyData.strOk (Txt.item x k) with
    | true => some (.v (.str (Txt.item x k)))
    | false => none)
  | .ref j, .v (.int k) => (match H[j]? with
    | some (.vlist xs) => (atI xs k).map .v
    | some (.vrev ys) => (match k == -1 with
      | true => (match ys with
        | y :: _ => some (.v y)
        | [] => none)
      | false => none)
    | some (.rlist xs) => atI xs k
    | _ => none)
  | _, _ => none
def boolE (E : Ev) (F : Fn) (op : BoolOp) : List Expr → St → Out PV
  | [], _ => .no
  | [x], σ => E.ev F x σ
  | x :: r, σ => (E.ev F x σ).bind fun p σ => match truE σ.H p with
    | none => .no
    | some t => (match op, t with
      | .And, false => .ok p σ
      | .Or, true => .ok p σ
      | _, _ => boolE E F op r σ)
def allTrE (E : Ev) (F : Fn) (op : BoolOp) : List Expr → St → Out Bool
  | [], σ => .ok (op == .And) σ
  | x :: r, σ => (E.tr F x σ).bind fun t σ => match op, t with
    | .And, false => .ok false σ
    | .Or, true => .ok true σ
    | _, _ => allTrE E F op r σ
def listE (mt : Bool) (ps : List PV) (σ : St) : Out PV := match fitsN ps.length with
  | false => .no
  | true => match mt, allV ps with
    | false, some xs => .ok (.v (.list xs)) σ
    | false, none => .no
    | true, some xs => .ok (.ref σ.H.length) ⟨σ.loc, σ.H ++ [.vlist xs]⟩
    | true, none => .ok (.ref σ.H.length) ⟨σ.loc, σ.H ++ [.rlist ps]⟩
def tupE (ps : List PV) (σ : St) : Out PV := match fitsN ps.length with
  | false => .no
  | true => match frzAll σ.H ps with
    | some (xs, H) => .ok (.v (.tuple xs)) ⟨σ.loc, H⟩
    | none => .no
end Rk
end
section
open PySem PySem.W PyProof.Rows
set_option maxRecDepth 100000
namespace Rk
theorem fitsN_le {n : Nat} (h : fitsN n = true) : n ≤ sizeLine := Nat.le_of_ble_eq_true h
theorem line63 : (sizeLine : Int) < 2 ^ 63 := by decide
section
variable {G : Pg} {F : Fn} {X : Cx G F} {W : Wd} {σ : St}
theorem InvX.kept {s : Shared} {m : Str → Option Value} {news : Led} (I : InvX X W σ s m news) : ∀ p ∈ W.fro, s.heap.get? p.1 = some p.2 := fun p hp => I.get (I.hr.fro p hp)
theorem InvX.at_ {s : Shared} {m : Str → Option Value} {news : Led} (I : InvX X W σ s m news) {i : Nat} {a : Addr} {x : AObj} (hi : σ.H[i]? = some x) (hl : x.live = true) (ha : W.mu[i]? = some a) : ∃ o, (a, o) ∈ news ∧ ObjR W x o := I.hr.at_ i x a hi hl ha
/-- what asks and changes nothing -/
theorem Sat.pr {β α : Type} [Res β α] {t : Sem α} {b : β} {o : Out β} (e : o = .ok b σ) (h : ∀ s m news, InvX X W σ s m news → ∀ Q : α → Shared → Prop, (∀ a tk, Res.rl W b a → Q a { s with toks := tk }) → wpAny X.M X.A t Q (EPO X o) s) : Sat X W t σ o := by
  intro _ s I
  obtain ⟨m, news, J⟩ := id I
  exact h s m news J _ fun a tk r => ⟨W, b, σ, .refl, e, r, I.toks tk⟩
theorem isList_of {s : Shared} {m : Str → Option Value} {news : Led} (I : InvX X W σ s m news) {a : Addr} {vs : List Value} {n : Nat} (h : (a, listOf vs.toArray n) ∈ news) : s.heap.IsList a vs.toArray := ⟨_, I.get h, rfl, n, rfl⟩
theorem isTup_of {s : Shared} {m : Str → Option Value} {news : Led} (I : InvX X W σ s m news) {a : Addr} {vs : List Value} (h : (a, tupO vs) ∈ news) : IsTup s.heap a vs.toArray := ⟨_, I.get h, rfl, _, rfl⟩
theorem emp_of {α β : Type} {xs : List α} {vs : List β} (h : vs.length = xs.length) : vs.toArray.isEmpty = xs.isEmpty := by
  cases xs with
  | nil => cases vs with
    | nil => rfl
    | cons _ _ => cases h
  | cons _ _ => cases vs with
    | nil => cases h
    | cons _ _ => rfl
theorem truE_sat {p : PV} {v : Value} (r : Rep W p v) : Sat X W (truthy v) σ (okO (truE σ.H p) σ) := by
  cases r with
  | v h =>
    cases h with
    | none => exact Sat.pr rfl fun s m news I Q q => wpAny_pure (q _ s.toks rfl)
    | bool b => exact Sat.pr rfl fun s m news I Q q => wpAny_pure (q _ s.toks rfl)
    | int i t => exact Sat.pr rfl fun s m news I Q q => P.truthy_int (q _ s.toks rfl)
    | str t hs hz =>
      rename_i x
      refine Sat.pr (b := truV (.str x)) rfl fun s m news I Q q => P.truthy_str (by have := line63; omega) (q _ _ ?_)
      show (!(x.length == 0)) = ((x.length : Int) != 0)
      cases x.length <;> rfl
    | tup hm hr hz =>
      rename_i ps vs a
      refine Sat.pr (b := truV (.tuple ps)) rfl fun s m news I Q q => truthy_tuple (isTup_of I (I.hr.fro _ hm)) (by have := line63; rw [List.size_toArray]; omega) (q _ _ ?_)
      show (!ps.isEmpty) = !vs.toArray.isEmpty
      rw [emp_of hr.length]
    | lst hm hr hz =>
      rename_i ps vs a n
      refine Sat.pr (b := truV (.list ps)) rfl fun s m news I Q q => wpAny_truthy_list (isList_of I (I.hr.fro _ hm)) (by have := line63; rw [List.size_toArray]; omega) (q _ _ ?_)
      show (!ps.isEmpty) = !vs.toArray.isEmpty
      rw [emp_of hr.length]
  | ref h =>
    rename_i i a
    intro hn
    unfold truE at hn ⊢
    dsimp only at hn ⊢
    split at hn
    · rename_i xs hi
      refine Sat.pr (b := !xs.isEmpty) rfl (fun s m news I Q q => ?_) (by intro h; cases h)
      obtain ⟨o, ho, vs, n, rfl, hv, hz⟩ := I.at_ hi rfl h
      refine wpAny_truthy_list (isList_of I ho) (by have := line63; rw [List.size_toArray]; omega) (q _ _ ?_)
      show (!xs.isEmpty) = !vs.toArray.isEmpty
      rw [emp_of hv.length]
    · rename_i xs hi
      refine Sat.pr (b := !xs.isEmpty) rfl (fun s m news I Q q => ?_) (by intro h; cases h)
      obtain ⟨o, ho, vs, n, rfl, hv, hz⟩ := I.at_ hi rfl h
      refine wpAny_truthy_list (isList_of I ho) (by have := line63; rw [List.size_toArray]; omega) (q _ _ ?_)
      show (!xs.isEmpty) = !vs.toArray.isEmpty
      rw [emp_of hv.length, List.isEmpty_reverse]
    · rename_i xs hi
      refine Sat.pr (b := !xs.isEmpty) rfl (fun s m news I Q q => ?_) (by intro h; cases h)
      obtain ⟨o, ho, vs, n, rfl, hv, hz⟩ := I.at_ hi rfl h
      refine wpAny_truthy_list (isList_of I ho) (by have := line63; rw [List.size_toArray]; omega) (q _ _ ?_)
      show (!xs.isEmpty) = !vs.toArray.isEmpty
      rw [emp_of hv.length]
    · exact (hn rfl).elim
  | cst v => exact Sat.no
  | any v => exact Sat.no
  | fset _ _ => exact Sat.no
  | mat _ => exact Sat.no
end
end Rk
end
section
open PySem PySem.W PyProof.Rows
set_option maxRecDepth 100000
namespace Rk
section
variable {G : Pg} {F : Fn} {X : Cx G F} {W : Wd} {σ : St}
theorem Sat.mk {α β : Type} [Res β α] {t : Sem α} {b : β} {H' : List AObj} {o : Out β} (e : o = .ok b ⟨σ.loc, H'⟩)
    (h : ∀ s m news, InvX X W σ s m news → ∀ Q : α → Shared → Prop, (∀ a s' W' m' news', W.Le W' → Res.rl W' b a → InvX X W' ⟨σ.loc, H'⟩ s' m' news' → Q a s') → wpAny X.M X.A t Q (EPO X o) s) : Sat X W t σ o := by
  intro _ s I
  obtain ⟨m, news, J⟩ := I
  exact h s m news J _ fun a s' W' m' news' le r K => ⟨W', b, _, le, e, r, K.inv⟩
theorem InvX.froList {s : Shared} {m : Str → Option Value} {news : Led} (I : InvX X W σ s m news) {xs : List V} {vs : List Value} {h' : Heap} {n : Nat} (tk : Nat) (F' : Fr X.h₀ X.L h' m) (N' : News X.h₀ X.L h' ((s.heap.objs.size, listOf vs.toArray n) :: news)) (r : VReps W.fro xs vs) (hz : vs.length ≤ sizeLine) :
    ∃ W', W.Le W' ∧ VRep W'.fro (.list xs) (.ref s.heap.objs.size) ∧ InvX X W' σ { s with heap := h', toks := tk } m ((s.heap.objs.size, listOf vs.toArray n) :: news) := by
  obtain ⟨J, le⟩ := I.addFro (tk := tk) F' N'
  exact ⟨_, le, .lst (.head _) (r.up le.kp) hz, J⟩
theorem InvX.froTup {s : Shared} {m : Str → Option Value} {news : Led} (I : InvX X W σ s m news) {xs : List V} {vs : List Value} {h' : Heap} (tk : Nat) (F' : Fr X.h₀ X.L h' m) (N' : News X.h₀ X.L h' ((s.heap.objs.size, tupO vs) :: news)) (r : VReps W.fro xs vs) (hz : vs.length ≤ sizeLine) :
    ∃ W', W.Le W' ∧ VRep W'.fro (.tuple xs) (.ref s.heap.objs.size) ∧ InvX X W' σ { s with heap := h', toks := tk } m ((s.heap.objs.size, tupO vs) :: news) := by
  obtain ⟨J, le⟩ := I.addFro (tk := tk) F' N'
  exact ⟨_, le, .tup (.head _) (r.up le.kp) hz, J⟩
theorem strOk_append {x y : Str} (hx : PyData.strOk x = true) (hy : PyData.strOk y = true) : PyData.strOk (x ++ y) = true := by
  unfold PyData.strOk at *
  show (x.cps ++ y.cps).all _ = true
  rw [Array.all_append, hx, hy]; rfl
theorem length_append' (x y : Str) : (x ++ y).length = x.length + y.length := by
  show (x.cps ++ y.cps).size = _
  rw [Array.size_append]; rfl
theorem add_listV {s : Shared} {m : Str → Option Value} {news : Led} (I : InvX X W σ s m news) {xs ys : List V} {a b : Value} (ra : VRep W.fro (.list xs) a) (rb : VRep W.fro (.list ys) b) (hf : fitsN (xs.length + ys.length) = true)
    {Q : Value → Shared → Prop} {E : Value → Shared → Prop} (h : ∀ a s' W' m' news', W.Le W' → VRep W'.fro (.list (xs ++ ys)) a → InvX X W' σ s' m' news' → Q a s') : wpAny X.M X.A (binaryOp .Add a b) Q E s := by
  cases ra with
  | lst hm hr hz =>
    cases rb with
    | lst hm' hr' hz' =>
      rename_i vs a n vs' a' n'
      have z : vs.length + vs'.length ≤ sizeLine := by rw [hr.length, hr'.length]; exact fitsN_le hf
      refine P.add_list (I.get (I.hr.fro _ hm)) (I.get (I.hr.fro _ hm')) ?_ (by simpa using z)
      have e : vs.toArray ++ vs'.toArray = (vs ++ vs').toArray := by simp
      rw [e]
      obtain ⟨W', le, r, J⟩ := I.froList (n := 0) s.toks (I.fr.push _) (I.nw.push I.fr _) (hr.append hr') (by rw [List.length_append]; exact z)
      exact h _ _ W' _ _ le r J
theorem binE_sat {op : Operator} {p q : PV} {a b : Value} (ra : Rep W p a) (rb : Rep W q b) : Sat X W (binaryOp op a b) σ (vO (binE op p q σ.H) σ) := by
  intro hn
  unfold binE at hn ⊢
  split at hn
  · cases ra with | v ra => cases ra with | int i t => cases rb with | v rb => cases rb with | int j u =>
    exact Sat.pr rfl (fun s m news I Q h => P.add_int (h _ _ (.v (.int _ _)))) hn
  · cases ra with | v ra => cases ra with | int i t => cases rb with | v rb => cases rb with | int j u =>
    exact Sat.pr rfl (fun s m news I Q h => P.sub_int (h _ _ (.v (.int _ _)))) hn
  · split at hn
    · exact (hn rfl).elim
    · rename_i hy
      cases ra with | v ra => cases ra with | int i t => cases rb with | v rb => cases rb with | int j u =>
      exact Sat.pr rfl (fun s m news I Q h => AutoIntOps.mod_1 (by rw [hy]; exact Bool.false_ne_true) (h _ _ (.v (.int _ _)))) hn
  · split at hn
    · exact (hn rfl).elim
    · rename_i hy
      rw [Bool.or_eq_false_iff] at hy
      cases ra with | v ra => cases ra with | int i t => cases rb with | v rb => cases rb with | int j u =>
      exact Sat.pr rfl (fun s m news I Q h => AutoIntOps.floordiv_1 (by rw [hy.1]; exact Bool.false_ne_true) (by rw [PyProof.noPylong_small (by simpa using hy.2)]; exact Bool.false_ne_true) (h _ _ (.v (.int _ _)))) hn
  · split at hn
    · rename_i hf
      cases ra with | v ra => cases ra with | str t hs hz => cases rb with | v rb => cases rb with | str u hs' hz' =>
      have z := fitsN_le hf
      exact Sat.pr rfl (fun s m news I Q h => SB.add (fun t' k => h _ _ (.v (.str _ (strOk_append hs hs') (by rw [length_append']; exact z)))) z) hn
    · exact (hn rfl).elim
  · split at hn
    · rename_i hf
      cases ra with | v ra => cases rb with | v rb =>
      exact Sat.mk rfl (fun s m news I Q h => add_listV I ra rb hf fun a s' W' m' news' le r J => h a s' W' m' news' le (.v r) J) hn
    · exact (hn rfl).elim
  · exact (hn rfl).elim
end
end Rk
end
section
open PySem PySem.W PyProof.Rows
set_option maxRecDepth 100000
namespace Rk
structure TbOk (G : Pg) (T : Tb) : Prop where
  globs : ∀ P x v, T.globs.lookup x = some v → nsIn (G.K P) mainGlobals x = some (some v)
  bis : ∀ P x v, T.bis.lookup x = some v → nsIn (G.K P) mainGlobals x = some none ∧ bootBuiltins x = some v ∧ x ≠ "__name__"
  vals : ∀ P c x h, T.vals.lookup c = some x → (G.K P).In h → ∃ as, Reads h (.ref c) x as
  lay : ∀ c x, T.vals.lookup c = some x → x.canLay0 = true
  sets : ∀ (w : World) (A : Around) (E : Value → Shared → Prop) (s : Shared) (x : Str) (t : Tok) (Q : Value → Shared → Prop) (c : Addr) (xs : List Str), T.sets.lookup c = some xs → (G.K w.params).In s.heap →
    Q (.bool (xs.contains x)) { s with toks := s.toks + 1 } → wpAny (model G.p w) A (compareOp .In (.str x t) (.ref c)) Q E s
  setsN : ∀ (w : World) (A : Around) (E : Value → Shared → Prop) (s : Shared) (x : Str) (t : Tok) (Q : Value → Shared → Prop) (c : Addr) (xs : List Str), T.sets.lookup c = some xs → (G.K w.params).In s.heap →
    Q (.bool (!xs.contains x)) { s with toks := s.toks + 1 } → wpAny (model G.p w) A (compareOp .NotIn (.str x t) (.ref c)) Q E s
/-- the pattern object -/
structure PatOk (G : Pg) (T : Tb) : Prop where
  obj : ∀ P c, T.pat = some c → ∃ o, (G.K P).lookup c = some o ∧ o.cls = .type "re.Pattern" ∧ o.dict = none
theorem beq_none {v : Value} (h : v ≠ .none) : (v == Value.none) = false := by
  cases q : v == Value.none with
  | false => rfl
  | true => exact absurd (eq_of_beq q) h
section
variable {G : Pg} {F : Fn} {X : Cx G F} {W : Wd} {σ : St} {T : Tb}
theorem Cx.Ok.room (ok : X.Ok) {n : Nat} (h : n ≤ 40) : X.A.units + n < cLine := by
  have := ok.units
  show X.Ac.units + 3 + n < cLine
  omega
theorem isNone_sat {p : PV} {v : Value} {b : Bool} (r : Rep W p v) (e : isNone p = some b) : (v == Value.none) = b := by
  cases r with
  | v h => cases h <;> cases e <;> first | rfl | exact beq_none (fun h => by cases h)
  | ref h => cases e; exact beq_none (fun h => by cases h)
  | cst v => cases e
  | any v => cases e
  | fset h _ => cases e; exact beq_none (fun h => by cases h)
  | mat h => cases e; exact beq_none (fun h => by cases h)
theorem low_of {x : V} (h : lowD x = true) : x.depth ≤ 20 := Nat.le_of_ble_eq_true h
/-- membership: both ways -/
structure InBoth (X : Cx G F) (s : Shared) (x c : Value) (b : Bool) : Prop where
  yes : ∀ (E : Value → Shared → Prop) (Q : Value → Shared → Prop), (∀ tk, Q (.bool b) { s with toks := tk }) → wpAny X.M X.A (compareOp .In x c) Q E s
  no : ∀ (E : Value → Shared → Prop) (Q : Value → Shared → Prop), (∀ tk, Q (.bool !b) { s with toks := tk }) → wpAny X.M X.A (compareOp .NotIn x c) Q E s
theorem inL_both {s : Shared} {x : V} {ys : List V} {v c : Value} {as bs : List Addr} {b : Bool} (ok : X.Ok) (rx : Reads s.heap v x as) (lx : x.canLay0 = true) (ly : PyData.canLayAll0 ys = true) (rc : Reads s.heap c (.list ys) bs ∨ Reads s.heap c (.tuple ys) bs) (e : inL x ys = some b) : InBoth X s v c b := by
  unfold inL at e
  split at e
  · rename_i hd
    cases e
    have hd := Nat.le_of_ble_eq_true hd
    have hu : X.A.units + 1 + min (PyData.depthAll ys) x.depth < cLine := by
      have := ok.room (n := 22) (by decide)
      have := Nat.min_le_left (PyData.depthAll ys) x.depth
      omega
    rcases rc with rc | rc
    · exact ⟨fun E Q h => SeqAt.in_list_reads rc rx ly lx hu (h s.toks), fun E Q h => SeqAt.notIn_list_reads rc rx ly lx hu (h s.toks)⟩
    · exact ⟨fun E Q h => SeqAt.in_tuple_reads rc rx ly lx hu (h s.toks), fun E Q h => SeqAt.notIn_tuple_reads rc rx ly lx hu (h s.toks)⟩
  · cases e
end
end Rk
namespace Rk
theorem setOf_mems {prog : Program} {w : World} {h : Heap} {a : Addr} {xs : List Str} {es : Array (Int × Value)} {n : Nat} {t : SetTable} (hg : h.get? a = some (setOb "set" es n t)) (M : Mems w.params xs es t) :
    h.SetOf (strKind prog w) a (fun x => xs.contains x) es.size := by
  obtain ⟨hf, hb, nd, L, e, p⟩ := M
  refine ⟨_, es, n, t, hg, ⟨rfl, rfl, rfl⟩, rfl, ?_, fun k => ?_, hb, hf, rfl⟩
  · intro x hx
    rw [e] at hx
    obtain ⟨y, hy, rfl⟩ := List.mem_map.mp hx
    exact ⟨⟨y.1, by show Value.isStrOf y.1 (.str y.1 y.2) = true; simp [Value.isStrOf], rfl⟩, rfl⟩
  · show xs.contains k = true ↔ _
    rw [List.contains_iff_mem, ← p.mem_iff, e]
    constructor
    · intro h
      obtain ⟨y, hy, rfl⟩ := List.mem_map.mp h
      exact ⟨_, List.mem_map.mpr ⟨y, hy, rfl⟩, by show Value.isStrOf y.1 (.str y.1 y.2) = true; simp [Value.isStrOf]⟩
    · rintro ⟨x, hx, q⟩
      obtain ⟨y, hy, rfl⟩ := List.mem_map.mp hx
      obtain ⟨tk, q⟩ := Value.isStrOf_shape (show Value.isStrOf k (.str y.1 y.2) = true from q)
      injection q with q
      exact List.mem_map.mpr ⟨y, hy, q⟩
section
variable {G : Pg} {F : Fn} {X : Cx G F} {W : Wd} {σ : St} {T : Tb}
theorem inE_both {s : Shared} {m : Str → Option Value} {news : Led} (ok : X.Ok) (tk : TbOk G T) (I : InvX X W σ s m news) {p q : PV} {a c : Value} {b : Bool} (ra : Rep W p a) (rc : Rep W q c) (e : inE T σ.H p q = some b) : InBoth X s a c b := by
  unfold inE at e
  split at e
  · rename_i x ys
    cases ra with | v ra => cases rc with | v rc =>
    obtain ⟨as, r1⟩ := ra.reads I.kept
    obtain ⟨bs, r2⟩ := rc.reads I.kept
    exact inL_both ok r1 ra.lay (by have := rc.lay; unfold PyData.canLay0 at this; exact this) (.inl r2) e
  · rename_i x ys
    cases ra with | v ra => cases rc with | v rc =>
    obtain ⟨as, r1⟩ := ra.reads I.kept
    obtain ⟨bs, r2⟩ := rc.reads I.kept
    exact inL_both ok r1 ra.lay (by have := rc.lay; unfold PyData.canLay0 at this; exact this) (.inr r2) e
  · rename_i x c'
    cases ra with | v ra => cases rc with | cst _ =>
    split at e
    · rename_i ys hv
      obtain ⟨as, r1⟩ := ra.reads I.kept
      obtain ⟨bs, r2⟩ := tk.vals X.w.params _ _ s.heap hv (I.k ok)
      exact inL_both ok r1 ra.lay (by have := tk.lay _ _ hv; unfold PyData.canLay0 at this; exact this) (.inr r2) e
    · split at e
      · rename_i xs hs
        cases e
        cases ra with | str t _ _ =>
        exact ⟨fun E Q h => tk.sets X.w _ _ _ _ _ _ _ _ hs (I.k ok) (h _), fun E Q h => tk.setsN X.w _ _ _ _ _ _ _ _ hs (I.k ok) (h _)⟩
      · cases e
  · rename_i x i
    cases ra with | v ra => cases rc with | ref hi =>
    split at e
    · rename_i xs hx
      cases e
      cases ra with | str t _ _ =>
      obtain ⟨o, ho, es, n, tb, rfl, M⟩ := I.at_ hx rfl hi
      rw [I.P] at M
      have S := setOf_mems (prog := G.p) (w := X.w) (I.get ho) M
      have hk : (strKind G.p X.w).is x (.str x t) = true := by show Value.isStrOf x (.str x t) = true; simp [Value.isStrOf]
      exact ⟨fun E Q h => wpAny_inSet_of hk rfl S (h _), fun E Q h => wpAny_notInSet_of hk rfl S (h _)⟩
    · cases e
  · cases e
def bO (o : Option Bool) (σ : St) : Out PV := match o with
  | some b => .ok (.v (.bool b)) σ
  | none => .no
theorem cmpE_sat (ok : X.Ok) (tk : TbOk G T) {op : CmpOp} {p q : PV} {a b : Value} (ra : Rep W p a) (rb : Rep W q b) : Sat X W (compareOp op a b) σ (bO (cmpE T op p q σ.H) σ) := by
  intro hn
  unfold cmpE at hn ⊢
  have room := ok.room (n := 22) (by decide)
  split at hn
  · split at hn
    · rename_i hl
      cases ra with | v ra => cases rb with | v rb =>
      refine Sat.pr rfl (fun s m news I Q h => ?_) hn
      obtain ⟨as, r1⟩ := ra.reads I.kept
      obtain ⟨bs, r2⟩ := rb.reads I.kept
      exact SeqAt.compareEq_reads r1 r2 ra.lay rb.lay (Nat.lt_of_le_of_lt (Nat.add_le_add_left (Nat.le_trans (Nat.min_le_right _ _) (low_of hl)) _) (ok.room (n := 20) (by decide))) (h _ s.toks (.v (.bool _)))
    · exact (hn rfl).elim
  · split at hn
    · rename_i hl
      cases ra with | v ra => cases rb with | v rb =>
      refine Sat.pr rfl (fun s m news I Q h => ?_) hn
      obtain ⟨as, r1⟩ := ra.reads I.kept
      obtain ⟨bs, r2⟩ := rb.reads I.kept
      exact SeqAt.compareNe_reads r1 r2 ra.lay rb.lay (Nat.lt_of_le_of_lt (Nat.add_le_add_left (Nat.le_trans (Nat.min_le_right _ _) (low_of hl)) _) (ok.room (n := 20) (by decide))) (h _ s.toks (.v (.bool _)))
    · exact (hn rfl).elim
  · cases ra with | v ra => cases ra with | int i t => cases rb with | v rb => cases rb with | int j u =>
    exact Sat.pr rfl (fun s m news I Q h => P.lt_int (h _ s.toks (.v (.bool _)))) hn
  · cases ra with | v ra => cases ra with | int i t => cases rb with | v rb => cases rb with | int j u =>
    exact Sat.pr rfl (fun s m news I Q h => P.le_int (h _ s.toks (.v (.bool _)))) hn
  · cases ra with | v ra => cases ra with | int i t => cases rb with | v rb => cases rb with | int j u =>
    exact Sat.pr rfl (fun s m news I Q h => P.gt_int (h _ s.toks (.v (.bool _)))) hn
  · cases ra with | v ra => cases ra with | int i t => cases rb with | v rb => cases rb with | int j u =>
    exact Sat.pr rfl (fun s m news I Q h => P.ge_int (h _ s.toks (.v (.bool _)))) hn
  · cases e : inE T σ.H p q with
    | none => rw [e] at hn; exact (hn rfl).elim
    | some b' =>
      rw [e] at hn
      exact Sat.pr rfl (fun s m news I Q h => (inE_both ok tk I ra rb e).yes _ _ fun k => h _ k (.v (.bool _))) hn
  · cases e : inE T σ.H p q with
    | none => rw [e] at hn; exact (hn rfl).elim
    | some b' =>
      rw [e] at hn
      exact Sat.pr rfl (fun s m news I Q h => (inE_both ok tk I ra rb e).no _ _ fun k => h _ k (.v (.bool _))) hn
  · cases rb with | v rb => cases rb with | none =>
    cases e : isNone p with
    | none => rw [e] at hn; exact (hn rfl).elim
    | some b' =>
      rw [e] at hn
      exact Sat.pr rfl (fun s m news I Q h => is_none (h _ s.toks (by rw [isNone_sat ra e]; exact .v (.bool _)))) hn
  · cases rb with | v rb => cases rb with | none =>
    cases e : isNone p with
    | none => rw [e] at hn; exact (hn rfl).elim
    | some b' =>
      rw [e] at hn
      exact Sat.pr rfl (fun s m news I Q h => isNot_none (h _ s.toks (by rw [isNone_sat ra e]; exact .v (.bool _)))) hn
  · exact (hn rfl).elim
end
end Rk
end
section
open PySem PySem.W PyProof.Rows
set_option maxRecDepth 100000
namespace Rk
section
variable {G : Pg} {F : Fn} {X : Cx G F} {W : Wd} {σ : St} {T : Tb}
theorem constE_sat {c : Const} {k : Nat} {pos : Pos} : Sat X W (eval (.Constant c k pos) X.env) σ (constE c σ) := by
  intro hn
  unfold constE at hn ⊢
  split at hn
  · exact Sat.pr rfl (fun s m news I Q h => wpAny_Constant_none (h _ s.toks (.v .none))) hn
  · exact Sat.pr rfl (fun s m news I Q h => wpAny_Constant_bool (h _ s.toks (.v (.bool _)))) hn
  · exact Sat.pr rfl (fun s m news I Q h => wpAny_Constant_int (h _ _ (.v (.int _ _)))) hn
  · split at hn
    · rename_i hc
      rw [Bool.and_eq_true] at hc
      exact Sat.pr rfl (fun s m news I Q h => wpAny_Constant_str (h _ _ (.v (.str _ hc.1 (fitsN_le hc.2))))) hn
    · exact (hn rfl).elim
  · exact (hn rfl).elim
theorem nameE_sat (ok : X.Ok) (tk : TbOk G T) {x : Str} {pos : Pos} : Sat X W (eval (.Name x pos) X.env) σ (nameE T F x σ) := by
  intro hn
  unfold nameE at hn ⊢
  split at hn
  · exact (hn rfl).elim
  · rename_i hd
    split at hn
    · rename_i hk
      cases e : σ.loc.lookup x with
      | none => rw [e] at hn; exact (hn rfl).elim
      | some p =>
        rw [e] at hn
        refine Sat.pr rfl (fun s m news I Q h => ?_) hn
        obtain ⟨v, hv, r⟩ := I.loc x p e
        exact nameX_L (cl := []) I.fr hv (h _ s.toks r) ok.kind hk hd
    · rename_i hk
      split at hn
      · rename_i v hg
        exact Sat.pr rfl (fun s m news I Q h => nameX_K (cl := []) I.fr ok.kin (topRead_of ok.top) (tk.globs _ _ _ hg) (h _ s.toks (.cst v)) ok.kind hk hd) hn
      · split at hn
        · rename_i v hb
          obtain ⟨b1, b2, b3⟩ := tk.bis X.w.params _ _ hb
          exact Sat.pr rfl (fun s m news I Q h => nameX_B (cl := []) I.fr ok.kin (topRead_of ok.top) b1 b2 b3 (h _ s.toks (.cst v)) ok.kind hk hd) hn
        · exact (hn rfl).elim
    · exact (hn rfl).elim
/-- what a level of the reckoning has shown -/
structure Got (X : Cx G F) (E : Ev) : Prop where
  ev : ∀ W σ e, Sat X W (eval e X.env) σ (E.ev F e σ)
  tr : ∀ W σ e, Sat X W (isTrue e X.env (eval e X.env)) σ (E.tr F e σ)
  ex : ∀ W σ b, Sat X W (execs b X.env) σ (E.ex F b σ)
variable {E : Ev}
theorem Sat.bindV {γ δ : Type} [Res γ δ] {t : Sem Value} {f : Value → Sem δ} {o : Out PV} {g : PV → St → Out γ} (h : Sat X W t σ o)
    (k : ∀ W' p a σ', W.Le W' → Rep W' p a → o = .ok p σ' → Sat X W' (f a) σ' (g p σ')) : Sat X W (t >>= f) σ (o.bind g) := Sat.bind h k
theorem star_none {e : Expr} {r : List Expr} {env : Env} (h : isStar e = false) : starEach (e :: r) env = (false, eval e env) :: starEach r env := by
  cases e <;> first | rfl | cases h
theorem evs_sat (S : Got X E) {pos : Pos} : ∀ (es : List Expr) (W : Wd) (σ : St), Sat X W (spliced (backTo pos (starEach es X.env))) σ (evs E F es σ)
  | [], W, σ => Sat.pure (show Reps W [] [] from .nil)
  | e :: r, W, σ => by
    unfold evs
    cases hs : isStar e with
    | true => exact Sat.no
    | false =>
      dsimp only
      rw [star_none hs]
      show Sat X W (do
        let v ← eval e X.env
        let here ← (Pure.pure [v] : Sem (List Value))
        return here ++ (← holding here (spliced (backTo pos (starEach r X.env))))) σ _
      refine Sat.bindV (S.ev W σ e) fun W₁ p a σ₁ le₁ ra _ => ?_
      show Sat X W₁ (holding [a] (spliced (backTo pos (starEach r X.env))) >>= fun vs => Pure.pure ([a] ++ vs)) σ₁ _
      exact Sat.bind (Sat.holding (evs_sat S r W₁ σ₁)) fun W₂ ps vs σ₂ le₂ rs _ => Sat.pure (show Reps W₂ (p :: ps) ([a] ++ vs) from .cons (ra.up le₂) rs)
theorem binop_sat (S : Got X E) {l r : Expr} {op : Operator} {pos : Pos} : Sat X W (eval (.BinOp l op r pos) X.env) σ ((E.ev F l σ).bind fun a σ => (E.ev F r σ).bind fun b σ => vO (binE op a b σ.H) σ) := by
  rw [eval_BinOp]
  refine Sat.bindV (S.ev W σ l) fun W₁ p a σ₁ le₁ ra _ => ?_
  refine Sat.bindV (Sat.holding (S.ev W₁ σ₁ r)) fun W₂ q b σ₂ le₂ rb _ => ?_
  exact Sat.standAt (Sat.operate (binE_sat (ra.up le₂) rb))
def usubE (p : PV) (σ : St) : Out PV := match p with
  | .v (.int i) => .ok (.v (.int (-i))) σ
  | _ => .no
theorem unop_sat (S : Got X E) {x : Expr} {pos : Pos} : Sat X W (eval (.UnaryOp .USub x pos) X.env) σ ((E.ev F x σ).bind usubE) := by
  rw [arm_eval_UnaryOp]
  refine Sat.bindV (S.ev W σ x) fun W₁ p a σ₁ le₁ ra _ => Sat.standAt (Sat.holding ?_)
  intro hn
  unfold usubE at hn ⊢
  split at hn
  · cases ra with | v ra => cases ra with | int i t =>
    exact Sat.pr rfl (fun s m news I Q h => P.neg_int (h _ _ (.v (.int _ _)))) hn
  · exact (hn rfl).elim
theorem ifexp_sat (S : Got X E) {t b o : Expr} {pos : Pos} : Sat X W (eval (.IfExp t b o pos) X.env) σ ((E.tr F t σ).bind fun c σ => match c with
    | true => E.ev F b σ
    | false => E.ev F o σ) := by
  rw [arm_eval_IfExp]
  refine Sat.bind (S.tr W σ t) fun W₁ c c' σ₁ le₁ rc _ => ?_
  have rc : c = c' := rc
  subst rc
  cases c
  · exact S.ev W₁ σ₁ o
  · exact S.ev W₁ σ₁ b
theorem cmp_sat (S : Got X E) (ok : X.Ok) (tk : TbOk G T) {l r : Expr} {op : CmpOp} {pos : Pos} (hm : behindInMarks op r = false) : Sat X W (eval (.Compare l [op] [r] pos) X.env) σ ((E.ev F l σ).bind fun a σ => (E.ev F r σ).bind fun b σ => bO (cmpE T op a b σ.H) σ) := by
  rw [eval_Compare1, markedBehindIn_of_false hm]
  refine Sat.bindV (S.ev W σ l) fun W₁ p a σ₁ le₁ ra _ => ?_
  refine Sat.bindV (Sat.holding (S.ev W₁ σ₁ r)) fun W₂ q b σ₂ le₂ rb _ => ?_
  exact Sat.standAt (Sat.operate (cmpE_sat ok tk (ra.up le₂) rb))
theorem bO_bind {γ : Type} {o : Option Bool} {f : Bool → St → Out γ} : (bO o σ).bind (fun p σ => match p with
    | .v (.bool b) => f b σ
    | _ => .no) = (okO o σ).bind f := by cases o <;> rfl
theorem tcmp_sat (S : Got X E) (ok : X.Ok) (tk : TbOk G T) {l r : Expr} {op : CmpOp} {pos : Pos} {whole : Sem Value} (hm : behindInMarks op r = false) : Sat X W (isTrue (.Compare l [op] [r] pos) X.env whole) σ ((E.ev F l σ).bind fun a σ => (E.ev F r σ).bind fun b σ => okO (cmpE T op a b σ.H) σ) := by
  rw [isTrue_Compare1, markedBehindIn_of_false hm]
  refine Sat.bindV (S.ev W σ l) fun W₁ p a σ₁ le₁ ra _ => ?_
  refine Sat.bindV (Sat.holding (S.ev W₁ σ₁ r)) fun W₂ q b σ₂ le₂ rb _ => ?_
  refine Sat.standAt ?_
  have h := cmpE_sat (σ := σ₂) (op := op) ok tk (ra.up le₂) rb
  cases e : cmpE T op p q σ₂.H with
  | none => exact Sat.no
  | some c =>
    rw [e] at h
    have := Sat.bindV (g := fun p σ => okO (truE σ.H p) σ) (Sat.operate (vs := [a, b]) h) fun W₃ p' c' σ₃ le₃ rc _ => Sat.holding (vs := [c']) (truE_sat (σ := σ₃) rc)
    exact this
theorem boolE_sat (S : Got X E) {op : BoolOp} {pos : Pos} : ∀ (es : List Expr) (W : Wd) (σ : St), Sat X W (boolOp pos op (evalEach es X.env)) σ (boolE E F op es σ)
  | [], W, σ => Sat.no
  | [x], W, σ => S.ev W σ x
  | x :: y :: r, W, σ => by
    show Sat X W (do
      let v ← eval x X.env
      PySem.standAt pos
      let t ← holding [v] (truthy v)
      match op, t with
      | .And, false | .Or, true => Pure.pure v
      | _, _ => boolOp pos op (evalEach (y :: r) X.env)) σ ((E.ev F x σ).bind fun p σ => match truE σ.H p with
        | none => .no
        | some t => (match op, t with
          | .And, false => .ok p σ
          | .Or, true => .ok p σ
          | _, _ => boolE E F op (y :: r) σ))
    refine Sat.bindV (S.ev W σ x) fun W₁ p a σ₁ le₁ ra _ => Sat.standAt ?_
    have ih := fun W σ => boolE_sat S (op := op) (pos := pos) (y :: r) W σ
    have h := truE_sat (X := X) (σ := σ₁) ra
    cases e : truE σ₁.H p with
    | none => exact Sat.no
    | some t =>
      rw [e] at h
      show Sat X W₁ _ σ₁ ((okO (some t) σ₁).bind fun t σ => match op, t with
          | .And, false => .ok p σ
          | .Or, true => .ok p σ
          | _, _ => boolE E F op (y :: r) σ)
      refine Sat.bind (Sat.holding h) fun W₂ b b' σ₂ le₂ rb _ => ?_
      have rb : b = b' := rb
      subst rb
      cases op <;> cases b <;> first | exact Sat.pure (α := Value) (β := PV) (show Rep W₂ p a from ra.up le₂) | exact ih W₂ σ₂
theorem allTrE_sat (S : Got X E) {op : BoolOp} : ∀ (es : List Expr) (W : Wd) (σ : St), Sat X W (allTrue op es X.env) σ (allTrE E F op es σ)
  | [], W, σ => Sat.pure (show (op == .And) = (op == .And) from rfl)
  | x :: r, W, σ => by
    show Sat X W (do
      match op, ← isTrue x X.env (eval x X.env) with
      | .And, false => Pure.pure false
      | .Or, true => Pure.pure true
      | _, _ => allTrue op r X.env) σ ((E.tr F x σ).bind fun t σ => match op, t with
        | .And, false => .ok false σ
        | .Or, true => .ok true σ
        | _, _ => allTrE E F op r σ)
    refine Sat.bind (S.tr W σ x) fun W₁ b b' σ₁ le₁ rb _ => ?_
    have rb : b = b' := rb
    subst rb
    have ih := fun W σ => allTrE_sat S (op := op) r W σ
    cases op <;> cases b <;> first | exact Sat.pure (α := Bool) (β := Bool) (show _ = _ from rfl) | exact ih W₁ σ₁
end
end Rk
end
section
open PySem PySem.W PyProof.Rows
set_option maxRecDepth 100000
namespace Rk
section
variable {G : Pg} {F : Fn} {X : Cx G F} {W : Wd} {σ : St} {T : Tb} {E : Ev}
/-- a new object is numbered -/
theorem InvX.addObj {s : Shared} {m : Str → Option Value} {news : Led} (I : InvX X W σ s m news) {a : Addr} {o : Obj} {x : AObj} {h' : Heap} {tk : Nat} (hn : ∀ p ∈ news, p.1 ≠ a) (F' : Fr X.h₀ X.L h' m) (N' : News X.h₀ X.L h' ((a, o) :: news))
    (hx : ObjR ⟨W.mu ++ [a], W.fro, W.ex, W.P⟩ x o) : InvX X ⟨W.mu ++ [a], W.fro, W.ex, W.P⟩ ⟨σ.loc, σ.H ++ [x]⟩ { s with heap := h', toks := tk } m ((a, o) :: news) ∧ W.Le ⟨W.mu ++ [a], W.fro, W.ex, W.P⟩ ∧ Rep ⟨W.mu ++ [a], W.fro, W.ex, W.P⟩ (.ref σ.H.length) (.ref a) := by
  obtain ⟨R, le⟩ := I.hr.push hn hx
  refine ⟨⟨F', N', ?_, R, fun y p e => by obtain ⟨v, hv, hr⟩ := I.loc y p e; exact ⟨v, hv, hr.up le⟩, I.os, I.gens, I.P⟩, le, .ref ?_⟩
  · rw [List.map_cons, List.nodup_cons]
    refine ⟨fun q => ?_, I.nd⟩
    obtain ⟨p, hp, e⟩ := List.mem_map.mp q
    exact hn p hp e
  · show (W.mu ++ [a])[σ.H.length]? = some a
    rw [← I.hr.len, List.getElem?_append_right (Nat.le_refl _), Nat.sub_self]; rfl
theorem InvX.ne {s : Shared} {m : Str → Option Value} {news : Led} (I : InvX X W σ s m news) : ∀ p ∈ news, p.1 ≠ s.heap.objs.size := fun p hp => Nat.ne_of_lt (I.new p hp)
theorem listE_sat {mt : Bool} {ps : List PV} {vs : List Value} (r : Reps W ps vs) : Sat X W (newList vs) σ (listE mt ps σ) := by
  intro hn
  unfold listE at hn ⊢
  split at hn
  · exact (hn rfl).elim
  · rename_i hf
    have hz : vs.length ≤ sizeLine := by rw [r.length]; exact fitsN_le hf
    split at hn
    · rename_i xs hx
      refine Sat.mk rfl (fun s m news I Q h => newList_N I.fr I.nw (fun h' F' N' => ?_) hz) hn
      obtain ⟨W', le, r', J⟩ := I.froList (n := 0) s.toks F' N' (r.vs hx) hz
      exact h _ _ W' _ _ le (.v r') J
    · exact (hn rfl).elim
    · rename_i xs hx
      refine Sat.mk rfl (fun s m news I Q h => newList_N I.fr I.nw (fun h' F' N' => ?_) hz) hn
      obtain ⟨J, le, r'⟩ := I.addObj (tk := s.toks) (x := .vlist xs) I.ne F' N' ⟨vs, 0, rfl, r.vs hx, hz⟩
      exact h _ _ _ _ _ le r' J
    · refine Sat.mk rfl (fun s m news I Q h => newList_N I.fr I.nw (fun h' F' N' => ?_) hz) hn
      have le : W.Le ⟨W.mu ++ [s.heap.objs.size], W.fro, W.ex, W.P⟩ := (I.hr.push (o := listOf vs.toArray 0) (x := .junk) I.ne trivial).2
      obtain ⟨J, le, r'⟩ := I.addObj (tk := s.toks) (x := .rlist ps) I.ne F' N' ⟨vs, 0, rfl, r.up le, hz⟩
      exact h _ _ _ _ _ le r' J
theorem list_sat (S : Got X E) {es : List Expr} {pos : Pos} : Sat X W (eval (.List es pos) X.env) σ ((evs E F es σ).bind fun ps σ => listE F.mt ps σ) := by
  rw [arm_eval_List]
  exact Sat.standAt (Sat.bind (evs_sat S es W σ) fun W₁ ps vs σ₁ le rs _ => listE_sat rs)
theorem tupE_sat {ps : List PV} {vs : List Value} (r : Reps W ps vs) : Sat X W (newTuple vs) σ (tupE ps σ) := by
  intro hn
  unfold tupE at hn ⊢
  split at hn
  · exact (hn rfl).elim
  · rename_i hf
    have hz : vs.length ≤ sizeLine := by rw [r.length]; exact fitsN_le hf
    split at hn
    · rename_i xs H hx
      refine Sat.mk rfl (fun s m news I Q h => newTuple_N I.fr I.nw (fun h' F' N' => ?_) hz) hn
      obtain ⟨W₁, le₁, R₁, q⟩ := I.hr.frzAll r hx
      have I₁ := I.re le₁ R₁
      obtain ⟨W', le, r', J⟩ := I₁.froTup s.toks F' N' q hz
      exact h _ _ W' _ _ (le₁.trans le) (.v r') J
    · exact (hn rfl).elim
theorem tup_sat (S : Got X E) {es : List Expr} {k : Nat} {pos : Pos} : Sat X W (eval (.Tuple es k pos) X.env) σ ((evs E F es σ).bind fun ps σ => tupE ps σ) := by
  rw [arm_eval_Tuple]
  exact Sat.standAt (Sat.bind (evs_sat S es W σ) fun W₁ ps vs σ₁ le rs _ => tupE_sat rs)
def isSlice : Expr → Bool
  | .Slice .. => true
  | _ => false
theorem subscripted_plain {e : Expr} (h : isSlice e = false) (o i : Value) : subscripted e false o i = operate [o, i] (getItem o i) := by
  cases e <;> first | rfl | cases h
/-- an item by its place -/
theorem item_sat {value slice : Expr} {a : Addr} {vs : List Value} {k : Int} {u : Tok} {v : Value} (hs : isSlice slice = false) {s : Shared} (hl : s.heap.IsList a vs.toArray ∨ IsTup s.heap a vs.toArray) (e : atI vs k = some v)
    {Q : Value → Shared → Prop} {E' : Value → Shared → Prop} (h : Q v s) : wpAny X.M X.A (subscriptTail value slice (.ref a) (.int k u)) Q E' s := by
  unfold atI at e
  have hsub := subscripted_plain hs (.ref a) (.int k u)
  have sz : vs.toArray.size = vs.length := by simp
  split at e
  · rename_i h0
    have h0 : 0 ≤ k := of_decide_eq_true h0
    split at e
    · rename_i h1
      have h1 : k < 2 ^ 63 := of_decide_eq_true h1
      have hx : vs.toArray[k.toNat]? = some v := by simpa using e
      rcases hl with hl | hl
      · exact tail_any hl.typeIs slot_list_getitem.lookup (wpAny_getItem_list hl h0 h1 hx h) hsub
      · refine tail_any hl.typeIs PySem.F.slot_tuple_getitem.lookup (getItem_tuple hl (by omega) h1 (j := k.toNat) ?_ hx h) hsub
        have hlt := (List.getElem?_eq_some_iff.mp e).1
        unfold seqIndex?
        rw [sz]
        have n0 : ¬ k < 0 := by omega
        simp only [n0, if_false]
        rw [if_pos (by simp; omega)]
    · cases e
  · rename_i h0
    have h0 : ¬ 0 ≤ k := of_decide_eq_false h0
    split at e
    · rename_i h1
      have h1 := of_decide_eq_true h1
      have hx : vs.toArray[(k + vs.toArray.size).toNat]? = some v := by rw [sz]; simpa using e
      rcases hl with hl | hl
      · exact tail_any hl.typeIs slot_list_getitem.lookup (wpAny_getItem_list_neg hl (by omega) (by rw [sz]; exact h1.1) h1.2 hx h) hsub
      · refine tail_any hl.typeIs PySem.F.slot_tuple_getitem.lookup (getItem_tuple hl h1.2 (by omega) (j := (k + vs.toArray.size).toNat) ?_ hx h) hsub
        have hlt := (List.getElem?_eq_some_iff.mp e).1
        unfold seqIndex?
        rw [sz]
        have n0 : k < 0 := by omega
        simp only [n0, if_true]
        rw [if_pos (by simp; omega)]
    · cases e
theorem VReps.atI {fro : Led} {xs : List V} {vs : List Value} (r : VReps fro xs vs) {k : Int} {x : V} (e : Rk.atI xs k = some x) : ∃ v, Rk.atI vs k = some v ∧ VRep fro x v := by
  unfold Rk.atI at *
  rw [r.length]
  split at e
  · split at e
    · exact r.get e
    · cases e
  · split at e
    · exact r.get e
    · cases e
theorem Reps.atI {xs : List PV} {vs : List Value} (r : Reps W xs vs) {k : Int} {x : PV} (e : Rk.atI xs k = some x) : ∃ v, Rk.atI vs k = some v ∧ Rep W x v := by
  unfold Rk.atI at *
  rw [r.length]
  split at e
  · split at e
    · exact r.get e
    · cases e
  · split at e
    · exact r.get e
    · cases e
theorem subE_sat {value slice : Expr} (hs : isSlice slice = false) {p q : PV} {a b : Value} (ra : Rep W p a) (rb : Rep W q b) : Sat X W (subscriptTail value slice a b) σ (okO (subE p q σ.H) σ) := by
  intro hn
  cases e : subE p q σ.H with
  | none => rw [e] at hn; exact (hn rfl).elim
  | some r =>
    refine Sat.pr rfl (fun s m news I Q h => ?_) (by intro h; cases h)
    unfold subE at e
    split at e
    · cases ra with | v ra => cases rb with | v rb => cases rb with | int k u => cases ra with | lst hm hr hz =>
      rw [Option.map_eq_some_iff] at e
      obtain ⟨x, e, rfl⟩ := e
      obtain ⟨v, ev, rv⟩ := hr.atI e
      exact item_sat hs (.inl (isList_of I (I.hr.fro _ hm))) ev (h _ s.toks (.v rv))
    · cases ra with | v ra => cases rb with | v rb => cases rb with | int k u => cases ra with | tup hm hr hz =>
      rw [Option.map_eq_some_iff] at e
      obtain ⟨x, e, rfl⟩ := e
      obtain ⟨v, ev, rv⟩ := hr.atI e
      exact item_sat hs (.inr (isTup_of I (I.hr.fro _ hm))) ev (h _ s.toks (.v rv))
    · split at e
      · rename_i hk
        rw [Bool.and_eq_true, Bool.and_eq_true] at hk
        cases e
        cases ra with | v ra => cases rb with | v rb => cases rb with | int k u => cases ra with | str t hx hz =>
        refine tail_any (T := "str") ?_ PySem.F.slot_str_getitem.lookup (SB.getItem hk.1.1 hk.1.2 (h _ _ (.v (.str _ hk.2 ?_)))) (subscripted_plain hs _ _)
        · rfl
        · show (1 : Nat) ≤ sizeLine; decide
      · cases e
    · cases ra with | ref hi => cases rb with | v rb => cases rb with | int k u =>
      split at e
      · rename_i hx
        rw [Option.map_eq_some_iff] at e
        obtain ⟨x, e, rfl⟩ := e
        obtain ⟨o, ho, vs, n, rfl, hv, hz⟩ := I.at_ hx rfl hi
        obtain ⟨v, ev, rv⟩ := hv.atI e
        exact item_sat hs (.inl (isList_of I ho)) ev (h _ s.toks (.v rv))
      · rename_i ys hx
        split at e
        rotate_left 1
        · cases e
        rename_i hk
        split at e
        rotate_left 1
        · cases e
        rename_i y r
        cases e
        have hk := eq_of_beq hk
        subst hk
        obtain ⟨o, ho, vs, n, rfl, hv, hz⟩ := I.at_ hx rfl hi
        have e1 : Rk.atI (y :: r).reverse (-1) = some y := by
          unfold Rk.atI
          have h0 : decide ((0 : Int) ≤ -1) = false := by decide
          rw [h0]
          dsimp only
          have h1 : decide (-(((y :: r).reverse.length : Nat) : Int) ≤ -1 ∧ -(2 ^ 63) ≤ (-1 : Int)) = true := by
            rw [List.length_reverse, List.length_cons]
            exact decide_eq_true ⟨by omega, by decide⟩
          rw [h1]
          dsimp only
          rw [List.length_reverse, List.length_cons]
          have h2 : ((-1 : Int) + ((r.length + 1 : Nat) : Int)).toNat = r.length := by omega
          rw [h2, List.reverse_cons, List.getElem?_append_right (by rw [List.length_reverse]; exact Nat.le_refl _), List.length_reverse, Nat.sub_self]; rfl
        obtain ⟨v, ev, rv⟩ := hv.atI e1
        exact item_sat hs (.inl (isList_of I ho)) ev (h _ s.toks (.v rv))
      · rename_i hx
        obtain ⟨o, ho, vs, n, rfl, hv, hz⟩ := I.at_ hx rfl hi
        obtain ⟨v, ev, rv⟩ := hv.atI e
        exact item_sat hs (.inl (isList_of I ho)) ev (h _ s.toks rv)
      · cases e
    · cases e
theorem sub_sat (S : Got X E) {value slice : Expr} {pos : Pos} (hs : isSlice slice = false) : Sat X W (eval (.Subscript value slice pos) X.env) σ ((E.ev F value σ).bind fun a σ => (E.ev F slice σ).bind fun b σ => okO (subE a b σ.H) σ) := by
  show Sat X W (do
    let o ← eval value X.env
    let i ← holding [o] (eval slice X.env)
    PySem.standAt pos
    subscriptTail value slice o i) σ _
  refine Sat.bindV (S.ev W σ value) fun W₁ p a σ₁ le₁ ra _ => ?_
  refine Sat.bindV (Sat.holding (S.ev W₁ σ₁ slice)) fun W₂ q b σ₂ le₂ rb _ => ?_
  exact Sat.standAt (subE_sat hs (ra.up le₂) rb)
end
end Rk
end
section
open PySem PySem.W PyProof.Rows
set_option maxRecDepth 100000
namespace Rk
/-- the stack of a call from here -/
structure Near {G : Pg} {F : Fn} (X : Cx G F) (A' : Around) : Prop where
  frames : A'.frames = some (X.env :: X.outer)
  handled : A'.handled = none
  guards : A'.guards = some []
  depth : A'.depth ≤ X.Ac.depth + 3
  units : A'.units ≤ X.Ac.units + 15
/-- the end of a call: the caller's names are as they were -/
def PostM {G : Pg} {F : Fn} (X : Cx G F) (W : Wd) (o : Out PV) (m : Str → Option Value) (v : Value) (s : Shared) : Prop := ∃ W' b σ, W.Le W' ∧ o = .ok b σ ∧ Rep W' b v ∧ ∃ news, InvX X W' σ s m news
theorem PostM.post {G : Pg} {F : Fn} {X : Cx G F} {W : Wd} {o : Out PV} {m : Str → Option Value} {v : Value} {s : Shared} (h : PostM X W o m v s) : Post X W o v s := by
  obtain ⟨W', b, σ, le, e, r, news, I⟩ := h
  exact ⟨W', b, σ, le, e, r, m, news, I⟩
def SatC {G : Pg} {F : Fn} (X : Cx G F) (W : Wd) (A' : Around) (c : Code) (σ : St) (o : Out PV) : Prop :=
  o ≠ .no → ∀ s m news, InvX X W σ s m news → codeAny X.M A' c (fun r s' => match r with
    | .ok (.ret v) => PostM X W o m v s'
    | .ok _ => False
    | .error e => EPO X o e s') s
/-- where the callee runs -/
def calleeX {G : Pg} {F : Fn} (X : Cx G F) (f : FnI) (a : Addr) (A' : Around) (g : Heap) (L' : Addr) : Cx G (f.fn a) :=
  { w := X.w, mean := X.mean, mg := X.mg, mb := X.mb, Ac := A', base := X.base, h₀ := g, outer := X.env :: X.outer, L := L', os := X.os, dep := X.dep - 1,
    EP := fun c v s => wpAny X.M (A'.deeper (envOf f.nm f.scope L' a f.cd)) («leaving» (envOf f.nm f.scope L' a f.cd) v) (fun _ s'' => X.EP c v s'') (fun _ _ => False) s }
theorem raisedN_of {base : Heap} {l : List Env} {e : Addr} {cls : Value} {t : Addr} {vs : List Value} {news : Led} {h : Heap} (R : RaisedK base l e cls t vs news h) : RaisedN base l e cls news h := by
  obtain ⟨⟨B, h1, h2, h3, _⟩, _⟩ := R
  exact ⟨B, _, h1, h2, h3⟩
section
variable {G : Pg} {F : Fn} {X : Cx G F} {W : Wd} {σ : St} {T : Tb} {E : Ev}
theorem calleeX_ok (ok : X.Ok) {f : FnI} {a : Addr} {A' : Around} {g : Heap} {L' : Addr} {m : Str → Option Value} (nr : Near X A') (hk : f.scope.kind = .function) (hd : 1 ≤ X.dep)
    (hm : ∀ q ∈ X.pv, m q.1 = some q.2) (FG : Fr X.h₀ X.L g m) (B : Below A' X.base (X.env :: X.outer) g) (hK : X.K.In g) (hT : Top G.q G.loose X.mean X.mg X.mb g) : (calleeX X f a A' g L').Ok where
  below := B
  kin := hK
  top := hT
  kind := hk
  handled := nr.handled
  guards := nr.guards
  depth := by
    have := ok.depth
    have := nr.depth
    show A'.depth + 4 * (X.dep - 1) + 2 < recursionLimit
    omega
  units := by
    have := ok.units
    have := nr.units
    show A'.units + 20 * (X.dep - 1) + 60 < cLine
    omega
  pass := fun c => PassesOwn.leaving (Q₁ := fun v s => X.EP c v s)
  prot := fun q hq => by cases hq
  made := fun _ c e vs h s m' news' F' N' hn hx ho hg => leave_raiseK (news := news') B hx F' N' (fun h' t R sm => ok.passed c e g _ m news' hm FG hn (raisedN_of R) sm ho hg) hk
  passed := fun c e g₂ s m' news' _ F' hn R sm ho hg => leave_onN B F' R sm fun h' R' sm' => ok.passed c e g _ m news' hm FG hn R' sm' ho hg
end
end Rk
end
section
open PySem PySem.W PyProof.Rows
set_option maxRecDepth 100000
namespace Rk
def noRef : PV → Bool
  | .ref _ => false
  | _ => true
def noRefs : List PV → Bool
  | [] => true
  | p :: r => noRef p && noRefs r
def dflts (f : FnI) (n : Nat) : List (V × Value) := f.dfl.drop (f.dfl.length - (f.names.length - n))
def bindE (f : FnI) (args : List PV) : Option (List (Str × PV)) :=
  match Nat.ble args.length f.names.length && Nat.ble f.names.length (args.length + f.dfl.length) with
  | true => some (f.names.zip (args ++ (dflts f args.length).map fun y => .v y.1))
  | false => none
def retP : AFlow → Option PV
  | .ret p => some p
  | .next => some (.v .none)
  | _ => none
def shP (k : Nat) : PV → PV
  | .ref i => .ref (k + i)
  | p => p
def shO (k : Nat) : AObj → AObj
  | .rlist ps => .rlist (ps.map (shP k))
  | .inst C j fs => .inst C (k + j) (fs.map (Option.map (shP k)))
  | .dict es => .dict (es.map fun y => (y.1, shP k y.2))
  | o => o
def belowP (n : Nat) : PV → Bool
  | .ref i => Nat.blt i n
  | _ => true
def belowO (n : Nat) : AObj → Bool
  | .rlist ps => ps.all (belowP n)
  | .inst _ j fs => Nat.blt j n && fs.all fun y => match y with
    | some p => belowP n p
    | none => true
  | .dict es => es.all fun y => belowP n y.2
  | _ => true
def trunc (n : Nat) (H : List AObj) : List AObj := match (H.take n).all (belowO n) with
  | true => H.take n
  | false => H
def frzE (H : List AObj) : PV → Option V
  | .v x => some x
  | .ref i => (match H[i]? with
    | some (.vlist xs) => some (.list xs)
    | _ => none)
  | _ => none
def frzEs (H : List AObj) : List PV → Option (List V)
  | [] => some []
  | p :: r => (frzE H p).bind fun x => (frzEs H r).map (x :: ·)
def frzD (H : List AObj) : PV → Option V
  | .v x => some x
  | .ref i => (match H[i]? with
    | some (.vlist xs) => some (.list xs)
    | some (.rlist ps) => (frzEs H ps).map .list
    | _ => none)
  | _ => none
/-- the end of a call that was handed no changing object -/
def finV (f : FnI) (σ : St) : Out AFlow → Out PV
  | .exc c => .exc c
  | .no => .no
  | .ok fl σ' => match retP fl with
    | none => .no
    | some p => match noRef p with
      | true => .ok p σ
      | false => match f.keepR with
        | false => (match frzD σ'.H p with
          | some x => .ok (.v x) σ
          | none => .ok (shP σ.H.length p) ⟨σ.loc, σ.H ++ σ'.H.map (shO σ.H.length)⟩)
        | true => .ok (shP σ.H.length p) ⟨σ.loc, σ.H ++ σ'.H.map (shO σ.H.length)⟩
/-- the end of a call that was handed changing objects -/
def finH (f : FnI) (σ : St) : Out AFlow → Out PV
  | .exc c => .exc c
  | .no => .no
  | .ok fl σ' => match Nat.ble σ.H.length σ'.H.length with
    | false => .no
    | true => match retP fl with
      | none => .no
      | some p => match belowP σ.H.length p with
        | true => .ok p ⟨σ.loc, trunc σ.H.length σ'.H⟩
        | false => (match f.keepR with
          | true => .ok p ⟨σ.loc, σ'.H⟩
          | false => (match frz1 σ'.H p with
            | some (x, H) => .ok (.v x) ⟨σ.loc, trunc σ.H.length H⟩
            | none => .no))
def fnE (T : Tb) (E : Ev) (a : Addr) (args : List PV) (σ : St) : Out PV := match T.fns.lookup a with
  | none => .no
  | some f => match bindE f args with
    | none => .no
    | some loc => match noRefs args with
      | true => finV f σ (E.ex (f.fn a) f.body ⟨loc.reverse, []⟩)
      | false => finH f σ (E.ex (f.fn a) f.body ⟨loc.reverse, σ.H⟩)
end Rk
end
section
open PySem PySem.W PyProof.Rows
set_option maxRecDepth 100000
namespace Rk
section
variable {W : Wd} {news : Led} {H : List AObj}
abbrev Wd.cut (W : Wd) (n : Nat) : Wd := ⟨W.mu.take n, W.fro, W.ex, W.P⟩
theorem Rep.cut {n : Nat} {p : PV} {v : Value} (h : Rep W p v) (hb : belowP n p = true) : Rep (W.cut n) p v := by
  cases h with
  | v h => exact .v h
  | ref h =>
    have hb := (Nat.blt_eq).mp hb
    exact .ref (by show (W.mu.take n)[_]? = _; rw [List.getElem?_take_of_lt hb]; exact h)
  | cst v => exact .cst v
  | any v => exact .any v
  | fset hm hr => exact .fset hm hr
  | mat hm hb' hs hz => exact .mat hm hb' hs hz
theorem Reps.cut {n : Nat} : ∀ {ps : List PV} {vs : List Value}, Reps W ps vs → ps.all (belowP n) = true → Reps (W.cut n) ps vs
  | _, _, .nil, _ => .nil
  | _, _, .cons h t, e => by
    rw [List.all_cons, Bool.and_eq_true] at e
    exact .cons (h.cut e.1) (t.cut e.2)
theorem Ents.cut {n : Nat} : ∀ {es : List (Str × PV)} {ds : List DictEntry}, Ents W es ds → (es.all fun y => belowP n y.2) = true → Ents (W.cut n) es ds
  | _, _, .nil, _ => .nil
  | _, _, .cons h t, e => by
    rw [List.all_cons, Bool.and_eq_true] at e
    exact .cons (h.cut e.1) (t.cut e.2)
theorem Slts.cut {n : Nat} : ∀ {es : List (Option PV)} {ds : List (Option Value)}, Slts W es ds → (es.all fun y => match y with
    | Option.some p => belowP n p
    | Option.none => true) = true → Slts (W.cut n) es ds
  | _, _, .nil, _ => .nil
  | _, _, .no r, e => by
    rw [List.all_cons, Bool.and_eq_true] at e
    exact .no (r.cut e.2)
  | _, _, .yes h r, e => by
    rw [List.all_cons, Bool.and_eq_true] at e
    exact .yes (h.cut e.1) (r.cut e.2)
theorem ObjR.cut {n : Nat} : ∀ {x : AObj} {o : Obj}, ObjR W x o → belowO n x = true → ObjR (W.cut n) x o
  | .vlist _, _, ⟨vs, k, e, h, z⟩, _ => ⟨vs, k, e, h, z⟩
  | .vrev _, _, ⟨vs, k, e, h, z⟩, _ => ⟨vs, k, e, h, z⟩
  | .rlist _, _, ⟨vs, k, e, h, z⟩, hb => ⟨vs, k, e, h.cut hb, z⟩
  | .inst _ _ _, _, ⟨d, vs, e, h, h'⟩, hb => by
    unfold belowO at hb
    rw [Bool.and_eq_true] at hb
    have hb1 := (Nat.blt_eq).mp hb.1
    refine ⟨d, vs, e, ?_, h'.cut hb.2⟩
    show (W.mu.take n)[_]? = _
    rw [List.getElem?_take_of_lt hb1]; exact h
  | .dict _, _, ⟨ds, k, e, h⟩, hb => ⟨ds, k, e, h.cut hb⟩
  | .sset _, _, h, _ => h
  | .junk, _, _, _ => trivial
theorem HR.trunc (R : HR W news H) {n : Nat} (hn : n ≤ H.length) : ∃ W', W'.fro = W.fro ∧ W'.ex = W.ex ∧ W'.P = W.P ∧ HR W' news (Rk.trunc n H) ∧ (∀ (i : Nat) (a : Addr), i < n → W.mu[i]? = some a → W'.mu[i]? = some a) := by
  unfold Rk.trunc
  cases hb : (H.take n).all (belowO n) with
  | false => exact ⟨W, rfl, rfl, rfl, R, fun i a _ h => h⟩
  | true =>
    have back : ∀ (j : Nat) (y : AObj), (H.take n)[j]? = some y → j < n ∧ H[j]? = some y := fun j y hj => by
      have : j < n := by
        have := (List.getElem?_eq_some_iff.mp hj).1
        rw [List.length_take] at this
        omega
      exact ⟨this, by rw [List.getElem?_take_of_lt this] at hj; exact hj⟩
    have backm : ∀ (j : Nat) (b : Addr), (W.mu.take n)[j]? = some b → W.mu[j]? = some b := fun j b hj => by
      have : j < n := by
        have := (List.getElem?_eq_some_iff.mp hj).1
        rw [List.length_take] at this
        omega
      rw [List.getElem?_take_of_lt this] at hj; exact hj
    refine ⟨W.cut n, rfl, rfl, rfl, ⟨?_, ?_, R.fro, fun p hp => ⟨(R.exs p hp).1, fun q => (R.exs p hp).2.1 (List.mem_of_mem_take q), (R.exs p hp).2.2⟩, fun a ha => R.own a (List.mem_of_mem_take ha), ?_, ?_, fun b hb => ?_⟩, fun i a hi h => ?_⟩
    rotate_right 2
    · obtain ⟨h1, h3, h4⟩ := R.hol b hb
      exact ⟨h1, fun q => h3 (List.mem_of_mem_take q), h4⟩
    rotate_left 1
    · show (W.mu.take n).length = (H.take n).length
      rw [List.length_take, List.length_take, R.len]
    · intro i j x y a hi hx hj hy h1 h2
      exact R.nd i j x y a (back i x hi).2 hx (back j y hj).2 hy (backm i a h1) (backm j a h2)
    · intro i x a hi hl ha
      obtain ⟨o, ho, h⟩ := R.at_ i x a (back i x hi).2 hl (backm i a ha)
      exact ⟨o, ho, h.cut (List.all_eq_true.mp hb x (List.mem_of_getElem? hi))⟩
    · intro i x a hi hl ha p hp
      exact R.apart i x a (back i x hi).2 hl (backm i a ha) p hp
    · show (W.mu.take n)[i]? = some a
      rw [List.getElem?_take_of_lt hi]; exact h
/-- what is not another's -/
def ours (W : Wd) (news : Led) : Led := news.filter fun q => !holes.contains q.1 && W.ex.all fun p => p.1 != q.1
theorem HR.ours (R : HR W news H) {a : Addr} {o : Obj} {i : Nat} (ha : W.mu[i]? = some a) (h : (a, o) ∈ news) : (a, o) ∈ Rk.ours W news :=
  List.mem_filter.mpr ⟨h, by
    rw [Bool.and_eq_true]
    exact ⟨by simpa using R.hol.mu ha, List.all_eq_true.mpr fun p hp => bne_iff_ne.mpr fun q => (R.exs p hp).2.1 (q ▸ List.mem_of_getElem? ha)⟩⟩
/-- deep freezing, at the end -/
theorem HR.frzE (R : HR W news H) {p : PV} {v : Value} {x : V} (h : Rep W p v) (e : Rk.frzE H p = some x) : VRep (W.fro ++ Rk.ours W news) x v := by
  cases h with
  | v h => cases e; exact h.up fun p hp => List.mem_append_left _ hp
  | ref h =>
    unfold Rk.frzE at e
    dsimp only at e
    split at e
    · rename_i xs hi
      cases e
      obtain ⟨o, ho, vs, n, rfl, hv, hz⟩ := R.at_ _ _ _ hi rfl h
      exact .lst (List.mem_append_right _ (R.ours h ho)) (hv.up fun p hp => List.mem_append_left _ hp) hz
    · cases e
  | _ => cases e
theorem HR.frzEs (R : HR W news H) : ∀ {ps : List PV} {vs : List Value} {xs : List V}, Reps W ps vs → Rk.frzEs H ps = some xs → VReps (W.fro ++ Rk.ours W news) xs vs
  | _, _, _, .nil, e => by cases e; exact .nil
  | _, _, _, .cons h t, e => by
    unfold Rk.frzEs at e
    rw [Option.bind_eq_some_iff] at e
    obtain ⟨x, e1, e2⟩ := e
    rw [Option.map_eq_some_iff] at e2
    obtain ⟨xs, e2, rfl⟩ := e2
    exact .cons (R.frzE h e1) (R.frzEs t e2)
theorem HR.frzD (R : HR W news H) {p : PV} {v : Value} {x : V} (h : Rep W p v) (e : Rk.frzD H p = some x) : VRep (W.fro ++ Rk.ours W news) x v := by
  cases h with
  | v h => cases e; exact h.up fun p hp => List.mem_append_left _ hp
  | ref h =>
    unfold Rk.frzD at e
    dsimp only at e
    split at e
    · rename_i xs hi
      cases e
      obtain ⟨o, ho, vs, n, rfl, hv, hz⟩ := R.at_ _ _ _ hi rfl h
      exact .lst (List.mem_append_right _ (R.ours h ho)) (hv.up fun p hp => List.mem_append_left _ hp) hz
    · rename_i ps hi
      rw [Option.map_eq_some_iff] at e
      obtain ⟨xs, e, rfl⟩ := e
      obtain ⟨o, ho, vs, n, rfl, hv, hz⟩ := R.at_ _ _ _ hi rfl h
      exact .lst (List.mem_append_right _ (R.ours h ho)) (R.frzEs hv e) hz
    · cases e
  | _ => cases e
end
end Rk
end
section
open PySem PySem.W PyProof.Rows
set_option maxRecDepth 100000
namespace Rk
/-- what a callee is not to change -/
def others (W : Wd) (news : Led) : Led := news.filter fun p => !holes.contains p.1 && W.fro.all fun q => q.1 != p.1
section
variable {W W' : Wd} {news news' : Led} {H H' : List AObj}
theorem others_of {p : Addr × Obj} (h : p ∈ news) (hh : p.1 ∉ holes) (hf : ∀ q ∈ W.fro, q.1 ≠ p.1) : p ∈ others W news := List.mem_filter.mpr ⟨h, by
    rw [Bool.and_eq_true]
    exact ⟨by simpa using hh, List.all_eq_true.mpr fun q hq => bne_iff_ne.mpr (hf q hq)⟩⟩
theorem others_no {p : Addr × Obj} (h : p ∈ others W news) : p ∈ news ∧ ∀ q ∈ W.fro, q.1 ≠ p.1 := by
  obtain ⟨h1, h2⟩ := List.mem_filter.mp h
  rw [Bool.and_eq_true] at h2
  exact ⟨h1, fun q hq => bne_iff_ne.mp (List.all_eq_true.mp h2.2 q hq)⟩
theorem others_hol {p : Addr × Obj} (h : p ∈ others W news) : p.1 ∉ holes := by
  obtain ⟨h1, h2⟩ := List.mem_filter.mp h
  rw [Bool.and_eq_true] at h2
  simpa using h2.1
theorem ours_no {q : Addr × Obj} (h : q ∈ ours W news) : q ∈ news ∧ ∀ p ∈ W.ex, p.1 ≠ q.1 := by
  obtain ⟨h1, h2⟩ := List.mem_filter.mp h
  rw [Bool.and_eq_true] at h2
  exact ⟨h1, fun p hp => bne_iff_ne.mp (List.all_eq_true.mp h2.2 p hp)⟩
theorem ours_hol {q : Addr × Obj} (h : q ∈ ours W news) : q.1 ∉ holes := by
  obtain ⟨h1, h2⟩ := List.mem_filter.mp h
  rw [Bool.and_eq_true] at h2
  simpa using h2.1
/-- the callee's start, where it was handed nothing that changes -/
theorem HR.start (R : HR W news H) : HR ⟨[], W.fro, others W news, W.P⟩ news [] where
  len := rfl
  nd := fun i j x y a h => by simp at h
  fro := R.fro
  exs := fun p hp => ⟨(others_no hp).1, by simp, (others_no hp).2⟩
  own := fun a h => by simp at h
  at_ := fun i x a h => by simp at h
  apart := fun i x a h => by simp at h
  hol := fun b hb => by
    obtain ⟨h1, _, h4, _⟩ := R.hol b hb
    exact ⟨h1, by simp, h4, fun q hq e => others_hol hq (e ▸ hb)⟩
theorem HR.back (R : HR W news H) (R' : HR W' news' H') (hx : W'.ex = others W news) (hf : ∀ p ∈ W.fro, p ∈ W'.fro) {extra : Led} (he : ∀ p ∈ extra, p ∈ Rk.ours W' news') :
    HR ⟨W.mu, W'.fro ++ extra, W.ex, W.P⟩ news' H ∧ W.Le ⟨W.mu, W'.fro ++ extra, W.ex, W.P⟩ := by
  have le : W.Le ⟨W.mu, W'.fro ++ extra, W.ex, W.P⟩ := ⟨fun _ _ e => e, fun p hp => List.mem_append_left _ (hf p hp), rfl, rfl⟩
  have ap : ∀ p ∈ others W news, p ∈ news' ∧ ∀ q ∈ W'.fro ++ extra, q.1 ≠ p.1 := fun p hp => by
    rw [← hx] at hp
    refine ⟨(R'.exs p hp).1, fun q hq => ?_⟩
    rcases List.mem_append.mp hq with hq | hq
    · exact (R'.exs p hp).2.2 q hq
    · exact fun e => (ours_no (he q hq)).2 p hp e.symm
  refine ⟨⟨R.len, R.nd, fun p hp => ?_, fun p hp => ?_, fun a ha => ?_, fun i x a hi hl ha => ?_, fun i x a hi hl ha p hp => ?_, fun b hb => ?_⟩, le⟩
  rotate_right 1
  · obtain ⟨_, h3, _, h5⟩ := R.hol b hb
    obtain ⟨h1, _, h4, _⟩ := R'.hol b hb
    refine ⟨h1, h3, fun q hq => ?_, h5⟩
    rcases List.mem_append.mp hq with hq | hq
    · exact h4 q hq
    · exact fun e => ours_hol (he q hq) (e ▸ hb)
  · rcases List.mem_append.mp hp with hp | hp
    · exact R'.fro p hp
    · exact (ours_no (he p hp)).1
  · obtain ⟨h1, h2, h3⟩ := R.exs p hp
    obtain ⟨k1, k2⟩ := ap p (others_of h1 (fun hh => (R.hol _ hh).2.2.2 p hp rfl) h3)
    exact ⟨k1, h2, k2⟩
  · obtain ⟨p, hp, e⟩ := R.own a ha
    by_cases h : ∃ q ∈ W.fro, q.1 = p.1
    · obtain ⟨q, hq, e'⟩ := h
      exact ⟨q, R'.fro q (hf q hq), e'.trans e⟩
    · exact ⟨p, (ap p (others_of hp (fun hh => (R.hol _ hh).2.1 (e ▸ ha)) fun q hq e' => h ⟨q, hq, e'⟩)).1, e⟩
  · obtain ⟨o, ho, h⟩ := R.at_ i x a hi hl ha
    exact ⟨o, (ap _ (others_of ho (R.hol.mu ha) fun q hq => R.apart i x a hi hl ha q hq)).1, h.up le⟩
  · obtain ⟨o, ho, h⟩ := R.at_ i x a hi hl ha
    exact (ap _ (others_of ho (R.hol.mu ha) fun q hq => R.apart i x a hi hl ha q hq)).2 p hp
/-- two heaps beside one another -/
abbrev Wd.join (W W' : Wd) : Wd := ⟨W.mu ++ W'.mu, W'.fro, W.ex, W.P⟩
theorem Rep.sh (hP : W'.P = W.P) {p : PV} {v : Value} (h : Rep W' p v) : Rep (W.join W') (shP W.mu.length p) v := by
  cases h with
  | v h => exact .v h
  | ref h => exact .ref (by show (W.mu ++ W'.mu)[_]? = _; rw [List.getElem?_append_right (Nat.le_add_right _ _), Nat.add_sub_cancel_left]; exact h)
  | cst v => exact .cst v
  | any v => exact .any v
  | fset hm hr => exact .fset hm (hP ▸ hr)
  | mat hm hb hs hz => exact .mat hm hb hs hz
theorem Reps.sh (hP : W'.P = W.P) : ∀ {ps : List PV} {vs : List Value}, Reps W' ps vs → Reps (W.join W') (ps.map (shP W.mu.length)) vs
  | _, _, .nil => .nil
  | _, _, .cons h t => .cons (h.sh hP) (t.sh hP)
theorem Ents.sh (hP : W'.P = W.P) : ∀ {es : List (Str × PV)} {ds : List DictEntry}, Ents W' es ds → Ents (W.join W') (es.map fun y => (y.1, shP W.mu.length y.2)) ds
  | _, _, .nil => .nil
  | _, _, .cons h t => .cons (h.sh hP) (t.sh hP)
theorem Slts.sh (hP : W'.P = W.P) : ∀ {es : List (Option PV)} {ds : List (Option Value)}, Slts W' es ds → Slts (W.join W') (es.map (Option.map (shP W.mu.length))) ds
  | _, _, .nil => .nil
  | _, _, .no t => .no (t.sh hP)
  | _, _, .yes h t => .yes (h.sh hP) (t.sh hP)
theorem ObjR.sh (hP : W'.P = W.P) : ∀ {x : AObj} {o : Obj}, ObjR W' x o → ObjR (W.join W') (shO W.mu.length x) o
  | .vlist _, _, ⟨vs, k, e, h, z⟩ => ⟨vs, k, e, h, z⟩
  | .vrev _, _, ⟨vs, k, e, h, z⟩ => ⟨vs, k, e, h, z⟩
  | .rlist _, _, ⟨vs, k, e, h, z⟩ => ⟨vs, k, e, h.sh hP, z⟩
  | .inst _ _ _, _, ⟨d, vs, e, h, h'⟩ => ⟨d, vs, e, by show (W.mu ++ W'.mu)[_]? = _; rw [List.getElem?_append_right (Nat.le_add_right _ _), Nat.add_sub_cancel_left]; exact h, h'.sh hP⟩
  | .dict _, _, ⟨ds, k, e, h⟩ => ⟨ds, k, e, h.sh hP⟩
  | .sset _, _, ⟨es, n, t, e, h⟩ => ⟨es, n, t, e, hP ▸ h⟩
  | .junk, _, _ => trivial
theorem live_sh {k : Nat} {x : AObj} (h : (shO k x).live = true) : x.live = true := by cases x <;> first | rfl | exact h
theorem HR.join (R : HR W news H) (R' : HR W' news' H') (hx : W'.ex = others W news) (hf : ∀ p ∈ W.fro, p ∈ W'.fro) (hP : W'.P = W.P) :
    HR (W.join W') news' (H ++ H'.map (shO H.length)) ∧ W.Le (W.join W') := by
  have le : W.Le (W.join W') := ⟨fun i b e => by show (W.mu ++ W'.mu)[i]? = _; rw [List.getElem?_append_left (List.getElem?_eq_some_iff.mp e).1]; exact e, hf, rfl, rfl⟩
  obtain ⟨B, leB⟩ := R.back (extra := []) R' hx hf (fun p hp => by simp at hp)
  have cut : ∀ (j : Nat) (y : AObj) (b : Addr), (H ++ H'.map (shO H.length))[j]? = some y → (W.mu ++ W'.mu)[j]? = some b →
      (H[j]? = some y ∧ W.mu[j]? = some b) ∨ (∃ k y', j = H.length + k ∧ H'[k]? = some y' ∧ y = shO H.length y' ∧ W'.mu[k]? = some b) := fun j y b hj hb => by
    by_cases e : j < H.length
    · rw [List.getElem?_append_left e] at hj
      rw [List.getElem?_append_left (R.len ▸ e)] at hb
      exact .inl ⟨hj, hb⟩
    · refine .inr ⟨j - H.length, ?_⟩
      rw [List.getElem?_append_right (by omega), List.getElem?_map, Option.map_eq_some_iff] at hj
      rw [List.getElem?_append_right (by rw [R.len]; omega), R.len] at hb
      obtain ⟨y', h1, h2⟩ := hj
      exact ⟨y', by omega, h1, h2.symm, hb⟩
  have sep : ∀ (i : Nat) (x : AObj) (a : Addr), H[i]? = some x → x.live = true → W.mu[i]? = some a → a ∉ W'.mu := fun i x a hi hl ha q => by
    obtain ⟨o, ho, _⟩ := R.at_ i x a hi hl ha
    exact (R'.exs (a, o) (hx ▸ others_of ho (R.hol.mu ha) fun q hq => R.apart i x a hi hl ha q hq)).2.1 q
  have len : W.mu.length = H.length := R.len
  refine ⟨⟨?_, ?_, R'.fro, fun p hp => ?_, fun a ha => ?_, ?_, ?_, fun b hb => ?_⟩, le⟩
  rotate_right 1
  · obtain ⟨_, h3, _, h5⟩ := R.hol b hb
    obtain ⟨h1, k3, h4, _⟩ := R'.hol b hb
    refine ⟨h1, fun q => ?_, h4, h5⟩
    rcases List.mem_append.mp q with q | q
    · exact h3 q
    · exact k3 q
  · show (W.mu ++ W'.mu).length = _
    rw [List.length_append, List.length_append, List.length_map, R.len, R'.len]
  · intro i j x y a hi hlx hj hly h1 h2
    rcases cut i x a hi h1 with ⟨e1, e2⟩ | ⟨k, x', e1, e2, e3, e4⟩
    · rcases cut j y a hj h2 with ⟨f1, f2⟩ | ⟨k', y', f1, f2, f3, f4⟩
      · exact R.nd i j x y a e1 hlx f1 hly e2 f2
      · exact absurd (List.mem_of_getElem? f4) (sep i x a e1 hlx e2)
    · rcases cut j y a hj h2 with ⟨f1, f2⟩ | ⟨k', y', f1, f2, f3, f4⟩
      · exact absurd (List.mem_of_getElem? e4) (sep j y a f1 hly f2)
      · subst e3 f3
        rw [e1, f1, R'.nd k k' x' y' a e2 (live_sh hlx) f2 (live_sh hly) e4 f4]
  · obtain ⟨h1, h2, h3⟩ := B.exs p hp
    refine ⟨h1, fun q => ?_, fun q hq => h3 q (List.mem_append_left _ hq)⟩
    rcases List.mem_append.mp q with q | q
    · exact h2 q
    · obtain ⟨k1, k2, k3⟩ := R.exs p hp
      exact (R'.exs p (hx ▸ others_of k1 (fun hh => (R.hol _ hh).2.2.2 p hp rfl) k3)).2.1 q
  · rcases List.mem_append.mp ha with ha | ha
    · exact B.own a ha
    · exact R'.own a ha
  · intro i x a hi hl ha
    rcases cut i x a hi ha with ⟨e1, e2⟩ | ⟨k, x', e1, e2, e3, e4⟩
    · obtain ⟨o, ho, h⟩ := R.at_ i x a e1 hl e2
      exact ⟨o, (R'.exs (a, o) (hx ▸ others_of ho (R.hol.mu e2) fun q hq => R.apart i x a e1 hl e2 q hq)).1, h.up le⟩
    · subst e3
      obtain ⟨o, ho, h⟩ := R'.at_ k x' a e2 (live_sh hl) e4
      exact ⟨o, ho, by rw [← len]; exact h.sh hP⟩
  · intro i x a hi hl ha p hp
    rcases cut i x a hi ha with ⟨e1, e2⟩ | ⟨k, x', e1, e2, e3, e4⟩
    · obtain ⟨o, ho, h⟩ := R.at_ i x a e1 hl e2
      exact (R'.exs (a, o) (hx ▸ others_of ho (R.hol.mu e2) fun q hq => R.apart i x a e1 hl e2 q hq)).2.2 p hp
    · subst e3
      exact R'.apart k x' a e2 (live_sh hl) e4 p hp
end
theorem Rep.plain {W W' : Wd} {p : PV} {v : Value} (h : Rep W p v) (hp : noRef p = true) (hf : ∀ q ∈ W.fro, q ∈ W'.fro) (hP : W'.P = W.P) : Rep W' p v := by
  cases h with
  | v h => exact .v (h.up hf)
  | ref h => cases hp
  | cst v => exact .cst v
  | any v => exact .any v
  | fset hm hr => exact .fset (hf _ hm) (hP ▸ hr)
  | mat hm hb hs hz => exact .mat (hf _ hm) (hf _ hb) hs hz
theorem Reps.plain {W W' : Wd} (hf : ∀ q ∈ W.fro, q ∈ W'.fro) (hP : W'.P = W.P) : ∀ {ps : List PV} {vs : List Value}, Reps W ps vs → noRefs ps = true → Reps W' ps vs
  | _, _, .nil, _ => .nil
  | _, _, .cons h t, e => by
    unfold noRefs at e
    rw [Bool.and_eq_true] at e
    exact .cons (h.plain e.1 hf hP) (t.plain hf hP e.2)
/-- bindings -/
inductive BRep (W : Wd) : List (Str × PV) → List (Str × Value) → Prop
  | nil : BRep W [] []
  | cons {x : Str} {p : PV} {v : Value} {ps : List (Str × PV)} {vs : List (Str × Value)} (h : Rep W p v) (t : BRep W ps vs) : BRep W ((x, p) :: ps) ((x, v) :: vs)
theorem BRep.append {W : Wd} : ∀ {ps qs : List (Str × PV)} {vs us : List (Str × Value)}, BRep W ps vs → BRep W qs us → BRep W (ps ++ qs) (vs ++ us)
  | _, _, _, _, .nil, y => y
  | _, _, _, _, .cons h t, y => .cons h (t.append y)
theorem BRep.reverse {W : Wd} : ∀ {ps : List (Str × PV)} {vs : List (Str × Value)}, BRep W ps vs → BRep W ps.reverse vs.reverse
  | _, _, .nil => .nil
  | _, _, .cons h t => by rw [List.reverse_cons, List.reverse_cons]; exact t.reverse.append (.cons h .nil)
theorem BRep.lookup {W : Wd} : ∀ {ps : List (Str × PV)} {vs : List (Str × Value)}, BRep W ps vs → ∀ {x : Str} {p : PV}, ps.lookup x = some p → ∃ v, vs.lookup x = some v ∧ Rep W p v
  | _, _, .cons (x := y) h t, x, p, e => by
    rw [List.lookup_cons] at e ⊢
    cases q : x == y with
    | true => rw [q] at e; cases e; exact ⟨_, rfl, h⟩
    | false => rw [q] at e; exact t.lookup e
theorem BRep.zip {W : Wd} : ∀ (names : List Str) {ps : List PV} {vs : List Value}, Reps W ps vs → BRep W (names.zip ps) (names.zip vs)
  | [], _, _, _ => by simp; exact .nil
  | _ :: _, _, _, .nil => by simp; exact .nil
  | x :: r, _, _, .cons h t => .cons h (BRep.zip r t)
end Rk
end
section
open PySem PySem.W PyProof.Rows
set_option maxRecDepth 100000
namespace Rk
structure FnOk (G : Pg) (a : Addr) (f : FnI) : Prop where
  obj : ∀ P, ∃ (name : Str) (params : Arguments) (dV kV doc pm ct oc : Value) (an od : Option Addr) (osl : Array (Option Value)),
    (G.K P).lookup a = some ⟨oc, od, .func (fnOf name f.nm params f.body f.scope dV kV doc pm an f.cd ct), osl⟩ ∧ codeIn (G.K P) f.cd f.nm = true ∧
    ∀ s vs, (G.K P).In s.heap → vs.length ≤ f.names.length → f.names.length ≤ vs.length + f.dfl.length →
      BindsTo s (fnOf name f.nm params f.body f.scope dV kV doc pm an f.cd ct) ⟨vs, []⟩ (f.names.zip (vs ++ (dflts f vs.length).map (·.2)))
  loc : ∀ x ∈ f.names, f.scope.names.lookup x = some .local
  kind : f.scope.kind = .function
  co : f.scope.isCoroutine = false
  gen : f.scope.isGenerator = false
  cell : ∀ x ∈ f.scope.names, x.2 ≠ .cell
  dfl : ∀ y ∈ f.dfl, VRep [] y.1 y.2
section
variable {G : Pg} {F : Fn} {X : Cx G F} {W : Wd} {σ : St} {T : Tb} {E : Ev}
theorem dfl_reps {f : FnI} (h : ∀ y ∈ f.dfl, VRep [] y.1 y.2) (n : Nat) : Reps W ((dflts f n).map fun y => .v y.1) ((dflts f n).map (·.2)) := by
  have : ∀ l : List (V × Value), (∀ y ∈ l, VRep [] y.1 y.2) → Reps W (l.map fun y => .v y.1) (l.map (·.2)) := fun l => by
    induction l with
    | nil => exact fun _ => .nil
    | cons y r ih => exact fun h => .cons (.v ((h y (.head _)).up fun p hp => by simp at hp)) (ih fun z hz => h z (.tail _ hz))
  exact this _ fun y hy => h y (List.mem_of_mem_drop hy)
def retV : Flow → Value
  | .ret v => v
  | _ => .none
theorem frep_ret {W' : Wd} {fl : AFlow} {fv : Flow} {p : PV} (h : FRep W' fl fv) (e : retP fl = some p) : Rep W' p (retV fv) := by
  cases h with
  | ret h => cases e; exact h
  | next => cases e; exact .v .none
  | brk => cases e
  | cont => cases e
theorem mem_zip_fst {α β : Type} {y : α × β} : ∀ {xs : List α} {ys : List β}, y ∈ xs.zip ys → y.1 ∈ xs
  | _ :: _, _ :: _, h => by
    rw [List.zip_cons_cons] at h
    rcases List.mem_cons.mp h with rfl | h
    · exact .head _
    · exact .tail _ (mem_zip_fst h)
/-- where a call without changing objects ends -/
theorem finV_post {f : FnI} {m : Str → Option Value} {news news' : Led} {W' : Wd} {σ' : St} {s s' : Shared} {fl : AFlow} {fv : Flow} (I : InvX X W σ s m news) (R' : HR W' news' σ'.H) (hx : W'.ex = others W news) (hf : ∀ p ∈ W.fro, p ∈ W'.fro) (hP : W'.P = W.P)
    (nd : (news'.map (·.1)).Nodup) (FL : Fr X.h₀ X.L s'.heap m) (NL : News X.h₀ X.L s'.heap news') (ho : s'.os = X.os) (hg : AllBare s'.gens) (rf : FRep W' fl fv) (hn : finV f σ (.ok fl σ') ≠ .no) :
    PostM X W (finV f σ (.ok fl σ')) m (retV fv) s' := by
  have ho : s'.os = X.os ∧ ∀ q ∈ X.pv, m q.1 = some q.2 := ⟨ho, I.os.2⟩
  have hloc : ∀ {W'' : Wd}, W.Le W'' → ∀ x p, σ.loc.lookup x = some p → ∃ v, m x = some v ∧ Rep W'' p v := fun le x p e => by
    obtain ⟨v, hv, r⟩ := I.loc x p e
    exact ⟨v, hv, r.up le⟩
  unfold finV at hn ⊢
  dsimp only at hn ⊢
  cases e : retP fl with
  | none => rw [e] at hn; exact (hn rfl).elim
  | some p =>
    have r := frep_ret rf e
    generalize retV fv = rv at r ⊢
    rw [e] at hn
    dsimp only at hn ⊢
    cases hp : noRef p with
    | true =>
      obtain ⟨B, le⟩ := I.hr.back (extra := []) R' hx hf (fun p hp => by simp at hp)
      exact ⟨_, p, σ, le, rfl, r.plain (W' := ⟨W.mu, W'.fro ++ [], W.ex, W.P⟩) hp (fun q hq => List.mem_append_left _ hq) hP.symm, news', FL, NL, nd, B, hloc le, ho, hg, I.P⟩
    | false =>
      obtain ⟨B, le⟩ := I.hr.join R' hx hf hP
      have joined : PostM X W (.ok (shP σ.H.length p) ⟨σ.loc, σ.H ++ σ'.H.map (shO σ.H.length)⟩) m rv s' :=
        ⟨_, _, _, le, rfl, by rw [← I.hr.len]; exact r.sh hP, news', FL, NL, nd, B, hloc le, ho, hg, I.P⟩
      cases hk : f.keepR with
      | true => exact joined
      | false =>
        dsimp only
        split
        · rename_i x hx'
          obtain ⟨B, le⟩ := I.hr.back (extra := Rk.ours W' news') R' hx hf (fun p hp => hp)
          exact ⟨_, _, _, le, rfl, .v (R'.frzD r hx'), news', FL, NL, nd, B, hloc le, ho, hg, I.P⟩
        · exact joined
/-- where a call with changing objects ends -/
theorem finH_post {f : FnI} {m : Str → Option Value} {news news' : Led} {W' : Wd} {σ' : St} {s s' : Shared} {fl : AFlow} {fv : Flow} (I : InvX X W σ s m news) (R' : HR W' news' σ'.H) (le : W.Le W')
    (nd : (news'.map (·.1)).Nodup) (FL : Fr X.h₀ X.L s'.heap m) (NL : News X.h₀ X.L s'.heap news') (ho : s'.os = X.os) (hg : AllBare s'.gens) (rf : FRep W' fl fv) (hn : finH f σ (.ok fl σ') ≠ .no) :
    PostM X W (finH f σ (.ok fl σ')) m (retV fv) s' := by
  have ho : s'.os = X.os ∧ ∀ q ∈ X.pv, m q.1 = some q.2 := ⟨ho, I.os.2⟩
  have hloc : ∀ {W'' : Wd}, W.Le W'' → ∀ x p, σ.loc.lookup x = some p → ∃ v, m x = some v ∧ Rep W'' p v := fun le x p e => by
    obtain ⟨v, hv, r⟩ := I.loc x p e
    exact ⟨v, hv, r.up le⟩
  unfold finH at hn ⊢
  dsimp only at hn ⊢
  cases hb : Nat.ble σ.H.length σ'.H.length with
  | false => rw [hb] at hn; exact (hn rfl).elim
  | true =>
    have hlen := Nat.le_of_ble_eq_true hb
    rw [hb] at hn
    dsimp only at hn ⊢
    cases e : retP fl with
    | none => rw [e] at hn; exact (hn rfl).elim
    | some p =>
      have r := frep_ret rf e
      generalize retV fv = rv at r ⊢
      rw [e] at hn
      dsimp only at hn ⊢
      have cutTo : ∀ {H₁ : List AObj} {W₁ : Wd}, HR W₁ news' H₁ → W'.Le W₁ → σ.H.length ≤ H₁.length → ∃ W₂, W.Le W₂ ∧ W₂.fro = W₁.fro ∧ W₂.P = W₁.P ∧ HR W₂ news' (Rk.trunc σ.H.length H₁) ∧ (∀ (i : Nat) (a : Addr), i < σ.H.length → W₁.mu[i]? = some a → W₂.mu[i]? = some a) := fun R₁ l₁ hl => by
        obtain ⟨W₂, f1, f2, f3, R₂, f4⟩ := R₁.trunc hl
        have l := le.trans l₁
        refine ⟨W₂, ⟨fun i a e => f4 i a ?_ (l.num i a e), fun p hp => f1 ▸ l.kp p hp, f2.trans l.ex, f3.trans l.P⟩, f1, f3, R₂, f4⟩
        rw [← I.hr.len]; exact (List.getElem?_eq_some_iff.mp e).1
      cases hq : belowP σ.H.length p with
      | true =>
        obtain ⟨W₂, l₂, f1, f3, R₂, f4⟩ := cutTo R' .refl hlen
        refine ⟨W₂, p, _, l₂, rfl, ?_, news', FL, NL, nd, R₂, hloc l₂, ho, hg, l₂.P.trans I.P⟩
        cases r with
        | ref h => exact .ref (f4 _ _ ((Nat.blt_eq).mp hq) h)
        | v h => exact .v (f1 ▸ h)
        | cst => exact .cst _
        | any => exact .any _
        | fset hm hr => exact .fset (f1 ▸ hm) (f3 ▸ hr)
        | mat hm hb hs hz => exact .mat (f1 ▸ hm) (f1 ▸ hb) hs hz
      | false =>
        rw [hq] at hn
        dsimp only at hn ⊢
        cases hk : f.keepR with
        | true => exact ⟨W', p, _, le, rfl, r, news', FL, NL, nd, R', hloc le, ho, hg, le.P.trans I.P⟩
        | false =>
          rw [hk] at hn
          dsimp only at hn ⊢
          cases hz : Rk.frz1 σ'.H p with
          | none => rw [hz] at hn; exact (hn rfl).elim
          | some y =>
            obtain ⟨x, H₁⟩ := y
            dsimp only
            obtain ⟨W₁, l₁, R₁, rx⟩ := R'.frz1 r hz
            have hl₁ : σ.H.length ≤ H₁.length := by
              rw [← R₁.len]
              have := R'.len
              have : W'.mu.length ≤ W₁.mu.length := by
                by_cases h0 : W'.mu.length = 0
                · omega
                · have h1 := l₁.num (W'.mu.length - 1) _ (List.getElem?_eq_getElem (by omega))
                  have := (List.getElem?_eq_some_iff.mp h1).1
                  omega
              omega
            obtain ⟨W₂, l₂, f1, f3, R₂, f4⟩ := cutTo R₁ l₁ hl₁
            exact ⟨W₂, _, _, l₂, rfl, .v (f1 ▸ rx), news', FL, NL, nd, R₂, hloc l₂, ho, hg, l₂.P.trans I.P⟩
theorem leaveRet {h₀ g : Heap} {L : Addr} {m : Str → Option Value} {R : Result → Shared → Prop} {fl : Flow} {s' : Shared} (h : LeaveK h₀ L m g R (retV fl) s') : LeaveK h₀ L m g R (match (generalizing := false) fl with | .ret v => v | _ => .none) s' := by
  cases fl <;> exact h
theorem finV_no {f : FnI} {o : Out AFlow} (h : finV f σ o ≠ .no) : o ≠ .no := fun e => h (by rw [e]; rfl)
theorem finH_no {f : FnI} {o : Out AFlow} (h : finH f σ o ≠ .no) : o ≠ .no := fun e => h (by rw [e]; rfl)
/-- a call of a def -/
theorem fn_sat (ok : X.Ok) (hT : ∀ a f, T.fns.lookup a = some f → FnOk G a f) (hd : 1 ≤ X.dep)
    (IH : ∀ {F' : Fn} (Y : Cx G F'), Y.Ok → Y.dep + 1 = X.dep → ∀ W σ b, Sat Y W (execs b Y.env) σ (E.ex F' b σ))
    {A' : Around} (nr : Near X A') {a : Addr} {args : List PV} {vs : List Value} (r : Reps W args vs) : SatC X W A' (.call (.ref a) ⟨vs, []⟩) σ (fnE T E a args σ) := by
  intro hn s m news J
  unfold fnE at hn ⊢
  cases hf : T.fns.lookup a with
  | none => rw [hf] at hn; exact (hn rfl).elim
  | some f =>
    rw [hf] at hn
    dsimp only at hn ⊢
    cases hb : bindE f args with
    | none => rw [hb] at hn; exact (hn rfl).elim
    | some loc =>
      rw [hb] at hn
      dsimp only at hn ⊢
      have FO := hT a f hf
      obtain ⟨name, params, dV, kV, doc, pm, ct, oc, an, od, osl, ho, hcd, hbind⟩ := FO.obj X.w.params
      unfold bindE at hb
      split at hb
      rotate_left 1
      · cases hb
      rename_i hl
      rw [Bool.and_eq_true] at hl
      have l1 : vs.length ≤ f.names.length := by rw [r.length]; exact Nat.le_of_ble_eq_true hl.1
      have l2 : f.names.length ≤ vs.length + f.dfl.length := by rw [r.length]; exact Nat.le_of_ble_eq_true hl.2
      have eloc := Option.some.inj hb
      have hroom : A'.depth < recursionLimit := by have := ok.depth; have := nr.depth; omega
      have hbr : ∀ {W₀ : Wd}, Reps W₀ args vs → ∀ x p, loc.reverse.lookup x = some p → ∃ v, (f.names.zip (vs ++ (dflts f vs.length).map (·.2))).reverse.lookup x = some v ∧ Rep W₀ p v := fun r₀ x p e => by
        rw [← eloc] at e
        refine BRep.lookup (BRep.reverse (BRep.zip f.names ?_)) e
        rw [r.length]
        exact r₀.append (dfl_reps FO.dfl _)
      refine code_def (K := X.K) ok.below J.fr ok.kin J.nw ok.top nr.frames rfl ok.kind ho hcd hroom (hbind s vs (J.k ok) l1 l2) (fun y hy => FO.loc y.1 (mem_zip_fst hy)) ?_ FO.co FO.gen FO.kind FO.cell
      intro g L' h₁ FG F' N' B' KG TG
      have okY := calleeX_ok (f := f) (a := a) (L' := L') ok nr FO.kind hd J.os.2 FG B' KG TG
      have hdep : (calleeX X f a A' g L').dep + 1 = X.dep := by show X.dep - 1 + 1 = X.dep; omega
      cases hv : noRefs args with
      | true =>
        rw [hv] at hn
        dsimp only at hn ⊢
        have ho' := finV_no hn
        have I₀ : Inv (calleeX X f a A' g L') ⟨[], W.fro, others W news, W.P⟩ ⟨loc.reverse, []⟩ { s with heap := h₁, toks := s.toks + (f.names.zip (vs ++ (dflts f vs.length).map (·.2))).length } :=
          ⟨_, news, F', N', J.nd, J.hr.start, hbr (Reps.plain (W := W) (W' := ⟨[], W.fro, others W news, W.P⟩) (fun q hq => hq) rfl r hv), ⟨J.os.1, fun q hq => by cases hq⟩, J.gens, J.P⟩
        refine wpAny_mono (IH _ okY hdep _ _ f.body ho' _ I₀) (fun fl s' post => ?_) (fun e s' ep => ?_)
        · obtain ⟨W', flA, σ', le', eo, rf, m', news', J'⟩ := post
          refine leaveRet (leaveK_ J'.fr J'.nw fun FL NL => ?_)
          have eo : E.ex (f.fn a) f.body ⟨loc.reverse, []⟩ = .ok flA σ' := eo
          show PostM X W (finV f σ (E.ex (f.fn a) f.body ⟨loc.reverse, []⟩)) m (retV fl) s'
          rw [eo] at hn ⊢
          exact finV_post J J'.hr le'.ex le'.kp le'.P J'.nd FL NL J'.os.1 J'.gens rf hn
        · obtain ⟨c, ec, ep⟩ := ep
          have ec : E.ex (f.fn a) f.body ⟨loc.reverse, []⟩ = .exc c := ec
          refine wpAny_mono ep (fun _ s'' q => ⟨c, ?_, q⟩) fun _ _ q => q.elim
          rw [ec]; rfl
      | false =>
        rw [hv] at hn
        dsimp only at hn ⊢
        have ho' := finH_no hn
        have I₀ : Inv (calleeX X f a A' g L') W ⟨loc.reverse, σ.H⟩ { s with heap := h₁, toks := s.toks + (f.names.zip (vs ++ (dflts f vs.length).map (·.2))).length } :=
          ⟨_, news, F', N', J.nd, J.hr, hbr r, ⟨J.os.1, fun q hq => by cases hq⟩, J.gens, J.P⟩
        refine wpAny_mono (IH _ okY hdep _ _ f.body ho' _ I₀) (fun fl s' post => ?_) (fun e s' ep => ?_)
        · obtain ⟨W', flA, σ', le', eo, rf, m', news', J'⟩ := post
          refine leaveRet (leaveK_ J'.fr J'.nw fun FL NL => ?_)
          have eo : E.ex (f.fn a) f.body ⟨loc.reverse, σ.H⟩ = .ok flA σ' := eo
          show PostM X W (finH f σ (E.ex (f.fn a) f.body ⟨loc.reverse, σ.H⟩)) m (retV fl) s'
          rw [eo] at hn ⊢
          exact finH_post J J'.hr le' J'.nd FL NL J'.os.1 J'.gens rf hn
        · obtain ⟨c, ec, ep⟩ := ep
          have ec : E.ex (f.fn a) f.body ⟨loc.reverse, σ.H⟩ = .exc c := ec
          refine wpAny_mono ep (fun _ s'' q => ⟨c, ?_, q⟩) fun _ _ q => q.elim
          rw [ec]; rfl
end
end Rk
end
section
open PySem PySem.W PyProof.Rows PySem.Calls
set_option maxRecDepth 100000
namespace Rk
section
variable {G : Pg} {F : Fn} {X : Cx G F} {W : Wd} {σ : St} {T : Tb} {E : Ev}
theorem near_self (ok : X.Ok) : Near X X.A where
  frames := Around.frames_deeper ok.below.stack
  handled := ok.handled
  guards := ok.guards
  depth := by show X.Ac.depth + 1 ≤ X.Ac.depth + 3; omega
  units := by show X.Ac.units + 3 ≤ X.Ac.units + 15; omega
theorem SatC.sat {f : Value} {vs : List Value} {o : Out PV} (h : SatC X W X.A (.call f ⟨vs, []⟩) σ o) : Sat X W (call f vs []) σ o := fun hn s I => by
  obtain ⟨m, news, J⟩ := I
  refine wpAny_call (codeAny_mono (h hn s m news J) fun r s' z => ?_)
  rcases r with e | (_ | _ | _ | v)
  · exact z
  · exact z.elim
  · exact z.elim
  · exact z.elim
  · exact PostM.post z
def Keeps (X : Cx G F) (W : Wd) (f : Value) : Prop := ∀ h, X.K.In h ∧ (∀ p ∈ W.fro, h.get? p.1 = some p.2) → ∃ k, (k = Keeper.frame ∨ k = Keeper.machine ∨ k = Keeper.boundFrame) ∧ Looks X.M h (keeperOf f) k
theorem keeps_builtin (id : String) : Keeps X W (.builtin id) := fun h _ => ⟨.machine, .inr (.inl rfl), Looks.of_pure rfl⟩
theorem keeps_type (t : String) : Keeps X W (.type t) := fun h _ => ⟨.machine, .inr (.inl rfl), Looks.of_pure rfl⟩
theorem keeps_in {f : Value} (h : keepIn X.K f = true) : Keeps X W f := fun hh x => keeps_K h hh x.1
def anyStar (es : List Expr) : Bool := es.any isStar
theorem star_plain {env : Env} {pos : Pos} : ∀ {es : List Expr}, anyStar es = false → (backTo pos (starEach es env)).any (·.1) = false
  | [], _ => rfl
  | e :: r, h => by
    unfold anyStar at h
    rw [List.any_cons, Bool.or_eq_false_iff] at h
    rw [star_none h.1]
    show (false || (backTo pos (starEach r env)).any (·.1)) = false
    rw [star_plain h.2]; rfl
theorem callWith_sat (S : Got X E) (ok : X.Ok) {pos : Pos} {f : Value} {first : List Value} {es : List Expr} {g : List PV → St → Out PV} (hs : anyStar es = false) (hk : Keeps X W f)
    (k : ∀ W' as vs σ', W.Le W' → Reps W' as vs → Sat X W' (call f (first ++ vs) []) σ' (g as σ')) : Sat X W (callWith pos f first (backTo pos (starEach es X.env)) []) σ ((evs E F es σ).bind g) := by
  intro hn s I
  have hp : ((backTo pos (starEach es X.env)).any (·.1) || ([] : List (Option Str × Sem Value)).any (·.1.isNone)) = false := by rw [star_plain hs]; rfl
  refine callWith_of (P := fun h => X.K.In h ∧ ∀ p ∈ W.fro, h.get? p.1 = some p.2) hp hk ?_
  have sp := evs_sat S (pos := pos) es W σ (bind_ok hn) s I
  have fin : ∀ vs s', Post X W (evs E F es σ) vs s' → (X.K.In s'.heap ∧ ∀ p ∈ W.fro, s'.heap.get? p.1 = some p.2) ∧ wpAny X.M X.A (call f (first ++ vs) []) (Post X W ((evs E F es σ).bind g)) (EPO X ((evs E F es σ).bind g)) s' := fun vs s' ⟨W', ps, σ', le, e, rs, J⟩ => by
    obtain ⟨m, news, J'⟩ := id J
    refine ⟨⟨J'.k ok, fun p hp => J'.kept p (le.kp p hp)⟩, ?_⟩
    rw [e] at hn ⊢
    exact wpAny_mono (k W' ps vs σ' le rs hn s' J) (fun a s'' ⟨W'', b, σ'', le', e', r', J''⟩ => ⟨W'', b, σ'', le.trans le', e', r', J''⟩) fun _ _ x => x
  have bad : ∀ v s', EPO X (evs E F es σ) v s' → EPO X ((evs E F es σ).bind g) v s' := fun v s' ⟨c, e, q⟩ => ⟨c, by rw [e]; rfl, q⟩
  cases es with
  | nil => exact evalArgs_nil3 (fin [] s ⟨W, [], σ, .refl, rfl, .nil, I⟩)
  | cons e r =>
    unfold anyStar at hs
    rw [List.any_cons, Bool.or_eq_false_iff] at hs
    rw [star_none hs.1] at sp ⊢
    exact evalArgs_plain (wpAny_mono sp (fun vs s' q => fin vs s' q) bad)
def notAttr : Expr → Bool
  | .Attribute .. => false
  | _ => true
theorem call_arm {func : Expr} (h : notAttr func = true) (args : List Expr) (kws : List Keyword) (pos : Pos) (env : Env) : eval (.Call func args kws pos) env = (do
    callWith pos (← eval func env) [] (backTo pos (starEach args env)) (backToKw pos (keywordEach kws env))) := by
  cases func <;> first | rfl | cases h
def plainBase : Expr → Bool
  | .Call (.Name id _) [] [] _ => id != ("super" : Str)
  | _ => true
theorem attrBase {o : Expr} (h : plainBase o = true) (attr : Str) (env : Env) (whole : Sem Value) : attributeBase o attr env whole = whole := by
  unfold attributeBase
  split
  · rename_i id _ pos
    have h : (id != ("super" : Str)) = true := h
    rw [if_pos (by rw [h]; rfl)]
  · rfl
theorem meth_arm {o : Expr} {name : Str} {apos pos : Pos} {args : List Expr} {env : Env} (hb : plainBase o = true) (hl : (apos.endLine == pos.line) = true) (hs : anyStar args = false) (hn : args.length < 30) :
    eval (.Call (.Attribute o name apos) args [] pos) env = (do
      let ov ← eval o env
      PySem.standAt apos.atName
      let fx ← holding [ov] (getMethod ov name (do return (← importBound o env).getD true))
      callWith pos fx.1 fx.2 (backTo pos (starEach args env)) []) := by
  rw [arm_eval_Call, attrBase hb]
  have hall : ∀ l : List (Bool × Sem Value), l.any (·.1) = false → l.all (!·.1) = true := fun l => by
    induction l with
    | nil => exact fun _ => rfl
    | cons x r ih =>
      intro h
      rw [List.any_cons, Bool.or_eq_false_iff] at h
      rw [List.all_cons, ih h.2, h.1]; rfl
  have hf : methodCallForm (args.length + ([] : List Keyword).length) (backTo pos (starEach args env)) (backToKw pos (keywordEach [] env)) = true := by
    unfold methodCallForm
    rw [hall _ (star_plain hs)]
    show (true && true && decide (args.length + 0 + 0 < 30)) = true
    rw [decide_eq_true (by omega)]; rfl
  have hm : ∀ ov, methodCall o name apos pos env ov (args.length + ([] : List Keyword).length) (backTo pos (starEach args env)) (backToKw pos (keywordEach [] env)) = (do
      let fx ← holding [ov] (getMethod ov name (do return (← importBound o env).getD true))
      callWith pos fx.1 fx.2 (backTo pos (starEach args env)) []) := fun ov => by
    unfold methodCall
    rw [hf]
    unfold methodCallPos
    rw [hl]
    rfl
  simp only [hm]
end
end Rk
end
section
open PySem PySem.W PyProof.Rows PySem.Calls
set_option maxRecDepth 100000
namespace Rk
structure ClOk (G : Pg) (C : Addr) (c : ClI) : Prop where
  cls : ∀ P, isClsIn (G.K P) C = true
  get : ∀ P name, plainGet (G.K P) C name = true
  attrs : ∀ P name, c.attrs.contains name = true → hasDictIn (G.K P) C = true ∧ (∃ attr, findIn (G.K P) (.ref C) name = some attr ∧ noGet (G.K P) attr = true) ∧ takerIn (G.K P) C name = some none
  setter : ∀ P, findIn (G.K P) (.ref C) "__setattr__" = some (some (.builtin "object.__setattr__")) ∧ plainOver (G.K P) C = true
  meths : ∀ P name f, c.meths.lookup name = some f → findIn (G.K P) (.ref C) name = some (some (.ref f)) ∧ isFn (G.K P) (.ref f) = true ∧ keepIn (G.K P) (.ref f) = true
  slots : ∀ P name k p, c.slots.lookup name = some (k, p) → findIn (G.K P) (.ref C) name = some (some (.ref p)) ∧ specialIn (G.K P) (.ref p) "__get__" = some (some (.builtin "member_descriptor.__get__")) ∧ takesIn (G.K P) (.ref p) = some true ∧
    slotIn (G.K P) p C = some k ∧ takerIn (G.K P) C name = some (some (.ref p)) ∧ typeIn (G.K P) (.ref p) = some (.type "member_descriptor") ∧ k < 1000
  props : ∀ P name p g, c.props.lookup name = some (p, g) → findIn (G.K P) (.ref C) name = some (some (.ref p)) ∧ specialIn (G.K P) (.ref p) "__get__" = some (some (.builtin "property.__get__")) ∧ takesIn (G.K P) (.ref p) = some true ∧
    ∃ rest, recIn (G.K P) p "property" = some (.ref g :: rest)
  cms : ∀ P name p f, c.cms.lookup name = some (p, f) → specialIn (G.K P) (.ref C) "__getattribute__" = some (some (.builtin "type.__getattribute__")) ∧ (∃ mc, typeIn (G.K P) (.ref C) = some mc ∧ readsIn (G.K P) C mc = true ∧
    findCls (G.K P) (.ref C) mc name = some (.get (.builtin "classmethod.__get__") (.ref p) .none (.ref C))) ∧ (∃ rest, recIn (G.K P) p "classmethod" = some (.ref f :: rest)) ∧ fnIn (G.K P) f = true
  make : ∀ P, makesIn (G.K P) C = true ∧ findIn (G.K P) (.ref C) "__init__" = some (some (.ref c.init)) ∧ isFn (G.K P) (.ref c.init) = true ∧ keepIn (G.K P) (.ref C) = true
section
variable {G : Pg} {F : Fn} {X : Cx G F} {W : Wd} {σ : St} {T : Tb} {E : Ev}
theorem isStr_str (x y : Str) (t : Tok) : (Value.str x t).isStr y = (x == y) := by
  rw [isStr_of]
  cases h : x == y with
  | true => rw [beq_iff_eq.mp h]; simp [Value.isStrOf]
  | false =>
    have : x ≠ y := by simpa using h
    cases q : Value.isStrOf y (Value.str x t) with
    | false => rfl
    | true =>
      obtain ⟨tk, e⟩ := Value.isStrOf_shape q
      injection e with e
      exact absurd e this
theorem Ents.noRef {es : List (Str × PV)} {ds : List DictEntry} (h : Ents W es ds) : ds.any (·.refKey) = false := by
  induction h with
  | nil => rfl
  | cons h r ih => rw [List.any_cons, ih]; rfl
theorem Ents.getL {es : List (Str × PV)} {ds : List DictEntry} (h : Ents W es ds) (name : Str) : match es.lookup name with
    | some p => ∃ v, PySem.W.getL name ds = some (some v) ∧ Rep W p v
    | none => PySem.W.getL name ds = some none := by
  have key : match es.lookup name with
      | some p => ∃ e v, ds.find? (·.key.isStr name) = some e ∧ e.val = v ∧ Rep W p v
      | none => ds.find? (·.key.isStr name) = none := by
    induction h with
    | nil => rfl
    | cons h r ih =>
      rename_i x p es ds hsh t v
      rw [List.lookup_cons, List.find?_cons]
      have e : (Value.str x t).isStr name = (name == x) := by rw [isStr_str]; exact Bool.eq_iff_iff.mpr ⟨fun h => by simpa using (eq_of_beq h).symm, fun h => by simpa using (eq_of_beq h).symm⟩
      show match (match name == x with | true => some p | false => es.lookup name) with
        | some p => ∃ e v_1, (match (Value.str x t).isStr name with | true => some _ | false => ds.find? _) = some e ∧ e.val = v_1 ∧ Rep W p v_1
        | none => (match (Value.str x t).isStr name with | true => some _ | false => ds.find? _) = none
      rw [e]
      cases name == x with
      | true => exact ⟨_, _, rfl, rfl, h⟩
      | false => exact ih
  unfold PySem.W.getL
  cases q : es.lookup name with
  | none =>
    rw [q] at key
    dsimp only at key ⊢
    rw [key]
    dsimp only
    rw [if_neg (by rw [h.noRef]; exact Bool.false_ne_true)]
  | some p =>
    rw [q] at key
    obtain ⟨e, v, h1, h2, h3⟩ := key
    exact ⟨v, by rw [h1]; show some (some e.val) = _; rw [h2], h3⟩
theorem Ents.putL {es : List (Str × PV)} {ds : List DictEntry} (h : Ents W es ds) (name : Str) (hsh : Int) (t : Tok) {p : PV} {v : Value} (r : Rep W p v) : Ents W (put name p es) (PySem.W.putL name hsh (.str name t) v ds) := by
  induction h with
  | nil => exact .cons r .nil
  | cons h rr ih =>
    rename_i x q es ds hs t' v'
    unfold put PySem.W.putL
    by_cases e : x = name
    · rw [if_pos e, if_pos (by show (Value.str x t').isStr name = true; rw [isStr_str, e]; simp)]
      subst e
      exact .cons r rr
    · rw [if_neg e, if_neg (by show ¬ (Value.str x t').isStr name = true; rw [isStr_str]; simpa using e)]
      exact .cons h ih
theorem Ents.length {es : List (Str × PV)} {ds : List DictEntry} (h : Ents W es ds) : ds.length = es.length := by
  induction h with
  | nil => rfl
  | cons _ _ ih => rw [List.length_cons, List.length_cons, ih]
theorem Slts.get {fs : List (Option PV)} {vs : List (Option Value)} (h : Slts W fs vs) : ∀ {k : Nat} {p : PV}, (fs[k]?).join = some p → ∃ v, (vs[k]?).join = some v ∧ Rep W p v := by
  induction h with
  | nil => intro k p e; simp at e
  | no r ih =>
    intro k p e
    cases k with
    | zero => simp at e
    | succ k => exact ih (by simpa using e)
  | yes h r ih =>
    intro k p e
    cases k with
    | zero =>
      simp at e
      subst e
      exact ⟨_, rfl, h⟩
    | succ k => exact ih (by simpa using e)
theorem Slts.length {fs : List (Option PV)} {vs : List (Option Value)} (h : Slts W fs vs) : vs.length = fs.length := by
  induction h with
  | nil => rfl
  | no _ ih => rw [List.length_cons, List.length_cons, ih]
  | yes _ _ ih => rw [List.length_cons, List.length_cons, ih]
theorem Slts.append {fs gs : List (Option PV)} {vs us : List (Option Value)} (h : Slts W fs vs) (h' : Slts W gs us) : Slts W (fs ++ gs) (vs ++ us) := by
  induction h with
  | nil => exact h'
  | no _ ih => exact .no ih
  | yes h _ ih => exact .yes h ih
theorem Slts.blank : ∀ n : Nat, Slts W (List.replicate n none) (List.replicate n none)
  | 0 => .nil
  | n + 1 => .no (Slts.blank n)
theorem Slts.set {fs : List (Option PV)} {vs : List (Option Value)} (h : Slts W fs vs) {p : PV} {v : Value} (r : Rep W p v) : ∀ k : Nat, Slts W (fs.set k (some p)) (vs.set k (some v)) := by
  induction h with
  | nil => intro k; exact .nil
  | no r' ih =>
    intro k
    cases k with
    | zero => exact .yes r r'
    | succ k => exact .no (ih k)
  | yes h r' ih =>
    intro k
    cases k with
    | zero => exact .yes r r'
    | succ k => exact .yes h (ih k)
theorem findObj_dataN {K : Frag} {C : Addr} {od : Option Obj} {name : Str} {a g : Value} (hc : (clsIn K C).isSome = true) (ha : findIn K (.ref C) name = some (some a)) (hg : specialIn K a "__get__" = some (some g)) (ht : takesIn K a = some true) : findObj K C od name = some (.bind g a) := by
  obtain ⟨cd, hc⟩ := Option.isSome_iff_exists.mp hc
  unfold findObj
  rw [hc, Option.bind_some, ha, Option.bind_some]
  simp [hg, ht]
end
end Rk
end
section
open PySem PySem.W PyProof.Rows PySem.Calls
set_option maxRecDepth 100000
namespace Rk
def passV : PV → Bool
  | .cst _ => false
  | .any => false
  | _ => true
def okP (o : Option PV) (σ : St) : Out PV := match o with
  | some q => (match passV q with
    | true => .ok q σ
    | false => .no)
  | none => .no
def quietP (o : Out PV) : Out PV := match o with
  | .ok q σ => okP (some q) σ
  | _ => .no
def attrE (T : Tb) (E : Ev) (name : Str) (p : PV) (σ : St) : Out PV := match p with
  | .ref i => (match σ.H[i]? with
    | some (.inst C j fs) => (match T.clss.lookup C, σ.H[j]? with
      | some c, some (.dict es) => (match c.attrs.contains name with
        | true => okP (es.lookup name) σ
        | false => (match c.slots.lookup name with
          | some (k, _) => okP (fs[k]?).join σ
          | none => (match c.props.lookup name with
            | some (_, g) => quietP (E.fn g [.ref i] σ)
            | none => .no)))
      | _, _ => .no)
    | _ => .no)
  | _ => .no
def setE (T : Tb) (name : Str) (q : PV) (p : PV) (σ : St) : Out Unit := match p with
  | .ref i => (match σ.H[i]? with
    | some (.inst C j fs) => (match T.clss.lookup C, σ.H[j]? with
      | some c, some (.dict es) => (match c.attrs.contains name with
        | true => (match Nat.blt es.length 900 with
          | true => .ok () ⟨σ.loc, σ.H.set j (.dict (put name q es))⟩
          | false => .no)
        | false => (match c.slots.lookup name with
          | some (k, _) => .ok () ⟨σ.loc, σ.H.set i (.inst C j ((fs ++ List.replicate (k + 1 - fs.length) none).set k (some q)))⟩
          | none => .no))
      | _, _ => .no)
    | _ => .no)
  | _ => .no
end Rk
end
section
open PySem PySem.W PyProof.Rows PySem.Calls
set_option maxRecDepth 100000
namespace Rk
section
variable {G : Pg} {F : Fn} {X : Cx G F} {W : Wd} {σ : St} {T : Tb} {E : Ev}
theorem InvX.set {s : Shared} {m : Str → Option Value} {news : Led} (I : InvX X W σ s m news) {i : Nat} {x x' : AObj} {a : Addr} {o o' : Obj} {h' : Heap} (tk : Nat) (hi : σ.H[i]? = some x) (hl : x.live = true) (ha : W.mu[i]? = some a) (ho : (a, o) ∈ news) (h : ObjR W x' o')
    (F' : Fr X.h₀ X.L h' m) (N' : News X.h₀ X.L h' (swapIn a o' news)) : InvX X W ⟨σ.loc, σ.H.set i x'⟩ { s with heap := h', toks := tk } m (swapIn a o' news) :=
  ⟨F', N', by rw [swapIn_keys]; exact I.nd, I.hr.set hi hl ha ho h, I.loc, I.os, I.gens, I.P⟩
theorem instAt_of {s : Shared} {m : Str → Option Value} {news : Led} (I : InvX X W σ s m news) {i j : Nat} {C a : Addr} {fs : List (Option PV)} {es : List (Str × PV)} (hi : σ.H[i]? = some (.inst C j fs)) (hj : σ.H[j]? = some (.dict es)) (ha : W.mu[i]? = some a) :
    ∃ d vs ds n, (a, slotO C d vs) ∈ news ∧ (d, dictOf ds n) ∈ news ∧ W.mu[j]? = some d ∧ Slts W fs vs ∧ Ents W es ds ∧ InstAt s.heap a (slotO C d vs) C (some (dictOf ds n)) := by
  obtain ⟨o, ho, d, vs, rfl, hd, hs⟩ := I.at_ hi rfl ha
  obtain ⟨od, hod, ds, n, rfl, he⟩ := I.at_ hj rfl hd
  exact ⟨d, vs, ds, n, ho, hod, hd, hs, he, I.get ho, rfl, rfl, I.get hod⟩
theorem handed {W : Wd} {q : PV} {u : Value} (r : Rep W q u) (hp : passV q = true) : handedIn u = true := by
  cases r with
  | v h => cases h <;> rfl
  | ref h => rfl
  | cst v => cases hp
  | any v => cases hp
  | fset _ _ => rfl
  | mat _ => rfl
theorem attrE_sat (ok : X.Ok) (hC : ∀ C c, T.clss.lookup C = some c → ClOk G C c) (hf : ∀ {A' : Around}, Near X A' → ∀ W σ a args vs, Reps W args vs → SatC X W A' (.call (.ref a) ⟨vs, []⟩) σ (E.fn a args σ))
    {name : Str} {p : PV} {v : Value} {expr : Bool} (r : Rep W p v) : Sat X W (getAttr v name expr) σ (attrE T E name p σ) := by
  intro hn
  unfold attrE at hn ⊢
  split at hn
  rotate_left 1
  · exact (hn rfl).elim
  cases r with | ref ha =>
  split at hn
  rotate_left 1
  · exact (hn rfl).elim
  rename_i i a x C j fs hi
  split at hn
  rotate_left 1
  · exact (hn rfl).elim
  rename_i c es hc hj
  have CO := hC _ _ hc
  split at hn
  · rename_i hat
    cases e : es.lookup name with
    | none => rw [e] at hn; exact (hn rfl).elim
    | some q =>
      rw [e] at hn
      cases hq : passV q with
      | false => unfold okP at hn; dsimp only at hn; rw [hq] at hn; exact (hn rfl).elim
      | true =>
        refine Sat.pr (b := q) (by unfold okP; dsimp only; rw [hq]) (fun s m news I Q h => ?_) hn
        obtain ⟨d, vs, ds, n, h1, h2, h3, h4, h5, h6⟩ := instAt_of I hi hj ha
        obtain ⟨k1, ⟨attr, k2, k3⟩, k4⟩ := CO.attrs X.w.params name hat
        have g := h5.getL name
        rw [e] at g
        obtain ⟨u, g1, g2⟩ := g
        exact get_own I.fr ok.kin h6 (CO.get _ name) k1 k2 k3 g1 (handed g2 hq) (h _ _ g2)
  · split at hn
    · rename_i k p' hs
      cases e : (fs[k]?).join with
      | none => rw [e] at hn; exact (hn rfl).elim
      | some q =>
        rw [e] at hn
        cases hq : passV q with
        | false => unfold okP at hn; dsimp only at hn; rw [hq] at hn; exact (hn rfl).elim
        | true =>
          refine Sat.pr (b := q) (by unfold okP; dsimp only; rw [hq]) (fun s m news I Q h => ?_) hn
          obtain ⟨d, vs, ds, n, h1, h2, h3, h4, h5, h6⟩ := instAt_of I hi hj ha
          obtain ⟨k1, k2, k3, k4, k5, k6, k7⟩ := CO.slots X.w.params name k p' hs
          obtain ⟨u, g1, g2⟩ := h4.get e
          exact get_slot I.fr ok.kin h6 (CO.get _ name) (CO.cls _) k1 k2 k3 k4 (by simpa using g1) (handed g2 hq) (h _ _ g2)
    · split at hn
      rotate_left 1
      · exact (hn rfl).elim
      rename_i p' g hp
      intro s I
      obtain ⟨m, news, J⟩ := id I
      obtain ⟨d, vs, ds, n, h1, h2, h3, h4, h5, h6⟩ := instAt_of J hi hj ha
      obtain ⟨k1, k2, k3, rest, k4⟩ := CO.props X.w.params name p' g hp
      have nr : Near X X.A.in1 := by
        have := near_self ok
        exact ⟨this.frames, this.handled, this.guards, this.depth, by show X.Ac.units + 3 + 1 ≤ X.Ac.units + 15; omega⟩
      have I' : Inv X W σ { s with toks := s.toks + 1 } := I.toks _
      cases eo : E.fn g [.ref i] σ with
      | no => rw [eo] at hn; exact (hn rfl).elim
      | exc c => rw [eo] at hn; exact (hn rfl).elim
      | ok q σ' =>
        rw [eo] at hn
        cases hq : passV q with
        | false => unfold quietP okP at hn; dsimp only at hn; rw [hq] at hn; exact (hn rfl).elim
        | true =>
          have call := hf nr W σ g [.ref i] [.ref a] (.cons (.ref ha) .nil)
          rw [eo] at call
          have call := call (by intro h; cases h) { s with toks := s.toks + 1 } m news ⟨J.fr, J.nw, J.nd, J.hr, J.loc, J.os, J.gens, J.P⟩
          refine get_bind (ok.kin.keeps J.fr.keep) h6 (plainGet_of (CO.get _ name)).1 (findObj_dataN (CO.cls _) k1 k2 k3) (plainGet_of (CO.get _ name)).2 (wpAny_call (prop_get (s := { s with toks := s.toks + 1 }) (ok.kin.keeps J.fr.keep) k4 ?_))
          refine codeAny_mono call fun r s' z => ?_
          rcases r with e | (_ | _ | _ | v)
          · obtain ⟨c, ec, _⟩ := z; cases ec
          · exact z.elim
          · exact z.elim
          · exact z.elim
          · obtain ⟨W', q', σ'', le, eq, rr, news', J''⟩ := z
            have J' : Inv X W' σ'' s' := ⟨m, news', J''⟩
            cases eq
            show wpAny _ _ (handedOut _) _ _ _
            rw [handedOut_of (handed rr hq)]
            exact wpAny_pure ⟨W', q, σ', le, by unfold quietP okP; dsimp only; rw [hq], rr, J'⟩
theorem setE_sat (ok : X.Ok) (hC : ∀ C c, T.clss.lookup C = some c → ClOk G C c) {name : Str} {p q : PV} {u v : Value} (r : Rep W p v) (rq : Rep W q u) : Sat X W (setAttr v name u) σ (setE T name q p σ) := by
  intro hn
  unfold setE at hn ⊢
  split at hn
  rotate_left 1
  · exact (hn rfl).elim
  cases r with | ref ha =>
  split at hn
  rotate_left 1
  · exact (hn rfl).elim
  rename_i i a x C j fs hi
  split at hn
  rotate_left 1
  · exact (hn rfl).elim
  rename_i c es hc hj
  have CO := hC _ _ hc
  split at hn
  · rename_i hat
    split at hn
    rotate_left 1
    · exact (hn rfl).elim
    rename_i hlen
    have hlen := (Nat.blt_eq).mp hlen
    refine Sat.mk rfl (fun s m news I Q h => ?_) hn
    obtain ⟨d, vs, ds, n, h1, h2, h3, h4, h5, h6⟩ := instAt_of I hi hj ha
    obtain ⟨k1, _, k4⟩ := CO.attrs X.w.params name hat
    have gl : (getL name ds).isSome = true := by
      have g := h5.getL name
      cases e : es.lookup name with
      | none => rw [e] at g; rw [g]; rfl
      | some _ => rw [e] at g; obtain ⟨_, g, _⟩ := g; rw [g]; rfl
    refine set_dict (es' := putL name (PyData.keyHash X.w.params name) (.str name (s.toks + 1)) u ds) (n' := putN name ds n) I.fr ok.kin I.nw h6 rfl (CO.setter _).1 (CO.setter _).2 k4 k1 gl rfl (upd_of _ I.nd h2) ?_ fun h' F' N' => ?_
    · have e1 := (h5.putL name (PyData.keyHash X.w.params name) (s.toks + 1) rq).length
      rw [e1]
      have : ∀ l : List (Str × PV), (put name q l).length ≤ l.length + 1 := fun l => by
        induction l with
        | nil => exact Nat.le_refl _
        | cons y r ih =>
          unfold put
          split
          · rw [List.length_cons, List.length_cons]; omega
          · rw [List.length_cons, List.length_cons]; omega
      have := this es
      omega
    · have J := I.set (s.toks + 2) hj rfl h3 h2 (x' := .dict (put name q es)) ⟨_, _, rfl, h5.putL name _ _ rq⟩ F' N'
      exact h () _ W _ _ .refl trivial J
  · split at hn
    rotate_left 1
    · exact (hn rfl).elim
    rename_i k p' hs
    refine Sat.mk rfl (fun s m news I Q h => ?_) hn
    obtain ⟨d, vs, ds, n, h1, h2, h3, h4, h5, h6⟩ := instAt_of I hi hj ha
    obtain ⟨k1, k2, k3, k4, k5, k6, k7⟩ := CO.slots X.w.params name k p' hs
    have hS : Slts W ((fs ++ List.replicate (k + 1 - fs.length) none).set k (some q)) ((vs ++ List.replicate (k + 1 - vs.length) none).set k (some u)) := by
      rw [h4.length]
      exact (h4.append (Slts.blank _)).set rq k
    refine set_slot (ox' := slotO C d ((vs ++ List.replicate (k + 1 - vs.length) none).set k (some u))) I.fr ok.kin I.nw h6 (CO.setter _).1 (CO.setter _).2 k5 k6 k4 k7 ?_ rfl (upd_of _ I.nd h1) fun h' F' N' => ?_
    · simp only [slotO, List.size_toArray, Obj.mk.injEq, true_and]
      exact Array.toList_inj.mp (by simp)
    · have J := I.set (s.toks + 1) hi rfl ha h1 (x' := .inst C j ((fs ++ List.replicate (k + 1 - fs.length) none).set k (some q))) ⟨d, _, rfl, h3, hS⟩ F' N'
      exact h () _ W _ _ .refl trivial J
end
end Rk
end
section
open PySem PySem.W PyProof.Rows PySem.Calls
set_option maxRecDepth 100000
namespace Rk
theorem plainAttrs_match : PlainAttrs "re.Match" :=
  ⟨⟨"object.__getattribute__", by rw [typeLookup_type, builtinLookup_eq_fast]; kernel_rfl, by decide +kernel⟩, by rw [typeLookup_type, builtinLookup_eq_fast]; kernel_rfl⟩
theorem slot_match_end : Slot "re.Match" "end" "re.Match.end" :=
  .of (owner := "re.Match") (n := "end") (by rw [typeLookup_type, builtinLookup_eq_fast]; kernel_rfl) (by decide +kernel) (by decide +kernel) (by decide +kernel)
    (by first | exact .inl (by decide +kernel) | exact .inr (by decide +kernel)) (by rw [isSubtype_type]; kernel_rfl)
theorem slot_match_groups : Slot "re.Match" "groups" "re.Match.groups" :=
  .of (owner := "re.Match") (n := "groups") (by rw [typeLookup_type, builtinLookup_eq_fast]; kernel_rfl) (by decide +kernel) (by decide +kernel) (by decide +kernel)
    (by first | exact .inl (by decide +kernel) | exact .inr (by decide +kernel)) (by rw [isSubtype_type]; kernel_rfl)
theorem slot_pattern_match : Slot "re.Pattern" "match" "re.Pattern.match" :=
  .of (owner := "re.Pattern") (n := "match") (by rw [typeLookup_type, builtinLookup_eq_fast]; kernel_rfl) (by decide +kernel) (by decide +kernel) (by decide +kernel)
    (by first | exact .inl (by decide +kernel) | exact .inr (by decide +kernel)) (by rw [isSubtype_type]; kernel_rfl)
theorem plainAttrs_pattern : PlainAttrs "re.Pattern" :=
  ⟨⟨"object.__getattribute__", by rw [typeLookup_type, builtinLookup_eq_fast]; kernel_rfl, by decide +kernel⟩, by rw [typeLookup_type, builtinLookup_eq_fast]; kernel_rfl⟩
theorem type_match_end : typeOf (.builtin "re.Match.end") = pure (.type "method_descriptor") := by show builtinType _ = _; rw [builtinType_eq_fast]; kernel_rfl
theorem type_match_groups : typeOf (.builtin "re.Match.groups") = pure (.type "method_descriptor") := by show builtinType _ = _; rw [builtinType_eq_fast]; kernel_rfl
theorem type_pattern_match : typeOf (.builtin "re.Pattern.match") = pure (.type "method_descriptor") := by show builtinType _ = _; rw [builtinType_eq_fast]; kernel_rfl
theorem entry_match_end : entryFor table "re.Match.end" = some Builtin.«re.Match.end» := entryFor_of_tree (by kernel_rfl)
theorem entry_match_groups : entryFor table "re.Match.groups" = some Builtin.«re.Match.groups» := entryFor_of_tree (by kernel_rfl)
theorem entry_pattern_match : entryFor table "re.Pattern.match" = some Builtin.«re.Pattern.match» := entryFor_of_tree (by kernel_rfl)
theorem args_match_end (a : Value) : argsOk "re.Match.end" ⟨[a], []⟩ := by unfold argsOk; kernel_rfl
theorem args_match_groups (a : Value) : argsOk "re.Match.groups" ⟨[a], []⟩ := by unfold argsOk; kernel_rfl
theorem args_pattern_match (a b c : Value) : argsOk "re.Pattern.match" ⟨[a, b, c], []⟩ := by unfold argsOk; kernel_rfl
end Rk
end
section
open PySem PySem.W PyProof.Rows PySem.Calls
set_option maxRecDepth 100000
namespace Rk
/-- what a method's name stands for -/
inductive Cal where
  | fn (a : Addr) (self : PV)
  | bi (id : String) (self : PV)
  | cm (a C : Addr)
def resE (T : Tb) (name : Str) (p : PV) (H : List AObj) : Option Cal := match p with
  | .ref i => (match H[i]? with
    | some (.inst C j _) => (match T.clss.lookup C, H[j]? with
      | some c, some (.dict es) => (match c.meths.lookup name, es.lookup name with
        | some f, none => some (.fn f p)
        | _, _ => none)
      | _, _ => none)
    | some (.vlist _) => (if name = ("append" : Str) then some (.bi "list.append" p) else if name = ("pop" : Str) then some (.bi "list.pop" p) else none)
    | some (.vrev _) => (if name = ("pop" : Str) then some (.bi "list.pop" p) else none)
    | some (.rlist _) => (if name = ("append" : Str) then some (.bi "list.append" p) else none)
    | some (.sset _) => (if name = ("add" : Str) then some (.bi "set.add" p) else none)
    | _ => none)
  | .v (.str _) => (if name = ("split" : Str) then some (.bi "str.split" p) else if name = ("join" : Str) then some (.bi "str.join" p) else none)
  | .mat _ _ => (if name = ("end" : Str) then some (.bi "re.Match.end" p) else if name = ("groups" : Str) then some (.bi "re.Match.groups" p) else none)
  | .cst (.ref C) => (match T.clss.lookup C with
    | some c => (match c.cms.lookup name with
      | some (_, f) => some (.cm f C)
      | none => none)
    | none => (match T.pat == some C with
      | true => (if name = ("match" : Str) then some (.bi "re.Pattern.match" p) else none)
      | false => none))
  | _ => none
end Rk
end
section
open PySem PySem.W PyProof.Rows PySem.Calls
set_option maxRecDepth 100000
namespace Rk
/-- what a method's load hands on -/
inductive CRep {G : Pg} {F : Fn} (X : Cx G F) (W : Wd) : Cal → Value × List Value → Prop
  | fn {a : Addr} {p : PV} {v : Value} (h : Rep W p v) (k : keepIn X.K (.ref a) = true) : CRep X W (.fn a p) (.ref a, [v])
  | bi {id : String} {p : PV} {v : Value} (h : Rep W p v) : CRep X W (.bi id p) (.builtin id, [v])
  | cm {a C q : Addr} (h : (q, methodObj (.ref a) (.ref C)) ∈ W.fro) (k : fnIn X.K a = true) : CRep X W (.cm a C) (.ref q, [])
section
variable {G : Pg} {F : Fn} {X : Cx G F} {W : Wd} {σ : St} {T : Tb} {E : Ev}
theorem noDict_of {s : Shared} {m : Str → Option Value} {news : Led} (I : InvX X W σ s m news) {a : Addr} {o : Obj} (h : (a, o) ∈ news) (hd : o.dict = none) : ∀ b, Value.ref a = .ref b → ∃ o, s.heap.get? b = some o ∧ o.dict = none := by
  intro b e; cases e; exact ⟨_, I.get h, hd⟩
theorem resE_sat (ok : X.Ok) (hP : PatOk G T) (hC : ∀ C c, T.clss.lookup C = some c → ClOk G C c) {name : Str} {p : PV} {v : Value} {cal : Cal} {pl : Sem Bool} (r : Rep W p v) (e : resE T name p σ.H = some cal)
    {s : Shared} (I : Inv X W σ s) {Q : Value × List Value → Shared → Prop} {E' : Value → Shared → Prop} (h : ∀ fx s' W', W.Le W' → CRep X W' cal fx → Inv X W' σ s' → Q fx s') : wpAny X.M X.A (getMethod v name pl) Q E' s := by
  obtain ⟨m, news, J⟩ := id I
  unfold resE at e
  split at e
  · cases r with | ref ha =>
    rename_i i a
    split at e
    · rename_i C j fs hi
      split at e
      rotate_left 1
      · cases e
      rename_i c es hc hj
      split at e
      rotate_left 1
      · cases e
      rename_i f hm hes
      cases e
      have CO := hC _ _ hc
      obtain ⟨d, vs, ds, n, h1, h2, h3, h4, h5, h6⟩ := instAt_of J hi hj ha
      obtain ⟨k1, k2, k3⟩ := CO.meths X.w.params name f hm
      have g := h5.getL name
      rw [hes] at g
      exact method_inst J.fr ok.kin h6 (CO.get _ name) k1 k2 g (h _ _ W .refl (.fn (.ref ha) k3) I)
    · rename_i xs hi
      obtain ⟨o, ho, vs, n, rfl, hv, hz⟩ := J.at_ hi rfl ha
      split at e
      · rename_i hnm
        subst hnm; cases e
        exact getMethod_builtin (isList_of J ho).typeIs PySem.F.plainAttrs_list PySem.F.slot_list_append PySem.F.type_list_append (noDict_of J ho rfl) (h _ _ W .refl (.bi (.ref ha)) I)
      · split at e
        · rename_i hnm
          subst hnm; cases e
          exact getMethod_builtin (isList_of J ho).typeIs PySem.F.plainAttrs_list PySem.F.slot_list_pop PySem.F.type_list_pop (noDict_of J ho rfl) (h _ _ W .refl (.bi (.ref ha)) I)
        · cases e
    · rename_i xs hi
      obtain ⟨o, ho, vs, n, rfl, hv, hz⟩ := J.at_ hi rfl ha
      split at e
      · rename_i hnm
        subst hnm; cases e
        exact getMethod_builtin (isList_of J ho).typeIs PySem.F.plainAttrs_list PySem.F.slot_list_pop PySem.F.type_list_pop (noDict_of J ho rfl) (h _ _ W .refl (.bi (.ref ha)) I)
      · cases e
    · rename_i xs hi
      obtain ⟨o, ho, vs, n, rfl, hv, hz⟩ := J.at_ hi rfl ha
      split at e
      · rename_i hnm
        subst hnm; cases e
        exact getMethod_builtin (isList_of J ho).typeIs PySem.F.plainAttrs_list PySem.F.slot_list_append PySem.F.type_list_append (noDict_of J ho rfl) (h _ _ W .refl (.bi (.ref ha)) I)
      · cases e
    · rename_i xs hi
      obtain ⟨o, ho, es, n, tb, rfl, M⟩ := J.at_ hi rfl ha
      split at e
      · rename_i hnm
        subst hnm; cases e
        rw [J.P] at M
        exact getMethod_set_add (setOf_mems (prog := G.p) (w := X.w) (J.get ho) M) (h _ _ W .refl (.bi (.ref ha)) I)
      · cases e
    · cases e
  · cases r with | v rv => cases rv with | str t hs hz =>
    split at e
    · rename_i hnm
      subst hnm; cases e
      exact getMethod_builtin (typeIs_str s _ t) PySem.F.plainAttrs_str PySem.F.slot_str_split PySem.F.type_str_split (fun a q => by cases q) (h _ _ W .refl (.bi (.v (.str t hs hz))) I)
    · split at e
      · rename_i hnm
        subst hnm; cases e
        exact getMethod_builtin (typeIs_str s _ t) PySem.F.plainAttrs_str PySem.F.slot_str_join PySem.F.type_str_join (fun a q => by cases q) (h _ _ W .refl (.bi (.v (.str t hs hz))) I)
      · cases e
  · cases r with | mat hm hb hs hz =>
    rename_i a b t c1 c2 c3 c4
    have hT : s.TypeIs (.ref a) "re.Match" := ⟨_, J.get (J.hr.fro _ hm), rfl⟩
    split at e
    · rename_i hnm
      subst hnm; cases e
      exact getMethod_builtin hT plainAttrs_match slot_match_end type_match_end (noDict_of J (J.hr.fro _ hm) rfl) (h _ _ W .refl (.bi (.mat hm hb hs hz)) I)
    · split at e
      · rename_i hnm
        subst hnm; cases e
        exact getMethod_builtin hT plainAttrs_match slot_match_groups type_match_groups (noDict_of J (J.hr.fro _ hm) rfl) (h _ _ W .refl (.bi (.mat hm hb hs hz)) I)
      · cases e
  · cases r with | cst _ =>
    rename_i C
    split at e
    · rename_i c hc
      split at e
      rotate_left 1
      · cases e
      rename_i p' f hm
      cases e
      have CO := hC _ _ hc
      obtain ⟨k1, ⟨mc, k2, k3, k4⟩, ⟨rest, k5⟩, k6⟩ := CO.cms X.w.params name p' f hm
      refine method_of_cls J.fr ok.kin k1 (cls_cm J.fr ok.kin J.nw k2 k3 k4 k5 fun q h' F' N' hlt => ?_)
      have hn : ∀ z ∈ news, z.1 ≠ q := fun z hz => Nat.ne_of_lt (hlt z hz)
      have le : W.Le ⟨W.mu, (q, methodObj (.ref f) (.ref C)) :: W.fro, W.ex, W.P⟩ := ⟨fun _ _ e => e, fun z hz => .tail _ hz, rfl, rfl⟩
      refine h _ _ ⟨W.mu, (q, methodObj (.ref f) (.ref C)) :: W.fro, W.ex, W.P⟩ le (.cm (.head _) k6) ⟨m, _, ⟨F', N', ?_, ⟨J.hr.len, J.hr.nd, ?_, ?_, ?_, ?_, ?_, J.hr.hol.fro hn⟩, fun x p e => ?_, J.os, J.gens, J.P⟩⟩
      · rw [List.map_cons, List.nodup_cons]
        refine ⟨fun z => ?_, J.nd⟩
        obtain ⟨y, hy, e⟩ := List.mem_map.mp z
        exact hn y hy e
      · intro z hz
        rcases List.mem_cons.mp hz with rfl | hz
        · exact .head _
        · exact .tail _ (J.hr.fro z hz)
      · intro z hz
        refine ⟨.tail _ (J.hr.exs z hz).1, (J.hr.exs z hz).2.1, fun y hy => ?_⟩
        rcases List.mem_cons.mp hy with rfl | hy
        · exact fun (e : q = z.1) => hn z (J.hr.exs z hz).1 e.symm
        · exact (J.hr.exs z hz).2.2 y hy
      · exact fun b hb => (J.hr.own b hb).imp fun y z => ⟨.tail _ z.1, z.2⟩
      · intro i x b hi hl hb
        obtain ⟨o, ho, hx⟩ := J.hr.at_ i x b hi hl hb
        exact ⟨o, .tail _ ho, hx.up le⟩
      · intro i x b hi hl hb y hy
        rcases List.mem_cons.mp hy with rfl | hy
        · obtain ⟨o, ho, _⟩ := J.hr.at_ i x b hi hl hb
          exact fun (e : q = b) => hn _ ho e.symm
        · exact J.hr.apart i x b hi hl hb y hy
      · obtain ⟨v, hv, hr⟩ := J.loc x p e
        exact ⟨v, hv, hr.up le⟩
    · split at e
      rotate_left 1
      · cases e
      rename_i hp
      split at e
      rotate_left 1
      · cases e
      rename_i hnm
      subst hnm; cases e
      obtain ⟨o, ho, hc, hd⟩ := hP.obj X.w.params _ (beq_iff_eq.mp hp)
      have hg := J.k ok _ _ ho
      exact getMethod_builtin ⟨o, hg, hc⟩ plainAttrs_pattern slot_pattern_match type_pattern_match (fun b q => by cases q; exact ⟨o, hg, hd⟩) (h _ _ W .refl (.bi (.cst _)) I)
  · cases e
end
end Rk
end
section
open PySem PySem.W PyProof.Rows PySem.Calls
set_option maxRecDepth 100000
namespace Rk
def strsOf : List V → Option (List Str)
  | [] => some []
  | .str x :: r => (strsOf r).map (x :: ·)
  | _ :: _ => none
def appendE (i : Nat) (q : PV) (σ : St) : Out PV := match σ.H[i]? with
  | some (.vlist xs) => (match q with
    | .v x => (match fitsN (xs.length + 1) with
      | true => .ok (.v .none) ⟨σ.loc, σ.H.set i (.vlist (xs ++ [x]))⟩
      | false => .no)
    | _ => .no)
  | some (.rlist xs) => (match fitsN (xs.length + 1) with
    | true => .ok (.v .none) ⟨σ.loc, σ.H.set i (.rlist (xs ++ [q]))⟩
    | false => .no)
  | _ => .no
def popE (i : Nat) (σ : St) : Out PV := match σ.H[i]? with
  | some (.vlist xs) => (match xs.getLast? with
    | some x => .ok (.v x) ⟨σ.loc, σ.H.set i (.vlist xs.dropLast)⟩
    | none => .no)
  | some (.vrev ys) => (match ys with
    | y :: r => .ok (.v y) ⟨σ.loc, σ.H.set i (.vrev r)⟩
    | [] => .no)
  | _ => .no
def addE (i : Nat) (x : Str) (σ : St) : Out PV := match σ.H[i]? with
  | some (.sset xs) => (match Nat.blt xs.length 1000 with
    | true => (match xs.contains x with
      | true => .ok (.v .none) σ
      | false => .ok (.v .none) ⟨σ.loc, σ.H.set i (.sset (x :: xs))⟩)
    | false => .no)
  | _ => .no
def lenE (p : PV) (H : List AObj) : Option V := match p with
  | .v (.list xs) => some (.int xs.length)
  | .v (.tuple xs) => some (.int xs.length)
  | .v (.str x) => some (.int x.length)
  | .ref i => (match H[i]? with
    | some (.vlist xs) => some (.int xs.length)
    | some (.rlist xs) => some (.int xs.length)
    | _ => none)
  | _ => none
def endE (sp : List Int) : Option V := match sp with
  | _ :: e :: _ => some (.int e)
  | _ => none
end Rk
end
section
open PySem PySem.W PyProof.Rows PySem.Calls
set_option maxRecDepth 100000
namespace Rk
theorem perm_of_sub : ∀ {ys zs : List Str}, ys.Nodup → (∀ k ∈ ys, k ∈ zs) → zs.length ≤ ys.length → ys.Perm zs
  | [], zs, _, _, h => by
    have : zs = [] := List.eq_nil_of_length_eq_zero (Nat.le_zero.mp h)
    rw [this]
  | y :: ys, zs, nd, sub, h => by
    rw [List.nodup_cons] at nd
    have hy := sub y (.head _)
    refine List.Perm.trans (List.Perm.cons y (perm_of_sub (zs := zs.erase y) nd.2 (fun k hk => ?_) ?_)) (List.perm_cons_erase hy).symm
    · have hne : k ≠ y := fun e => nd.1 (e ▸ hk)
      exact (List.mem_erase_of_ne hne).mpr (sub k (.tail _ hk))
    · rw [List.length_erase_of_mem hy]
      simp only [List.length_cons] at h
      omega
theorem elems_list {prog : Program} {w : World} : ∀ {l : List (Int × Value)}, ElemsOf (strKind prog w) l → ∃ L : List (Str × Tok), l = L.map fun y => (PyData.keyHash w.params y.1, Value.str y.1 y.2)
  | [], _ => ⟨[], rfl⟩
  | e :: l, h => by
    obtain ⟨L, hL⟩ := elems_list h.tail
    obtain ⟨⟨k, hk, hh⟩, _⟩ := h.head
    obtain ⟨t, ht⟩ := Value.isStrOf_shape (show Value.isStrOf k e.2 = true from hk)
    refine ⟨(k, t) :: L, ?_⟩
    rw [List.map_cons, ← hL]
    obtain ⟨a, b⟩ := e
    dsimp only at hh ht ⊢
    rw [hh, ht]; rfl
theorem mems_of {prog : Program} {w : World} {h : Heap} {a : Addr} {S : Str → Bool} {n : Nat} {ys : List Str} (x : h.SetOf (strKind prog w) a S n) (hS : ∀ k, S k = true ↔ k ∈ ys) (nd : ys.Nodup) (hn : ys.length = n) :
    ∃ es ep t, h.get? a = some (setOb "set" es ep t) ∧ Mems w.params ys es t := by
  obtain ⟨o, es, ep, t, ho, ⟨e1, e2, e3⟩, hd, hel, hmem, hb, hf, hsz⟩ := x
  obtain ⟨L, hL⟩ := elems_list hel
  refine ⟨es, ep, t, ?_, hf, hb, nd, L, hL, ?_⟩
  · rw [ho]
    obtain ⟨c, d, da, sl⟩ := o
    dsimp only at e1 e2 e3 hd
    rw [e1, e2, e3, hd]
  · refine (perm_of_sub nd (fun k hk => ?_) ?_).symm
    · obtain ⟨e, he, q⟩ := (hmem k).mp ((hS k).mpr hk)
      rw [hL] at he
      obtain ⟨y, hy, rfl⟩ := List.mem_map.mp he
      obtain ⟨tk, q⟩ := Value.isStrOf_shape (show Value.isStrOf k (.str y.1 y.2) = true from q)
      injection q with q
      exact List.mem_map.mpr ⟨y, hy, q⟩
    · rw [List.length_map, hn, ← hsz, ← Array.length_toList, hL, List.length_map]; exact Nat.le_refl _
section
variable {G : Pg} {F : Fn} {X : Cx G F} {W : Wd} {σ : St} {T : Tb} {E : Ev}
theorem VReps.push {fro : Led} {xs : List V} {vs : List Value} {x : V} {v : Value} (h : VReps fro xs vs) (r : VRep fro x v) : VReps fro (xs ++ [x]) (vs ++ [v]) := h.append (.cons r .nil)
theorem Reps.push {xs : List PV} {vs : List Value} {x : PV} {v : Value} (h : Reps W xs vs) (r : Rep W x v) : Reps W (xs ++ [x]) (vs ++ [v]) := h.append (.cons r .nil)
theorem appendE_sat {i : Nat} {p q : PV} {v : Value} {a : Addr} (ha : W.mu[i]? = some a) (rq : Rep W q v) : Sat X W (call (.builtin "list.append") [.ref a, v] []) σ (appendE i q σ) := by
  intro hn
  unfold appendE at hn ⊢
  split at hn
  · rename_i xs hi
    split at hn
    rotate_left 1
    · exact (hn rfl).elim
    split at hn
    rotate_left 1
    · exact (hn rfl).elim
    rename_i hf
    cases rq with | v rx =>
    refine Sat.mk rfl (fun s m news I Q h => ?_) hn
    obtain ⟨o, ho, vs, n, rfl, hv, hz⟩ := I.at_ hi rfl ha
    refine append_K I.fr I.nw (upd_of _ I.nd ho) (fun h' F' N' => ?_) (by simpa using hz)
    have e : vs.toArray.push v = (vs ++ [v]).toArray := by simp
    have hz' : (vs ++ [v]).length ≤ sizeLine := by rw [List.length_append, hv.length]; exact fitsN_le hf
    have J := I.set s.toks hi rfl ha ho (x' := .vlist (xs ++ [_])) ⟨vs ++ [v], n + 1, by rw [e], hv.push rx, hz'⟩ F' N'
    exact h _ _ W _ _ .refl (.v .none) J
  · rename_i xs hi
    split at hn
    rotate_left 1
    · exact (hn rfl).elim
    rename_i hf
    refine Sat.mk rfl (fun s m news I Q h => ?_) hn
    obtain ⟨o, ho, vs, n, rfl, hv, hz⟩ := I.at_ hi rfl ha
    refine append_K I.fr I.nw (upd_of _ I.nd ho) (fun h' F' N' => ?_) (by simpa using hz)
    have e : vs.toArray.push v = (vs ++ [v]).toArray := by simp
    have hz' : (vs ++ [v]).length ≤ sizeLine := by rw [List.length_append, hv.length]; exact fitsN_le hf
    have J := I.set s.toks hi rfl ha ho (x' := .rlist (xs ++ [q])) ⟨vs ++ [v], n + 1, by rw [e], hv.push rq, hz'⟩ F' N'
    exact h _ _ W _ _ .refl (.v .none) J
  · exact (hn rfl).elim
theorem VReps.last {fro : Led} {xs : List V} {vs : List Value} {x : V} (h : VReps fro xs vs) (e : xs.getLast? = some x) : ∃ v, vs[vs.length - 1]? = some v ∧ VRep fro x v := by
  rw [List.getLast?_eq_getElem?] at e
  rw [h.length]
  exact h.get e
theorem pop_core {s : Shared} {m : Str → Option Value} {news : Led} (I : InvX X W σ s m news) {i : Nat} {a : Addr} {x x' : AObj} {vs : List Value} {n : Nat} {v : Value} (hi : σ.H[i]? = some x) (hl : x.live = true) (ha : W.mu[i]? = some a) (ho : (a, listOf vs.toArray n) ∈ news) (hz : vs.length ≤ sizeLine)
    (ev : vs[vs.length - 1]? = some v) (hx' : ∀ n', ObjR W x' (listOf vs.dropLast.toArray n')) {Q : Value → Shared → Prop} {E' : Value → Shared → Prop} (h : ∀ s' news', InvX X W ⟨σ.loc, σ.H.set i x'⟩ s' m news' → Q v s') : wpAny X.M X.A (call (.builtin "list.pop") [.ref a] []) Q E' s := by
  refine call_meets PySem.F.slot_list_pop (isList_of I ho).typeIs PySem.F.entry_list_pop (PySem.F.args_list_pop_1 _) (MeetsSeq.list_pop_last a vs.toArray n v (by simpa using ev) (by simpa using hz)) ⟨I.get ho, ?_⟩
  have e : vs.toArray.eraseIdxIfInBounds (vs.toArray.size - 1) = vs.dropLast.toArray := by
    rw [List.size_toArray]
    apply Array.toList_inj.mp
    simp [List.eraseIdx_length_sub_one]
  have hne : a ≠ X.L := (I.nw _ ho).2.1
  have hfr : X.h₀.get? a = none := (I.nw _ ho).2.2
  have hs := Heap.SameBut.update s.heap a (Obj.mapSeq fun xs => xs.eraseIdxIfInBounds (vs.toArray.size - 1))
  have hg := Heap.get?_update_self (Obj.mapSeq fun xs => xs.eraseIdxIfInBounds (vs.toArray.size - 1)) (I.get ho) rfl
  obtain ⟨n', hg'⟩ : ∃ n', (s.heap.update a (Obj.mapSeq fun xs => xs.eraseIdxIfInBounds (vs.toArray.size - 1))).get? a = some (listOf vs.dropLast.toArray n') := by
    rw [hg, ← e]; exact ⟨_, rfl⟩
  have F' := I.fr.change hs hne hfr
  obtain ⟨pre, post, e1, e2, a1, a2⟩ := (upd_of (listOf vs.dropLast.toArray n') I.nd ho).split
  have N' : News X.h₀ X.L (s.heap.update a (Obj.mapSeq fun xs => xs.eraseIdxIfInBounds (vs.toArray.size - 1))) (swapIn a (listOf vs.dropLast.toArray n') news) := by
    rw [e2]
    exact news_set (e1 ▸ I.nw) a1 a2 hs hg'
  exact h _ _ (I.set s.toks hi hl ha ho (x' := x') (hx' n') F' N')
theorem popE_sat {i : Nat} {a : Addr} (ha : W.mu[i]? = some a) : Sat X W (call (.builtin "list.pop") [.ref a] []) σ (popE i σ) := by
  intro hn
  unfold popE at hn ⊢
  split at hn
  · rename_i xs hi
    split at hn
    rotate_left 1
    · exact (hn rfl).elim
    rename_i x hx
    refine Sat.mk rfl (fun s m news I Q h => ?_) hn
    obtain ⟨o, ho, vs, n, rfl, hv, hz⟩ := I.at_ hi rfl ha
    obtain ⟨v, ev, rv⟩ := hv.last hx
    have hd : VReps W.fro xs.dropLast vs.dropLast := by
      rw [List.dropLast_eq_take, List.dropLast_eq_take, hv.length]; exact hv.take _
    exact pop_core I hi rfl ha ho hz ev (x' := .vlist xs.dropLast) (fun n' => ⟨vs.dropLast, n', rfl, hd, by rw [List.length_dropLast]; omega⟩) fun s' news' J => h _ _ W _ _ .refl (.v rv) J
  · rename_i ys hi
    split at hn
    rotate_left 1
    · exact (hn rfl).elim
    rename_i y r
    refine Sat.mk rfl (fun s m news I Q h => ?_) hn
    obtain ⟨o, ho, vs, n, rfl, hv, hz⟩ := I.at_ hi rfl ha
    obtain ⟨v, ev, rv⟩ := hv.last (x := y) (by rw [List.reverse_cons]; simp)
    have hd : VReps W.fro r.reverse vs.dropLast := by
      have h1 : (y :: r).reverse.dropLast = r.reverse := by rw [List.reverse_cons, List.dropLast_concat]
      rw [← h1, List.dropLast_eq_take, List.dropLast_eq_take, hv.length]; exact hv.take _
    exact pop_core I hi rfl ha ho hz ev (x' := .vrev r) (fun n' => ⟨vs.dropLast, n', rfl, hd, by rw [List.length_dropLast]; omega⟩) fun s' news' J => h _ _ W _ _ .refl (.v rv) J
  · exact (hn rfl).elim
theorem addE_sat {i : Nat} {a : Addr} {x : Str} {t : Tok} (ha : W.mu[i]? = some a) : Sat X W (call (.builtin "set.add") [.ref a, .str x t] []) σ (addE i x σ) := by
  intro hn
  unfold addE at hn ⊢
  split at hn
  rotate_left 1
  · exact (hn rfl).elim
  rename_i xs hi
  split at hn
  rotate_left 1
  · exact (hn rfl).elim
  rename_i hl
  have hl := (Nat.blt_eq).mp hl
  have hk : (strKind G.p X.w).is x (.str x t) = true := by show Value.isStrOf x (.str x t) = true; simp [Value.isStrOf]
  have main : ∀ (ys : List Str), (∀ k, (xs.contains k || decide (k = x)) = true ↔ k ∈ ys) → ys.Nodup ∨ True → ∀ s m news, InvX X W σ s m news → ∀ Q : Value → Shared → Prop, (xs.Nodup → ys.Nodup) → (ys.length = if xs.contains x = true then xs.length else xs.length + 1) →
      (∀ a' s' W' m' news', W.Le W' → Rep W' (.v .none) a' → InvX X W' ⟨σ.loc, σ.H.set i (.sset ys)⟩ s' m' news' → Q a' s') → wpAny X.M X.A (call (.builtin "set.add") [.ref a, .str x t] []) Q (EPO X (.no : Out PV)) s := by
    intro ys hy _ s m news I Q hnd hlen h
    obtain ⟨o, ho, es, n, tb, rfl, M⟩ := I.at_ hi rfl ha
    have M' := M
    rw [I.P] at M
    have S := setOf_mems (prog := G.p) (w := X.w) (I.get ho) M
    obtain ⟨f1, f2, nd, L, f3, f4⟩ := M'
    have hsz : es.size = xs.length := by rw [← Array.length_toList, f3, List.length_map, ← f4.length_eq, List.length_map]
    refine call_set_add hk rfl S (by rw [hsz]; have : scanBound = 4096 := rfl; omega) fun h' hs hS => ?_
    obtain ⟨es', ep', t', hg', M'⟩ := mems_of (ys := ys) hS hy (hnd nd) (by rw [hlen, hsz])
    have hne : a ≠ X.L := (I.nw _ ho).2.1
    have hfr : X.h₀.get? a = none := (I.nw _ ho).2.2
    have F' := I.fr.change hs hne hfr
    obtain ⟨pre, post, e1, e2, a1, a2⟩ := (upd_of (setOb "set" es' ep' t') I.nd ho).split
    have N' : News X.h₀ X.L h' (swapIn a (setOb "set" es' ep' t') news) := by
      rw [e2]
      exact news_set (e1 ▸ I.nw) a1 a2 hs hg'
    have J := I.set (s.toks + 1) hi rfl ha ho (x' := .sset ys) ⟨es', ep', t', rfl, I.P ▸ M'⟩ F' N'
    exact h _ _ W _ _ .refl (.v .none) J
  split at hn
  · rename_i hc
    refine Sat.mk (H' := σ.H) rfl (fun s m news I Q h => ?_) hn
    have hx : x ∈ xs := by simpa using hc
    have e : σ.H.set i (.sset xs) = σ.H := by
      apply List.ext_getElem?
      intro j
      by_cases e : i = j
      · subst e; rw [List.getElem?_set_self (List.getElem?_eq_some_iff.mp hi).1, hi]
      · rw [List.getElem?_set_ne e]
    refine wpAny_mono (main xs (fun k => ?_) (.inr trivial) s m news I Q id (by rw [if_pos hc]) (by rw [e]; exact h)) (fun _ _ z => z) fun _ _ z => by obtain ⟨c, q, _⟩ := z; cases q
    rw [Bool.or_eq_true, List.contains_iff_mem, decide_eq_true_eq]
    exact ⟨fun z => z.elim id (fun e => e ▸ hx), .inl⟩
  · rename_i hc
    have hx : x ∉ xs := fun h => by rw [List.contains_iff_mem.mpr h] at hc; cases hc
    refine Sat.mk rfl (fun s m news I Q h => ?_) hn
    refine wpAny_mono (main (x :: xs) (fun k => ?_) (.inr trivial) s m news I Q (fun z => List.nodup_cons.mpr ⟨hx, z⟩) (by rw [if_neg (by rw [hc]; exact Bool.false_ne_true)]; rfl) h) (fun _ _ z => z) fun _ _ z => by obtain ⟨c, q, _⟩ := z; cases q
    rw [Bool.or_eq_true, List.contains_iff_mem, decide_eq_true_eq, List.mem_cons]
    exact ⟨fun z => z.elim .inr .inl, fun z => z.elim .inr .inl⟩
end
end Rk
end
section
open PySem PySem.W PyProof.Rows PySem.Calls
set_option maxRecDepth 100000
namespace Rk
/-- an instance is made -/
def clsE (E : Ev) (C : Addr) (c : ClI) (args : List PV) (σ : St) : Out PV := match noRefs args with
  | false => .no
  | true => match E.fn c.init (.ref 1 :: args) ⟨[], [.dict [], .inst C 0 []]⟩ with
    | .no => .no
    | .exc e => .exc e
    | .ok p σ' => match p with
      | .v .none => .ok (.ref (σ.H.length + 1)) ⟨σ.loc, σ.H ++ σ'.H.map (shO σ.H.length)⟩
      | _ => .no
end Rk
end
section
open PySem PySem.W PyProof.Rows PySem.Calls
set_option maxRecDepth 100000
namespace Rk
section
variable {G : Pg} {F : Fn} {X : Cx G F} {W : Wd} {σ : St} {T : Tb} {E : Ev}
def FnSat (X : Cx G F) (E : Ev) : Prop := ∀ {A' : Around}, Near X A' → ∀ W σ a args vs, Reps W args vs → SatC X W A' (.call (.ref a) ⟨vs, []⟩) σ (E.fn a args σ)
theorem clsE_sat (ok : X.Ok) (hf : FnSat X E) {C : Addr} {c : ClI} (CO : ClOk G C c) {args : List PV} {vs : List Value} (r : Reps W args vs) : Sat X W (call (.ref C) vs []) σ (clsE E C c args σ) := by
  intro hn s I
  obtain ⟨m, news, J⟩ := I
  unfold clsE at hn ⊢
  cases hr : noRefs args with
  | false => rw [hr] at hn; exact (hn rfl).elim
  | true =>
    rw [hr] at hn
    dsimp only at hn ⊢
    obtain ⟨k1, k2, k3, k4⟩ := CO.make X.w.params
    refine call_cls (K := X.K) J.fr ok.kin J.nw k1 k2 k3 fun x dx h' F' N' hlt hdx => ?_
    have nr : Near X (X.A.under (.builtin "type.__call__" ⟨.ref C :: vs, []⟩)) := by
      have n0 := near_self ok
      refine ⟨n0.frames, n0.handled, n0.guards, ?_, ?_⟩
      · show X.Ac.depth + 1 + 1 ≤ X.Ac.depth + 3; omega
      · show X.Ac.units + 3 + _ ≤ X.Ac.units + 15
        have : (Code.builtin "type.__call__" ⟨.ref C :: vs, []⟩).cUnits ≤ 12 := by
          first | decide | (show _ ≤ _; exact Nat.le_of_ble_eq_true rfl)
        omega
    have hx : ∀ p ∈ news, p.1 ≠ x := fun p hp => Nat.ne_of_lt (Nat.lt_trans (hlt p hp) hdx)
    have hdn : ∀ p ∈ news, p.1 ≠ dx := fun p hp => Nat.ne_of_lt (hlt p hp)
    have ex_news : ∀ p ∈ others W news, p ∈ news ∧ ∀ q ∈ W.fro, q.1 ≠ p.1 := fun p hp => others_no hp
    have I₀ : InvX X ⟨[dx, x], W.fro, others W news, W.P⟩ ⟨[], [.dict [], .inst C 0 []]⟩ { s with heap := h' } m ((x, instObj C dx) :: (dx, dictOf [] 0) :: news) := by
      refine ⟨F', N', ?_, ⟨rfl, ?_, fun p hp => .tail _ (.tail _ (J.hr.fro p hp)), fun p hp => ⟨.tail _ (.tail _ (ex_news p hp).1), ?_, (ex_news p hp).2⟩, ?_, ?_, ?_, fun b hb => ?_⟩, fun y p e => by simp at e, J.os, J.gens, J.P⟩
      rotate_right 1
      · obtain ⟨⟨o', h1, h2⟩, _, h4, _⟩ := J.hr.hol b hb
        refine ⟨⟨o', .tail _ (.tail _ h1), h2⟩, fun q => ?_, h4, fun q hq e => others_hol hq (e ▸ hb)⟩
        have q : b = dx ∨ b = x := by simpa using q
        rcases q with q | q
        · exact hdn _ h1 q
        · exact hx _ h1 q
      · rw [List.map_cons, List.map_cons, List.nodup_cons, List.nodup_cons]
        refine ⟨fun q => ?_, fun q => ?_, J.nd⟩
        · rcases List.mem_cons.mp q with e | q
          · exact Nat.ne_of_gt hdx e
          · obtain ⟨y, hy, e⟩ := List.mem_map.mp q
            exact hx y hy e
        · obtain ⟨y, hy, e⟩ := List.mem_map.mp q
          exact hdn y hy e
      · intro i j y z a hi _ hj _ h1 h2
        have hne : dx ≠ x := Nat.ne_of_lt hdx
        match i, j, h1, h2 with
        | 0, 0, _, _ => rfl
        | 1, 1, _, _ => rfl
        | 0, 1, h1, h2 => exact absurd (Option.some.inj (h1.trans h2.symm)) hne
        | 1, 0, h1, h2 => exact absurd (Option.some.inj (h2.trans h1.symm)) hne
        | i + 2, _, h1, _ => simp at h1
        | _, j + 2, _, h2 => simp at h2
      · intro q
        have q : p.1 = dx ∨ p.1 = x := by simpa using q
        rcases q with q | q
        · exact hdn p (ex_news p hp).1 q
        · exact hx p (ex_news p hp).1 q
      · intro a ha
        have ha : a = dx ∨ a = x := by simpa using ha
        rcases ha with rfl | rfl
        · exact ⟨_, .tail _ (.head _), rfl⟩
        · exact ⟨_, .head _, rfl⟩
      · intro i y a hi hl ha
        match i, hi, ha with
        | 0, hi, ha =>
          cases hi; cases ha
          exact ⟨_, .tail _ (.head _), [], 0, rfl, .nil⟩
        | 1, hi, ha =>
          cases hi; cases ha
          exact ⟨_, .head _, dx, [], rfl, rfl, .nil⟩
        | i + 2, hi, _ => simp at hi
      · intro i y a hi hl ha p hp
        match i, hi, ha with
        | 0, hi, ha => cases ha; exact hdn p (J.hr.fro p hp)
        | 1, hi, ha => cases ha; exact hx p (J.hr.fro p hp)
        | i + 2, hi, _ => simp at hi
    have r₀ : Reps ⟨[dx, x], W.fro, others W news, W.P⟩ (.ref 1 :: args) (.ref x :: vs) := .cons (.ref rfl) (Reps.plain (W := W) (W' := ⟨[dx, x], W.fro, others W news, W.P⟩) (fun q hq => hq) rfl r hr)
    have call := hf nr _ ⟨[], [.dict [], .inst C 0 []]⟩ c.init _ _ r₀
    cases eo : E.fn c.init (.ref 1 :: args) ⟨[], [.dict [], .inst C 0 []]⟩ with
    | no => rw [eo] at hn; exact (hn rfl).elim
    | exc e =>
      rw [eo] at call
      refine codeAny_mono (call (by intro h; cases h) _ m _ I₀) fun r s' z => ?_
      rcases r with e' | (_ | _ | _ | v)
      · obtain ⟨c', ec, q⟩ := z
        cases ec
        exact ⟨e, rfl, q⟩
      · exact z.elim
      · exact z.elim
      · exact z.elim
      · obtain ⟨_, _, _, _, eq, _⟩ := z; cases eq
    | ok p σ' =>
      rw [eo] at call hn
      dsimp only at hn
      split at hn
      rotate_left 1
      · exact (hn rfl).elim
      refine codeAny_mono (call (by intro h; cases h) _ m _ I₀) fun r s' z => ?_
      rcases r with e' | (_ | _ | _ | v)
      · obtain ⟨c', ec, q⟩ := z; cases ec
      · exact z.elim
      · exact z.elim
      · exact z.elim
      · obtain ⟨W', b, σ'', le, eq, rr, news', J'⟩ := z
        cases eq
        cases rr with | v rr => cases rr with | none =>
        refine ⟨rfl, ?_⟩
        obtain ⟨B, leB⟩ := J.hr.join J'.hr le.ex le.kp le.P
        refine ⟨W.join W', _, _, leB, rfl, .ref ?_, m, news', J'.fr, J'.nw, J'.nd, B, fun y p e => ?_, J'.os, J'.gens, J.P⟩
        · show (W.mu ++ W'.mu)[σ.H.length + 1]? = some x
          rw [← J.hr.len, List.getElem?_append_right (by omega), Nat.add_sub_cancel_left]
          exact le.num 1 x rfl
        · obtain ⟨v, hv, rv⟩ := J.loc y p e
          exact ⟨v, hv, rv.up leB⟩
end
end Rk
end
section
open PySem PySem.W PyProof.Rows PySem.Calls
set_option maxRecDepth 100000
namespace Rk
def notComp : Expr → Bool
  | .ListComp .. => false
  | .SetComp .. => false
  | .DictComp .. => false
  | _ => true
def plainT : Expr → Bool
  | .Name .. => true
  | .Attribute .. => true
  | _ => false
def storeE (F : Fn) (x : Str) (p : PV) (σ : St) : Out Unit := match F.scope.names.lookup x, F.prot.contains x with
  | some .local, false => .ok () ⟨put x p σ.loc, σ.H⟩
  | _, _ => .no
def asgE (T : Tb) (E : Ev) (F : Fn) (t : Expr) (p : PV) (σ : St) : Out Unit := match t with
  | .Name x _ => storeE F x p σ
  | .Attribute o attr _ => (E.ev F o σ).bind fun q σ => setE T attr p q σ
  | .Tuple [.Name x _, .Name y _] _ _ => (match p with
    | .v (.tuple [a, b]) => (storeE F x (.v a) σ).bind fun _ σ => storeE F y (.v b) σ
    | _ => .no)
  | _ => .no
def simpE (T : Tb) (E : Ev) (F : Fn) (st : Stmt) (σ : St) : Out AFlow := match st with
  | .Pass _ => .ok .next σ
  | .Expr e _ => (match notComp e with
    | true => (E.ev F e σ).bind fun _ σ => .ok .next σ
    | false => .no)
  | .Return none _ => .ok (.ret (.v .none)) σ
  | .Return (some e) _ => (E.ev F e σ).bind fun p σ => .ok (.ret p) σ
  | .Assign [t] e _ => (match notComp e && plainT t with
    | true => (E.ev F e σ).bind fun p σ => (asgE T E F t p σ).bind fun _ σ => .ok .next σ
    | false => .no)
  | .If t b o _ => (E.tr F t σ).bind fun c σ => match c with
    | true => E.ex F b σ
    | false => E.ex F o σ
  | _ => .no
end Rk
end
section
open PySem PySem.W PyProof.Rows PySem.Calls
set_option maxRecDepth 100000
namespace Rk
section
variable {G : Pg} {F : Fn} {X : Cx G F} {W : Wd} {σ : St} {T : Tb} {E : Ev}
theorem storeE_sat (ok : X.Ok) {x : Str} {p : PV} {v : Value} (r : Rep W p v) : Sat X W (bindName X.env x v) σ (storeE F x p σ) := by
  intro hn
  unfold storeE at hn ⊢
  split at hn
  rotate_left 1
  · exact (hn rfl).elim
  rename_i hx hpr
  intro s I
  obtain ⟨m, news, J⟩ := I
  refine wpAny_bindName (storeX_L (cl := []) J.fr J.nw (fun h' F' N' => ?_) ok.kind hx)
  refine ⟨W, (), _, .refl, rfl, trivial, _, news, F', N', J.nd, J.hr, fun y q e => ?_, ⟨J.os.1, fun q hq => ?_⟩, J.gens, J.P⟩
  rotate_left 1
  · have hne : q.1 ≠ x := fun e => by
      have := ok.prot q hq
      rw [e, hpr] at this
      cases this
    exact (if_neg hne).trans (J.os.2 q hq)
  have e : (put x p σ.loc).lookup y = some q := e
  rw [put_lookup] at e
  split at e
  · rename_i h
    cases e
    exact ⟨v, if_pos h, r⟩
  · rename_i h
    obtain ⟨u, hu, ru⟩ := J.loc y q e
    exact ⟨u, (if_neg h).trans hu, ru⟩
theorem Sat.release {vs keep : List Value} : Sat X W (release vs keep) σ (.ok () σ : Out Unit) := fun _ s I => wpAny_release' ⟨W, (), σ, .refl, rfl, trivial, I⟩
theorem Sat.then_ {β α γ δ : Type} [Res β α] [Res γ δ] {t : Sem α} {u : Sem δ} {o : Out β} {o' : St → Out γ} (h : Sat X W t σ o) (k : ∀ W' σ', W.Le W' → Sat X W' u σ' (o' σ')) : Sat X W (t >>= fun _ => u) σ (o.bind fun _ σ => o' σ) :=
  Sat.bind h fun W' b a σ' le _ _ => k W' σ' le
theorem asg_attr_sat (S : Got X E) (ok : X.Ok) (hC : ∀ C c, T.clss.lookup C = some c → ClOk G C c) {o : Expr} {attr : Str} {pos : Pos} {p : PV} {v : Value} (r : Rep W p v) : Sat X W (assign (.Attribute o attr pos) X.env v) σ ((E.ev F o σ).bind fun q σ => setE T attr p q σ) := by
  show Sat X W (do
    let ov ← holding [v] (eval o X.env)
    PySem.standAt pos.atName
    holding [v, ov] (setAttr ov attr v)
    release [v, ov] []) σ _
  refine Sat.bindV (Sat.holding (S.ev W σ o)) fun W₁ q u σ₁ le rq _ => Sat.standAt ?_
  have := Sat.then_ (o' := fun σ => (.ok () σ : Out Unit)) (Sat.holding (vs := [v, u]) (setE_sat (σ := σ₁) (name := attr) ok hC rq (r.up le))) (u := release [v, u] []) fun W' σ' _ => Sat.release
  refine Sat.cast this rfl ?_
  cases setE T attr p q σ₁ <;> rfl
theorem unpack2_sat (ok : X.Ok) {x y : Str} {px py pos : Pos} {k : Nat} {a b : V} {v : Value} (r : Rep W (.v (.tuple [a, b])) v) : Sat X W (assign (.Tuple [.Name x px, .Name y py] k pos) X.env v) σ ((storeE F x (.v a) σ).bind fun _ σ => storeE F y (.v b) σ) := by
  cases r with | v r => cases r with | tup hm hr hz => cases hr with | cons ra hr => cases hr with | cons rb hr => cases hr with | nil =>
  rename_i ad va vb
  show Sat X W (do
    PySem.standAt pos
    assignInOrder [fun v => (do PySem.standAt px; bindName X.env x v), fun v => (do PySem.standAt py; bindName X.env y v)] (← holding [Value.ref ad] (unpackItems (.ref ad) 2 none))) σ _
  refine Sat.standAt ?_
  intro hn s I
  obtain ⟨m, news, J⟩ := I
  refine wpAny_bind (wpAny_holding (unpackItemsN_ J.fr J.nw (isTup_of J (J.hr.fro _ hm)) ok.handled rfl fun h' F' N' => ?_))
  show wpAny _ _ (do
    holding [vb] (do PySem.standAt px; bindName X.env x va)
    assignInOrder [fun v => (do PySem.standAt py; bindName X.env y v)] [vb]) _ _ _
  have J' : Inv X W σ { s with heap := h' } := ⟨m, news, F', N', J.nd, J.hr, J.loc, J.os, J.gens, J.P⟩
  have tail : ∀ W' σ', W.Le W' → Sat X W' (assignInOrder [fun v => (do PySem.standAt py; bindName X.env y v)] [vb]) σ' (storeE F y (.v b) σ') := fun W' σ' le => by
    show Sat X W' (do
      holding [] (do PySem.standAt py; bindName X.env y vb)
      (Pure.pure () : Sem Unit)) σ' _
    have := Sat.then_ (o' := fun σ => (.ok () σ : Out Unit)) (Sat.holding (vs := []) (Sat.standAt (pos := py) (storeE_sat (σ := σ') (x := y) ok ((Rep.v rb).up le)))) (u := (Pure.pure () : Sem Unit)) fun W'' σ'' _ => Sat.pure (show True from trivial)
    refine Sat.cast this rfl ?_
    cases storeE F y (.v b) σ' <;> rfl
  exact Sat.then_ (o' := fun σ => storeE F y (.v b) σ) (Sat.holding (vs := [vb]) (Sat.standAt (pos := px) (storeE_sat (σ := σ) (x := x) ok (Rep.v ra)))) tail hn _ J'
theorem asgE_sat (S : Got X E) (ok : X.Ok) (hC : ∀ C c, T.clss.lookup C = some c → ClOk G C c) {t : Expr} {p : PV} {v : Value} (r : Rep W p v) : Sat X W (assign t X.env v) σ (asgE T E F t p σ) := by
  intro hn
  unfold asgE at hn ⊢
  split at hn
  · exact Sat.standAt (storeE_sat ok r) hn
  · exact asg_attr_sat S ok hC r hn
  · split at hn
    · exact unpack2_sat ok r hn
    · exact (hn rfl).elim
  · exact (hn rfl).elim
end
end Rk
end
section
open PySem PySem.W PyProof.Rows PySem.Calls
set_option maxRecDepth 100000
namespace Rk
section
variable {G : Pg} {F : Fn} {X : Cx G F} {W : Wd} {σ : St} {T : Tb} {E : Ev}
theorem swaps_of {e : Expr} (h : notComp e = true) (t : Option Expr) (l : Nat) (env : Env) : swapsWith e t l env = pure false := by
  cases e <;> first | rfl | cases h
theorem ret_ok {β : Type} {o : Out β} : o.bind (fun b σ => .ok b σ) = o := by cases o <;> rfl
theorem Sat.ofOk {α β : Type} [Res β α] {t : Sem α} {o : Out β} (h : o ≠ .no → Sat X W t σ o) : Sat X W t σ o := fun hn => h hn hn
theorem interactive_no (ok : X.Ok) : interactive X.env = false := by
  unfold interactive
  show (F.scope.kind == .module && _) = false
  rw [ok.kind]; rfl
theorem expr_sat (S : Got X E) (ok : X.Ok) {e : Expr} {pos : Pos} (he : notComp e = true) : Sat X W (exec (.Expr e pos) X.env) σ ((E.ev F e σ).bind fun _ σ => (.ok .next σ : Out AFlow)) := by
  rw [exec_Expr X.env e pos (interactive_no ok) (swaps_of he none pos.line X.env)]
  refine Sat.standAt ?_
  refine Sat.bindV (S.ev W σ e) fun W₁ p a σ₁ le r _ => ?_
  intro _ s I
  exact wpAny_dropValue ⟨W₁, .next, σ₁, .refl, rfl, .next, I⟩
theorem assign_arm {t e : Expr} {pos : Pos} (he : notComp e = true) (ht : plainT t = true) (env : Env) : exec (.Assign [t] e pos) env = (do
    PySem.standAt pos
    let v ← eval e env
    assign t env v
    pure .next) := by
  rw [arm_exec_Assign]
  have h1 : swapsWithSole [t] e pos.line env = pure false := swaps_of he (some t) pos.line env
  rw [h1]
  cases t <;> first | rfl | cases ht
theorem assign_sat (S : Got X E) (ok : X.Ok) (hC : ∀ C c, T.clss.lookup C = some c → ClOk G C c) {t e : Expr} {pos : Pos} (he : notComp e = true) (ht : plainT t = true) :
    Sat X W (exec (.Assign [t] e pos) X.env) σ ((E.ev F e σ).bind fun p σ => (asgE T E F t p σ).bind fun _ σ => (.ok .next σ : Out AFlow)) := by
  rw [assign_arm he ht]
  refine Sat.standAt (Sat.bindV (S.ev W σ e) fun W₁ p a σ₁ le r _ => ?_)
  exact Sat.then_ (o' := fun σ => (.ok .next σ : Out AFlow)) (asgE_sat S ok hC r) fun W' σ' _ => Sat.pure (show FRep W' .next .next from .next)
theorem simpE_sat (S : Got X E) (ok : X.Ok) (hC : ∀ C c, T.clss.lookup C = some c → ClOk G C c) {st : Stmt} : Sat X W (exec st X.env) σ (simpE T E F st σ) := by
  intro hn
  unfold simpE at hn ⊢
  split at hn
  · rw [arm_exec_Pass]
    exact Sat.standAt (Sat.pure (α := Flow) (β := AFlow) (show FRep W .next .next from .next)) hn
  · split at hn
    · rename_i he
      exact expr_sat S ok he hn
    · exact (hn rfl).elim
  · rw [exec_Return_none]
    exact Sat.standAt (Sat.pure (α := Flow) (β := AFlow) (show FRep W (.ret (.v .none)) (.ret .none) from .ret (.v .none))) hn
  · rw [exec_Return_some]
    exact Sat.standAt (Sat.bindV (S.ev W σ _) fun W₁ p a σ₁ le r _ => Sat.pure (α := Flow) (β := AFlow) (show FRep W₁ (.ret p) (.ret a) from .ret r)) hn
  · split at hn
    · rename_i he
      rw [Bool.and_eq_true] at he
      exact assign_sat S ok hC he.1 he.2 hn
    · exact (hn rfl).elim
  · rw [arm_exec_If]
    refine Sat.standAt (Sat.bind (S.tr W σ _) fun W₁ c c' σ₁ le rc _ => ?_) hn
    have rc : c = c' := rc
    subst rc
    cases c
    · exact S.ex W₁ σ₁ _
    · exact S.ex W₁ σ₁ _
  · exact (hn rfl).elim
end
end Rk
end
section
open PySem PySem.W PyProof.Rows PySem.Calls
set_option maxRecDepth 100000
namespace Rk
/-- the exceptions that are raised -/
structure Xb where
  own : List (Str × Addr)
  bi : List (Str × String)
structure XbOk (G : Pg) (T : Tb) (B : Xb) : Prop where
  own : ∀ x C, B.own.lookup x = some C → T.globs.lookup x = some (.ref C) ∧ ∃ b newId initId bm, ExcBaseFacts b newId initId bm ∧ specOf G.q x = some (newId, bm)
  bi : ∀ x t, B.bi.lookup x = some t → T.bis.lookup x = some (.type t) ∧ ∃ newId initId, ExcCallFacts t newId initId ∧ ExcRaiseFacts t
def excOf (B : Xb) (x : Str) : Option Value := match B.own.lookup x with
  | some C => some (.ref C)
  | none => (match B.bi.lookup x with
    | some t => some (.type t)
    | none => none)
def raiseE (B : Xb) (E : Ev) (F : Fn) (st : Stmt) (σ : St) : Out AFlow := match st with
  | .Raise (some (.Call (.Name x _) (e₀ :: rest) [] _)) none _ => (match anyStar (e₀ :: rest) || (x == ("__debug__" : Str)) || !(F.scope.names.lookup x == some .globalImplicit) || !fitsN (e₀ :: rest).length with
    | true => .no
    | false => (match excOf B x with
      | some c => (evs E F (e₀ :: rest) σ).bind fun _ _ => .exc c
      | none => .no))
  | _ => .no
end Rk
end
section
open PySem PySem.W PyProof.Rows PySem.Calls
set_option maxRecDepth 100000
namespace Rk
section
variable {G : Pg} {F : Fn} {X : Cx G F} {W : Wd} {σ : St} {T : Tb} {E : Ev} {B : Xb}
theorem evs_len : ∀ {es : List Expr} {σ : St} {ps : List PV} {σ' : St}, evs E F es σ = .ok ps σ' → ps.length = es.length
  | [], _, _, _, h => by cases h; rfl
  | e :: r, σ, ps, σ', h => by
    unfold evs at h
    split at h
    · cases h
    · cases h1 : E.ev F e σ with
      | no => rw [h1] at h; cases h
      | exc c => rw [h1] at h; cases h
      | ok p σ₁ =>
        rw [h1] at h
        have h : (evs E F r σ₁).bind (fun ps σ => .ok (p :: ps) σ) = .ok ps σ' := h
        cases h2 : evs E F r σ₁ with
        | no => rw [h2] at h; cases h
        | exc c => rw [h2] at h; cases h
        | ok qs σ₂ =>
          rw [h2] at h
          cases h
          rw [List.length_cons, List.length_cons, evs_len h2]
theorem raiseE_sat (S : Got X E) (ok : X.Ok) (hpr : F.prot.isEmpty = true) (tk : TbOk G T) (xk : XbOk G T B) {st : Stmt} : Sat X W (exec st X.env) σ (raiseE B E F st σ) := by
  intro hn
  unfold raiseE at hn ⊢
  split at hn
  rotate_left 1
  · exact (hn rfl).elim
  rename_i x np e₀ rest cpos pos
  split at hn
  · exact (hn rfl).elim
  rename_i hc
  simp only [Bool.or_eq_false_iff, Bool.not_eq_false', beq_iff_eq] at hc
  obtain ⟨⟨⟨hs, hd⟩, hk⟩, hf⟩ := hc
  have hd : (x == ("__debug__" : Str)) = false := hd
  intro s I
  obtain ⟨m, news, J⟩ := id I
  have hs' : isStar e₀ = false ∧ anyStar rest = false := by
    unfold anyStar at hs
    rw [List.any_cons, Bool.or_eq_false_iff] at hs
    exact hs
  have sp0 := fun h => evs_sat S (pos := cpos) (e₀ :: rest) W σ h s I
  cases ho : B.own.lookup x with
  | some C =>
    have ex : excOf B x = some (.ref C) := by unfold excOf; rw [ho]
    rw [ex] at hn ⊢
    dsimp only at hn ⊢
    have sp := sp0 (bind_ok hn)
    obtain ⟨hg, b, newId, initId, bm, FB, hspec⟩ := xk.own x C ho
    refine Raise_top J.fr ok.top FB hspec ok.handled (fun C' hm hmg => ?_) (star_none hs'.1) (star_plain hs'.2) ok.kind hk hd
    have e1 : X.mg x = some (.ref C) := mg_of ok.kin ok.top.g (tk.globs X.w.params x _ hg)
    have eC : C' = C := by rw [e1] at hmg; cases hmg; rfl
    subst eC
    refine wpAny_mono sp (fun vs s₂ ⟨W', ps, σ', le, e, rs, K⟩ => ?_) (fun v s₂ ⟨c, e, q⟩ => ⟨c, by rw [e]; rfl, q⟩)
    obtain ⟨m', news', K⟩ := K
    refine ⟨by rw [rs.length, evs_len e]; exact fitsN_le hf, K.fr.keep, fun h' ex hx => ⟨.ref C', by rw [e]; rfl, ok.made hpr _ _ _ _ _ _ _ K.fr K.nw K.hr.hol.in_ hx K.os.1 K.gens⟩⟩
  | none =>
    cases hb : B.bi.lookup x with
    | none =>
      have ex : excOf B x = none := by unfold excOf; rw [ho]; dsimp only; rw [hb]
      rw [ex] at hn
      exact (hn rfl).elim
    | some t =>
      have ex : excOf B x = some (.type t) := by unfold excOf; rw [ho]; dsimp only; rw [hb]
      rw [ex] at hn ⊢
      dsimp only at hn ⊢
      have sp := sp0 (bind_ok hn)
      obtain ⟨hbi, newId, initId, FC, FR⟩ := xk.bi x t hb
      obtain ⟨b1, b2, b3⟩ := tk.bis X.w.params _ _ hbi
      refine wpAny_Raise_call FC FR ok.handled (star_plain hs) (nameX_B (cl := []) J.fr ok.kin (topRead_of ok.top) b1 b2 b3 ⟨rfl, ?_⟩ ok.kind hk hd)
      rw [star_none hs'.1] at sp ⊢
      refine evalArgs_plain (wpAny_mono sp (fun vs s₂ ⟨W', ps, σ', le, e, rs, K⟩ => ?_) (fun v s₂ ⟨c, e, q⟩ => ⟨c, by rw [e]; rfl, q⟩))
      obtain ⟨m', news', K⟩ := K
      refine ⟨rfl, by show vs.length ≤ _; rw [rs.length, evs_len e]; exact fitsN_le hf, fun h' ex hx => ⟨.type t, by rw [e]; rfl, ok.made hpr _ _ _ _ _ _ _ K.fr K.nw K.hr.hol.in_ (Heap.MadeExc.of hx) K.os.1 K.gens⟩⟩
end
end Rk
end
section
open PySem PySem.W PyProof.Rows PySem.Calls
set_option maxRecDepth 100000
namespace Rk
def whileE (E : Ev) (F : Fn) (test : Expr) (body orelse : List Stmt) : Nat → St → Out AFlow
  | 0, _ => .no
  | n + 1, σ => (E.tr F test σ).bind fun c σ => match c with
    | false => E.ex F orelse σ
    | true => (E.ex F body σ).bind fun f σ => match f with
      | .next => whileE E F test body orelse n σ
      | .cont => whileE E F test body orelse n σ
      | .brk => .ok .next σ
      | .ret p => .ok (.ret p) σ
def forE (T : Tb) (E : Ev) (F : Fn) (target : Expr) (body orelse : List Stmt) : List V → St → Out AFlow
  | [], σ => E.ex F orelse σ
  | x :: r, σ => (asgE T E F target (.v x) σ).bind fun _ σ => (E.ex F body σ).bind fun f σ => match f with
    | .next => forE T E F target body orelse r σ
    | .cont => forE T E F target body orelse r σ
    | .brk => .ok .next σ
    | .ret p => .ok (.ret p) σ
end Rk
end
section
open PySem PySem.W PyProof.Rows PySem.Calls
set_option maxRecDepth 100000
namespace Rk
section
variable {G : Pg} {F : Fn} {X : Cx G F} {W : Wd} {σ : St} {T : Tb} {E : Ev}
theorem noted_mono {M : Model} {A : Around} {env : Env} {E₁ E₂ : Value → Shared → Prop} (h : ∀ v s, E₁ v s → E₂ v s) {v : Value} {s : Shared} (x : notedBy M A env E₁ v s) : notedBy M A env E₂ v s :=
  wpAny_mono x (fun _ _ q => h _ _ q) fun _ _ q => h _ _ q
theorem came_mono {M : Model} {A : Around} {env : Env} {E₁ E₂ : Value → Shared → Prop} (h : ∀ v s, E₁ v s → E₂ v s) {v : Value} {s : Shared} (x : cameBackBy M A env E₁ v s) : cameBackBy M A env E₂ v s :=
  wpAny_mono x (fun _ _ q => h _ _ q) fun _ _ q => h _ _ q
/-- what is raised in a loop passes through it -/
theorem EPO.loop {β γ : Type} (ok : X.Ok) {o : Out β} {o' : Out γ} (h : ∀ c, o = .exc c → o' = .exc c) {v : Value} {s : Shared} (x : EPO X o v s) : notedBy X.M X.A X.env (cameBackBy X.M X.A X.env (EPO X o')) v s := by
  obtain ⟨c, e, q⟩ := x
  have lift : ∀ v s, X.EP c v s → EPO X o' v s := fun v s q => ⟨c, h c e, q⟩
  exact noted_mono (fun v s z => came_mono lift z) (ok.pass c v s q)
theorem while_sat (S : Got X E) (ok : X.Ok) {test : Expr} {body orelse : List Stmt} {pos : Pos} (N : Nat) : Sat X W (exec (.While test body orelse pos) X.env) σ (whileE E F test body orelse N σ) := by
  intro hn s I
  generalize ho : whileE E F test body orelse N σ = o at hn ⊢
  refine wpAny_While (codeAny_whileLoop (fun k s => ∃ W' σ', W.Le W' ∧ Inv X W' σ' s ∧ whileE E F test body orelse k σ' = o) (fun k s hI => ?_) N ⟨W, σ, .refl, I, ho⟩)
  obtain ⟨W₀, σ₀, le₀, I₀, e₀⟩ := hI
  cases k with
  | zero => exact (hn e₀.symm).elim
  | succ k =>
    unfold whileE at e₀
    have hn₀ : E.tr F test σ₀ ≠ .no := fun h => hn (by rw [← e₀, h]; rfl)
    refine wpAny_mono (S.tr W₀ σ₀ test hn₀ s I₀) (fun b s₁ ⟨W₁, c, σ₁, le₁, e₁, rc, I₁⟩ => ?_) (fun v s' x => EPO.loop ok (fun c hc => by rw [← e₀, hc]; rfl) x)
    have rc : c = b := rc
    subst rc
    rw [e₁] at e₀
    cases c with
    | false =>
      have e₀ : E.ex F orelse σ₁ = o := e₀
      have hb := S.ex W₁ σ₁ orelse (by rw [e₀]; exact hn) s₁ I₁
      rw [e₀] at hb
      exact wpAny_mono hb (fun f s₂ ⟨W₂, f', σ₂, le₂, e₂, rf, I₂⟩ => ⟨W₂, f', σ₂, le₀.trans (le₁.trans le₂), e₂, rf, I₂⟩) (fun v s' x => EPO.loop ok (fun c hc => hc) x)
    | true =>
      have e₀ : (E.ex F body σ₁).bind (fun f σ => match f with
        | .next => whileE E F test body orelse k σ
        | .cont => whileE E F test body orelse k σ
        | .brk => .ok .next σ
        | .ret p => .ok (.ret p) σ) = o := e₀
      have hb := S.ex W₁ σ₁ body (fun h => hn (by rw [← e₀, h]; rfl)) s₁ I₁
      refine wpAny_mono hb (fun f s₂ ⟨W₂, f', σ₂, le₂, e₂, rf, I₂⟩ => ?_) (fun v s' x => EPO.loop ok (fun c hc => by rw [← e₀, hc]; rfl) x)
      rw [e₂] at e₀
      have le := le₀.trans (le₁.trans le₂)
      cases rf with
      | next => exact ⟨k, Nat.lt_succ_self k, W₂, σ₂, le, I₂, e₀⟩
      | cont => exact ⟨k, Nat.lt_succ_self k, W₂, σ₂, le, I₂, e₀⟩
      | brk => exact ⟨W₂, .next, σ₂, le, e₀.symm, .next, I₂⟩
      | ret r => exact ⟨W₂, _, σ₂, le, e₀.symm, .ret r, I₂⟩
end
end Rk
end
section
open PySem PySem.W PyProof.Rows PySem.Calls
set_option maxRecDepth 100000
namespace Rk
abbrev Wd.wx (W : Wd) (e : Led) : Wd := ⟨W.mu, W.fro, e, W.P⟩
section
variable {W : Wd} {e : Led}
theorem Rep.wx {p : PV} {v : Value} (r : Rep W p v) : Rep (W.wx e) p v := by
  cases r with
  | v h => exact .v h
  | ref h => exact .ref h
  | cst => exact .cst _
  | any => exact .any _
  | fset h1 h2 => exact .fset h1 h2
  | mat h1 h2 h3 h4 => exact .mat h1 h2 h3 h4
theorem Reps.wx : ∀ {ps : List PV} {vs : List Value}, Reps W ps vs → Reps (W.wx e) ps vs
  | _, _, .nil => .nil
  | _, _, .cons h t => .cons h.wx t.wx
theorem Ents.wx : ∀ {es : List (Str × PV)} {ds : List DictEntry}, Ents W es ds → Ents (W.wx e) es ds
  | _, _, .nil => .nil
  | _, _, .cons h t => .cons h.wx t.wx
theorem Slts.wx : ∀ {fs : List (Option PV)} {vs : List (Option Value)}, Slts W fs vs → Slts (W.wx e) fs vs
  | _, _, .nil => .nil
  | _, _, .no t => .no t.wx
  | _, _, .yes h t => .yes h.wx t.wx
theorem ObjR.wx : ∀ {x : AObj} {o : Obj}, ObjR W x o → ObjR (W.wx e) x o
  | .vlist _, _, h => h
  | .vrev _, _, h => h
  | .rlist _, _, ⟨vs, k, e, h, z⟩ => ⟨vs, k, e, h.wx, z⟩
  | .inst _ _ _, _, ⟨d, vs, e, h, h'⟩ => ⟨d, vs, e, h, h'.wx⟩
  | .dict _, _, ⟨ds, k, e, h⟩ => ⟨ds, k, e, h.wx⟩
  | .sset _, _, h => h
  | .junk, _, _ => trivial
end
section
variable {G : Pg} {F : Fn} {X : Cx G F} {W : Wd} {σ : St} {T : Tb} {E : Ev}
abbrev Wd.plus (W : Wd) (it : Addr) (o : Obj) : Wd := ⟨W.mu, W.fro, (it, o) :: W.ex, W.P⟩
/-- an object of another's is laid by -/
theorem InvX.addEx {s : Shared} {m : Str → Option Value} {news : Led} (I : InvX X W σ s m news) {it : Addr} {o : Obj} {h' : Heap} (tk : Nat) (hn : ∀ p ∈ news, p.1 ≠ it) (F' : Fr X.h₀ X.L h' m) (N' : News X.h₀ X.L h' ((it, o) :: news)) :
    InvX X (W.plus it o) σ { s with heap := h', toks := tk } m ((it, o) :: news) := by
  have R := I.hr
  refine ⟨F', N', ?_, ⟨R.len, R.nd, fun p hp => .tail _ (R.fro p hp), ?_, fun a ha => (R.own a ha).imp fun p q => ⟨.tail _ q.1, q.2⟩, ?_, R.apart, fun b hb => ?_⟩, ?_, I.os, I.gens, I.P⟩
  rotate_right 2
  · obtain ⟨⟨o', h1, h2⟩, h3, h4, h5⟩ := R.hol b hb
    refine ⟨⟨o', .tail _ h1, h2⟩, h3, h4, fun q hq => ?_⟩
    rcases List.mem_cons.mp hq with rfl | hq
    · exact fun (e : it = b) => hn _ h1 e.symm
    · exact h5 q hq
  rotate_left 1
  · rw [List.map_cons, List.nodup_cons]
    refine ⟨fun q => ?_, I.nd⟩
    obtain ⟨y, hy, e⟩ := List.mem_map.mp q
    exact hn y hy e
  · intro p hp
    rcases List.mem_cons.mp hp with rfl | hp
    · refine ⟨.head _, fun q => ?_, fun q hq => hn q (R.fro q hq)⟩
      obtain ⟨p, hp, e⟩ := R.own _ q
      exact hn p hp e
    · exact ⟨.tail _ (R.exs p hp).1, (R.exs p hp).2⟩
  · intro i x a hi hl ha
    obtain ⟨o', ho, hx⟩ := R.at_ i x a hi hl ha
    exact ⟨o', .tail _ ho, hx.wx⟩
  · intro y p e
    obtain ⟨v, hv, r⟩ := I.loc y p e
    exact ⟨v, hv, r.wx⟩
/-- it changes -/
theorem InvX.setEx {s : Shared} {m : Str → Option Value} {news : Led} {it : Addr} {o o' : Obj} (I : InvX X (W.plus it o) σ s m news) {h' : Heap} (tk : Nat) (hW : ∀ p ∈ W.ex, p.1 ≠ it) (hs : Heap.SameBut it s.heap h') (hg : h'.get? it = some o') :
    InvX X (W.plus it o') σ { s with heap := h', toks := tk } m (swapIn it o' news) := by
  have R := I.hr
  obtain ⟨e1, e2, e3⟩ := R.exs (it, o) (.head _)
  have F' := I.fr.change hs (I.nw _ e1).2.1 (I.nw _ e1).2.2
  obtain ⟨pre, post, n1, n2, a1, a2⟩ := (upd_of o' I.nd e1).split
  have N' : News X.h₀ X.L h' (swapIn it o' news) := by
    rw [n2]; exact news_set (n1 ▸ I.nw) a1 a2 hs hg
  refine ⟨F', N', by rw [swapIn_keys]; exact I.nd, ⟨R.len, R.nd, fun p hp => mem_swapIn (R.fro p hp) (e3 p hp), ?_, fun b hb => ?_, ?_, R.apart, fun b hb => ?_⟩, ?_, I.os, I.gens, I.P⟩
  rotate_right 2
  · obtain ⟨⟨o', h1, h2⟩, h3, h4, h5⟩ := R.hol b hb
    have hb' : it ≠ b := h5 _ (.head _)
    refine ⟨⟨o', mem_swapIn h1 (Ne.symm hb'), h2⟩, h3, h4, fun q hq => ?_⟩
    rcases List.mem_cons.mp hq with rfl | hq
    · exact hb'
    · exact h5 q (.tail _ hq)
  rotate_left 1
  · intro p hp
    rcases List.mem_cons.mp hp with rfl | hp
    · exact ⟨mem_swapIn_self e1, e2, e3⟩
    · have z := R.exs p (.tail _ hp)
      exact ⟨mem_swapIn z.1 (hW p hp), z.2⟩
  · obtain ⟨p, hp, e⟩ := R.own b hb
    have : b ∈ (swapIn it o' news).map (·.1) := by rw [swapIn_keys]; exact List.mem_map.mpr ⟨p, hp, e⟩
    exact List.mem_map.mp this
  · intro i x a hi hl ha
    obtain ⟨ob, ho, hx⟩ := R.at_ i x a hi hl ha
    exact ⟨ob, mem_swapIn ho (fun (q : a = it) => e2 (q ▸ List.mem_of_getElem? ha)), hx.wx⟩
  · intro y p e
    obtain ⟨v, hv, r⟩ := I.loc y p e
    exact ⟨v, hv, r.wx⟩
/-- it is forgotten -/
theorem InvX.dropEx {s : Shared} {m : Str → Option Value} {news : Led} {it : Addr} {o : Obj} (I : InvX X (W.plus it o) σ s m news) {h' : Heap} (tk : Nat) (hW : ∀ p ∈ W.ex, p.1 ≠ it) (hs : Heap.ExtBut it s.heap h') :
    InvX X W σ { s with heap := h', toks := tk } m (news.filter fun p => p.1 != it) := by
  have R := I.hr
  obtain ⟨e1, e2, e3⟩ := R.exs (it, o) (.head _)
  have hL := (I.nw _ e1).2.1
  have h0 := (I.nw _ e1).2.2
  have keep : ∀ p ∈ news, p.1 ≠ it → p ∈ news.filter fun p => p.1 != it := fun p hp hne => List.mem_filter.mpr ⟨hp, bne_iff_ne.mpr hne⟩
  refine ⟨⟨I.fr.ns.extBut hs (Ne.symm hL), fun b ob e => hs b ob (fun q => ?_) (I.fr.keep b ob e), I.fr.above⟩, fun p hp => ?_, ?_, ⟨R.len, R.nd, fun p hp => keep p (R.fro p hp) (e3 p hp), fun p hp => ?_, fun b hb => ?_, ?_, R.apart, fun b hb => ?_⟩, ?_, I.os, I.gens, I.P⟩
  rotate_right 2
  · obtain ⟨⟨o', h1, h2⟩, h3, h4, h5⟩ := R.hol b hb
    exact ⟨⟨o', keep _ h1 (Ne.symm (h5 _ (.head _))), h2⟩, h3, h4, fun q hq => h5 q (.tail _ hq)⟩
  rotate_left 1
  · rw [q] at e; rw [h0] at e; cases e
  · obtain ⟨hp, hne⟩ := List.mem_filter.mp hp
    exact ⟨hs _ _ (bne_iff_ne.mp hne) (I.nw p hp).1, (I.nw p hp).2⟩
  · exact (List.filter_sublist.map _).nodup I.nd
  · have z := R.exs p (.tail _ hp)
    exact ⟨keep p z.1 (hW p hp), z.2⟩
  · obtain ⟨p, hp, e⟩ := R.own b hb
    exact ⟨p, keep p hp (fun q => e2 (by rw [← q, e]; exact hb)), e⟩
  · intro i x a hi hl ha
    obtain ⟨ob, ho, hx⟩ := R.at_ i x a hi hl ha
    exact ⟨ob, keep _ ho (fun (q : a = it) => e2 (q ▸ List.mem_of_getElem? ha)), hx.wx⟩
  · intro y p e
    obtain ⟨v, hv, r⟩ := I.loc y p e
    exact ⟨v, hv, r.wx⟩
end
end Rk
end
section
open PySem PySem.W PyProof.Rows PySem.Calls
set_option maxRecDepth 100000
namespace Rk
def plainIter (o : Obj) : Prop := o.cls = .type "list_iterator" ∨ o.cls = .type "range_iterator"
theorem letGo_plain {M : Model} {A : Around} {E : Value → Shared → Prop} {s : Shared} {t : Expr} {it : Addr} {o : Obj} {v : Value} {Q : Unit → Shared → Prop} (hg : s.heap.get? it = some o) (ho : plainIter o) (h : Q () s) : wpAny M A (letOwnedTupleGo t (.ref it) v) Q E s := by
  have key : ∀ v, wpAny M A (do
      let (.ref r, .ref a) := ((.ref it : Value), (v : Value)) | return ()
      let o ← load r
      match o.cls, o.data with
      | .type n, .fields vs =>
        if ["enumerate", "zip", "dict_itemiterator", "dict_reverseitemiterator", "odict_iterator", "itertools.zip_longest", "itertools.pairwise"].contains n && vs[0]? == some (rawInt a) then
          rule "for.unpacks-the-owned-tuple"
          updateField r 0 .none
      | _, _ => pure () : Sem Unit) Q E s := fun v => by
    cases v with
    | ref a =>
      refine wpAny_bind (wpAny_load hg ?_)
      obtain ⟨c, d, da, sl⟩ := o
      rcases ho with ho | ho <;>
      · have ho : c = _ := ho
        subst ho
        cases da <;> first | exact wpAny_pure h | (dsimp only; rw [if_neg (by simp)]; exact wpAny_pure h)
    | _ => exact wpAny_pure h
  cases t <;> first | exact wpAny_pure h | exact key v
section
variable {G : Pg} {F : Fn} {X : Cx G F} {W : Wd} {σ : St} {T : Tb} {E : Ev}
theorem forLoop_sat (S : Got X E) (ok : X.Ok) (hC : ∀ C c, T.clss.lookup C = some c → ClOk G C c) {target : Expr} {body orelse : List Stmt} {it : Addr} {xs : List V} {ItO : Nat → Obj → Prop}
    (hp : ∀ i o, ItO i o → plainIter o)
    (next : ∀ (i : Nat) (s : Shared) (o : Obj), (∀ p ∈ W.fro, s.heap.get? p.1 = some p.2) → s.heap.get? it = some o → ItO i o → i ≤ xs.length → ∀ (Q : Option Value → Shared → Prop) (E' : Value → Shared → Prop),
      (∀ x, xs[i]? = some x → ∀ v h' o' tk, VRep W.fro x v → h'.get? it = some o' → ItO (i + 1) o' → Heap.SameBut it s.heap h' → Q (some v) { s with heap := h', toks := tk }) →
      (xs[i]? = none → ∀ h', Heap.ExtBut it s.heap h' → Q none { s with heap := h' }) → wpAny X.M X.A (pyNext (.ref it)) Q E' s)
    (hW : ∀ p ∈ W.ex, p.1 ≠ it) {o : Out AFlow} (ho : forE T E F target body orelse xs σ = o) (hn : o ≠ .no) {s : Shared} {o₀ : Obj} (h₀ : ItO 0 o₀) (I : Inv X (W.plus it o₀) σ s) :
    codeAny X.M X.A (.forLoop target (.ref it) body orelse X.env) (fun r s' => match r with | .ok f => Post X W o f s' | .error e => cameBackBy X.M X.A X.env (EPO X o) e s') s := by
  refine codeAny_forLoop_any (fun k s => ∃ W' σ' i ob, W.Le W' ∧ Inv X (W'.plus it ob) σ' s ∧ ItO i ob ∧ forE T E F target body orelse (xs.drop i) σ' = o ∧ i ≤ xs.length ∧ k = xs.length + 1 - i) (fun k s hI => ?_) (xs.length + 1)
    ⟨W, σ, 0, o₀, .refl, I, h₀, ho, Nat.zero_le _, rfl⟩
  obtain ⟨W₀, σ₀, i, ob, le₀, I₀, hit, e₀, hi, rfl⟩ := hI
  have hW₀ : ∀ p ∈ W₀.ex, p.1 ≠ it := by rw [le₀.ex]; exact hW
  obtain ⟨m, news, J⟩ := id I₀
  have hg : s.heap.get? it = some ob := J.get (J.hr.exs (it, ob) (.head _)).1
  refine next i s ob (fun p hp => J.kept p (le₀.kp p hp)) hg hit hi _ _ (fun x hx v h' ob' tk rv hg' hit' hs => ?_) (fun hx h' hs => ?_)
  · -- a turn
    have hlt : i < xs.length := (List.getElem?_eq_some_iff.mp hx).1
    have hd : xs.drop i = x :: xs.drop (i + 1) := by
      rw [List.drop_eq_getElem_cons hlt]
      congr 1
      exact (List.getElem?_eq_some_iff.mp hx).2
    rw [hd] at e₀
    have J₁ := J.setEx (W := W₀) tk hW₀ hs hg'
    have I₁ : Inv X (W₀.plus it ob') σ₀ { s with heap := h', toks := tk } := ⟨m, _, J₁⟩
    refine letGo_plain hg' (hp _ _ hit') ?_
    have e₀ : (asgE T E F target (.v x) σ₀).bind (fun _ σ => (E.ex F body σ).bind fun f σ => match f with
      | .next => forE T E F target body orelse (xs.drop (i + 1)) σ
      | .cont => forE T E F target body orelse (xs.drop (i + 1)) σ
      | .brk => .ok .next σ
      | .ret p => .ok (.ret p) σ) = o := e₀
    have rv' : Rep (W₀.plus it ob') (.v x) v := .v (rv.up le₀.kp)
    refine wpAny_mono (asgE_sat S ok hC rv' (fun h => hn (by rw [← e₀, h]; rfl)) _ I₁) (fun _ s₂ ⟨W₂, u, σ₂, le₂, e₂, _, I₂⟩ => ?_) (fun v s' x => EPO.loop ok (fun c hc => by rw [← e₀, hc]; rfl) x)
    rw [e₂] at e₀
    have e₀ : (E.ex F body σ₂).bind (fun f σ => match f with
      | .next => forE T E F target body orelse (xs.drop (i + 1)) σ
      | .cont => forE T E F target body orelse (xs.drop (i + 1)) σ
      | .brk => .ok .next σ
      | .ret p => .ok (.ret p) σ) = o := e₀
    refine wpAny_mono (S.ex W₂ σ₂ body (fun h => hn (by rw [← e₀, h]; rfl)) _ I₂) (fun f s₃ ⟨W₃, f', σ₃, le₃, e₃, rf, I₃⟩ => ?_) (fun v s' x => EPO.loop ok (fun c hc => by rw [← e₀, hc]; rfl) x)
    rw [e₃] at e₀
    have le := le₂.trans le₃
    have ex₃ : W₃.ex = (it, ob') :: W₀.ex := le.ex
    have W₃eq : W₃ = (Wd.mk W₃.mu W₃.fro W₀.ex W₃.P).plus it ob' := by
      obtain ⟨a, b, c, d⟩ := W₃
      dsimp only at ex₃ ⊢
      rw [ex₃]
    have le₃' : W.Le (Wd.mk W₃.mu W₃.fro W₀.ex W₃.P) := le₀.trans ⟨le.num, le.kp, rfl, le.P⟩
    have fin : ∀ f' fv, FRep W₃ f' fv → o = .ok f' σ₃ → Post X W o fv s₃ := fun f' fv r e => by
      obtain ⟨m₃, news₃, J₃⟩ := I₃
      rw [W₃eq] at J₃
      have D := J₃.dropEx (W := Wd.mk W₃.mu W₃.fro W₀.ex W₃.P) s₃.toks hW₀ (h' := s₃.heap) (fun b ob hb e => e)
      refine ⟨Wd.mk W₃.mu W₃.fro W₀.ex W₃.P, f', σ₃, le₃', e, ?_, m₃, _, D⟩
      cases r with
      | next => exact .next
      | brk => exact .brk
      | cont => exact .cont
      | ret r => exact .ret r.wx
    have again : forE T E F target body orelse (xs.drop (i + 1)) σ₃ = o → ∃ k', k' < xs.length + 1 - i ∧ ∃ W' σ' i' ob, W.Le W' ∧ Inv X (W'.plus it ob) σ' s₃ ∧ ItO i' ob ∧ forE T E F target body orelse (xs.drop i') σ' = o ∧ i' ≤ xs.length ∧ k' = xs.length + 1 - i' := fun e =>
      ⟨xs.length + 1 - (i + 1), by omega, Wd.mk W₃.mu W₃.fro W₀.ex W₃.P, σ₃, i + 1, ob', le₃', W₃eq ▸ I₃, hit', e, hlt, rfl⟩
    cases rf with
    | next => exact again e₀
    | cont => exact again e₀
    | brk => exact fin .next .next .next e₀.symm
    | ret r => exact fin _ _ (.ret r) e₀.symm
  · -- the end
    have hlen : xs.length ≤ i := List.getElem?_eq_none_iff.mp hx
    rw [List.drop_eq_nil_of_le hlen] at e₀
    have e₀ : E.ex F orelse σ₀ = o := e₀
    have D := J.dropEx (W := W₀) s.toks hW₀ hs
    have hb := S.ex W₀ σ₀ orelse (by rw [e₀]; exact hn) _ ⟨m, _, D⟩
    rw [e₀] at hb
    exact wpAny_mono hb (fun f s₂ ⟨W₂, f', σ₂, le₂, e₂, rf, I₂⟩ => ⟨W₂, f', σ₂, le₀.trans le₂, e₂, rf, I₂⟩) (fun v s' x => EPO.loop ok (fun c hc => hc) x)
end
end Rk
end
section
open PySem PySem.W PyProof.Rows PySem.Calls
set_option maxRecDepth 100000
namespace Rk
def isSetX : Expr → Bool
  | .Set .. => true
  | _ => false
theorem folded_of {e : Expr} (h : isSetX e = false) (env : Env) (x : Value) : foldedSetIterable e env x = pure x := by
  cases e <;> first | rfl | cases h
section
variable {G : Pg} {F : Fn} {X : Cx G F} {W : Wd} {σ : St} {T : Tb} {E : Ev}
def listIt (l : Addr) (i : Nat) (o : Obj) : Prop := o.cls = .type "list_iterator" ∧ o.data = .fields #[.ref l, .int i 0]
theorem forList_sat (S : Got X E) (ok : X.Ok) (hC : ∀ C c, T.clss.lookup C = some c → ClOk G C c) {target iter : Expr} {body orelse : List Stmt} {pos : Pos} (hi : isSetX iter = false) :
    Sat X W (exec (.For target iter body orelse pos) X.env) σ ((E.ev F iter σ).bind fun p σ => match p with
      | .v (.list xs) => forE T E F target body orelse xs σ
      | _ => .no) := by
  intro hn s I
  refine wpAny_For (wpAny_mono (S.ev W σ iter (bind_ok hn) s I) (fun v s₁ ⟨W₁, p, σ₁, le₁, e₁, r, I₁⟩ => ?_) (fun v s' ⟨c, e, q⟩ => ⟨c, by rw [e]; rfl, q⟩)) (folded_of hi X.env)
  generalize ho : (E.ev F iter σ).bind (fun p σ => match p with
      | .v (.list xs) => forE T E F target body orelse xs σ
      | _ => .no) = o at hn ⊢
  rw [e₁] at ho
  have hx : ∃ xs, p = .v (.list xs) ∧ forE T E F target body orelse xs σ₁ = o := by
    cases p with
    | v x => cases x with
      | list xs => exact ⟨xs, rfl, ho⟩
      | _ => exact (hn ho.symm).elim
    | _ => exact (hn ho.symm).elim
  obtain ⟨xs, rfl, ho⟩ := hx
  cases r with | v r => cases r with | @lst _ vs a n hm hr hz =>
  obtain ⟨m, news, J⟩ := I₁
  have hl := isList_of J (J.hr.fro _ hm)
  refine wpAny_pyIter_list hl ?_
  have F' := J.fr.push { cls := .type "list_iterator", data := .fields #[.ref a, .int 0 0] }
  have N' := J.nw.push J.fr { cls := .type "list_iterator", data := .fields #[.ref a, .int 0 0] }
  have A := J.addEx s₁.toks J.ne F' N'
  have Z := forLoop_sat (W := W₁) (ItO := listIt a) (xs := xs) S ok hC (fun i o h => .inl h.1) (fun i s o kp hg hit hlen Q E' hx he => ?_) (fun p hp => J.ne p (J.hr.exs p hp).1) ho hn ⟨rfl, rfl⟩ ⟨m, _, A⟩
  · refine codeAny_mono Z fun r s' z => ?_
    rcases r with e | f
    · exact came_mono (fun v s q => q) z
    · obtain ⟨W₂, f', σ₂, le₂, e₂, rf, I₂⟩ := z
      exact ⟨W₂, f', σ₂, le₁.trans le₂, e₂, rf, I₂⟩
  · have hlst : s.heap.IsList a vs.toArray := ⟨_, kp _ hm, rfl, n, rfl⟩
    have hiter : s.heap.IsListIter s₁.heap.objs.size a i := ⟨o, hg, hit.1, hit.2⟩
    cases e : xs[i]? with
    | some x =>
      obtain ⟨v, hv, rv⟩ := hr.get e
      refine wpAny_pyNext_list_item hiter hlst (by simpa using hv) fun h' hit' hs => ?_
      obtain ⟨o', ho', hc', hd'⟩ := hit'
      exact hx x e v h' o' s.toks rv ho' ⟨hc', hd'⟩ hs
    | none =>
      refine wpAny_pyNext_list_end ok.handled hiter hlst ?_ fun h' hs => he e h' hs
      rw [List.getElem?_eq_none_iff] at e
      rw [List.getElem?_toArray, List.getElem?_eq_none_iff, hr.length]; exact e
/-- the places of a range -/
def rangeL (a b c : Int) : List V := (List.range (Builtin.Range.rangeSize a b c).toNat).map fun (i : Nat) => .int (a + (i : Int) * c)
def rangeIt (a c : Int) (n : Nat) (i : Nat) (o : Obj) : Prop := o = { cls := .type "range_iterator", dict := none, data := .fields #[rawInt (a + (i : Int) * c), rawInt ((n : Int) - (i : Int)), rawInt c], slots := #[] }
theorem rangeSize_pos (a b c : Int) : 0 ≤ Builtin.Range.rangeSize a b c := by
  unfold Builtin.Range.rangeSize
  split <;> split <;> first | omega | (have := Int.ediv_nonneg (a := b - a - 1) (b := c) (by omega) (by omega); omega) | (have := Int.ediv_nonneg (a := a - b - 1) (b := -c) (by omega) (by omega); omega)
/-- a walk over a range -/
theorem forRange_sat (S : Got X E) (ok : X.Ok) (hC : ∀ C c, T.clss.lookup C = some c → ClOk G C c) {target : Expr} {body orelse : List Stmt} {a b c : Int} (hsm : Builtin.Range.small a b c = true) {r : Addr} {t u v : Tok} {s : Shared} (hr : IsRange s.heap r a b c t u v) (I : Inv X W σ s)
    {o : Out AFlow} (ho : forE T E F target body orelse (rangeL a b c) σ = o) (hn : o ≠ .no) :
    wpAny X.M X.A (pyIter (.ref r)) (fun it s₂ => codeAny X.M X.A (.forLoop target it body orelse X.env) (fun r s' => match r with | .ok f => Post X W o f s' | .error e => cameBackBy X.M X.A X.env (EPO X o) e s') s₂) (EPO X o) s := by
  obtain ⟨m, news, J⟩ := I
  refine wpAny_pyIter_range hr hsm ?_
  have pos := rangeSize_pos a b c
  have F' := J.fr.push { cls := .type "range_iterator", data := .fields #[rawInt a, rawInt (Builtin.Range.rangeSize a b c), rawInt c] }
  have N' := J.nw.push J.fr { cls := .type "range_iterator", data := .fields #[rawInt a, rawInt (Builtin.Range.rangeSize a b c), rawInt c] }
  have A := J.addEx s.toks J.ne F' N'
  have hlen : (rangeL a b c).length = (Builtin.Range.rangeSize a b c).toNat := by unfold rangeL; rw [List.length_map, List.length_range]
  have Z := forLoop_sat (W := W) (ItO := rangeIt a c (rangeL a b c).length) (xs := rangeL a b c) S ok hC (fun i o h => .inr (by rw [h])) (fun i s o kp hg hit hi Q E' hx he => ?_) (fun p hp => J.ne p (J.hr.exs p hp).1) ho hn
    (by unfold rangeIt; rw [hlen, Int.toNat_of_nonneg pos]; simp) ⟨m, _, A⟩
  · exact codeAny_mono Z fun r s' z => z
  · unfold rangeIt at hit
    subst hit
    by_cases hlt : i < (rangeL a b c).length
    · have hlt' : i < (Builtin.Range.rangeSize a b c).toNat := by rw [← hlen]; exact hlt
      have e : (rangeL a b c)[i]? = some (.int (a + (i : Int) * c)) := by
        unfold rangeL
        rw [List.getElem?_map, List.getElem?_range hlt']; rfl
      refine wpAny_pyNext_range_item hg (by omega) fun h' hit' hs => ?_
      refine hx _ e _ h' _ _ (.int _ _) hit' ?_ hs
      unfold rangeIt
      have e1 : a + ((i + 1 : Nat) : Int) * c = a + (i : Int) * c + c := by push_cast; rw [Int.add_mul, Int.one_mul, Int.add_assoc]
      have e2 : ((rangeL a b c).length : Int) - ((i + 1 : Nat) : Int) = ((rangeL a b c).length : Int) - (i : Int) - 1 := by push_cast; omega
      rw [e1, e2]
    · exact wpAny_pyNext_range_end ok.handled hg (by omega) fun h' hs => he (List.getElem?_eq_none_iff.mpr (by omega)) h' hs
end
end Rk
end
section
open PySem PySem.W PyProof.Rows PySem.Calls
set_option maxRecDepth 100000
namespace Rk
/-- what is added to the reckoning -/
structure Ext where
  bi : String → List PV → St → Out PV
  ty : String → List PV → St → Out PV
  ex : Ev → Fn → Expr → St → Out PV
  st : Ev → Fn → Stmt → St → Out AFlow
def applyE (T : Tb) (Z : Ext) (E : Ev) (f : PV) (args : List PV) (σ : St) : Out PV := match f with
  | .cst (.ref a) => (match T.fns.lookup a with
    | some _ => E.fn a args σ
    | none => (match T.clss.lookup a with
      | some c => clsE E a c args σ
      | none => .no))
  | .cst (.builtin id) => Z.bi id args σ
  | .cst (.type t) => Z.ty t args σ
  | _ => .no
def knownF (T : Tb) : Value → Bool
  | .ref a => (T.fns.lookup a).isSome || (T.clss.lookup a).isSome
  | .builtin _ => true
  | .type _ => true
  | _ => false
def applyC (Z : Ext) (E : Ev) (c : Cal) (args : List PV) (σ : St) : Out PV := match c with
  | .fn a self => E.fn a (self :: args) σ
  | .bi id self => Z.bi id (self :: args) σ
  | .cm a C => E.fn a (.cst (.ref C) :: args) σ
def callE (T : Tb) (Z : Ext) (E : Ev) (F : Fn) (func : Expr) (args : List Expr) (pos : Pos) (σ : St) : Out PV := match anyStar args with
  | true => .no
  | false => match func with
    | .Name x _ => (nameE T F x σ).bind fun f σ => (match f with
      | .cst v => (match knownF T v with
        | true => (evs E F args σ).bind fun as σ => applyE T Z E (.cst v) as σ
        | false => .no)
      | _ => .no)
    | .Attribute o name apos => (match plainBase o && (apos.endLine == pos.line) && Nat.blt args.length 30 with
      | true => (E.ev F o σ).bind fun p σ => (match resE T name p σ.H with
        | some c => (evs E F args σ).bind fun as σ => applyC Z E c as σ
        | none => .no)
      | false => .no)
    | _ => .no
end Rk
end
section
open PySem PySem.W PyProof.Rows PySem.Calls
set_option maxRecDepth 100000
namespace Rk
section
variable {G : Pg} {F : Fn} {X : Cx G F} {W : Wd} {σ : St} {T : Tb} {E : Ev} {Z : Ext}
/-- what holds of the program's tables -/
structure AllOk (G : Pg) (T : Tb) (B : Xb) : Prop where
  tb : TbOk G T
  pat : PatOk G T
  cls : ∀ C c, T.clss.lookup C = some c → ClOk G C c
  fns : ∀ a f, T.fns.lookup a = some f → FnOk G a f
  xb : XbOk G T B
/-- what is added is sound -/
structure ExtOk (G : Pg) (T : Tb) (Z : Ext) : Prop where
  bi : ∀ {F : Fn} (X : Cx G F), X.Ok → ∀ W σ id ps vs, Reps W ps vs → Sat X W (call (.builtin id) vs []) σ (Z.bi id ps σ)
  ty : ∀ {F : Fn} (X : Cx G F), X.Ok → ∀ W σ t ps vs, Reps W ps vs → Sat X W (call (.type t) vs []) σ (Z.ty t ps σ)
  ex : ∀ {F : Fn} (X : Cx G F), X.Ok → ∀ E, Got X E → FnSat X E → ∀ W σ e, Sat X W (eval e X.env) σ (Z.ex E F e σ)
  st : ∀ {F : Fn} (X : Cx G F), X.Ok → ∀ E, Got X E → FnSat X E → ∀ W σ st, Sat X W (exec st X.env) σ (Z.st E F st σ)
variable {B : Xb}
theorem fn_keep (O : AllOk G T B) {a : Addr} {f : FnI} (h : T.fns.lookup a = some f) : keepIn X.K (.ref a) = true := by
  obtain ⟨name, params, dV, kV, doc, pm, ct, oc, an, od, osl, ho, _⟩ := (O.fns a f h).obj X.w.params
  unfold keepIn
  show (match X.K.lookup a with | some ⟨_, _, .func _, _⟩ => true | some ⟨_, _, .cls _, _⟩ => _ | _ => false) = true
  rw [show X.K.lookup a = _ from ho]
theorem applyE_sat (O : AllOk G T B) (K : ExtOk G T Z) (ok : X.Ok) (hf : FnSat X E) {v : Value} {ps : List PV} {vs : List Value} (r : Reps W ps vs) : Sat X W (call v vs []) σ (applyE T Z E (.cst v) ps σ) := by
  intro hn
  unfold applyE at hn ⊢
  split at hn
  · rename_i a e
    cases e
    split at hn
    · exact SatC.sat (hf (near_self ok) W σ _ ps vs r) hn
    · split at hn
      · rename_i c hc
        exact clsE_sat ok hf (O.cls _ _ hc) r hn
      · exact (hn rfl).elim
  · rename_i id e
    cases e
    exact K.bi X ok W σ _ ps vs r hn
  · rename_i t e
    cases e
    exact K.ty X ok W σ _ ps vs r hn
  · exact (hn rfl).elim
theorem known_keeps (O : AllOk G T B) {v : Value} (h : knownF T v = true) : Keeps X W v := by
  unfold knownF at h
  split at h
  · rename_i a
    cases hf : T.fns.lookup a with
    | some f => exact keeps_in (fn_keep O hf)
    | none =>
      rw [hf] at h
      cases hc : T.clss.lookup a with
      | none => rw [hc] at h; cases h
      | some c => exact keeps_in ((O.cls _ _ hc).make X.w.params).2.2.2
  · exact keeps_builtin _
  · exact keeps_type _
  · cases h
theorem callName_sat (S : Got X E) (O : AllOk G T B) (K : ExtOk G T Z) (ok : X.Ok) (hf : FnSat X E) {x : Str} {np pos : Pos} {args : List Expr} (hs : anyStar args = false) :
    Sat X W (eval (.Call (.Name x np) args [] pos) X.env) σ ((nameE T F x σ).bind fun f σ => (match f with
      | .cst v => (match knownF T v with
        | true => (evs E F args σ).bind fun as σ => applyE T Z E (.cst v) as σ
        | false => .no)
      | _ => .no)) := by
  rw [call_arm (func := .Name x np) rfl]
  refine Sat.bindV (nameE_sat (pos := np) ok O.tb) fun W₁ p a σ₁ le₁ r _ => ?_
  cases r with
  | cst _ =>
    dsimp only
    cases hk : knownF T a with
    | false => exact Sat.no
    | true => exact callWith_sat (first := []) S ok hs (known_keeps O hk) fun W' as vs σ' le rs => applyE_sat O K ok hf rs
  | _ => exact Sat.no
theorem applyC_sat (K : ExtOk G T Z) (ok : X.Ok) (hf : FnSat X E) {c : Cal} {fx : Value × List Value} {W₁ : Wd} (h : CRep X W₁ c fx) (le : W₁.Le W) {ps : List PV} {vs : List Value} (r : Reps W ps vs) : Sat X W (call fx.1 (fx.2 ++ vs) []) σ (applyC Z E c ps σ) := by
  cases h with
  | fn h k => exact SatC.sat (hf (near_self ok) W σ _ _ _ (.cons (h.up le) r))
  | bi h => exact K.bi X ok W σ _ _ _ (.cons (h.up le) r)
  | cm h k =>
    intro hn s I
    obtain ⟨m, news, J⟩ := I
    refine call_meth J.nw (J.hr.fro _ (le.kp _ h)) (codeAny_mono (hf (near_self ok) W σ _ _ _ (.cons (.cst _) r) hn s m news J) fun rr s' z => ?_)
    rcases rr with e | (_ | _ | _ | v)
    · exact z
    · exact z.elim
    · exact z.elim
    · exact z.elim
    · exact PostM.post z
theorem crep_keeps {c : Cal} {fx : Value × List Value} (h : CRep X W c fx) : Keeps X W fx.1 := by
  cases h with
  | fn h k => exact keeps_in k
  | bi h => exact keeps_builtin _
  | cm h k => exact fun hh x => keeps_M k hh ⟨x.2 _ h, x.1⟩
theorem callMeth_sat (S : Got X E) (O : AllOk G T B) (K : ExtOk G T Z) (ok : X.Ok) (hf : FnSat X E) {o : Expr} {name : Str} {apos pos : Pos} {args : List Expr} (hs : anyStar args = false) (hb : plainBase o = true) (hl : (apos.endLine == pos.line) = true) (hlen : args.length < 30) :
    Sat X W (eval (.Call (.Attribute o name apos) args [] pos) X.env) σ ((E.ev F o σ).bind fun p σ => (match resE T name p σ.H with
      | some c => (evs E F args σ).bind fun as σ => applyC Z E c as σ
      | none => .no)) := by
  rw [meth_arm hb hl hs hlen]
  refine Sat.bindV (S.ev W σ o) fun W₁ p v σ₁ le₁ r _ => Sat.standAt ?_
  cases e : resE T name p σ₁.H with
  | none => exact Sat.no
  | some c =>
    intro hn s I
    refine wpAny_bind (wpAny_holding (resE_sat ok O.pat O.cls r e I fun fx s' W₂ le₂ cr I₂ => ?_))
    have Z' := callWith_sat (W := W₂) (σ := σ₁) (pos := pos) (first := fx.2) (g := fun as σ => applyC Z E c as σ) S ok hs (crep_keeps cr) (fun W' as vs σ' le rs => applyC_sat K ok hf cr le rs)
    exact wpAny_mono (Z' hn s' I₂) (fun a s'' ⟨W₃, b, σ₃, le₃, e₃, rr, I₃⟩ => ⟨W₃, b, σ₃, le₂.trans le₃, e₃, rr, I₃⟩) fun _ _ x => x
theorem callE_sat (S : Got X E) (O : AllOk G T B) (K : ExtOk G T Z) (ok : X.Ok) (hf : FnSat X E) {func : Expr} {args : List Expr} {pos : Pos} : Sat X W (eval (.Call func args [] pos) X.env) σ (callE T Z E F func args pos σ) := by
  intro hn
  unfold callE at hn ⊢
  split at hn
  · exact (hn rfl).elim
  · rename_i hs
    split at hn
    · exact callName_sat S O K ok hf hs hn
    · split at hn
      · rename_i hc
        rw [Bool.and_eq_true, Bool.and_eq_true] at hc
        exact callMeth_sat S O K ok hf hs hc.1.1 hc.1.2 ((Nat.blt_eq).mp hc.2) hn
      · exact (hn rfl).elim
    · exact (hn rfl).elim
end
end Rk
end
section
open PySem PySem.W PyProof.Rows PySem.Calls
set_option maxRecDepth 100000
namespace Rk
def isGen : Expr → Bool
  | .GeneratorExp .. => true
  | _ => false
def evS (T : Tb) (Z : Ext) (E : Ev) (F : Fn) (e : Expr) (σ : St) : Out PV := match e with
  | .Constant c _ _ => constE c σ
  | .Name x _ => nameE T F x σ
  | .BinOp l op r _ => (E.ev F l σ).bind fun a σ => (E.ev F r σ).bind fun b σ => vO (binE op a b σ.H) σ
  | .UnaryOp .USub x _ => (E.ev F x σ).bind usubE
  | .UnaryOp .Not x _ => (E.ev F x σ).bind fun p σ => bO ((truE σ.H p).map (!·)) σ
  | .IfExp t b o _ => (E.tr F t σ).bind fun c σ => match c with
    | true => E.ev F b σ
    | false => E.ev F o σ
  | .BoolOp op vs _ => boolE E F op vs σ
  | .Compare l [op] [r] _ => (match behindInMarks op r with
    | true => .no
    | false => (E.ev F l σ).bind fun a σ => (E.ev F r σ).bind fun b σ => bO (cmpE T op a b σ.H) σ)
  | .List es _ => (evs E F es σ).bind fun ps σ => listE F.mt ps σ
  | .Tuple es _ _ => (evs E F es σ).bind fun ps σ => tupE ps σ
  | .Subscript v s _ => (match isSlice s with
    | true => Z.ex E F e σ
    | false => (E.ev F v σ).bind fun a σ => (E.ev F s σ).bind fun b σ => okO (subE a b σ.H) σ)
  | .Call f args [] pos => (match args.any isGen with
    | true => Z.ex E F e σ
    | false => callE T Z E F f args pos σ)
  | .Attribute o name _ => (match plainBase o with
    | true => (E.ev F o σ).bind fun p σ => attrE T E name p σ
    | false => .no)
  | _ => Z.ex E F e σ
def trS (T : Tb) (E : Ev) (F : Fn) (e : Expr) (σ : St) : Out Bool := match e with
  | .UnaryOp .Not x _ => (E.tr F x σ).bind fun b σ => .ok (!b) σ
  | .BoolOp op vs _ => allTrE E F op vs σ
  | .IfExp t b o _ => (E.tr F t σ).bind fun c σ => match c with
    | true => E.tr F b σ
    | false => E.tr F o σ
  | .Compare l [op] [r] _ => (match behindInMarks op r with
    | true => .no
    | false => (E.ev F l σ).bind fun a σ => (E.ev F r σ).bind fun b σ => okO (cmpE T op a b σ.H) σ)
  | .Compare .. => .no
  | e => (E.ev F e σ).bind fun p σ => okO (truE σ.H p) σ
def rangeOf : List PV → Option (Int × Int × Int)
  | [.v (.int a), .v (.int b), .v (.int c)] => (match c == 0 || !(Builtin.Range.small a b c) || !(decide (c.natAbs < 1073741824)) with
    | true => none
    | false => some (a, b, c))
  | _ => none
def isRange (T : Tb) (F : Fn) : Expr → Bool
  | .Call (.Name x _) _ [] _ => x == ("range" : Str) && !(x == ("__debug__" : Str)) && F.scope.names.lookup x == some .globalImplicit && (T.globs.lookup x).isNone && T.bis.lookup x == some (.type "range")
  | _ => false
def callArgs : Expr → List Expr
  | .Call _ args _ _ => args
  | _ => []
def forS (T : Tb) (E : Ev) (F : Fn) (target iter : Expr) (body orelse : List Stmt) (σ : St) : Out AFlow := match isRange T F iter with
  | true => (match anyStar (callArgs iter) with
    | true => .no
    | false => (evs E F (callArgs iter) σ).bind fun ps σ => (match rangeOf ps with
      | some (a, b, c) => forE T E F target body orelse (rangeL a b c) σ
      | none => .no))
  | false => (match isSetX iter with
    | true => .no
    | false => (E.ev F iter σ).bind fun p σ => match p with
      | .v (.list xs) => forE T E F target body orelse xs σ
      | _ => .no)
def stS (T : Tb) (Z : Ext) (B : Xb) (E : Ev) (F : Fn) (st : Stmt) (σ : St) : Out AFlow := match st with
  | .While test body orelse _ => whileE E F test body orelse T.N σ
  | .For target iter body orelse _ => forS T E F target iter body orelse σ
  | .Raise .. => (match F.prot.isEmpty with
    | true => raiseE B E F st σ
    | false => .no)
  | .Try .. => Z.st E F st σ
  | _ => simpE T E F st σ
def blkS (T : Tb) (Z : Ext) (B : Xb) (E : Ev) (F : Fn) : List Stmt → St → Out AFlow
  | [], σ => .ok .next σ
  | st :: r, σ => (stS T Z B E F st σ).bind fun f σ => match f with
    | .next => blkS T Z B E F r σ
    | f => .ok f σ
def step (T : Tb) (Z : Ext) (B : Xb) (E : Ev) : Ev := ⟨evS T Z E, trS T E, blkS T Z B E, fnE T E⟩
def run (T : Tb) (Z : Ext) (B : Xb) : Nat → Ev
  | 0 => ⟨fun _ _ _ => .no, fun _ _ _ => .no, fun _ _ _ => .no, fun _ _ _ => .no⟩
  | n + 1 => step T Z B (run T Z B n)
end Rk
end
section
open PySem PySem.W PyProof.Rows PySem.Calls
set_option maxRecDepth 100000
namespace Rk
section
variable {G : Pg} {F : Fn} {X : Cx G F} {W : Wd} {σ : St} {T : Tb} {E : Ev} {Z : Ext} {B : Xb}
theorem attr_sat (S : Got X E) (O : AllOk G T B) (ok : X.Ok) (hf : FnSat X E) {o : Expr} {name : Str} {pos : Pos} (hb : plainBase o = true) : Sat X W (eval (.Attribute o name pos) X.env) σ ((E.ev F o σ).bind fun p σ => attrE T E name p σ) := by
  rw [arm_eval_Attribute, attrBase hb]
  refine Sat.bindV (S.ev W σ o) fun W₁ p v σ₁ le₁ r _ => Sat.standAt ?_
  have h := Sat.holding (vs := [v]) (attrE_sat (σ := σ₁) (name := name) (expr := true) ok O.cls hf r)
  intro hn s I
  exact wpAny_bind (wpAny_mono (h hn s I) (fun a s' q => wpAny_bind (wpAny_letTemporaryGo (wpAny_pure q))) fun _ _ q => q)
theorem not_sat (S : Got X E) {x : Expr} {pos : Pos} : Sat X W (eval (.UnaryOp .Not x pos) X.env) σ ((E.ev F x σ).bind fun p σ => bO ((truE σ.H p).map (!·)) σ) := by
  rw [arm_eval_UnaryOp]
  refine Sat.bindV (S.ev W σ x) fun W₁ p v σ₁ le₁ r _ => Sat.standAt (Sat.holding ?_)
  intro hn s I
  cases e : truE σ₁.H p with
  | none => rw [e] at hn; exact (hn rfl).elim
  | some b =>
    have h := truE_sat (X := X) (σ := σ₁) r
    rw [e] at h
    refine not_value (wpAny_mono (h (by intro h; cases h) s I) (fun c s' ⟨W', b', σ', le, eq, rc, I'⟩ => ?_) fun v s' ⟨c, eq, _⟩ => by cases eq)
    cases eq
    have rc : b = c := rc
    subst rc
    exact ⟨W', _, _, le, rfl, .v (.bool _), I'⟩
theorem evS_sat (S : Got X E) (O : AllOk G T B) (K : ExtOk G T Z) (ok : X.Ok) (hf : FnSat X E) (e : Expr) : Sat X W (eval e X.env) σ (evS T Z E F e σ) := by
  intro hn
  unfold evS at hn ⊢
  split at hn
  · exact constE_sat hn
  · exact nameE_sat ok O.tb hn
  · exact binop_sat S hn
  · exact unop_sat S hn
  · exact not_sat S hn
  · exact ifexp_sat S hn
  · rw [arm_eval_BoolOp]; exact boolE_sat S _ _ _ hn
  · split at hn
    · exact (hn rfl).elim
    · rename_i hm
      exact cmp_sat S ok O.tb hm hn
  · exact list_sat S hn
  · exact tup_sat S hn
  · split at hn
    · exact K.ex X ok E S hf W σ _ hn
    · rename_i hs
      exact sub_sat S hs hn
  · split at hn
    · exact K.ex X ok E S hf W σ _ hn
    · exact callE_sat S O K ok hf hn
  · split at hn
    · rename_i hb
      exact attr_sat S O ok hf hb hn
    · exact (hn rfl).elim
  · exact K.ex X ok E S hf W σ _ hn
theorem true_other (S : Got X E) {e : Expr} (he : isTrue e X.env (eval e X.env) = (do let v ← eval e X.env; standAt e.pos; holding [v] (truthy v))) : Sat X W (isTrue e X.env (eval e X.env)) σ ((E.ev F e σ).bind fun p σ => okO (truE σ.H p) σ) := by
  rw [he]
  exact Sat.bindV (S.ev W σ e) fun W₁ p v σ₁ le₁ r _ => Sat.standAt (Sat.holding (truE_sat r))
theorem trS_sat (S : Got X E) (O : AllOk G T B) (ok : X.Ok) (e : Expr) : Sat X W (isTrue e X.env (eval e X.env)) σ (trS T E F e σ) := by
  intro hn
  unfold trS at hn ⊢
  split at hn
  · rw [arm_isTrue_UnaryOp]
    refine Sat.bind (S.tr W σ _) (fun W₁ b b' σ₁ le₁ rb _ => ?_) hn
    have rb : b = b' := rb
    subst rb
    exact Sat.pure (α := Bool) (β := Bool) (show (!b) = (!b) from rfl)
  · rw [arm_isTrue_BoolOp]; exact allTrE_sat S _ _ _ hn
  · rw [arm_isTrue_IfExp]
    refine Sat.bind (S.tr W σ _) (fun W₁ c c' σ₁ le rc _ => ?_) hn
    have rc : c = c' := rc
    subst rc
    cases c
    · exact S.tr W₁ σ₁ _
    · exact S.tr W₁ σ₁ _
  · split at hn
    · exact (hn rfl).elim
    · rename_i hm
      exact tcmp_sat S ok O.tb hm hn
  · exact (hn rfl).elim
  · rename_i h1 h2 h3 h4 h5
    refine true_other S ?_ hn
    cases e with
    | UnaryOp op x p => cases op <;> first | rfl | exact absurd rfl (h1 _ _)
    | BoolOp op v p => exact absurd rfl (h2 _ _ _)
    | IfExp t b o p => exact absurd rfl (h3 _ _ _ _)
    | Compare l ops rs p => exact absurd rfl (h5 _ _ _ _)
    | _ => rfl
end
end Rk
end
section
open PySem PySem.W PyProof.Rows PySem.Calls
set_option maxRecDepth 100000
namespace Rk
section
variable {G : Pg} {F : Fn} {X : Cx G F} {W : Wd} {σ : St} {T : Tb} {E : Ev} {Z : Ext} {B : Xb}
theorem rangeOf_reps {ps : List PV} {vs : List Value} {a b c : Int} (r : Reps W ps vs) (e : rangeOf ps = some (a, b, c)) : ∃ t u v, vs = [.int a t, .int b u, .int c v] ∧ c ≠ 0 ∧ Builtin.Range.small a b c = true ∧ c.natAbs < 1073741824 := by
  unfold rangeOf at e
  split at e
  · rename_i a' b' c'
    split at e
    · cases e
    · rename_i hc
      cases e
      simp only [Bool.or_eq_false_iff, Bool.not_eq_false', decide_eq_true_eq] at hc
      cases r with | cons ra r => cases r with | cons rb r => cases r with | cons rc r => cases r with | nil =>
      cases ra with | v ra => cases ra with | int _ t =>
      cases rb with | v rb => cases rb with | int _ u =>
      cases rc with | v rc => cases rc with | int _ v =>
      exact ⟨t, u, v, rfl, by have := hc.1.1; simpa using this, hc.1.2, hc.2⟩
  · cases e
theorem forRangeStmt_sat (S : Got X E) (O : AllOk G T B) (ok : X.Ok) {target : Expr} {body orelse : List Stmt} {x : Str} {np cpos pos : Pos} {args : List Expr} (hr : isRange T F (.Call (.Name x np) args [] cpos) = true) (hs : anyStar args = false) :
    Sat X W (exec (.For target (.Call (.Name x np) args [] cpos) body orelse pos) X.env) σ ((evs E F args σ).bind fun ps σ => (match rangeOf ps with
      | some (a, b, c) => forE T E F target body orelse (rangeL a b c) σ
      | none => .no)) := by
  unfold isRange at hr
  simp only [Bool.and_eq_true, Bool.not_eq_true', beq_iff_eq] at hr
  obtain ⟨⟨⟨⟨hx, hd⟩, hk⟩, hg⟩, hb⟩ := hr
  have hd : (x == ("__debug__" : Str)) = false := hd
  obtain ⟨b1, b2, b3⟩ := O.tb.bis X.w.params _ _ hb
  intro hn s I
  obtain ⟨m, news, J⟩ := id I
  generalize ho : (evs E F args σ).bind (fun ps σ => (match rangeOf ps with
      | some (a, b, c) => forE T E F target body orelse (rangeL a b c) σ
      | none => .no)) = o at hn ⊢
  refine wpAny_For ?_ (folded_of rfl X.env)
  rw [call_arm (func := .Name x np) rfl]
  refine wpAny_bind (nameX_B (cl := []) J.fr ok.kin (topRead_of ok.top) b1 b2 b3 ?_ ok.kind hk hd)
  have hp : ((backTo cpos (starEach args X.env)).any (·.1) || ([] : List (Option Str × Sem Value)).any (·.1.isNone)) = false := by rw [star_plain hs]; rfl
  refine callWith_of (P := fun h => X.K.In h ∧ ∀ p ∈ W.fro, h.get? p.1 = some p.2) (keywords := []) hp (keeps_type (X := X) (W := W) _) ?_
  have hn0 : evs E F args σ ≠ .no := fun h => hn (by rw [← ho, h]; rfl)
  have sp := evs_sat S (pos := cpos) args W σ hn0 s I
  have fin : ∀ vs s', Post X W (evs E F args σ) vs s' → (X.K.In s'.heap ∧ ∀ p ∈ W.fro, s'.heap.get? p.1 = some p.2) ∧ wpAny X.M X.A (call (.type "range") ([] ++ vs) []) (fun v s₁ => wpAny X.M X.A (pyIter v) (fun it s₂ => codeAny X.M X.A (.forLoop target it body orelse X.env) (fun r s' => match r with | .ok f => Post X W o f s' | .error e => cameBackBy X.M X.A X.env (EPO X o) e s') s₂) (EPO X o) s₁) (EPO X o) s' := fun vs s' ⟨W', ps, σ', le, e, rs, J⟩ => by
    obtain ⟨m', news', J'⟩ := id J
    refine ⟨⟨J'.k ok, fun p hp => J'.kept p (le.kp p hp)⟩, ?_⟩
    rw [e] at ho
    cases hro : rangeOf ps with
    | none =>
      have ho : (match rangeOf ps with
        | some (a, b, c) => forE T E F target body orelse (rangeL a b c) σ'
        | none => .no) = o := ho
      rw [hro] at ho
      exact (hn ho.symm).elim
    | some abc =>
      obtain ⟨a, b, c⟩ := abc
      have ho : (match rangeOf ps with
        | some (a, b, c) => forE T E F target body orelse (rangeL a b c) σ'
        | none => .no) = o := ho
      rw [hro] at ho
      obtain ⟨t, u, v, rfl, hc, hsm, hc'⟩ := rangeOf_reps rs hro
      refine call_range_3 hc ?_ (.inl (PyProof.noPylong_small hc'))
      have I' : Inv X W' σ' { s' with heap := s'.heap.push { cls := .type "range", data := .fields #[.int a t, .int b u, .int c v] }, toks := s'.toks } := J.kept fun b o e => Heap.get?_push_of_some _ e
      refine wpAny_mono (forRange_sat S ok O.cls hsm (Heap.get?_push_size _ rfl) I' ho hn) (fun it s₂ z => ?_) fun _ _ z => z
      refine codeAny_mono z fun r s' z => ?_
      rcases r with e | f
      · exact z
      · obtain ⟨W₂, f', σ₂, le₂, e₂, rf, I₂⟩ := z
        exact ⟨W₂, f', σ₂, le.trans le₂, e₂, rf, I₂⟩
  have bad : ∀ v s', EPO X (evs E F args σ) v s' → EPO X o v s' := fun v s' ⟨c, e, q⟩ => ⟨c, by rw [← ho, e]; rfl, q⟩
  cases args with
  | nil => exact evalArgs_nil3 (fin [] s ⟨W, [], σ, .refl, rfl, .nil, I⟩)
  | cons e r =>
    unfold anyStar at hs
    rw [List.any_cons, Bool.or_eq_false_iff] at hs
    rw [star_none hs.1] at sp ⊢
    exact evalArgs_plain (wpAny_mono sp (fun vs s' q => fin vs s' q) bad)
theorem forS_sat (S : Got X E) (O : AllOk G T B) (ok : X.Ok) {target iter : Expr} {body orelse : List Stmt} {pos : Pos} : Sat X W (exec (.For target iter body orelse pos) X.env) σ (forS T E F target iter body orelse σ) := by
  intro hn
  unfold forS at hn ⊢
  split at hn
  · rename_i hr
    split at hn
    · exact (hn rfl).elim
    · rename_i hs
      have hr' := hr
      unfold isRange at hr'
      split at hr'
      · exact forRangeStmt_sat S O ok hr hs hn
      · cases hr'
  · split at hn
    · exact (hn rfl).elim
    · rename_i hi
      exact forList_sat S ok O.cls hi hn
theorem stS_sat (S : Got X E) (O : AllOk G T B) (K : ExtOk G T Z) (ok : X.Ok) (hf : FnSat X E) {st : Stmt} : Sat X W (exec st X.env) σ (stS T Z B E F st σ) := by
  intro hn
  unfold stS at hn ⊢
  split at hn
  · exact while_sat S ok _ hn
  · exact forS_sat S O ok hn
  · split at hn
    · rename_i hpr
      exact raiseE_sat S ok hpr O.tb O.xb hn
    · exact (hn rfl).elim
  · exact K.st X ok E S hf W σ _ hn
  · exact simpE_sat S ok O.cls hn
theorem blkS_sat (S : Got X E) (O : AllOk G T B) (K : ExtOk G T Z) (ok : X.Ok) (hf : FnSat X E) : ∀ (b : List Stmt) (W : Wd) (σ : St), Sat X W (execs b X.env) σ (blkS T Z B E F b σ)
  | [], W, σ => Sat.pure (α := Flow) (β := AFlow) (show FRep W .next .next from .next)
  | st :: r, W, σ => by
    rw [execs_cons]
    unfold blkS
    refine Sat.bind (stS_sat S O K ok hf) fun W₁ f f' σ₁ le rf _ => ?_
    cases rf with
    | next => exact blkS_sat S O K ok hf r W₁ σ₁
    | brk => exact Sat.pure (α := Flow) (β := AFlow) (show FRep W₁ .brk .brk from .brk)
    | cont => exact Sat.pure (α := Flow) (β := AFlow) (show FRep W₁ .cont .cont from .cont)
    | ret h => exact Sat.pure (α := Flow) (β := AFlow) (show FRep W₁ (.ret _) (.ret _) from .ret h)
/-- THE RECKONING IS SOUND -/
theorem run_got (O : AllOk G T B) (K : ExtOk G T Z) : ∀ (n : Nat) {F : Fn} (X : Cx G F), X.Ok → n ≤ X.dep → Got X (run T Z B n) ∧ FnSat X (run T Z B n)
  | 0, F, X, ok, _ => ⟨⟨fun _ _ _ => Sat.no, fun _ _ _ => Sat.no, fun _ _ _ => Sat.no⟩, fun _ _ _ _ _ _ _ h => (h rfl).elim⟩
  | n + 1, F, X, ok, hd => by
    obtain ⟨S, hf⟩ := run_got O K n X ok (by omega)
    refine ⟨⟨fun W σ e => evS_sat S O K ok hf e, fun W σ e => trS_sat S O ok e, fun W σ b => blkS_sat S O K ok hf b W σ⟩, fun nr W σ a args vs r => ?_⟩
    exact fn_sat (E := run T Z B n) ok O.fns (by omega) (fun Y okY hY W σ b => (run_got O K n Y okY (by omega)).1.ex W σ b) nr r
end
end Rk
end
section
open PySem PySem.W PyProof.Rows PySem.Calls
set_option maxRecDepth 100000
namespace Rk
section
variable {G : Pg} {F : Fn} {X : Cx G F} {W : Wd} {σ : St}
theorem int_of {n k : Nat} (h : n = k) : (Value.int (n : Int) : Tok → Value) = Value.int (k : Int) := by rw [h]
theorem lenE_sat {p : PV} {v : Value} (r : Rep W p v) : Sat X W (call (.builtin "len") [v] []) σ (vO (lenE p σ.H) σ) := by
  intro hn
  cases e : lenE p σ.H with
  | none => rw [e] at hn; exact (hn rfl).elim
  | some x =>
    refine Sat.pr rfl (fun s m news I Q h => ?_) (by intro h; cases h)
    unfold lenE at e
    split at e
    · cases e
      cases r with | v r => cases r with | @lst _ vs a n hm hr hz =>
      refine call_len_list (isList_of I (I.hr.fro _ hm)) (by have := line63; rw [List.size_toArray]; omega) (h _ _ ?_)
      rw [List.size_toArray, hr.length]; exact .v (.int _ _)
    · cases e
      cases r with | v r => cases r with | @tup _ vs a hm hr hz =>
      refine len_tuple (isTup_of I (I.hr.fro _ hm)) (by have := line63; rw [List.size_toArray]; omega) (h _ _ ?_)
      rw [List.size_toArray, hr.length]; exact .v (.int _ _)
    · cases e
      cases r with | v r => cases r with | str t hs hz =>
      exact P.len_str (by have := line63; omega) (h _ _ (.v (.int _ _)))
    · cases r with | ref ha =>
      split at e
      · rename_i xs hi
        cases e
        obtain ⟨o, ho, vs, n, rfl, hv, hz⟩ := I.at_ hi rfl ha
        refine call_len_list (isList_of I ho) (by have := line63; rw [List.size_toArray]; omega) (h _ _ ?_)
        rw [List.size_toArray, hv.length]; exact .v (.int _ _)
      · rename_i xs hi
        cases e
        obtain ⟨o, ho, vs, n, rfl, hv, hz⟩ := I.at_ hi rfl ha
        refine call_len_list (isList_of I ho) (by have := line63; rw [List.size_toArray]; omega) (h _ _ ?_)
        rw [List.size_toArray, hv.length]; exact .v (.int _ _)
      · cases e
    · cases e
/-- the built-ins, the first part -/
def bi1 (id : String) (ps : List PV) (σ : St) : Out PV :=
  if id = "list.append" then (match ps with
    | [.ref i, q] => appendE i q σ
    | _ => .no)
  else if id = "list.pop" then (match ps with
    | [.ref i] => popE i σ
    | _ => .no)
  else if id = "set.add" then (match ps with
    | [.ref i, .v (.str x)] => addE i x σ
    | _ => .no)
  else if id = "len" then (match ps with
    | [p] => vO (lenE p σ.H) σ
    | _ => .no)
  else .no
theorem bi1_sat (id : String) {ps : List PV} {vs : List Value} (r : Reps W ps vs) : Sat X W (call (.builtin id) vs []) σ (bi1 id ps σ) := by
  intro hn
  unfold bi1 at hn ⊢
  split at hn
  · rename_i h; subst h
    split at hn
    · cases r with | cons r1 r => cases r with | cons r2 r => cases r with | nil => cases r1 with | ref ha =>
      exact appendE_sat (p := .any) ha r2 hn
    · exact (hn rfl).elim
  · split at hn
    · rename_i h; subst h
      split at hn
      · cases r with | cons r1 r => cases r with | nil => cases r1 with | ref ha =>
        exact popE_sat ha hn
      · exact (hn rfl).elim
    · split at hn
      · rename_i h; subst h
        split at hn
        · cases r with | cons r1 r => cases r with | cons r2 r => cases r with | nil => cases r1 with | ref ha => cases r2 with | v r2 => cases r2 with | str t hs hz =>
          exact addE_sat ha hn
        · exact (hn rfl).elim
      · split at hn
        · rename_i h; subst h
          split at hn
          · cases r with | cons r1 r => cases r with | nil =>
            exact lenE_sat r1 hn
          · exact (hn rfl).elim
        · exact (hn rfl).elim
end
end Rk
end
section
open PySem PySem.W PyProof.Rows PySem.Calls
set_option maxRecDepth 100000
namespace Rk
def optE (E : Ev) (F : Fn) : Option Expr → St → Out PV
  | none, σ => .ok (.v .none) σ
  | some e, σ => E.ev F e σ
def partOf : PV → Option (Option Int)
  | .v .none => some none
  | .v (.int i) => some (some i)
  | _ => none
def pickV (xs : List V) (lo hi : Option Int) : List V := (xs.drop (kms_lo lo xs.length)).take (kms_hi hi xs.length - kms_lo lo xs.length)
def sliceR (p l u : PV) (σ : St) : Out PV := match p, partOf l, partOf u with
  | .v (.list xs), some a, some b => .ok (.v (.list (pickV xs a b))) σ
  | _, _, _ => .no
def revR (p k : PV) (σ : St) : Out PV := match p, k with
  | .ref i, .v (.int k) => (match k == -1, σ.H[i]? with
    | true, some (.vlist xs) => .ok (.ref σ.H.length) ⟨σ.loc, σ.H ++ [.vrev xs]⟩
    | _, _ => .no)
  | _, _ => .no
/-- a piece of a list that a name stands for -/
def sliceE (E : Ev) (F : Fn) (e : Expr) (σ : St) : Out PV := match e with
  | .Subscript (.Name x px) (.Slice lo hi none _) _ => (E.ev F (.Name x px) σ).bind fun p σ => (optE E F lo σ).bind fun l σ => (optE E F hi σ).bind fun u σ => sliceR p l u σ
  | .Subscript (.Name x px) (.Slice none none (some st) _) _ => (E.ev F (.Name x px) σ).bind fun p σ => (E.ev F st σ).bind fun k σ => revR p k σ
  | _ => .no
section
variable {G : Pg} {F : Fn} {X : Cx G F} {W : Wd} {σ : St} {E : Ev}
theorem Sat.holdBind {α β γ : Type} [Res β γ] {vs : List Value} {t : Sem α} {k : α → Sem γ} {o : Out β} (h : Sat X W (t >>= k) σ o) : Sat X W (PySem.holding vs t >>= k) σ o := by
  intro hn s I Γ p hΓ
  have h := h hn s I Γ p hΓ
  rw [Sem.wp_bind'] at h ⊢
  rw [Sem.wp_holding]
  exact h
theorem optE_sat (S : Got X E) (o : Option Expr) : Sat X W (valueOrNone (evalOpt o X.env)) σ (optE E F o σ) := by
  cases o with
  | none => exact Sat.pure (α := Value) (β := PV) (show Rep W (.v .none) .none from .v .none)
  | some e => exact S.ev W σ e
theorem partOf_is {p : PV} {v : Value} {o : Option Int} (r : Rep W p v) (e : partOf p = some o) : IsPart v o := by
  unfold partOf at e
  split at e
  · cases e; cases r with | v r => cases r with | none => exact .none
  · cases e; cases r with | v r => cases r with | int _ t => exact .int _ t
  · cases e
theorem sub_slice_name {x : Str} {px pos spos : Pos} {lo hi st : Option Expr} : eval (.Subscript (.Name x px) (.Slice lo hi st spos) pos) X.env =
    eval (.Name x px) X.env >>= fun o => PySem.holding [o] (valueOrNone (evalOpt lo X.env) >>= fun l => PySem.holding [l] (valueOrNone (evalOpt hi X.env)) >>= fun u => PySem.holding [l, u] (valueOrNone (evalOpt st X.env)) >>= fun z => newFields "slice" [l, u, z]) >>= fun j =>
      PySem.standAt pos >>= fun _ => subscriptTail (.Name x px) (.Slice lo hi st spos) o j := rfl
theorem VReps.pick {fro : Led} {xs : List V} {vs : List Value} (h : VReps fro xs vs) (lo hi : Option Int) : VReps fro (pickV xs lo hi) (kms_pick vs lo hi) := by
  unfold pickV kms_pick
  rw [h.length]
  exact (h.drop _).take _
theorem sliceR_sat {x : Str} {px pos spos : Pos} {lo hi : Option Expr} {p l u : PV} {ov lv uv : Value} (rp : Rep W p ov) (rl : Rep W l lv) (ru : Rep W u uv) :
    Sat X W (newFields "slice" [lv, uv, .none] >>= fun j => PySem.standAt pos >>= fun _ => subscriptTail (.Name x px) (.Slice lo hi none spos) ov j) σ (sliceR p l u σ) := by
  intro hn
  unfold sliceR at hn ⊢
  split at hn
  rotate_left 1
  · exact (hn rfl).elim
  rename_i xs a b hl hu
  cases rp with | v rp => cases rp with | @lst _ vs ad n hm hr hz =>
  refine Sat.mk rfl (fun s m news I Q h => ?_) hn
  refine wpAny_bind (wpAny_newObj_type (wpAny_bind (wpAny_standAt ?_)))
  refine kms_slice_lit (its := vs.toArray) I.fr I.nw (isList_of I (I.hr.fro _ hm)) (partOf_is rl hl) (partOf_is ru hu) rfl (fun D h' F' N' hlt => ?_) rfl (fun _ => rfl) (by simpa using hz)
  have hz' : (kms_pick vs a b).length ≤ sizeLine := by
    unfold kms_pick
    rw [List.length_take, List.length_drop]; omega
  have hD : ∀ q ∈ news, q.1 ≠ D := fun q hq => Nat.ne_of_lt (hlt q hq)
  have J := I.addEx (o := listOf (kms_pick vs a b).toArray 0) s.toks hD F' N'
  have le : W.Le ⟨W.mu, (D, listOf (kms_pick vs a b).toArray 0) :: W.fro, W.ex, W.P⟩ := ⟨fun _ _ e => e, fun q hq => .tail _ hq, rfl, rfl⟩
  refine h _ _ ⟨W.mu, (D, listOf (kms_pick vs a b).toArray 0) :: W.fro, W.ex, W.P⟩ m _ le (.v (.lst (.head _) ((hr.pick a b).up le.kp) hz')) ⟨F', N', J.nd, ⟨I.hr.len, I.hr.nd, ?_, ?_, J.hr.own, ?_, ?_, I.hr.hol.fro hD⟩, fun y q e => ?_, I.os, I.gens, I.P⟩
  · intro q hq
    rcases List.mem_cons.mp hq with rfl | hq
    · exact .head _
    · exact .tail _ (I.hr.fro q hq)
  · intro q hq
    refine ⟨.tail _ (I.hr.exs q hq).1, (I.hr.exs q hq).2.1, fun y hy => ?_⟩
    rcases List.mem_cons.mp hy with rfl | hy
    · exact fun (e : D = q.1) => hD q (I.hr.exs q hq).1 e.symm
    · exact (I.hr.exs q hq).2.2 y hy
  · intro i y b' hi hlv hb
    obtain ⟨o, ho, hx⟩ := I.hr.at_ i y b' hi hlv hb
    exact ⟨o, .tail _ ho, hx.up le⟩
  · intro i y b' hi hlv hb q hq
    rcases List.mem_cons.mp hq with rfl | hq
    · obtain ⟨o, ho, _⟩ := I.hr.at_ i y b' hi hlv hb
      exact fun (e : D = b') => hD _ ho e.symm
    · exact I.hr.apart i y b' hi hlv hb q hq
  · obtain ⟨v, hv, r⟩ := I.loc y q e
    exact ⟨v, hv, r.up le⟩
theorem revR_sat {x : Str} {px pos spos : Pos} {st : Expr} {p k : PV} {ov kv : Value} (rp : Rep W p ov) (rk : Rep W k kv) :
    Sat X W (newFields "slice" [.none, .none, kv] >>= fun j => PySem.standAt pos >>= fun _ => subscriptTail (.Name x px) (.Slice none none (some st) spos) ov j) σ (revR p k σ) := by
  intro hn
  unfold revR at hn ⊢
  split at hn
  rotate_left 1
  · exact (hn rfl).elim
  rename_i i k
  split at hn
  rotate_left 1
  · exact (hn rfl).elim
  rename_i xs hk hi
  cases rp with | ref ha => cases rk with | v rk => cases rk with | int _ t =>
  have hk := eq_of_beq hk
  subst hk
  refine Sat.mk rfl (fun s m news I Q h => ?_) hn
  obtain ⟨o, ho, vs, n, rfl, hv, hz⟩ := I.at_ hi rfl ha
  refine wpAny_bind (wpAny_newObj_type (wpAny_bind (wpAny_standAt ?_)))
  refine krv_lit (its := vs.toArray) I.fr I.nw (isList_of I ho) (.int _ _) rfl (fun D h' F' N' hlt => ?_) rfl (fun _ => rfl) (by simpa using hz)
  have hD : ∀ q ∈ news, q.1 ≠ D := fun q hq => Nat.ne_of_lt (hlt q hq)
  obtain ⟨J, le, r'⟩ := I.addObj (tk := s.toks) (x := .vrev xs) hD F' N' ⟨vs.reverse, 0, rfl, hv.reverse, by rw [List.length_reverse]; exact hz⟩
  exact h _ _ _ _ _ le r' J
theorem sliceE_sat (S : Got X E) (e : Expr) : Sat X W (eval e X.env) σ (sliceE E F e σ) := by
  intro hn
  unfold sliceE at hn ⊢
  split at hn
  · rw [sub_slice_name]
    refine Sat.bindV (S.ev W σ _) (fun W₁ p v σ₁ le₁ r₁ _ => ?_) hn
    refine Sat.holdBind ?_
    simp only [bind_assoc]
    refine Sat.bindV (optE_sat S _) fun W₂ l lv σ₂ le₂ r₂ _ => ?_
    refine Sat.bindV (Sat.holding (optE_sat S _)) fun W₃ u uv σ₃ le₃ r₃ _ => ?_
    refine Sat.holdBind ?_
    exact sliceR_sat ((r₁.up le₂).up le₃) (r₂.up le₃) r₃
  · rw [sub_slice_name]
    refine Sat.bindV (S.ev W σ _) (fun W₁ p v σ₁ le₁ r₁ _ => ?_) hn
    refine Sat.holdBind ?_
    have e0 : valueOrNone (evalOpt none X.env) = (pure Value.none : Sem Value) := rfl
    simp only [bind_assoc, e0, pure_bind]
    refine Sat.holdBind ?_
    simp only [pure_bind]
    refine Sat.bindV (Sat.holding (optE_sat S (some _))) fun W₂ k kv σ₂ le₂ r₂ _ => ?_
    exact revR_sat (r₁.up le₂) r₂
  · exact (hn rfl).elim
end
end Rk
end
section
open PySem PySem.W PyProof.Rows PySem.Calls
open PySem.Builtin PySem.Builtin.Str
set_option maxRecDepth 100000
namespace Rk
def splitL (x y : Str) : Option (List Str) := match y.length == 0 with
  | true => none
  | false => (match decide (x.length < y.length) || decide (strKind x < strKind y) with
    | true => some [x]
    | false => (match (occurrences x y 0 x.length (x.length + 1)).isEmpty with
      | true => some [x]
      | false => (match fitsN (partsBetween x (occurrences x y 0 x.length (x.length + 1)) y.length).length with
        | true => some (partsBetween x (occurrences x y 0 x.length (x.length + 1)) y.length)
        | false => none)))
def wordsL (x : Str) : Option (List Str) := match spaceWords x (x.length + 1) == [(0, x.length)] with
  | true => some [x]
  | false => (match fitsN (spaceWords x (x.length + 1)).length with
    | true => some (PySem.wordsOf x)
    | false => none)
def strsV (l : List Str) : V := .list (l.map .str)
section
variable {G : Pg} {F : Fn} {X : Cx G F} {W : Wd} {σ : St}
theorem strOk_sub {x : Str} (h : PyData.strOk x = true) (i j : Nat) : PyData.strOk (strSub x i j) = true := by
  unfold PyData.strOk at *
  show (x.cps.extract i j).all _ = true
  rw [← Array.all_toList] at *
  rw [List.all_eq_true] at *
  intro c hc
  refine h c ?_
  rw [Array.toList_extract] at hc
  have hc : c ∈ (x.cps.toList.drop i).take (j - i) := hc
  exact List.mem_of_mem_drop (List.mem_of_mem_take hc)
theorem strs_reps {fro : Led} : ∀ (l : List Str) (tk : Tok), (∀ x ∈ l, PyData.strOk x = true ∧ x.length ≤ sizeLine) → VReps fro (l.map .str) (strsFrom tk l)
  | [], _, _ => .nil
  | x :: r, tk, h => .cons (.str tk (h x (.head _)).1 (h x (.head _)).2) (strs_reps r (tk + 1) fun y hy => h y (.tail _ hy))
theorem sub_le {x : Str} (hz : x.length ≤ sizeLine) (i j : Nat) : (strSub x i j).length ≤ sizeLine := Nat.le_trans (strSub_length_le ..) hz
/-- a list of strs that is made -/
theorem newStrs {s : Shared} {m : Str → Option Value} {news : Led} (I : InvX X W σ s m news) {l : List Str} {vs : List Value} (tk : Nat) (hv : VReps W.fro (l.map .str) vs) (hz : vs.length ≤ sizeLine) :
    ∃ W', W.Le W' ∧ Rep W' (.v (strsV l)) (.ref s.heap.objs.size) ∧ InvX X W' σ { s with heap := s.heap.push { cls := .type "list", data := .seq vs.toArray }, toks := tk } m ((s.heap.objs.size, listOf vs.toArray 0) :: news) := by
  obtain ⟨W', le, r, J⟩ := I.froList (n := 0) tk (I.fr.push _) (I.nw.push I.fr _) hv hz
  exact ⟨W', le, .v r, J⟩
theorem parts_ok {x : Str} (hs : PyData.strOk x = true) (hz : x.length ≤ sizeLine) {l : List Str} (h : ∀ p ∈ l, ∃ i j, p = strSub x i j) : ∀ p ∈ l, PyData.strOk p = true ∧ p.length ≤ sizeLine := fun p hp => by
  obtain ⟨i, j, rfl⟩ := h p hp
  exact ⟨strOk_sub hs i j, sub_le hz i j⟩
theorem split_sat {x y : Str} {t u : Tok} (hs : PyData.strOk x = true) (hz : x.length ≤ sizeLine) : Sat X W (call (.builtin "str.split") [.str x t, .str y u] []) σ (vO ((splitL x y).map strsV) σ) := by
  intro hn
  cases e : splitL x y with
  | none => rw [e] at hn; exact (hn rfl).elim
  | some l =>
    refine Sat.mk (b := .v (strsV l)) (H' := σ.H) rfl (fun s m news I Q h => ?_) (by intro h; cases h)
    have self : ∀ Q' : Value → Shared → Prop, l = [x] → (Q' = Q) → Q' (.ref s.heap.objs.size) { s with heap := s.heap.push { cls := .type "list", data := .seq [Value.str x t].toArray } } := fun Q' el eq => by
      subst el eq
      obtain ⟨W', le, r, J⟩ := newStrs I s.toks (l := [x]) (vs := [.str x t]) (.cons (.str t hs hz) .nil) (by show 1 ≤ sizeLine; decide)
      exact h _ _ W' _ _ le r J
    unfold splitL at e
    split at e
    · cases e
    · rename_i hy
      split at e
      · rename_i h1
        exact call_meets PySem.F.slot_str_split (typeIs_str s x t) PySem.F.entry_str_split (PySem.F.args_str_split_2 _ _) (meets_str_split_cannot_occur x y t u h1) (self _ (Option.some.inj e).symm rfl)
      · rename_i h1
        split at e
        · rename_i hf
          exact call_meets PySem.F.slot_str_split (typeIs_str s x t) PySem.F.entry_str_split (PySem.F.args_str_split_2 _ _) (meets_str_split_not_found x y t u h1 hy hf) (self _ (Option.some.inj e).symm rfl)
        · rename_i hf
          split at e
          · rename_i hl
            have el := Option.some.inj e
            subst el
            refine call_meets PySem.F.slot_str_split (typeIs_str s x t) PySem.F.entry_str_split (PySem.F.args_str_split_2 _ _) (meets_str_split_sep x y t u h1 hy hf hz (fitsN_le hl)) ?_
            obtain ⟨W', le, r, J⟩ := newStrs I (s.toks + (partsBetween x (occurrences x y 0 x.length (x.length + 1)) y.length).length) (strs_reps (partsBetween x (occurrences x y 0 x.length (x.length + 1)) y.length) s.toks (parts_ok hs hz fun p hp => by
              unfold partsBetween at hp
              obtain ⟨⟨i, j⟩, _, rfl⟩ := List.mem_map.mp hp
              exact ⟨i, j, rfl⟩)) (by rw [strsFrom_length]; exact fitsN_le hl)
            exact h _ _ W' _ _ le r J
          · cases e
theorem words_sat {x : Str} {t : Tok} (hs : PyData.strOk x = true) (hz : x.length ≤ sizeLine) : Sat X W (call (.builtin "str.split") [.str x t] []) σ (vO ((wordsL x).map strsV) σ) := by
  intro hn
  cases e : wordsL x with
  | none => rw [e] at hn; exact (hn rfl).elim
  | some l =>
    refine Sat.mk (b := .v (strsV l)) (H' := σ.H) rfl (fun s m news I Q h => ?_) (by intro h; cases h)
    unfold wordsL at e
    split at e
    · rename_i hq
      have el := Option.some.inj e
      subst el
      have hlen : (spaceWords x (x.length + 1)).length ≤ sizeLine := by rw [eq_of_beq hq]; show 1 ≤ sizeLine; decide
      refine call_meets PySem.F.slot_str_split (typeIs_str s x t) PySem.F.entry_str_split (PySem.F.args_str_split_1 _) (meets_str_split_space x t hz hlen) ?_
      rw [if_pos hq]
      obtain ⟨W', le, r, J⟩ := newStrs I s.toks (l := [x]) (vs := [.str x t]) (.cons (.str t hs hz) .nil) (by show 1 ≤ sizeLine; decide)
      exact h _ _ W' _ _ le r J
    · rename_i hq
      split at e
      · rename_i hl
        have el := Option.some.inj e
        subst el
        refine call_meets PySem.F.slot_str_split (typeIs_str s x t) PySem.F.entry_str_split (PySem.F.args_str_split_1 _) (meets_str_split_space x t hz (fitsN_le hl)) ?_
        rw [if_neg (by rw [hq]; exact Bool.false_ne_true)]
        obtain ⟨W', le, r, J⟩ := newStrs I (s.toks + (spaceWords x (x.length + 1)).length) (strs_reps (PySem.wordsOf x) s.toks (parts_ok hs hz fun p hp => by
          unfold PySem.wordsOf at hp
          obtain ⟨⟨i, j⟩, _, rfl⟩ := List.mem_map.mp hp
          exact ⟨i, j, rfl⟩)) (by rw [strsFrom_length]; unfold PySem.wordsOf; rw [List.length_map]; exact fitsN_le hl)
        exact h _ _ W' _ _ le r J
      · cases e
end
end Rk
end
section
open PySem PySem.W PyProof.Rows PySem.Calls
open PySem.Builtin PySem.Builtin.Str
set_option maxRecDepth 100000
namespace Rk
def joinL (sep : Str) (l : List Str) : Option Str := match Builtin.Str.tooLong (l.toArray.foldl (· + ·.length + sep.length) 0) with
  | true => none
  | false => (match l with
    | [x] => some x
    | l => (match fitsN (glued sep l).length with
      | true => some (glued sep l)
      | false => none))
theorem strsOf_reps {fro : Led} : ∀ {xs : List V} {vs : List Value} {l : List Str}, VReps fro xs vs → strsOf xs = some l → ∃ L : List (Str × Tok), vs = strValues L ∧ L.map (·.1) = l ∧ ∀ p ∈ L, PyData.strOk p.1 = true ∧ p.1.length ≤ sizeLine
  | _, _, _, .nil, e => by cases e; exact ⟨[], rfl, rfl, fun p hp => by simp at hp⟩
  | _, _, _, .cons h t, e => by
    cases h with
    | str tk hs hz =>
      unfold strsOf at e
      rw [Option.map_eq_some_iff] at e
      obtain ⟨l, e, rfl⟩ := e
      obtain ⟨L, h1, h2, h3⟩ := strsOf_reps t e
      refine ⟨(_, tk) :: L, by rw [h1]; rfl, by rw [List.map_cons, h2], fun p hp => ?_⟩
      rcases List.mem_cons.mp hp with rfl | hp
      · exact ⟨hs, hz⟩
      · exact h3 p hp
    | _ => cases e
theorem glued_ok {sep : Str} {l : List Str} (hs : PyData.strOk sep = true) (h : ∀ x ∈ l, PyData.strOk x = true) : PyData.strOk (glued sep l) = true := by
  have step : ∀ (r : List Str) (acc : Array Nat), acc.all (· < 0x110000) = true → (∀ x ∈ r, PyData.strOk x = true) → (r.foldl (fun acc p => acc ++ sep.cps ++ p.cps) acc).all (· < 0x110000) = true := fun r => by
    induction r with
    | nil => exact fun acc h _ => h
    | cons x r ih =>
      intro acc ha hr
      refine ih _ ?_ fun y hy => hr y (.tail _ hy)
      rw [Array.all_append, Array.all_append, ha]
      have h1 : sep.cps.all (· < 0x110000) = true := hs
      have h2 : x.cps.all (· < 0x110000) = true := hr x (.head _)
      rw [h1, h2]; rfl
  cases l with
  | nil => simp [glued, PyData.strOk, Str.empty]
  | cons x r => exact step r x.cps (h x (.head _)) fun y hy => h y (.tail _ hy)
section
variable {G : Pg} {F : Fn} {X : Cx G F} {W : Wd} {σ : St}
def joinE (sep : Str) (xs : List V) : Option V := match strsOf xs with
  | some l => (joinL sep l).map .str
  | none => none
theorem join_sat {sep : Str} {t : Tok} {xs : List V} {v : Value} (hs : PyData.strOk sep = true) (r : VRep W.fro (.list xs) v) : Sat X W (call (.builtin "str.join") [.str sep t, v] []) σ (vO (joinE sep xs) σ) := by
  intro hn
  cases e : joinE sep xs with
  | none => rw [e] at hn; exact (hn rfl).elim
  | some y =>
    cases r with
    | @lst _ vs a n hm hr hz =>
      unfold joinE at e
      split at e
      rotate_left 1
      · cases e
      rename_i l hl
      rw [Option.map_eq_some_iff] at e
      obtain ⟨z, e, rfl⟩ := e
      obtain ⟨L, h1, h2, h3⟩ := strsOf_reps hr hl
      refine Sat.pr rfl (fun s m news I Q h => ?_) (by intro h; cases h)
      unfold joinL at e
      split at e
      · cases e
      rename_i htl
      have hlist : s.heap.IsList a (strValues L).toArray := by rw [← h1]; exact isList_of I (I.hr.fro _ hm)
      refine call_meets PySem.F.slot_str_join (typeIs_str s sep t) PySem.F.entry_str_join (PySem.F.args_str_join_2 _ _) (meets_str_join_list sep t a L (by rw [h2]; exact htl)) ⟨hlist, ?_⟩
      split at e
      · rename_i x
        cases e
        cases L with
        | nil => cases h2
        | cons p L =>
          cases L with
          | nil =>
            have h2 : p.1 = z := by simpa using h2
            subst h2
            obtain ⟨k1, k2⟩ := h3 p (.head _)
            exact h _ s.toks (.v (.str _ k1 k2))
          | cons q L => simp at h2
      · rename_i hne
        split at e
        rotate_left 1
        · cases e
        rename_i hf
        cases e
        have ok : PyData.strOk (glued sep l) = true := glued_ok hs fun x hx => by
          rw [← h2] at hx
          obtain ⟨p, hp, rfl⟩ := List.mem_map.mp hx
          exact (h3 p hp).1
        have hz' := fitsN_le hf
        cases L with
        | nil =>
          subst h2
          exact ⟨hz', h _ _ (.v (.str _ ok hz'))⟩
        | cons p L =>
          cases L with
          | nil => subst h2; exact (hne _ rfl).elim
          | cons q L =>
            subst h2
            exact ⟨hz', h _ _ (.v (.str _ ok hz'))⟩
end
end Rk
end
section
open PySem PySem.W PyProof.Rows PySem.Calls
open PySem.Builtin PySem.Builtin.Re
set_option maxRecDepth 100000
namespace Rk
section
variable {G : Pg} {F : Fn} {X : Cx G F} {W : Wd} {σ : St}
theorem rawOf (l : List Int) : (l.map rawInt).map reRawOf = l := by
  rw [List.map_map]
  conv => rhs; rw [← List.map_id l]
  exact List.map_congr_left fun i _ => rfl
theorem reFound_wp {A : Around} {s : Shared} {a b : Addr} {x : Str} {sp : List Int} {t : Tok} {c1 c2 c3 c4 : Value} (h1 : s.heap.get? a = some { cls := .type "re.Match", data := .fields #[.str x t, c1, c2, c3, c4, .ref b] }) (h2 : s.heap.get? b = some (tupO (sp.map rawInt)))
    {Q : ReFound → Shared → Prop} {E : Value → Shared → Prop} (h : Q ⟨#[.str x t, c1, c2, c3, c4, .ref b], sp.toArray⟩ s) : wpAny X.M A (reFound (.ref a)) Q E s := by
  unfold reFound
  refine wpAny_bind (wpAny_fieldsOf h1 rfl ?_)
  unfold reRawItems
  refine wpAny_bind (wpAny_bind (wpAny_seqItems h2 rfl (wpAny_pure (wpAny_pure ?_))))
  have e : ((some (sp.map rawInt).toArray).getD #[]).map reRawOf = sp.toArray := by
    show (sp.map rawInt).toArray.map reRawOf = _
    rw [List.map_toArray, rawOf]
  rw [e]; exact h
theorem end_sat {x : Str} {sp : List Int} {v : Value} (r : Rep W (.mat x sp) v) : Sat X W (call (.builtin "re.Match.end") [v] []) σ (vO (endE sp) σ) := by
  intro hn
  cases e : endE sp with
  | none => rw [e] at hn; exact (hn rfl).elim
  | some y =>
    unfold endE at e
    split at e
    rotate_left 1
    · cases e
    rename_i s0 e0 rest
    cases e
    cases r with | @mat _ _ a b t c1 c2 c3 c4 hm hb hs hz =>
    refine Sat.pr rfl (fun s m news I Q h => ?_) (by intro h; cases h)
    have hg := I.get (I.hr.fro _ hm)
    have hT : s.TypeIs (.ref a) "re.Match" := ⟨_, hg, rfl⟩
    refine wpAny_call_entry slot_match_end hT entry_match_end ?_ (args_match_end _)
    have e1 : reOneGroup "Match.end" "end" ⟨[.ref a], []⟩ = (reFound (.ref a) >>= fun x => pure (x, 0)) := rfl
    show wpAny _ _ (reOneGroup "Match.end" "end" ⟨[.ref a], []⟩ >>= fun y => retInt (y.1.spans.getD (2 * y.2 + 1) (-1))) _ _ s
    rw [e1]
    refine wpAny_bind (wpAny_bind (reFound_wp hg (I.get (I.hr.fro _ hb)) (wpAny_pure ?_)))
    exact wpAny_bind (wpAny_mkInt (wpAny_pure ⟨_, rfl, h _ _ (.v (.int _ _))⟩))
/-- the texts of the groups -/
def groupV (x : Str) (sp : List Int) (g : Nat) : V := match decide (sp.getD (2 * g) (-1) < 0) || decide (sp.getD (2 * g + 1) (-1) < 0) with
  | true => .none
  | false => .str (Builtin.Str.strSub x (sp.getD (2 * g) (-1)).toNat (sp.getD (2 * g + 1) (-1)).toNat)
def groupsL (x : Str) (sp : List Int) : List V := (List.range (sp.length / 2 - 1)).map fun g => groupV x sp (g + 1)
theorem group_wp {A : Around} {s : Shared} {x : Str} {sp : List Int} {t : Tok} {c1 c2 c3 c4 c5 : Value} {g : Nat} (hs : PyData.strOk x = true) (hz : x.length ≤ sizeLine) {fro : Led}
    {Q : Value → Shared → Prop} {E : Value → Shared → Prop} (h : ∀ v tk, VRep fro (groupV x sp g) v → Q v { s with toks := tk }) : wpAny X.M A (reGroupText ⟨#[.str x t, c1, c2, c3, c4, c5], sp.toArray⟩ g .none) Q E s := by
  unfold reGroupText
  have e0 : sp.toArray.getD (2 * g) (-1) = sp.getD (2 * g) (-1) := by simp
  have e1 : sp.toArray.getD (2 * g + 1) (-1) = sp.getD (2 * g + 1) (-1) := by simp
  show wpAny _ _ (if (decide (sp.toArray.getD (2 * g) (-1) < 0) || decide (sp.toArray.getD (2 * g + 1) (-1) < 0)) = true then _ else _) _ _ s
  rw [e0, e1]
  unfold groupV at h
  cases hc : decide (sp.getD (2 * g) (-1) < 0) || decide (sp.getD (2 * g + 1) (-1) < 0) with
  | true =>
    rw [hc] at h
    rw [if_pos rfl]
    exact wpAny_pure (h .none s.toks .none)
  | false =>
    rw [hc] at h
    rw [if_neg Bool.false_ne_true]
    have e2 : reTextOf (.str x t) = pure (x.cps, 0) := rfl
    show wpAny _ _ (reTextOf (.str x t) >>= fun y => reSlice y.1 y.2 (sp.getD (2 * g) (-1)).toNat (sp.getD (2 * g + 1) (-1)).toNat) _ _ s
    rw [e2, pure_bind]
    exact wpAny_mkStr (h _ _ (.str _ (strOk_sub hs _ _) (sub_le hz _ _))) (sub_le hz _ _)
theorem groups_map {A : Around} {x : Str} {sp : List Int} {t : Tok} {c1 c2 c3 c4 c5 : Value} (hs : PyData.strOk x = true) (hz : x.length ≤ sizeLine) {fro : Led} {E : Value → Shared → Prop} : ∀ (l : List Nat) {s : Shared} {Q : List Value → Shared → Prop},
    (∀ vs tk, VReps fro (l.map fun g => groupV x sp (g + 1)) vs → Q vs { s with toks := tk }) → wpAny X.M A (l.mapM fun g => reGroupText ⟨#[.str x t, c1, c2, c3, c4, c5], sp.toArray⟩ (g + 1) .none) Q E s
  | [], s, Q, h => by rw [List.mapM_nil]; exact wpAny_pure (h [] s.toks .nil)
  | g :: r, s, Q, h => by
    rw [List.mapM_cons]
    refine wpAny_bind (group_wp hs hz (fro := fro) fun v tk rv => ?_)
    refine wpAny_bind (groups_map hs hz (fro := fro) r fun vs tk' rs => ?_)
    exact wpAny_pure (h (v :: vs) tk' (.cons rv rs))
theorem groups_sat {x : Str} {sp : List Int} {v : Value} (hsp : fitsN (sp.length / 2 - 1) = true) (r : Rep W (.mat x sp) v) : Sat X W (call (.builtin "re.Match.groups") [v] []) σ (.ok (.v (.tuple (groupsL x sp))) σ : Out PV) := by
  cases r with | @mat _ _ a b t c1 c2 c3 c4 hm hb hs hz =>
  refine Sat.mk (H' := σ.H) rfl fun s m news I Q h => ?_
  have hg := I.get (I.hr.fro _ hm)
  have hT : s.TypeIs (.ref a) "re.Match" := ⟨_, hg, rfl⟩
  refine wpAny_call_entry slot_match_groups hT entry_match_groups ?_ (args_match_groups _)
  have e1 : reWithDefault "re.Match.groups" "groups" ⟨[.ref a], []⟩ = (reFound (.ref a) >>= fun x => pure (x, Value.none)) := rfl
  show wpAny _ _ (reWithDefault "re.Match.groups" "groups" ⟨[.ref a], []⟩ >>= fun y => (List.range (y.1.spans.size / 2 - 1)).mapM (fun g => reGroupText y.1 (g + 1) y.2) >>= fun vs => newTuple vs >>= fun z => ret z) _ _ s
  rw [e1]
  refine wpAny_bind (wpAny_bind (reFound_wp hg (I.get (I.hr.fro _ hb)) (wpAny_pure ?_)))
  refine wpAny_bind (groups_map hs hz (fro := W.fro) _ fun vs tk rs => ?_)
  have hlen : vs.length ≤ sizeLine := by
    rw [rs.length, List.length_map, List.length_range, List.size_toArray]; exact fitsN_le hsp
  have I' : InvX X W σ { s with toks := tk } m news := ⟨I.fr, I.nw, I.nd, I.hr, I.loc, I.os, I.gens, I.P⟩
  refine wpAny_bind (newTuple_N (s := { s with toks := tk }) I'.fr I'.nw (fun h' F' N' => ?_) hlen)
  obtain ⟨W', le, r', J⟩ := I'.froTup tk F' N' rs hlen
  refine wpAny_pure ⟨_, rfl, h _ _ W' m _ le (.v ?_) J⟩
  unfold groupsL
  rw [List.size_toArray] at r'
  exact r'
end
end Rk
end
section
open PySem PySem.W PyProof.Rows PySem.Calls
open PySem.Builtin PySem.Builtin.Re
set_option maxRecDepth 100000
namespace Rk
/-- the machine, until it has an outcome -/
def drive : Nat → Sre.M → Option Sre.M
  | 0, _ => none
  | k + 1, m => match (m.runFor reTurnSteps).outcome.isSome with
    | true => some (m.runFor reTurnSteps)
    | false => drive k (m.runFor reTurnSteps)
def spansOf (groups : Nat) (m : Sre.M) : List Int := (List.range groups).flatMap fun g =>
  match if ((2 * g + 1 : Nat) : Int) ≤ m.lastmark then (m.marks.getD (2 * g) none, m.marks.getD (2 * g + 1) none) else (none, none) with
  | (some b, some e) => [(b : Int), (e : Int)]
  | _ => [-1, -1]
def wrongSpan (groups : Nat) (m : Sre.M) : Bool := (List.range groups).any (fun g => match m.marks.getD (2 * g) none, m.marks.getD (2 * g + 1) none with | some b, some e => ((2 * g + 1 : Nat) : Int) ≤ m.lastmark && e < b | _, _ => false)
/-- a match at a place -/
def rxAt (code : Array Nat) (groups fuel : Nat) (x : Str) (pos : Nat) : Option (Option (List Int)) :=
  match drive fuel (Sre.forMatch code x.cps groups (min pos x.cps.size) x.cps.size false false) with
  | none => none
  | some m => (match m.outcome with
    | some .matched => (match wrongSpan groups m || !fitsN ((spansOf groups m).length + 2) with
      | true => none
      | false => some (some ((m.start : Int) :: (m.handed : Int) :: spansOf groups m)))
    | some .failed => some none
    | _ => none)
section
variable {G : Pg} {F : Fn} {X : Cx G F} {W : Wd} {σ : St}
theorem drive_wp {M : Model} {A : Around} {s : Shared} {Q : Sre.M → Shared → Prop} {E : Value → Shared → Prop} : ∀ (k n : Nat) (m m' : Sre.M), drive k m = some m' → k ≤ n → Q m' s → wpAny M A (reDrive n m) Q E s
  | 0, n, m, m', e, _, _ => by cases e
  | k + 1, 0, m, m', e, h, _ => by omega
  | k + 1, n + 1, m, m', e, h, q => by
    unfold reDrive
    unfold drive at e
    dsimp only
    cases hc : (m.runFor reTurnSteps).outcome.isSome with
    | true =>
      rw [hc] at e
      cases e
      rw [if_pos rfl]
      exact wpAny_pure q
    | false =>
      rw [hc] at e
      rw [if_neg Bool.false_ne_true]
      exact wpAny_bind (wpAny_rule (drive_wp k n _ m' e (by omega) q))
theorem forIn_wp {M : Model} {A : Around} {E : Value → Shared → Prop} {f : Nat → PUnit → Sem (ForInStep PUnit)} (hf : ∀ i s (Q : ForInStep PUnit → Shared → Prop), Q (.yield ⟨⟩) s → wpAny M A (f i ⟨⟩) Q E s) : ∀ (l : List Nat) {s : Shared} {Q : PUnit → Shared → Prop}, Q ⟨⟩ s → wpAny M A (forIn l PUnit.unit f) Q E s
  | [], s, Q, q => by rw [List.forIn_nil]; exact wpAny_pure q
  | i :: r, s, Q, q => by
    rw [List.forIn_cons]
    exact wpAny_bind (hf i s _ (forIn_wp hf r q))
theorem runToEnd_wp {M : Model} {A : Around} {s : Shared} {Q : Option Sre.M → Shared → Prop} {E : Value → Shared → Prop} {k : Nat} {m m' : Sre.M} (hk : k ≤ 2 ^ 64) (e : drive k m = some m')
    (h : match m'.outcome with
      | some .matched => Q (some m') s
      | some .failed => Q none s
      | _ => False) : wpAny M A (reRunToEnd m) Q E s := by
  unfold reRunToEnd
  refine wpAny_bind (drive_wp k (2 ^ 64) m m' e hk ?_)
  refine wpAny_bind (forIn_wp (fun i s Q q => ?_) _ ?_)
  · split
    · exact wpAny_bind (wpAny_rule (wpAny_pure q))
    · exact wpAny_pure q
  · cases ho : m'.outcome with
    | none => rw [ho] at h; exact h.elim
    | some oc =>
      rw [ho] at h
      cases oc with
      | matched => exact wpAny_pure h
      | failed => exact wpAny_pure h
      | stuck w => exact h.elim
/-- the pattern object -/
structure PatAt (h : Heap) (c : Addr) (code : List Int) (groups : Nat) : Prop where
  at_ : ∃ p0 p1 p3 p4 d t5 t6 tk, h.get? c = some { cls := .type "re.Pattern", data := .fields #[p0, p1, .int groups t5, p3, p4, .ref d, .int 0 t6] } ∧ h.get? d = some { cls := .type "tuple", data := .seq (code.map fun i => Value.int i tk).toArray }
theorem target_wp {A : Around} {s : Shared} {E : Value → Shared → Prop} {c : Addr} {code : List Int} {groups : Nat} {x : Str} {t u : Tok} {pos : Int} (P : PatAt s.heap c code groups) (h0 : 0 ≤ pos) (h1 : pos < 2 ^ 63) (hz : x.length ≤ sizeLine)
    {Q : ReTarget → Shared → Prop} (h : Q { pattern := .ref c, string := .str x t, code := (code.map (·.toNat)).toArray, text := x.cps, kind := 0, groups := groups, pos := min pos.toNat x.cps.size, lim := x.cps.size } s) :
    wpAny X.M A (reTarget "re.Pattern.match" "match" ⟨[.ref c, .str x t, .int pos u], []⟩) Q E s := by
  obtain ⟨p0, p1, p3, p4, d, t5, t6, tk, h2, h3⟩ := P.at_
  have e1 : reNamed "re.Pattern.match" "match" ["string", "pos", "endpos"] 1 [.str x t, .int pos u] [] = pure [some (.str x t), some (.int pos u), none] := by rfl
  unfold reTarget
  dsimp only
  refine wpAny_bind ?_
  rw [e1]
  refine wpAny_pure ?_
  dsimp only
  have e2 : reSsize (.int pos u) = pure pos := by
    show (if (decide (pos < -(2 ^ 63)) || decide (pos ≥ 2 ^ 63)) = true then _ else _) = _
    rw [if_neg (by simp; omega)]
  rw [e2]
  simp only [pure_bind]
  refine wpAny_bind (wpAny_fieldsOf h2 rfl ?_)
  have e3 : reTextOf (.str x t) = pure (x.cps, 0) := rfl
  rw [e3, pure_bind]
  have c1 : (reRawNat ((#[p0, p1, Value.int groups t5, p3, p4, Value.ref d, Value.int 0 t6] : Array Value).getD 6 .none) == 0 && ((x.cps, 0) : Array Nat × Nat).2 == 1) = false := rfl
  have c2 : (reRawNat ((#[p0, p1, Value.int groups t5, p3, p4, Value.ref d, Value.int 0 t6] : Array Value).getD 6 .none) == 1 && ((x.cps, 0) : Array Nat × Nat).2 == 0) = false := rfl
  rw [if_neg (by rw [c1]; exact Bool.false_ne_true), if_neg (by rw [c2]; exact Bool.false_ne_true)]
  have e4 : reNoCollectionInside (.str x t) ((x.cps, 0) : Array Nat × Nat).2 = pure () := rfl
  rw [e4, pure_bind]
  have e5 : (#[p0, p1, Value.int groups t5, p3, p4, Value.ref d, Value.int 0 t6] : Array Value).getD 5 .none = .ref d := rfl
  rw [e5]
  unfold reRawItems
  refine wpAny_bind (wpAny_bind (wpAny_seqItems h3 rfl (wpAny_pure (wpAny_pure ?_))))
  have e6 : Array.map (fun x => x.toNat) (((some (code.map fun i => Value.int i tk).toArray).getD #[]).map reRawOf) = (code.map (·.toNat)).toArray := by
    show Array.map _ ((code.map fun i => Value.int i tk).toArray.map reRawOf) = _
    rw [List.map_toArray, List.map_toArray, List.map_map, List.map_map]; rfl
  have e7 : Min.min ((2 : Int) ^ 63 - 1).toNat x.cps.size = x.cps.size := Nat.min_eq_right (Nat.le_trans (show x.cps.size ≤ sizeLine from hz) (by decide))
  have e8 : reRawNat ((#[p0, p1, Value.int groups t5, p3, p4, Value.ref d, Value.int 0 t6] : Array Value).getD 2 .none) = groups := by show (groups : Int).toNat = groups; exact Int.toNat_natCast _
  rw [e6, e8]
  show Q { pattern := _, string := _, code := _, text := x.cps, kind := 0, groups := _, pos := _, lim := Min.min ((2 : Int) ^ 63 - 1).toNat x.cps.size } s
  rw [e7]
  exact h
end
end Rk
end
section
open PySem PySem.W PyProof.Rows PySem.Calls
open PySem.Builtin PySem.Builtin.Re
set_option maxRecDepth 100000
namespace Rk
def matchE (code : Array Nat) (groups fuel : Nat) (x : Str) (pos : Int) : Option PV := match decide (0 ≤ pos) && decide (pos < 2 ^ 63) && Nat.ble fuel (2 ^ 64) with
  | false => none
  | true => (match rxAt code groups fuel x pos.toNat with
    | none => none
    | some none => some (.v .none)
    | some (some sp) => some (.mat x sp))
section
variable {G : Pg} {F : Fn} {X : Cx G F} {W : Wd} {σ : St}
theorem match_sat (ok : X.Ok) {c : Addr} {code : List Int} {groups fuel : Nat} (hP : ∀ h, X.K.In h → PatAt h c code groups) {x : Str} {t u : Tok} {pos : Int} (hs : PyData.strOk x = true) (hz : x.length ≤ sizeLine) :
    Sat X W (call (.builtin "re.Pattern.match") [.ref c, .str x t, .int pos u] []) σ (okO (matchE (code.map (·.toNat)).toArray groups fuel x pos) σ) := by
  intro hn
  cases e : matchE (code.map (·.toNat)).toArray groups fuel x pos with
  | none => rw [e] at hn; exact (hn rfl).elim
  | some p =>
    refine Sat.mk (b := p) (H' := σ.H) rfl (fun s m news I Q h => ?_) (by intro h; cases h)
    unfold matchE at e
    split at e
    · cases e
    rename_i hc
    rw [Bool.and_eq_true, Bool.and_eq_true] at hc
    have h0 := of_decide_eq_true hc.1.1
    have h1 := of_decide_eq_true hc.1.2
    have hk := Nat.le_of_ble_eq_true hc.2
    have PA := hP s.heap (I.k ok)
    obtain ⟨p0, p1, p3, p4, d, t5, t6, tk, h2, h3⟩ := id PA.at_
    have hT : s.TypeIs (.ref c) "re.Pattern" := ⟨_, h2, rfl⟩
    refine wpAny_call_entry slot_pattern_match hT entry_pattern_match ?_ (args_pattern_match _ _ _)
    unfold Builtin.«re.Pattern.match»
    refine wpAny_bind (target_wp PA h0 h1 hz ?_)
    unfold reAnswer
    dsimp only
    unfold rxAt at e
    cases ed : drive fuel (Sre.forMatch (code.map (·.toNat)).toArray x.cps groups (min pos.toNat x.cps.size) x.cps.size false false) with
    | none => rw [ed] at e; cases e
    | some mm =>
      rw [ed] at e
      dsimp only at e
      refine wpAny_bind (runToEnd_wp hk ed ?_)
      cases ho : mm.outcome with
      | none => rw [ho] at e; cases e
      | some oc =>
        rw [ho] at e
        cases oc with
        | stuck w => cases e
        | failed =>
          cases e
          exact wpAny_pure ⟨_, rfl, h _ _ W m _ .refl (.v .none) ⟨I.fr, I.nw, I.nd, I.hr, I.loc, I.os, I.gens, I.P⟩⟩
        | matched =>
          dsimp only at e ⊢
          cases hw : wrongSpan groups mm || !fitsN ((spansOf groups mm).length + 2) with
          | true => rw [hw] at e; cases e
          | false =>
            rw [hw] at e
            cases e
            rw [Bool.or_eq_false_iff, Bool.not_eq_false'] at hw
            refine wpAny_bind ?_
            unfold reNewMatch
            have es : ((List.range groups).flatMap fun g => match if ((2 * g + 1 : Nat) : Int) ≤ mm.lastmark then (mm.marks.getD (2 * g) none, mm.marks.getD (2 * g + 1) none) else (none, none) with
                | (some b, some e) => [rawInt b, rawInt e]
                | _ => [rawInt (-1), rawInt (-1)]) = (spansOf groups mm).map rawInt := by
              unfold spansOf
              rw [List.map_flatMap]
              congr 1
              funext g
              generalize (if ((2 * g + 1 : Nat) : Int) ≤ mm.lastmark then (mm.marks.getD (2 * g) none, mm.marks.getD (2 * g + 1) none) else (none, none)) = y
              obtain ⟨a, b⟩ := y
              cases a <;> cases b <;> rfl
            dsimp only
            rw [if_neg (fun hh => by have h2 : wrongSpan groups mm = true := hh; rw [hw.1] at h2; cases h2)]
            suffices conv : ∀ L, L = (spansOf groups mm).map rawInt → wpAny X.M X.A.in1 (newTuple (rawInt mm.start :: rawInt mm.handed :: L) >>= fun z => newFields "re.Match" [.str x t, .ref c, rawInt ((min pos.toNat x.cps.size : Nat) : Int), rawInt (x.cps.size : Int), rawInt mm.lastindex, z])
                (fun a s' => wpAny X.M X.A.in1 (ret a) (fun fin s' => ∃ v, fin = Fin.done (Flow.ret v) ∧ Q v s') (EPO X (okO (some (PV.mat x ((mm.start : Int) :: (mm.handed : Int) :: spansOf groups mm))) σ)) s') (EPO X (okO (some (PV.mat x ((mm.start : Int) :: (mm.handed : Int) :: spansOf groups mm))) σ)) s from conv _ es
            intro L hL
            subst hL
            have hlen : (rawInt mm.start :: rawInt mm.handed :: (spansOf groups mm).map rawInt).length ≤ sizeLine := by
              rw [List.length_cons, List.length_cons, List.length_map]; exact fitsN_le hw.2
            have N1 := I.nw.push I.fr { cls := .type "tuple", data := .seq (rawInt mm.start :: rawInt mm.handed :: (spansOf groups mm).map rawInt).toArray }
            have F1 := I.fr.push { cls := .type "tuple", data := .seq (rawInt mm.start :: rawInt mm.handed :: (spansOf groups mm).map rawInt).toArray }
            obtain ⟨J1, le1⟩ := I.addFro (tk := s.toks) F1 N1
            refine wpAny_bind (wpAny_newObj_type ?_ (by show (rawInt mm.start :: rawInt mm.handed :: (spansOf groups mm).map rawInt).toArray.size ≤ sizeLine; rw [List.size_toArray]; exact hlen))
            refine wpAny_newObj_type ?_
            refine wpAny_pure ⟨_, rfl, ?_⟩
            have F2 := J1.fr.push { cls := .type "re.Match", data := .fields #[.str x t, .ref c, rawInt ((min pos.toNat x.cps.size : Nat) : Int), rawInt (x.cps.size : Int), rawInt mm.lastindex, .ref s.heap.objs.size] }
            have N2 := J1.nw.push J1.fr { cls := .type "re.Match", data := .fields #[.str x t, .ref c, rawInt ((min pos.toNat x.cps.size : Nat) : Int), rawInt (x.cps.size : Int), rawInt mm.lastindex, .ref s.heap.objs.size] }
            obtain ⟨J2, le2⟩ := J1.addFro (tk := s.toks) F2 N2
            exact h _ _ _ m _ (le1.trans le2) (.mat (.head _) (.tail _ (.head _)) hs hz) J2
end
end Rk
end
section
open PySem PySem.W PyProof.Rows PySem.Calls
set_option maxRecDepth 100000
namespace Rk
def intE (x : Str) : Option V := match Nat.ble x.length 640 with
  | true => (PySem.intText? x).map .int
  | false => none
section
variable {G : Pg} {F : Fn} {X : Cx G F} {W : Wd} {σ : St}
theorem intE_sat {x : Str} {t : Tok} : Sat X W (call (.type "int") [.str x t] []) σ (vO (intE x) σ) := by
  intro hn
  cases e : intE x with
  | none => rw [e] at hn; exact (hn rfl).elim
  | some y =>
    unfold intE at e
    split at e
    rotate_left 1
    · cases e
    rename_i hl
    rw [Option.map_eq_some_iff] at e
    obtain ⟨n, hnn, rfl⟩ := e
    exact Sat.pr rfl (fun s m news I Q h => PySem.W.KIN.call_text hnn (Nat.le_of_ble_eq_true hl) (h _ _ (.v (.int _ _)))) (by intro h; cases h)
theorem wpAny_newSet_ok (led : Bool) : ∀ P : Params, Mems P [] #[] (.fresh 0 0 led) := fun P => by
  refine ⟨?_, by decide, .nil, [], rfl, .nil⟩
  cases led <;> rfl
theorem newSet_sat : Sat X W (call (.type "set") [] []) σ (.ok (.ref σ.H.length) ⟨σ.loc, σ.H ++ [.sset []]⟩ : Out PV) := by
  refine Sat.mk rfl fun s m news I Q h => call_set_0 fun led => ?_
  have F' := I.fr.push { cls := .type "set", dict := none, data := .set #[] 0 (.fresh 0 0 led) }
  have N' := I.nw.push I.fr { cls := .type "set", dict := none, data := .set #[] 0 (.fresh 0 0 led) }
  have M : Mems W.P [] #[] (.fresh 0 0 led) := by
    have q := wpAny_newSet_ok led
    exact q W.P
  obtain ⟨J, le, r⟩ := I.addObj (tk := s.toks) (x := .sset []) I.ne F' N' ⟨#[], 0, .fresh 0 0 led, rfl, M⟩
  exact h _ _ _ _ _ le r J
/-- the types that are called -/
def ty1 (t : String) (ps : List PV) (σ : St) : Out PV :=
  if t = "int" then (match ps with
    | [.v (.str x)] => vO (intE x) σ
    | _ => .no)
  else if t = "set" then (match ps with
    | [] => .ok (.ref σ.H.length) ⟨σ.loc, σ.H ++ [.sset []]⟩
    | _ => .no)
  else .no
theorem ty1_sat (t : String) {ps : List PV} {vs : List Value} (r : Reps W ps vs) : Sat X W (call (.type t) vs []) σ (ty1 t ps σ) := by
  intro hn
  unfold ty1 at hn ⊢
  split at hn
  · rename_i h; subst h
    split at hn
    · cases r with | cons r1 r => cases r with | nil => cases r1 with | v r1 => cases r1 with | str t hs hz => exact intE_sat hn
    · exact (hn rfl).elim
  · split at hn
    · rename_i h; subst h
      split at hn
      · cases r with | nil => exact newSet_sat hn
      · exact (hn rfl).elim
    · exact (hn rfl).elim
end
end Rk
end
section
open PySem PySem.W PyProof.Rows PySem.Calls
set_option maxRecDepth 100000
namespace Rk
/-- the built-ins, the second part: strs and the pattern at c -/
def bi2 (c : Addr) (code : List Int) (groups fuel : Nat) (id : String) (ps : List PV) (σ : St) : Out PV :=
  if id = "str.split" then (match ps with
    | [.v (.str x), .v (.str y)] => vO ((splitL x y).map strsV) σ
    | [.v (.str x)] => vO ((wordsL x).map strsV) σ
    | _ => .no)
  else if id = "str.join" then (match ps with
    | [.v (.str sep), .v (.list xs)] => vO (joinE sep xs) σ
    | _ => .no)
  else if id = "re.Pattern.match" then (match ps with
    | [.cst (.ref a), .v (.str x), .v (.int pos)] => (match a == c with
      | true => okO (matchE (code.map (·.toNat)).toArray groups fuel x pos) σ
      | false => .no)
    | _ => .no)
  else if id = "re.Match.end" then (match ps with
    | [.mat _ sp] => vO (endE sp) σ
    | _ => .no)
  else if id = "re.Match.groups" then (match ps with
    | [.mat x sp] => (match fitsN (sp.length / 2 - 1) with
      | true => .ok (.v (.tuple (groupsL x sp))) σ
      | false => .no)
    | _ => .no)
  else bi1 id ps σ
section
variable {G : Pg} {F : Fn} {X : Cx G F} {W : Wd} {σ : St}
theorem bi2_sat (ok : X.Ok) {c : Addr} {code : List Int} {groups fuel : Nat} (hP : ∀ h, X.K.In h → PatAt h c code groups) (id : String) {ps : List PV} {vs : List Value} (r : Reps W ps vs) : Sat X W (call (.builtin id) vs []) σ (bi2 c code groups fuel id ps σ) := by
  intro hn
  unfold bi2 at hn ⊢
  split at hn
  · rename_i h; subst h
    split at hn
    · cases r with | cons r1 r => cases r with | cons r2 r => cases r with | nil => cases r1 with | v r1 => cases r1 with | str t hs hz => cases r2 with | v r2 => cases r2 with | str u _ _ =>
      exact split_sat hs hz hn
    · cases r with | cons r1 r => cases r with | nil => cases r1 with | v r1 => cases r1 with | str t hs hz =>
      exact words_sat hs hz hn
    · exact (hn rfl).elim
  · split at hn
    · rename_i h; subst h
      split at hn
      · cases r with | cons r1 r => cases r with | cons r2 r => cases r with | nil => cases r1 with | v r1 => cases r1 with | str t hs hz => cases r2 with | v r2 =>
        exact join_sat hs r2 hn
      · exact (hn rfl).elim
    · split at hn
      · rename_i h; subst h
        split at hn
        · split at hn
          · rename_i ha
            have ha := eq_of_beq ha
            subst ha
            cases r with | cons r1 r => cases r with | cons r2 r => cases r with | cons r3 r => cases r with | nil => cases r1 with | cst _ => cases r2 with | v r2 => cases r2 with | str t hs hz => cases r3 with | v r3 => cases r3 with | int _ u =>
            exact match_sat ok hP hs hz hn
          · exact (hn rfl).elim
        · exact (hn rfl).elim
      · split at hn
        · rename_i h; subst h
          split at hn
          · cases r with | cons r1 r => cases r with | nil => exact end_sat r1 hn
          · exact (hn rfl).elim
        · split at hn
          · rename_i h; subst h
            split at hn
            · split at hn
              · rename_i hf
                cases r with | cons r1 r => cases r with | nil => exact groups_sat hf r1 hn
              · exact (hn rfl).elim
            · exact (hn rfl).elim
          · rename_i h1 h2 h3 h4 h5
            rw [if_neg h1, if_neg h2, if_neg h3, if_neg h4, if_neg h5]
            exact bi1_sat id r hn
end
end Rk
end
section
open PySem PySem.W PyProof.Rows PySem.Calls
set_option maxRecDepth 100000
namespace Rk
instance : Res Str Value := ⟨fun _ x v => ∃ t, v = .str x t ∧ x.length ≤ sizeLine, fun _ h => h⟩
def partE (E : Ev) (F : Fn) (e : Expr) (σ : St) : Out Str := match e with
  | .Constant (.str c) _ _ => (match fitsN c.length with
    | true => .ok c σ
    | false => .no)
  | .FormattedValue v 114 none _ => (E.ev F v σ).bind fun p σ => (match p with
    | .v (.str x) => (match fitsN (reprText x).length with
      | true => .ok (reprText x) σ
      | false => .no)
    | _ => .no)
  | .FormattedValue v (-1) none _ => (E.ev F v σ).bind fun p σ => (match p with
    | .v (.str x) => .ok x σ
    | _ => .no)
  | _ => .no
def joinsE (E : Ev) (F : Fn) : List Expr → Nat → St → Out Unit
  | [], _, σ => .ok () σ
  | e :: r, n, σ => (partE E F e σ).bind fun x σ => (match fitsN (n + x.length) with
    | true => joinsE E F r (n + x.length) σ
    | false => .no)
section
variable {G : Pg} {F : Fn} {X : Cx G F} {W : Wd} {σ : St} {E : Ev}
theorem partE_sat (S : Got X E) (e : Expr) : Sat X W (eval e X.env) σ (partE E F e σ) := by
  intro hn
  unfold partE at hn ⊢
  split at hn
  · split at hn
    · rename_i hf
      exact Sat.pr rfl (fun s m news I Q h => wpAny_Constant_str (h _ _ ⟨_, rfl, fitsN_le hf⟩)) hn
    · exact (hn rfl).elim
  · intro s I
    refine wpAny_FormattedValue_repr (wpAny_mono (S.ev W σ _ (bind_ok hn) s I) (fun v s₁ ⟨W₁, p, σ₁, le, e₁, r, I₁⟩ => ?_) fun v s' ⟨c, e, q⟩ => ⟨c, by rw [e]; rfl, q⟩)
    rw [e₁] at hn ⊢
    cases r with
    | v r =>
      cases r with
      | @str x t hs hz =>
        have hn : (match fitsN (reprText x).length with
          | true => .ok (reprText x) σ₁
          | false => .no : Out Str) ≠ .no := hn
        cases hf : fitsN (reprText x).length with
        | false => rw [hf] at hn; exact (hn rfl).elim
        | true =>
          have hz' := fitsN_le hf
          have e2 : ((Out.ok (PV.v (.str x)) σ₁).bind fun p σ => (match p with
            | .v (.str x) => (match fitsN (reprText x).length with
              | true => .ok (reprText x) σ
              | false => .no)
            | _ => .no : Out Str)) = .ok (reprText x) σ₁ := by
            show (match fitsN (reprText x).length with
              | true => .ok (reprText x) σ₁
              | false => .no : Out Str) = _
            rw [hf]
          refine wpAny_pyReprObj_str ?_ hz'
          refine SB.field_str (fun t' k => ⟨W₁, _, σ₁, le, e2, ⟨_, rfl, hz'⟩, ?_⟩) hz'
          exact I₁.toks k
      | _ => exact (hn rfl).elim
    | _ => exact (hn rfl).elim
  · intro s I
    refine wpAny_FormattedValue_plain (wpAny_mono (S.ev W σ _ (bind_ok hn) s I) (fun v s₁ ⟨W₁, p, σ₁, le, e₁, r, I₁⟩ => ?_) fun v s' ⟨c, e, q⟩ => ⟨c, by rw [e]; rfl, q⟩)
    rw [e₁] at hn ⊢
    cases r with
    | v r =>
      cases r with
      | @str x t hs hz =>
        refine SB.field_str (fun t' k => ⟨W₁, x, σ₁, le, rfl, ⟨_, rfl, hz⟩, ?_⟩) hz
        exact I₁.toks k
      | _ => exact (hn rfl).elim
    | _ => exact (hn rfl).elim
  · exact (hn rfl).elim
theorem joins_wp (S : Got X E) : ∀ (es : List Expr) (n : Nat) (acc : Str) (W : Wd) (σ : St) (s : Shared), acc.length = n → n ≤ sizeLine → Inv X W σ s → joinsE E F es n σ ≠ .no →
    Joins X.M X.A (EPO X (joinsE E F es n σ)) (evalEach es X.env) acc (fun out s₁ => out.length ≤ sizeLine ∧ ∃ W' σ', W.Le W' ∧ joinsE E F es n σ = .ok () σ' ∧ Inv X W' σ' s₁) s
  | [], n, acc, W, σ, s, hl, hn', I, _ => ⟨by rw [hl]; exact hn', W, σ, .refl, rfl, I⟩
  | e :: r, n, acc, W, σ, s, hl, hn', I, hn => by
    unfold joinsE at hn ⊢
    refine wpAny_mono (partE_sat S e (bind_ok hn) s I) (fun v s₁ ⟨W₁, x, σ₁, le, e₁, rx, I₁⟩ => ?_) fun v s' ⟨c, e, q⟩ => ⟨c, by rw [e]; rfl, q⟩
    obtain ⟨t, rfl, hz⟩ := rx
    rw [e₁] at hn ⊢
    cases hf : fitsN (n + x.length) with
    | false =>
      exact (hn (by show (match fitsN (n + x.length) with | true => joinsE E F r (n + x.length) σ₁ | false => .no : Out Unit) = .no; rw [hf])).elim
    | true =>
      have e2 : ((Out.ok x σ₁).bind fun x σ => (match fitsN (n + x.length) with
        | true => joinsE E F r (n + x.length) σ
        | false => .no : Out Unit)) = joinsE E F r (n + x.length) σ₁ := by
        show (match fitsN (n + x.length) with | true => joinsE E F r (n + x.length) σ₁ | false => .no : Out Unit) = _
        rw [hf]
      rw [e2] at hn ⊢
      have hlen : (acc ++ x).length = n + x.length := by rw [length_append', hl]
      have ih := joins_wp S r (n + x.length) (acc ++ x) W₁ σ₁ s₁ hlen (fitsN_le hf) I₁ hn
      refine ⟨x, t, rfl, by rw [hlen]; exact fitsN_le hf, ?_⟩
      have up : ∀ (l : List (Sem Value)) (a : Str) (s : Shared), Joins X.M X.A (EPO X (joinsE E F r (n + x.length) σ₁)) l a (fun out s₁ => out.length ≤ sizeLine ∧ ∃ W' σ', W₁.Le W' ∧ joinsE E F r (n + x.length) σ₁ = .ok () σ' ∧ Inv X W' σ' s₁) s →
          Joins X.M X.A (EPO X (joinsE E F r (n + x.length) σ₁)) l a (fun out s₁ => out.length ≤ sizeLine ∧ ∃ W' σ', W.Le W' ∧ joinsE E F r (n + x.length) σ₁ = .ok () σ' ∧ Inv X W' σ' s₁) s := fun l => by
        induction l with
        | nil => exact fun a s ⟨h1, W', σ', h2, h3, h4⟩ => ⟨h1, W', σ', le.trans h2, h3, h4⟩
        | cons y l ihl => exact fun a s h => wpAny_mono h (fun v s₁ ⟨y, t, e, hz, h⟩ => ⟨y, t, e, hz, ihl _ _ h⟩) fun _ _ x => x
      exact up _ _ _ ih
/-- a written text with parts: what it says is not kept -/
def fstrE (E : Ev) (F : Fn) (e : Expr) (σ : St) : Out PV := match e with
  | .JoinedStr (a :: b :: r) _ => (joinsE E F (a :: b :: r) 0 σ).bind fun _ σ => .ok .any σ
  | _ => .no
theorem fstrE_sat (S : Got X E) (e : Expr) : Sat X W (eval e X.env) σ (fstrE E F e σ) := by
  intro hn
  unfold fstrE at hn ⊢
  split at hn
  · rename_i a b r pos
    intro s I
    have h := joins_wp S (a :: b :: r) 0 Str.empty W σ s rfl (Nat.zero_le _) I (bind_ok hn)
    refine wpAny_mono (wpAny_JoinedStr (E := EPO X (joinsE E F (a :: b :: r) 0 σ)) (Q := fun _ s₁ => ∃ W' σ', W.Le W' ∧ joinsE E F (a :: b :: r) 0 σ = .ok () σ' ∧ Inv X W' σ' s₁) ?_) (fun v s₁ q => by
      obtain ⟨W', σ', le, e, J⟩ := q
      rw [e]
      exact ⟨W', PV.any, σ', le, rfl, .any v, J⟩) fun v s' ⟨c, e, q⟩ => ⟨c, by rw [e]; rfl, q⟩
    have up : ∀ (l : List (Sem Value)) (ac : Str) (s : Shared), Joins X.M X.A (EPO X (joinsE E F (a :: b :: r) 0 σ)) l ac (fun out s₁ => out.length ≤ sizeLine ∧ ∃ W' σ', W.Le W' ∧ joinsE E F (a :: b :: r) 0 σ = .ok () σ' ∧ Inv X W' σ' s₁) s →
        Joins X.M X.A (EPO X (joinsE E F (a :: b :: r) 0 σ)) l ac (fun out s₁ => out.length ≤ sizeLine ∧ ∃ W' σ', W.Le W' ∧ joinsE E F (a :: b :: r) 0 σ = .ok () σ' ∧ Inv X W' σ' { s₁ with toks := s₁.toks + 1 }) s := fun l => by
      induction l with
      | nil => exact fun a s ⟨h1, W', σ', h2, h3, h4⟩ => ⟨h1, W', σ', h2, h3, h4.toks _⟩
      | cons y l ihl => exact fun a s h => wpAny_mono h (fun v s₁ ⟨y, t, e, hz, h⟩ => ⟨y, t, e, hz, ihl _ _ h⟩) fun _ _ x => x
    exact up _ _ _ h
  · exact (hn rfl).elim
end
end Rk
end
section
open PySem PySem.W PyProof.Rows PySem.Calls
set_option maxRecDepth 100000
namespace Rk
/-- what is a list for sure -/
def isL (H : List AObj) : PV → Bool
  | .v (.list _) => true
  | .ref i => (match H[i]? with
    | some (.vlist _) => true
    | some (.rlist _) => true
    | _ => false)
  | _ => false
section
variable {G : Pg} {F : Fn} {X : Cx G F} {W : Wd} {σ : St}
theorem isi_sat (ok : X.Ok) {C : Addr} (hC : kitOne X.K (.type "list") (.ref C) = some false) {p : PV} {v : Value} (r : Rep W p v) (hp : isL σ.H p = true) :
    Sat X W (call (.builtin "isinstance") [v, .ref C] []) σ (.ok (.v (.bool false)) σ : Out PV) := by
  refine Sat.pr (β := PV) (b := .v (.bool false)) rfl (fun s m news I Q h => ?_)
  unfold isL at hp
  split at hp
  · cases r with | v r => cases r with | @lst _ vs ad n hm hr hz =>
    exact kia_one (H := KitAt ad "list") kitx_list (I.k ok) ⟨_, I.get (I.hr.fro _ hm), rfl⟩ hC (by intro e; cases e) (fun tk => h _ tk (.v (.bool _)))
  · cases r with | ref ha =>
    split at hp
    · rename_i hx
      obtain ⟨o, ho, vs, n, rfl, hv, hz⟩ := I.at_ hx rfl ha
      exact kia_one (H := KitAt _ "list") kitx_list (I.k ok) ⟨_, I.get ho, rfl⟩ hC (by intro e; cases e) (fun tk => h _ tk (.v (.bool _)))
    · rename_i hx
      obtain ⟨o, ho, vs, n, rfl, hv, hz⟩ := I.at_ hx rfl ha
      exact kia_one (H := KitAt _ "list") kitx_list (I.k ok) ⟨_, I.get ho, rfl⟩ hC (by intro e; cases e) (fun tk => h _ tk (.v (.bool _)))
    · cases hp
  · cases hp
theorem repr_sat {x : Str} {t : Tok} : Sat X W (call (.builtin "repr") [.str x t] []) σ (match fitsN (reprText x).length && PyData.strOk (reprText x) with
    | true => .ok (.v (.str (reprText x))) σ
    | false => .no : Out PV) := by
  intro hn
  split at hn
  · rename_i hk
    rw [Bool.and_eq_true] at hk
    exact Sat.pr rfl (fun s m news I Q h => P.repr_of_str (h _ _ (.v (.str _ hk.2 (fitsN_le hk.1)))) (fitsN_le hk.1)) (by intro h; cases h)
  · exact (hn rfl).elim
/-- the built-ins, the third part: no list is an object of the class at C -/
def bi3 (C c : Addr) (code : List Int) (groups fuel : Nat) (id : String) (ps : List PV) (σ : St) : Out PV :=
  if id = "isinstance" then (match ps with
    | [p, .cst (.ref a)] => (match isL σ.H p && a == C with
      | true => .ok (.v (.bool false)) σ
      | false => .no)
    | _ => .no)
  else if id = "repr" then (match ps with
    | [.v (.str x)] => (match fitsN (reprText x).length && PyData.strOk (reprText x) with
      | true => .ok (.v (.str (reprText x))) σ
      | false => .no)
    | _ => .no)
  else bi2 c code groups fuel id ps σ
theorem bi3_sat (ok : X.Ok) {C c : Addr} {code : List Int} {groups fuel : Nat} (hC : kitOne X.K (.type "list") (.ref C) = some false) (hP : ∀ h, X.K.In h → PatAt h c code groups) (id : String) {ps : List PV} {vs : List Value} (r : Reps W ps vs) :
    Sat X W (call (.builtin id) vs []) σ (bi3 C c code groups fuel id ps σ) := by
  intro hn
  unfold bi3 at hn ⊢
  split at hn
  · rename_i h; subst h
    split at hn
    · rename_i p a
      split at hn
      · rename_i hx
        rw [Bool.and_eq_true] at hx
        have ha := eq_of_beq hx.2
        subst ha
        cases r with | cons r1 r => cases r with | cons r2 r => cases r with | nil => cases r2 with | cst _ =>
        exact isi_sat ok hC r1 hx.1 hn
      · exact (hn rfl).elim
    · exact (hn rfl).elim
  · split at hn
    · rename_i h; subst h
      split at hn
      · cases r with | cons r1 r => cases r with | nil => cases r1 with | v r1 => cases r1 with | str t hs hz =>
        exact repr_sat hn
      · exact (hn rfl).elim
    · rename_i h1 h2
      rw [if_neg h1, if_neg h2]
      exact bi2_sat ok hP id r hn
/-- the expressions of a kind apart -/
def exE (E : Ev) (F : Fn) (e : Expr) (σ : St) : Out PV := match e with
  | .JoinedStr .. => fstrE E F e σ
  | .Subscript .. => sliceE E F e σ
  | _ => .no
theorem exE_sat {E : Ev} (S : Got X E) (e : Expr) : Sat X W (eval e X.env) σ (exE E F e σ) := by
  unfold exE
  split
  · exact fstrE_sat S _
  · exact sliceE_sat S _
  · exact fun hn => (hn rfl).elim
end
end Rk
end
section
open PySem PySem.W PyProof.Rows PySem.Calls Mine
set_option maxRecDepth 100000
set_option maxHeartbeats 0
namespace Rk
/-- the base objects that the law's call looks at -/
def addrs : List Addr := [mainGlobals, cStatics, 46, 60, 67, 75, 83, 118, 126, 134, 141, 148, 155, 162, 176, 184, 191, 198, 205, 212, 219, 226, 233, 240, 442, 449, 456, 463, 470, 475, 482, 489, 61, 68, 70, 76, 77, 84, 85, 88, 89, 90, 91, 102, 103, 107, 111, 112, 119, 120, 127, 128, 135, 142, 149, 156, 163, 177, 178, 185, 192, 199, 206, 213, 220, 227, 234, 241, 243, 244, 443, 450, 457, 464, 471, 476, 483, 490]
def frag (h : Heap) : Frag := addrs.filterMap fun a => (h.get? a).map fun o => (a, o)
noncomputable def K02 (P : Params) : Frag := frag (H1 P)
theorem lookup_frag {h : Heap} {a : Addr} {o : Obj} : ∀ as : List Addr, (as.filterMap fun a => (h.get? a).map fun o => (a, o)).lookup a = some o → h.get? a = some o
  | [], e => by cases e
  | b :: r, e => by
    cases hb : h.get? b with
    | none =>
      rw [List.filterMap_cons, hb] at e
      exact lookup_frag r e
    | some q =>
      rw [List.filterMap_cons, hb] at e
      dsimp only [Option.map] at e
      rw [List.lookup_cons] at e
      cases hab : a == b with
      | true =>
        rw [hab] at e
        cases e
        rw [eq_of_beq hab]; exact hb
      | false =>
        rw [hab] at e
        exact lookup_frag r e
theorem frag_in (h : Heap) : (frag h).In h := fun _ _ e => lookup_frag _ e
theorem k_tok (P : Params) : nsIn (K02 P) mainGlobals (Str.ofString "tokenize_rule") = some (some (.ref 119)) := by kernel_rfl
theorem k_len (P : Params) : nsIn (K02 P) mainGlobals (Str.ofString "len") = some none := by kernel_rfl
theorem k_isi (P : Params) : kitOne (K02 P) (.type "list") (.ref 89) = some false := by kernel_rfl
end Rk
end
section
open PySem PySem.W PyProof.Rows PySem.Calls Mine
set_option maxRecDepth 100000
set_option maxHeartbeats 0
namespace Rk
def globs02 : List (Str × Value) := [(Str.ofString "test_next_token", .ref 127), (Str.ofString "skip_token", .ref 135), (Str.ofString "value_node", .ref 142), (Str.ofString "ident_node", .ref 149), (Str.ofString "range_list_node", .ref 156), (Str.ofString "negate", .ref 163), (Str.ofString "_VARS", .ref 107), (Str.ofString "RuleError", .ref 103), (Str.ofString "_RULES", .ref 112), (Str.ofString "tokenize_rule", .ref 119), (Str.ofString "PluralRule", .ref 89), (Str.ofString "_Parser", .ref 244), (Str.ofString "_plural_tags", .ref 46), (Str.ofString "_law_bases", .ref 443), (Str.ofString "_law_words", .ref 450), (Str.ofString "_law_values", .ref 457), (Str.ofString "_law_parts", .ref 464), (Str.ofString "_law_span", .ref 471), (Str.ofString "_law_relation", .ref 476), (Str.ofString "_law_taken", .ref 483)]
theorem map_lookup {β γ : Type} {f : Str → γ} {g : β → γ} : ∀ {l : List (Str × β)}, l.map (fun q => f q.1) = l.map (fun q => g q.2) → ∀ {x : Str} {v : β}, l.lookup x = some v → f x = g v
  | [], _, x, v, e => by cases e
  | q :: r, h, x, v, e => by
    rw [List.lookup_cons] at e
    cases hx : x == q.1 with
    | true =>
      rw [hx] at e
      cases e
      rw [eq_of_beq hx]; exact (List.cons.inj h).1
    | false =>
      rw [hx] at e
      exact map_lookup (List.cons.inj h).2 e
theorem globs02_map (P : Params) : globs02.map (fun q => nsIn (K02 P) mainGlobals q.1) = globs02.map (fun q => some (some q.2)) := by kernel_rfl
theorem globs02_ok (P : Params) {x : Str} {v : Value} (e : globs02.lookup x = some v) : nsIn (K02 P) mainGlobals x = some (some v) := map_lookup (f := fun x => nsIn (K02 P) mainGlobals x) (g := fun v => some (some v)) (globs02_map P) e
def bis02 : List (Str × Value) := [(Str.ofString "len", .builtin "len"), (Str.ofString "int", .type "int"), (Str.ofString "set", .type "set"), (Str.ofString "range", .type "range"), (Str.ofString "isinstance", .builtin "isinstance"), (Str.ofString "repr", .builtin "repr"), (Str.ofString "sorted", .builtin "sorted"), (Str.ofString "frozenset", .type "frozenset"), (Str.ofString "zip", .type "zip"), (Str.ofString "ValueError", .type "ValueError")]
theorem bis02_map (P : Params) : bis02.map (fun q => nsIn (K02 P) mainGlobals q.1) = bis02.map (fun _ => some none) := by kernel_rfl
theorem bis02_boot : bis02.map (fun q => bootBuiltins q.1) = bis02.map (fun q => some q.2) := by kernel_rfl
theorem bis02_name : bis02.map (fun q => q.1 == ("__name__" : Str)) = bis02.map (fun _ => false) := by kernel_rfl
theorem bis02_ok (P : Params) {x : Str} {v : Value} (e : bis02.lookup x = some v) : nsIn (K02 P) mainGlobals x = some none ∧ bootBuiltins x = some v ∧ x ≠ "__name__" :=
  ⟨map_lookup (f := fun x => nsIn (K02 P) mainGlobals x) (g := fun _ => some none) (bis02_map P) e, map_lookup (f := fun x => bootBuiltins x) (g := fun v => some v) bis02_boot e,
    fun h => by
      have q := map_lookup (f := fun x => x == ("__name__" : Str)) (g := fun _ => false) bis02_name e
      subst h
      revert q; decide⟩
end Rk
end
section
open PySem PySem.W PyProof.Rows PySem.Calls Mine
set_option maxRecDepth 100000
set_option maxHeartbeats 0
namespace Rk
noncomputable def fdOf (P₀ : Params) (a : Addr) : Option FuncData := match (H1 P₀).get? a with
  | some o => (match o.data with
    | .func fd => some fd
    | _ => none)
  | none => none
noncomputable def fnI (P₀ : Params) (a : Addr) (dfl : List (V × Value)) (mt keepR : Bool) : FnI := match fdOf P₀ a with
  | some fd => { nm := fd.qualname, scope := fd.scope, cd := fd.code, names := fd.params.args.map (·.arg), dfl := dfl, body := (match fd.body with | .stmts b => b | _ => []), mt := mt, keepR := keepR }
  | none => { nm := ⟨#[]⟩, scope := default, cd := .none, names := [], dfl := [], body := [], mt := false, keepR := false }
/-- the defs of the plural rules and of the law -/
noncomputable def fns02 (P₀ : Params) : List (Addr × FnI) := [
  (127, fnI P₀ 127 [(.none, .none)] false false), (135, fnI P₀ 135 [(.none, .none)] false false), (142, fnI P₀ 142 [] false false), (149, fnI P₀ 149 [] false false), (156, fnI P₀ 156 [] false false), (163, fnI P₀ 163 [] false false),
  (119, fnI P₀ 119 [] true true),
  (177, fnI P₀ 177 [] false false), (185, fnI P₀ 185 [(.none, .none), (.none, .none)] false false), (192, fnI P₀ 192 [] false false), (199, fnI P₀ 199 [] false false), (206, fnI P₀ 206 [] false false), (213, fnI P₀ 213 [] false false), (220, fnI P₀ 220 [] false false), (227, fnI P₀ 227 [] true false), (234, fnI P₀ 234 [] false false), (241, fnI P₀ 241 [] false false),
  (61, fnI P₀ 61 [] true false), (68, fnI P₀ 68 [] false false), (84, fnI P₀ 84 [] false false),
  (443, fnI P₀ 443 [] false false), (450, fnI P₀ 450 [] false false), (457, fnI P₀ 457 [] false false), (464, fnI P₀ 464 [] true false), (471, fnI P₀ 471 [] false false), (476, fnI P₀ 476 [] false false), (483, fnI P₀ 483 [] false false), (490, fnI P₀ 490 [] false false)]
theorem fns02_code (P P₀ : Params) : (fns02 P₀).map (fun q => codeIn (K02 P) q.2.cd q.2.nm) = (fns02 P₀).map (fun _ => true) := by kernel_rfl
theorem fns02_loc (P₀ : Params) : (fns02 P₀).map (fun q => q.2.names.all fun x => q.2.scope.names.lookup x == some .local) = (fns02 P₀).map (fun _ => true) := by kernel_rfl
theorem fns02_gen (P₀ : Params) : (fns02 P₀).map (fun q => q.2.scope.isCoroutine || q.2.scope.isGenerator) = (fns02 P₀).map (fun _ => false) := by kernel_rfl
theorem fns02_cell (P₀ : Params) : (fns02 P₀).map (fun q => q.2.scope.names.all fun x => !(x.2 == .cell)) = (fns02 P₀).map (fun _ => true) := by kernel_rfl
end Rk
end
section
open PySem PySem.W PyProof.Rows PySem.Calls Mine
set_option maxRecDepth 100000
set_option maxHeartbeats 0
namespace Rk
noncomputable def fd0 (P : Params) (a : Addr) : FuncData := match fdOf P a with
  | some fd => fd
  | none => fnOf ⟨#[]⟩ ⟨#[]⟩ default [] default .none .none .none .none none .none .none
noncomputable def ob0 (P : Params) (a : Addr) : Obj := match (H1 P).get? a with
  | some o => o
  | none => ⟨.none, none, .fields #[], #[]⟩
noncomputable def fdq (P : Params) (q : Addr × FnI) : FuncData := fnOf (fd0 P q.1).name q.2.nm (fd0 P q.1).params q.2.body q.2.scope (fd0 P q.1).defaults (fd0 P q.1).kwdefaults (fd0 P q.1).doc (fd0 P q.1).pyModule (fd0 P q.1).annotations q.2.cd (fd0 P q.1).closureTuple
theorem fns02_form (P P₀ : Params) : (fns02 P₀).map (fun q => (K02 P).lookup q.1) = (fns02 P₀).map (fun q => some ⟨(ob0 P q.1).cls, (ob0 P q.1).dict, .func (fdq P q), (ob0 P q.1).slots⟩) := by kernel_rfl
theorem bind142 (P P₀ : Params) (v : Value) : bindArgs (fdq P (142, fnI P₀ 142 [] false false)) ⟨[v], []⟩ = pure ((fnI P₀ 142 [] false false).names.zip [v]) := by kernel_rfl
end Rk
end
section
open PySem PySem.W PyProof.Rows PySem.Calls Mine
set_option maxRecDepth 100000
set_option maxHeartbeats 0
namespace Rk
theorem map_at {α γ : Type} {f g : α → γ} : ∀ {l : List α}, l.map f = l.map g → ∀ x ∈ l, f x = g x
  | [], _, x, m => by cases m
  | y :: r, h, x, m => by
    rcases List.mem_cons.mp m with rfl | m
    · exact (List.cons.inj h).1
    · exact map_at (List.cons.inj h).2 x m
theorem fns02_kind (P₀ : Params) : (fns02 P₀).map (fun q => q.2.scope.kind == .function) = (fns02 P₀).map (fun _ => true) := by kernel_rfl
/-- defs without defaults that take one value -/
theorem bindS (P P₀ : Params) (v : Value) : ((fns02 P₀).filter fun q => q.2.names.length == 1).map (fun q => bindArgs (fdq P q) ⟨[v], []⟩) = ((fns02 P₀).filter fun q => q.2.names.length == 1).map (fun q => pure (q.2.names.zip [v])) := by kernel_rfl
theorem bindS2 (P P₀ : Params) (u v : Value) : ((fns02 P₀).filter fun q => q.2.names.length == 2).map (fun q => bindArgs (fdq P q) ⟨[u, v], []⟩) = ((fns02 P₀).filter fun q => q.2.names.length == 2).map (fun q => pure (q.2.names.zip [u, v])) := by kernel_rfl
theorem bindS3 (P P₀ : Params) (u v x : Value) : ((fns02 P₀).filter fun q => q.2.names.length == 3 && q.2.dfl.length == 0).map (fun q => bindArgs (fdq P q) ⟨[u, v, x], []⟩) = ((fns02 P₀).filter fun q => q.2.names.length == 3 && q.2.dfl.length == 0).map (fun q => pure (q.2.names.zip [u, v, x])) := by kernel_rfl
end Rk
end
section
open PySem PySem.W PyProof.Rows PySem.Calls Mine
set_option maxRecDepth 100000
set_option maxHeartbeats 0
namespace Rk
theorem fnOk_plain {G : Pg} (hG : G.K = K02) {P₀ : Params} {q : Addr × FnI} (hq : q ∈ fns02 P₀) (hd : q.2.dfl = []) (hb : ∀ P vs, vs.length = q.2.names.length → bindArgs (fdq P q) ⟨vs, []⟩ = pure (q.2.names.zip vs)) : FnOk G q.1 q.2 where
  obj := fun P => by
    have e1 := map_at (f := fun q => (K02 P).lookup q.1) (fns02_form P P₀) q hq
    have e2 := map_at (f := fun q => codeIn (K02 P) q.2.cd q.2.nm) (g := fun _ => true) (fns02_code P P₀) q hq
    rw [hG]
    refine ⟨_, _, _, _, _, _, _, _, _, _, _, e1, e2, fun s vs _ h1 h2 => ?_⟩
    rw [hd] at h2
    have e3 : dflts q.2 vs.length = [] := by unfold dflts; rw [hd, List.drop_nil]
    rw [e3, List.map_nil, List.append_nil]
    exact BindsTo.of_eq (hb P vs (Nat.le_antisymm h1 h2))
  loc := fun x hx => by
    have e := map_at (f := fun q : Addr × FnI => q.2.names.all fun x => q.2.scope.names.lookup x == some .local) (g := fun _ => true) (fns02_loc P₀) q hq
    exact eq_of_beq (List.all_eq_true.mp e x hx)
  kind := eq_of_beq (map_at (f := fun q : Addr × FnI => q.2.scope.kind == .function) (g := fun _ => true) (fns02_kind P₀) q hq)
  co := by
    have e := map_at (f := fun q : Addr × FnI => q.2.scope.isCoroutine || q.2.scope.isGenerator) (g := fun _ => false) (fns02_gen P₀) q hq
    exact (Bool.or_eq_false_iff.mp e).1
  gen := by
    have e := map_at (f := fun q : Addr × FnI => q.2.scope.isCoroutine || q.2.scope.isGenerator) (g := fun _ => false) (fns02_gen P₀) q hq
    exact (Bool.or_eq_false_iff.mp e).2
  cell := fun x hx h => by
    have e := map_at (f := fun q : Addr × FnI => q.2.scope.names.all fun x => !(x.2 == .cell)) (g := fun _ => true) (fns02_cell P₀) q hq
    have e := List.all_eq_true.mp e x hx
    rw [h] at e
    revert e; decide
  dfl := fun y hy => by rw [hd] at hy; cases hy
end Rk
end
section
open PySem PySem.W PyProof.Rows PySem.Calls Mine
set_option maxRecDepth 100000
set_option maxHeartbeats 0
namespace Rk
/-- the rows without defaults that take n values -/
noncomputable def rowsN (P₀ : Params) (n : Nat) : List (Addr × FnI) := (fns02 P₀).filter fun q => q.2.names.length == n && q.2.dfl.length == 0
theorem bindsN0 (P P₀ : Params) : (rowsN P₀ 0).map (fun q => bindArgs (fdq P q) ⟨[], []⟩) = (rowsN P₀ 0).map (fun q => pure (q.2.names.zip [])) := by kernel_rfl
theorem bindsN1 (P P₀ : Params) (v : Value) : (rowsN P₀ 1).map (fun q => bindArgs (fdq P q) ⟨[v], []⟩) = (rowsN P₀ 1).map (fun q => pure (q.2.names.zip [v])) := by kernel_rfl
theorem bindsN2 (P P₀ : Params) (u v : Value) : (rowsN P₀ 2).map (fun q => bindArgs (fdq P q) ⟨[u, v], []⟩) = (rowsN P₀ 2).map (fun q => pure (q.2.names.zip [u, v])) := by kernel_rfl
theorem bindsN3 (P P₀ : Params) (u v x : Value) : (rowsN P₀ 3).map (fun q => bindArgs (fdq P q) ⟨[u, v, x], []⟩) = (rowsN P₀ 3).map (fun q => pure (q.2.names.zip [u, v, x])) := by kernel_rfl
theorem rows_arity (P₀ : Params) : (fns02 P₀).map (fun q => q.2.dfl.length == 0) = (fns02 P₀).map (fun q => Nat.ble q.2.names.length 3 && q.2.dfl.length == 0) := by kernel_rfl
theorem fnOk_row {G : Pg} (hG : G.K = K02) {P₀ : Params} {q : Addr × FnI} (hq : q ∈ fns02 P₀) (hd : q.2.dfl = []) : FnOk G q.1 q.2 := by
  refine fnOk_plain hG hq hd fun P vs hv => ?_
  have e := map_at (f := fun q : Addr × FnI => q.2.dfl.length == 0) (g := fun q : Addr × FnI => Nat.ble q.2.names.length 3 && q.2.dfl.length == 0) (rows_arity P₀) q hq
  have hz : (q.2.dfl.length == 0) = true := by rw [hd]; rfl
  have mem : ∀ n, q.2.names.length = n → q ∈ rowsN P₀ n := fun n hn => List.mem_filter.mpr ⟨hq, by rw [hn, hz]; simp⟩
  match vs, hv with
  | [], hv => exact map_at (f := fun q => bindArgs (fdq P q) ⟨[], []⟩) (g := fun q => pure (q.2.names.zip [])) (bindsN0 P P₀) q (mem 0 hv.symm)
  | [v], hv => exact map_at (f := fun q => bindArgs (fdq P q) ⟨[v], []⟩) (g := fun q => pure (q.2.names.zip [v])) (bindsN1 P P₀ v) q (mem 1 hv.symm)
  | [u, v], hv => exact map_at (f := fun q => bindArgs (fdq P q) ⟨[u, v], []⟩) (g := fun q => pure (q.2.names.zip [u, v])) (bindsN2 P P₀ u v) q (mem 2 hv.symm)
  | [u, v, x], hv => exact map_at (f := fun q => bindArgs (fdq P q) ⟨[u, v, x], []⟩) (g := fun q => pure (q.2.names.zip [u, v, x])) (bindsN3 P P₀ u v x) q (mem 3 hv.symm)
  | _ :: _ :: _ :: _ :: r, hv =>
    rw [hz, ← hv, Bool.and_true] at e
    have := Nat.le_of_ble_eq_true e.symm
    simp at this
end Rk
end
section
open PySem PySem.W PyProof.Rows PySem.Calls Mine
set_option maxRecDepth 100000
set_option maxHeartbeats 0
namespace Rk
theorem d120 (P : Params) : (K02 P).lookup 120 = some ⟨.type "tuple", none, .seq #[.none] 0, #[]⟩ := by kernel_rfl
theorem d127 (P P₀ : Params) : (fdq P (127, fnI P₀ 127 [(.none, .none)] false false)).defaults = .ref 120 := by kernel_rfl
theorem b127 (P P₀ : Params) {s : Shared} (h : (K02 P).In s.heap) (u v x : Value) : BindsTo s (fdq P (127, fnI P₀ 127 [(.none, .none)] false false)) ⟨[u, v, x], []⟩ ((fnI P₀ 127 [(.none, .none)] false false).names.zip [u, v, x]) :=
  BindsTo.of_defaults (T := 120) (d127 P P₀) (h _ _ (d120 P)) rfl rfl (by kernel_rfl)
theorem b127' (P P₀ : Params) {s : Shared} (h : (K02 P).In s.heap) (u v : Value) : BindsTo s (fdq P (127, fnI P₀ 127 [(.none, .none)] false false)) ⟨[u, v], []⟩ ((fnI P₀ 127 [(.none, .none)] false false).names.zip [u, v, .none]) :=
  BindsTo.of_defaults (T := 120) (d127 P P₀) (h _ _ (d120 P)) rfl rfl (by kernel_rfl)
theorem d128 (P : Params) : (K02 P).lookup 128 = some ⟨.type "tuple", none, .seq #[.none] 0, #[]⟩ := by kernel_rfl
theorem d135 (P P₀ : Params) : (fdq P (135, fnI P₀ 135 [(.none, .none)] false false)).defaults = .ref 128 := by kernel_rfl
theorem b135 (P P₀ : Params) {s : Shared} (h : (K02 P).In s.heap) (u v x : Value) : BindsTo s (fdq P (135, fnI P₀ 135 [(.none, .none)] false false)) ⟨[u, v, x], []⟩ ((fnI P₀ 135 [(.none, .none)] false false).names.zip [u, v, x]) :=
  BindsTo.of_defaults (T := 128) (d135 P P₀) (h _ _ (d128 P)) rfl rfl (by kernel_rfl)
theorem b135' (P P₀ : Params) {s : Shared} (h : (K02 P).In s.heap) (u v : Value) : BindsTo s (fdq P (135, fnI P₀ 135 [(.none, .none)] false false)) ⟨[u, v], []⟩ ((fnI P₀ 135 [(.none, .none)] false false).names.zip [u, v, .none]) :=
  BindsTo.of_defaults (T := 128) (d135 P P₀) (h _ _ (d128 P)) rfl rfl (by kernel_rfl)
end Rk
end
section
open PySem PySem.W PyProof.Rows PySem.Calls Mine
set_option maxRecDepth 100000
set_option maxHeartbeats 0
namespace Rk
theorem fnOk_dfl {G : Pg} (hG : G.K = K02) {P₀ : Params} {q : Addr × FnI} (hq : q ∈ fns02 P₀)
    (hb : ∀ P (s : Shared) vs, (K02 P).In s.heap → vs.length ≤ q.2.names.length → q.2.names.length ≤ vs.length + q.2.dfl.length → BindsTo s (fdq P q) ⟨vs, []⟩ (q.2.names.zip (vs ++ (dflts q.2 vs.length).map (·.2)))) (hd : ∀ y ∈ q.2.dfl, VRep [] y.1 y.2) : FnOk G q.1 q.2 where
  obj := fun P => by
    have e1 := map_at (f := fun q => (K02 P).lookup q.1) (fns02_form P P₀) q hq
    have e2 := map_at (f := fun q => codeIn (K02 P) q.2.cd q.2.nm) (g := fun _ => true) (fns02_code P P₀) q hq
    rw [hG]
    exact ⟨_, _, _, _, _, _, _, _, _, _, _, e1, e2, fun s vs hK h1 h2 => hb P s vs hK h1 h2⟩
  loc := fun x hx => by
    have e := map_at (f := fun q : Addr × FnI => q.2.names.all fun x => q.2.scope.names.lookup x == some .local) (g := fun _ => true) (fns02_loc P₀) q hq
    exact eq_of_beq (List.all_eq_true.mp e x hx)
  kind := eq_of_beq (map_at (f := fun q : Addr × FnI => q.2.scope.kind == .function) (g := fun _ => true) (fns02_kind P₀) q hq)
  co := by
    have e := map_at (f := fun q : Addr × FnI => q.2.scope.isCoroutine || q.2.scope.isGenerator) (g := fun _ => false) (fns02_gen P₀) q hq
    exact (Bool.or_eq_false_iff.mp e).1
  gen := by
    have e := map_at (f := fun q : Addr × FnI => q.2.scope.isCoroutine || q.2.scope.isGenerator) (g := fun _ => false) (fns02_gen P₀) q hq
    exact (Bool.or_eq_false_iff.mp e).2
  cell := fun x hx h => by
    have e := map_at (f := fun q : Addr × FnI => q.2.scope.names.all fun x => !(x.2 == .cell)) (g := fun _ => true) (fns02_cell P₀) q hq
    have e := List.all_eq_true.mp e x hx
    rw [h] at e
    revert e; decide
  dfl := hd
theorem d178 (P : Params) : (K02 P).lookup 178 = some ⟨.type "tuple", none, .seq #[.none, .none] 0, #[]⟩ := by kernel_rfl
theorem d185 (P P₀ : Params) : (fdq P (185, fnI P₀ 185 [(.none, .none), (.none, .none)] false false)).defaults = .ref 178 := by kernel_rfl
theorem b185 (P P₀ : Params) {s : Shared} (h : (K02 P).In s.heap) (u v x y : Value) : BindsTo s (fdq P (185, fnI P₀ 185 [(.none, .none), (.none, .none)] false false)) ⟨[u, v, x, y], []⟩ ((fnI P₀ 185 [(.none, .none), (.none, .none)] false false).names.zip [u, v, x, y]) :=
  BindsTo.of_defaults (T := 178) (d185 P P₀) (h _ _ (d178 P)) rfl rfl (by kernel_rfl)
theorem b185' (P P₀ : Params) {s : Shared} (h : (K02 P).In s.heap) (u v x : Value) : BindsTo s (fdq P (185, fnI P₀ 185 [(.none, .none), (.none, .none)] false false)) ⟨[u, v, x], []⟩ ((fnI P₀ 185 [(.none, .none), (.none, .none)] false false).names.zip [u, v, x, .none]) :=
  BindsTo.of_defaults (T := 178) (d185 P P₀) (h _ _ (d178 P)) rfl rfl (by kernel_rfl)
theorem b185'' (P P₀ : Params) {s : Shared} (h : (K02 P).In s.heap) (u v : Value) : BindsTo s (fdq P (185, fnI P₀ 185 [(.none, .none), (.none, .none)] false false)) ⟨[u, v], []⟩ ((fnI P₀ 185 [(.none, .none), (.none, .none)] false false).names.zip [u, v, .none, .none]) :=
  BindsTo.of_defaults (T := 178) (d185 P P₀) (h _ _ (d178 P)) rfl rfl (by kernel_rfl)
theorem l127 (P₀ : Params) : (fnI P₀ 127 [(.none, .none)] false false).names.length = 3 := by kernel_rfl
theorem l135 (P₀ : Params) : (fnI P₀ 135 [(.none, .none)] false false).names.length = 3 := by kernel_rfl
theorem l185 (P₀ : Params) : (fnI P₀ 185 [(.none, .none), (.none, .none)] false false).names.length = 4 := by kernel_rfl
theorem f127 (P₀ : Params) : (fnI P₀ 127 [(.none, .none)] false false).dfl = [(.none, .none)] := by kernel_rfl
theorem f135 (P₀ : Params) : (fnI P₀ 135 [(.none, .none)] false false).dfl = [(.none, .none)] := by kernel_rfl
theorem f185 (P₀ : Params) : (fnI P₀ 185 [(.none, .none), (.none, .none)] false false).dfl = [(.none, .none), (.none, .none)] := by kernel_rfl
theorem dflts_of {f : FnI} {n k : Nat} {l : List (V × Value)} (h1 : f.names.length = n) (h2 : f.dfl = l) : dflts f k = l.drop (l.length - (n - k)) := by
  unfold dflts; rw [h1, h2]
theorem none_rep {l : List (V × Value)} (h : ∀ y ∈ l, y = (.none, .none)) : ∀ y ∈ l, VRep [] y.1 y.2 := fun y hy => by rw [h y hy]; exact .none
theorem fnOk127 {G : Pg} (hG : G.K = K02) (P₀ : Params) : FnOk G 127 (fnI P₀ 127 [(.none, .none)] false false) := by
  refine fnOk_dfl (q := (127, fnI P₀ 127 [(.none, .none)] false false)) hG (P₀ := P₀) (by unfold fns02; simp) (fun P s vs hK h1 h2 => ?_) (by show ∀ y ∈ (fnI P₀ 127 [(.none, .none)] false false).dfl, _; rw [f127]; exact none_rep (by simp))
  replace h1 : vs.length ≤ 3 := by rw [← l127 P₀]; exact h1
  replace h2 : 3 ≤ vs.length + 1 := by have := h2; rw [show (127, fnI P₀ 127 [(.none, .none)] false false).2.names.length = 3 from l127 P₀, show (127, fnI P₀ 127 [(.none, .none)] false false).2.dfl = [(.none, .none)] from f127 P₀] at this; exact this
  rw [dflts_of (l127 P₀) (f127 P₀)]
  match vs, h1, h2 with
  | [u, v], _, _ => exact b127' P P₀ hK u v
  | [u, v, x], _, _ => exact b127 P P₀ hK u v x
theorem fnOk135 {G : Pg} (hG : G.K = K02) (P₀ : Params) : FnOk G 135 (fnI P₀ 135 [(.none, .none)] false false) := by
  refine fnOk_dfl (q := (135, fnI P₀ 135 [(.none, .none)] false false)) hG (P₀ := P₀) (by unfold fns02; simp) (fun P s vs hK h1 h2 => ?_) (by show ∀ y ∈ (fnI P₀ 135 [(.none, .none)] false false).dfl, _; rw [f135]; exact none_rep (by simp))
  replace h1 : vs.length ≤ 3 := by rw [← l135 P₀]; exact h1
  replace h2 : 3 ≤ vs.length + 1 := by have := h2; rw [show (135, fnI P₀ 135 [(.none, .none)] false false).2.names.length = 3 from l135 P₀, show (135, fnI P₀ 135 [(.none, .none)] false false).2.dfl = [(.none, .none)] from f135 P₀] at this; exact this
  rw [dflts_of (l135 P₀) (f135 P₀)]
  match vs, h1, h2 with
  | [u, v], _, _ => exact b135' P P₀ hK u v
  | [u, v, x], _, _ => exact b135 P P₀ hK u v x
theorem fnOk185 {G : Pg} (hG : G.K = K02) (P₀ : Params) : FnOk G 185 (fnI P₀ 185 [(.none, .none), (.none, .none)] false false) := by
  refine fnOk_dfl (q := (185, fnI P₀ 185 [(.none, .none), (.none, .none)] false false)) hG (P₀ := P₀) (by unfold fns02; simp) (fun P s vs hK h1 h2 => ?_) (by show ∀ y ∈ (fnI P₀ 185 [(.none, .none), (.none, .none)] false false).dfl, _; rw [f185]; exact none_rep (by simp))
  replace h1 : vs.length ≤ 4 := by rw [← l185 P₀]; exact h1
  replace h2 : 4 ≤ vs.length + 2 := by have := h2; rw [show (185, fnI P₀ 185 [(.none, .none), (.none, .none)] false false).2.names.length = 4 from l185 P₀, show (185, fnI P₀ 185 [(.none, .none), (.none, .none)] false false).2.dfl = [(.none, .none), (.none, .none)] from f185 P₀] at this; exact this
  rw [dflts_of (l185 P₀) (f185 P₀)]
  match vs, h1, h2 with
  | [u, v], _, _ => exact b185'' P P₀ hK u v
  | [u, v, x], _, _ => exact b185' P P₀ hK u v x
  | [u, v, x, y], _, _ => exact b185 P P₀ hK u v x y
theorem fns02_split (P₀ : Params) : (fns02 P₀).map (fun q => q.2.dfl.isEmpty || q.1 == 127 || q.1 == 135 || q.1 == 185) = (fns02 P₀).map (fun _ => true) := by kernel_rfl
theorem lookup_mem {α : Type} [DecidableEq α] {β : Type} {a : Nat} {b : β} : ∀ {l : List (Nat × β)}, l.lookup a = some b → (a, b) ∈ l
  | [], h => by cases h
  | (c, d) :: r, h => by
    rw [List.lookup_cons] at h
    cases hac : a == c with
    | true => rw [hac] at h; cases h; rw [eq_of_beq hac]; exact .head _
    | false => rw [hac] at h; exact .tail _ (lookup_mem (α := α) h)
theorem k127 (P₀ : Params) : (fns02 P₀).lookup 127 = some (fnI P₀ 127 [(.none, .none)] false false) := by kernel_rfl
theorem k135 (P₀ : Params) : (fns02 P₀).lookup 135 = some (fnI P₀ 135 [(.none, .none)] false false) := by kernel_rfl
theorem k185 (P₀ : Params) : (fns02 P₀).lookup 185 = some (fnI P₀ 185 [(.none, .none), (.none, .none)] false false) := by kernel_rfl
theorem fns02_ok {G : Pg} (hG : G.K = K02) (P₀ : Params) {a : Addr} {f : FnI} (h : (fns02 P₀).lookup a = some f) : FnOk G a f := by
  have hm := lookup_mem (α := Nat) h
  have e := map_at (f := fun q : Addr × FnI => q.2.dfl.isEmpty || q.1 == 127 || q.1 == 135 || q.1 == 185) (g := fun _ => true) (fns02_split P₀) _ hm
  simp only [Bool.or_eq_true, beq_iff_eq] at e
  rcases e with ((e | e) | e) | e
  · exact fnOk_row hG (q := (a, f)) hm (by simpa using e)
  · subst e; rw [k127] at h; cases h; exact fnOk127 hG P₀
  · subst e; rw [k135] at h; cases h; exact fnOk135 hG P₀
  · subst e; rw [k185] at h; cases h; exact fnOk185 hG P₀
end Rk
end
section
open PySem PySem.W PyProof.Rows PySem.Calls Mine
set_option maxRecDepth 100000
set_option maxHeartbeats 0
namespace Rk
def cl89 : ClI := { init := 61, attrs := [], slots := [(Str.ofString "abstract", 1, 91)], meths := [], props := [(Str.ofString "tags", 85, 84)], cms := [(Str.ofString "parse", 70, 68)] }
def cl244 : ClI := { init := 177, attrs := [Str.ofString "tokens", Str.ofString "ast"], slots := [], meths := [(Str.ofString "expect", 185), (Str.ofString "condition", 192), (Str.ofString "and_condition", 199), (Str.ofString "relation", 206), (Str.ofString "newfangled_relation", 213), (Str.ofString "range_or_value", 220), (Str.ofString "range_list", 227), (Str.ofString "expr", 234), (Str.ofString "value", 241)], props := [], cms := [] }
theorem c_cls (P : Params) : [isClsIn (K02 P) 89, isClsIn (K02 P) 244] = [true, true] := by kernel_rfl
theorem c_get (P : Params) (name : Str) : plainGet (K02 P) 89 name = true := by kernel_rfl
theorem c_get' (P : Params) (name : Str) : plainGet (K02 P) 244 name = true := by kernel_rfl
theorem c_set (P : Params) : [findIn (K02 P) (.ref 89) "__setattr__", findIn (K02 P) (.ref 244) "__setattr__"] = [some (some (.builtin "object.__setattr__")), some (some (.builtin "object.__setattr__"))] := by kernel_rfl
theorem c_over (P : Params) : [plainOver (K02 P) 89, plainOver (K02 P) 244] = [true, true] := by kernel_rfl
theorem c_make (P : Params) : [makesIn (K02 P) 89, makesIn (K02 P) 244, isFn (K02 P) (.ref 61), isFn (K02 P) (.ref 177), keepIn (K02 P) (.ref 89), keepIn (K02 P) (.ref 244)] = [true, true, true, true, true, true] := by kernel_rfl
theorem c_init (P : Params) : [findIn (K02 P) (.ref 89) "__init__", findIn (K02 P) (.ref 244) "__init__"] = [some (some (.ref 61)), some (some (.ref 177))] := by kernel_rfl
theorem c_attrs (P : Params) : cl244.attrs.map (fun n => (hasDictIn (K02 P) 244, (findIn (K02 P) (.ref 244) n).map (noGet (K02 P)), takerIn (K02 P) 244 n)) = cl244.attrs.map (fun _ => (true, some true, some none)) := by kernel_rfl
theorem c_meths (P : Params) : cl244.meths.map (fun q => (findIn (K02 P) (.ref 244) q.1, isFn (K02 P) (.ref q.2), keepIn (K02 P) (.ref q.2))) = cl244.meths.map (fun q => (some (some (.ref q.2)), true, true)) := by kernel_rfl
theorem c_slot (P : Params) : (findIn (K02 P) (.ref 89) "abstract", specialIn (K02 P) (.ref 91) "__get__", takesIn (K02 P) (.ref 91), slotIn (K02 P) 91 89, takerIn (K02 P) 89 "abstract", typeIn (K02 P) (.ref 91)) = (some (some (.ref 91)), some (some (.builtin "member_descriptor.__get__")), some true, some 1, some (some (.ref 91)), some (.type "member_descriptor")) := by kernel_rfl
theorem c_prop (P : Params) : (findIn (K02 P) (.ref 89) "tags", specialIn (K02 P) (.ref 85) "__get__", takesIn (K02 P) (.ref 85), (recIn (K02 P) 85 "property").map (·.head?)) = (some (some (.ref 85)), some (some (.builtin "property.__get__")), some true, some (some (.ref 84))) := by kernel_rfl
theorem c_cm (P : Params) : (specialIn (K02 P) (.ref 89) "__getattribute__", typeIn (K02 P) (.ref 89), readsIn (K02 P) 89 (.type "type"), findCls (K02 P) (.ref 89) (.type "type") "parse", (recIn (K02 P) 70 "classmethod").map (·.head?), fnIn (K02 P) 68) = (some (some (.builtin "type.__getattribute__")), some (.type "type"), true, some (.get (.builtin "classmethod.__get__") (.ref 70) .none (.ref 89)), some (some (.ref 68)), true) := by kernel_rfl
end Rk
end
section
open PySem PySem.W PyProof.Rows PySem.Calls
set_option maxRecDepth 100000
namespace Rk
-- zip of two tuples
section
variable {prog : Program} {w : World} {A : Around} {E : Value → Shared → Prop} {s : Shared}
theorem nextOf_tup_item {it t : Addr} {i : Nat} {items : Array Value} {x : Value} {Q : Value → Shared → Prop} (hit : s.heap.IsTupleIter it t i)
    (ht : s.heap.IsTuple t items) (hx : items[i]? = some x)
    (hQ : ∀ h', h'.IsTupleIter it t (i + 1) → Heap.SameBut it s.heap h' → Q x { s with heap := h' }) :
    wpAny (model prog w) A (Builtin.SmallTypes.nextOf (.ref it)) Q E s := by
  obtain ⟨o, ho, hc, hd⟩ := id hit
  obtain ⟨ol, hol, _, nl, hdl⟩ := ht
  unfold Builtin.SmallTypes.nextOf
  refine wpAny_bind (wpAny_callSpecial?_slot (name := Str.ofString "__next__") hit.typeIs PySem.F.slot_tuple_iterator_next
    (wpAny_call_entry PySem.F.slot_tuple_iterator_next hit.typeIs PySem.F.entry_tuple_iterator_next ?_ (PySem.F.args_tuple_iterator_next_1 _)))
  show wpAny _ _ (field (.ref it) 0 >>= _) _ _ s
  refine wpAny_bind (wpAny_field ho hd (x := .ref t) rfl ?_)
  show wpAny _ _ (if (Value.ref t == Value.none) = true then _ else _) _ _ s
  rw [if_neg (show ¬ ((Value.ref t == Value.none) = true) from Bool.false_ne_true)]
  show wpAny _ _ (field (.ref it) 1 >>= _) _ _ s
  refine wpAny_bind (wpAny_field ho hd (x := .int i 0) rfl ?_)
  show wpAny _ _ (seqItems? (.ref t) >>= _) _ _ s
  refine wpAny_bind (wpAny_seqItems hol hdl ?_)
  simp only [Int.toNat_natCast, hx]
  refine wpAny_bind (wpAny_setField ho hd (by simp) (wpAny_pure ⟨x, rfl, wpAny_pure (hQ _ ?_ (Heap.SameBut.update ..))⟩))
  exact ⟨_, Heap.get?_update_self _ ho (Obj.isFreed_of_fields (Obj.data_mapFields hd _)), (Obj.cls_mapFields ..).trans hc, by
    rw [Obj.data_mapFields hd]; simp [rawInt]⟩
theorem nextOf_tup_end {it t : Addr} {i : Nat} {items : Array Value} {Q : Value → Shared → Prop} (hh : A.handled = none)
    (hit : s.heap.IsTupleIter it t i) (ht : s.heap.IsTuple t items) (hx : items[i]? = none)
    (hE : ∀ h' e, Heap.ExtBut it s.heap h' → (∃ o, h'.get? e = some o ∧ o.cls = .type "StopIteration") → E (.ref e) { s with heap := h' }) :
    wpAny (model prog w) A (Builtin.SmallTypes.nextOf (.ref it)) Q E s := by
  obtain ⟨o, ho, hc, hd⟩ := id hit
  obtain ⟨ol, hol, _, nl, hdl⟩ := ht
  unfold Builtin.SmallTypes.nextOf
  refine wpAny_bind (wpAny_callSpecial?_slot (name := Str.ofString "__next__") hit.typeIs PySem.F.slot_tuple_iterator_next
    (wpAny_call_entry PySem.F.slot_tuple_iterator_next hit.typeIs PySem.F.entry_tuple_iterator_next ?_ (PySem.F.args_tuple_iterator_next_1 _)))
  show wpAny _ _ (field (.ref it) 0 >>= _) _ _ s
  refine wpAny_bind (wpAny_field ho hd (x := .ref t) rfl ?_)
  show wpAny _ _ (if (Value.ref t == Value.none) = true then _ else _) _ _ s
  rw [if_neg (show ¬ ((Value.ref t == Value.none) = true) from Bool.false_ne_true)]
  show wpAny _ _ (field (.ref it) 1 >>= _) _ _ s
  refine wpAny_bind (wpAny_field ho hd (x := .int i 0) rfl ?_)
  show wpAny _ _ (seqItems? (.ref t) >>= _) _ _ s
  refine wpAny_bind (wpAny_seqItems hol hdl ?_)
  simp only [Int.toNat_natCast, hx]
  refine wpAny_bind (wpAny_rule (wpAny_bind (wpAny_setField ho hd (by simp) ?_)))
  show wpAny _ _ (newExc (.type "StopIteration") [] >>= _) _ _ _
  refine wpAny_bind ?_
  simp only [newExc, newTuple]
  refine wpAny_bind (wpAny_newObj_type ?_ (by size_fits))
  refine wpAny_bind (m := firstArgMember _ _) (wpAny_of_eq (a := Value.none) (by first | rfl | (simp only [firstArgMember]; rfl)) ?_)
  refine wpAny_newObj_type ?_ (by size_fits)
  simp only [raiseNew]
  refine wpAny_bind (wpAny_handled ?_)
  first | rw [show A.in1.handled = none from hh] | rw [hh]
  refine wpAny_bind (wpAny_pure (wpAny_throw ?_))
  exact hE _ _ (((Heap.SameBut.update ..).extBut.push _).push _) ⟨_, Heap.get?_push_size _ rfl, rfl⟩
/-- where such a zip stands -/
structure ZipAt (h : Heap) (z TI TO i1 i2 t1 t2 : Addr) (k : Nat) (xs ys : Array Value) : Prop where
  hz : IsZip h z TI TO .none
  hTI : IsPair h TI (.ref i1) (.ref i2)
  hTO : ∃ a b, IsPair h TO a b
  h1 : h.IsTupleIter i1 t1 k
  h2 : h.IsTupleIter i2 t2 k
  l1 : h.IsTuple t1 xs
  l2 : h.IsTuple t2 ys
abbrev zipFp (z TI TO i1 i2 t1 t2 : Addr) : List Addr := [z, TI, TO, i1, i2, t1, t2]
theorem tup_at {h h' : Heap} {a : Addr} {xs : Array Value} (x : h.IsTuple a xs) (k : ∀ o, h.get? a = some o → h'.get? a = some o) : h'.IsTuple a xs := let ⟨o, e, r⟩ := x; ⟨o, k o e, r⟩
theorem titer_at {h h' : Heap} {a t : Addr} {i : Nat} (x : h.IsTupleIter a t i) (k : ∀ o, h.get? a = some o → h'.get? a = some o) : h'.IsTupleIter a t i := let ⟨o, e, r⟩ := x; ⟨o, k o e, r⟩
theorem ZipAt.up {h h' : Heap} {z TI TO i1 i2 t1 t2 : Addr} {k : Nat} {xs ys : Array Value} (Z : ZipAt h z TI TO i1 i2 t1 t2 k xs ys)
    (hk : ∀ b ∈ zipFp z TI TO i1 i2 t1 t2, ∀ o, h.get? b = some o → h'.get? b = some o) : ZipAt h' z TI TO i1 i2 t1 t2 k xs ys where
  hz := hk z (by simp) _ Z.hz
  hTI := hk TI (by simp) _ Z.hTI
  hTO := let ⟨a, b, e⟩ := Z.hTO; ⟨a, b, hk TO (by simp) _ e⟩
  h1 := titer_at Z.h1 fun o e => hk i1 (by simp) o e
  h2 := titer_at Z.h2 fun o e => hk i2 (by simp) o e
  l1 := tup_at Z.l1 fun o e => hk t1 (by simp) o e
  l2 := tup_at Z.l2 fun o e => hk t2 (by simp) o e
theorem zipT_item {z TI TO i1 i2 t1 t2 : Addr} {k : Nat} {xs ys : Array Value} {x y : Value} {Q : Option Value → Shared → Prop} (D : ZipApart z TI TO i1 i2 t1 t2)
    (Z : ZipAt s.heap z TI TO i1 i2 t1 t2 k xs ys) (hx : xs[k]? = some x) (hy : ys[k]? = some y)
    (hQ : ∀ h', IsZip h' z TI TO (rawInt s.heap.objs.size) → IsPair h' TI (.ref i1) (.ref i2) → IsPair h' TO x y → h'.IsTupleIter i1 t1 (k + 1) → h'.IsTupleIter i2 t2 (k + 1) → h'.IsTuple t1 xs → h'.IsTuple t2 ys → IsPair h' s.heap.objs.size x y → h'.objs.size = s.heap.objs.size + 1 →
      (∀ c o, c ≠ z → c ≠ TO → c ≠ i1 → c ≠ i2 → s.heap.get? c = some o → h'.get? c = some o) → Q (some (.ref s.heap.objs.size)) { s with heap := h' }) :
    wpAny (model prog w) A (pyNext (.ref z)) Q E s := by
  obtain ⟨hz, hTI, ⟨a, b, hTO⟩, h1, h2, hl1, hl2⟩ := Z
  have hT : s.TypeIs (.ref z) "zip" := ⟨_, hz, rfl⟩
  unfold pyNext
  refine wpAny_bind (wpAny_attempt (wpAny_callSpecial?_slot (name := Str.ofString "__next__") hT PySem.F.slot_zip_next
    (wpAny_call_entry PySem.F.slot_zip_next hT PySem.F.entry_zip_next ?_ (PySem.F.args_zip_next_1 _))))
  show wpAny _ _ (field (.ref z) 2 >>= _) _ _ _
  refine wpAny_bind (wpAny_field hz rfl (x := .bool false) rfl ?_)
  show wpAny _ _ (field (.ref z) 3 >>= _) _ _ _
  refine wpAny_bind (wpAny_field hz rfl (x := .ref TI) rfl ?_)
  refine wpAny_bind (wpAny_seqItems hTI rfl ?_)
  show wpAny _ _ (Builtin.SmallTypes.ownedTupleIsFree (.ref z) >>= _) _ _ _
  refine wpAny_bind ?_
  unfold Builtin.SmallTypes.ownedTupleIsFree
  refine wpAny_bind (wpAny_field hz rfl (x := .none) rfl (wpAny_pure ?_))
  simp only [if_true]
  refine wpAny_bind (wpAny_rule ?_)
  refine wpAny_bind (wpAny_field hz rfl (x := .ref TO) rfl ?_)
  refine wpAny_bind (wpAny_setField_rec hz (by simp) fun h₁ hz₁ hs₁ => ?_)
  replace hz₁ : IsZip h₁ z TI TO .ellipsis := hz₁
  refine wpAny_bind ?_
  simp only [List.zipIdx_cons, List.zipIdx_nil, List.forIn_cons, List.forIn_nil]
  refine wpAny_bind (wpAny_bind (wpAny_onRaise ?_))
  show wpAny _ _ (Builtin.SmallTypes.nextOf (.ref i1) >>= _) _ _ _
  refine wpAny_bind (nextOf_tup_item (h1.extBut hs₁.extBut D.i1z) (hl1.extBut hs₁.extBut D.l1z) hx fun h₂ h1₂ hs₂ => wpAny_pure ?_)
  have hTO₂ : IsPair h₂ TO a b := hs₂.extBut _ _ D.TOi1 (hs₁.extBut _ _ D.TOz hTO)
  refine wpAny_bind (wpAny_seqItems hTO₂ rfl ?_)
  refine wpAny_bind (wpAny_updateSeq_pair hTO₂ fun h₃ hTO₃ hs₃ => ?_)
  replace hTO₃ : IsPair h₃ TO x b := hTO₃
  refine wpAny_bind (wpAny_letGo (wpAny_pure ?_))
  refine wpAny_bind (wpAny_bind (wpAny_onRaise ?_))
  show wpAny _ _ (Builtin.SmallTypes.nextOf (.ref i2) >>= _) _ _ _
  refine wpAny_bind (nextOf_tup_item (((h2.extBut hs₁.extBut D.i2z).extBut hs₂.extBut D.i12.symm).extBut hs₃.extBut D.TOi2.symm)
    (((hl2.extBut hs₁.extBut D.l2z).extBut hs₂.extBut D.l2i1).extBut hs₃.extBut D.l2TO) hy fun h₄ h2₄ hs₄ => wpAny_pure ?_)
  have hTO₄ : IsPair h₄ TO x b := hs₄.extBut _ _ D.TOi2 hTO₃
  refine wpAny_bind (wpAny_seqItems hTO₄ rfl ?_)
  refine wpAny_bind (wpAny_updateSeq_pair hTO₄ fun h₅ hTO₅ hs₅ => ?_)
  replace hTO₅ : IsPair h₅ TO x y := hTO₅
  refine wpAny_bind (wpAny_letGo (wpAny_pure (wpAny_pure ?_)))
  refine wpAny_bind (wpAny_seqItems hTO₅ rfl ?_)
  refine wpAny_bind (wpAny_newTuple ?_)
  have hsz : h₅.objs.size = s.heap.objs.size := by rw [hs₅.1, hs₄.1, hs₃.1, hs₂.1, hs₁.1]
  have hz₅ : IsZip h₅ z TI TO .ellipsis := hs₅.extBut _ _ D.TOz.symm (hs₄.extBut _ _ D.i2z.symm (hs₃.extBut _ _ D.TOz.symm (hs₂.extBut _ _ D.i1z.symm hz₁)))
  have hk₅ : ∀ c o, c ≠ z → c ≠ TO → c ≠ i1 → c ≠ i2 → s.heap.get? c = some o → h₅.get? c = some o := fun c o c1 c2 c3 c4 e =>
    hs₅.extBut _ _ c2 (hs₄.extBut _ _ c4 (hs₃.extBut _ _ c2 (hs₂.extBut _ _ c3 (hs₁.extBut _ _ c1 e))))
  have h1₅ : h₅.IsTupleIter i1 t1 (k + 1) := ((h1₂.extBut hs₃.extBut D.TOi1.symm).extBut hs₄.extBut D.i12).extBut hs₅.extBut D.TOi1.symm
  have h2₅ : h₅.IsTupleIter i2 t2 (k + 1) := h2₄.extBut hs₅.extBut D.TOi2.symm
  have hzlt : z < h₅.objs.size := Heap.lt_size hz₅
  show wpAny _ _ (Builtin.SmallTypes.ownedTupleHandOut (.ref z) (.ref h₅.objs.size) >>= _) _ _ _
  refine wpAny_bind ?_
  unfold Builtin.SmallTypes.ownedTupleHandOut
  have hz₆ : IsZip (h₅.push { cls := .type "tuple", data := .seq #[x, y] }) z TI TO .ellipsis := Heap.get?_push_of_some _ hz₅
  refine wpAny_bind (wpAny_setField_rec hz₆ (by simp) fun h₇ hz₇ hs₇ => ?_)
  replace hz₇ : IsZip h₇ z TI TO (rawInt h₅.objs.size) := hz₇
  refine wpAny_setField_rec hz₇ (by simp) fun h₈ hz₈ hs₈ => ?_
  replace hz₈ : IsZip h₈ z TI TO (rawInt h₅.objs.size) := hz₈
  have up : ∀ c o, c ≠ z → h₅.get? c = some o → h₈.get? c = some o := fun c o c1 e => hs₈.extBut _ _ c1 (hs₇.extBut _ _ c1 (Heap.get?_push_of_some _ e))
  have hT₈ : IsPair h₈ h₅.objs.size x y := hs₈.extBut _ _ (Nat.ne_of_gt hzlt) (hs₇.extBut _ _ (Nat.ne_of_gt hzlt) (Heap.get?_push_size _ rfl))
  have hz8 : h₈.objs.size = h₅.objs.size + 1 := by rw [hs₈.1, hs₇.1, Heap.size_push]
  rw [hsz] at hz₈ hT₈ hz8
  refine wpAny_pure ⟨_, rfl, ?_⟩
  refine wpAny_pure ?_
  show Q (some (.ref h₅.objs.size)) _
  rw [hsz]
  have hk : ∀ c o, c ≠ z → c ≠ TO → c ≠ i1 → c ≠ i2 → s.heap.get? c = some o → h₈.get? c = some o := fun c o c1 c2 c3 c4 e => up c o c1 (hk₅ c o c1 c2 c3 c4 e)
  exact hQ h₈ hz₈ (hk _ _ D.TIz D.TITO D.TIi1 D.TIi2 hTI) (up _ _ D.TOz hTO₅) (titer_at h1₅ fun o e => up _ o D.i1z e) (titer_at h2₅ fun o e => up _ o D.i2z e) (tup_at hl1 fun o e => hk _ o D.l1z D.l1TO D.l1i1 D.l1i2 e) (tup_at hl2 fun o e => hk _ o D.l2z D.l2TO D.l2i1 D.l2i2 e) hT₈ hz8 hk
theorem zipT_end {z TI TO i1 i2 t1 t2 : Addr} {k : Nat} {xs ys : Array Value} {Q : Option Value → Shared → Prop} (hh : A.handled = none) (D : ZipApart z TI TO i1 i2 t1 t2)
    (Z : ZipAt s.heap z TI TO i1 i2 t1 t2 k xs ys) (hx : xs[k]? = none)
    (hQ : ∀ h', (∀ c o, c ≠ z → c ≠ TO → c ≠ i1 → c ≠ i2 → s.heap.get? c = some o → h'.get? c = some o) → Q none { s with heap := h' }) :
    wpAny (model prog w) A (pyNext (.ref z)) Q E s := by
  obtain ⟨hz, hTI, ⟨a, b, hTO⟩, h1, h2, hl1, hl2⟩ := Z
  have hT : s.TypeIs (.ref z) "zip" := ⟨_, hz, rfl⟩
  unfold pyNext
  refine wpAny_bind (wpAny_attempt (wpAny_callSpecial?_slot (name := Str.ofString "__next__") hT PySem.F.slot_zip_next
    (wpAny_call_entry PySem.F.slot_zip_next hT PySem.F.entry_zip_next ?_ (PySem.F.args_zip_next_1 _))))
  show wpAny _ _ (field (.ref z) 2 >>= _) _ _ _
  refine wpAny_bind (wpAny_field hz rfl (x := .bool false) rfl ?_)
  show wpAny _ _ (field (.ref z) 3 >>= _) _ _ _
  refine wpAny_bind (wpAny_field hz rfl (x := .ref TI) rfl ?_)
  refine wpAny_bind (wpAny_seqItems hTI rfl ?_)
  show wpAny _ _ (Builtin.SmallTypes.ownedTupleIsFree (.ref z) >>= _) _ _ _
  refine wpAny_bind ?_
  unfold Builtin.SmallTypes.ownedTupleIsFree
  refine wpAny_bind (wpAny_field hz rfl (x := .none) rfl (wpAny_pure ?_))
  simp only [if_true]
  refine wpAny_bind (wpAny_rule ?_)
  refine wpAny_bind (wpAny_field hz rfl (x := .ref TO) rfl ?_)
  refine wpAny_bind (wpAny_setField_rec hz (by simp) fun h₁ hz₁ hs₁ => ?_)
  replace hz₁ : IsZip h₁ z TI TO .ellipsis := hz₁
  refine wpAny_bind ?_
  simp only [List.zipIdx_cons, List.zipIdx_nil, List.forIn_cons, List.forIn_nil]
  refine wpAny_bind (wpAny_bind (wpAny_onRaise ?_))
  show wpAny _ _ (Builtin.SmallTypes.nextOf (.ref i1) >>= _) _ _ _
  refine wpAny_bind (nextOf_tup_end hh (h1.extBut hs₁.extBut D.i1z) (hl1.extBut hs₁.extBut D.l1z) hx fun h₂ e hs₂ he => ?_)
  obtain ⟨oe, hoe, hce⟩ := he
  have hz₂ : IsZip h₂ z TI TO .ellipsis := hs₂ _ _ D.i1z.symm hz₁
  have hez : e ≠ z := fun x => by subst x; rw [hz₂] at hoe; cases hoe; simp at hce
  refine wpAny_setField_rec hz₂ (by simp) fun h₃ _ hs₃ => ?_
  refine wpAny_bind (wpAny_isInstance (T := "StopIteration") (b := true) ⟨oe, hs₃.extBut _ _ hez hoe, hce⟩ isSubtype_stop ?_)
  exact wpAny_pure (hQ _ fun c o c1 _ c3 _ x => hs₃.extBut _ _ c1 (hs₂ _ _ c3 (hs₁.extBut _ _ c1 x)))
end
end Rk
end
section
open PySem PySem.W PyProof.Rows PySem.Calls
set_option maxRecDepth 100000
namespace Rk
abbrev zpH1 (h : Heap) (l1 : Addr) : Heap := h.push { cls := .type "tuple_iterator", data := .fields #[.ref l1, .int 0 0] }
abbrev zpH2 (h : Heap) (l1 l2 : Addr) : Heap := (zpH1 h l1).push { cls := .type "tuple_iterator", data := .fields #[.ref l2, .int 0 0] }
abbrev zpH3 (h : Heap) (l1 l2 : Addr) : Heap := (zpH2 h l1 l2).push { cls := .type "tuple", data := .seq #[.ref h.objs.size, .ref (zpH1 h l1).objs.size] }
abbrev zpH4 (h : Heap) (l1 l2 : Addr) : Heap := (zpH3 h l1 l2).push { cls := .type "tuple", data := .seq #[.none, .none] }
abbrev zpH5 (h : Heap) (l1 l2 : Addr) : Heap := (zpH4 h l1 l2).push { cls := .type "zip", data := .fields #[.none, .bool false, .bool false, .ref (zpH2 h l1 l2).objs.size, .ref (zpH3 h l1 l2).objs.size] }
theorem meets_zipT (l1 l2 : Addr) (xs ys : Array Value) :
    Meets (Builtin.«zip.__new__» ⟨[.type "zip", .ref l1, .ref l2], []⟩) (fun _ R s => s.heap.IsTuple l1 xs ∧ s.heap.IsTuple l2 ys ∧
      R (.ok (.ret (.ref (zpH4 s.heap l1 l2).objs.size))) { s with heap := zpH5 s.heap l1 l2 }) :=
  .of_wp fun prog w A R s h => by
    obtain ⟨hp, g, d, tk, os⟩ := s; obtain ⟨hl1, hl2, h⟩ := h
    have hsub := sub_zip
    have hL1 : Heap.IsTuple (Shared.heap ⟨hp, g, d, tk, os⟩) l1 xs := hl1
    have hL2 : Heap.IsTuple (Shared.heap ⟨hp.push { cls := .type "tuple_iterator", data := .fields #[.ref l1, .int 0 0] }, g, d, tk, os⟩) l2 ys := Heap.IsTuple.push hl2 _
    wp_walk using wpAny_pyIter_tuple hL1, wpAny_pyIter_tuple hL2
    exact ⟨_, rfl, h⟩
section
variable {prog : Program} {w : World} {A : Around} {E : Value → Shared → Prop} {s : Shared}
theorem zipT_call {l1 l2 : Addr} {xs ys : Array Value} {Q : Value → Shared → Prop} (hl1 : s.heap.IsTuple l1 xs) (hl2 : s.heap.IsTuple l2 ys)
    (h : ∀ h' z TI TO i1 i2, ZipAt h' z TI TO i1 i2 l1 l2 0 xs ys → ZipApart z TI TO i1 i2 l1 l2 → (s.heap.objs.size ≤ z ∧ s.heap.objs.size ≤ TI ∧ s.heap.objs.size ≤ TO ∧ s.heap.objs.size ≤ i1 ∧ s.heap.objs.size ≤ i2) →
      (∀ c o, s.heap.get? c = some o → h'.get? c = some o) → Q (.ref z) { s with heap := h' }) :
    wpAny (model prog w) A (call (.type "zip") [.ref l1, .ref l2]) Q E s := by
  have a1 : l1 < s.heap.objs.size := by obtain ⟨_, e, _⟩ := hl1; exact Heap.lt_size e
  have a2 : l2 < s.heap.objs.size := by obtain ⟨_, e, _⟩ := hl2; exact Heap.lt_size e
  refine callType_new PySem.F.called_zip (by decide) (PySem.F.typeCall_zip_2 _ _) (PySem.F.newCall_zip_2 _ _) (fun obj => PySem.F.args_object_init_3 obj _ _) PySem.F.entry_zip_new
    (meets_zipT l1 l2 xs ys) ⟨hl1, hl2, ?_⟩
  have z1 : (zpH1 s.heap l1).objs.size = s.heap.objs.size + 1 := Heap.size_push ..
  have z2 : (zpH2 s.heap l1 l2).objs.size = s.heap.objs.size + 2 := by rw [Heap.size_push, z1]
  have z3 : (zpH3 s.heap l1 l2).objs.size = s.heap.objs.size + 3 := by rw [Heap.size_push, z2]
  have z4 : (zpH4 s.heap l1 l2).objs.size = s.heap.objs.size + 4 := by rw [Heap.size_push, z3]
  have g5 : (zpH5 s.heap l1 l2).get? (zpH4 s.heap l1 l2).objs.size = some _ := Heap.get?_push_size _ rfl
  have g4 : (zpH5 s.heap l1 l2).get? (zpH3 s.heap l1 l2).objs.size = some _ := Heap.get?_push_of_some _ (Heap.get?_push_size _ rfl)
  have g3 : (zpH5 s.heap l1 l2).get? (zpH2 s.heap l1 l2).objs.size = some _ := Heap.get?_push_of_some _ (Heap.get?_push_of_some _ (Heap.get?_push_size _ rfl))
  have g2 : (zpH5 s.heap l1 l2).get? (zpH1 s.heap l1).objs.size = some _ := Heap.get?_push_of_some _ (Heap.get?_push_of_some _ (Heap.get?_push_of_some _ (Heap.get?_push_size _ rfl)))
  have g1 : (zpH5 s.heap l1 l2).get? s.heap.objs.size = some _ := Heap.get?_push_of_some _ (Heap.get?_push_of_some _ (Heap.get?_push_of_some _ (Heap.get?_push_of_some _ (Heap.get?_push_size _ rfl))))
  show _ ∧ _
  rw [z2, z3, z4] at g5
  rw [z1, z2] at g3
  rw [z3] at g4
  rw [z1] at g2
  rw [z4]
  have old : ∀ c o, s.heap.get? c = some o → (zpH5 s.heap l1 l2).get? c = some o := fun c o x =>
    Heap.get?_push_of_some _ (Heap.get?_push_of_some _ (Heap.get?_push_of_some _ (Heap.get?_push_of_some _ (Heap.get?_push_of_some _ x))))
  exact ⟨⟨_, g5, rfl⟩, h _ _ _ _ _ _ ⟨g5, g3, ⟨_, _, g4⟩, ⟨_, g1, rfl, rfl⟩, ⟨_, g2, rfl, rfl⟩, tup_at hl1 fun o e => old _ o e, tup_at hl2 fun o e => old _ o e⟩ (zipApart_new a1 a2)
    ⟨Nat.le_add_right _ 4, Nat.le_add_right _ 2, Nat.le_add_right _ 3, Nat.le_refl _, Nat.le_add_right _ 1⟩ old⟩
end
/-- what such a generator hands out: new tuples -/
def tokProto (C : Addr) (fp wr : List Addr) (Ps : List (List Value)) : Protocol := fun m s₀ v s kap =>
  (∃ vs T, Ps[Ps.length - 1 - m]? = some vs ∧ v = .ref T ∧ s.heap.get? T = some (tupO vs) ∧ s₀.heap.get? T = none ∧ s₀.heap.objs.size ≤ T) ∧ (GenSince C wr s₀ s ∧ s₀.heap.objs.size ≤ s.heap.objs.size) ∧
    ∀ s'' : Shared, (∀ b ∈ C :: fp, ∀ o, s.heap.get? b = some o → s''.heap.get? b = some o) → kap (.send .none) s''
/-- is a text none or empty -/
def txtV : Value → Bool
  | .str x _ => !(x.length == 0)
  | _ => false
def isTxt : Value → Prop
  | .str x _ => x.length ≤ sizeLine
  | .none => True
  | _ => False
def picks : List Value → List Value → List (List Value)
  | x :: xs, y :: ys => if txtV y = true then [x, y] :: picks xs ys else picks xs ys
  | _, _ => []
theorem txt_true {prog : Program} {w : World} {A : Around} {E : Value → Shared → Prop} {s : Shared} {v : Value} {Q : Bool → Shared → Prop} (hv : isTxt v) (h : ∀ tk, Q (txtV v) { s with toks := tk }) : wpAny (model prog w) A (truthy v) Q E s := by
  cases v <;> first | exact hv.elim | skip
  · exact wpAny_pure (h s.toks)
  · rename_i x t
    refine P.truthy_str (by have := line63; have : x.length ≤ sizeLine := hv; omega) ?_
    have e : ((x.length : Int) != 0) = txtV (.str x t) := by
      show ((x.length : Int) != 0) = (!(x.length == 0))
      cases x.length <;> rfl
    rw [e]
    exact h _
end Rk
end
section
open PySem PySem.W PyProof.Rows PySem.Calls
set_option maxRecDepth 100000
namespace Rk
/-- the generator (a, b) for a, b in zip(..) if b -/
abbrev tokGen (xa xb : Str) (ea eb pa pb tb pt ep : Pos) (kt ke : Nat) (iter : Expr) (scope : Scope) (pos : Pos) : Expr :=
  .GeneratorExp (.Tuple [.Name xa ea, .Name xb eb] ke ep) [⟨.Tuple [.Name xa pa, .Name xb pb] kt pt, iter, [.Name xb tb], 0⟩] scope pos
abbrev tokEnd (C : Addr) (wr : List Addr) : GenEnd := fun n s₀ r s₁ => r = .ok .next ∧ (n = 0 ∧ GenSince C wr s₀ s₁)
theorem names_pair {M : Model} {A : Around} {E : Value → Shared → Prop} {s : Shared} {cenv : Env} {xa xb : Str} {ea eb bp : Pos} {m : Str → Option Value} {va vb : Value} {Q : List Value → Shared → Prop}
    (hkd : cenv.scope.kind = .function) (hla : cenv.scope.names.lookup xa = some .local) (hlb : cenv.scope.names.lookup xb = some .local) (hda : (xa == ("__debug__" : Str)) = false) (hdb : (xb == ("__debug__" : Str)) = false)
    (hn : s.heap.Ns cenv.locals m) (ha : m xa = some va) (hb : m xb = some vb) (h : Q [va, vb] s) :
    wpAny M A (spliced (backTo bp (starEach [.Name xa ea, .Name xb eb] cenv))) Q E s := by
  show wpAny M A (do
    let v ← eval (.Name xa ea) cenv
    let here ← (Pure.pure [v] : Sem (List Value))
    return here ++ (← holding here (spliced (backTo bp (starEach [.Name xb eb] cenv))))) Q E s
  refine wpAny_bind (ldG hn ha ?_ hkd hla hda)
  show wpAny M A (holding [va] (spliced (backTo bp (starEach [.Name xb eb] cenv))) >>= fun vs => Pure.pure ([va] ++ vs)) Q E s
  refine wpAny_bind (wpAny_holding ?_)
  show wpAny M A (do
    let v ← eval (.Name xb eb) cenv
    let here ← (Pure.pure [v] : Sem (List Value))
    return here ++ (← holding here (spliced (backTo bp [])))) _ E s
  refine wpAny_bind (ldG hn hb ?_ hkd hlb hdb)
  show wpAny M A (holding [vb] (spliced []) >>= fun vs => Pure.pure ([vb] ++ vs)) _ E s
  exact wpAny_bind (wpAny_holding (spliced_nil (wpAny_pure (wpAny_pure h))))
section
variable {prog : Program} {w : World} {A : Around}
theorem tok_loop {xa xb : Str} {ea eb pa pb tb pt ep : Pos} {kt ke : Nat} {iter : Expr} {scope : Scope} {pos : Pos} {z TI TO i1 i2 t1 t2 : Addr} {xs ys : List Value} {cenv : Env}
    (hh : A.handled = none) (D : ZipApart z TI TO i1 i2 t1 t2) (hab : xa ≠ xb) (hkd : cenv.scope.kind = .function) (hla : cenv.scope.names.lookup xa = some .local) (hlb : cenv.scope.names.lookup xb = some .local)
    (hda : (xa == ("__debug__" : Str)) = false) (hdb : (xb == ("__debug__" : Str)) = false) (hco : cenv.scope.isCoroutine = false) (hCf : cenv.locals ∉ zipFp z TI TO i1 i2 t1 t2) (ht : ∀ v ∈ ys, isTxt v) (hl : xs.length = ys.length) :
    ∀ (n k : Nat) (done : List (List Value)) (s₀ s : Shared) (m : Str → Option Value), xs.length - k = n → k ≤ xs.length → ZipAt s.heap z TI TO i1 i2 t1 t2 k xs.toArray ys.toArray → s.heap.Ns cenv.locals m →
      GenSince cenv.locals [z, TO, i1, i2] s₀ s → s₀.heap.objs.size ≤ s.heap.objs.size → picks xs ys = done ++ picks (xs.drop k) (ys.drop k) →
      Seg (model prog w) A (tokEnd cenv.locals [z, TO, i1, i2]) (tokProto cenv.locals (cStatics :: zipFp z TI TO i1 i2 t1 t2) [z, TO, i1, i2] (picks xs ys)) (picks (xs.drop k) (ys.drop k)).length s₀
        (.compLoop (tokGen xa xb ea eb pa pb tb pt ep kt ke iter scope pos) 0 (.ref z) .none cenv)
        ((model prog w).den (.compLoop (tokGen xa xb ea eb pa pb tb pt ep kt ke iter scope pos) 0 (.ref z) .none cenv)) [] s := by
  have hh' : (A.over (.compLoop (tokGen xa xb ea eb pa pb tb pt ep kt ke iter scope pos) 0 (.ref z) .none cenv) []).handled = none := hh
  have hCw : cenv.locals ∉ [z, TO, i1, i2] := fun h => hCf (by
    simp only [List.mem_cons, List.not_mem_nil, or_false] at h ⊢
    rcases h with h | h | h | h <;> simp [h])
  have hkx : cenv.kindOf xa = some .local := hla
  have hky : cenv.kindOf xb = some .local := hlb
  have hp : (cenv.scope.kind == .class || (cenv.scope.kind == .module && cenv.locals != cenv.globals)) = false := by rw [hkd]; rfl
  intro n
  induction n with
  | zero =>
    intro k done s₀ s m hn hk Z hns hsince hsz hpk
    have e : k = xs.length := by omega
    subst e
    show Seg _ A _ _ _ s₀ _ ((compTurn (tokGen xa xb ea eb pa pb tb pt ep kt ke iter scope pos) 0 (.ref z) .none cenv).onRaise («leaving» cenv)) [] s
    rw [compTurn_gen, Sem.onRaise_eq_wrap]
    refine seg_bind_wrap (wpAny_standAt ?_)
    refine seg_bind_wrap (zipT_end hh' D Z (by simp) fun h' hk' => ?_)
    refine seg_end (.ok .next) ⟨rfl, ?_, ?_⟩
    · rw [List.drop_length]; rfl
    · exact hsince.step (tk := s.toks) fun b o _ hw e => hk' b o (fun q => hw (by simp [q])) (fun q => hw (by simp [q])) (fun q => hw (by simp [q])) (fun q => hw (by simp [q])) e
  | succ n ih =>
    intro k done s₀ s m hn hk Z hns hsince hsz hpk
    have hlt : k < xs.length := by omega
    have hlt' : k < ys.length := by omega
    have hx : xs.toArray[k]? = some xs[k] := by simp [hlt]
    have hy : ys.toArray[k]? = some ys[k] := by simp [hlt']
    have hdx : xs.drop k = xs[k] :: xs.drop (k + 1) := List.drop_eq_getElem_cons hlt
    have hdy : ys.drop k = ys[k] :: ys.drop (k + 1) := List.drop_eq_getElem_cons hlt'
    have htx : isTxt ys[k] := ht _ (List.getElem_mem hlt')
    show Seg _ A _ _ _ s₀ _ ((compTurn (tokGen xa xb ea eb pa pb tb pt ep kt ke iter scope pos) 0 (.ref z) .none cenv).onRaise («leaving» cenv)) [] s
    rw [compTurn_gen, Sem.onRaise_eq_wrap]
    refine seg_bind_wrap (wpAny_standAt ?_)
    refine seg_bind_wrap (zipT_item D Z hx hy fun h₁ hz₁ hTI₁ hTO₁ h1₁ h2₁ l1₁ l2₁ hT₁ sz₁ hk₁ => ?_)
    refine seg_bind_wrap (wpAny_letOwnedTupleGo_zip hz₁ fun h₂ hz₂ hs₂ => ?_)
    have hzT : s.heap.objs.size ≠ z := Nat.ne_of_gt (Heap.lt_size Z.hz)
    have hT₂ : IsPair h₂ s.heap.objs.size xs[k] ys[k] := hs₂.extBut _ _ hzT hT₁
    have Z₂ : ZipAt h₂ z TI TO i1 i2 t1 t2 (k + 1) xs.toArray ys.toArray :=
      ⟨hz₂, hs₂.extBut _ _ D.TIz hTI₁, ⟨_, _, hs₂.extBut _ _ D.TOz hTO₁⟩, h1₁.extBut hs₂.extBut D.i1z, h2₁.extBut hs₂.extBut D.i2z, l1₁.extBut hs₂.extBut D.l1z, l2₁.extBut hs₂.extBut D.l2z⟩
    refine seg_bind_wrap (wpAny_assign_Tuple hh' (⟨_, hT₂, rfl, _, rfl⟩ : h₂.IsTuple s.heap.objs.size #[xs[k], ys[k]]) rfl rfl fun h₃ hx₃ => ?_)
    replace hx₃ : Heap.ExtBut h₂.objs.size h₂ h₃ := hx₃
    have old₃ : ∀ b o, h₂.get? b = some o → h₃.get? b = some o := fun b o e => hx₃ b o (Nat.ne_of_lt (Heap.lt_size e)) e
    have kept₂ : ∀ b o, b ∉ [z, TO, i1, i2] → s.heap.get? b = some o → h₂.get? b = some o := fun b o hb e =>
      hs₂.extBut b o (fun q => hb (by simp [q])) (hk₁ b o (fun q => hb (by simp [q])) (fun q => hb (by simp [q])) (fun q => hb (by simp [q])) (fun q => hb (by simp [q])) e)
    show wpAny _ _ (do holding [ys[k]] (assign (.Name xa pa) cenv xs[k]); do holding [] (assign (.Name xb pb) cenv ys[k]); pure ()) _ _ _
    have keepN : ∀ o, s.heap.get? cenv.locals = some o → h₃.get? cenv.locals = some o := fun o e => old₃ _ o (kept₂ _ o hCw e)
    refine wpAny_bind (wpAny_holding (wpAny_assign_Name (wpAny_storeName_local hkx (hns.at' keepN) (fun h₄ hn₄ hs₄ => ?_) hp)))
    replace hs₄ : Heap.SameBut cenv.locals h₃ h₄ := hs₄
    refine wpAny_bind (wpAny_holding (wpAny_assign_Name (wpAny_storeName_local hky hn₄ (fun h₅ hn₅ hs₅ => wpAny_pure ?_) hp)))
    replace hs₅ : Heap.SameBut cenv.locals h₄ h₅ := hs₅
    have kept₅ : ∀ b o, b ≠ cenv.locals → h₂.get? b = some o → h₅.get? b = some o := fun b o hb e => hs₅.extBut b o hb (hs₄.extBut b o hb (old₃ b o e))
    have Z₅ : ZipAt h₅ z TI TO i1 i2 t1 t2 (k + 1) xs.toArray ys.toArray := Z₂.up fun b hb o e => kept₅ b o (fun q => hCf (q ▸ hb)) e
    have up₅ : ∀ b o, b ≠ cenv.locals → b ∉ [z, TO, i1, i2] → s.heap.get? b = some o → h₅.get? b = some o := fun b o hb hw e => kept₅ b o hb (kept₂ b o hw e)
    have sz₅ : s.heap.objs.size ≤ h₅.objs.size := by
      have e3 : s.heap.objs.size < h₃.objs.size := Heap.lt_size (old₃ _ _ hT₂)
      have e4 : h₅.objs.size = h₃.objs.size := hs₅.1.trans hs₄.1
      rw [e4]; exact Nat.le_of_lt e3
    simp only [List.forIn_cons, List.forIn_nil, if_true]
    refine seg_bind_wrap ?_
    have teq : isTrue (.Name xb tb) cenv (eval (.Name xb tb) cenv) = (do let v ← eval (.Name xb tb) cenv; standAt tb; holding [v] (truthy v)) := rfl
    rw [teq]
    refine wpAny_bind (wpAny_bind (wpAny_bind (ldG hn₅ (show (fun y => if y = xb then some ys[k] else if y = xa then some xs[k] else m y) xb = some ys[k] by simp) ?_ hkd hlb hdb)))
    refine wpAny_bind (wpAny_standAt (wpAny_holding (txt_true htx fun tk => ?_)))
    refine wpAny_pure (wpAny_pure ?_)
    cases hb : txtV ys[k] with
    | false =>
      have e : picks (xs.drop k) (ys.drop k) = picks (xs.drop (k + 1)) (ys.drop (k + 1)) := by
        rw [hdx, hdy]
        show (if txtV ys[k] = true then _ else _) = _
        rw [hb]; rfl
      rw [e] at hpk ⊢
      simp only [Bool.false_eq_true, if_false]
      exact seg_again rfl (ih (k + 1) done s₀ _ _ (by omega) hlt Z₅ hn₅ (hsince.step (tk := tk) fun b o hbC hbw e => up₅ b o hbC hbw e) (Nat.le_trans hsz sz₅) hpk)
    | true =>
      have e : picks (xs.drop k) (ys.drop k) = [xs[k], ys[k]] :: picks (xs.drop (k + 1)) (ys.drop (k + 1)) := by
        rw [hdx, hdy]
        show (if txtV ys[k] = true then _ else _) = _
        rw [hb]; rfl
      rw [e] at hpk ⊢
      rw [List.length_cons]
      simp only [if_true]
      have hy' : ∀ v, yieldOut cenv v = yieldValue v := fun v => by simp only [yieldOut, hco, Bool.false_eq_true, if_false]
      simp only [hy']
      rw [Sem.bind_eq_wrap', Sem.bind_eq_wrap', Sem.wrap_wrap, Sem.wrap_wrap]
      refine seg_wrap (wpAny_Tuple_spliced (names_pair (va := xs[k]) (vb := ys[k]) hkd hla hlb hda hdb hn₅ (show (fun y => if y = xb then some ys[k] else if y = xa then some xs[k] else m y) xa = some xs[k] by simp [hab]) (by simp) ⟨by show 2 ≤ sizeLine; rw [sizeLine_eq]; omega, ?_⟩))
      have sz₀ : s₀.heap.objs.size ≤ h₅.objs.size := Nat.le_trans hsz sz₅
      have hidx : (picks xs ys)[(picks xs ys).length - 1 - (picks (xs.drop (k + 1)) (ys.drop (k + 1))).length]? = some [xs[k], ys[k]] := by
        rw [hpk, List.length_append, List.length_cons]
        have : done.length + ((picks (xs.drop (k + 1)) (ys.drop (k + 1))).length + 1) - 1 - (picks (xs.drop (k + 1)) (ys.drop (k + 1))).length = done.length := by omega
        rw [this, List.getElem?_append_right (Nat.le_refl _), Nat.sub_self]; rfl
      have since := hsince.step (h' := h₅.push (tupO [xs[k], ys[k]])) (tk := tk) fun b o hbC hbw e => Heap.get?_push_of_some _ (up₅ b o hbC hbw e)
      refine seg_at (seg_yield rfl rfl rfl ⟨⟨[xs[k], ys[k]], h₅.objs.size, hidx, rfl, Heap.get?_push_size _ rfl, Heap.get?_none_of_le sz₀, sz₀⟩, ⟨since, ?_⟩, fun s'' hal => ?_⟩)
      · show s₀.heap.objs.size ≤ (h₅.push _).objs.size
        rw [Heap.size_push]; omega
      · refine seg_again rfl (ih (k + 1) (done ++ [[xs[k], ys[k]]]) s'' s'' _ (by omega) hlt (Z₅.up fun b hb o e => hal b (List.mem_cons_of_mem _ (List.mem_cons_of_mem _ hb)) o (Heap.get?_push_of_some _ e))
          ((hn₅.push _).at' fun o e => hal _ (List.mem_cons_self ..) o e) (GenSince.refl _ _ _) (Nat.le_refl _) ?_)
        rw [hpk, List.append_assoc]; rfl
end
end Rk
end
section
open PySem PySem.W PyProof.Rows PySem.Calls
set_option maxRecDepth 100000
namespace Rk
section
variable {prog : Program} {w : World} {A : Around}
theorem tok_start {xa xb : Str} {ea eb pa pb tb pt ep : Pos} {kt ke : Nat} {iter : Expr} {scope : Scope} {pos : Pos} {z TI TO i1 i2 t1 t2 : Addr} {xs ys : List Value} {cenv : Env}
    (hh : A.handled = none) (D : ZipApart z TI TO i1 i2 t1 t2) (hab : xa ≠ xb) (hkd : cenv.scope.kind = .function) (hla : cenv.scope.names.lookup xa = some .local) (hlb : cenv.scope.names.lookup xb = some .local)
    (hda : (xa == ("__debug__" : Str)) = false) (hdb : (xb == ("__debug__" : Str)) = false) (hco : cenv.scope.isCoroutine = false) (hCf : cenv.locals ∉ zipFp z TI TO i1 i2 t1 t2) (ht : ∀ v ∈ ys, isTxt v) (hl : xs.length = ys.length)
    (s₀ s : Shared) (m : Str → Option Value) (Z : ZipAt s.heap z TI TO i1 i2 t1 t2 0 xs.toArray ys.toArray) (hn : s.heap.Ns cenv.locals m)
    (hsince : GenSince cenv.locals [z, TO, i1, i2] s₀ s) (hsz : s₀.heap.objs.size ≤ s.heap.objs.size) :
    Seg (model prog w) A (tokEnd cenv.locals [z, TO, i1, i2]) (tokProto cenv.locals (cStatics :: zipFp z TI TO i1 i2 t1 t2) [z, TO, i1, i2] (picks xs ys)) (picks xs ys).length s₀
      (.compStart (tokGen xa xb ea eb pa pb tb pt ep kt ke iter scope pos) 0 (.ref z) .none cenv)
      ((model prog w).den (.compStart (tokGen xa xb ea eb pa pb tb pt ep kt ke iter scope pos) 0 (.ref z) .none cenv)) [] s := by
  have hh' : (A.over (.compStart (tokGen xa xb ea eb pa pb tb pt ep kt ke iter scope pos) 0 (.ref z) .none cenv) []).handled = none := hh
  have loop := tok_loop (ea := ea) (eb := eb) (pa := pa) (pb := pb) (tb := tb) (pt := pt) (ep := ep) (kt := kt) (ke := ke) (iter := iter) (scope := scope) (pos := pos) (prog := prog) (w := w) hh D hab hkd hla hlb hda hdb hco hCf ht hl xs.length 0 [] s₀ s m (Nat.sub_zero _) (Nat.zero_le _) Z hn hsince hsz rfl
  show Seg _ A _ _ _ s₀ _ ((compStart (tokGen xa xb ea eb pa pb tb pt ep kt ke iter scope pos) 0 (.ref z) .none cenv).onRaise («leaving» cenv)) [] s
  unfold compStart
  rw [Sem.onRaise_eq_wrap]
  show Seg _ A _ _ _ s₀ _ ((ask >>= _).wrap _ _ _ _) [] s
  refine seg_bind_wrap (wpAny_askSetting ?_)
  split
  · exact seg_again rfl loop
  · first
      | exact seg_bind_wrap (wpAny_rule (seg_bind_wrap (wpAny_standAt (seg_bind_wrap (wpAny_pyIter_zip Z.hz (seg_again rfl loop))))))
      | (refine seg_bind_wrap (wpAny_rule ?_); show Seg _ A _ _ _ s₀ _ ((standAt iter.pos >>= _).wrap _ _ _ _) [] s; exact seg_bind_wrap (wpAny_standAt (seg_bind_wrap (wpAny_pyIter_zip Z.hz (seg_again rfl loop)))))
/-- a generator that hands out Ps from its j-th on -/
def GenZ (prog : Program) (w : World) (A : Around) (a : Addr) (g : Nat) (C : Addr) (fp wr : List Addr) (Ps : List (List Value)) (j : Nat) (s : Shared) : Prop :=
  s.heap.IsGen a g ∧ s.heap.NoLimit ∧ ∃ gs, s.gens[g]? = some gs ∧ ∀ s'' : Shared, (∀ b ∈ C :: fp, ∀ o, s.heap.get? b = some o → s''.heap.get? b = some o) →
    gs.Goes (model prog w) A.in1 (tokEnd C wr) (tokProto C fp wr Ps) (Ps.length - j) (.send .none) s''
theorem noLimit_at {h h' : Heap} (x : h.NoLimit) (k : ∀ o, h.get? cStatics = some o → h'.get? cStatics = some o) : h'.NoLimit := let ⟨mc, hns, hnn⟩ := x; ⟨mc, hns.at' k, hnn⟩
theorem isGen_at {h h' : Heap} {a : Addr} {g : Nat} (x : h.IsGen a g) (k : ∀ o, h.get? a = some o → h'.get? a = some o) : h'.IsGen a g := let ⟨o, nm, qn, ho, r⟩ := x; ⟨o, nm, qn, k o ho, r⟩
theorem GenZ.frame {a : Addr} {g : Nat} {C : Addr} {fp wr : List Addr} {Ps : List (List Value)} {j : Nat} {s : Shared} (X : GenZ prog w A a g C fp wr Ps j s) (hcs : cStatics ∈ fp) {h' : Heap} {tk : Nat}
    (hk : ∀ b ∈ a :: C :: fp, ∀ o, s.heap.get? b = some o → h'.get? b = some o) : GenZ prog w A a g C fp wr Ps j { s with heap := h', toks := tk } :=
  ⟨isGen_at X.1 fun o e => hk a (List.mem_cons_self ..) o e, noLimit_at X.2.1 fun o e => hk cStatics (List.mem_cons_of_mem _ (List.mem_cons_of_mem _ hcs)) o e,
    let ⟨gs, hgs, hgo⟩ := X.2.2; ⟨gs, hgs, fun s'' hal => hgo s'' fun b hb o e => hal b hb o (hk b (List.mem_cons_of_mem _ hb) o e)⟩⟩
theorem genZ_item (hh : A.handled = none) (hroom : A.depth < recursionLimit) {a : Addr} {g : Nat} {C : Addr} {fp wr : List Addr} {Ps : List (List Value)} {j : Nat} {s : Shared} (haC : a ≠ C) (haw : a ∉ wr) (hcC : cStatics ≠ C) (hcw : cStatics ∉ wr)
    (X : GenZ prog w A a g C fp wr Ps j s) {vs : List Value} (hj : Ps[j]? = some vs) {Q : Option Value → Shared → Prop} {E : Value → Shared → Prop}
    (hQ : ∀ T s', s'.heap.get? T = some (tupO vs) → s.heap.objs.size ≤ T → GenZ prog w A a g C fp wr Ps (j + 1) s' → Moved (C :: wr) (GenOnlyQ g) s s' → s.heap.objs.size ≤ s'.heap.objs.size → Q (some (.ref T)) s') :
    wpAny (model prog w) A (pyNext (.ref a)) Q E s := by
  obtain ⟨hg, hl, gs, hgs, hgo⟩ := X
  have hlt : j < Ps.length := (List.getElem?_eq_some_iff.mp hj).1
  obtain ⟨m, hm⟩ : ∃ m, Ps.length - j = m + 1 := ⟨Ps.length - j - 1, by omega⟩
  rw [hm] at hgo
  refine wpAny_with_toks (Nat.le_refl s.toks) ?_
  refine wpAny_pyNext_genexpQ (P := fun n s₀ s₁ => n = 0 ∧ GenSince C wr s₀ s₁) hh hl hroom hg hgs (hgo _ fun _ _ _ e => e) (fun v s₁ gs' hb hv => ?_) (fun s₁ hp h' hk => ?_)
  · obtain ⟨⟨vs', T, hi, rfl, hT, hnone, hge⟩, ⟨⟨h₁, tk₁, rfl, hk₁⟩, hsz⟩, hkap⟩ := hv
    have hidx : Ps.length - 1 - (m + 1 - 1) = j := by omega
    rw [hidx, hj] at hi
    cases hi
    intro htk
    refine hQ T _ hT hge ⟨isGen_at hg fun o e => hk₁ a o haC haw e, noLimit_at hl fun o e => hk₁ cStatics o hcC hcw e, gs', setGen_self (gs := .running) (setGen_self hgs), fun s'' hal => ?_⟩
      ⟨fun b o hb e => hk₁ b o (fun h => hb (h ▸ List.mem_cons_self ..)) (fun h => hb (List.mem_cons_of_mem _ h)) e, GenOnlyQ.of ((GenOnly.setGen s g .running).trans (GenOnly.setGen _ g gs')) (setGen_self (gs := .running) (setGen_self hgs)) hb, rfl, rfl, htk⟩ hsz
    have e : Ps.length - (j + 1) = m := by omega
    rw [e]
    exact hkap s'' hal
  · exact absurd hp.1 (Nat.succ_ne_zero m)
theorem genZ_done (hh : A.handled = none) (hroom : A.depth < recursionLimit) {a : Addr} {g : Nat} {C : Addr} {fp wr : List Addr} {Ps : List (List Value)} {s : Shared}
    (X : GenZ prog w A a g C fp wr Ps Ps.length s) {Q : Option Value → Shared → Prop} {E : Value → Shared → Prop}
    (hQ : ∀ s', Moved (C :: wr) (GenOnlyQ g) s s' → Q none s') :
    wpAny (model prog w) A (pyNext (.ref a)) Q E s := by
  obtain ⟨hg, hl, gs, hgs, hgo⟩ := X
  rw [Nat.sub_self] at hgo
  refine wpAny_with_toks (Nat.le_refl s.toks) ?_
  refine wpAny_pyNext_genexpQ (P := fun n s₀ s₁ => n = 0 ∧ GenSince C wr s₀ s₁) hh hl hroom hg hgs (hgo _ fun _ _ _ e => e) (fun v s₁ gs' hb hv => ?_) (fun s₁ hp h' hk => ?_)
  · obtain ⟨_, _, hkap⟩ := hv
    exact False.elim (hkap s₁ fun _ _ _ e => e)
  · obtain ⟨_, h₁, tk₁, rfl, hk₁⟩ := hp
    intro htk
    exact hQ _ ⟨fun b o hb e => hk b o (hk₁ b o (fun h => hb (h ▸ List.mem_cons_self ..)) (fun h => hb (List.mem_cons_of_mem _ h)) e), GenOnlyQ.of ((GenOnly.setGen s g .running).trans (GenOnly.setGen _ g .finished)) (setGen_self (gs := .running) (setGen_self hgs)) rfl, rfl, rfl, htk⟩
theorem GenZ.fresh {xa xb : Str} {ea eb pa pb tb pt ep : Pos} {kt ke : Nat} {iter : Expr} {scope : Scope} {pos : Pos} {z TI TO i1 i2 t1 t2 : Addr} {xs ys : List Value} {cenv : Env} {a : Addr} {g : Nat}
    (hh : A.handled = none) (D : ZipApart z TI TO i1 i2 t1 t2) (hab : xa ≠ xb) (hkd : cenv.scope.kind = .function) (hla : cenv.scope.names.lookup xa = some .local) (hlb : cenv.scope.names.lookup xb = some .local)
    (hda : (xa == ("__debug__" : Str)) = false) (hdb : (xb == ("__debug__" : Str)) = false) (hco : cenv.scope.isCoroutine = false) (hCf : cenv.locals ∉ zipFp z TI TO i1 i2 t1 t2) (ht : ∀ v ∈ ys, isTxt v) (hl : xs.length = ys.length)
    {s : Shared} {m : Str → Option Value} (hg : s.heap.IsGen a g) (hgs : s.gens[g]? = some (.fresh (.compStart (tokGen xa xb ea eb pa pb tb pt ep kt ke iter scope pos) 0 (.ref z) .none cenv)))
    (Z : ZipAt s.heap z TI TO i1 i2 t1 t2 0 xs.toArray ys.toArray) (hn : s.heap.Ns cenv.locals m) (hlim : s.heap.NoLimit) :
    GenZ prog w A a g cenv.locals (cStatics :: zipFp z TI TO i1 i2 t1 t2) [z, TO, i1, i2] (picks xs ys) 0 s :=
  ⟨hg, hlim, _, hgs, fun s'' hal => ⟨rfl, tok_start (A := A.in1) hh D hab hkd hla hlb hda hdb hco hCf ht hl s'' s'' m (Z.up fun b hb o e => hal b (List.mem_cons_of_mem _ (List.mem_cons_of_mem _ hb)) o e)
    (hn.at' fun o e => hal _ (List.mem_cons_self ..) o e) (GenSince.refl _ _ _) (Nat.le_refl _)⟩⟩
end
end Rk
end
section
open PySem PySem.W PyProof.Rows PySem.Calls
set_option maxRecDepth 100000
namespace Rk
/-- what the list has after the generator's end: new tuples, each newer than the one before -/
inductive Tups (h : Heap) : Nat → List (List Value) → List Value → Prop
  | nil (n : Nat) : Tups h n [] []
  | cons {n : Nat} {vs : List Value} {T : Addr} {Ps : List (List Value)} {us : List Value} (g : h.get? T = some (tupO vs)) (le : n ≤ T) (r : Tups h (T + 1) Ps us) : Tups h n (vs :: Ps) (.ref T :: us)
theorem Tups.older {h : Heap} {n m : Nat} {Ps : List (List Value)} {us : List Value} (x : Tups h n Ps us) (k : m ≤ n) : Tups h m Ps us := by
  cases x with
  | nil => exact .nil _
  | cons g le r => exact .cons g (Nat.le_trans k le) r
section
variable {prog : Program} {w : World} {A : Around}
theorem extendZ_loop (hh : A.handled = none) (hroom : A.in1.depth < recursionLimit) {a : Addr} {g : Nat} {C : Addr} {fp wr : List Addr} {Ps : List (List Value)} (haC : a ≠ C) (haw : a ∉ wr) (hcC : cStatics ≠ C) (hcw : cStatics ∉ wr) (hcs : cStatics ∈ fp) (hwf : ∀ b ∈ wr, b ∈ fp)
    {S : Addr} (hS : S ∉ a :: C :: fp) {res : Value} {R : Result → Shared → Prop} : ∀ (n j : Nat) (s : Shared) (acc : Array Value) (c : Nat), Ps.length - j = n → j ≤ Ps.length → GenZ prog w A.in1 a g C fp wr Ps j s →
    s.heap.get? S = some { cls := .type "list", dict := none, data := .seq acc c, slots := #[] } → acc.size + n ≤ sizeLine → (∀ b ∈ a :: C :: fp, b < s.heap.objs.size) →
    (∀ s' us c', Moved (S :: C :: wr) (GenOnlyQ g) s s' → s'.heap.get? S = some { cls := .type "list", dict := none, data := .seq (acc ++ us.toArray) c', slots := #[] } → Tups s'.heap s.heap.objs.size (Ps.drop j) us → R (.ok (.ret res)) s') →
    codeAny (model prog w) A (.builtin "list.extend.loop" ⟨[.ref S, .ref a, res], []⟩) R s := by
  have hSw : S ∉ C :: wr := fun h => hS (by
    rcases List.mem_cons.mp h with h | h
    · exact h ▸ List.mem_cons_of_mem _ (List.mem_cons_self ..)
    · exact List.mem_cons_of_mem _ (List.mem_cons_of_mem _ (hwf _ h)))
  have hsub : ∀ b ∈ C :: wr, b ∈ S :: C :: wr := fun b hb => List.mem_cons_of_mem _ hb
  have gtr : ∀ a b c : Array GenState, GenOnlyQ g a b → GenOnlyQ g b c → GenOnlyQ g a c := fun _ _ _ x y => x.trans y
  intro n
  induction n with
  | zero =>
    intro j s acc c hn hj X hg hz hlt hR
    have e : j = Ps.length := by omega
    subst e
    refine codeAny_builtin PySem.F.entry_extend_loop ?_
    rw [Around.under_plainId PySem.F.plain_extend_loop _]
    show wpAny _ A.in1 (pyNext (.ref a) >>= _) _ _ s
    refine wpAny_bind (genZ_done (A := A.in1) hh hroom X fun s' hm => ?_)
    refine wpAny_pure (hR s' [] c (hm.mono hsub) ?_ ?_)
    · rw [hm.heap S _ hSw hg]; simp
    · rw [List.drop_length]; exact .nil _
  | succ n ih =>
    intro j s acc c hn hj X hg hz hlt hR
    have hjl : j < Ps.length := by omega
    refine codeAny_builtin PySem.F.entry_extend_loop ?_
    rw [Around.under_plainId PySem.F.plain_extend_loop _]
    show wpAny _ A.in1 (pyNext (.ref a) >>= _) _ _ s
    refine wpAny_bind (genZ_item (A := A.in1) (vs := Ps[j]) hh hroom haC haw hcC hcw X (List.getElem?_eq_getElem hjl) fun T s' hT hTge X' hm hsz => ?_)
    have hg' := hm.heap S _ hSw hg
    show wpAny _ A.in1 (updateSeq S (·.push (.ref T)) >>= _) _ _ _
    refine wpAny_bind ?_
    have hST : T ≠ S := fun e => Nat.lt_irrefl _ (Nat.lt_of_lt_of_le (e ▸ Heap.lt_size hg) hTge)
    have oth : ∀ b o, b ≠ S → s'.heap.get? b = some o → (s'.heap.update S (Obj.mapSeq (·.push (.ref T)))).get? b = some o := fun b o hb e => (Heap.get?_update_other _ _ (Ne.symm hb)).trans e
    have hlt' : ∀ b ∈ a :: C :: fp, b < s'.heap.objs.size := fun b hb => Nat.lt_of_lt_of_le (hlt b hb) hsz
    refine wpAny_updateSeq hg' rfl (wpAny_pure ⟨plainId_quiet PySem.F.plain_extend_loop _, ih (j + 1) _ (acc.push (.ref T)) _ (by omega) hjl (X'.frame hcs (tk := s'.toks) fun b hb o e => oth b o (fun q => hS (q ▸ hb)) e) (Heap.get?_update_self _ hg' rfl) (by rw [Array.size_push]; omega) (fun b hb => by
        show b < (s'.heap.update S _).objs.size
        rw [Heap.size_update]; exact hlt' b hb) fun s'' us c'' hm'' hg'' ht => ?_⟩)
      (by omega) (by show (acc.push (.ref T)).size ≤ sizeLine + 1; rw [Array.size_push]; omega)
    refine hR s'' (.ref T :: us) c'' (Moved.trans gtr ((hm.mono hsub).then_heap (Nat.le_refl _) fun b o hb e => oth b o (fun q => hb (q ▸ List.mem_cons_self ..)) e) hm'') ?_ ?_
    · rw [hg'']
      congr 2
      simp
    · rw [List.drop_eq_getElem_cons hjl]
      refine .cons ?_ hTge (ht.older ?_)
      · have hTw : T ∉ S :: C :: wr := fun q => by
          rcases List.mem_cons.mp q with q | q
          · exact hST q
          · have : T ∈ a :: C :: fp := by
              rcases List.mem_cons.mp q with q | q
              · exact q ▸ List.mem_cons_of_mem _ (List.mem_cons_self ..)
              · exact List.mem_cons_of_mem _ (List.mem_cons_of_mem _ (hwf _ q))
            exact Nat.lt_irrefl _ (Nat.lt_of_lt_of_le (hlt T this) hTge)
        exact hm''.heap T _ hTw (oth T _ hST hT)
      · show T + 1 ≤ (s'.heap.update S _).objs.size
        rw [Heap.size_update]; exact Heap.lt_size hT
/-- result.extend(a generator) -/
theorem extendZ (hh : A.handled = none) (hroom : A.in1.depth < recursionLimit) {a : Addr} {g : Nat} {C : Addr} {fp wr : List Addr} {Ps : List (List Value)} (haC : a ≠ C) (haw : a ∉ wr) (hcC : cStatics ≠ C) (hcw : cStatics ∉ wr) (hcs : cStatics ∈ fp) (hwf : ∀ b ∈ wr, b ∈ fp)
    {S : Addr} (hS : S ∉ a :: C :: fp) {s : Shared} {acc : Array Value} {c : Nat} {Q : Value → Shared → Prop} {E : Value → Shared → Prop} (X : GenZ prog w A.in1 a g C fp wr Ps 0 s)
    (hg : s.heap.get? S = some { cls := .type "list", dict := none, data := .seq acc c, slots := #[] }) (hz : acc.size + Ps.length ≤ sizeLine) (hz1 : acc.size < sizeLine) (hlt : ∀ b ∈ a :: C :: fp, b < s.heap.objs.size)
    (hR : ∀ s' us c', Moved (S :: C :: wr) (GenOnlyQ g) s s' → s'.heap.get? S = some { cls := .type "list", dict := none, data := .seq (acc ++ us.toArray) c', slots := #[] } → Tups s'.heap s.heap.objs.size Ps us → Q .none s') :
    wpAny (model prog w) A (call (.builtin "list.extend") [.ref S, .ref a] []) Q E s := by
  have hSa : S ≠ a := fun e => hS (e ▸ List.mem_cons_self ..)
  refine wpAny_call (codeAny_call_builtin PySem.F.slot_list_extend.plain PySem.F.entry_list_extend (PySem.F.slot_list_extend.check _ _ _ _ _ _ _ _ ⟨_, hg, rfl⟩ (PySem.F.args_list_extend_2 _ _) ?_))
  show wpAny _ A.in1 (Builtin.List.listExtendWith (.ref S) (.ref a) .none) _ _ _
  have hz0 : acc.size ≤ sizeLine := Nat.le_trans (Nat.le_add_right _ _) hz
  have hgen := X.1
  unfold Builtin.List.listExtendWith
  refine wpAny_bind (wpAny_typeOf hgen.typeIs ?_)
  have h1 : Builtin.List.listSameRef (.ref S) (.ref a) = false := by simp [Builtin.List.listSameRef, hSa]
  have h2 : (Value.type "generator" == Value.type "list") = false := by decide
  have h3 : (Value.type "generator" == Value.type "tuple") = false := by decide
  simp only [h1, h2, h3, Bool.or_false, Bool.false_eq_true, if_false]
  refine wpAny_bind (wpAny_pyIter_gen hgen ?_)
  refine wpAny_bind (wpAny_holding ?_)
  unfold Builtin.List.listLengthHint
  refine wpAny_bind (wpAny_specialOf hgen.typeIs PySem.F.gen_no_len ?_)
  show wpAny _ A.in1 (specialOf (Value.ref a) (Str.ofString "__length_hint__") >>= _) _ _ _
  refine wpAny_bind (wpAny_specialOf hgen.typeIs PySem.F.gen_no_hint ?_)
  refine wpAny_pure ?_
  show wpAny _ A.in1 (rule "list.extend.makes-room" >>= fun _ => Builtin.List.listTouch (.ref S) >>= fun _ =>
    again (.builtin "list.extend.loop" ⟨[.ref S, .ref a, .none], []⟩)) _ _ _
  refine wpAny_bind (wpAny_rule ?_)
  refine wpAny_bind ?_
  show wpAny _ A.in1 (updateSeq S (·.push .none) >>= fun _ => updateSeq S (·.pop)) _ _ _
  refine wpAny_bind (wpAny_updateSeq hg rfl ?_ hz0 (by show (acc.push .none).size ≤ _; rw [Array.size_push]; omega))
  have hS₂ := Heap.get?_update_self (Obj.mapSeq (·.push Value.none)) hg rfl
  refine wpAny_updateSeq hS₂ rfl ?_ (by show (acc.push .none).size ≤ _; rw [Array.size_push]; omega) (by show (acc.push .none).pop.size ≤ _; rw [Array.size_pop, Array.size_push]; omega)
  have hS₃ := Heap.get?_update_self (Obj.mapSeq (·.pop)) hS₂ rfl
  have oth : ∀ b o, b ≠ S → s.heap.get? b = some o → ((s.heap.update S (Obj.mapSeq (·.push Value.none))).update S (Obj.mapSeq (·.pop))).get? b = some o :=
    fun b o hb e => (Heap.get?_update_other _ _ (Ne.symm hb)).trans ((Heap.get?_update_other _ _ (Ne.symm hb)).trans e)
  have gtr : ∀ a b c : Array GenState, GenOnlyQ g a b → GenOnlyQ g b c → GenOnlyQ g a c := fun _ _ _ x y => x.trans y
  refine wpAny_pure ⟨plainId_quiet PySem.F.plain_extend_loop _, extendZ_loop hh hroom haC haw hcC hcw hcs hwf hS Ps.length 0 _ _ _ rfl (Nat.zero_le _)
    (X.frame hcs (tk := s.toks) fun b hb o e => oth b o (fun q => hS (q ▸ hb)) e) hS₃ (by simpa using hz) (fun b hb => by
      show b < ((s.heap.update S _).update S _).objs.size
      rw [Heap.size_update, Heap.size_update]; exact hlt b hb) fun s' us c' hm hS' ht => ?_⟩
  refine hR s' us c' (Moved.trans gtr ((Moved.refl fun _ => .inl rfl).then_heap (Nat.le_refl _) fun b o hb e => oth b o (fun q => hb (q ▸ List.mem_cons_self ..)) e) hm) (by simpa using hS') (ht.older ?_)
  show s.heap.objs.size ≤ ((s.heap.update S _).update S _).objs.size
  rw [Heap.size_update, Heap.size_update]; exact Nat.le_refl _
end
end Rk
end
section
open PySem PySem.W PyProof.Rows PySem.Calls
set_option maxRecDepth 100000
namespace Rk
section
variable {G : Pg} {F : Fn} {X : Cx G F} {W : Wd} {σ : St} {s : Shared} {m : Str → Option Value} {news : Led}
theorem InvX.keptX (I : InvX X W σ s m news) {h' : Heap} {tk : Nat} {g : Array GenState} (k : ∀ b o, s.heap.get? b = some o → h'.get? b = some o) (hg : AllBare g) : InvX X W σ { s with heap := h', toks := tk, gens := g } m news :=
  ⟨I.fr.keeps k, fun p hp => ⟨k _ _ (I.nw p hp).1, (I.nw p hp).2⟩, I.nd, I.hr, I.loc, I.os, hg, I.P⟩
/-- a cell that grows, grows -/
theorem InvX.hole (I : InvX X W σ s m news) {P : Addr} (hP : P ∈ holes) {o' : Obj} (ho' : HoleO o') {h' : Heap} {tk : Nat} (hs : Heap.ExtBut P s.heap h') (hg : h'.get? P = some o') :
    InvX X W σ { s with heap := h', toks := tk } m (swapIn P o' news) := by
  have R := I.hr
  obtain ⟨⟨o, h1, h2⟩, h3, h4, h5⟩ := R.hol P hP
  have hL := (I.nw _ h1).2.1
  have h0 := (I.nw _ h1).2.2
  refine ⟨⟨I.fr.ns.extBut hs (Ne.symm hL), fun b ob e => hs b ob (fun q => ?_) (I.fr.keep b ob e), I.fr.above⟩, fun p hp => ?_, by rw [swapIn_keys]; exact I.nd,
    ⟨R.len, R.nd, fun p hp => mem_swapIn (R.fro p hp) (h4 p hp), fun p hp => ⟨mem_swapIn (R.exs p hp).1 (h5 p hp), (R.exs p hp).2⟩, fun b hb => ?_, fun i x a hi hl ha => ?_, R.apart, fun b hb => ?_⟩, I.loc, I.os, I.gens, I.P⟩
  · rw [q] at e; rw [h0] at e; cases e
  · obtain ⟨q, hq, e⟩ := List.mem_map.mp hp
    by_cases hqP : q.1 = P
    · rw [if_pos hqP] at e
      subst e
      exact ⟨hg, hL, h0⟩
    · rw [if_neg hqP] at e
      subst e
      exact ⟨hs _ _ hqP (I.nw q hq).1, (I.nw q hq).2⟩
  · obtain ⟨p, hp, e⟩ := R.own b hb
    have : b ∈ (swapIn P o' news).map (·.1) := by rw [swapIn_keys]; exact List.mem_map.mpr ⟨p, hp, e⟩
    exact List.mem_map.mp this
  · obtain ⟨ob, ho, hx⟩ := R.at_ i x a hi hl ha
    exact ⟨ob, mem_swapIn ho (fun (q : a = P) => h3 (q ▸ List.mem_of_getElem? ha)), hx⟩
  · obtain ⟨⟨ob, k1, k2⟩, k3⟩ := R.hol b hb
    by_cases hbP : b = P
    · subst hbP
      exact ⟨⟨o', mem_swapIn_self h1, ho'⟩, k3⟩
    · exact ⟨⟨ob, mem_swapIn k1 hbP, k2⟩, k3⟩
/-- the new tuples of a ledger -/
def tupLed : List (List Value) → List Value → Led
  | vs :: Ps, .ref T :: us => (T, tupO vs) :: tupLed Ps us
  | _, _ => []
theorem tupLed_ge {h : Heap} {Ps : List (List Value)} {us : List Value} : ∀ {n : Nat}, Tups h n Ps us → ∀ p ∈ tupLed Ps us, n ≤ p.1 ∧ h.get? p.1 = some p.2
  | _, .nil _, p, hp => by cases hp
  | _, .cons g le r, p, hp => by
    rcases List.mem_cons.mp hp with rfl | hp
    · exact ⟨le, g⟩
    · exact ⟨Nat.le_trans (Nat.le_succ_of_le le) (tupLed_ge r p hp).1, (tupLed_ge r p hp).2⟩
theorem tupLed_nodup {h : Heap} {Ps : List (List Value)} {us : List Value} : ∀ {n : Nat}, Tups h n Ps us → ((tupLed Ps us).map (·.1)).Nodup
  | _, .nil _ => List.nodup_nil
  | _, .cons (T := T) g le r => by
    show (T :: (tupLed _ _).map (·.1)).Nodup
    refine List.nodup_cons.mpr ⟨fun q => ?_, tupLed_nodup r⟩
    obtain ⟨p, hp, e⟩ := List.mem_map.mp q
    have := (tupLed_ge r p hp).1
    rw [e] at this
    exact Nat.not_succ_le_self _ this
/-- what such a generator hands out, in the reckoning -/
def pickT : List V → List V → List V
  | x :: xs, y :: ys => if truV y = true then .tuple [x, y] :: pickT xs ys else pickT xs ys
  | _, _ => []
def txtP : V → Bool
  | .str _ => true
  | .none => true
  | _ => false
theorem txt_of {fro : Led} {x : V} {v : Value} (r : VRep fro x v) (h : txtP x = true) : isTxt v ∧ txtV v = truV x := by
  cases r with
  | none => exact ⟨trivial, rfl⟩
  | str t hs hz => exact ⟨hz, rfl⟩
  | _ => cases h
theorem VReps.txt {fro : Led} : ∀ {xs : List V} {vs : List Value}, VReps fro xs vs → xs.all txtP = true → ∀ v ∈ vs, isTxt v
  | _, _, .nil, _, v, hv => by cases hv
  | _, _, .cons h t, e, v, hv => by
    rw [List.all_cons, Bool.and_eq_true] at e
    rcases List.mem_cons.mp hv with rfl | hv
    · exact (txt_of h e.1).1
    · exact t.txt e.2 v hv
theorem picks_rep {fro fro' : Led} {h : Heap} (up : ∀ p ∈ fro, p ∈ fro') : ∀ {ts us : List V} {xs ys : List Value}, VReps fro ts xs → VReps fro us ys → us.all txtP = true → ∀ {n : Nat} {zs : List Value}, Tups h n (picks xs ys) zs →
    (∀ p ∈ tupLed (picks xs ys) zs, p ∈ fro') → VReps fro' (pickT ts us) zs
  | _, _, _, _, .nil, _, _, _, zs, T, _ => by cases T; exact .nil
  | _, _, _, _, .cons _ _, .nil, _, _, zs, T, _ => by cases T; exact .nil
  | _, _, _, _, .cons (p := t) (v := x) h1 t1, .cons (p := u) (v := y) h2 t2, e, n, zs, T, hl => by
    rw [List.all_cons, Bool.and_eq_true] at e
    have q := (txt_of h2 e.1).2
    unfold picks at T hl
    unfold pickT
    rw [q] at T hl
    cases ht : truV u with
    | false =>
      rw [ht] at T hl
      rw [if_neg (by simp)] at T hl ⊢
      exact picks_rep up t1 t2 e.2 T hl
    | true =>
      rw [ht] at T hl
      rw [if_pos rfl] at T hl ⊢
      cases T with
      | cons g le r =>
        refine .cons (.tup (hl _ (.head _)) (.cons (h1.up up) (.cons (h2.up up) .nil)) (by show 2 ≤ sizeLine; rw [sizeLine_eq]; omega)) (picks_rep up t1 t2 e.2 r fun p hp => hl p (.tail _ hp))
theorem picks_len : ∀ (xs ys : List Value), (picks xs ys).length ≤ xs.length
  | [], _ => by unfold picks; exact Nat.zero_le _
  | _ :: _, [] => by unfold picks; exact Nat.zero_le _
  | x :: xs, y :: ys => by
    unfold picks
    have := picks_len xs ys
    split
    · simp only [List.length_cons]; omega
    · simp only [List.length_cons]; omega
theorem tups_len {h : Heap} {Ps : List (List Value)} {us : List Value} : ∀ {n : Nat}, Tups h n Ps us → us.length = Ps.length
  | _, .nil _ => rfl
  | _, .cons g le r => by rw [List.length_cons, List.length_cons, tups_len r]
end
end Rk
end
section
open PySem PySem.W PyProof.Rows PySem.Calls
set_option maxRecDepth 100000
namespace Rk
section
variable {W : Wd} {news : Led} {H : List AObj}
/-- new objects that stay -/
theorem HR.addFros (R : HR W news H) {led : Led} (hn : ∀ p ∈ led, ∀ q ∈ news, q.1 ≠ p.1) : HR ⟨W.mu, led ++ W.fro, W.ex, W.P⟩ (led ++ news) H ∧ W.Le ⟨W.mu, led ++ W.fro, W.ex, W.P⟩ := by
  have le : W.Le ⟨W.mu, led ++ W.fro, W.ex, W.P⟩ := ⟨fun _ _ e => e, fun p hp => List.mem_append_right _ hp, rfl, rfl⟩
  refine ⟨⟨R.len, R.nd, fun p hp => ?_, fun p hp => ⟨List.mem_append_right _ (R.exs p hp).1, (R.exs p hp).2.1, fun q hq => ?_⟩, fun a ha => (R.own a ha).imp fun p q => ⟨List.mem_append_right _ q.1, q.2⟩, fun i x a hi hl ha => ?_, fun i x a hi hl ha p hp => ?_, fun b hb => ?_⟩, le⟩
  · rcases List.mem_append.mp hp with hp | hp
    · exact List.mem_append_left _ hp
    · exact List.mem_append_right _ (R.fro p hp)
  · rcases List.mem_append.mp hq with hq | hq
    · exact fun e => hn q hq p (R.exs p hp).1 e.symm
    · exact (R.exs p hp).2.2 q hq
  · obtain ⟨o, ho, hx⟩ := R.at_ i x a hi hl ha
    exact ⟨o, List.mem_append_right _ ho, hx.up le⟩
  · rcases List.mem_append.mp hp with hp | hp
    · obtain ⟨o, ho, _⟩ := R.at_ i x a hi hl ha
      exact fun e => hn p hp _ ho e.symm
    · exact R.apart i x a hi hl ha p hp
  · obtain ⟨⟨o, h1, h2⟩, h3, h4, h5⟩ := R.hol b hb
    refine ⟨⟨o, List.mem_append_right _ h1, h2⟩, h3, fun q hq => ?_, h5⟩
    rcases List.mem_append.mp hq with hq | hq
    · exact fun e => hn q hq _ h1 e.symm
    · exact h4 q hq
end
section
variable {G : Pg} {F : Fn} {X : Cx G F} {W : Wd} {σ : St} {s : Shared} {m : Str → Option Value} {news : Led}
theorem InvX.grown (I : InvX X W σ s m news) {N : Nat} (hN : ∀ p ∈ news, p.1 < N) (hL : X.L < N) (hNs : N ≤ s.heap.objs.size) {i : Nat} {S : Addr} {ws : List V} {vs : List Value} {n : Nat} (hi : σ.H[i]? = some (.vlist ws)) (ha : W.mu[i]? = some S)
    (ho : (S, listOf vs.toArray n) ∈ news) (hv : VReps W.fro ws vs) {h' : Heap} {tk : Nat} {g : Array GenState} (hg : AllBare g) {ts us : List V} {xs ys zs : List Value} {c : Nat} (rt : VReps W.fro ts xs) (ru : VReps W.fro us ys) (he : us.all txtP = true)
    (T : Tups h' s.heap.objs.size (picks xs ys) zs) (hS : h'.get? S = some (listOf (vs ++ zs).toArray c)) (hz : vs.length + ts.length ≤ sizeLine) (hk : ∀ b o, b ≠ S → b < N → s.heap.get? b = some o → h'.get? b = some o) :
    ∃ W', W.Le W' ∧ InvX X W' ⟨σ.loc, σ.H.set i (.vlist (ws ++ pickT ts us))⟩ { s with heap := h', toks := tk, gens := g } m (tupLed (picks xs ys) zs ++ swapIn S (listOf (vs ++ zs).toArray c) news) := by
  have R := I.hr
  have hSL := (I.nw _ ho).2.1
  have hS0 := (I.nw _ ho).2.2
  have hnew : ∀ p ∈ tupLed (picks xs ys) zs, ∀ q ∈ news, q.1 ≠ p.1 := fun p hp q hq => Nat.ne_of_lt (Nat.lt_of_lt_of_le (hN q hq) (Nat.le_trans hNs (tupLed_ge T p hp).1))
  obtain ⟨R₁, le⟩ := R.addFros hnew
  have hSn : ∀ p ∈ tupLed (picks xs ys) zs, p.1 ≠ S := fun p hp e => hnew p hp _ ho e.symm
  have ho₁ : (S, listOf vs.toArray n) ∈ tupLed (picks xs ys) zs ++ news := List.mem_append_right _ ho
  have hvz : VReps (tupLed (picks xs ys) zs ++ W.fro) (ws ++ pickT ts us) (vs ++ zs) := (hv.up le.kp).append (picks_rep le.kp rt ru he T fun p hp => List.mem_append_left _ hp)
  have hlen : (vs ++ zs).length ≤ sizeLine := by
    rw [List.length_append, tups_len T]
    have := picks_len xs ys
    rw [rt.length] at this
    omega
  have R₂ := R₁.set (x' := .vlist (ws ++ pickT ts us)) (o' := listOf (vs ++ zs).toArray c) hi rfl ha ho₁ ⟨_, _, rfl, hvz, hlen⟩
  have esw : swapIn S (listOf (vs ++ zs).toArray c) (tupLed (picks xs ys) zs ++ news) = tupLed (picks xs ys) zs ++ swapIn S (listOf (vs ++ zs).toArray c) news := by
    unfold swapIn
    rw [List.map_append]
    congr 1
    exact swapIn_none hSn
  rw [esw] at R₂
  refine ⟨_, le, ⟨⟨I.fr.ns.at' fun o e => hk _ o (Ne.symm hSL) hL e, fun b ob e => hk b ob (fun q => ?_) (Nat.lt_of_lt_of_le (Heap.lt_size e) (Nat.le_trans I.fr.above (Nat.le_of_lt hL))) (I.fr.keep b ob e), I.fr.above⟩, fun p hp => ?_, ?_, R₂, fun x p e => ?_, I.os, hg, I.P⟩⟩
  · rw [q] at e
    rw [hS0] at e; cases e
  · rcases List.mem_append.mp hp with hp | hp
    · obtain ⟨h1, h2⟩ := tupLed_ge T p hp
      have hge : N ≤ p.1 := Nat.le_trans hNs h1
      exact ⟨h2, Nat.ne_of_gt (Nat.lt_of_lt_of_le hL hge), Heap.get?_none_of_le (Nat.le_trans I.fr.above (Nat.le_trans (Nat.le_of_lt hL) hge))⟩
    · obtain ⟨q, hq, e⟩ := List.mem_map.mp hp
      by_cases hqP : q.1 = S
      · rw [if_pos hqP] at e
        subst e
        exact ⟨hS, hSL, hS0⟩
      · rw [if_neg hqP] at e
        subst e
        exact ⟨hk _ _ hqP (hN q hq) (I.nw q hq).1, (I.nw q hq).2⟩
  · rw [List.map_append, List.nodup_append, swapIn_keys]
    refine ⟨tupLed_nodup T, I.nd, fun a ha b hb e => ?_⟩
    obtain ⟨p, hp, e1⟩ := List.mem_map.mp ha
    obtain ⟨q, hq, e2⟩ := List.mem_map.mp hb
    exact hnew p hp q hq (by rw [e1, e2]; exact e.symm)
  · obtain ⟨v, hv', r⟩ := I.loc x p e
    exact ⟨v, hv', r.up le⟩
end
end Rk
end
section
open PySem PySem.W PyProof.Rows PySem.Calls
set_option maxRecDepth 100000
set_option linter.unusedVariables false
namespace Rk
/-- code objects and the cells that grow in them -/
structure CellOk (G : Pg) (cells : List (Addr × Addr)) : Prop where
  at_ : ∀ P c p, cells.lookup c = some p → p ∈ holes ∧ c ≠ p ∧ ∃ o vs file tf flags tg inF text tt, (G.K P).lookup c = some o ∧ o.cls = .type "code" ∧ o.data = .fields vs ∧ vs.getD 11 .none = .ref p ∧ vs.getD 18 .none = .str file tf ∧
    vs.getD 7 .none = .int flags tg ∧ vs.getD 9 .none = .bool inF ∧ vs.getD 10 .none = .int text tt
theorem getD_ref {vs : Array Value} {i : Nat} {P : Addr} (h : vs.getD i .none = .ref P) : vs[i]? = some (.ref P) := by
  rw [Array.getD_eq_getD_getElem?] at h
  cases e : vs[i]? with
  | none => rw [e] at h; cases h
  | some v => rw [e] at h; exact congrArg some h
theorem genexprCodeT {M : Model} {A : Around} {E : Value → Shared → Prop} {s : Shared} {env : Env} {c P : Addr} {ps : Array Value} {pos : Pos} {qualname : Str} {scope : Scope} {Q : Value → Shared → Prop} (hc : env.code = .ref c) (hok : s.heap.IsCode c P ps) (htab : s.heap.TableAt c P ps)
    (hQ : ∀ code h' tk ps', Heap.ExtBut P s.heap h' → h'.IsCode c P ps' → h'.TableAt c P ps' → Q code { s with heap := h', toks := tk }) : wpAny M A (genexprCode env pos qualname scope) Q E s := by
  cases hnf : codeAmong pos ps.toList with
  | some c' => exact wpAny_genexprCode_hit hc hok hnf (hQ c' s.heap s.toks ps (Heap.ExtBut.refl _ _) hok htab)
  | none => exact wpAny_genexprCodeX hc hok htab hnf fun c' h' tk hx _ _ hok' _ htab' _ => hQ _ h' tk _ hx hok' htab'
def cellAt (cells : List (Addr × Addr)) : Value → Option Addr
  | .ref c => cells.lookup c
  | _ => none
def isBi (T : Tb) (F : Fn) (x : Str) (v : Value) : Bool := !(x == ("__debug__" : Str)) && F.scope.names.lookup x == some .globalImplicit && (T.globs.lookup x).isNone && T.bis.lookup x == some v
def genScope (scope : Scope) : Bool := scope.kind == .function && scope.names.lookup (".0" : Str) == some NameKind.local && !scope.isCoroutine && scope.names.all fun x => !(x.2 == .cell) && !(x.2 == .free)
def extFin (i : Nat) (qs : List PV) (σ : St) : Out PV := match qs with
  | [.v (.tuple ts), .v (.tuple us)] => (match σ.H[i]? with
    | some (.vlist ws) => (match ts.length == us.length && us.all txtP && fitsN (ws.length + ts.length + 1) with
      | true => .ok (.v .none) ⟨σ.loc, σ.H.set i (.vlist (ws ++ pickT ts us))⟩
      | false => .no)
    | _ => .no)
  | _ => .no
def extTail (E : Ev) (F : Fn) (A1 A2 : Expr) (p : PV) (σ : St) : Out PV := match p with
  | .ref i => (match σ.H[i]? with
    | some (.vlist _) => (evs E F [A1, A2] σ).bind fun qs σ => extFin i qs σ
    | _ => .no)
  | _ => .no
def extOk (T : Tb) (cells : List (Addr × Addr)) (F : Fn) (name ya yb xa xb xt zn : Str) (A1 A2 : Expr) (scope : Scope) (apos pos : Pos) : Bool :=
  name == ("extend" : Str) && ya == xa && yb == xb && xt == xb && !(xa == xb) && !(xa == ("__debug__" : Str)) && !(xb == ("__debug__" : Str)) && genScope scope && scope.names.lookup xa == some .local && scope.names.lookup xb == some .local &&
    (apos.endLine == pos.line) && !isStar A1 && !isStar A2 && isBi T F zn (.type "zip") && (cellAt cells F.cd).isSome
/-- r.extend((a, b) for a, b in zip(A1, A2) if b) -/
def extE (T : Tb) (cells : List (Addr × Addr)) (E : Ev) (F : Fn) (e : Expr) (σ : St) : Out PV := match e with
  | .Call (.Attribute (.Name r rp) name apos) [.GeneratorExp (.Tuple [.Name ya ea, .Name yb eb] ke ep) [⟨.Tuple [.Name xa pa, .Name xb pb] kt pt, .Call (.Name zn zp) [A1, A2] [] zpos, [.Name xt tb], 0⟩] scope gpos] [] pos =>
    (match extOk T cells F name ya yb xa xb xt zn A1 A2 scope apos pos with
    | true => (E.ev F (.Name r rp) σ).bind fun p σ => extTail E F A1 A2 p σ
    | false => .no)
  | _ => .no
section
variable {G : Pg} {F : Fn} {X : Cx G F} {W : Wd} {σ : St} {T : Tb} {E : Ev} {B : Xb}
theorem extE_sat (S : Got X E) (tb : TbOk G T) {cells : List (Addr × Addr)} (C : CellOk G cells) (ok : X.Ok) (e : Expr) : Sat X W (eval e X.env) σ (extE T cells E F e σ) := by
  intro hn
  unfold extE at hn ⊢
  split at hn
  rotate_left 1
  · exact (hn rfl).elim
  rename_i r rp name apos ya ea yb eb ke ep xa pa xb pb kt pt zn zp A1 A2 zpos xt tb' scope gpos pos
  split at hn
  rotate_left 1
  · exact (hn rfl).elim
  rename_i hc
  unfold extOk genScope isBi at hc
  simp only [Bool.and_eq_true, beq_iff_eq, Bool.not_eq_true'] at hc
  obtain ⟨⟨⟨⟨⟨⟨⟨⟨⟨⟨⟨⟨⟨⟨c1, c2⟩, c3⟩, c4⟩, c5⟩, c6⟩, c7⟩, ⟨⟨⟨k1, k2⟩, k3⟩, k4⟩⟩, c8⟩, c9⟩, c10⟩, c11⟩, c12⟩, ⟨⟨⟨z1, z2⟩, z3⟩, z4⟩⟩, c13⟩ := hc
  subst c1 c2 c3 c4
  rw [meth_arm (o := .Name r rp) (args := [_]) rfl (by rw [c10]; simp) rfl (by show 1 < 30; omega)]
  refine Sat.bindV (S.ev W σ (.Name r rp)) (fun W₁ p ov σ₁ le₁ rp' _ => ?_) hn
  intro hn s I
  unfold extTail at hn ⊢
  split at hn
  rotate_left 1
  · exact (hn rfl).elim
  rename_i i hev
  split at hn
  rotate_left 1
  · exact (hn rfl).elim
  rename_i ws0 hi0
  cases rp' with | ref ha =>
  rename_i SA
  obtain ⟨m, news, J⟩ := id I
  obtain ⟨o, ho, vs0, n0, rfl, hv0, hz0⟩ := J.at_ hi0 rfl ha
  refine wpAny_bind (wpAny_standAt (wpAny_bind (wpAny_holding (getMethod_builtin (isList_of J ho).typeIs PySem.F.plainAttrs_list PySem.F.slot_list_extend PySem.F.type_list_extend (noDict_of J ho rfl) ?_))))
  refine callWith_of (P := fun _ => True) rfl (fun h _ => ⟨.machine, .inr (.inl rfl), Looks.of_pure rfl⟩) ?_
  generalize hoo : ((evs E F [A1, A2] σ₁).bind fun qs σ => extFin i qs σ) = oo at hn ⊢
  obtain ⟨cc, hcc⟩ := Option.isSome_iff_exists.mp c13
  obtain ⟨cd, hcd⟩ : ∃ c, F.cd = .ref c := by
    unfold cellAt at hcc
    split at hcc
    · exact ⟨_, by assumption⟩
    · cases hcc
  rw [hcd] at hcc
  obtain ⟨hPh, hcP, oc, fvs, file, tf, flags, tg, inF, text, tt, hK, hccls, hcdata, g11, g18, g7, g9, g10⟩ := C.at_ X.w.params cd cc hcc
  have hfree : ∀ x ∈ scope.names, x.2 ≠ .free := fun x hx e => by
    have := List.all_eq_true.mp k4 x hx
    rw [e] at this
    revert this; decide
  have hcell : ∀ x ∈ scope.names, x.2 ≠ .cell := fun x hx e => by
    have := List.all_eq_true.mp k4 x hx
    rw [e] at this
    revert this; decide
  have hh : X.A.handled = none := ok.handled
  have hroom : X.A.in4.in1.depth < recursionLimit := by
    have := ok.depth
    show X.Ac.depth + 1 < recursionLimit
    omega
  have hroom0 : X.A.depth < recursionLimit := by
    have := ok.depth
    show X.Ac.depth + 1 < recursionLimit
    omega
  refine evalArgs_plain (x := eval (tokGen ya xt ea eb pa pb tb' pt ep kt ke (.Call (.Name zn zp) [A1, A2] [] zpos) scope gpos) X.env) (rest := []) ?_
  show wpAny X.M X.A (do
    let v ← eval (tokGen ya xt ea eb pa pb tb' pt ep kt ke (.Call (.Name zn zp) [A1, A2] [] zpos) scope gpos) X.env
    let here ← (Pure.pure [v] : Sem (List Value))
    return here ++ (← holding here (spliced (backTo pos [])))) _ _ s
  refine wpAny_bind (wpAny_GeneratorExp_make k3 (closureFor_none hfree) hcell k2 k1 hroom0 ?_ (fun _ => rfl))
  obtain ⟨b1, b2, b3⟩ := tb.bis X.w.params _ _ z4
  have z3' : T.globs.lookup zn = none := by simpa using z3
  rw [call_arm (func := .Name zn zp) rfl]
  refine wpAny_bind (nameX_B (cl := []) J.fr ok.kin (topRead_of ok.top) b1 b2 b3 ?_ ok.kind z2 z1)
  refine callWith_of (P := fun _ => True) (keywords := []) (by rw [star_plain (by unfold anyStar; simp [c11, c12])]; rfl) (fun h _ => ⟨.machine, .inr (.inl rfl), Looks.of_pure rfl⟩) ?_
  have hn0 : evs E F [A1, A2] σ₁ ≠ .no := fun h => hn (by rw [← hoo, h]; rfl)
  have sp := evs_sat S (pos := zpos) [A1, A2] W₁ σ₁ hn0 s I
  rw [star_none c11] at sp ⊢
  refine evalArgs_plain (wpAny_mono sp (fun vs s₂ q => ⟨trivial, ?_⟩) fun v s' ⟨c, e, q⟩ => ⟨c, by rw [← hoo, e]; rfl, q⟩)
  obtain ⟨W₂, qs, σ₂, le₂, e₂, rs, m₂, news₂, J₂⟩ := q
  have ho₂ : extFin i qs σ₂ = oo := by rw [← hoo, e₂]; rfl
  unfold extFin at ho₂
  split at ho₂
  rotate_left 1
  · exact (hn ho₂.symm).elim
  rename_i ts us
  split at ho₂
  rotate_left 1
  · exact (hn ho₂.symm).elim
  rename_i ws hi₂
  split at ho₂
  rotate_left 1
  · exact (hn ho₂.symm).elim
  rename_i hcond
  simp only [Bool.and_eq_true, beq_iff_eq] at hcond
  obtain ⟨⟨hlen, htxt⟩, hfit⟩ := hcond
  cases rs with | cons r1 rs => cases rs with | cons r2 rs => cases rs with | nil =>
  cases r1 with | v r1 => cases r1 with | @tup _ xs t1 hm1 hr1 hz1 =>
  cases r2 with | v r2 => cases r2 with | @tup _ ys t2 hm2 hr2 hz2 =>
  have ha₂ := le₂.num _ _ ha
  obtain ⟨o₂, hob, vs, n, rfl, hv, hz⟩ := J₂.at_ hi₂ rfl ha₂
  have T1 : s₂.heap.IsTuple t1 xs.toArray := ⟨_, J₂.get (J₂.hr.fro _ hm1), rfl, _, rfl⟩
  have T2 : s₂.heap.IsTuple t2 ys.toArray := ⟨_, J₂.get (J₂.hr.fro _ hm2), rfl, _, rfl⟩
  have hN : ∀ p ∈ news₂, p.1 < s₂.heap.objs.size := fun p hp => Heap.lt_size (J₂.nw p hp).1
  have hLN : X.L < s₂.heap.objs.size := J₂.fr.ns.lt
  refine zipT_call T1 T2 fun h₃ z TI TO i1 i2 Z D ge old₃ => ?_
  have J₃ := J₂.keptX (h' := h₃) (tk := s₂.toks) (g := s₂.gens) old₃ J₂.gens
  refine wpAny_pyIter_zip Z.hz ⟨ok.top.nolimit.keeps J₃.fr.keep, ?_⟩
  obtain ⟨⟨op, hop, ps, rfl, hpt⟩, nmu, nfro, nex⟩ := J₃.hr.hol cc hPh
  have hccN : cc < s₂.heap.objs.size := hN _ hop
  have hok : h₃.IsCode cd cc ps := ⟨oc, fvs, file, tf, flags, tg, inF, text, tt, _, (J₃.k ok) _ _ hK, hcdata, g11, g18, g7, g9, g10, J₃.get hop, rfl, hpt, hcP⟩
  have htab : Heap.TableAt h₃ cd cc ps := ⟨⟨oc, fvs, (J₃.k ok) _ _ hK, hccls, hcdata, getD_ref g11⟩, J₃.get hop⟩
  refine genexprCodeT (c := cd) (P := cc) (show X.env.code = .ref cd from hcd) hok htab fun code h₄ tk₄ ps' hx₄ hok₄ htab₄ => ?_
  have ht₄ : TriplesOk ps'.toList := by
    obtain ⟨_, _, _, _, _, _, _, _, _, op', _, _, _, _, _, _, _, q1, q2, q3, _⟩ := hok₄
    exact q3
  have hg₄ := htab₄.2
  have J₄ := J₃.hole hPh ⟨ps', rfl, ht₄⟩ (tk := tk₄) hx₄ hg₄
  have nt1 : t1 ≠ cc := nfro _ hm1
  have nt2 : t2 ≠ cc := nfro _ hm2
  have ncc : ∀ b, s₂.heap.objs.size ≤ b → b ≠ cc := fun b hb e => Nat.lt_irrefl _ (Nat.lt_of_lt_of_le (e ▸ hccN) hb)
  have Z₄ : ZipAt h₄ z TI TO i1 i2 t1 t2 0 xs.toArray ys.toArray := Z.up fun b hb o e => hx₄ b o (by
    simp only [List.mem_cons, List.not_mem_nil, or_false] at hb
    rcases hb with rfl | rfl | rfl | rfl | rfl | rfl | rfl
    · exact ncc _ ge.1
    · exact ncc _ ge.2.1
    · exact ncc _ ge.2.2.1
    · exact ncc _ ge.2.2.2.1
    · exact ncc _ ge.2.2.2.2
    · exact nt1
    · exact nt2) e
  obtain ⟨bm, ob, Mb⟩ := bmod_of_top ok.top
  have M₄ := Mb.keeps J₄.fr.keep
  refine wpAny_builtinsFor M₄.ns M₄.name M₄.ne M₄.obj M₄.cls M₄.dict M₄.data ?_
  intro h₅ hns hsb
  have hsz₅ : h₅.objs.size = h₄.objs.size + 1 := by
    have := hsb.1
    rw [Heap.size_push] at this
    exact this
  have hN₄ : s₂.heap.objs.size < h₄.objs.size := Nat.lt_of_le_of_lt ge.1 (Heap.lt_size Z₄.hz)
  have k₅ : ∀ b o, h₄.get? b = some o → h₅.get? b = some o := fun b o e => hsb.extBut b o (Nat.ne_of_lt (Heap.lt_size e)) (Heap.get?_push_of_some _ e)
  refine wpAny_pure ⟨trivial, ?_⟩
  have hge₅ : ∀ gg, ∀ b o, h₄.get? b = some o → (h₅.push gg).get? b = some o := fun gg b o e => Heap.get?_push_of_some _ (k₅ b o e)
  have hS0 := (J₂.nw _ hob).2.2
  have hcs : ∃ o, X.h₀.get? cStatics = some o := by
    obtain ⟨mc, ⟨o, es, ep, ho, _⟩, _⟩ := ok.top.nolimit
    exact ⟨o, ho⟩
  obtain ⟨ocs, hcs⟩ := hcs
  have hcsN : cStatics < s₂.heap.objs.size := Nat.lt_of_lt_of_le (Heap.lt_size hcs) (Nat.le_trans J₂.fr.above (Nat.le_of_lt hLN))
  have hSN : SA < s₂.heap.objs.size := hN _ hob
  have hScs : SA ≠ cStatics := fun e => by rw [e, hcs] at hS0; cases hS0
  have hSt : ∀ p ∈ W₂.fro, p.1 ≠ SA := fun p hp => J₂.hr.apart _ _ _ hi₂ rfl ha₂ p hp
  have nge : ∀ {a b : Addr}, a < s₂.heap.objs.size → s₂.heap.objs.size ≤ b → a ≠ b := fun h1 h2 e => Nat.lt_irrefl _ (Nat.lt_of_lt_of_le (e ▸ h1) h2)
  have hC : s₂.heap.objs.size ≤ h₄.objs.size := Nat.le_of_lt hN₄
  have ha₅ : s₂.heap.objs.size ≤ h₅.objs.size := by rw [hsz₅]; exact Nat.le_succ_of_le hC
  have hdN : ∀ b ∈ zipFp z TI TO i1 i2 t1 t2, b < h₄.objs.size := fun b hb => by
    simp only [List.mem_cons, List.not_mem_nil, or_false] at hb
    rcases hb with rfl | rfl | rfl | rfl | rfl | rfl | rfl
    · exact Heap.lt_size Z₄.hz
    · exact Heap.lt_size Z₄.hTI
    · obtain ⟨_, _, e⟩ := Z₄.hTO; exact Heap.lt_size e
    · obtain ⟨_, e, _⟩ := Z₄.h1; exact Heap.lt_size e
    · obtain ⟨_, e, _⟩ := Z₄.h2; exact Heap.lt_size e
    · obtain ⟨_, e, _⟩ := Z₄.l1; exact Heap.lt_size e
    · obtain ⟨_, e, _⟩ := Z₄.l2; exact Heap.lt_size e
  have hwf : ∀ b ∈ [z, TO, i1, i2], b ∈ cStatics :: zipFp z TI TO i1 i2 t1 t2 := fun b hb => by
    simp only [List.mem_cons, List.not_mem_nil, or_false] at hb ⊢
    rcases hb with rfl | rfl | rfl | rfl <;> simp
  have hwge : ∀ b ∈ [z, TO, i1, i2], s₂.heap.objs.size ≤ b := fun b hb => by
    simp only [List.mem_cons, List.not_mem_nil, or_false] at hb
    rcases hb with rfl | rfl | rfl | rfl
    · exact ge.1
    · exact ge.2.2.1
    · exact ge.2.2.2.1
    · exact ge.2.2.2.2
  have J₅ := fun gg => J₄.keptX (h' := h₅.push gg) (tk := 0) (g := s₂.gens) (hge₅ gg) J₂.gens
  have hyl : xs.length = ys.length := by rw [hr1.length, hr2.length]; exact hlen
  have hfl := fitsN_le hfit
  have hvl : vs.length = ws.length := hv.length
  have hxl : xs.length = ts.length := hr1.length
  have hSc : SA ≠ cc := J₂.hr.hol.mu ha₂ |> fun h e => h (e ▸ hPh)
  have hSno : SA ∉ h₅.objs.size :: h₄.objs.size :: cStatics :: zipFp z TI TO i1 i2 t1 t2 := fun hb => by
    simp only [List.mem_cons, List.not_mem_nil, or_false] at hb
    rcases hb with e | e | e | e | e | e | e | e | e | e
    · exact nge hSN ha₅ e
    · exact nge hSN hC e
    · exact hScs e
    · exact nge hSN ge.1 e
    · exact nge hSN ge.2.1 e
    · exact nge hSN ge.2.2.1 e
    · exact nge hSN ge.2.2.2.1 e
    · exact nge hSN ge.2.2.2.2 e
    · exact hSt _ hm1 e.symm
    · exact hSt _ hm2 e.symm
  refine extendZ (A := X.A) (a := h₅.objs.size) (g := s₂.gens.size) (C := h₄.objs.size) (fp := cStatics :: zipFp z TI TO i1 i2 t1 t2) (wr := [z, TO, i1, i2]) (Ps := picks xs ys) hh hroom0 (by rw [hsz₅]; exact Nat.succ_ne_self _) (fun hb => ?_) (nge hcsN hC) (fun hb => nge hcsN (hwge _ hb) rfl) (List.mem_cons_self ..) hwf
    (S := SA) hSno (GenZ.fresh (A := X.A.in1) (m := fun y => if y = ".0" then some (.ref z) else none) (cenv := genEnv scope [] h₄.objs.size code builtinsNs X.env) hh D (by simpa using c5) k1 c8 c9 c6 c7 k3 (fun hb => Nat.lt_irrefl _ (hdN _ hb)) (hr2.txt htxt) hyl
      ⟨_, _, _, Heap.get?_push_size _ rfl, rfl, rfl, rfl⟩ (Array.getElem?_push_size ..) (Z₄.up fun b _ o e => hge₅ _ b o e) (hns.push _) (ok.top.nolimit.keeps (J₅ _).fr.keep))
    (acc := vs.toArray) (c := n) ((J₅ _).get (mem_swapIn hob hSc)) ?_ ?_ (fun b hb => ?_) fun s' zs c' hm hS' hT => ?_
  · have hb' : h₅.objs.size ∈ zipFp z TI TO i1 i2 t1 t2 := by
      simp only [List.mem_cons, List.not_mem_nil, or_false] at hb ⊢
      rcases hb with e | e | e | e <;> simp [e]
    have := hdN _ hb'
    rw [hsz₅] at this
    exact Nat.not_succ_lt_self this
  · rw [List.size_toArray]
    have := picks_len xs ys
    omega
  · rw [List.size_toArray]; omega
  · show b < (h₅.push _).objs.size
    rw [Heap.size_push, hsz₅]
    rcases List.mem_cons.mp hb with rfl | hb
    · rw [hsz₅]; exact Nat.lt_succ_self _
    · rcases List.mem_cons.mp hb with rfl | hb
      · exact Nat.lt_succ_of_lt (Nat.lt_succ_self _)
      · rcases List.mem_cons.mp hb with rfl | hb
        · exact Nat.lt_succ_of_lt (Nat.lt_succ_of_lt (Nat.lt_of_lt_of_le hcsN hC))
        · exact Nat.lt_succ_of_lt (Nat.lt_succ_of_lt (hdN _ hb))
  · have hN' : ∀ {o' : Obj}, ∀ p ∈ swapIn cc o' news₂, p.1 < s₂.heap.objs.size := fun p hp => by
      have : p.1 ∈ news₂.map (·.1) := by rw [← swapIn_keys cc]; exact List.mem_map.mpr ⟨p, hp, rfl⟩
      obtain ⟨q, hq, e⟩ := List.mem_map.mp this
      rw [← e]; exact hN q hq
    have hS'' : s'.heap.get? SA = some (listOf (vs ++ zs).toArray c') := by rw [hS']; simp
    obtain ⟨W₃, le₃, J₆⟩ := (J₅ _).grown (tk := s'.toks) (g := s'.gens) hN' hLN (by show s₂.heap.objs.size ≤ (h₅.push _).objs.size; rw [Heap.size_push]; exact Nat.le_succ_of_le ha₅) hi₂ ha₂ (mem_swapIn hob hSc) hv ((J₂.gens.push rfl).moved hm.gens) hr1 hr2 htxt hT hS'' (by omega) fun b o hb hbN e => hm.heap b o (fun q => by
      rcases List.mem_cons.mp q with q | q
      · exact hb q
      · rcases List.mem_cons.mp q with q | q
        · exact nge hbN hC q
        · exact nge hbN (hwge _ q) rfl) e
    refine ⟨W₃, _, _, le₂.trans le₃, ho₂.symm, .v .none, m₂, tupLed (picks xs ys) zs ++ swapIn SA (listOf (vs ++ zs).toArray c') (swapIn cc ({ cls := .none, data := .fields ps' } : Obj) news₂), ?_⟩
    have es : s' = { s₂ with heap := s'.heap, gens := s'.gens, toks := s'.toks } := by
      obtain ⟨a1, a2, a3, a4, a5⟩ := s'
      have e1 := hm.drawn
      have e2 := hm.os
      simp only at e1 e2
      rw [e1, e2]
    rw [es]
    exact J₆
end
end Rk
end
section
open PySem PySem.W PyProof.Rows PySem.Calls
set_option maxRecDepth 100000
namespace Rk
theorem orStandIn_led (t : SetTable) (n : Nat) : (t.orStandIn n).led = t.led := by
  unfold SetTable.orStandIn; split <;> rfl
theorem layNew_led (t : SetTable) (es : Array (Int × Value)) (h : Int) (x : Value) : (layNew t es h x).2.1.led = t.led := by
  unfold layNew
  split
  · dsimp only
    rw [orStandIn_led]; rfl
  · rfl
theorem laid_led {mask finger moves : Nat} {led plain : Bool} {hashes : Array Int} {r : SetTable × Array Nat} (h : SetTable.laid mask finger moves led plain hashes = some r) : r.1.led = led ∧ r.1.plain = plain := by
  unfold SetTable.laid at h
  cases hc : SetTable.layClean mask hashes with
  | none => rw [hc] at h; cases h
  | some o => rw [hc] at h; cases h; exact ⟨rfl, rfl⟩
theorem relayAll_led (t : SetTable) (es : Array (Int × Value)) (wanted : Nat) : (relayAll t es wanted).2.1.led = t.led := by
  unfold relayAll
  split
  · rename_i t' order hr
    have := laid_led (show SetTable.laid _ _ _ _ _ _ = some (t', order) from hr)
    dsimp only
    split
    · exact this.1
    · rfl
  · rfl
theorem relayAll_plain (t : SetTable) (es : Array (Int × Value)) (wanted : Nat) (hp : t.plain = false) : (relayAll t es wanted).2.1.plain = false := by
  unfold relayAll
  split
  · rename_i t' order hr
    have := laid_led (show SetTable.laid _ _ _ _ _ _ = some (t', order) from hr)
    dsimp only
    split
    · rw [this.2]; exact hp
    · rfl
  · rfl
section
variable {prog : Program} {w : World} {A : Around} {E : Value → Shared → Prop} {s : Shared}
/-- the entries of strs -/
abbrev strEs (P : Params) (L : List (Str × Tok)) : List (Int × Value) := L.map fun y => (PyData.keyHash P y.1, Value.str y.1 y.2)
theorem elems_str (L : List (Str × Tok)) : ElemsOf (strKind prog w) (strEs w.params L) := fun e he => by
  obtain ⟨y, hy, rfl⟩ := List.mem_map.mp he
  exact ⟨⟨y.1, by show Value.isStrOf y.1 (.str y.1 y.2) = true; simp [Value.isStrOf], rfl⟩, rfl⟩
/-- a str that is not there is put into a set of any kind -/
theorem addF {T : String} {a : Addr} {es : Array (Int × Value)} {ep : Nat} {t : SetTable} {x : Str} {tx : Tok} {L : List (Str × Tok)} {Q : Bool → Shared → Prop} (ho : s.heap.get? a = some (setOb T es ep t)) (hf : t.fits es.size = true)
    (hL : es.toList.Perm (strEs w.params L)) (hx : x ∉ L.map (·.1)) (hb : es.size + 1 < scanBound)
    (h : ∀ h' es' ep' t', Heap.SameBut a s.heap h' → h'.get? a = some (setOb T es' ep' t') → es'.toList.Perm (strEs w.params (L ++ [(x, tx)])) → t'.fits es'.size = true → t'.led = t.led → t'.plain = false → Q true { s with heap := h' }) :
    wpAny (model prog w) A (setAddHashed a (.str x tx) (PyData.keyHash w.params x)) Q E s := by
  have hel : ElemsOf (strKind prog w) es.toList := (elems_str (prog := prog) L).perm hL
  have hkey : (strKind prog w).is x (.str x tx) = true := by show Value.isStrOf x (.str x tx) = true; simp [Value.isStrOf]
  have hsc : (Value.str x tx).scannable = true := rfl
  unfold setAddHashed setAddHashedIn
  refine wpAny_holding (wpAny_bind (wpAny_setState_of ho rfl hf ?_))
  dsimp only
  rw [byScan_of hsc (by omega) hel]
  simp only [↓reduceIte]
  unfold setAddByScan
  refine wpAny_bind ?_
  refine wpAny_bind (wpAny_rule ?_)
  refine wpAny_bind (wpAny_setScan_of (knd := strKind prog w) hkey ho rfl hf hel ?_)
  have hr : List.findIdx? (fun e => (strKind prog w).is x e.2) es.toList = none := by
    rw [List.findIdx?_eq_none_iff]
    intro e he
    obtain ⟨y, hy, rfl⟩ := List.mem_map.mp ((hL.mem_iff).mp he)
    cases q : (strKind prog w).is x (Value.str y.1 y.2) with
    | false => rfl
    | true =>
      obtain ⟨tk, q⟩ := Value.isStrOf_shape (show Value.isStrOf x (.str y.1 y.2) = true from q)
      injection q with q
      exact absurd (List.mem_map.mpr ⟨y, hy, q⟩) hx
  rw [hr]
  dsimp only
  have hgw : ∀ (b : Bool) {s₁ : Shared} {Q' : Unit → Shared → Prop}, Q' () s₁ → wpAny (model prog w) A (match b with | true => rule "set.scan.the-table-gave-way" | false => pure ()) Q' E s₁ :=
    fun b s₁ Q' hq => by cases b <;> first | exact wpAny_pure hq | exact wpAny_rule hq
  have hperm := layNew_perm t es (PyData.keyHash w.params x) (.str x tx)
  have hfits := layNew_fits t es (PyData.keyHash w.params x) (.str x tx)
  have hled := layNew_led t es (PyData.keyHash w.params x) (.str x tx)
  show wpAny _ _ _ _ _ _
  generalize hLn : layNew t es (PyData.keyHash w.params x) (.str x tx) = Ln at hperm hfits hled
  have hLn' : layNew t es ((strKind prog w).hash x) (.str x tx) = Ln := hLn
  try rw [hLn]
  obtain ⟨es1, t1, wasDummy, gave⟩ := Ln
  dsimp only at hperm hfits hled ⊢
  rw [Array.toList_push] at hperm
  have hb1 : es1.size < scanBound := by rw [← Array.length_toList, hperm.length_eq, List.length_append, Array.length_toList]; simpa using hb
  have hP1 : es1.toList.Perm (strEs w.params (L ++ [(x, tx)])) := by
    refine hperm.trans ?_
    show (es.toList ++ _).Perm (List.map _ (L ++ [(x, tx)]))
    rw [List.map_append]
    exact hL.append_right _
  refine wpAny_bind (hgw _ ?_)
  have fin : ∀ (t2 : SetTable), t2.fits es1.size = true → t2.led = t.led → t2.plain = false → ∀ {R : Option Bool → Shared → Prop}, (∀ h' es' ep' t', Heap.SameBut a s.heap h' → h'.get? a = some (setOb T es' ep' t') → es'.toList.Perm (strEs w.params (L ++ [(x, tx)])) → t'.fits es'.size = true → t'.led = t.led → t'.plain = false → R (some true) { s with heap := h' }) →
      wpAny (model prog w) A (do
        storeSet a es1 t2
        if (!wasDummy && t2.tooFull) = true then do
            (match (relayAll t2 es1 (SetTable.grown es1.size)).2.2 with | true => rule "set.scan.the-table-gave-way" | false => pure ())
            storeSet a (relayAll t2 es1 (SetTable.grown es1.size)).1 (relayAll t2 es1 (SetTable.grown es1.size)).2.1
            pure (some true)
          else pure (some true)) R E s := by
    intro t2 f2 l2 p2 R hR
    refine wpAny_bind (wpAny_storeSet_of ho rfl ?_ (fits_of_scanBound hb1))
    have ho1 : (s.heap.update a (Obj.putSet es1 t2)).get? a = some (setOb T es1 (ep + 1) t2) := Heap.get?_update_self _ ho rfl
    have hsb1 := Heap.SameBut.update s.heap a (Obj.putSet es1 t2)
    split
    · refine wpAny_bind (hgw _ ?_)
      have hb2 : (relayAll t2 es1 (SetTable.grown es1.size)).1.size < scanBound := by
        rw [← Array.length_toList, (relayAll_perm t2 es1 _).length_eq, Array.length_toList]; exact hb1
      refine wpAny_bind (wpAny_storeSet_of ho1 rfl ?_ (fits_of_scanBound hb2))
      exact wpAny_pure (hR _ _ _ _ (hsb1.trans (Heap.SameBut.update _ a _)) (Heap.get?_update_self _ ho1 rfl) ((relayAll_perm t2 es1 _).trans hP1) (relayAll_fits t2 es1 _) ((relayAll_led t2 es1 _).trans l2) (relayAll_plain t2 es1 _ p2))
    · exact wpAny_pure (hR _ _ _ _ hsb1 ho1 hP1 f2 l2 p2)
  split
  · refine wpAny_bind ?_
    rw [hashByValue_scannable 8 hsc]
    refine wpAny_pure ?_
    refine fin _ ?_ ?_ ?_ ?_
    · exact SetTable.fits_plain_off hfits
    · exact hled
    · rfl
    · intro h' es' ep' t' c1 c2 c3 c4 c5 c6
      exact wpAny_pure (h h' es' ep' t' c1 c2 c3 c4 c5 c6)
  · rename_i hnp
    refine wpAny_bind (wpAny_pure ?_)
    simp only [↓reduceIte]
    refine fin t1 hfits hled (by simpa using hnp) ?_
    intro h' es' ep' t' c1 c2 c3 c4 c5 c6
    exact wpAny_pure (h h' es' ep' t' c1 c2 c3 c4 c5 c6)
end
end Rk
end
section
open PySem PySem.W PyProof.Rows PySem.Calls PySem.Spec
set_option maxRecDepth 100000
namespace Rk
theorem mro_fs : mroOf (.type "frozenset") = pure [.type "frozenset", .type "object"] := by rw [mroOf_type]; kernel_rfl
theorem lookup_fs_new : typeLookup (.type "frozenset") "__new__" = pure (some (.builtin "frozenset.__new__")) := by rw [typeLookup_type, builtinLookup_eq_fast]; kernel_rfl
theorem slot_fs_init : Slot "frozenset" "__init__" "object.__init__" :=
  .of (owner := "object") (n := "__init__") (by rw [typeLookup_type, builtinLookup_eq_fast]; kernel_rfl) (by decide +kernel) (by decide +kernel) (by decide +kernel)
    (by first | exact .inl (by decide +kernel) | exact .inr (by decide +kernel)) (by rw [isSubtype_type]; kernel_rfl)
theorem called_fs : TypeCalled "frozenset" "frozenset.__new__" "object.__init__" :=
  ⟨by decide +kernel, by decide +kernel, ⟨_, _, mro_fs⟩, madeBy_type mro_fs lookup_fs_new (by decide +kernel), by decide +kernel, by rw [isSubtype_type]; kernel_rfl, slot_fs_init⟩
theorem typeCall_fs (a : Value) : checkTypeCall "frozenset" ⟨[a], []⟩ = pure () := by kernel_rfl
theorem newCall_fs (a : Value) : checkBuiltinCall "frozenset.__new__" ⟨[.type "frozenset", a], []⟩ = pure () := by kernel_rfl
theorem entry_fs_new : entryFor table "frozenset.__new__" = some Builtin.«frozenset.__new__» := entryFor_of_tree (by kernel_rfl)
theorem sub_gen_set : isSubtype (.type "generator") (.type "set") = pure false := by rw [isSubtype_type]; kernel_rfl
theorem sub_gen_fs : isSubtype (.type "generator") (.type "frozenset") = pure false := by rw [isSubtype_type]; kernel_rfl
theorem sub_fs : isSubtype (.type "frozenset") (.type "frozenset") = pure true := by rw [isSubtype_type]; kernel_rfl
/-- what an own frozenset is -/
structure FsAt (P : Params) (h : Heap) (a : Addr) (L : List (Str × Tok)) (led : Bool) : Prop where
  at_ : ∃ es ep t, h.get? a = some (setOb "frozenset" es ep t) ∧ es.toList.Perm (strEs P L) ∧ t.fits es.size = true ∧ t.led = led ∧ (0 < L.length → t.plain = false)
section
variable {prog : Program} {w : World} {A : Around} {R : Result → Shared → Prop} {I : Addr} {fp wr : List Addr} {G : Array GenState → Array GenState → Prop} {n : Nat} {P : Nat → Value → Prop} {St : Nat → Shared → Prop}
theorem fsUpdate (W : WalksS prog w A.in1 I fp wr G n P St) (S : Addr) (hSf : S ∉ fp) (ks : List Str) (hks : ks.Nodup) (hn : n = ks.length) (hval : ∀ i v, P i v → ∃ t k, ks[i]? = some k ∧ v = .str k t) (hb : n + 1 < scanBound) {led : Bool} :
    ∀ (k i : Nat) (s : Shared) (L : List (Str × Tok)), n - i = k → i ≤ n → St i s → FsAt w.params s.heap S L led → L.map (·.1) = ks.take i →
      (∀ s' L', Moved (S :: wr) G s s' → FsAt w.params s'.heap S L' led → L'.map (·.1) = ks → R (.ok (.ret .none)) s') →
      codeAny (model prog w) A (.builtin "set.update.loop" ⟨[.ref S, .ref I], []⟩) R s := by
  have hSw : S ∉ wr := fun h => hSf (W.sub _ h)
  have hsub : ∀ b ∈ wr, b ∈ S :: wr := fun b hb => List.mem_cons_of_mem _ hb
  intro k
  induction k with
  | zero =>
    intro i s L hk hi hst hS hL hR
    have hin : i = n := by omega
    subst hin
    refine codeAny_builtin PyProof.Rows.F.entry_set_update_loop ?_
    rw [Around.under_plainId PyProof.Rows.F.plain_set_update_loop _]
    show wpAny _ A.in1 (pyNext (.ref I) >>= _) _ _ s
    refine wpAny_bind (W.done s _ _ hst fun s' hm => ?_)
    show wpAny _ A.in1 (ret Value.none) _ _ s'
    refine wpAny_pure (hR s' L (hm.mono hsub) ?_ (by rw [hL, hn, List.take_length]))
    obtain ⟨es, ep, t, ho, r⟩ := hS.at_
    exact ⟨es, ep, t, hm.heap S _ hSw ho, r⟩
  | succ k ih =>
    intro i s L hk hi hst hS hL hR
    have hlt : i < n := by omega
    refine codeAny_builtin PyProof.Rows.F.entry_set_update_loop ?_
    rw [Around.under_plainId PyProof.Rows.F.plain_set_update_loop _]
    show wpAny _ A.in1 (pyNext (.ref I) >>= _) _ _ s
    refine wpAny_bind (W.item i s _ _ hlt hst fun v s' hP hst' hm => ?_)
    obtain ⟨t, ky, hky, rfl⟩ := hval i v hP
    obtain ⟨es, ep, tb, ho, hp, hf, hl, hpl⟩ := hS.at_
    have ho' := hm.heap S _ hSw ho
    show wpAny _ A.in1 (holding [Value.str ky t] (setAdd S (.str ky t)) >>= _) _ _ s'
    refine wpAny_bind (wpAny_holding ?_)
    unfold setAdd
    refine wpAny_holding ?_
    refine wpAny_bind ((strKind prog w).pyHash (k := ky) (by show Value.isStrOf ky (.str ky t) = true; simp [Value.isStrOf]) ?_)
    have hlen : L.length = i := by
      have := congrArg List.length hL
      rw [List.length_map, List.length_take] at this
      omega
    have hes : es.size = L.length := by rw [← Array.length_toList, hp.length_eq, List.length_map]
    have hnew : ky ∉ L.map (·.1) := by
      rw [hL]
      intro q
      obtain ⟨j, hj⟩ := List.getElem?_of_mem q
      have hji : j < i := by
        have := (List.getElem?_eq_some_iff.mp hj).1
        rw [List.length_take] at this
        omega
      rw [List.getElem?_take_of_lt hji] at hj
      exact absurd ((List.getElem?_inj (List.getElem?_eq_some_iff.mp hj).1 hks).mp (hj.trans hky.symm)) (Nat.ne_of_lt hji)
    refine addF (s := { s' with toks := s'.toks + 1 }) ho' hf hp hnew (by omega) fun h' es' ep' t' hsb hg' hp' hf' hl' hpl' => ?_
    refine wpAny_pure ⟨plainId_quiet PyProof.Rows.F.plain_set_update_loop _, ih (i + 1) _ (L ++ [(ky, t)]) (by omega) hlt (W.frame _ s' _ _ hst' (Nat.le_succ _) fun b hb o e => ?_) ⟨es', ep', t', hg', hp', hf', hl'.trans hl, fun _ => hpl'⟩ ?_ fun s'' L' hm'' hS'' hL'' => ?_⟩
    · rw [hsb.2 b (fun h : b = S => hSf (by rw [← h]; exact hb))]; exact e
    · rw [List.map_append, hL, List.take_add_one, hky]; rfl
    · refine hR s'' L' (Moved.trans W.gtrans ((hm.mono hsub).then_heap (Nat.le_succ _) fun b o hb e => ?_) hm'') hS'' hL''
      rw [hsb.2 b (fun h : b = S => hb (by rw [h]; exact List.mem_cons_self))]; exact e
end
end Rk
end
section
open PySem PySem.W PyProof.Rows PySem.Calls PySem.Spec
set_option maxRecDepth 100000
namespace Rk
section
variable {prog : Program} {w : World} {A : Around} {E : Value → Shared → Prop} {s : Shared} {I : Addr} {fp wr : List Addr} {G : Array GenState → Array GenState → Prop} {n : Nat} {P : Nat → Value → Prop} {St : Nat → Shared → Prop}
/-- by what a set of the world is led -/
def byText (P : Params) : Bool := P.followText "set-order"
/-- frozenset(a generator) -/
theorem fs_call (W : WalksS prog w A.in1.in1.in1 I fp wr G n P St) (hT : ∀ i s, St i s → s.TypeIs (.ref I) "generator") (hst : St 0 s) (hfp : ∀ b ∈ fp, b < s.heap.objs.size) (ks : List Str) (hks : ks.Nodup) (hn : n = ks.length) (hval : ∀ i v, P i v → ∃ t k, ks[i]? = some k ∧ v = .str k t) (hb : n + 1 < scanBound) {Q : Value → Shared → Prop}
    (hQ : ∀ s' L, (∀ b o, b < s.heap.objs.size → b ∉ wr → s.heap.get? b = some o → s'.heap.get? b = some o) → G s.gens s'.gens → s'.drawn = s.drawn → s'.os = s.os → FsAt w.params s'.heap s.heap.objs.size L (!byText w.params) → L.map (·.1) = ks → Q (.ref s.heap.objs.size) s') :
    wpAny (model prog w) A (call (.type "frozenset") [.ref I] []) Q E s := by
  refine callType_newIn (S := fun A R s => wpAny (model prog w) A.in1 (Builtin.«frozenset.__new__» ⟨[.type "frozenset", .ref I], []⟩) (fun fin s' => match fin with | .done f => R (.ok f) s' | .again c' => c'.quiet = true ∧ codeAny (model prog w) A c' R s') (fun e s' => R (.error e) s') s)
    called_fs (by decide) (typeCall_fs _) (newCall_fs _) (fun obj => PySem.F.initArgs_range_1 obj _) entry_fs_new (fun A R s h => h) ?_
  have hsub := sub_fs
  have hini := slot_fs_init.lookup
  unfold Builtin.«frozenset.__new__» Builtin.Frozenset.newClass
  dsimp only
  have hg := hT 0 s hst
  wp_walk
  refine wpAny_askSetting (wpAny_pure ?_)
  dsimp only
  simp only [newObj]
  refine wpAny_bind (wpAny_alloc (wpAny_pure ?_))
  refine wpAny_bind (wpAny_pure (wpAny_bind (wpAny_holding ?_)))
  unfold Builtin.Frozenset.updateFrom Builtin.Frozenset.isAnySet
  have hS : (s.heap.push (setOb "frozenset" #[] 0 (.fresh 0 0 (!byText w.params)))).get? s.heap.objs.size = some (setOb "frozenset" #[] 0 (.fresh 0 0 (!byText w.params))) := Heap.get?_push_size _ rfl
  have st₁ := W.frame 0 s (s.heap.push (setOb "frozenset" #[] 0 (.fresh 0 0 (!byText w.params)))) s.toks hst (Nat.le_refl _) fun b _ o e => Heap.get?_push_of_some _ e
  have hg₁ := hT 0 _ st₁
  have h1 := sub_gen_set
  have h2 := sub_gen_fs
  refine wpAny_bind ?_
  show wpAny _ _ (isInstance (Value.ref I) (Value.type "set") >>= _) _ _ _
  refine wpAny_bind (wpAny_isInstance (b := false) hg₁ h1 ?_)
  show wpAny _ _ (isInstance (Value.ref I) (Value.type "frozenset")) _ _ _
  refine wpAny_isInstance (b := false) hg₁ h2 ?_
  simp only [Bool.false_eq_true, if_false]
  refine wpAny_bind (wpAny_typeOf hg₁ ?_)
  have h3 : (Value.type "generator" == Value.type "dict") = false := by decide
  simp only [h3, Bool.false_eq_true, if_false]
  refine wpAny_bind (W.of_in1.self 0 _ _ _ st₁ ?_)
  refine wpAny_bind (wpAny_runValue ?_)
  have hSf : s.heap.objs.size ∉ fp := fun hm => Nat.lt_irrefl _ (hfp _ hm)
  have FS : FsAt w.params (s.heap.push (setOb "frozenset" #[] 0 (.fresh 0 0 (!byText w.params)))) s.heap.objs.size [] (!byText w.params) :=
    ⟨#[], 0, _, hS, .nil, by cases byText w.params <;> rfl, rfl, fun h => absurd h (Nat.lt_irrefl _)⟩
  refine fsUpdate (A := A.in1.in1) (led := !byText w.params) W s.heap.objs.size hSf ks hks hn hval hb n 0 _ [] (Nat.sub_zero _) (Nat.zero_le _) st₁ FS rfl fun s' L' hm hF hL => ?_
  refine wpAny_pure (wpAny_pure (wpAny_pure ?_))
  obtain ⟨es, ep, tb, ho, _⟩ := id hF.at_
  exact ⟨⟨_, ho, rfl⟩, hQ s' L' (fun b o hb hw e => hm.heap b o (fun q => by
    rcases List.mem_cons.mp q with q | q
    · exact Nat.lt_irrefl _ (q ▸ hb)
    · exact hw q) (Heap.get?_push_of_some _ e)) hm.gens hm.drawn hm.os hF hL⟩
end
end Rk
end
section
open PySem PySem.W PyProof.Rows PySem.Calls PySem.Spec
set_option maxRecDepth 100000
set_option linter.unusedVariables false
namespace Rk
section
variable {G : Pg} {F : Fn} {X : Cx G F} {W : Wd} {σ : St} {s : Shared} {m : Str → Option Value} {news : Led}
/-- new objects that stay, and what was stays -/
theorem InvX.plusFro (I : InvX X W σ s m news) {N : Nat} (hN : ∀ p ∈ news, p.1 < N) (hL : X.L < N) {h' : Heap} {tk : Nat} {g : Array GenState} (hg : AllBare g) {led : Led} (hnd : (led.map (·.1)).Nodup) (hl : ∀ p ∈ led, N ≤ p.1 ∧ h'.get? p.1 = some p.2)
    (hk : ∀ b o, b < N → s.heap.get? b = some o → h'.get? b = some o) :
    InvX X ⟨W.mu, led ++ W.fro, W.ex, W.P⟩ σ { s with heap := h', toks := tk, gens := g } m (led ++ news) ∧ W.Le ⟨W.mu, led ++ W.fro, W.ex, W.P⟩ := by
  have hnew : ∀ p ∈ led, ∀ q ∈ news, q.1 ≠ p.1 := fun p hp q hq => Nat.ne_of_lt (Nat.lt_of_lt_of_le (hN q hq) (hl p hp).1)
  obtain ⟨R, le⟩ := I.hr.addFros hnew
  refine ⟨⟨⟨I.fr.ns.at' fun o e => hk _ o hL e, fun b ob e => hk b ob (Nat.lt_of_lt_of_le (Heap.lt_size e) (Nat.le_trans I.fr.above (Nat.le_of_lt hL))) (I.fr.keep b ob e), I.fr.above⟩, fun p hp => ?_, ?_, R, fun x p e => ?_, I.os, hg, I.P⟩, le⟩
  · rcases List.mem_append.mp hp with hp | hp
    · obtain ⟨hge, h2⟩ := hl p hp
      exact ⟨h2, Nat.ne_of_gt (Nat.lt_of_lt_of_le hL hge), Heap.get?_none_of_le (Nat.le_trans I.fr.above (Nat.le_trans (Nat.le_of_lt hL) hge))⟩
    · exact ⟨hk _ _ (hN p hp) (I.nw p hp).1, (I.nw p hp).2⟩
  · rw [List.map_append, List.nodup_append]
    refine ⟨hnd, I.nd, fun a ha b hb e => ?_⟩
    obtain ⟨p, hp, e1⟩ := List.mem_map.mp ha
    obtain ⟨q, hq, e2⟩ := List.mem_map.mp hb
    exact hnew p hp q hq (by rw [e1, e2]; exact e.symm)
  · obtain ⟨v, hv', r⟩ := I.loc x p e
    exact ⟨v, hv', r.up le⟩
end
def keysOf : List V → Option (List Str)
  | [] => some []
  | .tuple (.str k :: _) :: r => (keysOf r).map (k :: ·)
  | _ :: _ => none
def strsNodup : List Str → Bool
  | [] => true
  | x :: r => !r.contains x && strsNodup r
theorem strsNodup_iff : ∀ {l : List Str}, strsNodup l = true → l.Nodup
  | [], _ => .nil
  | x :: r, h => by
    unfold strsNodup at h
    rw [Bool.and_eq_true, Bool.not_eq_true'] at h
    exact List.nodup_cons.mpr ⟨fun q => by rw [List.contains_iff_mem.mpr q] at h; exact Bool.noConfusion h.1, strsNodup_iff h.2⟩
theorem keys_at {fro : Led} : ∀ {xs : List V} {vs : List Value} {ks : List Str}, VReps fro xs vs → keysOf xs = some ks → ks.length = vs.length ∧ ∀ (i : Nat) (v : Value), vs[i]? = some v → ∃ (T : Addr) (ws : List Value) (k : Str) (t : Tok), v = Value.ref T ∧ (T, tupO ws) ∈ fro ∧ ws[0]? = some (Value.str k t) ∧ ks[i]? = some k
  | _, _, _, .nil, e => by cases e; exact ⟨rfl, fun i v h => by simp at h⟩
  | _, _, ks, .cons (p := x) h t, e => by
    cases h with
    | @tup ps us a hm hr hz =>
      cases hr with
      | nil => cases e
      | cons h0 t0 =>
        cases h0 with
        | str tk hs hz0 =>
          rename_i kk
          simp only [keysOf, Option.map_eq_some_iff] at e
          obtain ⟨kr, e, rfl⟩ := e
          obtain ⟨l1, l2⟩ := keys_at t e
          refine ⟨by rw [List.length_cons, List.length_cons, l1], fun i v hv => ?_⟩
          cases i with
          | zero => cases hv; exact ⟨a, _, kk, tk, rfl, hm, rfl, rfl⟩
          | succ i => exact l2 i v (by simpa using hv)
        | _ => cases e
    | _ => cases e
def listAt (H : List AObj) : PV → Option (List V)
  | .ref i => (match H[i]? with
    | some (.vlist xs) => some xs
    | _ => none)
  | .v (.list xs) => some xs
  | _ => none
def fsFin (p : PV) (σ : St) : Out PV := match listAt σ.H p with
  | none => .no
  | some xs => (match keysOf xs with
    | none => .no
    | some ks => (match strsNodup ks && Nat.blt (ks.length + 1) 4096 with
      | true => .ok (.fset ks) σ
      | false => .no))
def fsOk (T : Tb) (cells : List (Addr × Addr)) (F : Fn) (fn y x : Str) (scope : Scope) (iter : Expr) : Bool :=
  y == x && !(x == ("__debug__" : Str)) && genScope scope && scope.names.lookup x == some .local && isBi T F fn (.type "frozenset") && (cellAt cells F.cd).isSome && notComp iter && (match iter with | .List .. => false | .Set .. => false | _ => true)
/-- frozenset(x[0] for x in iter) -/
def fsE (T : Tb) (cells : List (Addr × Addr)) (E : Ev) (F : Fn) (e : Expr) (σ : St) : Out PV := match e with
  | .Call (.Name fn fp) [.GeneratorExp (.Subscript (.Name y yp) (.Constant (.int 0) ck cp) sp) [⟨.Name x xp, .Attribute io ia ip, [], 0⟩] scope gpos] [] pos =>
    (match fsOk T cells F fn y x scope (.Attribute io ia ip) with
    | true => (E.ev F (.Attribute io ia ip) σ).bind fun p σ => fsFin p σ
    | false => .no)
  | _ => .no
theorem passing_all (n : Nat) : passing (fun _ => true) n 0 = List.range n := by
  unfold passing
  rw [List.drop_zero]
  exact List.filter_eq_self.mpr fun _ _ => rfl
/-- x[0] in the generator's own frame -/
theorem elt_zero {prog : Program} {w : World} {A : Around} {E : Value → Shared → Prop} {s : Shared} {cenv : Env} {x : Str} {yp cp sp : Pos} {ck : Nat} {m : Str → Option Value} {T : Addr} {ws : List Value} {v : Value} {Q : Value → Shared → Prop}
    (hkd : cenv.scope.kind = .function) (hla : cenv.scope.names.lookup x = some .local) (hda : (x == ("__debug__" : Str)) = false) (hn : s.heap.Ns cenv.locals m) (ha : m x = some (.ref T)) (hT : s.heap.get? T = some (tupO ws)) (hv : ws[0]? = some v)
    (h : ∀ tk, Q v { s with toks := tk }) : wpAny (model prog w) A (eval (.Subscript (.Name x yp) (.Constant (.int 0) ck cp) sp) cenv) Q E s := by
  show wpAny _ _ (do
    let o ← eval (.Name x yp) cenv
    let i ← holding [o] (eval (.Constant (.int 0) ck cp) cenv)
    PySem.standAt sp
    subscriptTail (.Name x yp) (.Constant (.int 0) ck cp) o i) _ _ _
  refine wpAny_bind (ldG hn ha ?_ hkd hla hda)
  refine wpAny_bind (wpAny_holding (wpAny_Constant_int ?_))
  refine wpAny_bind (wpAny_standAt ?_)
  have hl : IsTup s.heap T ws.toArray := ⟨_, hT, rfl, _, rfl⟩
  have hsub := subscripted_plain (e := .Constant (.int 0) ck cp) rfl (.ref T) (.int 0 s.toks)
  refine tail_any (s := { s with toks := s.toks + 1 }) hl.typeIs PySem.F.slot_tuple_getitem.lookup (getItem_tuple (s := { s with toks := s.toks + 1 }) hl (by omega) (by omega) (j := 0) ?_ (by simpa using hv) (h _)) hsub
  unfold seqIndex?
  have hlt := (List.getElem?_eq_some_iff.mp hv).1
  simp only [List.size_toArray, Int.lt_irrefl, if_false]
  rw [if_pos (by simp; omega)]
  rfl
end Rk
end
section
open PySem PySem.W PyProof.Rows PySem.Calls PySem.Spec
set_option maxRecDepth 100000
set_option linter.unusedVariables false
namespace Rk
section
variable {G : Pg} {F : Fn} {X : Cx G F} {W : Wd} {σ : St} {T : Tb} {E : Ev} {B : Xb}
theorem listAt_at {s : Shared} {m : Str → Option Value} {news : Led} (I : InvX X W σ s m news) {p : PV} {v : Value} {xs : List V} (r : Rep W p v) (e : listAt σ.H p = some xs) :
    ∃ l vs n, v = .ref l ∧ (l, listOf vs.toArray n) ∈ news ∧ VReps W.fro xs vs ∧ vs.length ≤ sizeLine := by
  unfold listAt at e
  split at e
  · cases r with | ref ha =>
    split at e
    · rename_i ys hi
      cases e
      obtain ⟨o, ho, vs, n, rfl, hv, hz⟩ := I.at_ hi rfl ha
      exact ⟨_, vs, n, rfl, ho, hv, hz⟩
    · cases e
  · cases e
    cases r with | v r => cases r with | lst hm hr hz => exact ⟨_, _, _, rfl, I.hr.fro _ hm, hr, hz⟩
  · cases e
theorem fsE_sat (S : Got X E) (tb : TbOk G T) {cells : List (Addr × Addr)} (C : CellOk G cells) (ok : X.Ok) (e : Expr) : Sat X W (eval e X.env) σ (fsE T cells E F e σ) := by
  intro hn
  unfold fsE at hn ⊢
  split at hn
  rotate_left 1
  · exact (hn rfl).elim
  rename_i fn fp y yp ck cp sp x xp io ia ip scope gpos pos
  split at hn
  rotate_left 1
  · exact (hn rfl).elim
  rename_i hc
  unfold fsOk genScope isBi at hc
  simp only [Bool.and_eq_true, beq_iff_eq, Bool.not_eq_true'] at hc
  obtain ⟨⟨⟨⟨⟨⟨⟨c1, c2⟩, ⟨⟨⟨k1, k2⟩, k3⟩, k4⟩⟩, c8⟩, ⟨⟨⟨z1, z2⟩, z3⟩, z4⟩⟩, c13⟩, _⟩, _⟩ := hc
  subst c1
  intro s I
  generalize hoo : ((E.ev F (.Attribute io ia ip) σ).bind fun p σ => fsFin p σ) = oo at hn ⊢
  obtain ⟨m, news, J⟩ := id I
  obtain ⟨cc, hcc⟩ := Option.isSome_iff_exists.mp c13
  obtain ⟨cd, hcd⟩ : ∃ c, F.cd = .ref c := by
    unfold cellAt at hcc
    split at hcc
    · exact ⟨_, by assumption⟩
    · cases hcc
  rw [hcd] at hcc
  obtain ⟨hPh, hcP, oc, fvs, file, tf, flags, tg, inF, text, tt, hK, hccls, hcdata, g11, g18, g7, g9, g10⟩ := C.at_ X.w.params cd cc hcc
  have hfree : ∀ x ∈ scope.names, x.2 ≠ .free := fun x hx e => by
    have := List.all_eq_true.mp k4 x hx
    rw [e] at this
    revert this; decide
  have hcell : ∀ x ∈ scope.names, x.2 ≠ .cell := fun x hx e => by
    have := List.all_eq_true.mp k4 x hx
    rw [e] at this
    revert this; decide
  have hh : X.A.handled = none := ok.handled
  have hroom0 : X.A.depth < recursionLimit := by
    have := ok.depth
    show X.Ac.depth + 1 < recursionLimit
    omega
  obtain ⟨b1, b2, b3⟩ := tb.bis X.w.params _ _ z4
  rw [call_arm (func := .Name fn fp) rfl]
  refine wpAny_bind (nameX_B (cl := []) J.fr ok.kin (topRead_of ok.top) b1 b2 b3 ?_ ok.kind z2 z1)
  refine callWith_of (P := fun _ => True) (keywords := []) rfl (fun h _ => ⟨.machine, .inr (.inl rfl), Looks.of_pure rfl⟩) ?_
  refine evalArgs_plain (x := eval (.GeneratorExp (.Subscript (.Name y yp) (.Constant (.int 0) ck cp) sp) [⟨.Name y xp, .Attribute io ia ip, [], 0⟩] scope gpos) X.env) (rest := []) ?_
  show wpAny X.M X.A (do
    let v ← eval (.GeneratorExp (.Subscript (.Name y yp) (.Constant (.int 0) ck cp) sp) [⟨.Name y xp, .Attribute io ia ip, [], 0⟩] scope gpos) X.env
    let here ← (Pure.pure [v] : Sem (List Value))
    return here ++ (← holding here (spliced (backTo pos [])))) _ _ s
  refine wpAny_bind (wpAny_GeneratorExp_make k3 (closureFor_none hfree) hcell k2 k1 hroom0 ?_ (fun _ => rfl))
  have hn0 : E.ev F (.Attribute io ia ip) σ ≠ .no := fun h => hn (by rw [← hoo, h]; rfl)
  refine wpAny_mono (S.ev W σ (.Attribute io ia ip) hn0 s I) (fun xv s₂ q => ?_) fun v s' ⟨c, e, q⟩ => ⟨c, by rw [← hoo, e]; rfl, q⟩
  obtain ⟨W₂, p, σ₂, le₂, e₂, rp, m₂, news₂, J₂⟩ := q
  have ho₂ : fsFin p σ₂ = oo := by rw [← hoo, e₂]; rfl
  unfold fsFin at ho₂
  split at ho₂
  · exact (hn ho₂.symm).elim
  rename_i xs hxs
  split at ho₂
  · exact (hn ho₂.symm).elim
  rename_i ks hks
  split at ho₂
  rotate_left 1
  · exact (hn ho₂.symm).elim
  rename_i hcond
  rw [Bool.and_eq_true] at hcond
  have hnd := strsNodup_iff hcond.1
  have hlt : ks.length + 1 < scanBound := (Nat.blt_eq).mp hcond.2
  obtain ⟨l, vs, n, rfl, hob, hv, hz⟩ := listAt_at J₂ rp hxs
  obtain ⟨hkl, hkat⟩ := keys_at hv hks
  have hN : ∀ p ∈ news₂, p.1 < s₂.heap.objs.size := fun p hp => Heap.lt_size (J₂.nw p hp).1
  have hLN : X.L < s₂.heap.objs.size := J₂.fr.ns.lt
  have hl := isList_of J₂ hob
  have hlN : l < s₂.heap.objs.size := hN _ hob
  refine wpAny_pyIter_list hl ?_
  have J₃ := J₂.keptX (h' := s₂.heap.push { cls := .type "list_iterator", data := .fields #[.ref l, .int 0 0] }) (tk := s₂.toks) (g := s₂.gens) (fun b o e => Heap.get?_push_of_some _ e) J₂.gens
  have hI : (s₂.heap.push { cls := .type "list_iterator", data := .fields #[.ref l, .int 0 0] }).IsListIter s₂.heap.objs.size l 0 := ⟨_, Heap.get?_push_size _ rfl, rfl, rfl⟩
  refine ⟨ok.top.nolimit.keeps J₃.fr.keep, ?_⟩
  obtain ⟨⟨op, hop, ps, rfl, hpt⟩, nmu, nfro, nex⟩ := J₃.hr.hol cc hPh
  have hccN : cc < s₂.heap.objs.size := hN _ hop
  have hok : (s₂.heap.push { cls := .type "list_iterator", data := .fields #[.ref l, .int 0 0] }).IsCode cd cc ps := ⟨oc, fvs, file, tf, flags, tg, inF, text, tt, _, (J₃.k ok) _ _ hK, hcdata, g11, g18, g7, g9, g10, J₃.get hop, rfl, hpt, hcP⟩
  have htab : Heap.TableAt (s₂.heap.push { cls := .type "list_iterator", data := .fields #[.ref l, .int 0 0] }) cd cc ps := ⟨⟨oc, fvs, (J₃.k ok) _ _ hK, hccls, hcdata, getD_ref g11⟩, J₃.get hop⟩
  refine genexprCodeT (c := cd) (P := cc) (show X.env.code = .ref cd from hcd) hok htab fun code h₄ tk₄ ps' hx₄ hok₄ htab₄ => ?_
  have ht₄ : TriplesOk ps'.toList := by
    obtain ⟨_, _, _, _, _, _, _, _, _, op', _, _, _, _, _, _, _, q1, q2, q3, _⟩ := hok₄
    exact q3
  have hg₄ := htab₄.2
  have J₄ := J₃.hole hPh ⟨ps', rfl, ht₄⟩ (tk := tk₄) hx₄ hg₄
  have hIcc : s₂.heap.objs.size ≠ cc := Nat.ne_of_gt hccN
  have hlcc : l ≠ cc := fun e => by
    unfold listAt at hxs
    rw [e] at hob
    have := key_inj J₂.nd hob hop
    have := congrArg Obj.cls this
    cases this
  have hI₄ : h₄.IsListIter s₂.heap.objs.size l 0 := hI.at fun o e => hx₄ _ o hIcc e
  have hl₄ : h₄.IsList l vs.toArray := Heap.IsList.at (Heap.IsList.push hl _) (fun o e => hx₄ _ o hlcc e)
  obtain ⟨bm, ob, Mb⟩ := bmod_of_top ok.top
  have M₄ := Mb.keeps J₄.fr.keep
  refine wpAny_builtinsFor M₄.ns M₄.name M₄.ne M₄.obj M₄.cls M₄.dict M₄.data ?_
  intro h₅ hns hsb
  have hsz₅ : h₅.objs.size = h₄.objs.size + 1 := by
    have := hsb.1
    rw [Heap.size_push] at this
    exact this
  have hN₄ : s₂.heap.objs.size < h₄.objs.size := by obtain ⟨_, e, _⟩ := hI₄; exact Heap.lt_size e
  have k₅ : ∀ b o, h₄.get? b = some o → h₅.get? b = some o := fun b o e => hsb.extBut b o (Nat.ne_of_lt (Heap.lt_size e)) (Heap.get?_push_of_some _ e)
  have hge₅ : ∀ gg, ∀ b o, h₄.get? b = some o → (h₅.push gg).get? b = some o := fun gg b o e => Heap.get?_push_of_some _ (k₅ b o e)
  have J₅ := fun gg => J₄.keptX (h' := h₅.push gg) (tk := 0) (g := s₂.gens) (hge₅ gg) J₂.gens
  refine wpAny_pure ⟨trivial, ?_⟩
  have hcs : ∃ o, X.h₀.get? cStatics = some o := by
    obtain ⟨mc, ⟨o, es, ep, ho, _⟩, _⟩ := ok.top.nolimit
    exact ⟨o, ho⟩
  obtain ⟨ocs, hcs⟩ := hcs
  have hcsN : cStatics < s₂.heap.objs.size := Nat.lt_of_lt_of_le (Heap.lt_size hcs) (Nat.le_trans J₂.fr.above (Nat.le_of_lt hLN))
  have hC : s₂.heap.objs.size ≤ h₄.objs.size := Nat.le_of_lt hN₄
  have ha₅ : s₂.heap.objs.size ≤ h₅.objs.size := by rw [hsz₅]; exact Nat.le_succ_of_le hC
  have nge : ∀ {a b : Addr}, a < s₂.heap.objs.size → s₂.heap.objs.size ≤ b → a ≠ b := fun h1 h2 e => Nat.lt_irrefl _ (Nat.lt_of_lt_of_le (e ▸ h1) h2)
  have hpl : (passing (fun _ => true) vs.toArray.size 0).length = ks.length := by rw [passing_all, List.length_range, List.size_toArray, hkl]
  have W₀ : ∀ A' : Around, A'.handled = none → Walks G.p X.w A' s₂.heap.objs.size (List.range h₄.objs.size) [s₂.heap.objs.size] vs.toArray.size (fun i v => vs.toArray[i]? = some v) (fun i h => h.IsListIter s₂.heap.objs.size l i ∧ h.IsList l vs.toArray) :=
    fun A' hA => (Walks.list hA s₂.heap.objs.size l (nge hlN (Nat.le_refl _)) vs.toArray).mono_fp fun b hb => by
      simp only [List.mem_cons, List.not_mem_nil, or_false] at hb
      rcases hb with rfl | rfl
      · exact List.mem_range.mpr hN₄
      · exact List.mem_range.mpr (Nat.lt_of_lt_of_le hlN hC)
  have hq : ∀ gg, QuietGen G.p X.w (genEnv scope [] h₄.objs.size code builtinsNs X.env) y [] (.Subscript (.Name y yp) (.Constant (.int 0) ck cp) sp) (List.range h₄.objs.size) [s₂.heap.objs.size] (fun i v => vs.toArray[i]? = some v) (fun _ => true)
      (fun i v => ∃ t k, ks[i]? = some k ∧ v = .str k t) (h₅.push gg) := fun gg => ⟨fun A' E' i v s' m' hA hP hn' hv' hk' => wpAny_pure ⟨rfl, s'.heap, s'.toks, rfl, fun _ _ e => e⟩, fun A' E' i v s' m' hA hP _ hn' hv' hk' => by
      obtain ⟨T, ws, k, tk, rfl, hm, hw, hk⟩ := hkat i v (by simpa using hP)
      have hTn := J₂.hr.fro _ hm
      have hTN := hN _ hTn
      have hTcc : T ≠ cc := (J₂.hr.hol cc hPh).2.2.1 _ hm
      have g₄ : h₄.get? T = some (tupO ws) := hx₄ _ _ hTcc (Heap.get?_push_of_some _ (J₂.get hTn))
      have g₅ := hk' T (List.mem_range.mpr (Nat.lt_of_lt_of_le hTN hC)) (by simp only [List.mem_cons, List.not_mem_nil, or_false]; exact nge hTN (Nat.le_refl _)) _ (hge₅ gg _ _ g₄)
      exact elt_zero k1 c8 c2 hn' hv' g₅ hw fun tk' => ⟨⟨tk, k, hk, rfl⟩, s'.heap, tk', rfl, fun _ _ e => e⟩⟩
  refine fs_call (A := X.A) (I := h₅.objs.size) (fp := h₅.objs.size :: h₄.objs.size :: List.range h₄.objs.size) (wr := h₄.objs.size :: [s₂.heap.objs.size]) (G := GenOnlyQ s₂.gens.size) (n := (passing (fun _ => true) vs.toArray.size 0).length)
    (WalksS.genexpQ (A := X.A.in1.in1.in1) hh h₅.objs.size s₂.gens.size h₄.objs.size (List.range h₄.objs.size) [s₂.heap.objs.size] (fun _ => true) vs.toArray.size (fun i v => ∃ t k, ks[i]? = some k ∧ v = .str k t)
      (by rw [hsz₅]; exact Nat.succ_ne_self _) (fun hb => by have := List.mem_range.mp hb; rw [hsz₅] at this; exact Nat.not_succ_lt_self this) (fun b hb => by
        simp only [List.mem_cons, List.not_mem_nil, or_false] at hb
        subst hb
        exact List.mem_range.mpr hN₄) hroom0 (List.mem_range.mpr (Nat.lt_of_lt_of_le hcsN hC)) (nge hcsN hC) (by simp only [List.mem_cons, List.not_mem_nil, or_false]; exact nge hcsN (Nat.le_refl _)))
    (fun i s' st => st.1.typeIs) ?hst
    (fun b hb => ?_) ks hnd hpl (fun i v hP => ?_) (by rw [hpl]; exact hlt) fun s' L' hk' hg' hd' hos' hF hL' => ?_
  case hst =>
    exact GenAt.fresh (A := X.A.in1.in1.in1) (m := fun y => if y = ".0" then some (.ref s₂.heap.objs.size) else none) (cenv := genEnv scope [] h₄.objs.size code builtinsNs X.env) hh W₀ (fun _ => true) _ c8 (by show (scope.kind == .class || (scope.kind == .module && _)) = false; rw [k1]; rfl) k3 (fun hb => Nat.lt_irrefl _ (List.mem_range.mp hb)) (hq _)
      ⟨_, _, _, Heap.get?_push_size _ rfl, rfl, rfl, rfl⟩ (Array.getElem?_push_size ..) ⟨hI₄.at fun o e => hge₅ _ _ o e, Heap.IsList.at hl₄ fun o e => hge₅ _ _ o e⟩ (hns.push _) (ok.top.nolimit.keeps (J₅ _).fr.keep)
  · show b < (h₅.push _).objs.size
    rw [Heap.size_push, hsz₅]
    rcases List.mem_cons.mp hb with rfl | hb
    · rw [hsz₅]; exact Nat.lt_succ_self _
    · rcases List.mem_cons.mp hb with rfl | hb
      · exact Nat.lt_succ_of_lt (Nat.lt_succ_self _)
      · exact Nat.lt_succ_of_lt (Nat.lt_succ_of_lt (List.mem_range.mp hb))
  · obtain ⟨j, hj, t, k, hk, hv'⟩ := hP
    rw [passing_all] at hj
    have : i = j := by
      have hh' := List.getElem?_eq_some_iff.mp hj
      simpa using hh'.2
    subst this
    exact ⟨t, k, hk, hv'⟩
  · obtain ⟨es, ep, tb', hD, hp, hf, hled, hplain⟩ := hF.at_
    have hN' : ∀ {o' : Obj}, ∀ p ∈ swapIn cc o' news₂, p.1 < s₂.heap.objs.size := fun p hp => by
      have : p.1 ∈ news₂.map (·.1) := by rw [← swapIn_keys cc]; exact List.mem_map.mpr ⟨p, hp, rfl⟩
      obtain ⟨q, hq, e⟩ := List.mem_map.mp this
      rw [← e]; exact hN q hq
    have hDN : s₂.heap.objs.size ≤ h₅.objs.size + 1 := Nat.le_succ_of_le ha₅
    have key := (J₅ _).plusFro (tk := s'.toks) (g := s'.gens) (h' := s'.heap) (led := [(_, setOb "frozenset" es ep tb')]) hN' hLN ((J₂.gens.push rfl).moved hg') (List.nodup_cons.mpr ⟨by simp, .nil⟩) (fun p hp => by
      rw [List.mem_singleton] at hp
      subst hp
      exact ⟨by show s₂.heap.objs.size ≤ (h₅.push _).objs.size; rw [Heap.size_push]; exact hDN, hD⟩) (fun b o hb e => hk' b o (by show b < (h₅.push _).objs.size; rw [Heap.size_push]; exact Nat.lt_of_lt_of_le hb hDN) (fun q => by
        rcases List.mem_cons.mp q with q | q
        · exact nge hb hC q
        · exact nge hb (Nat.le_refl _) (List.mem_singleton.mp q)) e)
    obtain ⟨J₆, le₃⟩ := key
    have hmem : FMem W₂.P ks es tb' := ⟨L', by rw [J₂.P]; exact hp, hL', hnd, hf, by rw [J₂.P]; exact hled, hplain⟩
    have es' : s' = { s₂ with heap := s'.heap, gens := s'.gens, toks := s'.toks } := by
      obtain ⟨a1, a2, a3, a4, a5⟩ := s'
      simp only at hd' hos'
      rw [hd', hos']
    rw [es']
    exact ⟨_, .fset ks, σ₂, le₂.trans le₃, ho₂.symm, .fset (.head _) hmem, m₂, _, J₆⟩
end
end Rk
end
section
open PySem PySem.W PyProof.Rows PySem.Calls PySem.Spec
set_option maxRecDepth 100000
set_option linter.unusedVariables false
namespace Rk
def ltV : V → V → Option Bool
  | .str a, .str b => some (decide (a.cps.toList < b.cps.toList))
  | .tuple [.str a, .str c], .tuple [.str b, .str d] => some (match a == b with
    | true => (match c == d with
      | true => false
      | false => decide (c.cps.toList < d.cps.toList))
    | false => decide (a.cps.toList < b.cps.toList))
  | _, _ => none
def sort2 : List V → Option (List V)
  | [] => some []
  | [x] => some [x]
  | [x, y] => (match ltV y x with
    | some true => some [y, x]
    | some false => some [x, y]
    | none => none)
  | _ => none
section
variable {prog : Program} {w : World} {A : Around} {E : Value → Shared → Prop} {s : Shared} {h₀ : Heap} {L D : Addr} {m : Str → Option Value} {news : Led}
/-- the sort of at most one item -/
theorem lsort_small {vs : List Value} {Q : Shared → Prop} (F : Fr h₀ L s.heap m) (N : News h₀ L s.heap ((D, listOf vs.toArray 0) :: news)) (hn : ∀ p ∈ news, p.1 ≠ D) (h2 : vs.length < 2)
    (h : ∀ h' c, Fr h₀ L h' m → News h₀ L h' ((D, listOf vs.toArray c) :: news) → Q { s with heap := h' }) :
    wpAny (model prog w) A (call (.builtin "list.sort") [.ref D] []) (fun _ s' => Q s') E s := by
  obtain ⟨ho, haL, ha0⟩ := N _ (.head _)
  have N₀ : News h₀ L s.heap news := fun p hp => N p (.tail _ hp)
  refine wpAny_call_entry slot_list_sort ⟨_, ho, rfl⟩ entry_list_sort ?_ (args_list_sort _)
  have ha : D < s.heap.objs.size := Heap.lt_size ho
  have s1 := Heap.SameBut.update s.heap D (Obj.mapSeq fun _ => (#[] : Array Value))
  obtain ⟨e1, ho1⟩ : ∃ e1, (s.heap.update D (Obj.mapSeq fun _ => (#[] : Array Value))).get? D = some (seqObj "list" #[] e1) := ⟨_, get?_update_seq ho fun _ => #[]⟩
  have F3 : Fr h₀ L (((s.heap.update D (Obj.mapSeq fun _ => (#[] : Array Value))).push (seqObj "tuple" vs.toArray 0)).push (seqObj "list" #[] 0)) m := ((kas_fr F s1 haL ha0).push _).push _
  have N2 : News h₀ L (((s.heap.update D (Obj.mapSeq fun _ => (#[] : Array Value))).push (seqObj "tuple" vs.toArray 0)).push (seqObj "list" #[] 0)) news :=
    (kas_news N₀ s1 hn).grown fun b x e => Heap.get?_push_of_some _ (Heap.get?_push_of_some _ e)
  have ho3 : (((s.heap.update D (Obj.mapSeq fun _ => (#[] : Array Value))).push (seqObj "tuple" vs.toArray 0)).push (seqObj "list" #[] 0)).get? D = some (seqObj "list" #[] e1) := Heap.get?_push_of_some _ (Heap.get?_push_of_some _ ho1)
  have hz : vs.length ≤ sizeLine := by rw [sizeLine_eq]; omega
  rw [list_sort_plain]
  refine wpAny_bind (listItems_at ho rfl ?_)
  refine wpAny_bind (listUpdate_at ho rfl ?_ (by rw [List.size_toArray]; exact hz) (Nat.zero_le _))
  refine wpAny_bind (seqEpoch_at ho1 rfl ?_)
  refine wpAny_bind (wpAny_newTuple ?_ (by show vs.length ≤ _; exact hz))
  refine wpAny_bind (wpAny_newList ?_ (Nat.zero_le _))
  refine wpAny_holding ?_
  show wpAny (model prog w) A.in1 _ _ E { s with heap := ((s.heap.update D (Obj.mapSeq fun _ => (#[] : Array Value))).push (seqObj "tuple" vs.toArray 0)).push (seqObj "list" #[] 0) }
  dsimp only
  have hn2 : vs.toArray.size < 2 := by rw [List.size_toArray]; exact h2
  rw [if_pos hn2, if_pos hn2]
  refine wpAny_bind (wpAny_pure ?_)
  rw [StateT.run_pure]
  refine wpAny_bind (wpAny_pure ?_)
  dsimp only
  refine wpAny_bind (seqEpoch_at ho3 rfl ?_)
  have hout : (arrOf (SortSt.mk' general' (vs.toArray.zip vs.toArray) #[] 7 none)).map (·.2) = vs.toArray := by
    show (vs.toArray.zip vs.toArray).map (·.2) = vs.toArray
    apply Array.toList_inj.mp
    simp only [Array.toList_map, Array.toList_zip]
    exact List.map_snd_zip (Nat.le_refl _)
  rw [hout]
  have s2 := Heap.SameBut.update (((s.heap.update D (Obj.mapSeq fun _ => (#[] : Array Value))).push (seqObj "tuple" vs.toArray 0)).push (seqObj "list" #[] 0)) D (Obj.mapSeq fun _ => vs.toArray)
  obtain ⟨c2, hc2⟩ : ∃ c2, ((((s.heap.update D (Obj.mapSeq fun _ => (#[] : Array Value))).push (seqObj "tuple" vs.toArray 0)).push (seqObj "list" #[] 0)).update D (Obj.mapSeq fun _ => vs.toArray)).get? D = some (seqObj "list" vs.toArray c2) := ⟨_, get?_update_seq ho3 fun _ => vs.toArray⟩
  refine wpAny_bind (listUpdate_at ho3 rfl ?_ (Nat.zero_le _) (by rw [List.size_toArray]; omega))
  simp only [bne_self_eq_false, Bool.false_eq_true, if_false]
  refine wpAny_pure ⟨_, rfl, h _ c2 (kas_fr F3 s2 haL ha0) fun p hp => ?_⟩
  rcases List.mem_cons.mp hp with rfl | hp
  · exact ⟨hc2, haL, ha0⟩
  · exact kas_news N2 s2 hn p hp
theorem tree2 : kas_sort 2 = .ask 1 0 fun b => if b = true then .ret #[1, 0] else .ret #[0, 1] := by
  have h : ∀ b : Bool, ((match kas_sort 2 with | .ask _ _ k => k b | .ret a => .ret a) : KasT (Array Nat)) = if b = true then .ret #[1, 0] else .ret #[0, 1] := fun b => by cases b <;> rfl
  have e : kas_sort 2 = .ask 1 0 fun b => ((match kas_sort 2 with | .ask _ _ k => k b | .ret a => .ret a) : KasT (Array Nat)) := rfl
  rw [e]
  congr 1
  funext b
  exact h b
/-- the sort of two items -/
theorem lsort_two {fro : Led} {x y : V} {u v : Value} {b : Bool} {Q : Shared → Prop} (F : Fr h₀ L s.heap m) (N : News h₀ L s.heap ((D, listOf (List.toArray [u, v]) 0) :: news)) (hn : ∀ p ∈ news, p.1 ≠ D) (hfro : ∀ p ∈ fro, p ∈ news) (rx : VRep fro x u) (ry : VRep fro y v) (hlt : ltV y x = some b)
    (h : ∀ h' c, Fr h₀ L h' m → News h₀ L h' ((D, listOf (List.toArray (if b = true then [v, u] else [u, v])) c) :: news) → Q { s with heap := h' }) :
    wpAny (model prog w) A (call (.builtin "list.sort") [.ref D] []) (fun _ s' => Q s') E s := by
  have U : UpdF D (listOf (List.toArray [u, v]) 0) ((D, listOf (List.toArray [u, v]) 0) :: news) (fun o' => (D, o') :: news) := .head hn
  have fin : ∀ (κ : SortKind) (c : Bool) (s' : Shared), c = b → Fr h₀ L s'.heap m → ∀ e1, News h₀ L s'.heap ((D, seqObj "list" #[] e1) :: news) → (∀ h', { s' with heap := h' } = { s with heap := h' }) →
      (if c = true then KasT.ret #[1, 0] else KasT.ret #[0, 1]).kasWp (kas_ask prog w A.in1 κ [u, v]) (fun p s' => KasFin h₀ L m D e1 (p.toList.map fun i => [u, v].getD i Value.none) (fun s'' => Q s'') s') s' := by
    intro κ c s' hc F' e1 N' hs
    subst hc
    have hQ : ∀ h' c', Fr h₀ L h' m → News h₀ L h' ((D, listOf (List.toArray (if c = true then [v, u] else [u, v])) c') :: news) → Q { s' with heap := h' } := fun h' c' f n => by rw [hs]; exact h h' c' f n
    cases c with
    | true => exact KasFin.intro F' N' (.head hn) fun h' c' f n => hQ h' c' f n
    | false => exact KasFin.intro F' N' (.head hn) fun h' c' f n => hQ h' c' f n
  unfold ltV at hlt
  split at hlt
  · rename_i a c
    cases hlt
    cases rx with | str t1 hs1 hz1 => cases ry with | str t2 hs2 hz2 =>
    refine kas_lsort (vs := [.str c t1, .str a t2]) (T := .type "str") F N U rfl (by simp) (by simp) (fun e1 h' F' N' z hz => ?_) (by decide) fun e1 h' F' N' => ?_
    · simp only [List.mem_cons, List.not_mem_nil, or_false] at hz
      rcases hz with rfl | rfl <;> exact Looks.of_pure rfl
    · show (kas_sort 2).kasWp _ _ _
      rw [tree2]
      show wpAny (model prog w) A.in1 (keyLt' oneType' (.str a t2) (.str c t1)) (fun b' s' => (if b' = true then KasT.ret #[1, 0] else KasT.ret #[0, 1]).kasWp _ _ s') (fun _ _ => False) _
      exact kas_lt_str (fin oneType' _ { s with heap := h' } rfl F' e1 N' fun _ => rfl)
  · rename_i a c a' c'
    cases hlt
    cases rx with | @tup _ ws1 T1 hm1 hr1 z1 => cases ry with | @tup _ ws2 T2 hm2 hr2 z2 =>
    cases hr1 with | cons p1 r1 => cases r1 with | cons q1 r1 => cases r1 with | nil => cases p1 with | str t1 _ _ => cases q1 with | str t2 _ _ =>
    cases hr2 with | cons p2 r2 => cases r2 with | cons q2 r2 => cases r2 with | nil => cases p2 with | str t3 _ _ => cases q2 with | str t4 _ _ =>
    refine kat_lsort F N U rfl (by simp) (by simp) fun e1 h' F' N' => ?_
    have g1 := (N' _ (.tail _ (hfro _ hm1))).1
    have g2 := (N' _ (.tail _ (hfro _ hm2))).1
    refine kat_kind (s := { s with heap := h' }) (fs := [.str a' t1, .str a t3]) (T := .type "str") (KatTups.cons g1 rfl rfl rfl (KatTups.cons g2 rfl rfl rfl KatTups.nil)) (by simp) (fun z hz => ?_) (by decide) ?_
    · simp only [List.mem_cons, List.not_mem_nil, or_false] at hz
      rcases hz with rfl | rfl <;> exact Looks.of_pure rfl
    · show (kas_sort 2).kasWp _ _ _
      rw [tree2]
      show wpAny (model prog w) A.in1 (keyLt' (tuples' (Value.type "str" != Value.type "tuple")) (.ref T2) (.ref T1)) (fun b' s' => (if b' = true then KasT.ret #[1, 0] else KasT.ret #[0, 1]).kasWp _ _ s') (fun _ _ => False) _
      have hb : (Value.type "str" != Value.type "tuple") = true := by decide
      rw [hb]
      refine kat_lt g2 rfl g1 rfl ?_
      show KatLex _ _ _ _ _ _ [(Value.str a t3, Value.str a' t1), (Value.str c t4, Value.str c' t2)] 0 _
      have en : ∀ (c0 : Bool), (c0 = match a == a' with
          | true => (match c == c' with
            | true => false
            | false => decide (c.cps.toList < c'.cps.toList))
          | false => decide (a.cps.toList < a'.cps.toList)) → (if c0 = true then KasT.ret #[1, 0] else KasT.ret #[0, 1]).kasWp (kas_ask prog w A.in1 (tuples' true) [.ref T1, .ref T2]) (fun p s' => KasFin h₀ L m D e1 (p.toList.map fun i => [.ref T1, .ref T2].getD i Value.none) (fun s'' => Q s'') s') { s with heap := h' } :=
        fun c0 hc0 => fin (tuples' true) c0 { s with heap := h' } hc0 F' e1 N' fun _ => rfl
      refine kat_cons (wpAny_eqBool_str (kat_go (fun e => kat_yes ?_) (fun e => kat_no ?_)))
      · have e : a = a' := of_decide_eq_true e
        refine kat_cons (wpAny_eqBool_str (kat_go (fun e' => kat_yes (kat_nil ?_)) (fun e' => kat_no (kat_one _ _ ?_))))
        · have e' : c = c' := of_decide_eq_true e'
          refine en _ ?_
          rw [e, e']
          simp
        · have e' : ¬ c = c' := of_decide_eq_false e'
          refine PyProof.Rows.lt_str ?_
          refine en _ ?_
          have h1 : (a == a') = true := by rw [e]; simp
          have h2 : (c == c') = false := by simpa using e'
          rw [h1, h2]
      · have e : ¬ a = a' := of_decide_eq_false e
        refine oneLt_str (en _ ?_)
        have h1 : (a == a') = false := by simpa using e
        rw [h1]
  · cases hlt
end
end Rk
end
section
open PySem PySem.W PyProof.Rows PySem.Calls PySem.Spec
set_option maxRecDepth 100000
set_option linter.unusedVariables false
namespace Rk
theorem owner_fs : Manifest.owners.lookup (String.ofList ['t', 'e', 's', 'n', 'e', 'z', 'o', 'r', 'f'].reverse) = some Manifest.sig_frozenset := by kernel_rfl
theorem owner_si : Manifest.owners.lookup (String.ofList ['r', 'o', 't', 'a', 'r', 'e', 't', 'i', '_', 't', 'e', 's'].reverse) = some Manifest.sig_set_iterator := by kernel_rfl
theorem slot_fs_iter : Slot "frozenset" "__iter__" "frozenset.__iter__" :=
  .of (owner := "frozenset") (n := "__iter__") (by rw [typeLookup_type, builtinLookup_eq_fast]; kernel_rfl) (by decide +kernel) (by decide +kernel) (by decide +kernel)
    (by first | exact .inl (by decide +kernel) | exact .inr (by decide +kernel)) (by rw [isSubtype_type]; kernel_rfl)
theorem entry_fs_iter : entryFor table "frozenset.__iter__" = some Builtin.«frozenset.__iter__» := entryFor_of_tree (by kernel_rfl)
theorem args_fs_iter (a : Value) : argsOk "frozenset.__iter__" ⟨[a], []⟩ := by
  unfold argsOk; rw [signature?_of (id := "frozenset.__iter__") (n := ['_', '_', 'r', 'e', 't', 'i', '_', '_']) (o := ['t', 'e', 's', 'n', 'e', 'z', 'o', 'r', 'f']) (by kernel_rfl) owner_fs]; kernel_rfl
theorem slot_si_next : Slot "set_iterator" "__next__" "set_iterator.__next__" :=
  .of (owner := "set_iterator") (n := "__next__") (by rw [typeLookup_type, builtinLookup_eq_fast]; kernel_rfl) (by decide +kernel) (by decide +kernel) (by decide +kernel)
    (by first | exact .inl (by decide +kernel) | exact .inr (by decide +kernel)) (by rw [isSubtype_type]; kernel_rfl)
theorem entry_si_next : entryFor table "set_iterator.__next__" = some Builtin.«set_iterator.__next__» := entryFor_of_tree (by kernel_rfl)
theorem args_si_next (a : Value) : argsOk "set_iterator.__next__" ⟨[a], []⟩ := by
  unfold argsOk; rw [signature?_of (id := "set_iterator.__next__") (n := ['_', '_', 't', 'x', 'e', 'n', '_', '_']) (o := ['r', 'o', 't', 'a', 'r', 'e', 't', 'i', '_', 't', 'e', 's']) (by kernel_rfl) owner_si]; kernel_rfl
theorem slot_si_iter : Slot "set_iterator" "__iter__" "set_iterator.__iter__" :=
  .of (owner := "set_iterator") (n := "__iter__") (by rw [typeLookup_type, builtinLookup_eq_fast]; kernel_rfl) (by decide +kernel) (by decide +kernel) (by decide +kernel)
    (by first | exact .inl (by decide +kernel) | exact .inr (by decide +kernel)) (by rw [isSubtype_type]; kernel_rfl)
theorem len_fs : typeLookup (.type "frozenset") "__len__" = pure (some (.builtin "frozenset.__len__")) := by rw [typeLookup_type, builtinLookup_eq_fast]; kernel_rfl
section
variable {prog : Program} {w : World} {A : Around} {E : Value → Shared → Prop} {s : Shared}
theorem wpAny_choose {M : Model} {src : Source} {n : Nat} {Q : Nat → Shared → Prop} (hn : n ≠ 0) (h : ∀ i d, i < n → Q i { s with drawn := d }) : wpAny M A (choose src n) Q E s := fun Γ p _ => by
  unfold choose
  rw [Sem.wp_choose]
  exact ⟨hn, h _ _ (Nat.mod_lt _ (Nat.pos_of_ne_zero hn))⟩
theorem perm_erase {α : Type} : ∀ {l : List α} {i : Nat} (h : i < l.length), (l[i] :: l.eraseIdx i).Perm l
  | x :: r, 0, _ => .refl _
  | x :: r, i + 1, h => by
    show (r[i]'(by simpa using h) :: x :: r.eraseIdx i).Perm (x :: r)
    exact (List.Perm.swap x _ _).trans (.cons x (perm_erase _))
theorem wpAny_order {M : Model} : ∀ (n : Nat) (xs : List Nat) {s : Shared} {Q : List Nat → Shared → Prop}, xs.length = n → (∀ ys d, ys.Perm xs → Q ys { s with drawn := d }) → wpAny M A (drawOrder n xs) Q E s
  | 0, xs, s, Q, hx, h => by
    unfold drawOrder
    have : xs = [] := List.eq_nil_of_length_eq_zero hx
    subst this
    exact wpAny_pure (h [] s.drawn (.refl _))
  | n + 1, [], s, Q, hx, h => by cases hx
  | n + 1, x :: r, s, Q, hx, h => by
    unfold drawOrder
    refine wpAny_bind (wpAny_choose (by simp) fun i d hi => ?_)
    have e : (x :: r)[i]? = some (x :: r)[i] := List.getElem?_eq_getElem hi
    rw [e]
    dsimp only
    refine wpAny_bind (wpAny_order n ((x :: r).eraseIdx i) (by rw [List.length_eraseIdx_of_lt hi, hx]; rfl) fun ys d' hp => wpAny_pure (h _ d' ?_))
    exact (List.Perm.cons _ hp).trans (perm_erase hi)
/-- the iterator of a set -/
abbrev siO (fst : Value) (i n ep : Nat) (a : Addr) : Obj := { cls := .type "set_iterator", data := .fields #[fst, rawInt i, .ref a, rawInt n, rawInt ep] }
theorem fs_iter {a : Addr} {es : Array (Int × Value)} {ep : Nat} {t : SetTable} (ho : s.heap.get? a = some (setOb "frozenset" es ep t)) (hf : t.fits es.size = true) (hz : es.size ≤ sizeLine) {Q : Value → Shared → Prop}
    (h0 : (!byText w.params && (!t.plain && decide (es.size > 1))) = false → Q (.ref s.heap.objs.size) { s with heap := s.heap.push (siO (rawInt 0) 0 es.size ep a) })
    (h1 : (!byText w.params && (!t.plain && decide (es.size > 1))) = true → ∀ (ys : List Nat) (d : Drawn), ys.Perm (List.range es.size) → Q (.ref (s.heap.objs.size + 1)) { s with heap := (s.heap.push (tupO (ys.map fun (i : Nat) => rawInt i))).push (siO (.ref s.heap.objs.size) 0 es.size ep a), drawn := d }) :
    wpAny (model prog w) A (pyIter (.ref a)) Q E s := by
  have hT : s.TypeIs (.ref a) "frozenset" := ⟨_, ho, rfl⟩
  refine wpAny_pyIter_slot hT slot_fs_iter (wpAny_call_entry slot_fs_iter hT entry_fs_iter ?_ (args_fs_iter _))
  unfold Builtin.«frozenset.__iter__»
  refine wpAny_bind (wpAny_of_eq (a := a) rfl ?_)
  have st : ∀ {B : Around} {Q' : (Array (Int × Value) × Nat × SetTable) → Shared → Prop} {E' : Value → Shared → Prop}, Q' (es, ep, t) s → wpAny (model prog w) B (setState a) Q' E' s := fun h => wpAny_setState_of ho rfl hf h
  refine wpAny_bind ?_
  show wpAny _ _ (setEntries a >>= fun es => pure es.size) _ _ _
  refine wpAny_bind ?_
  show wpAny _ _ (setState a >>= fun r => pure r.1) _ _ _
  refine wpAny_bind (st (wpAny_pure (wpAny_pure ?_)))
  refine wpAny_bind ?_
  unfold setDrawn
  refine wpAny_bind (st ?_)
  dsimp only
  refine wpAny_bind ?_
  unfold setsByText
  refine wpAny_bind (wpAny_askSetting (wpAny_pure (wpAny_pure ?_)))
  show wpAny _ _ (if (!byText w.params && (!t.plain && decide (es.size > 1))) = true then _ else _) _ _ _
  cases hb : (!byText w.params && (!t.plain && decide (es.size > 1))) with
  | true =>
    simp only [if_true]
    refine wpAny_bind (wpAny_order es.size (List.range es.size) (by simp) fun ys d hp => ?_)
    have ly : ys.length = es.size := by rw [hp.length_eq, List.length_range]
    refine wpAny_bind (wpAny_newTuple ?_ (by rw [List.length_map, ly]; exact hz))
    refine wpAny_bind ?_
    show wpAny _ _ (setState a >>= fun r => pure r.2.1) _ _ _
    refine wpAny_bind (wpAny_setState_of (s := { s with heap := s.heap.push _, drawn := d }) (Heap.get?_push_of_some _ ho) rfl hf (wpAny_pure ?_))
    have hc : { s with heap := s.heap.push (tupO (ys.map fun (i : Nat) => rawInt i)), drawn := d }.heap.objs.size = s.heap.objs.size + 1 := by
      show (s.heap.push _).objs.size = _
      rw [Heap.size_push]
    refine wpAny_bind (wpAny_newObj_type (wpAny_pure ⟨_, rfl, "set_iterator", _, ⟨_, Heap.get?_push_size _ rfl, rfl⟩, slot_si_next.lookup, ?_⟩))
    have q := h1 hb ys d hp
    show Q (.ref (s.heap.push (tupO (ys.map fun (i : Nat) => rawInt i))).objs.size) _
    rw [Heap.size_push]
    exact q
  | false =>
    simp only [Bool.false_eq_true, if_false]
    refine wpAny_bind (wpAny_pure ?_)
    refine wpAny_bind ?_
    show wpAny _ _ (setState a >>= fun r => pure r.2.1) _ _ _
    refine wpAny_bind (st (wpAny_pure ?_))
    refine wpAny_bind (wpAny_newObj_type (wpAny_pure ⟨_, rfl, "set_iterator", _, ⟨_, Heap.get?_push_size _ rfl, rfl⟩, slot_si_next.lookup, h0 hb⟩))
/-- how far the iterator is: what it hands out from here on -/
inductive SiAt (P : Params) (h : Heap) (I a : Addr) (es : Array (Int × Value)) (ep : Nat) (t : SetTable) : Nat → List Value → Prop
  | text {i : Nat} {ord : Array (Int × Value)} (hb : byText P = true) (ho : ord = pickOrder (P.setOrder a ep) es) (hi : i ≤ es.size) (g : h.get? I = some (siO (rawInt 0) i es.size ep a)) : SiAt P h I a es ep t i ((ord.toList.drop i).map (·.2))
  | drawn {i : Nat} {T : Addr} {ys : List Nat} (hb : (!byText P && (!t.plain && decide (es.size > 1))) = true) (hp : ys.Perm (List.range es.size)) (hi : i ≤ es.size) (g : h.get? I = some (siO (.ref T) i es.size ep a)) (gT : h.get? T = some (tupO (ys.map fun (i : Nat) => rawInt i))) (hT : T ≠ I) : SiAt P h I a es ep t i ((ys.drop i).map fun j => (es.getD j (0, Value.none)).2)
  | none (hb : byText P = false) (hz : es.size = 0) (g : h.get? I = some (siO (rawInt 0) 0 0 ep a)) : SiAt P h I a es ep t 0 []
  | one {e : Int × Value} {p : Nat} (hb : byText P = false) (he : es = #[e]) (hp : t.place = #[p]) (g : h.get? I = some (siO (rawInt 0) 0 1 ep a)) : SiAt P h I a es ep t 0 [e.2]
  | oneEnd {e : Int × Value} {p : Nat} (hb : byText P = false) (he : es = #[e]) (hp : t.place = #[p]) (g : h.get? I = some (siO (rawInt (p + 1 : Nat)) 1 1 ep a)) : SiAt P h I a es ep t 1 []
end
end Rk
end
section
open PySem PySem.W PyProof.Rows PySem.Calls PySem.Spec
set_option maxRecDepth 100000
set_option linter.unusedVariables false
namespace Rk
theorem pick_go (f : Nat → Nat) {α : Type} : ∀ (n k : Nat) (left : List α) (out : Array α), left.length ≤ n → (pickOrder.go f n k left out).toList.Perm (out.toList ++ left)
  | 0, k, left, out, h => by
    have : left = [] := List.eq_nil_of_length_eq_zero (Nat.le_zero.mp h)
    subst this
    unfold pickOrder.go
    simp
  | n + 1, k, [], out, h => by
    unfold pickOrder.go
    simp
  | n + 1, k, x :: r, out, h => by
    have hi : f k % (x :: r).length < (x :: r).length := Nat.mod_lt _ (by simp)
    unfold pickOrder.go
    rw [List.getElem?_eq_getElem hi]
    dsimp only
    refine (pick_go f n (k + 1) _ _ (by rw [List.length_eraseIdx_of_lt hi]; simp only [List.length_cons] at h ⊢; omega)).trans ?_
    rw [Array.toList_push, List.append_assoc]
    exact List.Perm.append_left _ (perm_erase hi)
theorem pick_perm (f : Nat → Nat) {α : Type} (es : Array α) : (pickOrder f es).toList.Perm es.toList := by
  have := pick_go f es.size 0 es.toList #[] (by simp)
  simpa [pickOrder] using this
section
variable {prog : Program} {w : World} {A : Around} {E : Value → Shared → Prop} {s : Shared}
theorem stop_none {A : Around} {s : Shared} {I : Addr} (hh : A.handled = none) {h₁ : Heap} {Q : Option Value → Shared → Prop} {E : Value → Shared → Prop} {P : PySem.Fin → Shared → Prop} (hQ : ∀ h', (∀ b o, h₁.get? b = some o → h'.get? b = some o) → Q none { s with heap := h' }) :
    wpAny (model prog w) A.in1 (do let e ← newExc (Value.type "StopIteration") []; raiseNew e) P (fun e s' => wpAny (model prog w) A (do
          let b ← isInstance e (Value.type "StopIteration")
          if b = true then pure none else throw e) Q E s') { s with heap := h₁ } := by
  show wpAny _ _ (newExc (.type "StopIteration") [] >>= _) _ _ _
  refine wpAny_bind ?_
  simp only [newExc, newTuple]
  refine wpAny_bind (wpAny_newObj_type ?_ (by size_fits))
  refine wpAny_bind (m := firstArgMember _ _) (wpAny_of_eq (a := Value.none) (by first | rfl | (simp only [firstArgMember]; rfl)) ?_)
  refine wpAny_newObj_type ?_ (by size_fits)
  simp only [raiseNew]
  refine wpAny_bind (wpAny_handled ?_)
  first | rw [show A.in1.handled = none from hh] | rw [hh]
  refine wpAny_bind (wpAny_pure (wpAny_throw ?_))
  refine wpAny_bind (wpAny_isInstance (T := "StopIteration") (b := true) ⟨_, Heap.get?_push_size _ rfl, rfl⟩ isSubtype_stop ?_)
  exact wpAny_pure (hQ _ fun b o e => Heap.get?_push_of_some _ (Heap.get?_push_of_some _ e))
/-- one step of the iterator, told by place -/
theorem si_int {I a : Addr} {es : Array (Int × Value)} {ep : Nat} {t : SetTable} {i k n : Nat} {r : Option (Value × Nat)} (hh : A.handled = none) (ho : s.heap.get? a = some (setOb "frozenset" es ep t)) (hf : t.fits es.size = true) (hn : n = es.size)
    (g : s.heap.get? I = some (siO (rawInt k) i n ep a)) (hr : ∀ (Q' : Option (Value × Nat) → Shared → Prop) (E' : Value → Shared → Prop), Q' r s → wpAny (model prog w) A.in1 (setNext a k i ep) Q' E' s) {Q : Option Value → Shared → Prop}
    (h1 : ∀ v nx, r = some (v, nx) → ∀ h', Heap.SameBut I s.heap h' → h'.get? I = some (siO (rawInt nx) (i + 1) n ep a) → Q (some v) { s with heap := h' })
    (h2 : r = none → ∀ h', Heap.ExtBut I s.heap h' → Q none { s with heap := h' }) : wpAny (model prog w) A (pyNext (.ref I)) Q E s := by
  have hT : s.TypeIs (.ref I) "set_iterator" := ⟨_, g, rfl⟩
  unfold pyNext
  refine wpAny_bind (wpAny_attempt (wpAny_callSpecial?_slot (name := Str.ofString "__next__") hT slot_si_next
    (wpAny_call_entry slot_si_next hT entry_si_next ?_ (args_si_next _))))
  unfold Builtin.«set_iterator.__next__»
  refine wpAny_bind (wpAny_of_eq (a := (Value.ref I, [])) rfl ?_)
  dsimp only
  refine wpAny_bind (wpAny_fieldsOf g rfl ?_)
  dsimp only
  refine wpAny_bind ?_
  show wpAny _ _ (setState a >>= fun r => pure r.1) _ _ _
  refine wpAny_bind (wpAny_setState_of ho rfl hf (wpAny_pure ?_))
  rw [if_neg (by subst hn; simp)]
  show wpAny _ _ (setNext a ((k : Int)).toNat ((i : Int)).toNat ((ep : Int)).toNat >>= _) _ _ _
  simp only [Int.toNat_natCast]
  refine wpAny_bind (hr _ _ ?_)
  cases r with
  | some y =>
    obtain ⟨v, nx⟩ := y
    dsimp only
    refine wpAny_bind (wpAny_setField_rec g (by simp) fun h₁ g₁ hs₁ => ?_)
    replace g₁ : h₁.get? I = some (siO (rawInt nx) i n ep a) := g₁
    refine wpAny_bind (wpAny_setField_rec g₁ (by simp) fun h₂ g₂ hs₂ => ?_)
    replace g₂ : h₂.get? I = some (siO (rawInt nx) (i + 1) n ep a) := g₂
    exact wpAny_pure ⟨v, rfl, wpAny_pure (h1 v nx rfl h₂ (hs₁.trans hs₂) g₂)⟩
  | none =>
    dsimp only
    refine wpAny_bind (wpAny_setField_rec g (by simp) fun h₁ g₁ hs₁ => ?_)
    exact stop_none (I := I) hh fun h' hk => h2 rfl h' fun b o hb e => hk b o (hs₁.extBut b o hb e)
end
end Rk
end
section
open PySem PySem.W PyProof.Rows PySem.Calls PySem.Spec
set_option maxRecDepth 100000
set_option linter.unusedVariables false
namespace Rk
section
variable {prog : Program} {w : World} {A : Around} {E : Value → Shared → Prop} {s : Shared}
theorem next_text {a : Addr} {es : Array (Int × Value)} {ep : Nat} {t : SetTable} {i k : Nat} (ho : s.heap.get? a = some (setOb "frozenset" es ep t)) (hf : t.fits es.size = true) (hb : byText w.params = true) (Q : Option (Value × Nat) → Shared → Prop)
    (h : Q (((pickOrder (w.params.setOrder a ep) es)[i]?).map fun e => (e.2, k)) s) : wpAny (model prog w) A (setNext a k i ep) Q E s := by
  have hb' : w.params.followText "set-order" = true := hb
  unfold setNext
  refine wpAny_bind (wpAny_setState_of ho rfl hf ?_)
  dsimp only
  refine wpAny_bind ?_
  unfold setsByText
  refine wpAny_bind (wpAny_askSetting (wpAny_pure ?_))
  show wpAny _ _ (if w.params.followText "set-order" = true then _ else _) _ _ _
  rw [if_pos hb']
  rw [if_neg (by simp)]
  refine wpAny_bind ?_
  unfold setWalk
  refine wpAny_bind (wpAny_setState_of ho rfl hf ?_)
  dsimp only
  unfold setsByText
  refine wpAny_bind (wpAny_bind (wpAny_askSetting (wpAny_pure ?_)))
  show wpAny _ _ (if w.params.followText "set-order" = true then _ else _) _ _ _
  rw [if_pos hb']
  refine wpAny_bind (wpAny_askSetting (wpAny_pure (wpAny_pure ?_)))
  exact h
theorem next_led {a : Addr} {es : Array (Int × Value)} {ep : Nat} {t : SetTable} {i k : Nat} (ho : s.heap.get? a = some (setOb "frozenset" es ep t)) (hf : t.fits es.size = true) (hb : byText w.params = false) (hl : t.led = true) (hd : ¬ es.size > 1) (Q : Option (Value × Nat) → Shared → Prop)
    (h : Q (match es[SetTable.below t.place k]?, t.place[SetTable.below t.place k]? with
      | some (_, x), some j => some (x, j + 1)
      | _, _ => none) s) : wpAny (model prog w) A (setNext a k i ep) Q E s := by
  have hb' : w.params.followText "set-order" = false := hb
  unfold setNext
  refine wpAny_bind (wpAny_setState_of ho rfl hf ?_)
  dsimp only
  refine wpAny_bind ?_
  unfold setsByText
  refine wpAny_bind (wpAny_askSetting (wpAny_pure ?_))
  show wpAny _ _ (if w.params.followText "set-order" = true then _ else _) _ _ _
  rw [if_neg (by rw [hb']; simp)]
  show wpAny _ _ (if (!t.plain && decide (es.size > 1)) = true then _ else _) _ _ _
  rw [if_neg (by rw [decide_eq_false hd]; simp)]
  refine wpAny_bind ?_
  show wpAny _ _ (if (!t.led && !es.isEmpty) = true then _ else pure ()) _ _ _
  rw [if_neg (by rw [hl]; simp)]
  refine wpAny_pure (wpAny_pure ?_)
  exact h
/-- one step of the iterator, told by a drawn order -/
theorem si_drawn {I a T : Addr} {es : Array (Int × Value)} {ep : Nat} {t : SetTable} {i n : Nat} {ys : List Nat} (hh : A.handled = none) (ho : s.heap.get? a = some (setOb "frozenset" es ep t)) (hf : t.fits es.size = true) (hn : n = es.size)
    (g : s.heap.get? I = some (siO (.ref T) i n ep a)) (gT : s.heap.get? T = some (tupO (ys.map fun (i : Nat) => rawInt i))) {Q : Option Value → Shared → Prop}
    (h1 : ∀ j e, ys[i]? = some j → es[j]? = some e → ∀ h', Heap.SameBut I s.heap h' → h'.get? I = some (siO (.ref T) (i + 1) n ep a) → Q (some e.2) { s with heap := h' })
    (hj : ∀ j, ys[i]? = some j → j < es.size)
    (h2 : ys[i]? = none → ∀ h', Heap.ExtBut I s.heap h' → Q none { s with heap := h' }) : wpAny (model prog w) A (pyNext (.ref I)) Q E s := by
  have hT : s.TypeIs (.ref I) "set_iterator" := ⟨_, g, rfl⟩
  unfold pyNext
  refine wpAny_bind (wpAny_attempt (wpAny_callSpecial?_slot (name := Str.ofString "__next__") hT slot_si_next
    (wpAny_call_entry slot_si_next hT entry_si_next ?_ (args_si_next _))))
  unfold Builtin.«set_iterator.__next__»
  refine wpAny_bind (wpAny_of_eq (a := (Value.ref I, [])) rfl ?_)
  dsimp only
  refine wpAny_bind (wpAny_fieldsOf g rfl ?_)
  dsimp only
  refine wpAny_bind ?_
  show wpAny _ _ (setState a >>= fun r => pure r.1) _ _ _
  refine wpAny_bind (wpAny_setState_of ho rfl hf (wpAny_pure ?_))
  rw [if_neg (by subst hn; simp)]
  refine wpAny_bind (wpAny_seqItems gT rfl ?_)
  simp only [Int.toNat_natCast, List.getElem?_toArray, List.getElem?_map]
  cases hy : ys[i]? with
  | some j =>
    dsimp only [Option.map]
    have hlt := hj j hy
    show wpAny _ _ (setNextDrawn a ((j : Int)).toNat ep >>= _) _ _ _
    simp only [Int.toNat_natCast]
    refine wpAny_bind ?_
    unfold setNextDrawn
    refine wpAny_bind (wpAny_setState_of ho rfl hf ?_)
    dsimp only
    rw [if_neg (by simp)]
    have he : es[j]? = some es[j] := Array.getElem?_eq_getElem hlt
    rw [he]
    dsimp only
    refine wpAny_pure ?_
    refine wpAny_bind (wpAny_setField_rec g (by simp) fun h₁ g₁ hs₁ => ?_)
    replace g₁ : h₁.get? I = some (siO (.ref T) (i + 1) n ep a) := g₁
    exact wpAny_pure ⟨_, rfl, wpAny_pure (h1 j es[j] hy he h₁ hs₁ g₁)⟩
  | none =>
    dsimp only [Option.map]
    refine wpAny_bind (wpAny_setField_rec g (by simp) fun h₁ g₁ hs₁ => ?_)
    replace g₁ : h₁.get? I = some { cls := .type "set_iterator", data := .fields #[rawInt 0, rawInt i, .ref a, rawInt n, rawInt ep] } := g₁
    refine wpAny_bind (wpAny_setField_rec g₁ (by simp) fun h₂ g₂ hs₂ => ?_)
    exact stop_none (I := I) hh fun h' hk => h2 hy h' fun b o hb e => hk b o ((hs₁.trans hs₂).extBut b o hb e)
end
end Rk
end
section
open PySem PySem.W PyProof.Rows PySem.Calls PySem.Spec
set_option maxRecDepth 100000
set_option linter.unusedVariables false
namespace Rk
/-- where the iterator of a frozenset stands that hands out these items -/
def SiM (P : Params) (a I T : Addr) (es : Array (Int × Value)) (ep : Nat) (t : SetTable) (items : List Value) (i : Nat) (h : Heap) : Prop :=
  (byText P = true ∧ items = (pickOrder (P.setOrder a ep) es).toList.map (·.2) ∧ h.get? I = some (siO (rawInt (0 : Nat)) i es.size ep a)) ∨
  (∃ ys : List Nat, ys.Perm (List.range es.size) ∧ items = (ys.map fun j => (es.getD j (0, Value.none)).2) ∧ h.get? I = some (siO (.ref T) i es.size ep a) ∧ h.get? T = some (tupO (ys.map fun (i : Nat) => rawInt i)) ∧ T ≠ I) ∨
  (byText P = false ∧ t.led = true ∧ es = #[] ∧ items = [] ∧ h.get? I = some (siO (rawInt (0 : Nat)) i 0 ep a)) ∨
  (∃ e p, byText P = false ∧ t.led = true ∧ es = #[e] ∧ t.place = #[p] ∧ items = [e.2] ∧ h.get? I = some (siO (rawInt (if i = 0 then 0 else p + 1 : Nat)) i 1 ep a))
theorem entry_si_iter : entryFor table "set_iterator.__iter__" = some Builtin.«dict_keyiterator.__iter__» :=
  entryFor_alias (id' := "dict_keyiterator.__iter__") (by kernel_rfl) (by first | rfl | decide +kernel | (unfold String.splitOn; simp +decide [String.splitOnAux])) (by decide +kernel) (by kernel_rfl)
theorem args_si_iter (a : Value) : argsOk "set_iterator.__iter__" ⟨[a], []⟩ := by
  unfold argsOk; rw [signature?_of (id := "set_iterator.__iter__") (n := ['_', '_', 'r', 'e', 't', 'i', '_', '_']) (o := ['r', 'o', 't', 'a', 'r', 'e', 't', 'i', '_', 't', 'e', 's']) (by kernel_rfl) owner_si]; kernel_rfl
theorem below_one (p : Nat) : SetTable.below #[p] 0 = 0 ∧ SetTable.below #[p] (p + 1) = 1 := by
  constructor
  · simp [SetTable.below, SetTable.below.go]
  · simp [SetTable.below, SetTable.below.go]
section
variable {prog : Program} {w : World} {A : Around} {E : Value → Shared → Prop} {s : Shared}
theorem SiM.walks (hh : A.handled = none) {a I T : Addr} {es : Array (Int × Value)} {ep : Nat} {t : SetTable} {items : List Value} (hf : t.fits es.size = true) (hIa : a ≠ I) :
    Walks prog w A I [I, a, T] [I] items.length (fun i v => items[i]? = some v) (fun i h => i ≤ items.length ∧ h.get? a = some (setOb "frozenset" es ep t) ∧ SiM w.params a I T es ep t items i h) where
  sub := fun b hb => by simp at hb; simp [hb]
  frame := fun i h h' st hk => by
    obtain ⟨hi, ho, hs⟩ := st
    refine ⟨hi, hk a (by simp) _ ho, ?_⟩
    rcases hs with ⟨h1, h2, g⟩ | ⟨ys, h1, h2, g, gT, hT⟩ | ⟨h1, h2, h3, h4, g⟩ | ⟨e, p, h1, h2, h3, h4, h5, g⟩
    · exact .inl ⟨h1, h2, hk I (by simp) _ g⟩
    · exact .inr (.inl ⟨ys, h1, h2, hk I (by simp) _ g, hk T (by simp) _ gT, hT⟩)
    · exact .inr (.inr (.inl ⟨h1, h2, h3, h4, hk I (by simp) _ g⟩))
    · exact .inr (.inr (.inr ⟨e, p, h1, h2, h3, h4, h5, hk I (by simp) _ g⟩))
  item := fun i s Q E hi st hQ => by
    obtain ⟨hle, ho, hs⟩ := st
    have up : ∀ {h' : Heap}, Heap.SameBut I s.heap h' → ∀ b o, b ∉ [I] → s.heap.get? b = some o → h'.get? b = some o := fun hs b o hb e => hs.extBut b o (fun q => hb (by simp [q])) e
    rcases hs with ⟨h1, h2, g⟩ | ⟨ys, h1, h2, g, gT, hT⟩ | ⟨h1, h2, h3, h4, g⟩ | ⟨e, p, h1, h2, h3, h4, h5, g⟩
    · refine si_int (k := 0) hh ho hf rfl g (fun Q' E' q => next_text ho hf h1 Q' q) (fun v nx hv h' hs' g' => ?_) fun hv => ?_
      · simp only [Option.map_eq_some_iff] at hv
        obtain ⟨e, he, hv⟩ := hv
        cases hv
        refine hQ _ h' s.toks ?_ ⟨hi, hs'.extBut _ _ hIa ho, .inl ⟨h1, h2, g'⟩⟩ (up hs')
        rw [h2, List.getElem?_map, Array.getElem?_toList, he]
        try rfl
      · have hlen : items.length = (pickOrder (w.params.setOrder a ep) es).size := by rw [h2, List.length_map, Array.length_toList]
        rw [hlen] at hi
        rw [Array.getElem?_eq_getElem hi] at hv
        cases hv
    · have hly : ys.length = es.size := by rw [h1.length_eq, List.length_range]
      have hlen : items.length = ys.length := by rw [h2, List.length_map]
      have hj : ∀ j, ys[i]? = some j → j < es.size := fun j hj => List.mem_range.mp ((h1.mem_iff).mp (List.mem_of_getElem? hj))
      refine si_drawn hh ho hf rfl g gT (fun j e hj' he h' hs' g' => ?_) hj fun hn => ?_
      · refine hQ _ h' s.toks ?_ ⟨hi, hs'.extBut _ _ hIa ho, .inr (.inl ⟨ys, h1, h2, g', hs'.extBut _ _ hT gT, hT⟩)⟩ (up hs')
        rw [h2, List.getElem?_map, hj']
        show some (es.getD j (0, Value.none)).2 = _
        rw [Array.getD_eq_getD_getElem?, he]
        try rfl
      · rw [hlen] at hi
        rw [List.getElem?_eq_getElem hi] at hn
        cases hn
    · subst h4
      simp at hi
    · subst h5
      have hi0 : i = 0 := by simpa using hi
      subst hi0
      have hd : ¬ es.size > 1 := by rw [h3]; simp
      refine si_int (k := 0) (n := 1) hh ho hf (by simp [h3]) (by simpa using g) (fun Q' E' q => next_led ho hf h1 h2 hd Q' q) (fun v nx hv h' hs' g' => ?_) fun hv => ?_
      · rw [h4, (below_one p).1, h3] at hv
        have hv : some (e.2, p + 1) = some (v, nx) := hv
        cases hv
        exact hQ _ h' s.toks rfl ⟨Nat.le_refl _, hs'.extBut _ _ hIa ho, .inr (.inr (.inr ⟨e, p, h1, h2, h3, h4, rfl, by simpa using g'⟩))⟩ (up hs')
      · rw [h4, (below_one p).1, h3] at hv
        cases hv
  done := fun s Q E st hQ => by
    obtain ⟨hle, ho, hs⟩ := st
    have fin : ∀ h', Heap.ExtBut I s.heap h' → Q none { s with heap := h' } := fun h' he => hQ h' s.toks fun b o hb e => he b o (fun q => hb (by simp [q])) e
    rcases hs with ⟨h1, h2, g⟩ | ⟨ys, h1, h2, g, gT, hT⟩ | ⟨h1, h2, h3, h4, g⟩ | ⟨e, p, h1, h2, h3, h4, h5, g⟩
    · refine si_int (k := 0) hh ho hf rfl g (fun Q' E' q => next_text ho hf h1 Q' q) (fun v nx hv h' hs' g' => ?_) fun hv => fin
      have hlen : items.length = (pickOrder (w.params.setOrder a ep) es).size := by rw [h2, List.length_map, Array.length_toList]
      rw [Array.getElem?_eq_none (by rw [hlen]; exact Nat.le_refl _)] at hv
      cases hv
    · have hlen : items.length = ys.length := by rw [h2, List.length_map]
      have hend : ys[items.length]? = none := by rw [hlen]; simp
      exact si_drawn hh ho hf rfl g gT (fun j e hj' he h' hs' g' => by rw [hend] at hj'; cases hj') (fun j hj => by rw [hend] at hj; cases hj) fun hn => fin
    · subst h4
      refine si_int (k := 0) (n := 0) hh ho hf (by simp [h3]) g (fun Q' E' q => next_led ho hf h1 h2 (by rw [h3]; simp) Q' q) (fun v nx hv h' hs' g' => ?_) fun hv => fin
      rw [h3] at hv
      simp at hv
    · subst h5
      refine si_int (k := p + 1) (n := 1) hh ho hf (by simp [h3]) (by simpa using g) (fun Q' E' q => next_led ho hf h1 h2 (by rw [h3]; simp) Q' q) (fun v nx hv h' hs' g' => ?_) fun hv => fin
      rw [h4, (below_one p).2, h3] at hv
      cases hv
  self := fun i s Q E st hQ => by
    obtain ⟨hle, ho, hs⟩ := st
    have hT : s.TypeIs (.ref I) "set_iterator" := by
      rcases hs with ⟨h1, h2, g⟩ | ⟨ys, h1, h2, g, gT, hT⟩ | ⟨h1, h2, h3, h4, g⟩ | ⟨e, p, h1, h2, h3, h4, h5, g⟩ <;> exact ⟨_, g, rfl⟩
    refine wpAny_pyIter_slot hT slot_si_iter (wpAny_call_entry slot_si_iter hT entry_si_iter ?_ (args_si_iter _))
    show wpAny _ _ (ret (.ref I)) _ _ s
    exact wpAny_pure ⟨_, rfl, "set_iterator", _, hT, slot_si_next.lookup, hQ⟩
/-- the size of a frozenset makes no noise -/
theorem fs_hint {a : Addr} (hT : s.TypeIs (.ref a) "frozenset") {Q : Bool → Shared → Prop} (h : Q false s) : wpAny (model prog w) A (Builtin.List.listLengthHint (.ref a)) Q E s := by
  unfold Builtin.List.listLengthHint
  refine wpAny_bind (wpAny_specialOf hT len_fs ?_)
  dsimp only
  rw [show splitId "frozenset.__len__" = some ("frozenset", "__len__") from by decide +kernel]
  dsimp only
  refine wpAny_bind (wpAny_isInstance (b := true) hT sub_fs ?_)
  simp only [Bool.not_true, Bool.false_eq_true, if_false]
  rw [if_pos (by rfl)]
  exact wpAny_bind (wpAny_typeOf hT (wpAny_pure h))
end
end Rk
end
section
open PySem PySem.W PyProof.Rows PySem.Calls PySem.Spec
set_option maxRecDepth 100000
set_option linter.unusedVariables false
namespace Rk
theorem range_getD {α : Type} (d : α) (es : Array α) : (List.range es.size).map (fun j => es.getD j d) = es.toList := by
  apply List.ext_getElem
  · simp
  · intro i h1 h2
    have hi : i < es.size := by simpa using h1
    simp [Array.getD, hi]
section
variable {prog : Program} {w : World} {A : Around} {E : Value → Shared → Prop} {s : Shared}
theorem fs_loop (hh : A.handled = none) {a I T S : Addr} {es : Array (Int × Value)} {ep : Nat} {t : SetTable} {items : List Value} (hf : t.fits es.size = true) (hIa : a ≠ I) (hSI : S ≠ I) (hSa : S ≠ a) (hST : S ≠ T) (hz : items.length ≤ sizeLine) {c : Nat} {res : Value} {R : Result → Shared → Prop} (ho : s.heap.get? a = some (setOb "frozenset" es ep t)) (hM : SiM w.params a I T es ep t items 0 s.heap)
    (hS : s.heap.get? S = some { cls := .type "list", dict := none, data := .seq #[] c, slots := #[] })
    (hR : ∀ h' tk c', (∀ b o, b ≠ S → b ≠ I → s.heap.get? b = some o → h'.get? b = some o) → h'.get? S = some { cls := .type "list", dict := none, data := .seq items.toArray c', slots := #[] } → R (.ok (.ret res)) { s with heap := h', toks := tk }) :
    codeAny (model prog w) A (.builtin "list.extend.loop" ⟨[.ref S, .ref I, res], []⟩) R s := by
  have W := (SiM.walks (prog := prog) (w := w) (A := A.in1) (T := T) (items := items) (ep := ep) hh hf hIa).toS
  refine codeAny_extend_loopS W hz S (by simp only [List.mem_cons, List.not_mem_nil, or_false, not_or]; exact ⟨hSI, hSa, hST⟩) res items.length 0 s #[] c (Nat.sub_zero _) (Nat.zero_le _) ⟨Nat.zero_le _, ho, hM⟩ hS (ItemsOf.nil _) fun s' acc' c' hm hS' hacc => ?_
  have e : acc' = items.toArray := by
    apply Array.ext_getElem?
    intro k
    by_cases hk : k < acc'.size
    · rw [Array.getElem?_eq_getElem hk]
      have := hacc.2 k _ (Array.getElem?_eq_getElem hk)
      rw [List.getElem?_toArray, this]
    · rw [Array.getElem?_eq_none (Nat.le_of_not_lt hk), Array.getElem?_eq_none (by rw [List.size_toArray, ← hacc.1]; exact Nat.le_of_not_lt hk)]
  subst e
  rw [Moved.eq_with hm]
  exact hR s'.heap s'.toks c' (fun b o hb hI e => hm.heap b o (by simp only [List.mem_cons, List.not_mem_nil, or_false, not_or]; exact ⟨hb, hI⟩) e) hS'
theorem fs_collect (hh : A.handled = none) {a : Addr} {es : Array (Int × Value)} {ep : Nat} {t : SetTable} (ho : s.heap.get? a = some (setOb "frozenset" es ep t)) (hf : t.fits es.size = true) (hz : es.size ≤ sizeLine) (hled : t.led = !byText w.params) (hpl : 0 < es.size → t.plain = false) {Q : List Value → Shared → Prop}
    (h : ∀ (h' : Heap) (tk : Nat) (d : Drawn) (vs : List Value), (∀ b o, s.heap.get? b = some o → h'.get? b = some o) → vs.Perm (es.toList.map (·.2)) → Q vs { s with heap := h', toks := tk, drawn := d }) :
    wpAny (model prog w) A (collect (.ref a)) Q E s := by
  have haN : a < s.heap.objs.size := Heap.lt_size ho
  have hSa : s.heap.objs.size ≠ a := Nat.ne_of_gt haN
  unfold collect
  refine wpAny_bind (wpAny_runValue (codeAny_builtin PySem.F.entry_proto_collect ?_))
  rw [Around.under_plainId PySem.F.plain_proto_collect _]
  show wpAny _ A.in1 (newList [] >>= fun l => again (.builtin "list.__iadd__" ⟨[l, .ref a], []⟩)) _ _ s
  refine wpAny_bind (wpAny_newObj_type ?_)
  refine wpAny_pure ⟨plainId_quiet PySem.F.plain_list_iadd _, codeAny_builtin PySem.F.entry_list_iadd ?_⟩
  rw [Around.under_plainId PySem.F.plain_list_iadd _]
  have hS₁ : (s.heap.push { cls := .type "list", data := .seq ([] : List Value).toArray }).get? s.heap.objs.size = some { cls := .type "list", data := .seq #[] } := Heap.get?_push_size _ rfl
  have ho₁ : (s.heap.push { cls := .type "list", data := .seq ([] : List Value).toArray }).get? a = some (setOb "frozenset" es ep t) := Heap.get?_push_of_some _ ho
  show wpAny _ A.in1 (Builtin.List.listExtendWith (.ref s.heap.objs.size) (.ref a) (.ref s.heap.objs.size)) _ _ _
  unfold Builtin.List.listExtendWith
  have hT : Shared.TypeIs { s with heap := s.heap.push { cls := .type "list", data := .seq ([] : List Value).toArray } } (.ref a) "frozenset" := ⟨_, ho₁, rfl⟩
  refine wpAny_bind (wpAny_typeOf hT ?_)
  have h1 : Builtin.List.listSameRef (.ref s.heap.objs.size) (.ref a) = false := by simp [Builtin.List.listSameRef, hSa]
  have h2 : (Value.type "frozenset" == Value.type "list") = false := by decide
  have h3 : (Value.type "frozenset" == Value.type "tuple") = false := by decide
  simp only [h1, h2, h3, Bool.or_false, Bool.false_eq_true, if_false]
  have hk₂ : ∀ gg, ∀ b o, (s.heap.push { cls := .type "list", data := .seq ([] : List Value).toArray }).get? b = some o → ((s.heap.push { cls := .type "list", data := .seq ([] : List Value).toArray }).push gg).get? b = some o := fun gg b o e => Heap.get?_push_of_some _ e
  have hpsz : ∀ items : List Value, items.Perm (es.toList.map (·.2)) → items.length ≤ sizeLine := fun items hp => by
    rw [hp.length_eq, List.length_map, Array.length_toList]; exact hz
  refine wpAny_bind (fs_iter ho₁ hf hz (fun hb => ?_) (fun hb ys d hp => ?_))
  · refine wpAny_bind (wpAny_holding (fs_hint ⟨_, Heap.get?_push_of_some _ ho₁, rfl⟩ ?_))
    rw [if_pos (by rfl)]
    refine wpAny_bind (wpAny_rule ?_)
    refine wpAny_bind ?_
    show wpAny _ A.in1 (updateSeq s.heap.objs.size (·.push .none) >>= fun _ => updateSeq s.heap.objs.size (·.pop)) _ _ _
    have hI : (s.heap.push { cls := .type "list", data := .seq ([] : List Value).toArray }).objs.size = s.heap.objs.size + 1 := Heap.size_push ..
    have g0 : ((s.heap.push { cls := .type "list", data := .seq ([] : List Value).toArray }).push (siO (rawInt 0) 0 es.size ep a)).get? (s.heap.push { cls := .type "list", data := .seq ([] : List Value).toArray }).objs.size = some (siO (rawInt 0) 0 es.size ep a) := Heap.get?_push_size _ rfl
    obtain ⟨items, hM, hperm⟩ : ∃ items, SiM w.params a (s.heap.push { cls := .type "list", data := .seq ([] : List Value).toArray }).objs.size a es ep t items 0 ((s.heap.push { cls := .type "list", data := .seq ([] : List Value).toArray }).push (siO (rawInt 0) 0 es.size ep a)) ∧ items.Perm (es.toList.map (·.2)) := by
      cases hbt : byText w.params with
      | true => exact ⟨_, .inl ⟨hbt, rfl, g0⟩, (pick_perm _ es).map _⟩
      | false =>
        have hl : t.led = true := by rw [hled, hbt]; rfl
        rw [hbt] at hb
        have hsz : ¬ es.size > 1 := fun q => by
          rw [hpl (by omega), decide_eq_true q] at hb
          cases hb
        by_cases h0 : es.size = 0
        · have e0 : es = #[] := Array.eq_empty_of_size_eq_zero h0
          subst e0
          exact ⟨[], .inr (.inr (.inl ⟨hbt, hl, rfl, rfl, g0⟩)), .nil⟩
        · have h1 : es.size = 1 := by omega
          obtain ⟨e, he⟩ : ∃ e, es = #[e] := ⟨es[0], by
            apply Array.ext
            · simpa using h1
            · intro i h2 h3
              have : i = 0 := by omega
              subst this; rfl⟩
          have hps : t.place.size = 1 := by
            unfold SetTable.fits at hf
            rw [Bool.and_eq_true, beq_iff_eq] at hf
            rw [hf.1, h1]
          obtain ⟨p, hp⟩ : ∃ p, t.place = #[p] := ⟨t.place[0], by
            apply Array.ext
            · simpa using hps
            · intro i h2 h3
              have : i = 0 := by omega
              subst this; rfl⟩
          rw [h1] at g0
          refine ⟨[e.2], .inr (.inr (.inr ⟨e, p, hbt, hl, he, hp, rfl, ?_⟩)), ?_⟩
          · rw [he]; exact g0
          · rw [he]; exact .refl _
    have hS₁' := hk₂ (siO (rawInt 0) 0 es.size ep a) _ _ hS₁
    refine wpAny_bind (wpAny_updateSeq hS₁' rfl ?_)
    have hS₂ := Heap.get?_update_self (Obj.mapSeq (·.push Value.none)) hS₁' rfl
    refine wpAny_updateSeq hS₂ rfl ?_
    have hS₃ := Heap.get?_update_self (Obj.mapSeq (·.pop)) hS₂ rfl
    have oth : ∀ b o, b ≠ s.heap.objs.size → ((s.heap.push { cls := .type "list", data := .seq ([] : List Value).toArray }).push (siO (rawInt 0) 0 es.size ep a)).get? b = some o →
        ((((s.heap.push { cls := .type "list", data := .seq ([] : List Value).toArray }).push (siO (rawInt 0) 0 es.size ep a)).update s.heap.objs.size (Obj.mapSeq (·.push Value.none))).update s.heap.objs.size (Obj.mapSeq (·.pop))).get? b = some o :=
      fun b o hb e => (Heap.get?_update_other _ _ (Ne.symm hb)).trans ((Heap.get?_update_other _ _ (Ne.symm hb)).trans e)
    have hIS : s.heap.objs.size ≠ (s.heap.push { cls := .type "list", data := .seq ([] : List Value).toArray }).objs.size := by rw [hI]; exact Nat.ne_of_lt (Nat.lt_succ_self _)
    have haI : a ≠ (s.heap.push { cls := .type "list", data := .seq ([] : List Value).toArray }).objs.size := by rw [hI]; exact Nat.ne_of_lt (Nat.lt_succ_of_lt haN)
    refine wpAny_pure ⟨plainId_quiet PySem.F.plain_extend_loop _, fs_loop (T := a) hh hf haI hIS hSa hSa (hpsz items hperm) (oth _ _ (Ne.symm hSa) (hk₂ _ _ _ ho₁)) ?_ hS₃ fun h' tk c' hk' hS' => ?_⟩
    · rcases hM with ⟨q1, q2, g⟩ | ⟨ys, q1, q2, g, gT, q3⟩ | ⟨q1, q2, q3, q4, g⟩ | ⟨e, p, q1, q2, q3, q4, q5, g⟩
      · exact .inl ⟨q1, q2, oth _ _ (Ne.symm hIS) g⟩
      · exact .inr (.inl ⟨ys, q1, q2, oth _ _ (Ne.symm hIS) g, oth _ _ (Ne.symm hSa) gT, q3⟩)
      · exact .inr (.inr (.inl ⟨q1, q2, q3, q4, oth _ _ (Ne.symm hIS) g⟩))
      · exact .inr (.inr (.inr ⟨e, p, q1, q2, q3, q4, q5, oth _ _ (Ne.symm hIS) g⟩))
    · show wpAny _ A (load s.heap.objs.size >>= _) _ _ _
      refine wpAny_bind (wpAny_load hS' ?_)
      refine wpAny_pure (h h' tk _ _ (fun b o e => ?_) hperm)
      have hb : b < s.heap.objs.size := Heap.lt_size e
      exact hk' b o (Nat.ne_of_lt hb) (by rw [hI]; exact Nat.ne_of_lt (Nat.lt_succ_of_lt hb)) (oth _ _ (Nat.ne_of_lt hb) (hk₂ _ _ _ (Heap.get?_push_of_some _ e)))
  · have k₂ : ∀ b o, (s.heap.push { cls := .type "list", data := .seq ([] : List Value).toArray }).get? b = some o → (((s.heap.push { cls := .type "list", data := .seq ([] : List Value).toArray }).push (tupO (ys.map fun (i : Nat) => rawInt i))).push (siO (.ref (s.heap.push { cls := .type "list", data := .seq ([] : List Value).toArray }).objs.size) 0 es.size ep a)).get? b = some o := fun b o e => Heap.get?_push_of_some _ (Heap.get?_push_of_some _ e)
    refine wpAny_bind (wpAny_holding (fs_hint ⟨_, k₂ _ _ ho₁, rfl⟩ ?_))
    rw [if_pos (by rfl)]
    refine wpAny_bind (wpAny_rule ?_)
    refine wpAny_bind ?_
    show wpAny _ A.in1 (updateSeq s.heap.objs.size (·.push .none) >>= fun _ => updateSeq s.heap.objs.size (·.pop)) _ _ _
    have hI : (s.heap.push { cls := .type "list", data := .seq ([] : List Value).toArray }).objs.size = s.heap.objs.size + 1 := Heap.size_push ..
    have gT : (((s.heap.push { cls := .type "list", data := .seq ([] : List Value).toArray }).push (tupO (ys.map fun (i : Nat) => rawInt i))).push (siO (.ref (s.heap.push { cls := .type "list", data := .seq ([] : List Value).toArray }).objs.size) 0 es.size ep a)).get? (s.heap.push { cls := .type "list", data := .seq ([] : List Value).toArray }).objs.size = some (tupO (ys.map fun (i : Nat) => rawInt i)) := Heap.get?_push_of_some _ (Heap.get?_push_size _ rfl)
    have g0 : (((s.heap.push { cls := .type "list", data := .seq ([] : List Value).toArray }).push (tupO (ys.map fun (i : Nat) => rawInt i))).push (siO (.ref (s.heap.push { cls := .type "list", data := .seq ([] : List Value).toArray }).objs.size) 0 es.size ep a)).get? ((s.heap.push { cls := .type "list", data := .seq ([] : List Value).toArray }).objs.size + 1) = some (siO (.ref (s.heap.push { cls := .type "list", data := .seq ([] : List Value).toArray }).objs.size) 0 es.size ep a) := by
      have : ((s.heap.push { cls := .type "list", data := .seq ([] : List Value).toArray }).push (tupO (ys.map fun (i : Nat) => rawInt i))).objs.size = (s.heap.push { cls := .type "list", data := .seq ([] : List Value).toArray }).objs.size + 1 := Heap.size_push ..
      rw [← this]; exact Heap.get?_push_size _ rfl
    have hperm : (ys.map fun j => (es.getD j (0, Value.none)).2).Perm (es.toList.map (·.2)) := by
      refine (hp.map _).trans ?_
      have e1 : (fun j => (es.getD j (0, Value.none)).2) = (fun e : Int × Value => e.2) ∘ fun j => es.getD j (0, Value.none) := rfl
      rw [e1, ← List.map_map, range_getD]
    have hS₁' := k₂ _ _ hS₁
    refine wpAny_bind (wpAny_updateSeq hS₁' rfl ?_)
    have hS₂ := Heap.get?_update_self (Obj.mapSeq (·.push Value.none)) hS₁' rfl
    refine wpAny_updateSeq hS₂ rfl ?_
    have hS₃ := Heap.get?_update_self (Obj.mapSeq (·.pop)) hS₂ rfl
    have oth : ∀ b o, b ≠ s.heap.objs.size → (((s.heap.push { cls := .type "list", data := .seq ([] : List Value).toArray }).push (tupO (ys.map fun (i : Nat) => rawInt i))).push (siO (.ref (s.heap.push { cls := .type "list", data := .seq ([] : List Value).toArray }).objs.size) 0 es.size ep a)).get? b = some o →
        (((((s.heap.push { cls := .type "list", data := .seq ([] : List Value).toArray }).push (tupO (ys.map fun (i : Nat) => rawInt i))).push (siO (.ref (s.heap.push { cls := .type "list", data := .seq ([] : List Value).toArray }).objs.size) 0 es.size ep a)).update s.heap.objs.size (Obj.mapSeq (·.push Value.none))).update s.heap.objs.size (Obj.mapSeq (·.pop))).get? b = some o :=
      fun b o hb e => (Heap.get?_update_other _ _ (Ne.symm hb)).trans ((Heap.get?_update_other _ _ (Ne.symm hb)).trans e)
    have hIS : s.heap.objs.size ≠ (s.heap.push { cls := .type "list", data := .seq ([] : List Value).toArray }).objs.size + 1 := by rw [hI]; omega
    have hTS : s.heap.objs.size ≠ (s.heap.push { cls := .type "list", data := .seq ([] : List Value).toArray }).objs.size := by rw [hI]; exact Nat.ne_of_lt (Nat.lt_succ_self _)
    have haI : a ≠ (s.heap.push { cls := .type "list", data := .seq ([] : List Value).toArray }).objs.size + 1 := by rw [hI]; exact Nat.ne_of_lt (Nat.lt_succ_of_lt (Nat.lt_succ_of_lt haN))
    refine wpAny_pure ⟨plainId_quiet PySem.F.plain_extend_loop _, fs_loop (T := (s.heap.push { cls := .type "list", data := .seq ([] : List Value).toArray }).objs.size) hh hf haI hIS hSa hTS (hpsz _ hperm) (oth _ _ (Ne.symm hSa) (k₂ _ _ ho₁))
      (.inr (.inl ⟨ys, hp, rfl, oth _ _ (Ne.symm hIS) g0, oth _ _ (Ne.symm hTS) gT, Nat.ne_of_lt (Nat.lt_succ_self _)⟩)) hS₃ fun h' tk c' hk' hS' => ?_⟩
    show wpAny _ A (load s.heap.objs.size >>= _) _ _ _
    refine wpAny_bind (wpAny_load hS' ?_)
    refine wpAny_pure (h h' tk d _ (fun b o e => ?_) hperm)
    have hb : b < s.heap.objs.size := Heap.lt_size e
    exact hk' b o (Nat.ne_of_lt hb) (by rw [hI]; exact Nat.ne_of_lt (Nat.lt_succ_of_lt (Nat.lt_succ_of_lt hb))) (oth _ _ (Nat.ne_of_lt hb) (k₂ _ _ (Heap.get?_push_of_some _ e)))
end
end Rk
end
section
open PySem PySem.W PyProof.Rows PySem.Calls PySem.Spec
set_option maxRecDepth 100000
set_option linter.unusedVariables false
namespace Rk
theorem lsortV {prog : Program} {w : World} {A : Around} {E : Value → Shared → Prop} {s : Shared} {h₀ : Heap} {L D : Addr} {m : Str → Option Value} {news : Led} {fro : Led} {xs ys : List V} {vs : List Value} {Q : Shared → Prop} (F : Fr h₀ L s.heap m) (N : News h₀ L s.heap ((D, listOf vs.toArray 0) :: news)) (hn : ∀ p ∈ news, p.1 ≠ D)
    (hfro : ∀ p ∈ fro, p ∈ news) (r : VReps fro xs vs) (e : sort2 xs = some ys) (h : ∀ h' vs' c, Fr h₀ L h' m → News h₀ L h' ((D, listOf vs'.toArray c) :: news) → VReps fro ys vs' → vs'.length = vs.length → Q { s with heap := h' }) :
    wpAny (model prog w) A (call (.builtin "list.sort") [.ref D] []) (fun _ s' => Q s') E s := by
  unfold sort2 at e
  split at e
  · cases e
    cases r
    exact lsort_small F N hn (by simp) fun h' c F' N' => h h' [] c F' N' .nil rfl
  · cases e
    cases r with | cons r1 r => cases r with | nil =>
    exact lsort_small F N hn (by simp) fun h' c F' N' => h h' _ c F' N' (.cons r1 .nil) rfl
  · rename_i x y
    cases r with | cons r1 r => cases r with | cons r2 r => cases r with | nil =>
    rename_i u v
    split at e
    · rename_i hlt
      cases e
      refine lsort_two F N hn hfro r1 r2 hlt fun h' c F' N' => h h' [v, u] c F' (by simpa using N') (.cons r2 (.cons r1 .nil)) rfl
    · rename_i hlt
      cases e
      refine lsort_two F N hn hfro r1 r2 hlt fun h' c F' N' => h h' [u, v] c F' (by simpa using N') (.cons r1 (.cons r2 .nil)) rfl
    · cases e
  · cases e
def setOrder2 : List Str → Option (List V)
  | [] => some []
  | [k] => (match PyData.strOk k && fitsN k.length with
    | true => some [.str k]
    | false => none)
  | [k1, k2] => (match PyData.strOk k1 && fitsN k1.length && (PyData.strOk k2 && fitsN k2.length), decide (k1.cps.toList < k2.cps.toList), decide (k2.cps.toList < k1.cps.toList) with
    | true, true, false => some [.str k1, .str k2]
    | true, false, true => some [.str k2, .str k1]
    | _, _, _ => none)
  | _ => none
/-- sorted -/
def sortedE (p : PV) (σ : St) : Out PV := match p with
  | .v (.list xs) => vO ((sort2 xs).map .list) σ
  | .fset ks => vO ((setOrder2 ks).map .list) σ
  | _ => .no
section
variable {G : Pg} {F : Fn} {X : Cx G F} {W : Wd} {σ : St}
theorem sorted_core {s : Shared} {m : Str → Option Value} {news : Led} (I : InvX X W σ s m news) {v : Value} {ys : List V} {Q : Value → Shared → Prop} {E : Value → Shared → Prop}
    (hcol : ∀ (Q' : List Value → Shared → Prop), (∀ (h' : Heap) (tk : Nat) (d : Drawn) (xs : List V) (vs : List Value), (∀ b o, s.heap.get? b = some o → h'.get? b = some o) → VReps W.fro xs vs → vs.length ≤ sizeLine → sort2 xs = some ys → Q' vs { s with heap := h', toks := tk, drawn := d }) →
      wpAny X.M X.A.in1 (collect v) Q' E s)
    (h : ∀ a s' W' news', W.Le W' → Rep W' (.v (.list ys)) a → InvX X W' σ s' m news' → Q a s') : wpAny X.M X.A (call (.builtin "sorted") [v] []) Q E s := by
  refine Calls.call_function_entry kind_sorted plain_sorted entry_sorted (args_sorted1 _) ?_
  unfold Builtin.«sorted»
  refine wpAny_bind (m := checkCount "sorted" 1 1 _) (wpAny_pure ?_)
  refine wpAny_bind (hcol _ fun h₁ tk d xs vs hk r hz hs => ?_)
  refine wpAny_bind (wpAny_newList ?_ hz)
  have J : InvX X W σ { s with heap := h₁, toks := tk, drawn := d } m news := ⟨I.fr.keeps hk, fun p hp => ⟨hk _ _ (I.nw p hp).1, (I.nw p hp).2⟩, I.nd, I.hr, I.loc, I.os, I.gens, I.P⟩
  have F' := J.fr.push (listOf vs.toArray 0)
  have N' := J.nw.push J.fr (listOf vs.toArray 0)
  refine wpAny_bind (wpAny_holding ?_)
  refine lsortV (A := X.A.in1) (news := news) (D := h₁.objs.size) F' N' (fun p hp => Nat.ne_of_lt (Heap.lt_size (J.nw p hp).1)) I.hr.fro r hs fun h' vs' c F₂ N₂ r' hl => ?_
  refine wpAny_pure ⟨_, rfl, ?_⟩
  have le : W.Le ⟨W.mu, (h₁.objs.size, listOf vs'.toArray c) :: W.fro, W.ex, W.P⟩ := ⟨fun _ _ e => e, fun p hp => .tail _ hp, rfl, rfl⟩
  obtain ⟨R, _⟩ := J.hr.addFros (led := [(h₁.objs.size, listOf vs'.toArray c)]) (fun p hp q hq => by
    rw [List.mem_singleton] at hp
    subst hp
    exact Nat.ne_of_lt (Heap.lt_size (J.nw q hq).1))
  refine h _ _ ⟨W.mu, (h₁.objs.size, listOf vs'.toArray c) :: W.fro, W.ex, W.P⟩ ((h₁.objs.size, listOf vs'.toArray c) :: news) le (.v (.lst (.head _) (r'.up le.kp) (by rw [hl]; exact hz))) ⟨F₂, N₂, ?_, R, fun x p e => ?_, I.os, I.gens, I.P⟩
  · rw [List.map_cons, List.nodup_cons]
    refine ⟨fun q => ?_, I.nd⟩
    obtain ⟨p, hp, e⟩ := List.mem_map.mp q
    exact absurd (Heap.lt_size (J.nw p hp).1) (by rw [e]; exact Nat.lt_irrefl _)
  · obtain ⟨v, hv, r⟩ := I.loc x p e
    exact ⟨v, hv, r.up le⟩
theorem perm_two {α : Type} {a b : α} {l : List α} (h : l.Perm [a, b]) : l = [a, b] ∨ l = [b, a] := by
  match l, h with
  | [], h => exact absurd h.length_eq (by simp)
  | [_], h => exact absurd h.length_eq (by simp)
  | _ :: _ :: _ :: _, h => exact absurd h.length_eq (by simp)
  | [x, y], h =>
    have hx : x = a ∨ x = b := by simpa using (h.mem_iff (a := x)).mp (by simp)
    rcases hx with rfl | rfl
    · have := h.cons_inv
      have := List.perm_singleton.mp this
      exact .inl (by rw [this])
    · have h' := (h.trans (List.Perm.swap x a [])).cons_inv
      have := List.perm_singleton.mp h'
      exact .inr (by rw [this])
theorem sortedE_sat (ok : X.Ok) {p : PV} {v : Value} (rp : Rep W p v) : Sat X W (call (.builtin "sorted") [v] []) σ (sortedE p σ) := by
  intro hn
  unfold sortedE at hn ⊢
  split at hn
  · rename_i xs
    cases hs : sort2 xs with
    | none => rw [hs] at hn; exact (hn rfl).elim
    | some ys =>
      cases rp with | v r => cases r with | @lst _ vs a n hm hr hz =>
      refine Sat.mk (H' := σ.H) rfl (fun s m news I Q h => ?_) (by intro h; cases h)
      refine sorted_core I (fun Q' hq => ?_) fun a s' W' news' le r J => h a s' W' m news' le r J
      exact collect_list (isList_of I (I.hr.fro _ hm)) (hq _ s.toks s.drawn xs vs (fun b o e => by
        rw [Heap.get?_update_ne _ _ _ _ (Nat.ne_of_lt (Heap.lt_size e))]
        exact Heap.get?_push_of_some _ e) hr hz hs) hz
  · rename_i ks
    cases hs : setOrder2 ks with
    | none => rw [hs] at hn; exact (hn rfl).elim
    | some ys =>
      cases rp with | @fset _ es n t a hm hr =>
      obtain ⟨L, hp, hL, hnd, hf, hled, hpl⟩ := hr
      refine Sat.mk (H' := σ.H) rfl (fun s m news I Q h => ?_) (by intro h; cases h)
      refine sorted_core I (fun Q' hq => ?_) fun a s' W' news' le r J => h a s' W' m news' le r J
      have hlen : es.size = ks.length := by rw [← Array.length_toList, hp.length_eq, List.length_map, ← hL, List.length_map]
      have hLl : L.length = ks.length := by rw [← hL, List.length_map]
      have hk2 : ks.length ≤ 2 := by
        unfold setOrder2 at hs
        split at hs
        · simp
        · simp
        · simp
        · cases hs
      have hz : es.size ≤ sizeLine := by rw [hlen, sizeLine_eq]; omega
      have hP : byText X.w.params = W.P.followText "set-order" := by rw [I.P]; rfl
      refine fs_collect (prog := G.p) (A := X.A.in1) (show X.A.in1.handled = none from ok.handled) (I.get (I.hr.fro _ hm)) hf hz (by rw [hled, hP]) (fun q => hpl (by rw [hLl, ← hlen]; exact q)) fun h' tk d vs hk hvs => ?_
      have hvp : vs.Perm (L.map fun y => Value.str y.1 y.2) := by
        refine hvs.trans ((hp.map _).trans ?_)
        rw [List.map_map]
        exact .refl _
      have one : ∀ (k : Str) (tk : Tok), (PyData.strOk k && fitsN k.length) = true → VRep W.fro (.str k) (.str k tk) := fun k tk hk => by
        rw [Bool.and_eq_true] at hk
        exact .str tk hk.1 (fitsN_le hk.2)
      unfold setOrder2 at hs
      split at hs
      · cases hs
        have : L = [] := List.eq_nil_of_length_eq_zero (by rw [hLl]; rfl)
        subst this
        have : vs = [] := List.Perm.eq_nil hvp
        subst this
        exact hq h' tk d [] [] hk .nil (Nat.zero_le _) rfl
      · rename_i k
        split at hs
        · rename_i hk1
          cases hs
          match L, hL, hvp with
          | [(k0, t0)], hL, hvp =>
            have e0 : k0 = k := by simpa using hL
            subst e0
            have := List.perm_singleton.mp hvp
            subst this
            exact hq h' tk d [.str k0] _ hk (.cons (one _ _ hk1) .nil) (by show 1 ≤ sizeLine; rw [sizeLine_eq]; omega) rfl
        · cases hs
      · rename_i k1 k2
        match L, hL, hvp with
        | [(a1, t1), (a2, t2)], hL, hvp =>
          obtain ⟨e1, e2⟩ : a1 = k1 ∧ a2 = k2 := by simpa using hL
          subst e1 e2
          have hz2 : 2 ≤ sizeLine := by rw [sizeLine_eq]; omega
          split at hs
          · rename_i c1 c2 c3
            cases hs
            rw [Bool.and_eq_true] at c1
            rcases perm_two hvp with e | e
            · subst e
              refine hq h' tk d [.str a1, .str a2] _ hk (.cons (one _ _ c1.1) (.cons (one _ _ c1.2) .nil)) hz2 ?_
              show (match some (decide (a2.cps.toList < a1.cps.toList)) with | some true => _ | some false => _ | none => _) = _
              rw [c3]
            · subst e
              refine hq h' tk d [.str a2, .str a1] _ hk (.cons (one _ _ c1.2) (.cons (one _ _ c1.1) .nil)) hz2 ?_
              show (match some (decide (a1.cps.toList < a2.cps.toList)) with | some true => _ | some false => _ | none => _) = _
              rw [c2]
          · rename_i c1 c2 c3
            cases hs
            rw [Bool.and_eq_true] at c1
            rcases perm_two hvp with e | e
            · subst e
              refine hq h' tk d [.str a1, .str a2] _ hk (.cons (one _ _ c1.1) (.cons (one _ _ c1.2) .nil)) hz2 ?_
              show (match some (decide (a2.cps.toList < a1.cps.toList)) with | some true => _ | some false => _ | none => _) = _
              rw [c3]
            · subst e
              refine hq h' tk d [.str a2, .str a1] _ hk (.cons (one _ _ c1.2) (.cons (one _ _ c1.1) .nil)) hz2 ?_
              show (match some (decide (a1.cps.toList < a2.cps.toList)) with | some true => _ | some false => _ | none => _) = _
              rw [c2]
          · cases hs
      · cases hs
  · exact (hn rfl).elim
end
end Rk
end
section
open PySem PySem.W PyProof.Rows PySem.Calls PySem.Spec
set_option maxRecDepth 100000
set_option linter.unusedVariables false
namespace Rk
section
variable {G : Pg} {F : Fn} {X : Cx G F} {W : Wd} {σ : St} {s : Shared} {m : Str → Option Value} {news : Led}
theorem InvX.exSub (I : InvX X W σ s m news) {e : Led} (h : ∀ p ∈ e, p ∈ W.ex) : InvX X (W.wx e) σ s m news := by
  have R := I.hr
  refine ⟨I.fr, I.nw, I.nd, ⟨R.len, R.nd, R.fro, fun p hp => R.exs p (h p hp), R.own, fun i x a hi hl ha => ?_, R.apart, fun b hb => ?_⟩, fun x p q => ?_, I.os, I.gens, I.P⟩
  · obtain ⟨o, ho, hx⟩ := R.at_ i x a hi hl ha
    exact ⟨o, ho, hx.wx⟩
  · obtain ⟨h1, h3, h4, h5⟩ := R.hol b hb
    exact ⟨h1, h3, h4, fun q hq => h5 q (h q hq)⟩
  · obtain ⟨v, hv, r⟩ := I.loc x p q
    exact ⟨v, hv, r.wx⟩
/-- another's object stays for good -/
theorem InvX.exFro {D : Addr} {o : Obj} (I : InvX X (W.plus D o) σ s m news) (hW : ∀ p ∈ W.ex, p.1 ≠ D) : InvX X ⟨W.mu, (D, o) :: W.fro, W.ex, W.P⟩ σ s m news ∧ W.Le ⟨W.mu, (D, o) :: W.fro, W.ex, W.P⟩ := by
  have le : W.Le ⟨W.mu, (D, o) :: W.fro, W.ex, W.P⟩ := ⟨fun _ _ e => e, fun p hp => .tail _ hp, rfl, rfl⟩
  have J := I.exSub (e := W.ex) (fun p hp => .tail _ hp)
  have R := J.hr
  obtain ⟨e1, e2, e3⟩ := I.hr.exs (D, o) (.head _)
  refine ⟨⟨I.fr, I.nw, I.nd, ⟨R.len, R.nd, fun p hp => ?_, fun p hp => ⟨(R.exs p hp).1, (R.exs p hp).2.1, fun q hq => ?_⟩, R.own, fun i x a hi hl ha => ?_, fun i x a hi hl ha p hp => ?_, fun b hb => ?_⟩, fun x p q => ?_, I.os, I.gens, I.P⟩, le⟩
  · rcases List.mem_cons.mp hp with rfl | hp
    · exact e1
    · exact R.fro p hp
  · rcases List.mem_cons.mp hq with rfl | hq
    · exact fun e => hW p hp e.symm
    · exact (R.exs p hp).2.2 q hq
  · obtain ⟨ob, ho, hx⟩ := R.at_ i x a hi hl ha
    exact ⟨ob, ho, hx.up le⟩
  · rcases List.mem_cons.mp hp with rfl | hp
    · exact fun e => e2 (e ▸ List.mem_of_getElem? ha)
    · exact R.apart i x a hi hl ha p hp
  · obtain ⟨h1, h3, h4, h5⟩ := R.hol b hb
    refine ⟨h1, h3, fun q hq => ?_, h5⟩
    rcases List.mem_cons.mp hq with rfl | hq
    · exact (I.hr.hol b hb).2.2.2 _ (.head _)
    · exact h4 q hq
  · obtain ⟨v, hv, r⟩ := J.loc x p q
    exact ⟨v, hv, r.up le⟩
end
def keepB (b : Bool) (x : V) (ys : List V) : List V := match b with
  | true => ys
  | false => x :: ys
/-- the test is a def's answer -/
def filterE (E : Ev) (a : Addr) : List V → St → Out (List V)
  | [], σ => .ok [] σ
  | x :: r, σ => match E.fn a [.v x] σ with
    | .ok q σ1 => (match truE σ1.H q with
      | some b => (match filterE E a r σ1 with
        | .ok ys σ2 => .ok (keepB b x ys) σ2
        | _ => .no)
      | none => .no)
    | _ => .no
def lcScope (scope : Scope) : Bool := scope.kind == .function && scope.names.all (fun x => !(x.2 == .cell) && !(x.2 == .free)) && scope.names.all fun y => !(y.2 == .local) || scope.names.lookup y.1 == some .local
def lcOk (F : Fn) (y z x f : Str) (scope : Scope) : Bool :=
  y == x && z == x && !(x == ("__debug__" : Str)) && !(f == ("__debug__" : Str)) && lcScope scope && scope.names.lookup x == some .local && scope.names.lookup f == some .globalImplicit
def lcFin (E : Ev) (a : Addr) (p : PV) (σ : St) : Out PV := match p with
  | .v (.list xs) => (match filterE E a xs σ with
    | .ok ys σ => .ok (.v (.list ys)) σ
    | _ => .no)
  | _ => .no
/-- [x for x in iter if not f(x)] -/
def lcE (T : Tb) (E : Ev) (F : Fn) (e : Expr) (σ : St) : Out PV := match e with
  | .ListComp (.Name y yp) [⟨.Name x xp, .Call ifn iargs ikw ipos, [.UnaryOp .Not (.Call (.Name f fp) [.Name z zp] [] cpos) up], 0⟩] scope pos =>
    (match lcOk F y z x f scope, T.globs.lookup f with
    | true, some (.ref a) => (match T.fns.lookup a with
      | some _ => (E.ev F (.Call ifn iargs ikw ipos) σ).bind fun p σ => lcFin E a p σ
      | none => .no)
    | _, _ => .no)
  | _ => .no
theorem relabel_id {scope : Scope} {env : Env} (h : ∀ x ∈ scope.names, x.2 ≠ .free) : relabel scope env = scope := by
  unfold relabel
  have : (scope.names.map fun (n, k) => if (k == .free && env.scope.kind == .function && env.kindOf n == some .cell) then (n, .cell) else (n, k)) = scope.names := by
    conv => rhs; rw [← List.map_id scope.names]
    apply List.map_congr_left
    rintro ⟨n, k⟩ hx
    have hk := h _ hx
    have : (k == NameKind.free) = false := by
      cases hk' : k <;> first | rfl | exact absurd hk' hk
    dsimp only
    rw [this]; rfl
  rw [this]
theorem filterE_len (E : Ev) (a : Addr) : ∀ (xs : List V) (σ : St) {ys : List V} {σ' : St}, filterE E a xs σ = .ok ys σ' → ys.length ≤ xs.length
  | [], σ, ys, σ', h => by cases h; exact Nat.le_refl _
  | x :: r, σ, ys, σ', h => by
    unfold filterE at h
    split at h
    · split at h
      · rename_i b hb
        split at h
        · rename_i ys' σ2 h2
          have := filterE_len E a r _ h2
          cases h
          cases b
          · show (x :: ys').length ≤ _
            simp only [List.length_cons]; omega
          · show ys'.length ≤ _
            simp only [List.length_cons]; omega
        · cases h
      · cases h
    · cases h
end Rk
end
section
open PySem PySem.W PyProof.Rows PySem.Calls PySem.Spec LCt LCg
set_option maxRecDepth 100000
set_option linter.unusedVariables false
namespace Rk
abbrev Wd.plus3 (W : Wd) (I : Addr) (oI : Obj) (D : Addr) (oD : Obj) (C : Addr) (oC : Obj) : Wd := ⟨W.mu, W.fro, (I, oI) :: (D, oD) :: (C, oC) :: W.ex, W.P⟩
section
variable {G : Pg} {F : Fn} {X : Cx G F} {W : Wd} {σ : St} {T : Tb} {E : Ev} {B : Xb}
theorem lc_loop (hf : FnSat X E) (O : AllOk G T B) (ok : X.Ok) {y x z f : Str} {yp xp zp fp cpos up pos : Pos} {iter : Expr} {scope : Scope} {a : Addr} {fi : FnI} {R : Result → Shared → Prop} {I D C ax : Addr} {xs : List V} {vs : List Value} {n : Nat}
    (hc : lcOk F y z x f scope = true) (hg : T.globs.lookup f = some (.ref a)) (hfn : T.fns.lookup a = some fi) (hID : I ≠ D) (hIC : I ≠ C) (hDC : D ≠ C) {W₁ : Wd} (hex : ∀ p ∈ W₁.ex, p.1 ≠ I ∧ p.1 ≠ D ∧ p.1 ≠ C)
    (hax : (ax, listOf vs.toArray n) ∈ W₁.fro) (hv : VReps W₁.fro xs vs) (hz : vs.length ≤ sizeLine) {σ₁ σF : St} {ysF : List V} (hF : filterE E a xs σ₁ = .ok ysF σF)
    (hR : ∀ W' zs s' m news oC mC nD, W₁.Le W' → InvX X ⟨W'.mu, W'.fro, (D, listOf zs.toArray nD) :: (C, oC) :: W'.ex, W'.P⟩ σF s' m news → NsObj oC mC → VReps W'.fro ysF zs → zs.length ≤ sizeLine → R (.ok .next) s')
    {s : Shared} {m : Str → Option Value} {news : Led} {oI oC : Obj} {mC : Str → Option Value} (J : InvX X (W₁.plus3 I oI D (listOf (List.toArray []) 0) C oC) σ₁ s m news) (hI : listIt ax 0 oI) (hC : NsObj oC mC) :
    codeAny X.M X.A (.compLoop (.ListComp (.Name y yp) [⟨.Name x xp, iter, [.UnaryOp .Not (.Call (.Name f fp) [.Name z zp] [] cpos) up], 0⟩] scope pos) 0 (.ref I) (.ref D) (compEnvC scope [] C X.env)) R s := by
  unfold lcOk lcScope at hc
  simp only [Bool.and_eq_true, beq_iff_eq, Bool.not_eq_true'] at hc
  obtain ⟨⟨⟨⟨⟨⟨c1, c2⟩, c3⟩, c4⟩, ⟨⟨k1, k2⟩, k3⟩⟩, c5⟩, c6⟩ := hc
  subst c1 c2
  have hfree : ∀ x ∈ scope.names, x.2 ≠ .free := fun x hx e => by
    have := List.all_eq_true.mp k2 x hx
    rw [e] at this
    revert this; decide
  have hrel : (compEnvC scope [] C X.env).scope = scope := relabel_id hfree
  have hkd : (compEnvC scope [] C X.env).scope.kind = .function := by rw [hrel]; exact k1
  have hlx : (compEnvC scope [] C X.env).scope.names.lookup z = some .local := by rw [hrel]; exact c5
  have hlf : (compEnvC scope [] C X.env).scope.names.lookup f = some .globalImplicit := by rw [hrel]; exact c6
  have hp : ((compEnvC scope [] C X.env).scope.kind == .class || ((compEnvC scope [] C X.env).scope.kind == .module && (compEnvC scope [] C X.env).locals != (compEnvC scope [] C X.env).globals)) = false := by rw [hkd]; rfl
  have hh : X.A.handled = none := ok.handled
  have hlen := hv.length
  refine codeAny_compLoop_tests (fun k s' => ∃ W' σ' i kept zs oI oC mC m news nD, W₁.Le W' ∧ InvX X (W'.plus3 I oI D (listOf zs.toArray nD) C oC) σ' s' m news ∧ listIt ax i oI ∧ NsObj oC mC ∧ VReps W'.fro kept zs ∧ zs.length ≤ i ∧ i ≤ xs.length ∧ k = xs.length + 1 - i ∧
      ∃ rest, filterE E a (xs.drop i) σ' = .ok rest σF ∧ kept ++ rest = ysF) ?_ (xs.length + 1)
    ⟨W₁, σ₁, 0, [], [], oI, oC, mC, m, news, 0, .refl, J, hI, hC, .nil, Nat.le_refl _, Nat.zero_le _, rfl, ysF, hF, rfl⟩
  rintro k s' ⟨W', σ', i, kept, zs, oI, oC, mC, m, news, nD, le, J, hI, hC, hk, hzi, hi, rfl, rest, hF', hcat⟩
  have exI := J.hr.exs (I, oI) (.head _)
  have exD := J.hr.exs (D, listOf zs.toArray nD) (.tail _ (.head _))
  have exC := J.hr.exs (C, oC) (.tail _ (.tail _ (.head _)))
  have hex' : ∀ p ∈ W'.ex, p.1 ≠ I ∧ p.1 ≠ D ∧ p.1 ≠ C := by rw [le.ex]; exact hex
  have hit : s'.heap.IsListIter I ax i := ⟨oI, J.get exI.1, hI.1, hI.2⟩
  have hl : s'.heap.IsList ax vs.toArray := isList_of J (J.hr.fro _ (le.kp _ hax))
  by_cases hlt : i < xs.length
  · have hltv : i < vs.length := by rw [hlen]; exact hlt
    obtain ⟨v, hvi, rv⟩ := hv.get (List.getElem?_eq_getElem hlt)
    refine wpAny_pyNext_list_item hit hl (x := v) (by simpa using hvi) fun h₁ hit₁ hs₁ => ?_
    obtain ⟨oI', gI', i1, i2⟩ := hit₁
    have J₁ := J.setEx (W := ⟨W'.mu, W'.fro, (D, listOf zs.toArray nD) :: (C, oC) :: W'.ex, W'.P⟩) s'.toks (fun p hp => by
      rcases List.mem_cons.mp hp with rfl | hp
      · exact Ne.symm hID
      · rcases List.mem_cons.mp hp with rfl | hp
        · exact Ne.symm hIC
        · exact (hex' p hp).1) hs₁ gI'
    have J₁' := J₁.exSub (e := (C, oC) :: (I, oI') :: (D, listOf zs.toArray nD) :: W'.ex) (fun p hp => by
      simp only [List.mem_cons] at hp ⊢
      rcases hp with h | h | h | h <;> simp [h])
    have gC₁ := J₁'.get (J₁'.hr.exs (C, oC) (.head _)).1
    refine wpAny_assign_Name (wpAny_storeName_local hlx (hC.ns gC₁) (fun h₃ hn₃ hs₃ => ?_) hp)
    obtain ⟨oC', gC', hC'⟩ := ns_obj hn₃
    have J₂ := J₁'.setEx (W := ⟨W'.mu, W'.fro, (I, oI') :: (D, listOf zs.toArray nD) :: W'.ex, W'.P⟩) (s'.toks + 1) (fun p hp => by
      rcases List.mem_cons.mp hp with rfl | hp
      · exact hIC
      · rcases List.mem_cons.mp hp with rfl | hp
        · exact hDC
        · exact (hex' p hp).2.2) hs₃ gC'
    have hd : xs.drop i = xs[i] :: xs.drop (i + 1) := List.drop_eq_getElem_cons hlt
    rw [hd] at hF'
    unfold filterE at hF'
    split at hF'
    rotate_left 1
    · cases hF'
    rename_i q σ1 hq
    split at hF'
    rotate_left 1
    · cases hF'
    rename_i b hb
    split at hF'
    rotate_left 1
    · cases hF'
    rename_i rest' σ2 hrest
    obtain ⟨hr1, hr2⟩ : keepB b xs[i] rest' = rest ∧ σ2 = σF := by cases hF'; exact ⟨rfl, rfl⟩
    subst hr2
    refine wpAny_tests_one ?_
    rw [arm_isTrue_UnaryOp]
    show wpAny X.M X.A (do let b ← isTrue (.Call (.Name f fp) [.Name z zp] [] cpos) (compEnvC scope [] C X.env) (eval (.Call (.Name f fp) [.Name z zp] [] cpos) (compEnvC scope [] C X.env)); return !b) _ _ _
    have teq : isTrue (.Call (.Name f fp) [.Name z zp] [] cpos) (compEnvC scope [] C X.env) (eval (.Call (.Name f fp) [.Name z zp] [] cpos) (compEnvC scope [] C X.env)) = (do let v ← eval (.Call (.Name f fp) [.Name z zp] [] cpos) (compEnvC scope [] C X.env); standAt cpos; holding [v] (truthy v)) := rfl
    rw [teq, call_arm (func := .Name f fp) rfl]
    refine wpAny_bind (wpAny_bind (wpAny_bind (Name_function_global hkd hlf (loadGlobal_global (env := compEnvC scope [] C X.env) ((topRead_of ok.top).g.keeps J₂.fr.keep) (mg_of ok.kin (topRead_of ok.top).g (O.tb.globs _ _ _ hg)) ?_) c4)))
    refine callWith_of (P := fun h => X.K.In h) (keywords := []) rfl (fun h hP => keeps_K (fn_keep O hfn) h hP) ?_
    refine evalArgs_plain (x := eval (.Name z zp) (compEnvC scope [] C X.env)) (rest := []) ?_
    show wpAny X.M X.A (do
      let v ← eval (.Name z zp) (compEnvC scope [] C X.env)
      let here ← (Pure.pure [v] : Sem (List Value))
      return here ++ (← holding here (spliced (backTo cpos [])))) _ _ _
    refine wpAny_bind (ldG (cenv := compEnvC scope [] C X.env) hn₃ (show (fun y => if y = z then some v else mC y) z = some v by simp) ?_ hkd hlx c3)
    show wpAny X.M X.A (holding [v] (spliced []) >>= fun vs => Pure.pure ([v] ++ vs)) _ _ _
    refine wpAny_bind (wpAny_holding (spliced_nil (wpAny_pure ?_)))
    refine ⟨J₂.k ok, ?_⟩
    have hcall := SatC.sat (hf (near_self ok) ⟨W'.mu, W'.fro, (C, oC') :: (I, oI') :: (D, listOf zs.toArray nD) :: W'.ex, W'.P⟩ σ' a [.v xs[i]] [v] (.cons (.v (rv.up le.kp)) .nil)) (by rw [hq]; intro h; cases h) _ ⟨m, _, J₂⟩
    refine wpAny_mono hcall (fun u s₃ ⟨W₃, q', σ3, le₃, e₃, rq, I₃⟩ => ?_) fun e s₃ ⟨c, ec, _⟩ => by rw [hq] at ec; cases ec
    rw [hq] at e₃
    cases e₃
    refine wpAny_bind (wpAny_standAt (wpAny_holding ?_))
    have htr := truE_sat (X := X) (σ := σ1) rq
    rw [hb] at htr
    refine wpAny_mono (htr (by intro h; cases h) s₃ I₃) (fun b' s₄ ⟨W₄, b'', σ4, le₄, e₄, rb, m₄, news₄, J₄⟩ => ?_) fun e s₃ ⟨c, ec, _⟩ => by cases ec
    cases e₄
    have rb : b = b' := rb
    subst rb
    refine wpAny_pure ?_
    have hex₄ : W₄.ex = (C, oC') :: (I, oI') :: (D, listOf zs.toArray nD) :: W'.ex := le₄.ex.trans le₃.ex
    have le' : W'.Le ⟨W₄.mu, W₄.fro, W'.ex, W₄.P⟩ := ⟨fun i a e => le₄.num i a (le₃.num i a e), fun p hp => le₄.kp p (le₃.kp p hp), rfl, le₄.P.trans le₃.P⟩
    have J₅ : InvX X ((⟨W₄.mu, W₄.fro, W'.ex, W₄.P⟩ : Wd).plus3 I oI' D (listOf zs.toArray nD) C oC') σ1 s₄ m₄ news₄ := J₄.exSub (e := (I, oI') :: (D, listOf zs.toArray nD) :: (C, oC') :: W'.ex) (fun p hp => by
      rw [hex₄]
      simp only [List.mem_cons] at hp ⊢
      rcases hp with h | h | h | h <;> simp [h])
    have hk₅ : VReps W₄.fro kept zs := hk.up le'.kp
    cases b with
    | true =>
      have e0 : rest' = rest := hr1
      subst e0
      simp only [Bool.not_true, Bool.false_eq_true, if_false]
      exact ⟨xs.length + 1 - (i + 1), by omega, _, σ1, i + 1, kept, zs, oI', oC', _, m₄, news₄, nD, le.trans le', J₅, ⟨i1, i2⟩, hC', hk₅, Nat.le_succ_of_le hzi, hlt, rfl, _, hrest, hcat⟩
    | false =>
      have e0 : xs[i] :: rest' = rest := hr1
      subst e0
      simp only [Bool.not_false, if_true]
      have gC₅ := J₅.get (J₅.hr.exs (C, oC') (.tail _ (.tail _ (.head _)))).1
      refine ldG (cenv := compEnvC scope [] C X.env) (hC'.ns gC₅) (show (fun y => if y = z then some v else mC y) z = some v by simp) ?_ hkd hlx c3
      have J₆ := J₅.exSub (e := (D, listOf zs.toArray nD) :: (I, oI') :: (C, oC') :: W'.ex) (fun p hp => by
        simp only [List.mem_cons] at hp ⊢
        rcases hp with h | h | h | h <;> simp [h])
      have gD := J₆.get (J₆.hr.exs (D, listOf zs.toArray nD) (.head _)).1
      refine append_at gD (fun h₅ hs₅ gD₅ => ?_) (by rw [List.size_toArray]; omega)
      have gD₅' : h₅.get? D = some (listOf (zs ++ [v]).toArray (nD + 1)) := by rw [gD₅]; simp
      have J₇ := J₆.setEx (W := ⟨W₄.mu, W₄.fro, (I, oI') :: (C, oC') :: W'.ex, W₄.P⟩) s₄.toks (fun p hp => by
        rcases List.mem_cons.mp hp with rfl | hp
        · exact hID
        · rcases List.mem_cons.mp hp with rfl | hp
          · exact Ne.symm hDC
          · exact (hex' p hp).2.1) hs₅ gD₅'
      have J₈ : InvX X ((⟨W₄.mu, W₄.fro, W'.ex, W₄.P⟩ : Wd).plus3 I oI' D (listOf (zs ++ [v]).toArray (nD + 1)) C oC') σ1 _ m₄ _ := J₇.exSub (e := (I, oI') :: (D, listOf (zs ++ [v]).toArray (nD + 1)) :: (C, oC') :: W'.ex) (fun p hp => by
        simp only [List.mem_cons] at hp ⊢
        rcases hp with h | h | h | h <;> simp [h])
      exact ⟨xs.length + 1 - (i + 1), by omega, _, σ1, i + 1, kept ++ [xs[i]], zs ++ [v], oI', oC', _, m₄, _, nD + 1, le.trans le', J₈, ⟨i1, i2⟩, hC', hk₅.append (.cons ((rv.up le.kp).up le'.kp) .nil), by rw [List.length_append, List.length_singleton]; exact Nat.succ_le_succ hzi, hlt, rfl, _, hrest, by rw [List.append_assoc]; exact hcat⟩
  · have e : i = xs.length := Nat.le_antisymm hi (Nat.not_lt.mp hlt)
    subst e
    rw [List.drop_length] at hF'
    have hF' : (.ok [] σ' : Out (List V)) = .ok rest σF := hF'
    cases hF'
    rw [List.append_nil] at hcat
    subst hcat
    refine wpAny_pyNext_list_end hh hit hl (by simp [hlen]) fun h₁ hs₁ => ?_
    have J₁ := J.dropEx (W := ⟨W'.mu, W'.fro, (D, listOf zs.toArray nD) :: (C, oC) :: W'.ex, W'.P⟩) s'.toks (fun p hp => by
      rcases List.mem_cons.mp hp with rfl | hp
      · exact Ne.symm hID
      · rcases List.mem_cons.mp hp with rfl | hp
        · exact Ne.symm hIC
        · exact (hex' p hp).1) hs₁
    exact hR W' zs _ m _ oC mC nD le J₁ hC hk (by omega)
/-- such a comprehension is what the reckoning says -/
theorem lcE_sat (S : Got X E) (hf : FnSat X E) (O : AllOk G T B) (ok : X.Ok) (e : Expr) : Sat X W (eval e X.env) σ (lcE T E F e σ) := by
  intro hn
  unfold lcE at hn ⊢
  split at hn
  rotate_left 1
  · exact (hn rfl).elim
  rename_i y yp x xp ifn iargs ikw ipos f fp z zp cpos up scope pos
  split at hn
  rotate_left 1
  · exact (hn rfl).elim
  rename_i a hc hg
  split at hn
  rotate_left 1
  · exact (hn rfl).elim
  rename_i fi hfn
  have hc' := hc
  unfold lcOk lcScope at hc'
  simp only [Bool.and_eq_true, beq_iff_eq, Bool.not_eq_true'] at hc'
  obtain ⟨⟨⟨⟨⟨⟨c1, c2⟩, c3⟩, c4⟩, ⟨⟨k1, k2⟩, k3⟩⟩, c5⟩, c6⟩ := hc'
  have hfree : ∀ x ∈ scope.names, x.2 ≠ .free := fun x hx e => by
    have := List.all_eq_true.mp k2 x hx
    rw [e] at this
    revert this; decide
  have hcell : ∀ x ∈ scope.names, x.2 ≠ .cell := fun x hx e => by
    have := List.all_eq_true.mp k2 x hx
    rw [e] at this
    revert this; decide
  have hnames : ∀ y ∈ scope.names, y.2 = .local → scope.names.lookup y.1 = some .local := fun y hy e => by
    have := List.all_eq_true.mp k3 y hy
    rw [e] at this
    simpa using this
  have hh : X.A.handled = none := ok.handled
  intro s I
  generalize hoo : ((E.ev F (.Call ifn iargs ikw ipos) σ).bind fun p σ => lcFin E a p σ) = oo at hn ⊢
  rw [eval_ListComp]
  refine wpAny_comprehension_free (use := none) rfl (fun _ => rfl) (closureFor_none hfree) k1 hnames ?_
  have hn0 : E.ev F (.Call ifn iargs ikw ipos) σ ≠ .no := fun h => hn (by rw [← hoo, h]; rfl)
  refine wpAny_mono (S.ev W σ (.Call ifn iargs ikw ipos) hn0 s I) (fun xv s₂ q => ?_) fun v s' ⟨c, e, q⟩ => ⟨c, by rw [← hoo, e]; rfl, q⟩
  obtain ⟨W₂, p, σ₂, le₂, e₂, rp, m₂, news₂, J₂⟩ := q
  have ho₂ : lcFin E a p σ₂ = oo := by rw [← hoo, e₂]; rfl
  unfold lcFin at ho₂
  split at ho₂
  rotate_left 1
  · exact (hn ho₂.symm).elim
  rename_i xs
  split at ho₂
  rotate_left 1
  · exact (hn ho₂.symm).elim
  · rename_i ys σF hF
    cases rp with | v r => cases r with | @lst _ vs ax n hm hr hz =>
    have hl := isList_of J₂ (J₂.hr.fro _ hm)
    have hN : ∀ p ∈ news₂, p.1 < s₂.heap.objs.size := fun p hp => Heap.lt_size (J₂.nw p hp).1
    refine wpAny_pyIter_list hl ?_
    have A₁ := J₂.addEx (it := s₂.heap.objs.size) (o := { cls := .type "list_iterator", data := .fields #[.ref ax, .int 0 0] }) s₂.toks J₂.ne (J₂.fr.push _) (J₂.nw.push J₂.fr _)
    refine wpAny_newObj_type ?_
    have A₂ := A₁.addEx (it := (s₂.heap.push { cls := .type "list_iterator", data := .fields #[.ref ax, .int 0 0] }).objs.size) (o := listOf (List.toArray []) 0) s₂.toks A₁.ne (A₁.fr.push _) (A₁.nw.push A₁.fr _)
    refine wpAny_newFunctionEnv hcell (by intro y hy; simp at hy) (fun h₁ hns₁ hsb₁ => ?_) k1
    obtain ⟨oC, gC, hC⟩ := ns_obj hns₁
    have hD : (s₂.heap.push { cls := .type "list_iterator", data := .fields #[.ref ax, .int 0 0] }).objs.size = s₂.heap.objs.size + 1 := Heap.size_push ..
    have hCs : ((s₂.heap.push { cls := .type "list_iterator", data := .fields #[.ref ax, .int 0 0] }).push (listOf (List.toArray []) 0)).objs.size = s₂.heap.objs.size + 1 + 1 := by rw [Heap.size_push, hD]
    have k₁ : ∀ b o, ((s₂.heap.push { cls := .type "list_iterator", data := .fields #[.ref ax, .int 0 0] }).push (listOf (List.toArray []) 0)).get? b = some o → h₁.get? b = some o := fun b o e => hsb₁.extBut b o (Nat.ne_of_lt (Heap.lt_size e)) (Heap.get?_push_of_some _ e)
    have F₁ := A₂.fr.keeps k₁
    have hCL : ((s₂.heap.push { cls := .type "list_iterator", data := .fields #[.ref ax, .int 0 0] }).push (listOf (List.toArray []) 0)).objs.size ≠ X.L := Nat.ne_of_gt (by rw [hCs]; exact Nat.lt_succ_of_lt (Nat.lt_succ_of_lt J₂.fr.ns.lt))
    have hC0 : X.h₀.get? ((s₂.heap.push { cls := .type "list_iterator", data := .fields #[.ref ax, .int 0 0] }).push (listOf (List.toArray []) 0)).objs.size = none := Heap.get?_none_of_le (Nat.le_trans J₂.fr.above (Nat.le_of_lt (by rw [hCs]; exact Nat.lt_succ_of_lt (Nat.lt_succ_of_lt J₂.fr.ns.lt))))
    have A₃ := A₂.addEx (it := ((s₂.heap.push { cls := .type "list_iterator", data := .fields #[.ref ax, .int 0 0] }).push (listOf (List.toArray []) 0)).objs.size) (o := oC) (h' := h₁) (s₂.toks + 0) A₂.ne F₁ (fun p hp => by
      rcases List.mem_cons.mp hp with rfl | hp
      · exact ⟨gC, hCL, hC0⟩
      · exact ⟨k₁ _ _ (A₂.nw p hp).1, (A₂.nw p hp).2⟩)
    have A₄ := A₃.exSub (e := (s₂.heap.objs.size, { cls := .type "list_iterator", data := .fields #[.ref ax, .int 0 0] }) :: ((s₂.heap.push { cls := .type "list_iterator", data := .fields #[.ref ax, .int 0 0] }).objs.size, listOf (List.toArray []) 0) :: (((s₂.heap.push { cls := .type "list_iterator", data := .fields #[.ref ax, .int 0 0] }).push (listOf (List.toArray []) 0)).objs.size, oC) :: W₂.ex) (fun p hp => by
      simp only [List.mem_cons] at hp ⊢
      rcases hp with h | h | h | h <;> simp [h])
    have hexlt : ∀ p ∈ W₂.ex, p.1 < s₂.heap.objs.size := fun p hp => hN p (J₂.hr.exs p hp).1
    have loop := lc_loop (W₁ := W₂) (R := compPost X.M X.A (EPO X oo) none (Post X W oo) (.ref (s₂.heap.push { cls := .type "list_iterator", data := .fields #[.ref ax, .int 0 0] }).objs.size) ((s₂.heap.push { cls := .type "list_iterator", data := .fields #[.ref ax, .int 0 0] }).push (listOf (List.toArray []) 0)).objs.size) (y := y) (yp := yp) (xp := xp) (fp := fp) (zp := zp) (cpos := cpos) (up := up) (pos := pos) (iter := .Call ifn iargs ikw ipos) (I := s₂.heap.objs.size) (D := (s₂.heap.push { cls := .type "list_iterator", data := .fields #[.ref ax, .int 0 0] }).objs.size) (C := ((s₂.heap.push { cls := .type "list_iterator", data := .fields #[.ref ax, .int 0 0] }).push (listOf (List.toArray []) 0)).objs.size) hf O ok hc hg hfn
      (by rw [hD]; exact Nat.ne_of_lt (Nat.lt_succ_self _)) (by rw [hCs]; exact Nat.ne_of_lt (Nat.lt_succ_of_lt (Nat.lt_succ_self _))) (by rw [hD, hCs]; exact Nat.ne_of_lt (Nat.lt_succ_self _))
      (fun p hp => ⟨Nat.ne_of_lt (hexlt p hp), by rw [hD]; exact Nat.ne_of_lt (Nat.lt_succ_of_lt (hexlt p hp)), by rw [hCs]; exact Nat.ne_of_lt (Nat.lt_succ_of_lt (Nat.lt_succ_of_lt (hexlt p hp)))⟩)
      hm hr hz hF (fun W' zs s' m' news' oC' mC' nD' le' J' hC' hzs hzl => ?_) A₄ ⟨rfl, rfl⟩ hC
    · have hit : Heap.IsListIter h₁ s₂.heap.objs.size ax 0 := ⟨_, k₁ _ _ (Heap.get?_push_of_some _ (Heap.get?_push_size _ rfl)), rfl, rfl⟩
      exact codeAny_compStart_list loop (wpAny_pyIter_listiter hit loop)
    · have J₁ := J'.exSub (e := (((s₂.heap.push { cls := .type "list_iterator", data := .fields #[.ref ax, .int 0 0] }).push (listOf (List.toArray []) 0)).objs.size, oC') :: ((s₂.heap.push { cls := .type "list_iterator", data := .fields #[.ref ax, .int 0 0] }).objs.size, listOf zs.toArray nD') :: W'.ex) (fun p hp => by
        simp only [List.mem_cons] at hp ⊢
        rcases hp with h | h | h <;> simp [h])
      refine ⟨mC', hC'.ns (J₁.get (J₁.hr.exs _ (.head _)).1), fun h' hs' => ?_⟩
      have hexW : ∀ p ∈ W'.ex, p.1 < s₂.heap.objs.size := by rw [le'.ex]; exact hexlt
      have J₃ := J₁.dropEx (W := ⟨W'.mu, W'.fro, ((s₂.heap.push { cls := .type "list_iterator", data := .fields #[.ref ax, .int 0 0] }).objs.size, listOf zs.toArray nD') :: W'.ex, W'.P⟩) s'.toks (fun p hp => by
        rcases List.mem_cons.mp hp with rfl | hp
        · rw [hD, hCs]; exact Nat.ne_of_lt (Nat.lt_succ_self _)
        · rw [hCs]; exact Nat.ne_of_lt (Nat.lt_succ_of_lt (Nat.lt_succ_of_lt (hexW p hp)))) hs'.extBut
      obtain ⟨J₄, le₄⟩ := J₃.exFro (W := W') (fun p hp => by rw [hD]; exact Nat.ne_of_lt (Nat.lt_succ_of_lt (hexW p hp)))
      exact ⟨_, .v (.list ys), σF, (le₂.trans le').trans le₄, ho₂.symm, .v (.lst (.head _) (hzs.up le₄.kp) hzl), m', _, J₄⟩
end
end Rk
end
section
open PySem PySem.W PyProof.Rows PySem.Calls PySem.Spec
set_option maxRecDepth 100000
namespace Rk
section
variable {prog : Program} {w : World} {A₀ : Around} {E : Value → Shared → Prop} {s' : Shared} {h₀ h : Heap} {outer : List Env} {L a e : Addr} {m : Str → Option Value} {name : Str} {scope : Scope} {cd : Value}
  {b₀ : Stmt} {suite : List Stmt} {pos np : Pos} {rest : List ExceptHandler} {Q : Flow → Shared → Prop} {KF : Frag} {C : Addr} {news : List (Addr × Obj)} {bmB : List Value} {newId : String}
  {p : Program} {loose : List Str} {mg mb : Str → Option Value} {x : Str}
/-- an own exception is caught, whatever it carries -/
theorem caught_R (K : Below A₀ h₀ outer h₀) (F : Fr h₀ L h m) (hsm : h.UpToSlots s'.heap) (R : RaisedN h₀ (envOf name scope L a cd :: outer) e (.ref C) news s'.heap)
    (X : KF.In h₀) (T : TopRead p loose mg mb h₀) (ex : nsIn KF mainGlobals x = some (some (.ref C))) (q : excIn KF C bmB newId = true) (hbase : bmB.contains (.type "BaseException") = true)
    (k : ∀ h', Fr h₀ L h' m → News h₀ L h' news → wpAny (model prog w) ((A₀.deeper (envOf name scope L a cd)).mark (some (.ref e))) (execs (b₀ :: suite) (envOf name scope L a cd)) Q E { s' with heap := h' })
    (hk : scope.kind = .function) (hx : (envOf name scope L a cd).kindOf x = some .globalImplicit) (hd : (x == ("__debug__" : Str)) = false)
    (hE : PassesOwnAt (model prog w) ((A₀.deeper (envOf name scope L a cd)).mark (some (.ref e))) (A₀.deeper (envOf name scope L a cd)) (envOf name scope L a cd) E) :
    wpAny (model prog w) (A₀.deeper (envOf name scope L a cd)) (noteFrame (.ref e) (envOf name scope L a cd))
      (fun _ s₂ => wpAny (model prog w) (A₀.deeper (envOf name scope L a cd)) (setFlight (.ref e) none) (fun _ s₃ =>
        wpAny (model prog w) (A₀.deeper (envOf name scope L a cd)) (handleBy (.ref e) (envOf name scope L a cd) (.ExceptHandler (some (.Name x np)) none (b₀ :: suite) pos :: rest)) Q E s₃) E s₂) E s' := by
  obtain ⟨B, a0, hB, hl, hfl⟩ := R
  have hL : B.get? L = none := by
    obtain ⟨_, ⟨L', _, hf, hn', _⟩, _⟩ := hfl.2.2.1
    obtain rfl : L = L' := Option.some.inj hf
    exact hn'
  refine wpAny_looks_onW (Around.frames_deeper K.stack) rfl hfl fun h₄ hheld₄ hsm₄ => ?_
  refine wpAny_landsW hheld₄ fun h₅ hheld hsm₅' => ?_
  have hsm₅ := hsm₄.trans hsm₅'
  have hheld' := flyingW_base hB hheld
  have F₅ := F.of_stays hheld'.1 (hsm.trans hsm₅)
  obtain ⟨ob, hob, hobc⟩ := hheld'.there
  refine wpAny_handleBy_cons (codeAny_handlers_test (name_K F₅ X T ex ?_ hk hx hd)) (by intro q; cases q)
  obtain ⟨bm, N, nm, qn, bs, hdct, sn, sub, ab, col, dd, k0, k1, k2, k3, k5, mN, hC, hN, hni, TL⟩ := ((own_of_in X T ex q).keeps F₅.keep).obj
  refine wpAny_excMatches_sub_self hC hob hobc (TL.hasType hbase) (codeAny_handlers_suite ?_)
  refine lands_againW hheld fun h₆ hfl₆ hsm₆ => ?_
  have F₆ := F.of_stays (flyingW_base hB hfl₆).1 ((hsm.trans hsm₅).trans hsm₆)
  exact wpAny_passesOwnAt hE (k h₆ F₆ fun q hq => ⟨hfl₆.1 _ _ (hl q hq).1, (fun z => by have := (hl q hq).1; rw [z, hL] at this; cases this), (hl q hq).2⟩)
end
end Rk
end
section
open PySem PySem.W PyProof.Rows PySem.Calls Mine
set_option maxRecDepth 100000
set_option maxHeartbeats 0
namespace Rk
section
variable {G : Pg}
theorem map1 {α β γ : Type} {f : α → γ} {g : β → γ} {l : List (α × β)} (h : l.map (fun q => f q.1) = l.map (fun q => g q.2)) {q : α × β} (hq : q ∈ l) : f q.1 = g q.2 := map_at (f := fun q : α × β => f q.1) (g := fun q => g q.2) h q hq
theorem mem_lookup {x : Str} {β : Type} {b : β} : ∀ {l : List (Str × β)}, l.lookup x = some b → (x, b) ∈ l
  | [], h => by cases h
  | (c, d) :: r, h => by
    rw [List.lookup_cons] at h
    cases hac : x == c with
    | true => rw [hac] at h; cases h; rw [eq_of_beq hac]; exact .head _
    | false => rw [hac] at h; exact .tail _ (mem_lookup h)
theorem two {α : Type} {a b c d : α} (h : [a, b] = [c, d]) : a = c ∧ b = d := by simpa using h
theorem clOk89 (hG : G.K = K02) : ClOk G 89 cl89 where
  cls := fun P => by rw [hG]; exact (two (c_cls P)).1
  get := fun P name => by rw [hG]; exact c_get P name
  attrs := fun P name h => by cases h
  setter := fun P => by rw [hG]; exact ⟨(two (c_set P)).1, (two (c_over P)).1⟩
  meths := fun P name f h => by cases h
  slots := fun P name k p h => by
    have hm := mem_lookup h
    rw [hG]
    have e : (name, k, p) = (Str.ofString "abstract", 1, 91) := by
      have := List.mem_singleton.mp hm
      exact this
    cases e
    have c := c_slot P
    simp only [Prod.mk.injEq] at c
    exact ⟨c.1, c.2.1, c.2.2.1, c.2.2.2.1, c.2.2.2.2.1, c.2.2.2.2.2, by omega⟩
  props := fun P name p g h => by
    have hm := mem_lookup h
    rw [hG]
    have e : (name, p, g) = (Str.ofString "tags", 85, 84) := List.mem_singleton.mp hm
    cases e
    have c := c_prop P
    simp only [Prod.mk.injEq] at c
    refine ⟨c.1, c.2.1, c.2.2.1, ?_⟩
    have c4 := c.2.2.2
    cases hr : recIn (K02 P) 85 "property" with
    | none => rw [hr] at c4; cases c4
    | some l =>
      rw [hr] at c4
      cases l with
      | nil => cases c4
      | cons x r => cases c4; exact ⟨r, rfl⟩
  cms := fun P name p f h => by
    have hm := mem_lookup h
    rw [hG]
    have e : (name, p, f) = (Str.ofString "parse", 70, 68) := List.mem_singleton.mp hm
    cases e
    have c := c_cm P
    simp only [Prod.mk.injEq] at c
    refine ⟨c.1, ⟨_, c.2.1, c.2.2.1, c.2.2.2.1⟩, ?_, c.2.2.2.2.2⟩
    have c4 := c.2.2.2.2.1
    cases hr : recIn (K02 P) 70 "classmethod" with
    | none => rw [hr] at c4; cases c4
    | some l =>
      rw [hr] at c4
      cases l with
      | nil => cases c4
      | cons x r => cases c4; exact ⟨r, rfl⟩
  make := fun P => by
    rw [hG]
    have c := c_make P
    simp only [List.cons.injEq] at c
    exact ⟨c.1, (two (c_init P)).1, c.2.2.1, c.2.2.2.2.1⟩
theorem clOk244 (hG : G.K = K02) : ClOk G 244 cl244 where
  cls := fun P => by rw [hG]; exact (two (c_cls P)).2
  get := fun P name => by rw [hG]; exact c_get' P name
  attrs := fun P name h => by
    rw [hG]
    have hm : name ∈ cl244.attrs := List.contains_iff_mem.mp h
    have c := map_at (f := fun n => (hasDictIn (K02 P) 244, (findIn (K02 P) (.ref 244) n).map (noGet (K02 P)), takerIn (K02 P) 244 n)) (g := fun _ => (true, some true, some none)) (c_attrs P) name hm
    simp only [Prod.mk.injEq] at c
    refine ⟨c.1, ?_, c.2.2⟩
    have c2 := c.2.1
    rw [Option.map_eq_some_iff] at c2
    exact c2
  setter := fun P => by rw [hG]; exact ⟨(two (c_set P)).2, (two (c_over P)).2⟩
  meths := fun P name f h => by
    rw [hG]
    have c := map_at (f := fun q : Str × Addr => (findIn (K02 P) (.ref 244) q.1, isFn (K02 P) (.ref q.2), keepIn (K02 P) (.ref q.2))) (g := fun q => (some (some (.ref q.2)), true, true)) (c_meths P) (name, f) (mem_lookup h)
    simp only [Prod.mk.injEq] at c
    exact ⟨c.1, c.2.1, c.2.2⟩
  slots := fun P name k p h => by cases h
  props := fun P name p g h => by cases h
  cms := fun P name p f h => by cases h
  make := fun P => by
    rw [hG]
    have c := c_make P
    simp only [List.cons.injEq] at c
    exact ⟨c.2.1, (two (c_init P)).2, c.2.2.2.1, c.2.2.2.2.2.1⟩
end
end Rk
end
section
open PySem PySem.W PyProof.Rows PySem.Calls Mine
set_option maxRecDepth 100000
set_option maxHeartbeats 400000
namespace Rk
theorem addP_perm (h : Int) (x : Value) (es : Array (Int × Value)) (ep : Nat) (t : SetTable) : (addP h x es ep t).1.toList.Perm (es.toList ++ [(h, x)]) := by
  have hp : (layNew t es h x).1.toList.Perm (es.toList ++ [(h, x)]) := by
    refine (layNew_perm t es h x).trans ?_
    rw [Array.toList_push]
  unfold addP
  dsimp only
  split
  · exact (relayAll_perm _ _ _).trans hp
  · exact hp
theorem addAll_perm {P : Params} : ∀ (xs : List (Str × Tok)) (r : Array (Int × Value) × Nat × SetTable), (addAll P xs r).1.toList.Perm (r.1.toList ++ strEs P xs)
  | [], r => by
    show r.1.toList.Perm (r.1.toList ++ [])
    rw [List.append_nil]
  | y :: xs, r => by
    refine (addAll_perm xs (addP (PyData.keyHash P y.1) (.str y.1 y.2) r.1 r.2.1 r.2.2)).trans ?_
    refine ((addP_perm _ _ _ _ _).append_right _).trans ?_
    rw [List.append_assoc]
    exact .refl _
theorem rV_perm' (P : Params) : (rV P).1.toList.Perm ((r0 P).1.toList ++ strEs P vars8) := by
  unfold rV
  exact addAll_perm vars8 (r0 P)
theorem rV_perm (P : Params) : (rV P).1.toList.Perm (strEs P vars8) := by
  have h := rV_perm' P
  have e : (r0 P).1.toList = [] := rfl
  rw [e, List.nil_append] at h
  exact h
theorem k107' (P : Params) (es : Array (Int × Value)) (ep : Nat) (t : SetTable) : (frag (absHeap ((hd.tree_612 P).set 107 (fun _ => setO es ep t)) 491 {})).lookup 107 = some (setO es ep t) := by kernel_rfl
theorem k107a (P : Params) : (K02 P).lookup 107 = (frag (absHeap ((hd.tree_612 P).set 107 (fun _ => setO (rV P).1 ((rV P).2.1 + 1) { (rV P).2.2 with led := false })) 491 {})).lookup 107 := by kernel_rfl
theorem k107 (P : Params) : (K02 P).lookup 107 = some (setO (rV P).1 ((rV P).2.1 + 1) { (rV P).2.2 with led := false }) := (k107a P).trans (k107' P (rV P).1 ((rV P).2.1 + 1) { (rV P).2.2 with led := false })
def names8 : List Str := vars8.map (·.1)
theorem lt8 {n : Nat} (h : n = 8) : n < scanBound := by subst h; decide
theorem setOf_gen {prog : Program} {P : Params} {h : Heap} {a : Addr} {es : Array (Int × Value)} {ep : Nat} {t : SetTable} {xs : List (Str × Tok)} (hg : h.get? a = some (setO es ep t)) (hp : es.toList.Perm (strEs P xs)) (hl : es.size < scanBound) (hf : t.fits es.size = true) {w : World} (hw : w.params = P) : h.SetOf (strKind prog w) a (fun x => (xs.map (·.1)).contains x) es.size := by
  subst hw
  refine ⟨_, _, _, _, hg, ⟨rfl, rfl, rfl⟩, rfl, (elems_str (prog := prog) xs).perm hp, fun k => ?_, hl, hf, rfl⟩
  show (xs.map (·.1)).contains k = true ↔ _
  rw [List.contains_iff_mem]
  constructor
  · intro hk
    obtain ⟨y, hy, rfl⟩ := List.mem_map.mp hk
    exact ⟨_, (hp.mem_iff).mpr (List.mem_map.mpr ⟨y, hy, rfl⟩), by show Value.isStrOf y.1 (.str y.1 y.2) = true; simp [Value.isStrOf]⟩
  · rintro ⟨e, he, q⟩
    obtain ⟨y, hy, rfl⟩ := List.mem_map.mp ((hp.mem_iff).mp he)
    obtain ⟨tk, q⟩ := Value.isStrOf_shape (show Value.isStrOf k (.str y.1 y.2) = true from q)
    injection q with q
    exact List.mem_map.mpr ⟨y, hy, q⟩
theorem vsz (P : Params) : (rV P).1.size = 8 := by
  rw [← Array.length_toList, (rV_perm P).length_eq, List.length_map]; rfl
theorem fit_led (t : SetTable) (n : Nat) (h : t.fits n = true) : ({ t with led := false } : SetTable).fits n = true := h
theorem vfit (w : World) : ({ (rV w.params).2.2 with led := false } : SetTable).fits (rV w.params).1.size = true := fit_led (rV w.params).2.2 (rV w.params).1.size rV_inv.fits
theorem set107 {prog : Program} {w : World} {h : Heap} (hK : (K02 w.params).In h) : h.SetOf (strKind prog w) 107 (fun x => names8.contains x) (rV w.params).1.size :=
  setOf_gen (es := (rV w.params).1) (ep := (rV w.params).2.1 + 1) (t := { (rV w.params).2.2 with led := false }) (xs := vars8) (hK _ _ (k107 w.params)) (rV_perm w.params) (lt8 (vsz w.params)) (vfit w) rfl
end Rk
end
section
open PySem PySem.W PyProof.Rows PySem.Calls Mine
set_option maxRecDepth 100000
set_option maxHeartbeats 400000
namespace Rk
noncomputable def mainB : List Stmt := PySem.Challenge.pw_nk0005_02.main.body
noncomputable def stN (i : Nat) : Stmt := mainB.getD i (.Pass default)
noncomputable def stC (i j : Nat) : Stmt := match stN i with
  | .ClassDef _ _ _ body .. => body.getD j (.Pass default)
  | _ => .Pass default
def fnQ (nm : Str) (a : Addr) (st : Stmt) (dfl : List (V × Value)) (mt keepR : Bool) : FnI := match st with
  | .FunctionDef _ args body _ _ _ scope .. => { nm := nm, scope := scope, cd := .ref a, names := args.args.map (·.arg), dfl := dfl, body := body, mt := mt, keepR := keepR }
  | _ => { nm := nm, scope := default, cd := .none, names := [], dfl := [], body := [], mt := false, keepR := false }
noncomputable def fnsQ : List (Addr × FnI) := [
  (127, fnQ (Str.ofString "test_next_token") 126 (stN 10) [(.none, .none)] false false), (135, fnQ (Str.ofString "skip_token") 134 (stN 11) [(.none, .none)] false false), (142, fnQ (Str.ofString "value_node") 141 (stN 12) [] false false), (149, fnQ (Str.ofString "ident_node") 148 (stN 13) [] false false),
  (156, fnQ (Str.ofString "range_list_node") 155 (stN 14) [] false false), (163, fnQ (Str.ofString "negate") 162 (stN 15) [] false false),
  (119, fnQ (Str.ofString "tokenize_rule") 118 (stN 9) [] true true),
  (177, fnQ (Str.ofString "_Parser.__init__") 176 (stC 16 0) [] false false), (185, fnQ (Str.ofString "_Parser.expect") 184 (stC 16 1) [(.none, .none), (.none, .none)] false false), (192, fnQ (Str.ofString "_Parser.condition") 191 (stC 16 2) [] false false), (199, fnQ (Str.ofString "_Parser.and_condition") 198 (stC 16 3) [] false false),
  (206, fnQ (Str.ofString "_Parser.relation") 205 (stC 16 4) [] false false), (213, fnQ (Str.ofString "_Parser.newfangled_relation") 212 (stC 16 5) [] false false), (220, fnQ (Str.ofString "_Parser.range_or_value") 219 (stC 16 6) [] false false), (227, fnQ (Str.ofString "_Parser.range_list") 226 (stC 16 7) [] true false),
  (234, fnQ (Str.ofString "_Parser.expr") 233 (stC 16 8) [] false false), (241, fnQ (Str.ofString "_Parser.value") 240 (stC 16 9) [] false false),
  (61, fnQ (Str.ofString "PluralRule.__init__") 60 (stC 5 1) [] true false), (68, fnQ (Str.ofString "PluralRule.parse") 67 (stC 5 2) [] false false), (84, fnQ (Str.ofString "PluralRule.tags") 83 (stC 5 4) [] false false),
  (443, fnQ (Str.ofString "_law_bases") 442 (stN 22) [] false false), (450, fnQ (Str.ofString "_law_words") 449 (stN 23) [] false false), (457, fnQ (Str.ofString "_law_values") 456 (stN 24) [] false false), (464, fnQ (Str.ofString "_law_parts") 463 (stN 25) [] true false),
  (471, fnQ (Str.ofString "_law_span") 470 (stN 26) [] false false), (476, fnQ (Str.ofString "_law_relation") 475 (stN 27) [] false false), (483, fnQ (Str.ofString "_law_taken") 482 (stN 28) [] false false), (490, fnQ (Str.ofString "law") 489 (stN 29) [] false false)]
theorem fnsQ_eq (P : Params) : fns02 P = fnsQ := by kernel_rfl
end Rk
end
section
open PySem PySem.W PyProof.Rows PySem.Calls Mine
set_option maxRecDepth 100000
set_option maxHeartbeats 400000
namespace Rk
def strV? : Value → Option Str
  | .str x _ => some x
  | _ => none
def namesV : List Value → Option (List Str)
  | [] => some []
  | v :: vs => match strV? v with
    | some x => (match namesV vs with
      | some xs => some (x :: xs)
      | none => none)
    | none => none
theorem namesV_reads {h : Heap} : ∀ {vs : List Value} {xs : List Str}, namesV vs = some xs → ReadsAll h vs (xs.map .str) []
  | [], xs, e => by cases e; exact .nil
  | v :: vs, xs, e => by
    cases v <;> try (cases e; done)
    rename_i x t
    unfold namesV at e
    simp only [strV?] at e
    cases hq : namesV vs with
    | none => rw [hq] at e; cases e
    | some ys =>
      rw [hq] at e; cases e
      exact ReadsAll.cons (as := []) (.str x t) (namesV_reads hq)
def strsO (o : Obj) : Option (List Str) := match o.data with
  | .seq vs _ => (match o.cls with
    | .type "tuple" => namesV vs.toList
    | _ => none)
  | _ => none
def strsIn (o : Option Obj) : Option (List Str) := match o with
  | some o => strsO o
  | none => none
theorem strsIn_reads {h : Heap} {K : Frag} (hK : K.In h) {a : Addr} {xs : List Str} (e : strsIn (K.lookup a) = some xs) : Reads h (.ref a) (.tuple (xs.map .str)) [] := by
  cases ho : K.lookup a with
  | none => rw [ho] at e; cases e
  | some o =>
    rw [ho] at e
    have hg := hK _ _ ho
    unfold strsIn strsO at e
    dsimp only at e
    split at e
    · rename_i vs n hd
      split at e
      · rename_i hc
        exact Reads.tuple hg hc hd (namesV_reads e)
      · cases e
    · cases e
def tags6 : List Str := ["zero", "one", "two", "few", "many", "other"]
theorem k46 (P : Params) : strsIn ((K02 P).lookup 46) = some tags6 := by kernel_rfl
theorem lookup1 {α β : Type} [BEq α] [LawfulBEq α] {a c : α} {x y : β} (e : [(a, y)].lookup c = some x) : c = a ∧ x = y := by
  rw [List.lookup_cons] at e
  cases h : c == a with
  | true => rw [h] at e; cases e; exact ⟨eq_of_beq h, rfl⟩
  | false => rw [h] at e; cases e
noncomputable def T02 : Tb :=
  { globs := globs02, bis := bis02, vals := [(46, .tuple (tags6.map .str))], sets := [(107, names8)], fns := fnsQ, clss := [(89, cl89), (244, cl244)], pat := some 112, rx := fun _ _ => none, N := 200 }
theorem T02_ok {G : Pg} (hG : G.K = K02) : TbOk G (T02) where
  globs := fun P x v e => by rw [hG]; exact globs02_ok P e
  bis := fun P x v e => bis02_ok P e |> fun h => by rw [hG]; exact h
  vals := fun P c x h e hK => by
    obtain ⟨rfl, rfl⟩ := lookup1 e
    rw [hG] at hK
    exact ⟨_, strsIn_reads hK (k46 P)⟩
  lay := fun c x e => by
    obtain ⟨rfl, rfl⟩ := lookup1 e
    kernel_rfl
  sets := fun w A E s x t Q c xs e hK h => by
    obtain ⟨rfl, rfl⟩ := lookup1 e
    rw [hG] at hK
    exact wpAny_inSet_of (knd := strKind G.p w) (k := x) (S := fun x => names8.contains x) (by show Value.isStrOf x (.str x t) = true; simp [Value.isStrOf]) rfl (set107 hK) h
  setsN := fun w A E s x t Q c xs e hK h => by
    obtain ⟨rfl, rfl⟩ := lookup1 e
    rw [hG] at hK
    exact wpAny_notInSet_of (knd := strKind G.p w) (k := x) (S := fun x => names8.contains x) (by show Value.isStrOf x (.str x t) = true; simp [Value.isStrOf]) rfl (set107 hK) h
theorem k112 (P : Params) : ((K02 P).lookup 112).map (fun o => (o.cls, o.dict)) = some (.type "re.Pattern", none) := by kernel_rfl
theorem P02_ok {G : Pg} (hG : G.K = K02) : PatOk G (T02) where
  obj := fun P c e => by
    cases e
    rw [hG]
    have h := k112 P
    cases ho : (K02 P).lookup 112 with
    | none => rw [ho] at h; cases h
    | some o =>
      rw [ho] at h
      have h := Option.some.inj h
      exact ⟨o, rfl, (Prod.mk.inj h).1, (Prod.mk.inj h).2⟩

noncomputable def B02 : Xb := { own := [("RuleError", 103)], bi := [("ValueError", "ValueError")] }
/-- the program's view that is enough here: the own exception alone -/
noncomputable def q1 : Program := view pw [0, 6]
noncomputable def loose1 : List Str := looseW q loose ++ ((recsOf q).map (·.name) ++ ((litsOf q).map (·.1) ++ (clssOf q (looseW q loose)).map (·.name)))
theorem spec02 : specOf q1 (Str.ofString "RuleError") = some ("Exception.__new__", [.type "Exception", .type "BaseException", .type "object"]) := by kernel_rfl
theorem B02_ok {G : Pg} (hq : G.q = q1) : XbOk G (T02) B02 where
  own := fun x C e => by
    obtain ⟨rfl, rfl⟩ := lookup1 e
    rw [hq]
    exact ⟨by kernel_rfl, _, _, _, _, F.excBase_Exception, spec02⟩
  bi := fun x t e => by
    obtain ⟨rfl, rfl⟩ := lookup1 e
    exact ⟨by kernel_rfl, _, _, F.excCall_ValueError, F.excRaise_ValueError⟩
noncomputable def G02 : Pg := ⟨pw, q1, loose1, K02⟩
theorem A02 (P₀ : Params) : AllOk G02 (T02) B02 where
  tb := T02_ok rfl
  pat := P02_ok rfl
  cls := fun C c e => by
    have e : [(89, cl89), (244, cl244)].lookup C = some c := e
    rw [List.lookup_cons] at e
    cases h : C == 89 with
    | true => rw [h] at e; cases e; rw [eq_of_beq h]; exact clOk89 rfl
    | false =>
      rw [h] at e
      obtain ⟨rfl, rfl⟩ := lookup1 e
      exact clOk244 rfl
  fns := fun a f e => fns02_ok rfl P₀ (by rw [fnsQ_eq]; exact e)
  xb := B02_ok rfl
end Rk
end
section
open PySem PySem.W PyProof.Rows PySem.Calls Mine
set_option maxRecDepth 100000
set_option maxHeartbeats 400000
namespace Rk
def flds (o : Option Obj) : Array Value := match o with
  | some o => (match o.data with
    | .fields vs => vs
    | .seq vs _ => vs
    | _ => #[])
  | none => #[]
def tokOf : Value → Tok
  | .int _ t => t
  | .str _ t => t
  | _ => 0
def intOf : Value → Int
  | .int i _ => i
  | _ => 0
def strOf : Value → Str
  | .str x _ => x
  | _ => ""
def boolOf : Value → Bool
  | .bool b => b
  | _ => false
noncomputable def fl (P : Params) (a : Addr) (i : Nat) : Value := (flds ((K02 P).lookup a)).getD i .none
noncomputable def code02 : List Int := match stN 8 with
  | .Assign _ (.Call _ (_ :: _ :: .List es _ :: _) _ _) _ => es.map fun e => match e with
    | .Constant (.int i) _ _ => i
    | _ => 0
  | _ => []
theorem pat112 (P : Params) : (K02 P).lookup 112 = some { cls := .type "re.Pattern", data := .fields #[fl P 112 0, fl P 112 1, .int (4 : Nat) (tokOf (fl P 112 2)), fl P 112 3, fl P 112 4, .ref 111, .int 0 (tokOf (fl P 112 6))] } := by kernel_rfl
theorem pat111 (P : Params) : (K02 P).lookup 111 = some { cls := .type "tuple", data := .seq ((code02).map fun i => Value.int i (tokOf (fl P 111 0))).toArray } := by kernel_rfl
theorem patAt02 {P : Params} {h : Heap} (hK : (K02 P).In h) : PatAt h 112 (code02) 4 := ⟨_, _, _, _, _, _, _, _, hK _ _ (pat112 P), hK _ _ (pat111 P)⟩
def cells02 : List (Addr × Addr) := [(118, 114), (83, 79)]
noncomputable def cellB (P : Params) (c p : Addr) : Option (Value × Value × Value × Value × Value × Value) := match (K02 P).lookup c with
  | some o => (match o.data with
    | .fields vs => some (o.cls, vs.getD 11 .none, vs.getD 18 .none, vs.getD 7 .none, vs.getD 9 .none, vs.getD 10 .none)
    | _ => none)
  | none => none
theorem cell118 (P : Params) : cellB P 118 114 = some (.type "code", .ref 114, .str (strOf (fl P 118 18)) (tokOf (fl P 118 18)), .int (intOf (fl P 118 7)) (tokOf (fl P 118 7)), .bool (boolOf (fl P 118 9)), .int (intOf (fl P 118 10)) (tokOf (fl P 118 10))) := by kernel_rfl
theorem cell83 (P : Params) : cellB P 83 79 = some (.type "code", .ref 79, .str (strOf (fl P 83 18)) (tokOf (fl P 83 18)), .int (intOf (fl P 83 7)) (tokOf (fl P 83 7)), .bool (boolOf (fl P 83 9)), .int (intOf (fl P 83 10)) (tokOf (fl P 83 10))) := by kernel_rfl
theorem cellB_at {P : Params} {c p : Addr} {file : Str} {tf tg tt : Tok} {flags text : Int} {inF : Bool} (e : cellB P c p = some (.type "code", .ref p, .str file tf, .int flags tg, .bool inF, .int text tt)) :
    ∃ o vs file tf flags tg inF text tt, (K02 P).lookup c = some o ∧ o.cls = .type "code" ∧ o.data = .fields vs ∧ vs.getD 11 .none = .ref p ∧ vs.getD 18 .none = .str file tf ∧ vs.getD 7 .none = .int flags tg ∧ vs.getD 9 .none = .bool inF ∧ vs.getD 10 .none = .int text tt := by
  unfold cellB at e
  cases ho : (K02 P).lookup c with
  | none => rw [ho] at e; cases e
  | some o =>
    rw [ho] at e
    dsimp only at e
    split at e
    · rename_i vs hd
      have e := Option.some.inj e
      have e0 := Prod.mk.inj e
      have e1 := Prod.mk.inj e0.2
      have e2 := Prod.mk.inj e1.2
      have e3 := Prod.mk.inj e2.2
      have e4 := Prod.mk.inj e3.2
      exact ⟨o, vs, _, _, _, _, _, _, _, rfl, e0.1, hd, e1.1, e2.1, e3.1, e4.1, e4.2⟩
    · cases e
theorem cellOk02 : CellOk G02 cells02 where
  at_ := fun P c p e => by
    have e : [(118, 114), (83, 79)].lookup c = some p := e
    rw [List.lookup_cons] at e
    cases h : c == 118 with
    | true => rw [h] at e; cases e; rw [eq_of_beq h]; exact ⟨by decide, by decide, cellB_at (cell118 P)⟩
    | false =>
      rw [h] at e
      obtain ⟨rfl, rfl⟩ := lookup1 e
      exact ⟨by decide, by decide, cellB_at (cell83 P)⟩
theorem isi89 (P : Params) : kitOne (K02 P) (.type "list") (.ref 89) = some false := by kernel_rfl
def bi4 (code : List Int) (id : String) (ps : List PV) (σ : St) : Out PV :=
  if id = "sorted" then (match ps with
    | [p] => sortedE p σ
    | _ => .no)
  else bi3 89 112 code 4 20 id ps σ
noncomputable def Z02 : Ext :=
  { bi := bi4 (code02), ty := ty1,
    ex := fun E F e σ => match e with
      | .Call fn [.GeneratorExp (.Tuple ..) _ _ _] kw pos => extE (T02) cells02 E F e σ
      | .Call .. => fsE (T02) cells02 E F e σ
      | .ListComp .. => lcE (T02) E F e σ
      | _ => exE E F e σ
    st := fun _ _ _ _ => .no }
theorem Z02_ok (P₀ : Params) : ExtOk G02 (T02) Z02 where
  bi := fun X ok W σ id ps vs r => by
    show Sat X W _ σ (bi4 (code02) id ps σ)
    unfold bi4
    split
    · rename_i h; subst h
      split
      · cases r with | cons r rs => cases rs; exact sortedE_sat ok r
      · exact Sat.no
    · exact bi3_sat ok (isi89 _) (fun h hK => patAt02 hK) id r
  ty := fun X ok W σ t ps vs r => ty1_sat t r
  ex := fun X ok E S hf W σ e => by
    show Sat X W _ σ (match e with
      | .Call fn [.GeneratorExp (.Tuple ..) _ _ _] kw pos => extE (T02) cells02 E _ e σ
      | .Call .. => fsE (T02) cells02 E _ e σ
      | .ListComp .. => lcE (T02) E _ e σ
      | _ => exE E _ e σ)
    split
    · exact extE_sat S (A02 P₀).tb cellOk02 ok _
    · exact fsE_sat S (A02 P₀).tb cellOk02 ok _
    · exact lcE_sat S hf (A02 P₀) ok _
    · exact exE_sat S _
  st := fun X ok E S hf W σ st => Sat.no
end Rk
end
section
open PySem PySem.W PyProof.Rows PySem.Calls Mine
set_option maxRecDepth 100000
set_option maxHeartbeats 400000
namespace Rk
noncomputable abbrev R (n : Nat) : Ev := run T02 Z02 B02 n
inductive Tk where
  | n | i | f | v | mod | is | isin | within | and | or | not | pct | eq | ne | comma | dots | ell | v7 | v40
  deriving DecidableEq
def kW : Str := Str.ofString "word"
def kV : Str := Str.ofString "value"
def kS : Str := Str.ofString "symbol"
def kE : Str := Str.ofString "ellipsis"
def Tk.kind : Tk → Str
  | .pct => kS | .eq => kS | .ne => kS | .comma => kS | .dots => kE | .ell => kE | .v7 => kV | .v40 => kV | _ => kW
def Tk.text : Tk → Str
  | .n => Str.ofString "n" | .i => Str.ofString "i" | .f => Str.ofString "f" | .v => Str.ofString "v" | .mod => Str.ofString "mod" | .is => Str.ofString "is" | .isin => Str.ofString "in" | .within => Str.ofString "within"
  | .and => Str.ofString "and" | .or => Str.ofString "or" | .not => Str.ofString "not" | .pct => Str.ofString "%" | .eq => Str.ofString "=" | .ne => Str.ofString "!=" | .comma => Str.ofString "," | .dots => Str.ofString ".."
  | .ell => Str.ofString "…" | .v7 => Str.ofString "7" | .v40 => Str.ofString "40"
def Tk.val (t : Tk) : V := .tuple [.str t.kind, .str t.text]
def HX (o : Option (List V)) (L : List V) (ts : List V) : List AObj := match o with
  | none => [.dict [(Str.ofString "tokens", .ref 3)], .inst 244 0 [], .vlist L, .vrev ts]
  | some xs => [.dict [(Str.ofString "tokens", .ref 3)], .inst 244 0 [], .vlist L, .vrev ts, .vlist xs]
abbrev HP := HX none
abbrev HQ (L : List V) (ts : List V) (xs : List V) := HX (some xs) L ts
def valN (k : Int) : V := .tuple [.str (Str.ofString "value"), .tuple [.int k]]
def tks (ts : List Tk) : List V := ts.map Tk.val
abbrev RErr : Value := .ref 103
/-- what a reading gives -/
def outX (X : Option (List V)) (loc : List (Str × PV)) (L : List V) (o : Option (V × List Tk)) : Out PV := match o with
  | some (x, r) => .ok (.v x) ⟨loc, HX X L (tks r)⟩
  | none => .exc RErr
abbrev outP := outX none
def pValue : List Tk → Option (V × List Tk)
  | .v7 :: r => some (valN 7, r)
  | .v40 :: r => some (valN 40, r)
  | _ => none
def allT : List Tk := [.n, .i, .f, .v, .mod, .is, .isin, .within, .and, .or, .not, .pct, .eq, .ne, .comma, .dots, .ell, .v7, .v40]
theorem mem_all (t : Tk) : t ∈ allT := by cases t <;> simp [allT]
theorem by_head {γ : Type} {f g : List Tk → γ} (h0 : f [] = g []) (h1 : ∀ r, (allT.map fun t => f (t :: r)) = allT.map fun t => g (t :: r)) (ts : List Tk) : f ts = g ts := by
  cases ts with
  | nil => exact h0
  | cons t r => exact map_at (f := fun t => f (t :: r)) (g := fun t => g (t :: r)) (h1 r) t (mem_all t)
theorem value_eq (X : Option (List V)) (n : Nat) (loc : List (Str × PV)) (L : List V) (ts : List Tk) : (R (n + 30)).fn 241 [.ref 1] ⟨loc, HX X L (tks ts)⟩ = outX X loc L (pValue ts) := by
  cases X with
  | none => exact by_head (f := fun ts => (R (n + 30)).fn 241 [.ref 1] ⟨loc, HX none L (tks ts)⟩) (g := fun ts => outX none loc L (pValue ts)) (by kernel_rfl) (fun r => by kernel_rfl) ts
  | some xs => exact by_head (f := fun ts => (R (n + 30)).fn 241 [.ref 1] ⟨loc, HX (some xs) L (tks ts)⟩) (g := fun ts => outX (some xs) loc L (pValue ts)) (by kernel_rfl) (fun r => by kernel_rfl) ts
end Rk
end
section
set_option maxRecDepth 100000
set_option maxHeartbeats 400000
namespace Rx
open PySem.Sre
section
variable (k : Nat) (T : Array Nat) (L : Nat)
abbrev shO : Option Nat → Option Nat := Option.map (· + k)
def shK (p : Kept) : Kept := { p with marks := p.marks.map (shO k) }
def shF (f : Frame) : Frame := { f with pos := f.pos + k, kept := shK k f.kept, began := shO k f.began }
def shL (l : Loop) : Loop := { l with began := shO k l.began }
/-- the machine at another place -/
def sh (m : M) : M := { m with text := T, lim := L, start := m.start + k, pos := m.pos + k, handed := m.handed + k, marks := m.marks.map (shO k), loops := m.loops.map (shL k), frames := m.frames.map (shF k) }
variable {k T L}
theorem sh_word (m : M) (i : Nat) : (sh k T L m).word i = m.word i := rfl
theorem sh_say (m : M) (b : Bool) : (sh k T L m).say b = sh k T L (m.say b) := rfl
theorem sh_keep (m : M) (w : Bool) : (sh k T L m).keep w = shK k (m.keep w) := by
  cases w with
  | false => simp [M.keep, shK, sh]
  | true => simp [M.keep, shK, sh]
theorem sh_putBack (m : M) (p : Kept) : (sh k T L m).putBack (shK k p) = sh k T L (m.putBack p) := by
  cases hw : p.whole with
  | false => simp [M.putBack, shK, sh, hw]
  | true => simp [M.putBack, shK, sh, hw]
theorem sh_attempt (m : M) (f : Frame) (t p : Nat) (o : Bool) : (sh k T L m).attempt (shF k f) t (p + k) o = sh k T L (m.attempt f t p o) := by
  unfold M.attempt
  have e : (shF k f).kept.marks.size = f.kept.marks.size := by simp [shF, shK]
  rw [e]
  show (if m.weight + 1 + f.kept.marks.size > 16777216 then _ else _) = _
  split
  · rfl
  · rfl
theorem sh_frame (m : M) (w : Wait) : (sh k T L m).frame w = shF k (m.frame w) := by
  simp [M.frame, sh, shF, shK]
theorem sh_loopAt (m : M) (i : Nat) : (sh k T L m).loopAt i = shL k (m.loopAt i) := by
  show (m.loops.map (shL k)).getD i _ = _
  unfold M.loopAt
  simp only [Array.getD_eq_getD_getElem?, Array.getElem?_map]
  cases m.loops[i]? <;> rfl
theorem sh_alternative (m : M) (alt : Nat) (p : Kept) : (sh k T L m).alternative alt (shK k p) = sh k T L (m.alternative alt p) := by
  unfold M.alternative
  show (if (m.code.getD alt 0 == 0) = true then _ else _) = _
  split
  · rfl
  · rw [sh_frame]
    exact sh_attempt m { m.frame .nextBranch with pc := alt, kept := p } (alt + 1) m.pos m.outermost
theorem sh_afterRun (m : M) (w : Wait) (c : Int) (p : Kept) : (sh k T L m).afterRun w c (shK k p) = sh k T L (m.afterRun w c p) := by
  unfold M.afterRun
  rw [sh_frame]
  exact sh_attempt m { m.frame w with count := c, kept := p } (m.pc + 1 + m.word 1) m.pos m.outermost
theorem modify_map {α : Type} (xs : Array α) (g : α → α) (f f' : α → α) (hf : ∀ l, f' (g l) = g (f l)) (i : Nat) : (xs.map g).modify i f' = (xs.modify i f).map g := by
  apply Array.ext
  · simp
  · intro j h1 h2
    simp only [Array.getElem_modify, Array.getElem_map]
    split
    · rw [hf]
    · rfl
theorem sh_setLoop (m : M) (i : Nat) (f f' : Loop → Loop) (hf : ∀ l, f' (shL k l) = shL k (f l)) : (sh k T L m).setLoop i f' = sh k T L (m.setLoop i f) := by
  unfold M.setLoop
  show ({ sh k T L m with loops := (m.loops.map (shL k)).modify i f' } : M) = { sh k T L m with loops := (m.loops.modify i f).map (shL k) }
  rw [modify_map _ _ f f' hf]
theorem sh_inner (m : M) (x : Option Nat) : ({ sh k T L m with inner := x } : M) = sh k T L { m with inner := x } := rfl
theorem sh_afterLoop (m : M) (w : Wait) (i : Nat) (c : Int) (f : Option Nat → Bool) : (sh k T L m).afterLoop w i c f = sh k T L (m.afterLoop w i c f) := by
  unfold M.afterLoop
  rw [sh_loopAt]
  have e1 := sh_frame (k := k) (T := T) (L := L) { m with inner := (m.loopAt i).outer } w
  have e2 := sh_keep (k := k) (T := T) (L := L) { m with inner := (m.loopAt i).outer } (f (m.loopAt i).outer)
  have e3 := sh_attempt (k := k) (T := T) (L := L) { m with inner := (m.loopAt i).outer } { ({ m with inner := (m.loopAt i).outer } : M).frame w with loop := i, count := c, kept := ({ m with inner := (m.loopAt i).outer } : M).keep (f (m.loopAt i).outer) } m.pc m.pos m.outermost
  rw [← e3]
  show M.attempt _ { M.frame (sh k T L { m with inner := (m.loopAt i).outer }) w with loop := i, count := c, kept := M.keep (sh k T L { m with inner := (m.loopAt i).outer }) (f (m.loopAt i).outer) } m.pc (m.pos + k) m.outermost = _
  rw [e1, e2]
  rfl
theorem sh_round (m : M) (w : Wait) (i : Nat) (c : Int) (g : Bool) (p : Kept) : (sh k T L m).round w i c g (shK k p) = sh k T L (m.round w i c g p) := by
  unfold M.round
  rw [sh_loopAt]
  have e0 : (sh k T L m).setLoop i (fun l => { l with count := c, began := if g = true then some (sh k T L m).pos else l.began }) = sh k T L (m.setLoop i fun l => { l with count := c, began := if g = true then some m.pos else l.began }) :=
    sh_setLoop m i _ _ fun l => by cases g <;> rfl
  dsimp only
  rw [e0]
  generalize m.setLoop i (fun l => { l with count := c, began := if g = true then some m.pos else l.began }) = m1
  rw [sh_frame]
  exact sh_attempt m1 { m1.frame w with loop := i, count := c, kept := p, began := (m.loopAt i).began } ((m.loopAt i).pc + 4) m1.pos m1.outermost
theorem foldl_map {g : Option Nat → Option Nat} (hg : g none = none) (p : Nat → Prop) [DecidablePred p] : ∀ (l : List Nat) (a : Array (Option Nat)), l.foldl (fun (a : Array (Option Nat)) (j : Nat) => if p j then a.setIfInBounds j none else a) (a.map g) = (l.foldl (fun (a : Array (Option Nat)) (j : Nat) => if p j then a.setIfInBounds j none else a) a).map g
  | [], a => rfl
  | j :: r, a => by
    simp only [List.foldl_cons]
    rw [← foldl_map hg p r]
    congr 1
    split
    · rw [Array.map_setIfInBounds, hg]
    · rfl
theorem sh_mark (m : M) (i : Nat) : (sh k T L m).mark i = sh k T L (m.mark i) := by
  unfold M.mark
  have hl : (sh k T L m).lastmark = m.lastmark := rfl
  dsimp only
  rw [hl]
  split
  · show ({ sh k T L m with marks := (m.marks.map (shO k)).setIfInBounds i (some (m.pos + k)), lastmark := _, lastindex := _, pc := _ } : M) = _
    have : (m.marks.map (shO k)).setIfInBounds i (some (m.pos + k)) = (m.marks.setIfInBounds i (some m.pos)).map (shO k) := by rw [Array.map_setIfInBounds]; rfl
    rw [this]; rfl
  · have e := foldl_map (g := shO k) rfl (fun j : Nat => (j : Int) > m.lastmark) (List.range i) m.marks
    show ({ sh k T L m with marks := (List.foldl _ (m.marks.map (shO k)) (List.range i)).setIfInBounds i (some (m.pos + k)), lastmark := _, lastindex := _, pc := _ } : M) = _
    rw [e]
    have : ∀ a : Array (Option Nat), (a.map (shO k)).setIfInBounds i (some (m.pos + k)) = (a.setIfInBounds i (some m.pos)).map (shO k) := fun a => by rw [Array.map_setIfInBounds]; rfl
    rw [this]; rfl
theorem shK_none : shK k ({} : Kept) = {} := by simp [shK]
theorem beq_some_shift (a : Option Nat) (b : Nat) : (shO k a != some (b + k)) = (a != some b) := by
  cases a with
  | none => rfl
  | some a =>
    show (some (a + k) != some (b + k)) = _
    by_cases h : a = b
    · subst h; simp
    · have e1 : (some (a + k) != some (b + k)) = true := by
        rw [bne_iff_ne]; intro h2; injection h2; omega
      have e2 : (some a != some b) = true := by
        rw [bne_iff_ne]; intro h2; injection h2; omega
      rw [e1, e2]
theorem sh_until (m : M) (g : Bool) : (sh k T L m).until_ g = sh k T L (m.until_ g) := by
  unfold M.until_
  show (match m.inner with | none => _ | some i => _) = _
  cases m.inner with
  | none => rfl
  | some i =>
    dsimp only
    rw [sh_loopAt]
    have hc : (shL k (m.loopAt i)).count = (m.loopAt i).count := rfl
    have hp : (shL k (m.loopAt i)).pc = (m.loopAt i).pc := rfl
    have hb : (shL k (m.loopAt i)).began = shO k (m.loopAt i).began := rfl
    have hcode : (sh k T L m).code = m.code := rfl
    have hpos : (sh k T L m).pos = m.pos + k := rfl
    rw [hc, hp, hb, hcode, hpos, beq_some_shift]
    split
    · have := sh_round (k := k) (T := T) (L := L) m (if g = true then .maxBelow else .minBelow) i ((m.loopAt i).count + 1) false {}
      rw [shK_none] at this
      exact this
    · split
      · exact sh_afterLoop m .minTail i _ _
      · split
        · have := sh_round (k := k) (T := T) (L := L) m .maxMore i ((m.loopAt i).count + 1) true (m.keep true)
          rw [← sh_keep (T := T) (L := L)] at this
          exact this
        · exact sh_afterLoop m .maxTail i _ _
end
end Rx
end
section
set_option maxRecDepth 100000
set_option maxHeartbeats 400000
namespace Rx
open PySem.Sre
/-- the text here is the text there -/
structure Win (k : Nat) (T : Array Nat) (L : Nat) (whole : Bool) (m : M) : Prop where
  text : ∀ i, i < m.lim → T.getD (i + k) 0 = m.text.getD i 0
  lim : m.lim + k ≤ L
  eq : whole = true → L = m.lim + k
def safeX (whole : Bool) (m : M) : Bool := match ops[m.word 0]? with
  | some .LITERAL => whole || decide (m.pos < m.lim)
  | some .IN => whole || decide (m.pos < m.lim)
  | some .REPEAT_ONE => decide (m.pos ≤ m.lim) && (match run m.code m.text (m.pc + 4) (min (m.word 3) (m.lim - m.pos)) m.pos 0 (m.seen.add (m.word 0) |>.add (m.word 4)) with
    | .ok (n, _) => whole || (decide (n < min (m.word 3) (m.lim - m.pos)) && decide (m.word 2 ≤ m.lim - m.pos))
    | .error _ => false)
  | some .SUCCESS => !m.wholeText && !m.mustAdvance
  | some .MARK => true
  | some .BRANCH => true
  | some .JUMP => true
  | some .REPEAT => true
  | some .MAX_UNTIL => true
  | some .FAILURE => true
  | some .ASSERT_NOT => m.word 2 == 0
  | _ => false
def safeR (f : Frame) : Bool := match f.wait with
  | .nextBranch => true
  | .closeLoop => true
  | .maxMore => true
  | .maxBelow => true
  | .maxTail => true
  | .lookNot => true
  | .giveBack => decide (1 ≤ f.pos)
  | _ => false
def safeS (whole : Bool) (m : M) : Bool := match m.answer, m.frames with
  | some _, [] => true
  | some _, f :: _ => safeR f
  | none, _ => safeX whole m
section
variable {k : Nat} {T : Array Nat} {L : Nat} {whole : Bool}
theorem run_sh {m : M} (W : Win k T L whole m) (i : Nat) : ∀ (n p f : Nat) (seen : Seen), p + n ≤ m.lim → run m.code T i n (p + k) f seen = run m.code m.text i n p f seen
  | 0, p, f, seen, _ => rfl
  | n + 1, p, f, seen, h => by
    unfold run
    rw [W.text p (by omega)]
    cases accepts m.code i (m.text.getD p 0) seen with
    | error e => rfl
    | ok q =>
      obtain ⟨yes, seen'⟩ := q
      show (if yes = true then run m.code T i n (p + k + 1) (f + 1) seen' else _) = (if yes = true then run m.code m.text i n (p + 1) (f + 1) seen' else _)
      cases yes with
      | false => rfl
      | true =>
        have e : p + k + 1 = p + 1 + k := by omega
        rw [if_pos rfl, if_pos rfl, e]
        exact run_sh W i n (p + 1) (f + 1) seen' (by omega)
theorem run_more {code T : Array Nat} {i : Nat} : ∀ (n n' p f : Nat) (seen : Seen) (r : Nat) (s : Seen), run code T i n p f seen = .ok (r, s) → r < f + n → n ≤ n' → run code T i n' p f seen = .ok (r, s)
  | 0, n', p, f, seen, r, s, h, hr, _ => by
    have h : Except.ok (f, seen) = Except.ok (r, s) := h
    injection h with h; injection h with h1 h2; omega
  | n + 1, 0, p, f, seen, r, s, h, hr, hn => by omega
  | n + 1, n' + 1, p, f, seen, r, s, h, hr, hn => by
    unfold run at h ⊢
    cases ha : accepts code i (T.getD p 0) seen with
    | error e => rw [ha] at h; cases h
    | ok q =>
      obtain ⟨yes, seen'⟩ := q
      rw [ha] at h
      cases yes with
      | false => exact h
      | true => exact run_more n n' (p + 1) (f + 1) seen' r s h (by omega) (by omega)
theorem exec_chr {m : M} (W : Win k T L whole m) (hs : (whole || decide (m.pos < m.lim)) = true) (o : Op) (ho : o = .LITERAL ∨ o = .IN) (h : ops[m.word 0]? = some o) : (sh k T L m).exec = sh k T L m.exec := by
  have key : ∀ m : M, Win k T L whole m → (whole || decide (m.pos < m.lim)) = true → (if (sh k T L m).pos ≥ (sh k T L m).lim then (sh k T L m).say false else
      match accepts (sh k T L m).code (sh k T L m).pc ((sh k T L m).text.getD (sh k T L m).pos 0) (sh k T L m).seen with
      | .error why => (sh k T L m).stick why
      | .ok (false, seen) => { sh k T L m with seen }.say false
      | .ok (true, seen) => { sh k T L m with seen, pc := (sh k T L m).pc + itemWidth (sh k T L m).code (sh k T L m).pc, pos := (sh k T L m).pos + 1 }) =
      sh k T L (if m.pos ≥ m.lim then m.say false else
      match accepts m.code m.pc (m.text.getD m.pos 0) m.seen with
      | .error why => m.stick why
      | .ok (false, seen) => { m with seen }.say false
      | .ok (true, seen) => { m with seen, pc := m.pc + itemWidth m.code m.pc, pos := m.pos + 1 }) := fun m W hs => by
    have e1 : (sh k T L m).pos = m.pos + k := rfl
    have e2 : (sh k T L m).lim = L := rfl
    by_cases hp : m.pos < m.lim
    · have : ¬ m.pos ≥ m.lim := by omega
      have h2 : ¬ (sh k T L m).pos ≥ (sh k T L m).lim := by rw [e1, e2]; have := W.lim; omega
      rw [if_neg this, if_neg h2]
      have e3 : (sh k T L m).text.getD (sh k T L m).pos 0 = m.text.getD m.pos 0 := W.text m.pos hp
      rw [e3]
      show (match accepts m.code m.pc (m.text.getD m.pos 0) m.seen with | .error why => _ | .ok (false, seen) => _ | .ok (true, seen) => _) = _
      cases accepts m.code m.pc (m.text.getD m.pos 0) m.seen with
      | error e => rfl
      | ok q =>
        obtain ⟨b, s⟩ := q
        cases b with
        | false => rfl
        | true =>
          have e : m.pos + k + 1 = m.pos + 1 + k := by omega
          show ({ sh k T L m with seen := s, pc := _, pos := m.pos + k + 1 } : M) = _
          rw [e]; rfl
    · have hw : whole = true := by simpa [hp] using hs
      have := W.eq hw
      have h1 : m.pos ≥ m.lim := by omega
      have h2 : (sh k T L m).pos ≥ (sh k T L m).lim := by rw [e1, e2]; omega
      rw [if_pos h1, if_pos h2]; rfl
  have h' : ops[(sh k T L m).word 0]? = some o := h
  have hk := key { m with seen := m.seen.add (m.word 0) } ⟨W.text, W.lim, W.eq⟩ hs
  unfold M.exec
  rw [h, h']
  rcases ho with rfl | rfl <;> exact hk
end
end Rx
end
section
set_option maxRecDepth 100000
set_option maxHeartbeats 400000
namespace Rx
open PySem.Sre
section
variable {k : Nat} {T : Array Nat} {L : Nat} {whole : Bool}
theorem exec_fail {m : M} (h : ops[m.word 0]? = some .FAILURE) : (sh k T L m).exec = sh k T L m.exec := by
  have h' : ops[(sh k T L m).word 0]? = some .FAILURE := h
  unfold M.exec; rw [h, h']; rfl
theorem exec_succ {m : M} (h : ops[m.word 0]? = some .SUCCESS) (h1 : m.wholeText = false) (h2 : m.mustAdvance = false) : (sh k T L m).exec = sh k T L m.exec := by
  have h' : ops[(sh k T L m).word 0]? = some .SUCCESS := h
  have h1' : (sh k T L m).wholeText = false := h1
  have h2' : (sh k T L m).mustAdvance = false := h2
  unfold M.exec; rw [h, h']
  dsimp only
  rw [h1, h2, h1', h2']
  simp only [Bool.false_and, Bool.or_false, Bool.and_false, Bool.false_eq_true, ↓reduceIte]
  rfl
theorem exec_mark {m : M} (h : ops[m.word 0]? = some .MARK) : (sh k T L m).exec = sh k T L m.exec := by
  have h' : ops[(sh k T L m).word 0]? = some .MARK := h
  unfold M.exec; rw [h, h']
  exact sh_mark { m with seen := m.seen.add (m.word 0) } _
theorem exec_branch {m : M} (h : ops[m.word 0]? = some .BRANCH) : (sh k T L m).exec = sh k T L m.exec := by
  have h' : ops[(sh k T L m).word 0]? = some .BRANCH := h
  unfold M.exec; rw [h, h']
  have e := sh_keep (k := k) (T := T) (L := L) { m with seen := m.seen.add (m.word 0) } m.inner.isSome
  have e2 := sh_alternative (k := k) (T := T) (L := L) { m with seen := m.seen.add (m.word 0) } (m.pc + 1) (({ m with seen := m.seen.add (m.word 0) } : M).keep m.inner.isSome)
  rw [← e] at e2
  exact e2
theorem exec_jump {m : M} (h : ops[m.word 0]? = some .JUMP) : (sh k T L m).exec = sh k T L m.exec := by
  have h' : ops[(sh k T L m).word 0]? = some .JUMP := h
  unfold M.exec; rw [h, h']; rfl
theorem exec_until {m : M} (h : ops[m.word 0]? = some .MAX_UNTIL) : (sh k T L m).exec = sh k T L m.exec := by
  have h' : ops[(sh k T L m).word 0]? = some .MAX_UNTIL := h
  unfold M.exec; rw [h, h']
  exact sh_until { m with seen := m.seen.add (m.word 0), pc := m.pc + 1 } true
theorem exec_repeat {m : M} (h : ops[m.word 0]? = some .REPEAT) : (sh k T L m).exec = sh k T L m.exec := by
  have h' : ops[(sh k T L m).word 0]? = some .REPEAT := h
  unfold M.exec; rw [h, h']
  dsimp only
  have e0 : (sh k T L m).loops.size = m.loops.size := by show (m.loops.map (shL k)).size = _; simp
  have e1 : ({ sh k T L m with seen := m.seen.add (m.word 0), loops := (sh k T L m).loops.push { pc := m.pc, outer := m.inner }, inner := some m.loops.size } : M) = sh k T L { m with seen := m.seen.add (m.word 0), loops := m.loops.push { pc := m.pc, outer := m.inner }, inner := some m.loops.size } := by
    have : (m.loops.map (shL k)).push { pc := m.pc, outer := m.inner } = (m.loops.push { pc := m.pc, outer := m.inner }).map (shL k) := by rw [Array.map_push]; rfl
    show ({ sh k T L m with seen := _, loops := (m.loops.map (shL k)).push { pc := m.pc, outer := m.inner }, inner := _ } : M) = _
    rw [this]; rfl
  rw [e0]
  show M.attempt ({ sh k T L m with seen := m.seen.add (m.word 0), loops := (sh k T L m).loops.push { pc := m.pc, outer := m.inner }, inner := some m.loops.size } : M) { M.frame ({ sh k T L m with seen := m.seen.add (m.word 0), loops := (sh k T L m).loops.push { pc := m.pc, outer := m.inner }, inner := some m.loops.size } : M) .closeLoop with loop := m.loops.size } (m.pc + 1 + m.word 1) (m.pos + k) m.outermost = _
  rw [e1, sh_frame]
  exact sh_attempt { m with seen := m.seen.add (m.word 0), loops := m.loops.push { pc := m.pc, outer := m.inner }, inner := some m.loops.size } { M.frame { m with seen := m.seen.add (m.word 0), loops := m.loops.push { pc := m.pc, outer := m.inner }, inner := some m.loops.size } .closeLoop with loop := m.loops.size } (m.pc + 1 + m.word 1) m.pos m.outermost
theorem exec_look {m : M} (h : ops[m.word 0]? = some .ASSERT_NOT) (h0 : m.word 2 = 0) : (sh k T L m).exec = sh k T L m.exec := by
  have h' : ops[(sh k T L m).word 0]? = some .ASSERT_NOT := h
  unfold M.exec; rw [h, h']
  dsimp only
  have e0 : ({ m with seen := m.seen.add (m.word 0) } : M).word 2 = 0 := h0
  have e0' : ({ sh k T L m with seen := (sh k T L m).seen.add ((sh k T L m).word 0) } : M).word 2 = 0 := h0
  rw [e0, e0', if_neg (Nat.not_lt_zero _), if_neg (Nat.not_lt_zero _)]
  have e := sh_keep (k := k) (T := T) (L := L) { m with seen := m.seen.add (m.word 0) } (true && m.inner.isSome)
  have f := sh_frame (k := k) (T := T) (L := L) { m with seen := m.seen.add (m.word 0) } .lookNot
  have a := sh_attempt (k := k) (T := T) (L := L) { m with seen := m.seen.add (m.word 0) } { M.frame { m with seen := m.seen.add (m.word 0) } .lookNot with kept := ({ m with seen := m.seen.add (m.word 0) } : M).keep (true && m.inner.isSome) } (m.pc + 3) (m.pos - 0) false
  show M.attempt (sh k T L { m with seen := m.seen.add (m.word 0) }) { M.frame (sh k T L { m with seen := m.seen.add (m.word 0) }) .lookNot with kept := M.keep (sh k T L { m with seen := m.seen.add (m.word 0) }) (true && m.inner.isSome) } (m.pc + 3) (m.pos + k) false = _
  rw [e, f]
  exact a
theorem exec_one {m : M} (W : Win k T L whole m) (h : ops[m.word 0]? = some .REPEAT_ONE) (hp : m.pos ≤ m.lim) {n : Nat} {s : Seen} (hr : run m.code m.text (m.pc + 4) (min (m.word 3) (m.lim - m.pos)) m.pos 0 ((m.seen.add (m.word 0)).add (m.word 4)) = .ok (n, s))
    (hw : whole = true ∨ (n < min (m.word 3) (m.lim - m.pos) ∧ m.word 2 ≤ m.lim - m.pos)) : (sh k T L m).exec = sh k T L m.exec := by
  have h' : ops[(sh k T L m).word 0]? = some .REPEAT_ONE := h
  have room1 : ((m.lim : Int) - m.pos).toNat = m.lim - m.pos := by omega
  have room2 : ((L : Int) - ((m.pos + k : Nat) : Int)).toNat = L - (m.pos + k) := by omega
  have hlim := W.lim
  have cond : ((m.word 2 : Int) > (L : Int) - ((m.pos + k : Nat) : Int)) ↔ ((m.word 2 : Int) > (m.lim : Int) - m.pos) := by
    rcases hw with hw | ⟨_, hw⟩
    · have := W.eq hw; omega
    · omega
  have r2 : run m.code T (m.pc + 4) (min (m.word 3) (L - (m.pos + k))) (m.pos + k) 0 ((m.seen.add (m.word 0)).add (m.word 4)) = .ok (n, s) := by
    have r1 := (run_sh W (m.pc + 4) (min (m.word 3) (m.lim - m.pos)) m.pos 0 ((m.seen.add (m.word 0)).add (m.word 4)) (by omega)).trans hr
    rcases hw with hw | ⟨hw, _⟩
    · have := W.eq hw
      have e : L - (m.pos + k) = m.lim - m.pos := by omega
      rw [e]; exact r1
    · exact run_more _ _ _ _ _ _ _ r1 (by omega) (by omega)
  have key : ∀ m1 : M, (if n < m.word 2 then (sh k T L m1).say false else ({ sh k T L m1 with pos := m1.pos + k + n } : M).afterRun .giveBack n (({ sh k T L m1 with pos := m1.pos + k + n } : M).keep m1.inner.isSome)) =
      sh k T L (if n < m.word 2 then m1.say false else ({ m1 with pos := m1.pos + n } : M).afterRun .giveBack n (({ m1 with pos := m1.pos + n } : M).keep m1.inner.isSome)) := fun m1 => by
    split
    · rfl
    · have e : m1.pos + k + n = m1.pos + n + k := by omega
      rw [e]
      show M.afterRun (sh k T L { m1 with pos := m1.pos + n }) .giveBack n (M.keep (sh k T L { m1 with pos := m1.pos + n }) m1.inner.isSome) = _
      rw [sh_keep]
      exact sh_afterRun { m1 with pos := m1.pos + n } .giveBack n _
  unfold M.exec; rw [h, h']
  dsimp only
  show (if (m.word 2 : Int) > (L : Int) - ((m.pos + k : Nat) : Int) then (sh k T L { m with seen := m.seen.add (m.word 0) }).say false else
    match run m.code T (m.pc + 4) (min (m.word 3) ((L : Int) - ((m.pos + k : Nat) : Int)).toNat) (m.pos + k) 0 ((m.seen.add (m.word 0)).add (m.word 4)) with
    | .error why => M.stick (sh k T L { m with seen := m.seen.add (m.word 0) }) why
    | .ok (n, seen) => if n < m.word 2 then (sh k T L { m with seen := seen }).say false else ({ sh k T L { m with seen := seen } with pos := m.pos + k + n } : M).afterRun .giveBack n (({ sh k T L { m with seen := seen } with pos := m.pos + k + n } : M).keep m.inner.isSome)) =
    sh k T L (if (m.word 2 : Int) > (m.lim : Int) - m.pos then ({ m with seen := m.seen.add (m.word 0) } : M).say false else
    match run m.code m.text (m.pc + 4) (min (m.word 3) ((m.lim : Int) - m.pos).toNat) m.pos 0 ((m.seen.add (m.word 0)).add (m.word 4)) with
    | .error why => M.stick { m with seen := m.seen.add (m.word 0) } why
    | .ok (n, seen) => if n < m.word 2 then ({ m with seen := seen } : M).say false else ({ m with seen := seen, pos := m.pos + n } : M).afterRun .giveBack n (({ m with seen := seen, pos := m.pos + n } : M).keep m.inner.isSome))
  rw [room1, room2, hr, r2]
  by_cases hc : (m.word 2 : Int) > (m.lim : Int) - m.pos
  · rw [if_pos hc, if_pos (cond.mpr hc)]; rfl
  · rw [if_neg hc, if_neg (fun h => hc (cond.mp h))]
    exact key { m with seen := s }
theorem exec_sh {m : M} (W : Win k T L whole m) (hs : safeX whole m = true) : (sh k T L m).exec = sh k T L m.exec := by
  unfold safeX at hs
  split at hs
  · rename_i h; exact exec_chr W hs _ (.inl rfl) h
  · rename_i h; exact exec_chr W hs _ (.inr rfl) h
  · rename_i h
    rw [Bool.and_eq_true] at hs
    have hp := of_decide_eq_true hs.1
    have hs := hs.2
    split at hs
    · rename_i n s hr
      refine exec_one W h hp hr ?_
      rw [Bool.or_eq_true, Bool.and_eq_true] at hs
      rcases hs with hs | hs
      · exact .inl hs
      · exact .inr ⟨of_decide_eq_true hs.1, of_decide_eq_true hs.2⟩
    · cases hs
  · rename_i h
    rw [Bool.and_eq_true] at hs
    exact exec_succ h (by simpa using hs.1) (by simpa using hs.2)
  · rename_i h; exact exec_mark h
  · rename_i h; exact exec_branch h
  · rename_i h; exact exec_jump h
  · rename_i h; exact exec_repeat h
  · rename_i h; exact exec_until h
  · rename_i h; exact exec_fail h
  · rename_i h; exact exec_look h (by simpa using hs)
  · cases hs
end
end Rx
end
section
set_option maxRecDepth 100000
set_option maxHeartbeats 400000
namespace Rx
open PySem.Sre
section
variable {k : Nat} {T : Array Nat} {L : Nat} {whole : Bool}
theorem resume_sh {m : M} {f : Frame} (hs : safeR f = true) (yes : Bool) : (sh k T L m).resume (shF k f) yes = sh k T L (m.resume f yes) := by
  have hb : (sh k T L m).putBack (shF k f).kept = sh k T L (m.putBack f.kept) := sh_putBack m f.kept
  have hw : (shF k f).wait = f.wait := rfl
  unfold safeR at hs
  unfold M.resume
  dsimp only
  rw [hb, hw]
  cases ew : f.wait <;> rw [ew] at hs <;> dsimp only
  case nextBranch =>
    cases yes with
    | true => rfl
    | false => exact sh_alternative (m.putBack f.kept) (f.pc + m.code.getD f.pc 0) f.kept
  case giveBack =>
    cases yes with
    | true => rfl
    | false =>
      have hp := of_decide_eq_true hs
      show (if f.count - 1 < m.word 2 then (sh k T L (m.putBack f.kept)).say false else M.afterRun { sh k T L (m.putBack f.kept) with pos := f.pos + k - 1 } .giveBack (f.count - 1) (shK k f.kept)) = sh k T L (if f.count - 1 < m.word 2 then (m.putBack f.kept).say false else M.afterRun { m.putBack f.kept with pos := f.pos - 1 } .giveBack (f.count - 1) f.kept)
      split
      · rfl
      · have e : f.pos + k - 1 = f.pos - 1 + k := by omega
        rw [e]
        exact sh_afterRun { m.putBack f.kept with pos := f.pos - 1 } .giveBack (f.count - 1) f.kept
  case closeLoop =>
    have e : (m.loops.map (shL k)).pop = m.loops.pop.map (shL k) := by simp
    show ({ sh k T L m with inner := ((sh k T L m).loopAt f.loop).outer, loops := (m.loops.map (shL k)).pop } : M).say yes = _
    rw [e, sh_loopAt]; rfl
  case maxBelow =>
    cases yes with
    | true => rfl
    | false =>
      have := sh_setLoop (k := k) (T := T) (L := L) m f.loop (fun l => { l with count := f.count - 1 }) (fun l => { l with count := f.count - 1 }) (fun l => rfl)
      show M.say ((sh k T L m).setLoop f.loop fun l => { l with count := f.count - 1 }) false = _
      rw [this]; rfl
  case maxMore =>
    have e1 := sh_setLoop (k := k) (T := T) (L := L) m f.loop (fun l => { l with began := f.began }) (fun l => { l with began := shO k f.began }) (fun l => rfl)
    show (if yes = true then M.say ((sh k T L m).setLoop f.loop fun l => { l with began := shO k f.began }) true else M.afterLoop (M.setLoop (M.putBack ((sh k T L m).setLoop f.loop fun l => { l with began := shO k f.began }) (shK k f.kept)) f.loop fun l => { l with count := f.count - 1 }) .maxTail f.loop f.count fun _ => false) = _
    rw [e1]
    generalize m.setLoop f.loop (fun l => { l with began := f.began }) = m1
    cases yes with
    | true => rfl
    | false =>
      rw [if_neg Bool.false_ne_true, sh_putBack, sh_setLoop (m1.putBack f.kept) f.loop (fun l => { l with count := f.count - 1 }) (fun l => { l with count := f.count - 1 }) (fun l => rfl), sh_afterLoop]
      rfl
  case maxTail => rfl
  case lookNot =>
    cases yes with
    | true => rfl
    | false => rfl
  all_goals cases hs
theorem step_sh {m : M} (W : Win k T L whole m) (ho : m.outcome = none) (hs : safeS whole m = true) : (sh k T L m).step = sh k T L m.step := by
  unfold M.step
  have ho' : (sh k T L m).outcome = none := ho
  rw [ho, ho']
  have hn : ¬ ((none : Option Outcome).isSome = true) := by simp
  rw [if_neg hn, if_neg hn]
  have ha : (sh k T L m).answer = m.answer := rfl
  have hf : (sh k T L m).frames = m.frames.map (shF k) := rfl
  rw [ha, hf]
  unfold safeS at hs
  cases ea : m.answer with
  | none =>
    rw [ea] at hs
    cases ef : m.frames with
    | nil =>
      rw [ef] at hs
      show (if m.pc < m.code.size then (sh k T L m).exec else (sh k T L m).stick "code:ran-off") = _
      dsimp only
      split
      · exact exec_sh W hs
      · rfl
    | cons f r =>
      rw [ef] at hs
      show (if m.pc < m.code.size then (sh k T L m).exec else (sh k T L m).stick "code:ran-off") = _
      dsimp only
      split
      · exact exec_sh W hs
      · rfl
  | some yes =>
    rw [ea] at hs
    cases ef : m.frames with
    | nil => rfl
    | cons f r =>
      rw [ef] at hs
      have e : (shF k f).kept.marks.size = f.kept.marks.size := by simp [shF, shK]
      show M.resume ({ sh k T L m with answer := none, frames := r.map (shF k), weight := m.weight - (1 + (shF k f).kept.marks.size), pc := f.pc, pos := f.pos + k, outermost := f.outermost, outcome := none } : M) (shF k f) yes = _
      rw [e]
      exact resume_sh (m := { m with answer := none, frames := r, weight := m.weight - (1 + f.kept.marks.size), pc := f.pc, pos := f.pos, outermost := f.outermost, outcome := none }) hs yes
def safeN (whole : Bool) (W : Array Nat) : Nat → M → Bool
  | 0, _ => true
  | n + 1, m => m.outcome.isSome || (m.text == W && m.lim == W.size && safeS whole m && safeN whole W n m.step)
end
section
variable {k : Nat} {T W : Array Nat} {L : Nat} {whole : Bool}
structure Wn (k : Nat) (T W : Array Nat) (L : Nat) (whole : Bool) : Prop where
  text : ∀ i, i < W.size → T.getD (i + k) 0 = W.getD i 0
  lim : W.size + k ≤ L
  eq : whole = true → L = W.size + k
theorem runFor_sh (w : Wn k T W L whole) : ∀ (n : Nat) (m : M), safeN whole W n m = true → (sh k T L m).runFor n = sh k T L (m.runFor n)
  | 0, m, _ => rfl
  | n + 1, m, h => by
    unfold M.runFor
    cases ho : m.outcome with
    | some o =>
      have ho' : (sh k T L m).outcome = some o := ho
      have hp : (some o).isSome = true := rfl
      rw [ho', if_pos hp, if_pos hp]
    | none =>
      have ho' : (sh k T L m).outcome = none := ho
      unfold safeN at h
      rw [ho] at h
      simp only [Option.isSome_none, Bool.false_or, Bool.and_eq_true, beq_iff_eq] at h
      obtain ⟨⟨⟨h1, h2⟩, h3⟩, h4⟩ := h
      have hn : ¬ ((none : Option Outcome).isSome = true) := by simp
      rw [ho', if_neg hn, if_neg hn, step_sh ⟨fun i hi => by rw [h1]; exact w.text i (by omega), by rw [h2]; exact w.lim, fun hw => by rw [h2]; exact w.eq hw⟩ ho h3]
      exact runFor_sh w n m.step h4
open Rk in
def safeD (whole : Bool) (W : Array Nat) : Nat → M → Bool
  | 0, _ => true
  | n + 1, m => safeN whole W PySem.Builtin.Re.reTurnSteps m && ((m.runFor PySem.Builtin.Re.reTurnSteps).outcome.isSome || safeD whole W n (m.runFor PySem.Builtin.Re.reTurnSteps))
theorem drive_sh (w : Wn k T W L whole) : ∀ (n : Nat) (m : M), safeD whole W n m = true → Rk.drive n (sh k T L m) = (Rk.drive n m).map (sh k T L)
  | 0, m, _ => rfl
  | n + 1, m, h => by
    unfold safeD at h
    rw [Bool.and_eq_true] at h
    unfold Rk.drive
    rw [runFor_sh w _ m h.1]
    have ho : (sh k T L (m.runFor PySem.Builtin.Re.reTurnSteps)).outcome = (m.runFor PySem.Builtin.Re.reTurnSteps).outcome := rfl
    rw [ho]
    cases hc : (m.runFor PySem.Builtin.Re.reTurnSteps).outcome.isSome with
    | true => rfl
    | false =>
      have h2 := h.2
      rw [hc, Bool.false_or] at h2
      exact drive_sh w n _ h2
def shS (k : Nat) (xs : List Int) : List Int := xs.map fun i => if i < 0 then i else i + k
theorem getD_map (a : Array (Option Nat)) (i : Nat) : (a.map (shO k)).getD i none = shO k (a.getD i none) := by
  simp only [Array.getD_eq_getD_getElem?, Array.getElem?_map]
  cases a[i]? <;> rfl
theorem spans_sh (g : Nat) (m : M) : Rk.spansOf g (sh k T L m) = shS k (Rk.spansOf g m) := by
  unfold Rk.spansOf shS
  rw [List.map_flatMap]
  congr 1
  funext j
  have hl : (sh k T L m).lastmark = m.lastmark := rfl
  have hm : (sh k T L m).marks = m.marks.map (shO k) := rfl
  rw [hl, hm, getD_map, getD_map]
  generalize m.marks.getD (2 * j) none = x1
  generalize m.marks.getD (2 * j + 1) none = x2
  by_cases hc : ((2 * j + 1 : Nat) : Int) ≤ m.lastmark
  · rw [if_pos hc, if_pos hc]
    cases x1 <;> cases x2 <;> try rfl
  · rw [if_neg hc, if_neg hc]; rfl
theorem wrong_sh (g : Nat) (m : M) : Rk.wrongSpan g (sh k T L m) = Rk.wrongSpan g m := by
  unfold Rk.wrongSpan
  congr 1
  funext j
  have hl : (sh k T L m).lastmark = m.lastmark := rfl
  have hm : (sh k T L m).marks = m.marks.map (shO k) := rfl
  rw [hl, hm, getD_map, getD_map]
  cases m.marks.getD (2 * j) none <;> cases m.marks.getD (2 * j + 1) none <;> try rfl
  rename_i b e
  show (decide (((2 * j + 1 : Nat) : Int) ≤ m.lastmark) && decide (e + k < b + k)) = (decide (((2 * j + 1 : Nat) : Int) ≤ m.lastmark) && decide (e < b))
  congr 1
  simp
def mk0 (code T : Array Nat) (g pos lim : Nat) : M :=
  { code, text := T, lim, start := pos, pc := (header code).2, pos, handed := pos, marks := Array.replicate (2 * g) none, mustAdvance := false, wholeText := false, seen := if (header code).2 == 0 then {} else ({} : Seen).add 14 }
theorem forMatch_mk {code T : Array Nat} {g pos lim : Nat} (h : (header code).1 ≤ lim - pos) : forMatch code T g pos lim false false = mk0 code T g pos lim := by
  unfold forMatch
  dsimp only
  rw [if_neg (by simp; omega)]
  rfl
theorem sh_mk {code : Array Nat} {g : Nat} : sh k T L (mk0 code W g 0 W.size) = mk0 code T g k L := by
  unfold mk0 sh
  simp
theorem rxAt_sh {code : Array Nat} {g fuel : Nat} (w : Wn k T W T.size whole) (h0 : (header code).1 ≤ W.size) (hs : safeD whole W fuel (forMatch code W g 0 W.size false false) = true) : Rk.rxAt code g fuel ⟨T⟩ k = (Rk.rxAt code g fuel ⟨W⟩ 0).map (Option.map (shS k)) := by
  have hl := w.lim
  unfold Rk.rxAt
  have e1 : min k (PySem.Str.cps ⟨T⟩).size = k := by show min k T.size = k; omega
  have e2 : min 0 (PySem.Str.cps ⟨W⟩).size = 0 := by omega
  rw [e1, e2]
  have f1 : forMatch code T g k T.size false false = mk0 code T g k T.size := forMatch_mk (by omega)
  have f2 : forMatch code W g 0 W.size false false = mk0 code W g 0 W.size := forMatch_mk (by omega)
  rw [f2] at hs
  show (match Rk.drive fuel (forMatch code T g k T.size false false) with | none => none | some m => _) = Option.map _ (match Rk.drive fuel (forMatch code W g 0 W.size false false) with | none => none | some m => _)
  rw [f1, f2, ← sh_mk (W := W) (L := T.size), drive_sh w fuel _ hs]
  cases Rk.drive fuel (mk0 code W g 0 W.size) with
  | none => rfl
  | some m =>
    show (match (sh k T T.size m).outcome with | some .matched => _ | some .failed => _ | _ => _) = _
    have ho : (sh k T T.size m).outcome = m.outcome := rfl
    rw [ho]
    dsimp only
    cases m.outcome with
    | none => rfl
    | some o =>
      cases o with
      | failed => rfl
      | stuck w => rfl
      | matched =>
        dsimp only
        have hlen : (shS k (Rk.spansOf g m)).length = (Rk.spansOf g m).length := List.length_map ..
        rw [wrong_sh, spans_sh, hlen]
        cases Rk.wrongSpan g m || !Rk.fitsN ((Rk.spansOf g m).length + 2) with
        | true => rfl
        | false =>
          show some (some (((m.start + k : Nat) : Int) :: ((m.handed + k : Nat) : Int) :: shS k (Rk.spansOf g m))) = some (some (shS k ((m.start : Int) :: (m.handed : Int) :: Rk.spansOf g m)))
          congr 2
end
end Rx
end
section
open PySem PySem.W PyProof.Rows PySem.Calls Mine
set_option maxRecDepth 100000
set_option maxHeartbeats 400000
namespace Rk
/-- a word of a rule's text -/
inductive Bd where
  | k (t : Tk) | x | semi | dot | ats
  deriving DecidableEq
def Bd.text : Bd → Str
  | .k t => t.text
  | .x => Str.ofString "x" | .semi => Str.ofString ";" | .dot => Str.ofString "." | .ats => Str.ofString "@"
def Bd.cps (b : Bd) : List Nat := b.text.cps.toList
def allB : List Bd := allT.map .k ++ [.x, .semi, .dot]
theorem mem_allB {b : Bd} (h : b ≠ .ats) : b ∈ allB := by
  cases b with
  | k t => exact List.mem_append_left _ (List.mem_map.mpr ⟨t, mem_all t, rfl⟩)
  | ats => exact absurd rfl h
  | _ => simp [allB]
noncomputable def codeA : Array Nat := (code02.map (·.toNat)).toArray
/-- the place of the group of a word -/
def Tk.grp : Tk → Nat
  | .pct => 2 | .eq => 2 | .ne => 2 | .comma => 2 | .dots => 3 | .ell => 3 | .v7 => 1 | .v40 => 1 | _ => 0
def spansG (g n : Nat) : List Int := (0 : Int) :: (n : Int) :: (List.range 4).flatMap fun j => if j = g then [(0 : Int), (n : Int)] else [-1, -1]
def resB : Bd → Option (Option (List Int))
  | .k t => some (some (spansG t.grp t.text.cps.size))
  | _ => some none
abbrev winE (b : Bd) : Array Nat := b.cps.toArray
abbrev winS (b : Bd) : Array Nat := (b.cps ++ [32]).toArray
abbrev winW (b : Bd) : Array Nat := (32 :: b.cps).toArray
def spW : List Int := (0 : Int) :: (1 : Int) :: (List.range 4).flatMap fun _ => [-1, -1]
noncomputable def safeW (whole : Bool) (W : Array Nat) : Bool := Rx.safeD whole W 20 (Sre.forMatch codeA W 4 0 W.size false false) && Nat.ble (Sre.header codeA).1 W.size
theorem safeE : (allB.map fun b => safeW true (winE b)) = allB.map fun _ => true := by decide +kernel
theorem safeS' : (allB.map fun b => safeW false (winS b)) = allB.map fun _ => true := by decide +kernel
theorem safeWw : (allB.map fun b => safeW false (winW b)) = allB.map fun _ => true := by decide +kernel
theorem safeW1 : safeW true #[32] = true := by decide +kernel
theorem resE5 : (allB.map fun b => rxAt codeA 4 20 ⟨winE b⟩ 0) = allB.map resB := by decide +kernel
theorem resS : (allB.map fun b => rxAt codeA 4 20 ⟨winS b⟩ 0) = allB.map resB := by decide +kernel
theorem resW : (allB.map fun b => rxAt codeA 4 20 ⟨winW b⟩ 0) = allB.map fun _ => some (some spW) := by decide +kernel
theorem resW1 : rxAt codeA 4 20 ⟨#[32]⟩ 0 = some (some spW) := by decide +kernel
end Rk
end
section
open PySem PySem.W PyProof.Rows PySem.Calls Mine
open PySem.Builtin PySem.Builtin.Str
set_option maxRecDepth 100000
set_option maxHeartbeats 400000
namespace Rk
/-- words joined by blanks -/
def jr (r : List Bd) : List Nat := r.flatMap fun c => 32 :: c.cps
def jn : List Bd → List Nat
  | [] => []
  | b :: r => b.cps ++ jr r
def mkS (l : List Nat) : Str := ⟨l.toArray⟩
theorem str_ext {x y : Str} (h : x.cps.toList = y.cps.toList) : x = y := by
  obtain ⟨a⟩ := x; obtain ⟨b⟩ := y
  exact congrArg Str.mk (Array.ext' h)
theorem mkS_len (l : List Nat) : (mkS l).length = l.length := by show l.toArray.size = _; simp
def sp1 : Str := Str.ofString " "
theorem glue_fold (r : List Bd) : ∀ (acc : Array Nat), ((r.map Bd.text).foldl (fun acc p => acc ++ sp1.cps ++ p.cps) acc).toList = acc.toList ++ jr r := by
  induction r with
  | nil => intro acc; simp [jr]
  | cons b r ih =>
    intro acc
    rw [List.map_cons, List.foldl_cons, ih]
    have : sp1.cps.toList = [32] := by decide
    simp [jr, Bd.cps, this]
theorem glued_jn (ws : List Bd) : (glued sp1 (ws.map Bd.text)).cps.toList = jn ws := by
  cases ws with
  | nil => rfl
  | cons b r =>
    show ((r.map Bd.text).foldl (fun acc p => acc ++ sp1.cps ++ p.cps) b.text.cps).toList = _
    rw [glue_fold]; rfl
theorem cps_len (b : Bd) : b.cps.length ≤ 6 := by
  cases b with
  | k t => cases t <;> decide
  | _ => decide
theorem text_len (b : Bd) : b.text.length ≤ 6 := by
  have := cps_len b
  unfold Bd.cps at this
  rw [Array.length_toList] at this
  exact this
theorem jr_len (r : List Bd) : (jr r).length ≤ 7 * r.length := by
  induction r with
  | nil => simp [jr]
  | cons b r ih =>
    have h := cps_len b
    have e : jr (b :: r) = (32 :: b.cps) ++ jr r := rfl
    rw [e, List.length_append, List.length_cons, List.length_cons]; omega
theorem jn_len (r : List Bd) : (jn r).length ≤ 7 * r.length := by
  cases r with
  | nil => simp [jn]
  | cons b r =>
    have h := cps_len b
    have := jr_len r
    show (b.cps ++ jr r).length ≤ _
    rw [List.length_append, List.length_cons]; omega
theorem fold_len (ws : List Bd) : ∀ n, (ws.map Bd.text).foldl (fun (n : Nat) (p : Str) => n + p.length + sp1.length) n ≤ n + 7 * ws.length := by
  induction ws with
  | nil => intro n; simp
  | cons b r ih =>
    intro n
    rw [List.map_cons, List.foldl_cons]
    have h1 := ih (n + b.text.length + sp1.length)
    have h2 := text_len b
    have h3 : sp1.length = 1 := by decide
    rw [List.length_cons]
    omega
theorem joinL_jn {ws : List Bd} (h : ws.length ≤ 1000) : joinL sp1 (ws.map Bd.text) = some (mkS (jn ws)) := by
  have hz : sizeLine = 100000000 ∨ 10000 ≤ sizeLine := .inr (by decide)
  have hz : 10000 ≤ sizeLine := by decide
  have hf := fold_len ws 0
  have ht : Builtin.Str.tooLong ((ws.map Bd.text).toArray.foldl (· + ·.length + sp1.length) 0) = false := by
    unfold Builtin.Str.tooLong
    rw [List.foldl_toArray]
    simp only [decide_eq_false_iff_not]
    omega
  have hg : glued sp1 (ws.map Bd.text) = mkS (jn ws) := str_ext (by rw [glued_jn]; simp [mkS])
  have hl := jn_len ws
  have hfit : fitsN (glued sp1 (ws.map Bd.text)).length = true := by
    rw [hg, mkS_len]; exact Nat.ble_eq_true_of_le (by omega)
  unfold joinL
  rw [ht]
  dsimp only
  cases ws with
  | nil =>
    show (match fitsN (glued sp1 (([] : List Bd).map Bd.text)).length with | true => some (glued sp1 (([] : List Bd).map Bd.text)) | false => none) = _
    rw [hfit]
    dsimp only
    exact congrArg some hg
  | cons b r =>
    cases r with
    | nil =>
      exact congrArg some (str_ext (x := b.text) (by simp [mkS, jn, jr, Bd.cps]))
    | cons c r =>
      show (match fitsN (glued sp1 ((b :: c :: r).map Bd.text)).length with | true => _ | false => _) = _
      rw [hfit]
      dsimp only
      exact congrArg some hg
theorem strsOf_map {α : Type} (f : α → Str) (ws : List α) : strsOf (ws.map fun b => .str (f b)) = some (ws.map f) := by
  induction ws with
  | nil => rfl
  | cons b r ih => show (strsOf (r.map fun b => .str (f b))).map _ = _; rw [ih]; rfl
abbrev wsV (ws : List Bd) : V := .list (ws.map fun b => .str b.text)
theorem joinE_jn {ws : List Bd} (h : ws.length ≤ 1000) : joinE sp1 (ws.map fun b => .str b.text) = some (.str (mkS (jn ws))) := by
  unfold joinE
  rw [strsOf_map Bd.text ws]
  dsimp only
  rw [joinL_jn h]; rfl
/-- the first place -/
theorem occ_keep (s sub : Str) (hi limit : Nat) : ∀ (l : List Nat) (st : Array Nat × Nat) (a : Nat), st.fst.toList.head? = some a → (forIn l st (StrLaws.occBody s sub hi limit)).run.fst.toList.head? = some a
  | [], st, a, h => h
  | i :: l, st, a, h => by
    rw [List.forIn_cons]
    unfold StrLaws.occBody
    split
    · exact occ_keep s sub hi limit l _ a (by
        cases e : st.fst.toList with
        | nil => rw [e] at h; cases h
        | cons y ys => rw [e] at h; simp [Array.toList_push, e]; simpa using h)
    · exact occ_keep s sub hi limit l _ a h
theorem occ_head (x : Str) (c limit : Nat) (hl : 0 < limit) : ∀ (l : List Nat), (forIn l ((#[] : Array Nat), 0) (StrLaws.occBody x ⟨#[c]⟩ x.length limit)).run.fst.toList.head? = l.find? fun i => x.cps.toList[i]? == some c
  | [] => rfl
  | i :: l => by
    rw [List.forIn_cons, List.find?_cons]
    unfold StrLaws.occBody
    have hiff := StrLaws.subAt_one x c i
    by_cases hc : x.cps.toList[i]? = some c
    · have h1 := hiff.mpr hc
      have c1 : (((#[] : Array Nat), 0).fst.size < limit ∧ ((#[] : Array Nat), 0).snd ≤ i) ∧ i + (⟨#[c]⟩ : Str).length ≤ x.length := ⟨⟨by simpa using hl, Nat.zero_le _⟩, h1.1⟩
      rw [if_pos ⟨c1, h1.2⟩, hc]
      simp only [beq_self_eq_true]
      exact occ_keep x ⟨#[c]⟩ x.length limit l _ i (by simp)
    · have c2 : ¬ (((((#[] : Array Nat), 0).fst.size < limit ∧ ((#[] : Array Nat), 0).snd ≤ i) ∧ i + (⟨#[c]⟩ : Str).length ≤ x.length) ∧ subAt x ⟨#[c]⟩ i = true) := fun h => hc (hiff.mp ⟨h.1.2, h.2⟩)
      rw [if_neg c2]
      have e : (x.cps.toList[i]? == some c) = false := by simpa using hc
      rw [e]
      exact occ_head x c limit hl l
theorem occ_first (x : Str) (c : Nat) : (occurrences x ⟨#[c]⟩ 0 x.length (x.length + 1)).head? = (List.range (x.length + 1)).find? fun i => x.cps.toList[i]? == some c := by
  rw [StrLaws.occ_eq, occ_head x c _ (Nat.succ_pos _), List.range_eq_range', Nat.sub_zero]
theorem find_first (c : Nat) : ∀ (l : List Nat) (n : Nat), l.length ≤ n → (match (List.range n).find? fun i => l[i]? == some c with
    | some i => l.takeWhile (· != c) = l.take i
    | none => l.takeWhile (· != c) = l)
  | [], n, _ => by
    have : ((List.range n).find? fun i => ([] : List Nat)[i]? == some c) = none := by
      rw [List.find?_eq_none]; simp
    rw [this]; rfl
  | a :: l, 0, h => by simp at h
  | a :: l, n + 1, h => by
    rw [List.range_succ_eq_map, List.find?_cons]
    by_cases ha : a = c
    · subst ha; simp
    · have e : ((a :: l)[0]? == some c) = false := by simpa using ha
      rw [e]
      dsimp only
      rw [List.find?_map]
      have ih := find_first c l n (by simpa using h)
      have e2 : ((fun i => (a :: l)[i]? == some c) ∘ Nat.succ) = fun i => l[i]? == some c := by funext i; rfl
      have e3 : (a != c) = true := by simpa using ha
      rw [e2]
      cases hf : (List.range n).find? fun i => l[i]? == some c with
      | none => rw [hf] at ih; simp only [Option.map_none]; rw [List.takeWhile_cons, e3]; simp only [if_true]; exact congrArg _ ih
      | some i => rw [hf] at ih; simp only [Option.map_some]; rw [List.takeWhile_cons, e3]; simp only [if_true]; exact congrArg _ ih
theorem kind_pos (x : Str) : 1 ≤ Str.strKind x := by
  unfold Str.strKind
  split
  · exact Nat.le_refl _
  · split <;> decide
def at1 : Str := Str.ofString "@"
theorem at1_eq : at1 = ⟨#[64]⟩ := by decide
/-- what stands before the first @ -/
theorem splitL_at (x : Str) (hx : x.length ≤ 100000) : ∃ r, splitL x at1 = some (mkS (x.cps.toList.takeWhile (· != 64)) :: r) := by
  rw [at1_eq]
  have hsz : x.cps.toList.length = x.length := by rw [Array.length_toList]; rfl
  have hff := find_first 64 x.cps.toList (x.length + 1) (by omega)
  rw [← occ_first] at hff
  have hle := StrLaws.occ_length_le x ⟨#[64]⟩ 0 x.length (x.length + 1)
  have whole : x.cps.toList.takeWhile (· != 64) = x.cps.toList → mkS (x.cps.toList.takeWhile (· != 64)) = x := fun h => by
    rw [h]; exact str_ext (by simp [mkS])
  unfold splitL
  have e1 : ((⟨#[64]⟩ : Str).length == 0) = false := rfl
  rw [e1]
  dsimp only
  have e2 : decide (Str.strKind x < Str.strKind ⟨#[64]⟩) = false := by
    have := kind_pos x
    have : Str.strKind ⟨#[64]⟩ = 1 := by decide +kernel
    rw [decide_eq_false_iff_not]; omega
  rw [e2, Bool.or_false]
  cases hz : decide (x.length < (⟨#[64]⟩ : Str).length) with
  | true =>
    have hz := of_decide_eq_true hz
    have hz : x.length < 1 := hz
    have : x.cps.toList = [] := List.length_eq_zero_iff.mp (by omega)
    refine ⟨[], ?_⟩
    dsimp only
    rw [whole (by rw [this]; rfl)]
  | false =>
    dsimp only
    generalize occurrences x ⟨#[64]⟩ 0 x.length (x.length + 1) = l at hff hle
    cases l with
    | nil =>
      refine ⟨[], ?_⟩
      show some [x] = _
      rw [whole hff]
    | cons i r =>
      have hff : x.cps.toList.takeWhile (· != 64) = x.cps.toList.take i := hff
      show ∃ r', (match fitsN (partsBetween x (i :: r) (⟨#[64]⟩ : Str).length).length with | true => some (partsBetween x (i :: r) (⟨#[64]⟩ : Str).length) | false => none) = _
      have hp : partsBetween x (i :: r) (⟨#[64]⟩ : Str).length = strSub x 0 i :: (((i :: r).map (· + (⟨#[64]⟩ : Str).length)).zip (r ++ [x.length])).map (fun (i, j) => strSub x i j) := rfl
      have hlen : (partsBetween x (i :: r) (⟨#[64]⟩ : Str).length).length ≤ 100002 := by
        rw [hp]
        simp only [List.length_cons, List.length_map, List.length_zip, List.length_append, List.length_nil]
        simp only [List.length_cons] at hle
        omega
      have hfit : fitsN (partsBetween x (i :: r) (⟨#[64]⟩ : Str).length).length = true := Nat.ble_eq_true_of_le (Nat.le_trans hlen (by decide))
      have hs : strSub x 0 i = mkS (x.cps.toList.takeWhile (· != 64)) := by
        rw [hff]
        exact str_ext (by simp [strSub, mkS, Array.toList_extract])
      rw [hfit, hp, hs]
      exact ⟨_, rfl⟩
end Rk
end
section
open PySem PySem.W PyProof.Rows PySem.Calls Mine
open PySem.Builtin PySem.Builtin.Str
set_option maxRecDepth 100000
set_option maxHeartbeats 400000
namespace Rk
theorem wn_of (pre W post : List Nat) (whole : Bool) (h : whole = true → post = []) : Rx.Wn pre.length (pre ++ (W ++ post)).toArray W.toArray (pre ++ (W ++ post)).toArray.size whole where
  text := fun i hi => by
    have hi : i < W.length := by simpa using hi
    simp only [Array.getD_eq_getD_getElem?, List.getElem?_toArray]
    rw [List.getElem?_append_right (by omega), Nat.add_sub_cancel, List.getElem?_append_left hi]
  lim := by simp; omega
  eq := fun hw => by rw [h hw]; simp; omega
theorem rx_win {pre W post : List Nat} {whole : Bool} (h : whole = true → post = []) (hs : safeW whole W.toArray = true) : rxAt codeA 4 20 (mkS (pre ++ (W ++ post))) pre.length = (rxAt codeA 4 20 (mkS W) 0).map (Option.map (Rx.shS pre.length)) := by
  unfold safeW at hs
  rw [Bool.and_eq_true] at hs
  exact Rx.rxAt_sh (wn_of pre W post whole h) (Nat.le_of_ble_eq_true hs.2) hs.1
theorem ble20 : Nat.ble 20 (2 ^ 64) = true := by decide +kernel
theorem lt63 {k : Nat} (hk : k ≤ 100000) : decide ((k : Int) < 2 ^ 63) = true := decide_eq_true (by omega)
theorem placeOk {k : Nat} (hk : k ≤ 100000) : (decide ((0 : Int) ≤ (k : Int)) && decide ((k : Int) < 2 ^ 63) && Nat.ble 20 (2 ^ 64)) = true := by
  have e1 : decide ((0 : Int) ≤ k) = true := decide_eq_true (Int.natCast_nonneg k)
  rw [e1, lt63 hk, ble20]; rfl
theorem matchE_of {c : Array Nat} {fuel : Nat} {x : Str} {p : Int} (h : (decide (0 ≤ p) && decide (p < 2 ^ 63) && Nat.ble fuel (2 ^ 64)) = true) : matchE c 4 fuel x p = (match rxAt c 4 fuel x p.toNat with
    | none => none
    | some none => some (.v .none)
    | some (some sp) => some (.mat x sp)) := by
  unfold matchE
  rw [h]
  all_goals (generalize rxAt c 4 fuel x p.toNat = o; rfl)
theorem matchE_rx {x : Str} {k : Nat} (hk : k ≤ 100000) : matchE codeA 4 20 x (k : Int) = (match rxAt codeA 4 20 x k with
    | none => none
    | some none => some (.v .none)
    | some (some sp) => some (.mat x sp)) := by
  rw [matchE_of (placeOk hk), Int.toNat_natCast]
def matB (x : Str) (k : Nat) : Bd → PV
  | .k t => .mat x (Rx.shS k (spansG t.grp t.text.cps.size))
  | _ => .v .none
theorem match_word {pre post : List Nat} {b : Bd} (hb : b ≠ .ats) (hk : pre.length ≤ 100000) (hp : post = [] ∨ ∃ r, post = 32 :: r) : matchE codeA 4 20 (mkS (pre ++ (b.cps ++ post))) (pre.length : Int) = some (matB (mkS (pre ++ (b.cps ++ post))) pre.length b) := by
  have key : rxAt codeA 4 20 (mkS (pre ++ (b.cps ++ post))) pre.length = (resB b).map (Option.map (Rx.shS pre.length)) := by
    rcases hp with rfl | ⟨r, rfl⟩
    · rw [rx_win (whole := true) (W := b.cps) (fun _ => rfl) (map_at (f := fun b => safeW true (winE b)) (g := fun _ => true) safeE b (mem_allB hb))]
      exact congrArg _ (map_at (f := fun b => rxAt codeA 4 20 ⟨winE b⟩ 0) (g := resB) resE5 b (mem_allB hb))
    · have e : b.cps ++ 32 :: r = (b.cps ++ [32]) ++ r := by simp
      rw [e, rx_win (whole := false) (W := b.cps ++ [32]) (fun h => by cases h) (map_at (f := fun b => safeW false (winS b)) (g := fun _ => true) safeS' b (mem_allB hb))]
      exact congrArg _ (map_at (f := fun b => rxAt codeA 4 20 ⟨winS b⟩ 0) (g := resB) resS b (mem_allB hb))
  rw [matchE_rx hk, key]
  cases b <;> rfl
theorem match_sp {pre post : List Nat} (hk : pre.length ≤ 100000) (hp : post = [] ∨ ∃ (b : Bd) (r : List Nat), b ≠ .ats ∧ post = b.cps ++ r) : matchE codeA 4 20 (mkS (pre ++ (32 :: post))) (pre.length : Int) = some (.mat (mkS (pre ++ (32 :: post))) (Rx.shS pre.length spW)) := by
  have key : rxAt codeA 4 20 (mkS (pre ++ (32 :: post))) pre.length = some (some (Rx.shS pre.length spW)) := by
    rcases hp with rfl | ⟨b, r, hb, rfl⟩
    · have e : (32 :: [] : List Nat) = [32] ++ [] := rfl
      rw [e, rx_win (whole := true) (W := [32]) (fun _ => rfl) safeW1]
      exact congrArg _ resW1
    · have e : 32 :: (b.cps ++ r) = (32 :: b.cps) ++ r := rfl
      rw [e, rx_win (whole := false) (W := 32 :: b.cps) (fun h => by cases h) (map_at (f := fun b => safeW false (winW b)) (g := fun _ => true) safeWw b (mem_allB hb))]
      exact congrArg _ (map_at (f := fun b => rxAt codeA 4 20 ⟨winW b⟩ 0) (g := fun _ => some (some spW)) resW b (mem_allB hb))
  rw [matchE_rx hk, key]
/-- the texts of the groups -/
theorem groups_sp (x : Str) (k : Nat) : groupsL x (Rx.shS k spW) = [.none, .none, .none, .none] := by
  have h0 : ¬ ((k : Int) < 0) := by omega
  simp [groupsL, spW, Rx.shS, groupV, List.range, List.range.loop]
theorem groups_w (x : Str) (k n g : Nat) (hg : g < 4) : groupsL x (Rx.shS k (spansG g n)) = (List.range 4).map fun j => if j = g then .str (strSub x k (n + k)) else .none := by
  have h0 : ¬ ((k : Int) < 0) := by omega
  have h1 : ¬ ((n : Int) < 0) := by omega
  have h2 : ¬ ((n : Int) + k < 0) := by omega
  have h3 : ((n : Int) + k).toNat = n + k := by omega
  match g, hg with
  | 0, _ => simp [groupsL, spansG, Rx.shS, groupV, List.range, List.range.loop, h0, h1, h2, h3]
  | 1, _ => simp [groupsL, spansG, Rx.shS, groupV, List.range, List.range.loop, h0, h1, h2, h3]
  | 2, _ => simp [groupsL, spansG, Rx.shS, groupV, List.range, List.range.loop, h0, h1, h2, h3]
  | 3, _ => simp [groupsL, spansG, Rx.shS, groupV, List.range, List.range.loop, h0, h1, h2, h3]
abbrev namesT : List V := [.str kW, .str kV, .str kS, .str kE]
theorem sub_at (pre post : List Nat) (b : Bd) : strSub (mkS (pre ++ (b.cps ++ post))) pre.length (b.text.cps.size + pre.length) = b.text := by
  refine str_ext ?_
  have e : b.text.cps.size = b.cps.length := by unfold Bd.cps; simp
  have : (pre ++ (b.cps ++ post)).drop pre.length = b.cps ++ post := List.drop_left ..
  simp only [strSub, mkS, List.extract_toArray, List.extract_eq_take_drop]
  rw [this, Nat.add_sub_cancel, e, List.take_left]
  rfl
theorem pick_sp (x : Str) (k : Nat) : pickT namesT (groupsL x (Rx.shS k spW)) = [] := by rw [groups_sp]; rfl
theorem pick_w (pre post : List Nat) (t : Tk) : pickT namesT (groupsL (mkS (pre ++ (t.text.cps.toList ++ post))) (Rx.shS pre.length (spansG t.grp t.text.cps.size))) = [t.val] := by
  have hs : strSub (mkS (pre ++ (t.text.cps.toList ++ post))) pre.length (t.text.cps.size + pre.length) = t.text := sub_at pre post (.k t)
  rw [groups_w _ _ _ _ (by cases t <;> decide), hs]
  cases t <;> rfl
end Rk
end
section
open PySem PySem.W PyProof.Rows PySem.Calls Mine
set_option maxRecDepth 100000
set_option maxHeartbeats 400000
namespace Rk
noncomputable def up : Nat → Ev → Ev
  | 0, E => E
  | k + 1, E => step T02 Z02 B02 (up k E)
def ov (E : Ev) (f : Addr → List PV → St → Out PV) : Ev := ⟨E.ev, E.tr, E.ex, f⟩
abbrev ovc (E : Ev) (o : Out PV) : Ev := ov E fun _ _ _ => o
theorem up_R (k n : Nat) : up k (R n) = R (n + k) := by
  induction k with
  | zero => rfl
  | succ k ih => show step T02 Z02 B02 (up k (R n)) = step T02 Z02 B02 (R (n + k)); rw [ih]
noncomputable def fq (a : Addr) : FnI := match fnsQ.lookup a with
  | some f => f
  | none => { nm := ⟨#[]⟩, scope := default, cd := .none, names := [], dfl := [], body := [], mt := false, keepR := false }
noncomputable abbrev Fq (a : Addr) : Fn := (fq a).fn a
noncomputable abbrev sq (a : Addr) (i : Nat) : Stmt := (fq a).body.getD i (.Pass default)
noncomputable abbrev stR (E : Ev) (a : Addr) (s : Stmt) (σ : St) : Out AFlow := stS T02 Z02 B02 E (Fq a) s σ
noncomputable abbrev bkR (E : Ev) (a : Addr) (b : List Stmt) (σ : St) : Out AFlow := blkS T02 Z02 B02 E (Fq a) b σ
theorem bk_next {E : Ev} {a : Addr} {s : Stmt} {b : List Stmt} {σ σ' : St} {o : Out AFlow} (h : stR E a s σ = .ok .next σ') (h2 : bkR E a b σ' = o) : bkR E a (s :: b) σ = o := by
  show (stR E a s σ).bind _ = o
  rw [h]; exact h2
theorem bk_exc {E : Ev} {a : Addr} {s : Stmt} {b : List Stmt} {σ : St} {c : Value} (h : stR E a s σ = .exc c) : bkR E a (s :: b) σ = .exc c := by
  show (stR E a s σ).bind _ = _
  rw [h]; rfl
theorem bk_ret {E : Ev} {a : Addr} {s : Stmt} {b : List Stmt} {σ σ' : St} {p : PV} (h : stR E a s σ = .ok (.ret p) σ') : bkR E a (s :: b) σ = .ok (.ret p) σ' := by
  show (stR E a s σ).bind _ = _
  rw [h]; rfl
theorem fn_H {n : Nat} {a : Addr} {args : List PV} {loc : List (Str × PV)} {σ : St} {o : Out AFlow} (hf : T02.fns.lookup a = some (fq a)) (hb : bindE (fq a) args = some loc) (hr : noRefs args = false) (h : bkR (R n) a (fq a).body ⟨loc.reverse, σ.H⟩ = o) :
    (R (n + 2)).fn a args σ = finH (fq a) σ o := by
  show fnE T02 (R (n + 1)) a args σ = _
  unfold fnE
  rw [hf]
  dsimp only
  rw [hb]
  dsimp only
  rw [hr]
  dsimp only
  exact congrArg (finH (fq a) σ) h
theorem fn_V {n : Nat} {a : Addr} {args : List PV} {loc : List (Str × PV)} {σ : St} {o : Out AFlow} (hf : T02.fns.lookup a = some (fq a)) (hb : bindE (fq a) args = some loc) (hr : noRefs args = true) (h : bkR (R n) a (fq a).body ⟨loc.reverse, []⟩ = o) :
    (R (n + 2)).fn a args σ = finV (fq a) σ o := by
  show fnE T02 (R (n + 1)) a args σ = _
  unfold fnE
  rw [hf]
  dsimp only
  rw [hb]
  dsimp only
  rw [hr]
  dsimp only
  exact congrArg (finV (fq a) σ) h
def sSelf : Str := Str.ofString "self"
def sLeft : Str := Str.ofString "left"
theorem ov_self (E : Ev) : ov E E.fn = E := rfl
theorem st_call {k n : Nat} {a b : Addr} {s : Stmt} {σ σ' : St} {args : List PV} {o : Out PV} {o' : Out AFlow} (ht : ∀ f, stR (up k (ov (R n) f)) a s σ = stR (up k (ovc (R n) (f b args σ'))) a s σ) (h : (R n).fn b args σ' = o)
    (he : stR (up k (ovc (R n) o)) a s σ = o') : stR (R (n + k)) a s σ = o' := by
  have e := ht (R n).fn
  rw [ov_self, up_R, h] at e
  exact e.trans he
abbrev l0 : List (Str × PV) := [(sSelf, .ref 1)]
abbrev l1 (x : V) : List (Str × PV) := [(sSelf, .ref 1), (sLeft, .v x)]
/-- how a statement that reads ends -/
def outNX (X : Option (List V)) (loc : V → List (Str × PV)) (L : List V) (o : Option (V × List Tk)) : Out AFlow := match o with
  | some (x, r) => .ok .next ⟨loc x, HX X L (tks r)⟩
  | none => .exc RErr
abbrev outN := outNX none
def outRX (X : Option (List V)) (loc : List (Str × PV)) (L : List V) (o : Option (V × List Tk)) : Out AFlow := match o with
  | some (x, r) => .ok (.ret (.v x)) ⟨loc, HX X L (tks r)⟩
  | none => .exc RErr
abbrev outR := outRX none
theorem fq220 : T02.fns.lookup 220 = some (fq 220) := by kernel_rfl
theorem rov_b : (fq 220).body = [sq 220 0, sq 220 1] := by kernel_rfl
theorem rov_s0 (X : Option (List V)) (n : Nat) (L : List V) (ts : List Tk) : stR (R (n + 40 + 1)) 220 (sq 220 0) ⟨l0, HX X L (tks ts)⟩ = outNX X l1 L (pValue ts) :=
  st_call (σ' := ⟨l0, HX X L (tks ts)⟩) (fun f => by cases X <;> kernel_rfl) (value_eq X (n + 10) l0 L ts) (by
    generalize pValue ts = o
    cases o with
    | none => cases X <;> kernel_rfl
    | some p => cases X <;> kernel_rfl)
def rov2 (x : V) (r : List Tk) : Option (V × List Tk) := match r with
  | .dots :: r => (match pValue r with
    | some (y, r) => some (.tuple [x, y], r)
    | none => none)
  | .ell :: r => (match pValue r with
    | some (y, r) => some (.tuple [x, y], r)
    | none => none)
  | r => some (.tuple [x, x], r)
def noE : List Tk := [.n, .i, .f, .v, .mod, .is, .isin, .within, .and, .or, .not, .pct, .eq, .ne, .comma, .v7, .v40]
def pats (hs : List Tk) : List (List Tk) := ((allT.filter fun t => !hs.contains t).map fun t => [t]) ++ hs.flatMap fun h => allT.map fun t => [h, t]
def ends (hs : List Tk) : List (List Tk) := [] :: hs.map fun h => [h]
theorem cover (hs : List Tk) (ts : List Tk) : ts ∈ ends hs ∨ ∃ t ∈ pats hs, ∃ r, ts = t ++ r := by
  cases ts with
  | nil => exact .inl (List.mem_cons_self ..)
  | cons t r =>
    cases hc : hs.contains t with
    | false => exact .inr ⟨[t], List.mem_append.mpr (.inl (List.mem_map.mpr ⟨t, List.mem_filter.mpr ⟨mem_all t, by rw [hc]; rfl⟩, rfl⟩)), r, rfl⟩
    | true =>
      have hm : t ∈ hs := List.contains_iff_mem.mp hc
      cases r with
      | nil => exact .inl (List.mem_cons_of_mem _ (List.mem_map.mpr ⟨t, hm, rfl⟩))
      | cons u r => exact .inr ⟨[t, u], List.mem_append.mpr (.inr (List.mem_flatMap.mpr ⟨t, hm, List.mem_map.mpr ⟨u, mem_all u, rfl⟩⟩)), r, rfl⟩
theorem by_pats {γ : Type} {f g : List Tk → γ} (hs : List Tk) (hE : (ends hs).map f = (ends hs).map g) (hP : ∀ r, ((pats hs).map fun t => f (t ++ r)) = (pats hs).map fun t => g (t ++ r)) (ts : List Tk) : f ts = g ts := by
  rcases cover hs ts with h | ⟨t, h, r, rfl⟩
  · exact map_at hE _ h
  · exact map_at (f := fun t => f (t ++ r)) (g := fun t => g (t ++ r)) (hP r) _ h
theorem rov_s1 (X : Option (List V)) (n : Nat) (L : List V) (x : V) (r : List Tk) : stR (R (n + 41)) 220 (sq 220 1) ⟨l1 x, HX X L (tks r)⟩ = outRX X (l1 x) L (rov2 x r) := by
  cases X with
  | none => exact by_pats (f := fun r => stR (R (n + 41)) 220 (sq 220 1) ⟨l1 x, HX none L (tks r)⟩) (g := fun r => outRX none (l1 x) L (rov2 x r)) [.dots, .ell] (by kernel_rfl) (fun r => by kernel_rfl) r
  | some xs => exact by_pats (f := fun r => stR (R (n + 41)) 220 (sq 220 1) ⟨l1 x, HX (some xs) L (tks r)⟩) (g := fun r => outRX (some xs) (l1 x) L (rov2 x r)) [.dots, .ell] (by kernel_rfl) (fun r => by kernel_rfl) r
def pRov (ts : List Tk) : Option (V × List Tk) := match pValue ts with
  | none => none
  | some (x, r) => rov2 x r
theorem rov_bk (X : Option (List V)) (n : Nat) (L : List V) (ts : List Tk) : bkR (R (n + 41)) 220 (fq 220).body ⟨l0, HX X L (tks ts)⟩ = (match pValue ts with
    | none => .exc RErr
    | some (x, r) => outRX X (l1 x) L (rov2 x r)) := by
  rw [rov_b]
  have h := rov_s0 X n L ts
  revert h
  generalize pValue ts = o
  intro h
  cases o with
  | none => exact bk_exc h
  | some p =>
    obtain ⟨x, r⟩ := p
    refine bk_next h ?_
    have h2 := rov_s1 X n L x r
    show _ = outRX X (l1 x) L (rov2 x r)
    revert h2
    generalize rov2 x r = o
    intro h2
    cases o with
    | none => exact bk_exc h2
    | some p => exact bk_ret h2
theorem rov_eq (X : Option (List V)) (n : Nat) (loc : List (Str × PV)) (L : List V) (ts : List Tk) : (R (n + 43)).fn 220 [.ref 1] ⟨loc, HX X L (tks ts)⟩ = outX X loc L (pRov ts) := by
  refine (fn_H (n := n + 41) (σ := ⟨loc, HX X L (tks ts)⟩) (loc := [(sSelf, .ref 1)]) fq220 (by kernel_rfl) rfl (rov_bk X n L ts)).trans ?_
  unfold pRov
  generalize pValue ts = o
  cases o with
  | none => cases X <;> kernel_rfl
  | some p =>
    obtain ⟨x, r⟩ := p
    show finH _ _ (outRX X (l1 x) L (rov2 x r)) = outX X loc L (rov2 x r)
    generalize rov2 x r = o
    cases o with
    | none => cases X <;> kernel_rfl
    | some p => cases X <;> kernel_rfl
end Rk
end
section
open PySem PySem.W PyProof.Rows PySem.Calls Mine
set_option maxRecDepth 100000
set_option maxHeartbeats 400000
namespace Rk
theorem bk_append {E : Ev} {a : Addr} {b c : List Stmt} {σ : St} : bkR E a (b ++ c) σ = (bkR E a b σ).bind fun f σ => match f with
    | .next => bkR E a c σ
    | f => .ok f σ := by
  induction b generalizing σ with
  | nil => rfl
  | cons s b ih =>
    show (stR E a s σ).bind _ = Out.bind (Out.bind (stR E a s σ) _) _
    cases stR E a s σ with
    | ok f σ' =>
      cases f with
      | next => exact ih
      | _ => rfl
    | exc c => rfl
    | no => rfl
theorem bk_app_next {E : Ev} {a : Addr} {b c : List Stmt} {σ σ' : St} {o : Out AFlow} (h : bkR E a b σ = .ok .next σ') (h2 : bkR E a c σ' = o) : bkR E a (b ++ c) σ = o := by
  rw [bk_append, h]; exact h2
theorem bk_app_exc {E : Ev} {a : Addr} {b c : List Stmt} {σ : St} {x : Value} (h : bkR E a b σ = .exc x) : bkR E a (b ++ c) σ = .exc x := by
  rw [bk_append, h]; rfl
theorem bk_app_ret {E : Ev} {a : Addr} {b c : List Stmt} {σ σ' : St} {p : PV} (h : bkR E a b σ = .ok (.ret p) σ') : bkR E a (b ++ c) σ = .ok (.ret p) σ' := by
  rw [bk_append, h]; rfl
def sWord : Str := Str.ofString "word"
def sName : Str := Str.ofString "name"
/-- the operand at the head -/
def opd : Tk → Option Str
  | .n => some (Str.ofString "n") | .i => some (Str.ofString "i") | .f => some (Str.ofString "f") | .v => some (Str.ofString "v")
  | _ => none
abbrev lx (w : V) (x : Str) : List (Str × PV) := [(sSelf, .ref 1), (sWord, .v w), (sName, .v (.str x))]
theorem fq234 : T02.fns.lookup 234 = some (fq 234) := by kernel_rfl
theorem ex_b : (fq 234).body = [sq 234 0, sq 234 1, sq 234 2] ++ [sq 234 3, sq 234 4] := by kernel_rfl
def ex1 (L : V → List V) (ts : List Tk) : Out AFlow := match ts with
  | [] => .exc RErr
  | t :: r => match opd t with
    | some x => .ok .next ⟨lx t.val x, HP (L t.val) (tks r)⟩
    | none => .exc RErr
theorem ex_pre (n : Nat) (L : List V) (ts : List Tk) : bkR (R (n + 40)) 234 [sq 234 0, sq 234 1, sq 234 2] ⟨l0, HP L (tks ts)⟩ = ex1 (fun _ => L) ts :=
  by_head (f := fun ts => bkR (R (n + 40)) 234 [sq 234 0, sq 234 1, sq 234 2] ⟨l0, HP L (tks ts)⟩) (g := fun ts => ex1 (fun _ => L) ts) (by kernel_rfl) (fun r => by kernel_rfl) ts
def ex2 (x : Str) (r : List Tk) : Option (V × List Tk) := match r with
  | .mod :: r => (match pValue r with
    | some (y, r) => some (.tuple [.str (Str.ofString "mod"), .tuple [.tuple [.str x, .tuple []], y]], r)
    | none => none)
  | .pct :: r => (match pValue r with
    | some (y, r) => some (.tuple [.str (Str.ofString "mod"), .tuple [.tuple [.str x, .tuple []], y]], r)
    | none => none)
  | r => some (.tuple [.str x, .tuple []], r)
theorem ex_post (n : Nat) (L : List V) (w : V) (x : Str) (r : List Tk) : bkR (R (n + 40)) 234 [sq 234 3, sq 234 4] ⟨lx w x, HP L (tks r)⟩ = outR (lx w x) L (ex2 x r) :=
  by_pats (f := fun r => bkR (R (n + 40)) 234 [sq 234 3, sq 234 4] ⟨lx w x, HP L (tks r)⟩) (g := fun r => outR (lx w x) L (ex2 x r)) [.mod, .pct] (by kernel_rfl) (fun r => by kernel_rfl) r
def pExpr (ts : List Tk) : Option (V × List Tk) := match ts with
  | [] => none
  | t :: r => match opd t with
    | some x => ex2 x r
    | none => none
theorem expr_eq (n : Nat) (loc : List (Str × PV)) (L : List V) (ts : List Tk) : (R (n + 42)).fn 234 [.ref 1] ⟨loc, HP L (tks ts)⟩ = outP loc L (pExpr ts) := by
  have hb : bkR (R (n + 40)) 234 (fq 234).body ⟨l0, HP L (tks ts)⟩ = (match ts with
      | [] => .exc RErr
      | t :: r => match opd t with
        | some x => outR (lx t.val x) L (ex2 x r)
        | none => .exc RErr) := by
    rw [ex_b]
    have h := ex_pre n L ts
    revert h
    cases ts with
    | nil => intro h; exact bk_app_exc h
    | cons t r =>
      show _ = (match opd t with | some x => .ok .next ⟨lx t.val x, HP L (tks r)⟩ | none => .exc RErr : Out AFlow) → _ = (match opd t with | some x => outR (lx t.val x) L (ex2 x r) | none => .exc RErr)
      generalize opd t = o
      intro h
      cases o with
      | none => exact bk_app_exc h
      | some x => exact bk_app_next h (ex_post n L _ x r)
  refine (fn_H (n := n + 40) (σ := ⟨loc, HP L (tks ts)⟩) (loc := [(sSelf, .ref 1)]) fq234 (by kernel_rfl) rfl hb).trans ?_
  unfold pExpr
  cases ts with
  | nil => kernel_rfl
  | cons t r =>
    show finH _ _ (match opd t with | some x => outR (lx t.val x) L (ex2 x r) | none => .exc RErr) = outP loc L (match opd t with | some x => ex2 x r | none => none)
    generalize opd t = o
    cases o with
    | none => kernel_rfl
    | some x =>
      show finH _ _ (outR (lx t.val x) L (ex2 x r)) = outP loc L (ex2 x r)
      generalize ex2 x r = o
      generalize t.val = w
      cases o with
      | none => kernel_rfl
      | some p => kernel_rfl
end Rk
end
section
open PySem PySem.W PyProof.Rows PySem.Calls Mine
set_option maxRecDepth 100000
set_option maxHeartbeats 400000
namespace Rk
def sRl : Str := Str.ofString "range_list"
def whT : Stmt → Expr
  | .While t _ _ _ => t
  | _ => .Constant .none 0 default
def whB : Stmt → List Stmt
  | .While _ b _ _ => b
  | _ => []
def whO : Stmt → List Stmt
  | .While _ _ o _ => o
  | _ => []
theorem fq227 : T02.fns.lookup 227 = some (fq 227) := by kernel_rfl
theorem rl_b : (fq 227).body = [sq 227 0, sq 227 1, sq 227 2] := by kernel_rfl
theorem rl_w (E : Ev) (σ : St) : stR E 227 (sq 227 1) σ = whileE E (Fq 227) (whT (sq 227 1)) (whB (sq 227 1)) (whO (sq 227 1)) 200 σ := by kernel_rfl
noncomputable def rlB : Stmt := (whB (sq 227 1)).getD 0 (.Pass default)
theorem rl_wb : whB (sq 227 1) = [rlB] := by kernel_rfl
theorem rl_wo : whO (sq 227 1) = [] := by kernel_rfl
abbrev lr : List (Str × PV) := [(sSelf, .ref 1), (sRl, .ref 4)]
theorem rl_s0 (n : Nat) (L : List V) (ts : List Tk) : stR (R (n + 43 + 2)) 227 (sq 227 0) ⟨l0, HP L (tks ts)⟩ = (match pRov ts with
    | some (x, r) => .ok .next ⟨lr, HQ L (tks r) [x]⟩
    | none => .exc RErr) :=
  st_call (σ' := ⟨l0, HP L (tks ts)⟩) (fun f => by kernel_rfl) (rov_eq none n l0 L ts) (by
    generalize pRov ts = o
    cases o with
    | none => kernel_rfl
    | some p => kernel_rfl)
theorem rl_s2 (n : Nat) (L xs : List V) (r : List V) : stR (R (n + 43 + 2)) 227 (sq 227 2) ⟨lr, HQ L r xs⟩ = .ok (.ret (.v (.tuple [.str sRl, .list xs]))) ⟨lr, [.dict [(Str.ofString "tokens", .ref 3)], .inst 244 0 [], .vlist L, .vrev r, .junk]⟩ := by kernel_rfl
theorem rl_tr (n : Nat) (L xs : List V) (r : List Tk) : (R (n + 43)).tr (Fq 227) (whT (sq 227 1)) ⟨lr, HQ L (tks r) xs⟩ = (match r with
    | .comma :: r => .ok true ⟨lr, HQ L (tks r) xs⟩
    | r => .ok false ⟨lr, HQ L (tks r) xs⟩) :=
  by_head (f := fun r => (R (n + 43)).tr (Fq 227) (whT (sq 227 1)) ⟨lr, HQ L (tks r) xs⟩) (g := fun r => (match r with
    | .comma :: r => .ok true ⟨lr, HQ L (tks r) xs⟩
    | r => .ok false ⟨lr, HQ L (tks r) xs⟩)) (by kernel_rfl) (fun r => by kernel_rfl) r
theorem rl_st (n : Nat) (L xs : List V) (r : List Tk) (hf : fitsN (xs.length + 1) = true) : stR (R (n + 43 + 2)) 227 rlB ⟨lr, HQ L (tks r) xs⟩ = (match pRov r with
    | some (x, r) => .ok .next ⟨lr, HQ L (tks r) (xs ++ [x])⟩
    | none => .exc RErr) :=
  st_call (σ' := ⟨lr, HQ L (tks r) xs⟩) (fun f => by kernel_rfl) (rov_eq (some xs) n lr L r) (by
    generalize pRov r = o
    cases o with
    | none => kernel_rfl
    | some p =>
      obtain ⟨x, r⟩ := p
      have e : stR (up 2 (ovc (R (n + 43)) (outX (some xs) lr L (some (x, r))))) 227 rlB ⟨lr, HQ L (tks r) xs⟩ = (match fitsN (xs.length + 1) with
        | true => .ok (.v .none) ⟨lr, HQ L (tks r) (xs ++ [x])⟩
        | false => .no : Out PV).bind fun _ σ => .ok .next σ := by kernel_rfl
      rw [hf] at e
      exact e)
theorem wh_stop {E : Ev} {F : Fn} {t : Expr} {b o : List Stmt} {N : Nat} {σ σ' : St} (h : E.tr F t σ = .ok false σ') : whileE E F t b o (N + 1) σ = E.ex F o σ' := by
  show (E.tr F t σ).bind _ = _
  rw [h]; rfl
theorem wh_next {E : Ev} {F : Fn} {t : Expr} {b o : List Stmt} {N : Nat} {σ σ' σ'' : St} (h : E.tr F t σ = .ok true σ') (h2 : E.ex F b σ' = .ok .next σ'') : whileE E F t b o (N + 1) σ = whileE E F t b o N σ'' := by
  show (E.tr F t σ).bind _ = _
  rw [h]
  show (E.ex F b σ').bind _ = _
  rw [h2]; rfl
theorem wh_exc {E : Ev} {F : Fn} {t : Expr} {b o : List Stmt} {N : Nat} {σ σ' : St} {c : Value} (h : E.tr F t σ = .ok true σ') (h2 : E.ex F b σ' = .exc c) : whileE E F t b o (N + 1) σ = .exc c := by
  show (E.tr F t σ).bind _ = _
  rw [h]
  show (E.ex F b σ').bind _ = _
  rw [h2]; rfl
def pItems : Nat → List V → List Tk → Option (List V × List Tk)
  | 0, _, _ => none
  | N + 1, xs, r => match r with
    | .comma :: r => (match pRov r with
      | some (x, r) => pItems N (xs ++ [x]) r
      | none => none)
    | r => some (xs, r)
theorem pValue_len {ts r : List Tk} {x : V} (h : pValue ts = some (x, r)) : r.length < ts.length := by
  unfold pValue at h
  split at h
  · cases h; exact Nat.lt_succ_self _
  · cases h; exact Nat.lt_succ_self _
  · cases h
theorem rov2_len {ts r : List Tk} {x y : V} (h : rov2 x ts = some (y, r)) : r.length ≤ ts.length := by
  unfold rov2 at h
  split at h
  · split at h
    · rename_i h1; cases h; have := pValue_len h1; simp only [List.length_cons]; omega
    · cases h
  · split at h
    · rename_i h1; cases h; have := pValue_len h1; simp only [List.length_cons]; omega
    · cases h
  · cases h; exact Nat.le_refl _
theorem pRov_len {ts r : List Tk} {x : V} (h : pRov ts = some (x, r)) : r.length < ts.length := by
  unfold pRov at h
  split at h
  · cases h
  · rename_i h1
    have := pValue_len h1
    have := rov2_len h
    omega
theorem ex_bk (n : Nat) (a : Addr) (b : List Stmt) (σ : St) : (R (n + 1)).ex (Fq a) b σ = bkR (R n) a b σ := rfl
theorem fits_of {n : Nat} (h : n ≤ 100000) : fitsN n = true := Nat.ble_eq_true_of_le (Nat.le_trans h (by decide))
theorem rl_loop (n : Nat) (L : List V) : ∀ (N : Nat) (xs : List V) (r : List Tk), r.length < N → xs.length + N ≤ 10000 → whileE (R (n + 46)) (Fq 227) (whT (sq 227 1)) (whB (sq 227 1)) (whO (sq 227 1)) N ⟨lr, HQ L (tks r) xs⟩ = (match pItems N xs r with
    | some (ys, r) => .ok .next ⟨lr, HQ L (tks r) ys⟩
    | none => .exc RErr)
  | 0, xs, r, h, _ => by omega
  | N + 1, xs, r, h, hN => by
    have ht := rl_tr (n + 3) L xs r
    have stop : ∀ r : List Tk, (R (n + 3 + 43)).tr (Fq 227) (whT (sq 227 1)) ⟨lr, HQ L (tks r) xs⟩ = .ok false ⟨lr, HQ L (tks r) xs⟩ → whileE (R (n + 46)) (Fq 227) (whT (sq 227 1)) (whB (sq 227 1)) (whO (sq 227 1)) (N + 1) ⟨lr, HQ L (tks r) xs⟩ = .ok .next ⟨lr, HQ L (tks r) xs⟩ := fun r h => by
      refine (wh_stop h).trans ?_
      rw [rl_wo]; rfl
    cases r with
    | nil => exact stop [] ht
    | cons t r =>
      cases t with
      | comma =>
        show _ = (match (match pRov r with | some (x, r) => pItems N (xs ++ [x]) r | none => none) with | some (ys, r) => .ok .next ⟨lr, HQ L (tks r) ys⟩ | none => .exc RErr : Out AFlow)
        have hs := rl_st n L xs r (fits_of (by omega))
        have hl := fun x r' => @pRov_len r r' x
        revert hs hl
        generalize pRov r = o
        intro hs hl
        cases o with
        | none =>
          refine wh_exc ht ?_
          rw [rl_wb]
          exact bk_exc hs
        | some p =>
          obtain ⟨x, r'⟩ := p
          have := hl x r' rfl
          have hr : r.length + 1 < N + 1 := h
          refine (wh_next ht (by rw [rl_wb]; exact bk_next hs rfl)).trans ?_
          exact rl_loop n L N (xs ++ [x]) r' (by omega) (by rw [List.length_append]; simp only [List.length_singleton]; omega)
      | _ => exact stop _ ht
def pList (ts : List Tk) : Option (V × List Tk) := match pRov ts with
  | some (x, r) => (match pItems 200 [x] r with
    | some (ys, r) => some (.tuple [.str sRl, .list ys], r)
    | none => none)
  | none => none
theorem list_eq (n : Nat) (loc : List (Str × PV)) (L : List V) (ts : List Tk) (hl : ts.length ≤ 200) : (R (n + 49)).fn 227 [.ref 1] ⟨loc, HP L (tks ts)⟩ = outP loc L (pList ts) := by
  have hb : bkR (R (n + 47)) 227 (fq 227).body ⟨l0, HP L (tks ts)⟩ = (match pList ts with
      | some (x, r) => .ok (.ret (.v x)) ⟨lr, [.dict [(Str.ofString "tokens", .ref 3)], .inst 244 0 [], .vlist L, .vrev (tks r), .junk]⟩
      | none => .exc RErr) := by
    rw [rl_b]
    have h := rl_s0 (n + 2) L ts
    have hl2 := fun x r' => @pRov_len ts r' x
    unfold pList
    revert h hl2
    generalize pRov ts = o
    intro h hl2
    cases o with
    | none => exact bk_exc h
    | some p =>
      obtain ⟨x, r⟩ := p
      have := hl2 x r rfl
      refine bk_next h ?_
      have hlp := (rl_w (R (n + 47)) ⟨lr, HQ L (tks r) [x]⟩).trans (rl_loop (n + 1) L 200 [x] r (by omega) (by show 1 + 200 ≤ 10000; decide))
      show _ = (match (match pItems 200 [x] r with | some (ys, r) => some (PyData.tuple [.str sRl, .list ys], r) | none => none) with
      | some (x, r) => .ok (.ret (.v x)) ⟨lr, [.dict [(Str.ofString "tokens", .ref 3)], .inst 244 0 [], .vlist L, .vrev (tks r), .junk]⟩
      | none => .exc RErr : Out AFlow)
      revert hlp
      generalize pItems 200 [x] r = o
      intro hlp
      cases o with
      | none => exact bk_exc hlp
      | some p =>
        obtain ⟨ys, r2⟩ := p
        exact bk_next hlp (bk_ret (rl_s2 (n + 2) L ys (tks r2)))
  refine (fn_H (n := n + 47) (σ := ⟨loc, HP L (tks ts)⟩) (loc := [(sSelf, .ref 1)]) fq227 (by kernel_rfl) rfl hb).trans ?_
  generalize pList ts = o
  cases o with
  | none => kernel_rfl
  | some p => kernel_rfl
end Rk
end
section
open PySem PySem.W PyProof.Rows PySem.Calls Mine
set_option maxRecDepth 100000
set_option maxHeartbeats 400000
namespace Rk
def kCons (p : PV) (o : Out (List PV)) : Out (List PV) := o.bind fun ps σ => .ok (p :: ps) σ
def kOne (o : Out PV) : Out (List PV) := o.bind fun p σ => (Out.ok [] σ : Out (List PV)).bind fun ps σ => .ok (p :: ps) σ
def kTup (o : Out (List PV)) : Out PV := o.bind fun ps σ => tupE ps σ
noncomputable def kAsg (a : Addr) (x : Str) (o : Out PV) : Out AFlow := o.bind fun p σ => (storeE (Fq a) x p σ).bind fun _ σ => .ok .next σ
def kRet (o : Out PV) : Out AFlow := o.bind fun p σ => .ok (.ret p) σ
theorem st_callK {k n : Nat} {a b : Addr} {s : Stmt} {σ σ' : St} {args : List PV} {o : Out PV} {o' : Out AFlow} (K : Out PV → Out AFlow) (ht : ∀ f, stR (up k (ov (R n) f)) a s σ = K (f b args σ')) (h : (R n).fn b args σ' = o)
    (he : K o = o') : stR (R (n + k)) a s σ = o' := by
  have e := ht (R n).fn
  rw [ov_self, up_R, h] at e
  exact e.trans he
def sNeg : Str := Str.ofString "negated"
def sMeth : Str := Str.ofString "method"
def sRv : Str := Str.ofString "rv"
def sOp : Str := Str.ofString "op"
def sIn : Str := Str.ofString "in"
def sWithin : Str := Str.ofString "within"
def relV (m : Str) (x y : V) : V := .tuple [.str (Str.ofString "relation"), .tuple [.str m, x, y]]
def notV (x : V) : V := .tuple [.str (Str.ofString "not"), .tuple [x]]
theorem fq213 : T02.fns.lookup 213 = some (fq 213) := by kernel_rfl
theorem nf_b : (fq 213).body = [sq 213 0, sq 213 1, sq 213 2] := by kernel_rfl
abbrev lN (x : V) : List (Str × PV) := [(sLeft, .v x), (sSelf, .ref 1)]
abbrev ln (x : V) (b : Bool) : List (Str × PV) := [(sLeft, .v x), (sSelf, .ref 1), (sNeg, .v (.bool b))]
def nf0 (x : V) (L : V → List V) (r : List Tk) : Out AFlow := match r with
  | .eq :: r => .ok .next ⟨ln x false, HP (L x) (tks r)⟩
  | .ne :: r => .ok .next ⟨ln x true, HP (L x) (tks r)⟩
  | _ => .exc RErr
theorem nf_s0 (n : Nat) (L : List V) (x : V) (r : List Tk) : stR (R (n + 40)) 213 (sq 213 0) ⟨lN x, HP L (tks r)⟩ = nf0 x (fun _ => L) r :=
  by_head (f := fun r => stR (R (n + 40)) 213 (sq 213 0) ⟨lN x, HP L (tks r)⟩) (g := fun r => nf0 x (fun _ => L) r) (by kernel_rfl) (fun r => by kernel_rfl) r
theorem nf_s1 (n : Nat) (L : List V) (x : V) (b : Bool) (r : List Tk) (hl : r.length ≤ 200) : stR (R (n + 49 + 3)) 213 (sq 213 1) ⟨ln x b, HP L (tks r)⟩ = (match pList r with
    | some (y, r) => .ok .next ⟨ln x b ++ [(sRv, .v (relV sIn x y))], HP L (tks r)⟩
    | none => .exc RErr) :=
  st_callK (σ' := ⟨ln x b, HP L (tks r)⟩) (fun o => kAsg 213 sRv (kTup (kCons (.v (.str (Str.ofString "relation"))) (kOne (kTup (kCons (.v (.str sIn)) (kCons (.v x) (kOne o)))))))) (fun f => by kernel_rfl) (list_eq n (ln x b) L r hl) (by
    generalize pList r = o
    cases o with
    | none => kernel_rfl
    | some p => kernel_rfl)
theorem nf_s2 (n : Nat) (L : List V) (x y : V) (b : Bool) (r : List V) : stR (R (n + 49 + 3)) 213 (sq 213 2) ⟨ln x b ++ [(sRv, .v y)], HP L r⟩ = .ok (.ret (.v (match b with | true => notV y | false => y))) ⟨ln x b ++ [(sRv, .v y)], HP L r⟩ := by
  cases b <;> kernel_rfl
def pNeg (b : Bool) (m : Str) (x : V) (r : List Tk) : Option (V × List Tk) := match pList r with
  | some (y, r) => some (match b with | true => notV (relV m x y) | false => relV m x y, r)
  | none => none
def pNewf (x : V) (r : List Tk) : Option (V × List Tk) := match r with
  | .eq :: r => pNeg false sIn x r
  | .ne :: r => pNeg true sIn x r
  | _ => none
theorem nf_tail (n : Nat) (L : List V) (x : V) (b : Bool) (r : List Tk) (hl : r.length ≤ 200) : ∃ loc : V → List (Str × PV), bkR (R (n + 49 + 3)) 213 [sq 213 1, sq 213 2] ⟨ln x b, HP L (tks r)⟩ = (match pNeg b sIn x r with
    | some (y, r) => .ok (.ret (.v y)) ⟨loc y, HP L (tks r)⟩
    | none => .exc RErr) := by
  have h := nf_s1 n L x b r hl
  unfold pNeg
  revert h
  generalize pList r = o
  intro h
  cases o with
  | none => exact ⟨fun _ => [], bk_exc h⟩
  | some p =>
    obtain ⟨y, r'⟩ := p
    exact ⟨fun _ => _, bk_next h (bk_ret (nf_s2 n L x (relV sIn x y) b (tks r')))⟩
theorem newf_eq (n : Nat) (loc : List (Str × PV)) (L : List V) (x : V) (r : List Tk) (hl : r.length ≤ 200) : (R (n + 54)).fn 213 [.ref 1, .v x] ⟨loc, HP L (tks r)⟩ = outP loc L (pNewf x r) := by
  have hb : ∃ loc : V → List (Str × PV), bkR (R (n + 49 + 3)) 213 (fq 213).body ⟨lN x, HP L (tks r)⟩ = (match pNewf x r with
      | some (y, r) => .ok (.ret (.v y)) ⟨loc y, HP L (tks r)⟩
      | none => .exc RErr) := by
    rw [nf_b]
    have h := nf_s0 (n + 12) L x r
    have stop : ∀ r, nf0 x (fun _ => L) r = .exc RErr → stR (R (n + 12 + 40)) 213 (sq 213 0) ⟨lN x, HP L (tks r)⟩ = nf0 x (fun _ => L) r → bkR (R (n + 49 + 3)) 213 [sq 213 0, sq 213 1, sq 213 2] ⟨lN x, HP L (tks r)⟩ = .exc RErr := fun r e h => bk_exc (h.trans e)
    cases r with
    | nil => exact ⟨fun _ => [], stop _ rfl h⟩
    | cons t r =>
      have hr : r.length ≤ 200 := Nat.le_of_succ_le hl
      cases t with
      | eq =>
        obtain ⟨loc, h2⟩ := nf_tail n L x false r hr
        exact ⟨loc, bk_next h h2⟩
      | ne =>
        obtain ⟨loc, h2⟩ := nf_tail n L x true r hr
        exact ⟨loc, bk_next h h2⟩
      | _ => exact ⟨fun _ => [], stop _ rfl h⟩
  obtain ⟨loc', hb⟩ := hb
  refine (fn_H (n := n + 49 + 3) (σ := ⟨loc, HP L (tks r)⟩) (loc := [(sSelf, .ref 1), (sLeft, .v x)]) fq213 (by kernel_rfl) rfl hb).trans ?_
  generalize pNewf x r = o
  cases o with
  | none => kernel_rfl
  | some p => kernel_rfl
end Rk
end
section
open PySem PySem.W PyProof.Rows PySem.Calls Mine
set_option maxRecDepth 100000
set_option maxHeartbeats 400000
namespace Rk
theorem fq206 : T02.fns.lookup 206 = some (fq 206) := by kernel_rfl
theorem re_b : (fq 206).body = [sq 206 0] ++ ([sq 206 1, sq 206 2, sq 206 3] ++ ([sq 206 4] ++ [sq 206 5, sq 206 6])) := by kernel_rfl
theorem re_s0 (n : Nat) (L : List V) (ts : List Tk) : stR (R (n + 42 + 1)) 206 (sq 206 0) ⟨l0, HP L (tks ts)⟩ = outN l1 L (pExpr ts) :=
  st_callK (σ' := ⟨l0, HP L (tks ts)⟩) (fun o => kAsg 206 sLeft o) (fun f => by kernel_rfl) (expr_eq n l0 L ts) (by
    generalize pExpr ts = o
    cases o with
    | none => kernel_rfl
    | some p => kernel_rfl)
abbrev lre (x neg : V) (m : Str) : List (Str × PV) := [(sSelf, .ref 1), (sLeft, .v x), (sNeg, .v neg), (sMeth, .v (.str m))]
def isV (o : Str) (x y : V) : V := .tuple [.str o, .tuple [x, y]]
def sIs : Str := Str.ofString "is"
def sIsnot : Str := Str.ofString "isnot"
/-- the word is, and what follows -/
def isT (x : V) (r : List Tk) : Option (Str × V × List Tk) := match r with
  | .not :: r => (match pValue r with
    | some (y, r) => some (sIsnot, y, r)
    | none => none)
  | r => (match pValue r with
    | some (y, r) => some (sIs, y, r)
    | none => none)
def re13 (x : V) (L : V → List V) (r : List Tk) : Out AFlow := match r with
  | .is :: r => (match isT x r with
    | some (o, y, r) => .ok (.ret (.v (isV o x y))) ⟨[(sSelf, .ref 1), (sLeft, .v x), (sOp, .v (.str o))], HP (L x) (tks r)⟩
    | none => .exc RErr)
  | .not :: r => .ok .next ⟨lre x Tk.not.val sIn, HP (L x) (tks r)⟩
  | r => .ok .next ⟨lre x .none sIn, HP (L x) (tks r)⟩
def noI : List Tk := [.n, .i, .f, .v, .mod, .isin, .within, .and, .or, .not, .pct, .eq, .ne, .comma, .dots, .ell, .v7, .v40]
theorem re_13a (n : Nat) (L : List V) (x : V) (r : List Tk) : (noI.map fun t => bkR (R (n + 45)) 206 [sq 206 1, sq 206 2, sq 206 3] ⟨l1 x, HP L (tks (t :: r))⟩) = noI.map fun t => re13 x (fun _ => L) (t :: r) := by kernel_rfl
theorem re_13n (n : Nat) (L : List V) (x : V) : bkR (R (n + 45)) 206 [sq 206 1, sq 206 2, sq 206 3] ⟨l1 x, HP L (tks [])⟩ = re13 x (fun _ => L) [] := by kernel_rfl
theorem re_13i (n : Nat) (L : List V) (x : V) (r : List Tk) : bkR (R (n + 45)) 206 [sq 206 1, sq 206 2, sq 206 3] ⟨l1 x, HP L (tks (.is :: r))⟩ = re13 x (fun _ => L) (.is :: r) :=
  by_pats (f := fun r => bkR (R (n + 45)) 206 [sq 206 1, sq 206 2, sq 206 3] ⟨l1 x, HP L (tks (.is :: r))⟩) (g := fun r => re13 x (fun _ => L) (.is :: r)) [.not] (by kernel_rfl) (fun r => by kernel_rfl) r
theorem re_13 (n : Nat) (L : List V) (x : V) (r : List Tk) : bkR (R (n + 45)) 206 [sq 206 1, sq 206 2, sq 206 3] ⟨l1 x, HP L (tks r)⟩ = re13 x (fun _ => L) r := by
  cases r with
  | nil => exact re_13n n L x
  | cons t r =>
    have h := map_at (f := fun t => bkR (R (n + 45)) 206 [sq 206 1, sq 206 2, sq 206 3] ⟨l1 x, HP L (tks (t :: r))⟩) (g := fun t => re13 x (fun _ => L) (t :: r)) (re_13a n L x r) t
    cases t with
    | is => exact re_13i n L x r
    | _ => exact h (by simp [noI])
/-- the way of the relation -/
def re4 (x neg : V) (L : V → List V) (r : List Tk) : Out AFlow := match r with
  | .within :: r => .ok .next ⟨lre x neg sWithin, HP (L x) (tks r)⟩
  | .isin :: r => .ok .next ⟨lre x neg sIn, HP (L x) (tks r)⟩
  | _ => .exc RErr
theorem re_4n (n : Nat) (L : List V) (x : V) (r : List Tk) : stR (R (n + 50)) 206 (sq 206 4) ⟨lre x Tk.not.val sIn, HP L (tks r)⟩ = re4 x Tk.not.val (fun _ => L) r :=
  by_head (f := fun r => stR (R (n + 50)) 206 (sq 206 4) ⟨lre x Tk.not.val sIn, HP L (tks r)⟩) (g := fun r => re4 x Tk.not.val (fun _ => L) r) (by kernel_rfl) (fun r => by kernel_rfl) r
theorem re_4w (n : Nat) (L : List V) (x : V) (r : List Tk) : ([Tk.within, .isin].map fun t => stR (R (n + 50)) 206 (sq 206 4) ⟨lre x .none sIn, HP L (tks (t :: r))⟩) = [Tk.within, .isin].map fun t => re4 x .none (fun _ => L) (t :: r) := by kernel_rfl
def noW : List Tk := [.n, .i, .f, .v, .mod, .is, .and, .or, .not, .pct, .eq, .ne, .comma, .dots, .ell, .v7, .v40]
def kBlk (o : Out AFlow) : Out AFlow := o.bind fun f σ => match f with
  | .next => .ok .next σ
  | f => .ok f σ
theorem re_4o (f) (n : Nat) (L : List V) (x : V) (r : List Tk) : (noW.map fun t => stR (up 3 (ov (R (n + 54)) f)) 206 (sq 206 4) ⟨lre x .none sIn, HP L (tks (t :: r))⟩) = noW.map fun t => kBlk (kBlk (kRet (f 213 [.ref 1, .v x] ⟨lre x .none sIn, HP L (tks (t :: r))⟩))) := by kernel_rfl
theorem re_4e (f) (n : Nat) (L : List V) (x : V) : stR (up 3 (ov (R (n + 54)) f)) 206 (sq 206 4) ⟨lre x .none sIn, HP L (tks [])⟩ = kBlk (kBlk (kRet (f 213 [.ref 1, .v x] ⟨lre x .none sIn, HP L (tks [])⟩))) := by kernel_rfl
/-- no word of the old ways -/
def oldW : List Tk → Bool
  | .within :: _ => true
  | .isin :: _ => true
  | _ => false
theorem re_4f (n : Nat) (L : List V) (x : V) (r : List Tk) (hl : r.length ≤ 200) (ho : oldW r = false) : stR (R (n + 57)) 206 (sq 206 4) ⟨lre x .none sIn, HP L (tks r)⟩ = outR (lre x .none sIn) L (pNewf x r) := by
  refine st_callK (n := n + 54) (k := 3) (fun o => kBlk (kBlk (kRet o))) (fun f => ?_) (newf_eq n (lre x .none sIn) L x r hl) ?_
  · cases r with
    | nil => exact re_4e f n L x
    | cons t r =>
      have h := map_at (f := fun t => stR (up 3 (ov (R (n + 54)) f)) 206 (sq 206 4) ⟨lre x .none sIn, HP L (tks (t :: r))⟩) (g := fun t => kBlk (kBlk (kRet (f 213 [.ref 1, .v x] ⟨lre x .none sIn, HP L (tks (t :: r))⟩)))) (re_4o f n L x r) t
      cases t with
      | within => cases ho
      | isin => cases ho
      | _ => exact h (by simp [noW])
  · generalize pNewf x r = o
    cases o with
    | none => rfl
    | some p => rfl
theorem re_s5 (n : Nat) (L : List V) (x neg : V) (m : Str) (r : List Tk) (hl : r.length ≤ 200) : stR (R (n + 49 + 3)) 206 (sq 206 5) ⟨lre x neg m, HP L (tks r)⟩ = (match pList r with
    | some (y, r) => .ok .next ⟨lre x neg m ++ [(sRv, .v (relV m x y))], HP L (tks r)⟩
    | none => .exc RErr) :=
  st_callK (σ' := ⟨lre x neg m, HP L (tks r)⟩) (fun o => kAsg 206 sRv (kTup (kCons (.v (.str (Str.ofString "relation"))) (kOne (kTup (kCons (.v (.str m)) (kCons (.v x) (kOne o)))))))) (fun f => by kernel_rfl) (list_eq n (lre x neg m) L r hl) (by
    generalize pList r = o
    cases o with
    | none => kernel_rfl
    | some p => kernel_rfl)
theorem re_s6n (n : Nat) (L : List V) (x y : V) (m : Str) (r : List V) : stR (R (n + 52)) 206 (sq 206 6) ⟨lre x .none m ++ [(sRv, .v y)], HP L r⟩ = .ok (.ret (.v y)) ⟨lre x .none m ++ [(sRv, .v y)], HP L r⟩ := by kernel_rfl
theorem re_s6t (n : Nat) (L : List V) (x y : V) (m : Str) (r : List V) : stR (R (n + 52)) 206 (sq 206 6) ⟨lre x Tk.not.val m ++ [(sRv, .v y)], HP L r⟩ = .ok (.ret (.v (notV y))) ⟨lre x Tk.not.val m ++ [(sRv, .v y)], HP L r⟩ := by kernel_rfl
def negV (b : Bool) : V := match b with
  | true => Tk.not.val
  | false => .none
theorem re_56 (n : Nat) (L : List V) (x : V) (b : Bool) (m : Str) (r : List Tk) (hl : r.length ≤ 200) : ∃ loc : V → List (Str × PV), bkR (R (n + 52)) 206 [sq 206 5, sq 206 6] ⟨lre x (negV b) m, HP L (tks r)⟩ = (match pNeg b m x r with
    | some (y, r) => .ok (.ret (.v y)) ⟨loc y, HP L (tks r)⟩
    | none => .exc RErr) := by
  have h := re_s5 n L x (negV b) m r hl
  unfold pNeg
  revert h
  generalize pList r = o
  intro h
  cases o with
  | none => exact ⟨fun _ => [], bk_exc h⟩
  | some p =>
    obtain ⟨y, r'⟩ := p
    cases b with
    | true => exact ⟨fun _ => _, bk_next h (bk_ret (re_s6t n L x (relV m x y) m (tks r')))⟩
    | false => exact ⟨fun _ => _, bk_next h (bk_ret (re_s6n n L x (relV m x y) m (tks r')))⟩
/-- a relation behind its operand -/
def pRel2 (x : V) (r : List Tk) : Option (V × List Tk) := match r with
  | .is :: r => (match isT x r with
    | some (o, y, r) => some (isV o x y, r)
    | none => none)
  | .not :: .within :: r => pNeg true sWithin x r
  | .not :: .isin :: r => pNeg true sIn x r
  | .not :: _ => none
  | .within :: r => pNeg false sWithin x r
  | .isin :: r => pNeg false sIn x r
  | r => pNewf x r
theorem re_old (n : Nat) (L : List V) (x : V) (b : Bool) (m : Str) (r r0 : List Tk) (hl : r.length ≤ 200) (h : stR (R (n + 57)) 206 (sq 206 4) ⟨lre x (negV b) sIn, HP L (tks r0)⟩ = .ok .next ⟨lre x (negV b) m, HP L (tks r)⟩) :
    ∃ loc : V → List (Str × PV), bkR (R (n + 57)) 206 ([sq 206 4] ++ [sq 206 5, sq 206 6]) ⟨lre x (negV b) sIn, HP L (tks r0)⟩ = (match pNeg b m x r with
    | some (y, r) => .ok (.ret (.v y)) ⟨loc y, HP L (tks r)⟩
    | none => .exc RErr) := by
  obtain ⟨loc, h2⟩ := re_56 (n + 5) L x b m r hl
  exact ⟨loc, bk_next h h2⟩
end Rk
end
section
open PySem PySem.W PyProof.Rows PySem.Calls Mine
set_option maxRecDepth 100000
set_option maxHeartbeats 400000
namespace Rk
def outE (loc : V → List (Str × PV)) (L : List V) (o : Option (V × List Tk)) : Out AFlow := match o with
  | some (y, r) => .ok (.ret (.v y)) ⟨loc y, HP L (tks r)⟩
  | none => .exc RErr
theorem ex2_len {r r' : List Tk} {x : Str} {y : V} (h : ex2 x r = some (y, r')) : r'.length ≤ r.length := by
  unfold ex2 at h
  split at h
  · split at h
    · rename_i h1; cases h; have := pValue_len h1; simp only [List.length_cons]; omega
    · cases h
  · split at h
    · rename_i h1; cases h; have := pValue_len h1; simp only [List.length_cons]; omega
    · cases h
  · cases h; exact Nat.le_refl _
theorem pExpr_len {ts r : List Tk} {x : V} (h : pExpr ts = some (x, r)) : r.length < ts.length := by
  unfold pExpr at h
  split at h
  · cases h
  · split at h
    · have := ex2_len h; simp only [List.length_cons]; omega
    · cases h
theorem re_all (n : Nat) (L : List V) (x : V) (r : List Tk) (hl : r.length ≤ 200) : ∃ loc, bkR (R (n + 57)) 206 ([sq 206 1, sq 206 2, sq 206 3] ++ ([sq 206 4] ++ [sq 206 5, sq 206 6])) ⟨l1 x, HP L (tks r)⟩ = outE loc L (pRel2 x r) := by
  have h := re_13 (n + 12) L x r
  have new : ∀ r : List Tk, r.length ≤ 200 → oldW r = false → bkR (R (n + 12 + 45)) 206 [sq 206 1, sq 206 2, sq 206 3] ⟨l1 x, HP L (tks r)⟩ = .ok .next ⟨lre x .none sIn, HP L (tks r)⟩ →
      ∃ loc, bkR (R (n + 57)) 206 ([sq 206 1, sq 206 2, sq 206 3] ++ ([sq 206 4] ++ [sq 206 5, sq 206 6])) ⟨l1 x, HP L (tks r)⟩ = outE loc L (pNewf x r) := fun r hl ho h => by
    have h4 := re_4f n L x r hl ho
    revert h4
    generalize pNewf x r = o
    intro h4
    cases o with
    | none => exact ⟨fun _ => [], bk_app_next h (bk_app_exc (bk_exc h4))⟩
    | some p => exact ⟨fun _ => _, bk_app_next h (bk_app_ret (bk_ret h4))⟩
  cases r with
  | nil => exact new [] hl rfl h
  | cons t r =>
    have hr : r.length ≤ 200 := Nat.le_of_succ_le hl
    cases t with
    | is =>
      show ∃ loc, _ = outE loc L (match isT x r with | some (o, y, r) => some (isV o x y, r) | none => none)
      have h : _ = (match isT x r with
        | some (o, y, r) => .ok (.ret (.v (isV o x y))) ⟨[(sSelf, .ref 1), (sLeft, .v x), (sOp, .v (.str o))], HP L (tks r)⟩
        | none => .exc RErr : Out AFlow) := h
      revert h
      generalize isT x r = o
      intro h
      cases o with
      | none => exact ⟨fun _ => [], bk_app_exc h⟩
      | some p => obtain ⟨o, y, r⟩ := p; exact ⟨fun _ => _, bk_app_ret h⟩
    | «within» =>
      obtain ⟨loc, h2⟩ := re_old n L x false sWithin r (.within :: r) hr (map_at (f := fun t => stR (R (n + 57)) 206 (sq 206 4) ⟨lre x .none sIn, HP L (tks (t :: r))⟩) (g := fun t => re4 x .none (fun _ => L) (t :: r)) (re_4w (n + 7) L x r) .within (by simp))
      exact ⟨loc, bk_app_next h h2⟩
    | isin =>
      obtain ⟨loc, h2⟩ := re_old n L x false sIn r (.isin :: r) hr (map_at (f := fun t => stR (R (n + 57)) 206 (sq 206 4) ⟨lre x .none sIn, HP L (tks (t :: r))⟩) (g := fun t => re4 x .none (fun _ => L) (t :: r)) (re_4w (n + 7) L x r) .isin (by simp))
      exact ⟨loc, bk_app_next h h2⟩
    | not =>
      have h4 := re_4n (n + 7) L x r
      have bad : ∀ r : List Tk, re4 x Tk.not.val (fun _ => L) r = .exc RErr → stR (R (n + 7 + 50)) 206 (sq 206 4) ⟨lre x Tk.not.val sIn, HP L (tks r)⟩ = re4 x Tk.not.val (fun _ => L) r → bkR (R (n + 57)) 206 [sq 206 1, sq 206 2, sq 206 3] ⟨l1 x, HP L (tks (.not :: r))⟩ = .ok .next ⟨lre x Tk.not.val sIn, HP L (tks r)⟩ →
          bkR (R (n + 57)) 206 ([sq 206 1, sq 206 2, sq 206 3] ++ ([sq 206 4] ++ [sq 206 5, sq 206 6])) ⟨l1 x, HP L (tks (.not :: r))⟩ = .exc RErr := fun r e h4 h => bk_app_next h (bk_app_exc (bk_exc (h4.trans e)))
      cases r with
      | nil => exact ⟨fun _ => [], bad [] rfl h4 h⟩
      | cons u r =>
        have hr3 : r.length ≤ 200 := Nat.le_of_succ_le hr
        cases u with
        | «within» =>
          obtain ⟨loc, h2⟩ := re_old n L x true sWithin r (.within :: r) hr3 h4
          exact ⟨loc, bk_app_next h h2⟩
        | isin =>
          obtain ⟨loc, h2⟩ := re_old n L x true sIn r (.isin :: r) hr3 h4
          exact ⟨loc, bk_app_next h h2⟩
        | _ => exact ⟨fun _ => [], bad _ rfl h4 h⟩
    | _ => exact new _ hl rfl h
def pRel (ts : List Tk) : Option (V × List Tk) := match pExpr ts with
  | some (x, r) => pRel2 x r
  | none => none
theorem rel_eq (n : Nat) (loc : List (Str × PV)) (L : List V) (ts : List Tk) (hl : ts.length ≤ 200) : (R (n + 59)).fn 206 [.ref 1] ⟨loc, HP L (tks ts)⟩ = outP loc L (pRel ts) := by
  have hb : ∃ loc, bkR (R (n + 57)) 206 (fq 206).body ⟨l0, HP L (tks ts)⟩ = outE loc L (pRel ts) := by
    rw [re_b]
    have h := re_s0 (n + 14) L ts
    have hl2 := fun x r' => @pExpr_len ts r' x
    unfold pRel
    revert h hl2
    generalize pExpr ts = o
    intro h hl2
    cases o with
    | none => exact ⟨fun _ => [], bk_app_exc (bk_exc h)⟩
    | some p =>
      obtain ⟨x, r⟩ := p
      have := hl2 x r rfl
      obtain ⟨loc, h2⟩ := re_all n L x r (by omega)
      exact ⟨loc, bk_app_next (bk_next h rfl) h2⟩
  obtain ⟨loc', hb⟩ := hb
  refine (fn_H (n := n + 57) (σ := ⟨loc, HP L (tks ts)⟩) (loc := [(sSelf, .ref 1)]) fq206 (by kernel_rfl) rfl hb).trans ?_
  generalize pRel ts = o
  cases o with
  | none => kernel_rfl
  | some p => kernel_rfl
theorem pValue_len' {ts r : List Tk} {x : V} (h : pValue ts = some (x, r)) : r.length < ts.length := pValue_len h
theorem pItems_len : ∀ {N : Nat} {xs ys : List V} {r r' : List Tk}, pItems N xs r = some (ys, r') → r'.length ≤ r.length
  | 0, _, _, _, _, h => by cases h
  | N + 1, xs, ys, r, r', h => by
    unfold pItems at h
    split at h
    · split at h
      · rename_i h1
        have := pRov_len h1
        have := pItems_len h
        simp only [List.length_cons]; omega
      · cases h
    · cases h; exact Nat.le_refl _
theorem pList_len {ts r : List Tk} {x : V} (h : pList ts = some (x, r)) : r.length < ts.length := by
  unfold pList at h
  split at h
  · rename_i h1
    have := pRov_len h1
    split at h
    · rename_i h2
      have := pItems_len h2
      cases h; omega
    · cases h
  · cases h
theorem pNeg_len {b : Bool} {m : Str} {x y : V} {ts r : List Tk} (h : pNeg b m x ts = some (y, r)) : r.length < ts.length := by
  unfold pNeg at h
  split at h
  · rename_i h1; have := pList_len h1; cases h; exact this
  · cases h
theorem isT_len {x y : V} {o : Str} {ts r : List Tk} (h : isT x ts = some (o, y, r)) : r.length < ts.length := by
  unfold isT at h
  split at h
  · split at h
    · rename_i h1; have := pValue_len h1; cases h; simp only [List.length_cons]; omega
    · cases h
  · split at h
    · rename_i h1; have := pValue_len h1; cases h; exact this
    · cases h
theorem pRel2_len {x y : V} {ts r : List Tk} (h : pRel2 x ts = some (y, r)) : r.length ≤ ts.length := by
  unfold pRel2 at h
  split at h
  · split at h
    · rename_i h1; have := isT_len h1; cases h; simp only [List.length_cons]; omega
    · cases h
  · have := pNeg_len h; simp only [List.length_cons]; omega
  · have := pNeg_len h; simp only [List.length_cons]; omega
  · cases h
  · have := pNeg_len h; simp only [List.length_cons]; omega
  · have := pNeg_len h; simp only [List.length_cons]; omega
  · unfold pNewf at h
    split at h
    · have := pNeg_len h; simp only [List.length_cons]; omega
    · have := pNeg_len h; simp only [List.length_cons]; omega
    · cases h
theorem pRel_len {ts r : List Tk} {x : V} (h : pRel ts = some (x, r)) : r.length < ts.length := by
  unfold pRel at h
  split at h
  · rename_i h1
    have := pExpr_len h1
    have := pRel2_len h
    omega
  · cases h
abbrev lop (x : V) : List (Str × PV) := [(sSelf, .ref 1), (sOp, .v x)]

def anV (x y : V) : V := .tuple [.str (Str.ofString "and"), .tuple [x, y]]
def pAnds : Nat → V → List Tk → Option (V × List Tk)
  | 0, _, _ => none
  | N + 1, x, r => match r with
    | .and :: r => (match pRel r with
      | some (y, r) => pAnds N (anV x y) r
      | none => none)
    | r => some (x, r)
theorem fq199 : T02.fns.lookup 199 = some (fq 199) := by kernel_rfl
theorem an_b : (fq 199).body = [sq 199 0, sq 199 1, sq 199 2] := by kernel_rfl
theorem an_w (E : Ev) (σ : St) : stR E 199 (sq 199 1) σ = whileE E (Fq 199) (whT (sq 199 1)) (whB (sq 199 1)) (whO (sq 199 1)) 200 σ := by kernel_rfl
noncomputable def anB : Stmt := (whB (sq 199 1)).getD 0 (.Pass default)
theorem an_wb : whB (sq 199 1) = [anB] := by kernel_rfl
theorem an_wo : whO (sq 199 1) = [] := by kernel_rfl
theorem an_s0 (n : Nat) (L : List V) (ts : List Tk) (hl : ts.length ≤ 200) : stR (R (n + 59 + 1)) 199 (sq 199 0) ⟨l0, HP L (tks ts)⟩ = outN lop L (pRel ts) :=
  st_callK (σ' := ⟨l0, HP L (tks ts)⟩) (fun o => kAsg 199 sOp o) (fun f => by kernel_rfl) (rel_eq n l0 L ts hl) (by
    generalize pRel ts = o
    cases o with
    | none => kernel_rfl
    | some p => kernel_rfl)
theorem an_s2 (n : Nat) (L : List V) (x : V) (r : List V) : stR (R (n + 50)) 199 (sq 199 2) ⟨lop x, HP L r⟩ = .ok (.ret (.v x)) ⟨lop x, HP L r⟩ := by kernel_rfl
theorem an_tr (n : Nat) (L : List V) (x : V) (r : List Tk) : (R (n + 50)).tr (Fq 199) (whT (sq 199 1)) ⟨lop x, HP L (tks r)⟩ = (match r with
    | .and :: r => .ok true ⟨lop x, HP L (tks r)⟩
    | r => .ok false ⟨lop x, HP L (tks r)⟩) :=
  by_head (f := fun r => (R (n + 50)).tr (Fq 199) (whT (sq 199 1)) ⟨lop x, HP L (tks r)⟩) (g := fun r => (match r with
    | .and :: r => .ok true ⟨lop x, HP L (tks r)⟩
    | r => .ok false ⟨lop x, HP L (tks r)⟩)) (by kernel_rfl) (fun r => by kernel_rfl) r
theorem an_st (n : Nat) (L : List V) (x : V) (r : List Tk) (hl : r.length ≤ 200) : stR (R (n + 59 + 3)) 199 anB ⟨lop x, HP L (tks r)⟩ = (match pRel r with
    | some (y, r) => .ok .next ⟨lop (anV x y), HP L (tks r)⟩
    | none => .exc RErr) :=
  st_callK (σ' := ⟨lop x, HP L (tks r)⟩) (fun o => kAsg 199 sOp (kTup (kCons (.v (.str (Str.ofString "and"))) (kOne (kTup (kCons (.v x) (kOne o))))))) (fun f => by kernel_rfl) (rel_eq n (lop x) L r hl) (by
    generalize pRel r = o
    cases o with
    | none => kernel_rfl
    | some p => kernel_rfl)
theorem an_loop (n : Nat) (L : List V) : ∀ (N : Nat) (x : V) (r : List Tk), r.length < N → r.length ≤ 200 → whileE (R (n + 63)) (Fq 199) (whT (sq 199 1)) (whB (sq 199 1)) (whO (sq 199 1)) N ⟨lop x, HP L (tks r)⟩ = (match pAnds N x r with
    | some (y, r) => .ok .next ⟨lop y, HP L (tks r)⟩
    | none => .exc RErr)
  | 0, x, r, h, _ => by omega
  | N + 1, x, r, h, hN => by
    have ht := an_tr (n + 13) L x r
    have stop : ∀ r : List Tk, (R (n + 13 + 50)).tr (Fq 199) (whT (sq 199 1)) ⟨lop x, HP L (tks r)⟩ = .ok false ⟨lop x, HP L (tks r)⟩ → whileE (R (n + 63)) (Fq 199) (whT (sq 199 1)) (whB (sq 199 1)) (whO (sq 199 1)) (N + 1) ⟨lop x, HP L (tks r)⟩ = .ok .next ⟨lop x, HP L (tks r)⟩ := fun r h => by
      refine (wh_stop h).trans ?_
      rw [an_wo]; rfl
    cases r with
    | nil => exact stop [] ht
    | cons t r =>
      cases t with
      | and =>
        show _ = (match (match pRel r with | some (y, r) => pAnds N (anV x y) r | none => none) with | some (y, r) => .ok .next ⟨lop y, HP L (tks r)⟩ | none => .exc RErr : Out AFlow)
        have hr : r.length + 1 < N + 1 := h
        have hr2 : r.length + 1 ≤ 200 := hN
        have hs := an_st n L x r (by omega)
        have hl := fun x r' => @pRel_len r r' x
        revert hs hl
        generalize pRel r = o
        intro hs hl
        cases o with
        | none =>
          refine wh_exc ht ?_
          rw [an_wb]
          exact bk_exc hs
        | some p =>
          obtain ⟨y, r'⟩ := p
          have := hl y r' rfl
          refine (wh_next ht (by rw [an_wb]; exact bk_next hs rfl)).trans ?_
          exact an_loop n L N (anV x y) r' (by omega) (by omega)
      | _ => exact stop _ ht
def pAnd (ts : List Tk) : Option (V × List Tk) := match pRel ts with
  | some (x, r) => pAnds 200 x r
  | none => none
theorem pAnds_len : ∀ {N : Nat} {x y : V} {r r' : List Tk}, pAnds N x r = some (y, r') → r'.length ≤ r.length
  | 0, _, _, _, _, h => by cases h
  | N + 1, x, y, r, r', h => by
    unfold pAnds at h
    split at h
    · split at h
      · rename_i h1
        have := pRel_len h1
        have := pAnds_len h
        simp only [List.length_cons]; omega
      · cases h
    · cases h; exact Nat.le_refl _
theorem pAnd_len {ts r : List Tk} {x : V} (h : pAnd ts = some (x, r)) : r.length < ts.length := by
  unfold pAnd at h
  split at h
  · rename_i h1
    have := pRel_len h1
    have := pAnds_len h
    omega
  · cases h
theorem an_eq (n : Nat) (loc : List (Str × PV)) (L : List V) (ts : List Tk) (hl : ts.length ≤ 200) : (R (n + 65)).fn 199 [.ref 1] ⟨loc, HP L (tks ts)⟩ = outP loc L (pAnd ts) := by
  have hb : bkR (R (n + 63)) 199 (fq 199).body ⟨l0, HP L (tks ts)⟩ = outE lop L (pAnd ts) := by
    rw [an_b]
    have h := an_s0 (n + 3) L ts hl
    have hl2 := fun x r' => @pRel_len ts r' x
    unfold pAnd
    revert h hl2
    generalize pRel ts = o
    intro h hl2
    cases o with
    | none => exact bk_exc h
    | some p =>
      obtain ⟨x, r⟩ := p
      have := hl2 x r rfl
      refine bk_next h ?_
      have hlp := (an_w (R (n + 63)) ⟨lop x, HP L (tks r)⟩).trans (an_loop n L 200 x r (by omega) (by omega))
      show _ = outE lop L (pAnds 200 x r)
      revert hlp
      generalize pAnds 200 x r = o
      intro hlp
      cases o with
      | none => exact bk_exc hlp
      | some p =>
        obtain ⟨y, r2⟩ := p
        exact bk_next hlp (bk_ret (an_s2 (n + 13) L y (tks r2)))
  refine (fn_H (n := n + 63) (σ := ⟨loc, HP L (tks ts)⟩) (loc := [(sSelf, .ref 1)]) fq199 (by kernel_rfl) rfl hb).trans ?_
  generalize pAnd ts = o
  cases o with
  | none => kernel_rfl
  | some p => kernel_rfl
end Rk
end
section
open PySem PySem.W PyProof.Rows PySem.Calls Mine
set_option maxRecDepth 100000
set_option maxHeartbeats 400000
namespace Rk

def coV (x y : V) : V := .tuple [.str (Str.ofString "or"), .tuple [x, y]]
def pConds : Nat → V → List Tk → Option (V × List Tk)
  | 0, _, _ => none
  | N + 1, x, r => match r with
    | .or :: r => (match pAnd r with
      | some (y, r) => pConds N (coV x y) r
      | none => none)
    | r => some (x, r)
theorem fq192 : T02.fns.lookup 192 = some (fq 192) := by kernel_rfl
theorem co_b : (fq 192).body = [sq 192 0, sq 192 1, sq 192 2] := by kernel_rfl
theorem co_w (E : Ev) (σ : St) : stR E 192 (sq 192 1) σ = whileE E (Fq 192) (whT (sq 192 1)) (whB (sq 192 1)) (whO (sq 192 1)) 200 σ := by kernel_rfl
noncomputable def coB : Stmt := (whB (sq 192 1)).getD 0 (.Pass default)
theorem co_wb : whB (sq 192 1) = [coB] := by kernel_rfl
theorem co_wo : whO (sq 192 1) = [] := by kernel_rfl
theorem co_s0 (n : Nat) (L : List V) (ts : List Tk) (hl : ts.length ≤ 200) : stR (R (n + 65 + 1)) 192 (sq 192 0) ⟨l0, HP L (tks ts)⟩ = outN lop L (pAnd ts) :=
  st_callK (σ' := ⟨l0, HP L (tks ts)⟩) (fun o => kAsg 192 sOp o) (fun f => by kernel_rfl) (an_eq n l0 L ts hl) (by
    generalize pAnd ts = o
    cases o with
    | none => kernel_rfl
    | some p => kernel_rfl)
theorem co_s2 (n : Nat) (L : List V) (x : V) (r : List V) : stR (R (n + 50)) 192 (sq 192 2) ⟨lop x, HP L r⟩ = .ok (.ret (.v x)) ⟨lop x, HP L r⟩ := by kernel_rfl
theorem co_tr (n : Nat) (L : List V) (x : V) (r : List Tk) : (R (n + 50)).tr (Fq 192) (whT (sq 192 1)) ⟨lop x, HP L (tks r)⟩ = (match r with
    | .or :: r => .ok true ⟨lop x, HP L (tks r)⟩
    | r => .ok false ⟨lop x, HP L (tks r)⟩) :=
  by_head (f := fun r => (R (n + 50)).tr (Fq 192) (whT (sq 192 1)) ⟨lop x, HP L (tks r)⟩) (g := fun r => (match r with
    | .or :: r => .ok true ⟨lop x, HP L (tks r)⟩
    | r => .ok false ⟨lop x, HP L (tks r)⟩)) (by kernel_rfl) (fun r => by kernel_rfl) r
theorem co_st (n : Nat) (L : List V) (x : V) (r : List Tk) (hl : r.length ≤ 200) : stR (R (n + 65 + 3)) 192 coB ⟨lop x, HP L (tks r)⟩ = (match pAnd r with
    | some (y, r) => .ok .next ⟨lop (coV x y), HP L (tks r)⟩
    | none => .exc RErr) :=
  st_callK (σ' := ⟨lop x, HP L (tks r)⟩) (fun o => kAsg 192 sOp (kTup (kCons (.v (.str (Str.ofString "or"))) (kOne (kTup (kCons (.v x) (kOne o))))))) (fun f => by kernel_rfl) (an_eq n (lop x) L r hl) (by
    generalize pAnd r = o
    cases o with
    | none => kernel_rfl
    | some p => kernel_rfl)
theorem co_loop (n : Nat) (L : List V) : ∀ (N : Nat) (x : V) (r : List Tk), r.length < N → r.length ≤ 200 → whileE (R (n + 69)) (Fq 192) (whT (sq 192 1)) (whB (sq 192 1)) (whO (sq 192 1)) N ⟨lop x, HP L (tks r)⟩ = (match pConds N x r with
    | some (y, r) => .ok .next ⟨lop y, HP L (tks r)⟩
    | none => .exc RErr)
  | 0, x, r, h, _ => by omega
  | N + 1, x, r, h, hN => by
    have ht := co_tr (n + 19) L x r
    have stop : ∀ r : List Tk, (R (n + 19 + 50)).tr (Fq 192) (whT (sq 192 1)) ⟨lop x, HP L (tks r)⟩ = .ok false ⟨lop x, HP L (tks r)⟩ → whileE (R (n + 69)) (Fq 192) (whT (sq 192 1)) (whB (sq 192 1)) (whO (sq 192 1)) (N + 1) ⟨lop x, HP L (tks r)⟩ = .ok .next ⟨lop x, HP L (tks r)⟩ := fun r h => by
      refine (wh_stop h).trans ?_
      rw [co_wo]; rfl
    cases r with
    | nil => exact stop [] ht
    | cons t r =>
      cases t with
      | or =>
        show _ = (match (match pAnd r with | some (y, r) => pConds N (coV x y) r | none => none) with | some (y, r) => .ok .next ⟨lop y, HP L (tks r)⟩ | none => .exc RErr : Out AFlow)
        have hr : r.length + 1 < N + 1 := h
        have hr2 : r.length + 1 ≤ 200 := hN
        have hs := co_st n L x r (by omega)
        have hl := fun x r' => @pAnd_len r r' x
        revert hs hl
        generalize pAnd r = o
        intro hs hl
        cases o with
        | none =>
          refine wh_exc ht ?_
          rw [co_wb]
          exact bk_exc hs
        | some p =>
          obtain ⟨y, r'⟩ := p
          have := hl y r' rfl
          refine (wh_next ht (by rw [co_wb]; exact bk_next hs rfl)).trans ?_
          exact co_loop n L N (coV x y) r' (by omega) (by omega)
      | _ => exact stop _ ht
def pCond (ts : List Tk) : Option (V × List Tk) := match pAnd ts with
  | some (x, r) => pConds 200 x r
  | none => none
theorem pConds_len : ∀ {N : Nat} {x y : V} {r r' : List Tk}, pConds N x r = some (y, r') → r'.length ≤ r.length
  | 0, _, _, _, _, h => by cases h
  | N + 1, x, y, r, r', h => by
    unfold pConds at h
    split at h
    · split at h
      · rename_i h1
        have := pAnd_len h1
        have := pConds_len h
        simp only [List.length_cons]; omega
      · cases h
    · cases h; exact Nat.le_refl _
theorem pCond_len {ts r : List Tk} {x : V} (h : pCond ts = some (x, r)) : r.length < ts.length := by
  unfold pCond at h
  split at h
  · rename_i h1
    have := pAnd_len h1
    have := pConds_len h
    omega
  · cases h
theorem co_eq (n : Nat) (loc : List (Str × PV)) (L : List V) (ts : List Tk) (hl : ts.length ≤ 200) : (R (n + 71)).fn 192 [.ref 1] ⟨loc, HP L (tks ts)⟩ = outP loc L (pCond ts) := by
  have hb : bkR (R (n + 69)) 192 (fq 192).body ⟨l0, HP L (tks ts)⟩ = outE lop L (pCond ts) := by
    rw [co_b]
    have h := co_s0 (n + 3) L ts hl
    have hl2 := fun x r' => @pAnd_len ts r' x
    unfold pCond
    revert h hl2
    generalize pAnd ts = o
    intro h hl2
    cases o with
    | none => exact bk_exc h
    | some p =>
      obtain ⟨x, r⟩ := p
      have := hl2 x r rfl
      refine bk_next h ?_
      have hlp := (co_w (R (n + 69)) ⟨lop x, HP L (tks r)⟩).trans (co_loop n L 200 x r (by omega) (by omega))
      show _ = outE lop L (pConds 200 x r)
      revert hlp
      generalize pConds 200 x r = o
      intro hlp
      cases o with
      | none => exact bk_exc hlp
      | some p =>
        obtain ⟨y, r2⟩ := p
        exact bk_next hlp (bk_ret (co_s2 (n + 19) L y (tks r2)))
  refine (fn_H (n := n + 69) (σ := ⟨loc, HP L (tks ts)⟩) (loc := [(sSelf, .ref 1)]) fq192 (by kernel_rfl) rfl hb).trans ?_
  generalize pCond ts = o
  cases o with
  | none => kernel_rfl
  | some p => kernel_rfl
end Rk
end
section
open PySem PySem.W PyProof.Rows PySem.Calls Mine
open PySem.Builtin PySem.Builtin.Str
set_option maxRecDepth 100000
set_option maxHeartbeats 400000
namespace Rk
def sS : Str := Str.ofString "s"
def sResult : Str := Str.ofString "result"
def sPos : Str := Str.ofString "pos"
def sEnd : Str := Str.ofString "end"
def sMatch : Str := Str.ofString "match"
theorem fq119 : T02.fns.lookup 119 = some (fq 119) := by kernel_rfl
theorem tk_b : (fq 119).body = [sq 119 0, sq 119 1, sq 119 2, sq 119 3, sq 119 4, sq 119 5] := by kernel_rfl
def kSub (o : Out PV) (b : PV) : Out PV := o.bind fun a σ => (Out.ok b σ : Out PV).bind fun b σ => okO (subE a b σ.H) σ
theorem tk_s0 (n : Nat) (x : Str) : stR (R (n + 10)) 119 (sq 119 0) ⟨[(sS, .v (.str x))], []⟩ = kAsg 119 sS (kSub (vO ((splitL x at1).map strsV) ⟨[(sS, .v (.str x))], []⟩) (.v (.int 0))) := by kernel_rfl
abbrev locA (x : Str) : List (Str × PV) := [(sS, .v (.str x))]
abbrev locT (x : Str) (k e : Int) : List (Str × PV) := [(sS, .v (.str x)), (sResult, .ref 0), (sPos, .v (.int k)), (sEnd, .v (.int e))]
abbrev locM (x : Str) (k e : Int) (p : PV) : List (Str × PV) := [(sS, .v (.str x)), (sResult, .ref 0), (sPos, .v (.int k)), (sEnd, .v (.int e)), (sMatch, p)]
def locO (x : Str) (k e : Int) (m : Option PV) : List (Str × PV) := match m with
  | none => locT x k e
  | some p => locM x k e p
theorem tk_s3 (n : Nat) (x : Str) : bkR (R (n + 10)) 119 [sq 119 1, sq 119 2, sq 119 3] ⟨locA x, []⟩ = .ok .next ⟨locT x 0 x.length, [.vlist []]⟩ := by kernel_rfl
theorem tk_w (E : Ev) (σ : St) : stR E 119 (sq 119 4) σ = whileE E (Fq 119) (whT (sq 119 4)) (whB (sq 119 4)) (whO (sq 119 4)) 200 σ := by kernel_rfl
noncomputable def tkB (i : Nat) : Stmt := (whB (sq 119 4)).getD i (.Pass default)
theorem tk_wb : whB (sq 119 4) = [tkB 0, tkB 1] := by kernel_rfl
theorem tk_wo : whO (sq 119 4) = [] := by kernel_rfl
theorem tk_tr (n : Nat) (x : Str) (k e : Int) (m : Option PV) (H : List AObj) : (R (n + 10)).tr (Fq 119) (whT (sq 119 4)) ⟨locO x k e m, H⟩ = .ok (decide (k < e)) ⟨locO x k e m, H⟩ := by
  cases m <;> kernel_rfl
theorem tk_b0 (n : Nat) (x : Str) (k e : Int) (m : Option PV) (H : List AObj) : stR (R (n + 10)) 119 (tkB 0) ⟨locO x k e m, H⟩ = kAsg 119 sMatch (okO (matchE codeA 4 20 x k) ⟨locO x k e m, H⟩) := by
  cases m <;> kernel_rfl
theorem tk_as (x : Str) (k e : Int) (m : Option PV) (H : List AObj) (p : PV) : kAsg 119 sMatch (okO (some p) ⟨locO x k e m, H⟩) = .ok .next ⟨locM x k e p, H⟩ := by
  cases m <;> kernel_rfl
def kNext (o : Out PV) : Out AFlow := o.bind fun _ σ => .ok .next σ
def kBlock (o : Out AFlow) : Out AFlow := o.bind fun f σ => match f with
  | .next => .ok .next σ
  | f => .ok f σ
theorem tk_b1 (n : Nat) (x : Str) (k e : Int) (ws : List V) (a0 a1 a2 a3 a4 a5 a6 a7 a8 a9 : Int) : stR (R (n + 10)) 119 (tkB 1) ⟨locM x k e (.mat x [a0, a1, a2, a3, a4, a5, a6, a7, a8, a9]), [.vlist ws]⟩ =
    kBlock (kNext (extFin 0 [.v (.tuple namesT), .v (.tuple (groupsL x [a0, a1, a2, a3, a4, a5, a6, a7, a8, a9]))] ⟨locM x a1 e (.mat x [a0, a1, a2, a3, a4, a5, a6, a7, a8, a9]), [.vlist ws]⟩)) := by kernel_rfl
def kFmt (n0 : Nat) (o : Out PV) : Out Unit := (o.bind fun p σ => match p with
  | .v (.str x) => (match fitsN (reprText x).length with
    | true => .ok (reprText x) σ
    | false => .no)
  | _ => .no : Out Str).bind fun x σ => match fitsN (n0 + x.length) with
    | true => .ok () σ
    | false => .no
def kRz (c : Value) (o : Out Unit) : Out AFlow := (kOne (o.bind fun _ σ => .ok .any σ)).bind fun _ _ => .exc c
theorem tk_bad (n : Nat) (x : Str) (k e : Int) (H : List AObj) : stR (R (n + 10)) 119 (tkB 1) ⟨locM x k e (.v .none), H⟩ = kBlock (kRz RErr (kFmt 51 (okO (subE (.v (.str x)) (.v (.int k)) H) ⟨locM x k e (.v .none), H⟩))) := by kernel_rfl
theorem tk_s5 (n : Nat) (x : Str) (k e : Int) (m : Option PV) (ws : List V) : stR (R (n + 10)) 119 (sq 119 5) ⟨locO x k e m, [.vlist ws]⟩ = .ok (.ret (.ref 1)) ⟨locO x k e m, [.vlist ws, .vrev ws]⟩ := by
  cases m <;> kernel_rfl
end Rk
end
section
open PySem PySem.W PyProof.Rows PySem.Calls Mine
open PySem.Builtin PySem.Builtin.Str
set_option maxRecDepth 100000
set_option maxHeartbeats 400000
namespace Rk
theorem sp10_w (k n g : Nat) (hg : g < 4) : ∃ a0 a2 a3 a4 a5 a6 a7 a8 a9, Rx.shS k (spansG g n) = [a0, ((n + k : Nat) : Int), a2, a3, a4, a5, a6, a7, a8, a9] := by
  have h1 : ¬ ((n : Int) < 0) := by omega
  match g, hg with
  | 0, _ => exact ⟨_, _, _, _, _, _, _, _, _, by simp only [spansG, Rx.shS, List.range, List.range.loop, List.flatMap_cons, List.flatMap_nil, List.map_cons, if_neg h1]; rfl⟩
  | 1, _ => exact ⟨_, _, _, _, _, _, _, _, _, by simp only [spansG, Rx.shS, List.range, List.range.loop, List.flatMap_cons, List.flatMap_nil, List.map_cons, if_neg h1]; rfl⟩
  | 2, _ => exact ⟨_, _, _, _, _, _, _, _, _, by simp only [spansG, Rx.shS, List.range, List.range.loop, List.flatMap_cons, List.flatMap_nil, List.map_cons, if_neg h1]; rfl⟩
  | 3, _ => exact ⟨_, _, _, _, _, _, _, _, _, by simp only [spansG, Rx.shS, List.range, List.range.loop, List.flatMap_cons, List.flatMap_nil, List.map_cons, if_neg h1]; rfl⟩
theorem sp10_s (k : Nat) : ∃ a0 a2 a3 a4 a5 a6 a7 a8 a9, Rx.shS k spW = [a0, ((1 + k : Nat) : Int), a2, a3, a4, a5, a6, a7, a8, a9] := ⟨_, _, _, _, _, _, _, _, _, rfl⟩
theorem ext_fin {loc : List (Str × PV)} {ws us : List V} (hu : us.length = 4) (ha : us.all txtP = true) (hf : ws.length ≤ 1000) : extFin 0 [.v (.tuple namesT), .v (.tuple us)] ⟨loc, [.vlist ws]⟩ = .ok (.v .none) ⟨loc, [.vlist (ws ++ pickT namesT us)]⟩ := by
  have h1 : (namesT.length == us.length) = true := by rw [hu]; rfl
  have h2 : fitsN (ws.length + namesT.length + 1) = true := fits_of (by show ws.length + 4 + 1 ≤ _; omega)
  show (match namesT.length == us.length && us.all txtP && fitsN (ws.length + namesT.length + 1) with | true => _ | false => _) = _
  rw [h1, h2, ha]
  rfl
theorem body_mat (n : Nat) (x : Str) (k e : Int) (ws us : List V) {sp : List Int} {a0 a1 a2 a3 a4 a5 a6 a7 a8 a9 : Int} (hs : sp = [a0, a1, a2, a3, a4, a5, a6, a7, a8, a9]) (hg : groupsL x sp = us) (hu : us.length = 4) (ha : us.all txtP = true) (hf : ws.length ≤ 1000) :
    stR (R (n + 10)) 119 (tkB 1) ⟨locM x k e (.mat x sp), [.vlist ws]⟩ = .ok .next ⟨locM x a1 e (.mat x sp), [.vlist (ws ++ pickT namesT us)]⟩ := by
  subst hs
  rw [tk_b1, hg, ext_fin hu ha hf]
  rfl
noncomputable abbrev tkWh (n N : Nat) (σ : St) : Out AFlow := whileE (R (n + 11)) (Fq 119) (whT (sq 119 4)) (whB (sq 119 4)) (whO (sq 119 4)) N σ
theorem turn_mat {n N : Nat} {x : Str} {k : Nat} {e : Int} {m : Option PV} {ws us : List V} {sp : List Int} {a0 a1 a2 a3 a4 a5 a6 a7 a8 a9 : Int} (he : (k : Int) < e) (hm : matchE codeA 4 20 x k = some (.mat x sp)) (hs : sp = [a0, a1, a2, a3, a4, a5, a6, a7, a8, a9])
    (hg : groupsL x sp = us) (hu : us.length = 4) (ha : us.all txtP = true) (hf : ws.length ≤ 1000) :
    tkWh n (N + 1) ⟨locO x k e m, [.vlist ws]⟩ = tkWh n N ⟨locO x a1 e (some (.mat x sp)), [.vlist (ws ++ pickT namesT us)]⟩ := by
  have ht := tk_tr (n + 1) x k e m [.vlist ws]
  rw [decide_eq_true he] at ht
  refine wh_next ht ?_
  rw [tk_wb]
  refine bk_next (σ' := ⟨locM x k e (.mat x sp), [.vlist ws]⟩) ?_ (bk_next (body_mat n x k e ws us hs hg hu ha hf) rfl)
  show stR (R (n + 10)) 119 (tkB 0) _ = _
  rw [tk_b0, hm, tk_as]
theorem turn_word {n N : Nat} {pre post : List Nat} {t : Tk} {e : Int} {m : Option PV} {ws : List V} (he : (pre.length : Int) < e) (hk : pre.length ≤ 100000) (hp : post = [] ∨ ∃ r, post = 32 :: r) (hf : ws.length ≤ 1000) :
    ∃ m', tkWh n (N + 1) ⟨locO (mkS (pre ++ (t.text.cps.toList ++ post))) pre.length e m, [.vlist ws]⟩ = tkWh n N ⟨locO (mkS (pre ++ (t.text.cps.toList ++ post))) ((pre ++ t.text.cps.toList).length : Nat) e m', [.vlist (ws ++ [t.val])]⟩ := by
  have hm := match_word (b := .k t) (by intro h; cases h) hk hp
  have hg := groups_w (mkS (pre ++ (t.text.cps.toList ++ post))) pre.length t.text.cps.size t.grp (by cases t <;> decide)
  obtain ⟨a0, a2, a3, a4, a5, a6, a7, a8, a9, hs⟩ := sp10_w pre.length t.text.cps.size t.grp (by cases t <;> decide)
  have ht := turn_mat (n := n) (N := N) (m := m) (ws := ws) he hm hs hg (by simp) (by simp [List.range, List.range.loop]; cases t <;> simp [Tk.grp, txtP]) hf
  rw [← hg] at ht
  have e2 : (pre ++ t.text.cps.toList).length = t.text.cps.size + pre.length := by simp; omega
  refine ⟨some (.mat (mkS (pre ++ (t.text.cps.toList ++ post))) (Rx.shS pre.length (spansG t.grp t.text.cps.size))), ht.trans ?_⟩
  rw [e2, pick_w pre post t]
  rfl
theorem turn_sp {n N : Nat} {pre post : List Nat} {e : Int} {m : Option PV} {ws : List V} (he : (pre.length : Int) < e) (hk : pre.length ≤ 100000) (hp : post = [] ∨ ∃ (b : Bd) (r : List Nat), b ≠ .ats ∧ post = b.cps ++ r) (hf : ws.length ≤ 1000) :
    ∃ m', tkWh n (N + 1) ⟨locO (mkS (pre ++ (32 :: post))) pre.length e m, [.vlist ws]⟩ = tkWh n N ⟨locO (mkS (pre ++ (32 :: post))) ((pre ++ [32]).length : Nat) e m', [.vlist ws]⟩ := by
  have hm := match_sp hk hp
  have hg := groups_sp (mkS (pre ++ (32 :: post))) pre.length
  obtain ⟨a0, a2, a3, a4, a5, a6, a7, a8, a9, hs⟩ := sp10_s pre.length
  have ht := turn_mat (n := n) (N := N) (m := m) (ws := ws) he hm hs hg rfl rfl hf
  have e2 : (pre ++ [32]).length = 1 + pre.length := by simp; omega
  refine ⟨some (.mat (mkS (pre ++ (32 :: post))) (Rx.shS pre.length spW)), ht.trans ?_⟩
  have : pickT namesT [.none, .none, .none, .none] = [] := rfl
  rw [e2, this, List.append_nil]
theorem char_at {pre post : List Nat} {c : Nat} {H : List AObj} (hk : pre.length ≤ 100000) (hc : c < 0x110000) : subE (.v (.str (mkS (pre ++ (c :: post))))) (.v (.int pre.length)) H = some (.v (.str ⟨#[c]⟩)) := by
  have hlen : (mkS (pre ++ (c :: post))).length = pre.length + (post.length + 1) := by rw [mkS_len]; simp
  have h1 : fitsSsize (pre.length : Int) = true := by
    unfold fitsSsize
    simp; omega
  have h2 : Txt.charAt (mkS (pre ++ (c :: post))) pre.length = some c := by
    unfold Txt.charAt seqIndex?
    rw [hlen]
    have h0 : ¬ ((pre.length : Int) < 0) := by omega
    rw [if_neg h0]
    have h3 : (decide ((0 : Int) ≤ pre.length) && decide ((pre.length : Int) < ((pre.length + (post.length + 1) : Nat) : Int))) = true := by
      rw [Bool.and_eq_true]; exact ⟨decide_eq_true (by omega), decide_eq_true (by omega)⟩
    rw [if_pos h3]
    show (mkS (pre ++ (c :: post))).cps[((pre.length : Nat) : Int).toNat]? = some c
    rw [Int.toNat_natCast]
    simp [mkS]
  have h3 : Txt.item (mkS (pre ++ (c :: post))) pre.length = ⟨#[c]⟩ := by
    unfold Txt.item; rw [h2]; rfl
  have h4 : PyData.strOk ⟨#[c]⟩ = true := by
    unfold PyData.strOk; simp; omega
  show (match fitsSsize (pre.length : Int) && (Txt.charAt (mkS (pre ++ (c :: post))) pre.length).isSome && PyData.strOk (Txt.item (mkS (pre ++ (c :: post))) pre.length) with | true => _ | false => _) = _
  rw [h1, h2, h3, h4]
  rfl
theorem turn_bad {n N : Nat} {pre post : List Nat} {b : Bd} {e : Int} {m : Option PV} {ws : List V} (hb : b = .x ∨ b = .semi ∨ b = .dot) (he : (pre.length : Int) < e) (hk : pre.length ≤ 100000) (hp : post = [] ∨ ∃ r, post = 32 :: r) :
    tkWh n (N + 1) ⟨locO (mkS (pre ++ (b.cps ++ post))) pre.length e m, [.vlist ws]⟩ = .exc RErr := by
  have hba : b ≠ .ats := by rcases hb with rfl | rfl | rfl <;> (intro h; cases h)
  have hm := match_word hba hk hp
  have hmat : matB (mkS (pre ++ (b.cps ++ post))) pre.length b = .v .none := by rcases hb with rfl | rfl | rfl <;> rfl
  rw [hmat] at hm
  have hsub : subE (.v (.str (mkS (pre ++ (b.cps ++ post))))) (.v (.int pre.length)) [.vlist ws] = some (.v (.str b.text)) := by
    rcases hb with rfl | rfl | rfl
    · exact char_at hk (by decide)
    · exact char_at hk (by decide)
    · exact char_at hk (by decide)
  have ht := tk_tr (n + 1) (mkS (pre ++ (b.cps ++ post))) pre.length e m [.vlist ws]
  rw [decide_eq_true he] at ht
  refine wh_exc ht ?_
  rw [tk_wb]
  refine bk_next (σ' := ⟨locM (mkS (pre ++ (b.cps ++ post))) pre.length e (.v .none), [.vlist ws]⟩) ?_ (bk_exc ?_)
  · show stR (R (n + 10)) 119 (tkB 0) _ = _
    rw [tk_b0, hm, tk_as]
  · show stR (R (n + 10)) 119 (tkB 1) _ = _
    rw [tk_bad, hsub]
    rcases hb with rfl | rfl | rfl <;> kernel_rfl
end Rk
end
section
open PySem PySem.W PyProof.Rows PySem.Calls Mine
open PySem.Builtin PySem.Builtin.Str
set_option maxRecDepth 100000
set_option maxHeartbeats 400000
namespace Rk
def toksOf : List Bd → Option (List Tk)
  | [] => some []
  | .k t :: r => (toksOf r).map (t :: ·)
  | _ :: _ => none
theorem jr_cons (b : Bd) (r : List Bd) : jr (b :: r) = 32 :: (b.cps ++ jr r) := rfl
theorem jr_hd (r : List Bd) {tl : List Nat} (ht : tl = [] ∨ tl = [32]) : jr r ++ tl = [] ∨ ∃ q, jr r ++ tl = 32 :: q := by
  cases r with
  | nil =>
    rcases ht with rfl | rfl
    · exact .inl rfl
    · exact .inr ⟨[], rfl⟩
  | cons b r => exact .inr ⟨_, rfl⟩
/-- how the loop of the tokens ends -/
def TkEnd (n N : Nat) (x : Str) (k : Nat) (m : Option PV) (ws : List V) (o : Option (List Tk)) : Prop :=
  ∃ k' m', tkWh n N ⟨locO x k x.length m, [.vlist ws]⟩ = (match o with
    | some ts => .ok .next ⟨locO x k' x.length m', [.vlist (ws ++ tks ts)]⟩
    | none => .exc RErr)
theorem stop_at (n N : Nat) (x : Str) (m : Option PV) (ws : List V) : TkEnd n (N + 1) x x.length m ws (some []) := by
  have ht := tk_tr (n + 1) x x.length x.length m [.vlist ws]
  rw [decide_eq_false (Int.lt_irrefl _)] at ht
  refine ⟨x.length, m, (wh_stop ht).trans ?_⟩
  rw [tk_wo]
  show _ = Out.ok AFlow.next ⟨locO x x.length x.length m, [.vlist (ws ++ [])]⟩
  rw [List.append_nil]
  rfl
theorem after_eq (n : Nat) : ∀ (r : List Bd) (tl pre : List Nat) (m : Option PV) (ws : List V) (N : Nat) (x : Str), (∀ b ∈ r, b ≠ .ats) → (tl = [] ∨ tl = [32]) → x = mkS (pre ++ (jr r ++ tl)) → (pre ++ (jr r ++ tl)).length ≤ 100000 → ws.length + r.length ≤ 1000 → 2 * r.length + 2 ≤ N →
    TkEnd n N x pre.length m ws (toksOf r)
  | [], tl, pre, m, ws, N, x, hr, ht, hx, hl, hw, hN => by
    obtain ⟨N, rfl⟩ : ∃ M, N = M + 2 := ⟨N - 2, by omega⟩
    rcases ht with rfl | rfl
    · have e : pre.length = x.length := by rw [hx, mkS_len]; simp [jr]
      rw [e]; exact stop_at n (N + 1) x m ws
    · subst hx
      have hlt : ((pre.length : Nat) : Int) < (mkS (pre ++ (32 :: []))).length := by rw [mkS_len]; simp; omega
      obtain ⟨m', h⟩ := turn_sp (n := n) (N := N + 1) (m := m) (ws := ws) (pre := pre) (post := []) hlt (by simp at hl; omega) (.inl rfl) (by omega)
      obtain ⟨k2, m2, h2⟩ := stop_at n N (mkS (pre ++ (32 :: []))) m' ws
      have e : (mkS (pre ++ (32 :: []))).length = (pre ++ [32]).length := by rw [mkS_len]
      refine ⟨k2, m2, h.trans ?_⟩
      rw [e] at h2 ⊢
      exact h2
  | b :: r, tl, pre, m, ws, N, x, hr, ht, hx, hl, hw, hN => by
    obtain ⟨N, rfl⟩ : ∃ M, N = M + 2 := ⟨N - 2, by omega⟩
    have hb : b ≠ .ats := hr b (.head _)
    have e1 : jr (b :: r) ++ tl = 32 :: (b.cps ++ (jr r ++ tl)) := by rw [jr_cons]; simp
    have e2 : pre ++ (32 :: (b.cps ++ (jr r ++ tl))) = (pre ++ [32]) ++ (b.cps ++ (jr r ++ tl)) := by simp
    have e3 : (pre ++ [32]) ++ (b.cps ++ (jr r ++ tl)) = ((pre ++ [32]) ++ b.cps) ++ (jr r ++ tl) := by simp
    have hb1 : 1 ≤ b.cps.length := by
      cases b with
      | k t => cases t <;> decide
      | _ => decide
    rw [e1] at hx hl
    have hlx : x.length = pre.length + (1 + (b.cps.length + (jr r ++ tl).length)) := by rw [hx, mkS_len]; simp only [List.length_append, List.length_cons]; omega
    have hl' : pre.length + (1 + (b.cps.length + (jr r ++ tl).length)) ≤ 100000 := by simp only [List.length_append, List.length_cons] at hl ⊢; omega
    have hlt : ((pre.length : Nat) : Int) < x.length := by rw [hlx]; omega
    obtain ⟨m1, h1⟩ := turn_sp (n := n) (N := N + 1) (m := m) (ws := ws) (pre := pre) (post := b.cps ++ (jr r ++ tl)) hlt (by omega) (.inr ⟨b, _, hb, rfl⟩) (by omega)
    rw [← hx] at h1
    have hx2 := hx
    rw [e2] at hx2
    have hlp : (pre ++ [32]).length = pre.length + 1 := by simp
    have hlt2 : (((pre ++ [32]).length : Nat) : Int) < x.length := by rw [hlx, hlp]; omega
    have bad : (b = .x ∨ b = .semi ∨ b = .dot) → TkEnd n (N + 2) x pre.length m ws none := fun hbad => by
      have h2 := turn_bad (n := n) (N := N) (m := m1) (ws := ws) (pre := pre ++ [32]) (post := jr r ++ tl) hbad hlt2 (by rw [hlp]; omega) (jr_hd r ht)
      rw [← hx2] at h2
      exact ⟨0, none, h1.trans h2⟩
    cases b with
    | k t =>
      obtain ⟨m2, h2⟩ := turn_word (n := n) (N := N) (m := m1) (ws := ws) (t := t) (pre := pre ++ [32]) (post := jr r ++ tl) hlt2 (by rw [hlp]; omega) (jr_hd r ht) (by omega)
      have hx2' : x = mkS (pre ++ [32] ++ (t.text.cps.toList ++ (jr r ++ tl))) := hx2
      rw [← hx2'] at h2
      rw [e3] at hx2
      obtain ⟨k3, m3, h3⟩ := after_eq n r tl ((pre ++ [32]) ++ t.text.cps.toList) m2 (ws ++ [t.val]) N x (fun c hc => hr c (.tail _ hc)) ht hx2 (by
        show (pre ++ [32] ++ Bd.cps (.k t) ++ (jr r ++ tl)).length ≤ _
        rw [List.length_append, List.length_append, hlp]; omega) (by simp only [List.length_append, List.length_cons, List.length_nil] at hw ⊢; omega) (by simp only [List.length_cons] at hN; omega)
      refine ⟨k3, m3, h1.trans (h2.trans (h3.trans ?_))⟩
      rw [show toksOf (.k t :: r) = (toksOf r).map (t :: ·) from rfl]
      cases toksOf r with
      | none => rfl
      | some ts =>
        show Out.ok AFlow.next ⟨locO x k3 x.length m3, [.vlist (ws ++ [t.val] ++ tks ts)]⟩ = Out.ok AFlow.next ⟨locO x k3 x.length m3, [.vlist (ws ++ tks (t :: ts))]⟩
        rw [List.append_assoc]; rfl
    | x => exact bad (.inl rfl)
    | semi => exact bad (.inr (.inl rfl))
    | dot => exact bad (.inr (.inr rfl))
    | ats => exact absurd rfl hb
/-- the loop, from the text's start -/
theorem loop_eq (n : Nat) (ws : List Bd) (tl : List Nat) (hr : ∀ b ∈ ws, b ≠ .ats) (ht : tl = [] ∨ tl = [32]) (hl : ws.length ≤ 90) : TkEnd n 200 (mkS (jn ws ++ tl)) 0 none [] (toksOf ws) := by
  cases ws with
  | nil => exact after_eq n [] tl [] none [] 200 _ hr ht rfl (by rcases ht with rfl | rfl <;> simp [jr]) (by simp) (by simp)
  | cons b r =>
    have hj := jr_len r
    have htl : tl.length ≤ 1 := by rcases ht with rfl | rfl <;> simp
    have hb := hr b (.head _)
    have hb1 : 1 ≤ b.cps.length ∧ b.cps.length ≤ 6 := by
      refine ⟨?_, cps_len b⟩
      cases b with
      | k t => cases t <;> decide
      | _ => decide
    have hlr : r.length + 1 ≤ 90 := hl
    have hx : mkS (jn (b :: r) ++ tl) = mkS ([] ++ (b.cps ++ (jr r ++ tl))) := by simp [jn]
    have hlx : (mkS (jn (b :: r) ++ tl)).length = b.cps.length + (jr r ++ tl).length := by rw [hx, mkS_len]; simp
    have hlt : ((([] : List Nat).length : Nat) : Int) < (mkS (jn (b :: r) ++ tl)).length := by
      rw [hlx]; show (0 : Int) < _; omega
    have bad : (b = .x ∨ b = .semi ∨ b = .dot) → TkEnd n 200 (mkS (jn (b :: r) ++ tl)) 0 none [] none := fun hbad => by
      have h2 := turn_bad (n := n) (N := 199) (m := none) (ws := []) (pre := []) (post := jr r ++ tl) hbad hlt (by simp) (jr_hd r ht)
      rw [← hx] at h2
      exact ⟨0, none, h2⟩
    cases b with
    | k t =>
      obtain ⟨m2, h2⟩ := turn_word (n := n) (N := 199) (m := none) (ws := []) (t := t) (pre := []) (post := jr r ++ tl) hlt (by simp) (jr_hd r ht) (by simp)
      have hx2' : mkS (jn (.k t :: r) ++ tl) = mkS ([] ++ (t.text.cps.toList ++ (jr r ++ tl))) := hx
      rw [← hx2'] at h2
      obtain ⟨k3, m3, h3⟩ := after_eq n r tl ([] ++ t.text.cps.toList) m2 ([] ++ [t.val]) 199 (mkS (jn (.k t :: r) ++ tl)) (fun c hc => hr c (.tail _ hc)) ht (by simp [jn, Bd.cps, Bd.text]) (by
        have h6 : t.text.cps.toList.length ≤ 6 := cps_len (.k t)
        simp only [List.length_append, List.nil_append]; omega) (by simp; omega) (by omega)
      refine ⟨k3, m3, h2.trans (h3.trans ?_)⟩
      rw [show toksOf (.k t :: r) = (toksOf r).map (t :: ·) from rfl]
      cases toksOf r with
      | none => rfl
      | some ts => rfl
    | x => exact bad (.inl rfl)
    | semi => exact bad (.inr (.inl rfl))
    | dot => exact bad (.inr (.inr rfl))
    | ats => exact absurd rfl hb
/-- tokenize_rule -/
theorem tokenize_eq (n : Nat) (x : Str) (ws : List Bd) (tl : List Nat) (hr : ∀ b ∈ ws, b ≠ .ats) (ht : tl = [] ∨ tl = [32]) (hl : ws.length ≤ 90) (hx : x.cps.toList.takeWhile (· != 64) = jn ws ++ tl) (hxl : x.length ≤ 100000) (loc : List (Str × PV)) (H : List AObj) :
    (R (n + 14)).fn 119 [.v (.str x)] ⟨loc, H⟩ = (match toksOf ws with
      | some ts => .ok (.ref (H.length + 1)) ⟨loc, H ++ [.vlist (tks ts), .vrev (tks ts)]⟩
      | none => .exc RErr) := by
  obtain ⟨r, hs⟩ := splitL_at x hxl
  rw [hx] at hs
  generalize hy : mkS (jn ws ++ tl) = y at hs
  have h0 : stR (R (n + 12)) 119 (sq 119 0) ⟨locA x, []⟩ = .ok .next ⟨locA y, []⟩ := by
    have h := tk_s0 (n + 2) x
    rw [hs] at h
    exact h.trans (by kernel_rfl)
  obtain ⟨k', m', hlp⟩ := loop_eq (n + 1) ws tl hr ht hl
  rw [hy] at hlp
  have h3 := tk_s3 (n + 2) y
  have hb : bkR (R (n + 12)) 119 (fq 119).body ⟨locA x, []⟩ = (match toksOf ws with
      | some ts => .ok (.ret (.ref 1)) ⟨locO y k' y.length m', [.vlist (tks ts), .vrev (tks ts)]⟩
      | none => .exc RErr) := by
    have hbody : (fq 119).body = sq 119 0 :: ([sq 119 1, sq 119 2, sq 119 3] ++ [sq 119 4, sq 119 5]) := tk_b
    rw [hbody]
    refine bk_next h0 (bk_app_next h3 ?_)
    have hw := (tk_w (R (n + 12)) ⟨locT y 0 y.length, [.vlist []]⟩).trans hlp
    revert hw
    generalize toksOf ws = o
    intro hw
    cases o with
    | none => exact bk_exc hw
    | some ts => exact bk_next hw (bk_ret (tk_s5 (n + 2) y k' y.length m' (tks ts)))
  refine (fn_V (n := n + 12) (σ := ⟨loc, H⟩) (loc := locA x) fq119 (by kernel_rfl) rfl hb).trans ?_
  generalize toksOf ws = o
  cases o with
  | none => rfl
  | some ts => kernel_rfl
end Rk
end
section
open PySem PySem.W PyProof.Rows PySem.Calls Mine
set_option maxRecDepth 100000
set_option maxHeartbeats 400000
namespace Rk
def sString : Str := Str.ofString "string"
def sTokens : Str := Str.ofString "tokens"
def sAst : Str := Str.ofString "ast"
theorem fq177 : T02.fns.lookup 177 = some (fq 177) := by kernel_rfl
theorem pi_b : (fq 177).body = [sq 177 0, sq 177 1, sq 177 2, sq 177 3] := by kernel_rfl
abbrev lP (x : Str) : List (Str × PV) := [(sString, .v (.str x)), (sSelf, .ref 1)]
def HA (ts L : List V) (y : V) : List AObj := [.dict [(sTokens, .ref 3), (sAst, .v y)], .inst 244 0 [], .vlist L, .vrev ts]
theorem pi_s0 (n : Nat) (x : Str) (ws : List Bd) (tl : List Nat) (hr : ∀ b ∈ ws, b ≠ .ats) (ht : tl = [] ∨ tl = [32]) (hl : ws.length ≤ 90) (hx : x.cps.toList.takeWhile (· != 64) = jn ws ++ tl) (hxl : x.length ≤ 100000) :
    stR (R (n + 14 + 1)) 177 (sq 177 0) ⟨lP x, [.dict [], .inst 244 0 []]⟩ = (match toksOf ws with
      | some ts => .ok .next ⟨lP x, HP (tks ts) (tks ts)⟩
      | none => .exc RErr) :=
  st_call (σ' := ⟨lP x, [.dict [], .inst 244 0 []]⟩) (fun f => by kernel_rfl) (tokenize_eq n x ws tl hr ht hl hx hxl (lP x) [.dict [], .inst 244 0 []]) (by
    generalize toksOf ws = o
    cases o with
    | none => kernel_rfl
    | some ts => kernel_rfl)
theorem pi_s1n (n : Nat) (x : Str) : stR (R (n + 10)) 177 (sq 177 1) ⟨lP x, HP (tks []) (tks [])⟩ = .ok (.ret (.v .none)) ⟨lP x, HA [] [] .none⟩ := by kernel_rfl
theorem pi_s1c (n : Nat) (x : Str) (t : Tk) (r : List Tk) (L : List V) : stR (R (n + 10)) 177 (sq 177 1) ⟨lP x, HP L (tks (t :: r))⟩ = .ok .next ⟨lP x, HP L (tks (t :: r))⟩ := by kernel_rfl
theorem pi_s2 (n : Nat) (x : Str) (L : List V) (ts : List Tk) (hl : ts.length ≤ 200) : stR (R (n + 71 + 1)) 177 (sq 177 2) ⟨lP x, HP L (tks ts)⟩ = (match pCond ts with
    | some (y, r) => .ok .next ⟨lP x, HA (tks r) L y⟩
    | none => .exc RErr) :=
  st_call (σ' := ⟨lP x, HP L (tks ts)⟩) (fun f => by kernel_rfl) (co_eq n (lP x) L ts hl) (by
    generalize pCond ts = o
    cases o with
    | none => kernel_rfl
    | some p => kernel_rfl)
theorem pi_s3n (n : Nat) (x : Str) (L : List V) (y : V) : stR (R (n + 20)) 177 (sq 177 3) ⟨lP x, HA [] L y⟩ = .ok .next ⟨lP x, HA [] L y⟩ := by kernel_rfl
theorem pi_s3a (n : Nat) (x : Str) (L : List V) (y : V) (r : List V) : (allT.map fun t : Tk => stR (R (n + 20)) 177 (sq 177 3) ⟨lP x, HA (t.val :: r) L y⟩) = allT.map fun _ => (.exc RErr : Out AFlow) := by kernel_rfl
theorem pi_s3c (n : Nat) (x : Str) (L : List V) (y : V) (t : Tk) (r : List V) : stR (R (n + 20)) 177 (sq 177 3) ⟨lP x, HA (t.val :: r) L y⟩ = .exc RErr :=
  map_at (f := fun t : Tk => stR (R (n + 20)) 177 (sq 177 3) ⟨lP x, HA (t.val :: r) L y⟩) (g := fun _ => (.exc RErr : Out AFlow)) (pi_s3a n x L y r) t (mem_all t)
/-- what a rule's text gives: none = it is refused -/
def pText (ws : List Bd) : Option V := match toksOf ws with
  | none => none
  | some [] => some .none
  | some (t :: r) => (match pCond (t :: r) with
    | some (y, []) => some y
    | _ => none)
theorem toksOf_len : ∀ {ws : List Bd} {ts : List Tk}, toksOf ws = some ts → ts.length = ws.length := fun {ws} => by
  induction ws with
  | nil => intro ts h; cases h; rfl
  | cons b r ih =>
    intro ts h
    cases b with
    | k t =>
      have h2 : (toksOf r).map (t :: ·) = some ts := h
      rw [Option.map_eq_some_iff] at h2
      obtain ⟨us, h3, rfl⟩ := h2
      simp [ih h3]
    | _ => cases h
theorem init_eq (n : Nat) (x : Str) (ws : List Bd) (tl : List Nat) (hr : ∀ b ∈ ws, b ≠ .ats) (ht : tl = [] ∨ tl = [32]) (hl : ws.length ≤ 90) (hx : x.cps.toList.takeWhile (· != 64) = jn ws ++ tl) (hxl : x.length ≤ 100000) :
    ∃ L, (R (n + 75)).fn 177 [.ref 1, .v (.str x)] ⟨[], [.dict [], .inst 244 0 []]⟩ = (match pText ws with
      | some y => .ok (.v .none) ⟨[], HA [] L y⟩
      | none => .exc RErr) := by
  have h0 := pi_s0 (n + 58) x ws tl hr ht hl hx hxl
  have hlen := @toksOf_len ws
  have hb : ∃ L fl, (fl = .next ∨ fl = .ret (.v .none)) ∧ bkR (R (n + 73)) 177 (fq 177).body ⟨lP x, [.dict [], .inst 244 0 []]⟩ = (match pText ws with
      | some y => .ok fl ⟨lP x, HA [] L y⟩
      | none => .exc RErr) := by
    rw [pi_b]
    unfold pText
    revert h0 hlen
    generalize toksOf ws = o
    intro h0 hlen
    cases o with
    | none => exact ⟨[], .next, .inl rfl, bk_exc h0⟩
    | some ts =>
      cases ts with
      | nil => exact ⟨[], .ret (.v .none), .inr rfl, bk_next h0 (bk_ret (pi_s1n (n + 63) x))⟩
      | cons t r =>
        have hl2 := hlen rfl
        have h2 := pi_s2 (n + 1) x (tks (t :: r)) (t :: r) (by omega)
        show ∃ L fl, _ ∧ _ = (match (match pCond (t :: r) with
          | some (y, []) => some y
          | _ => none) with
          | some y => .ok fl ⟨lP x, HA [] L y⟩
          | none => .exc RErr : Out AFlow)
        revert h2
        generalize pCond (t :: r) = p
        intro h2
        cases p with
        | none => exact ⟨[], .next, .inl rfl, bk_next h0 (bk_next (pi_s1c (n + 63) x t r _) (bk_exc h2))⟩
        | some p =>
          obtain ⟨y, q⟩ := p
          cases q with
          | nil => exact ⟨_, .next, .inl rfl, bk_next h0 (bk_next (pi_s1c (n + 63) x t r _) (bk_next h2 (bk_next (pi_s3n (n + 53) x _ y) rfl)))⟩
          | cons u q => exact ⟨[], .next, .inl rfl, bk_next h0 (bk_next (pi_s1c (n + 63) x t r _) (bk_next h2 (bk_exc (pi_s3c (n + 53) x _ y u (tks q)))))⟩
  obtain ⟨L, fl, hfl, hb⟩ := hb
  refine ⟨L, (fn_H (n := n + 73) (σ := ⟨[], [.dict [], .inst 244 0 []]⟩) (loc := [(sSelf, .ref 1), (sString, .v (.str x))]) fq177 (by kernel_rfl) rfl hb).trans ?_⟩
  generalize pText ws = o
  cases o with
  | none => kernel_rfl
  | some y => rcases hfl with rfl | rfl <;> kernel_rfl
end Rk
end
section
open PySem PySem.W PyProof.Rows PySem.Calls Mine
set_option maxRecDepth 100000
set_option maxHeartbeats 400000
namespace Rk
def sRules : Str := Str.ofString "rules"
def sFound : Str := Str.ofString "found"
def sKey : Str := Str.ofString "key"
def sExpr : Str := Str.ofString "expr"
def sFew : Str := Str.ofString "few"
theorem fq61 : T02.fns.lookup 61 = some (fq 61) := by kernel_rfl
theorem pr_b : (fq 61).body = [sq 61 0, sq 61 1, sq 61 2] := by kernel_rfl
abbrev locR (rv : V) : List (Str × PV) := [(sRules, .v rv), (sSelf, .ref 1), (sFound, .ref 2)]
abbrev locK (rv : V) (k x : Str) : List (Str × PV) := [(sRules, .v rv), (sSelf, .ref 1), (sFound, .ref 2), (sKey, .v (.str k)), (sExpr, .v (.str x))]
abbrev locY (rv : V) (k x : Str) (y : V) : List (Str × PV) := [(sRules, .v rv), (sSelf, .ref 1), (sFound, .ref 2), (sKey, .v (.str k)), (sExpr, .v (.str x)), (sAst, .v y)]
abbrev Hb (fs : List Str) (as : List V) : List AObj := [.dict [], .inst 89 0 [none, some (.ref 3)], .sset fs, .vlist as]
abbrev J4 (L : List V) (y : V) : List AObj := [.dict [(sTokens, .ref 7), (sAst, .v y)], .inst 244 4 [], .vlist L, .vrev []]
abbrev J8 (L : List V) (y : V) : List AObj := [.dict [(sTokens, .ref 11), (sAst, .v y)], .inst 244 8 [], .vlist L, .vrev []]
theorem pr_s01 (n : Nat) (rv : V) : bkR (R (n + 10)) 61 [sq 61 0, sq 61 1] ⟨[(sRules, .v rv), (sSelf, .ref 1)], [.dict [], .inst 89 0 []]⟩ = .ok .next ⟨locR rv, Hb [] []⟩ := by kernel_rfl
def foT : Stmt → Expr
  | .For t _ _ _ _ => t
  | _ => .Constant .none 0 default
def foI : Stmt → Expr
  | .For _ i _ _ _ => i
  | _ => .Constant .none 0 default
def foB : Stmt → List Stmt
  | .For _ _ b _ _ => b
  | _ => []
def foO : Stmt → List Stmt
  | .For _ _ _ o _ => o
  | _ => []
noncomputable abbrev prFor (E : Ev) (xs : List V) (σ : St) : Out AFlow := forE T02 E (Fq 61) (foT (sq 61 2)) (foB (sq 61 2)) (foO (sq 61 2)) xs σ
theorem pr_s2 (n : Nat) (xs : List V) : stR (R (n + 10)) 61 (sq 61 2) ⟨locR (.list xs), Hb [] []⟩ = (vO ((sort2 xs).map .list) ⟨locR (.list xs), Hb [] []⟩).bind fun p σ => (match p with
    | .v (.list ys) => prFor (R (n + 10)) ys σ
    | _ => .no) := by kernel_rfl
noncomputable def prB (i : Nat) : Stmt := (foB (sq 61 2)).getD i (.Pass default)
theorem pr_fb : foB (sq 61 2) = [prB 0, prB 1] ++ [prB 2, prB 3] := by kernel_rfl
theorem pr_fo : foO (sq 61 2) = [] := by kernel_rfl
noncomputable abbrev prT (σ : St) (k x : Str) : Out Unit := asgE T02 (R 0) (Fq 61) (foT (sq 61 2)) (.v (.tuple [.str k, .str x])) σ
theorem pr_as1 (E : Ev) (rv : V) (k x : Str) (H : List AObj) : asgE T02 E (Fq 61) (foT (sq 61 2)) (.v (.tuple [.str k, .str x])) ⟨locR rv, H⟩ = .ok () ⟨locK rv k x, H⟩ := by kernel_rfl
theorem pr_as2 (E : Ev) (rv : V) (k0 x0 k x : Str) (y : V) (H : List AObj) : asgE T02 E (Fq 61) (foT (sq 61 2)) (.v (.tuple [.str k, .str x])) ⟨locY rv k0 x0 y, H⟩ = .ok () ⟨locY rv k x y, H⟩ := by kernel_rfl
theorem pr_01a (n : Nat) (rv : V) (x : Str) : bkR (R (n + 10)) 61 [prB 0, prB 1] ⟨locK rv sFew x, Hb [] []⟩ = .ok .next ⟨locK rv sFew x, Hb [sFew] []⟩ := by kernel_rfl
def sOne : Str := Str.ofString "one"
def sOther : Str := Str.ofString "other"
def sThree : Str := Str.ofString "three"
theorem pr_01b (n : Nat) (rv : V) (x : Str) (y : V) (as : List V) (J : List AObj) : ([sOne, sOther].map fun k => bkR (R (n + 10)) 61 [prB 0, prB 1] ⟨locY rv k x y, Hb [sFew] as ++ J⟩) = [sOne, sOther].map fun k => .ok .next ⟨locY rv k x y, Hb [k, sFew] as ++ J⟩ := by kernel_rfl
abbrev VErr : Value := .type "ValueError"
theorem pr_01c (n : Nat) (rv : V) (x : Str) (y : V) (as : List V) (J : List AObj) : ([sFew, sThree].map fun k => bkR (R (n + 20)) 61 [prB 0, prB 1] ⟨locY rv k x y, Hb [sFew] as ++ J⟩) = [sFew, sThree].map fun _ => .exc VErr := by kernel_rfl
theorem pr_2a (n : Nat) (rv : V) (x : Str) (o : Option V) (L : List V) (h : (R (n + 5)).fn 177 [.ref 1, .v (.str x)] ⟨[], [.dict [], .inst 244 0 []]⟩ = (match o with
      | some y => .ok (.v .none) ⟨[], HA [] L y⟩
      | none => .exc RErr)) : stR (R (n + 5 + 2)) 61 (prB 2) ⟨locK rv sFew x, Hb [sFew] []⟩ = (match o with
      | some y => .ok .next ⟨locY rv sFew x y, Hb [sFew] [] ++ J4 L y⟩
      | none => .exc RErr) :=
  st_call (σ' := ⟨[], [.dict [], .inst 244 0 []]⟩) (fun f => by kernel_rfl) h (by
    cases o with
    | none => kernel_rfl
    | some p => kernel_rfl)
theorem pr_2b (n : Nat) (rv : V) (k x : Str) (o : Option V) (L L0 : List V) (y0 : V) (as : List V) (h : (R (n + 5)).fn 177 [.ref 1, .v (.str x)] ⟨[], [.dict [], .inst 244 0 []]⟩ = (match o with
      | some y => .ok (.v .none) ⟨[], HA [] L y⟩
      | none => .exc RErr)) : stR (R (n + 5 + 2)) 61 (prB 2) ⟨locY rv k x y0, Hb [k, sFew] as ++ J4 L0 y0⟩ = (match o with
      | some y => .ok .next ⟨locY rv k x y, Hb [k, sFew] as ++ (J4 L0 y0 ++ J8 L y)⟩
      | none => .exc RErr) :=
  st_call (σ' := ⟨[], [.dict [], .inst 244 0 []]⟩) (fun f => by kernel_rfl) h (by
    cases o with
    | none => kernel_rfl
    | some p => kernel_rfl)
theorem pr_3n (n : Nat) (rv : V) (k x : Str) (H : List AObj) : stR (R (n + 10)) 61 (prB 3) ⟨locY rv k x .none, H⟩ = .ok .next ⟨locY rv k x .none, H⟩ := by kernel_rfl
theorem pr_3k (n : Nat) (rv : V) (k x : Str) (a : V) (l : List V) (fs : List Str) (as : List V) (J : List AObj) : stR (R (n + 10)) 61 (prB 3) ⟨locY rv k x (.tuple (a :: l)), Hb fs as ++ J⟩ = kBlock (kNext (match fitsN (as.length + 1) with
    | true => .ok (.v .none) ⟨locY rv k x (.tuple (a :: l)), Hb fs (as ++ [.tuple [.str k, .tuple (a :: l)]]) ++ J⟩
    | false => .no)) := by kernel_rfl
theorem pr_3c (n : Nat) (rv : V) (k x : Str) (a : V) (l : List V) (fs : List Str) (as : List V) (J : List AObj) (h : as.length ≤ 1000) : stR (R (n + 10)) 61 (prB 3) ⟨locY rv k x (.tuple (a :: l)), Hb fs as ++ J⟩ =
    .ok .next ⟨locY rv k x (.tuple (a :: l)), Hb fs (as ++ [.tuple [.str k, .tuple (a :: l)]]) ++ J⟩ := by
  rw [pr_3k, fits_of (by omega)]; rfl
end Rk
end
section
open PySem PySem.W PyProof.Rows PySem.Calls Mine
set_option maxRecDepth 100000
set_option maxHeartbeats 400000
namespace Rk
/-- a tree is a tuple -/
def IsT (y : V) : Prop := ∃ a l, y = .tuple (a :: l)
theorem pNeg_tup {b : Bool} {m : Str} {x y : V} {r q : List Tk} (h : pNeg b m x r = some (y, q)) : IsT y := by
  unfold pNeg at h
  split at h
  · cases h
    cases b
    · exact ⟨_, _, rfl⟩
    · exact ⟨_, _, rfl⟩
  · cases h
theorem pRel2_tup {x : V} {ts q : List Tk} {y : V} (h : pRel2 x ts = some (y, q)) : IsT y := by
  unfold pRel2 at h
  split at h
  · split at h
    · cases h; exact ⟨_, _, rfl⟩
    · cases h
  · exact pNeg_tup h
  · exact pNeg_tup h
  · cases h
  · exact pNeg_tup h
  · exact pNeg_tup h
  · unfold pNewf at h
    split at h
    · exact pNeg_tup h
    · exact pNeg_tup h
    · cases h
theorem pRel_tup {ts q : List Tk} {y : V} (h : pRel ts = some (y, q)) : IsT y := by
  unfold pRel at h
  split at h
  · exact pRel2_tup h
  · cases h
theorem pAnds_tup : ∀ {N : Nat} {x y : V} {r q : List Tk}, IsT x → pAnds N x r = some (y, q) → IsT y
  | 0, _, _, _, _, _, h => by cases h
  | N + 1, x, y, r, q, hx, h => by
    unfold pAnds at h
    split at h
    · split at h
      · exact pAnds_tup ⟨_, _, rfl⟩ h
      · cases h
    · cases h; exact hx
theorem pAnd_tup {ts q : List Tk} {y : V} (h : pAnd ts = some (y, q)) : IsT y := by
  unfold pAnd at h
  split at h
  · rename_i h1; exact pAnds_tup (pRel_tup h1) h
  · cases h
theorem pConds_tup : ∀ {N : Nat} {x y : V} {r q : List Tk}, IsT x → pConds N x r = some (y, q) → IsT y
  | 0, _, _, _, _, _, h => by cases h
  | N + 1, x, y, r, q, hx, h => by
    unfold pConds at h
    split at h
    · split at h
      · exact pConds_tup ⟨_, _, rfl⟩ h
      · cases h
    · cases h; exact hx
theorem pCond_tup {ts q : List Tk} {y : V} (h : pCond ts = some (y, q)) : IsT y := by
  unfold pCond at h
  split at h
  · rename_i h1; exact pConds_tup (pAnd_tup h1) h
  · cases h
def abs1 (y : V) : List V := match y with
  | .none => []
  | y => [.tuple [.str sFew, y]]
def YOk (y : V) : Prop := y = .none ∨ IsT y
theorem pText_ok {ws : List Bd} {y : V} (h : pText ws = some y) : (ws = [] ∧ y = .none) ∨ (ws ≠ [] ∧ IsT y) := by
  unfold pText at h
  split at h
  · cases h
  · rename_i h1
    cases h
    have := toksOf_len h1
    exact .inl ⟨List.length_eq_zero_iff.mp this.symm, rfl⟩
  · rename_i t r h1
    split at h
    · rename_i h2
      cases h
      refine .inr ⟨fun e => ?_, pCond_tup h2⟩
      subst e; cases h1
    · cases h
theorem YOk.of {ws : List Bd} {y : V} (h : pText ws = some y) : YOk y := (pText_ok h).imp And.right And.right
theorem ex_61 (n : Nat) (b : List Stmt) (σ : St) : (R (n + 1)).ex (Fq 61) b σ = bkR (R n) 61 b σ := rfl
theorem for_next {E : Ev} {x : V} {r : List V} {σ σ' σ'' : St} {o : Out AFlow} (h : asgE T02 E (Fq 61) (foT (sq 61 2)) (.v x) σ = .ok () σ') (h2 : E.ex (Fq 61) (foB (sq 61 2)) σ' = .ok .next σ'') (h3 : prFor E r σ'' = o) : prFor E (x :: r) σ = o := by
  show (asgE T02 E (Fq 61) (foT (sq 61 2)) (.v x) σ).bind _ = _
  rw [h]
  show (E.ex (Fq 61) (foB (sq 61 2)) σ').bind _ = _
  rw [h2]
  exact h3
theorem for_exc {E : Ev} {x : V} {r : List V} {σ σ' : St} {c : Value} (h : asgE T02 E (Fq 61) (foT (sq 61 2)) (.v x) σ = .ok () σ') (h2 : E.ex (Fq 61) (foB (sq 61 2)) σ' = .exc c) : prFor E (x :: r) σ = .exc c := by
  show (asgE T02 E (Fq 61) (foT (sq 61 2)) (.v x) σ).bind _ = _
  rw [h]
  show (E.ex (Fq 61) (foB (sq 61 2)) σ').bind _ = _
  rw [h2]
  rfl
/-- what _Parser gives for a text -/
def Parses (n : Nat) (x : Str) (o : Option V) (L : List V) : Prop := (R (n + 5)).fn 177 [.ref 1, .v (.str x)] ⟨[], [.dict [], .inst 244 0 []]⟩ = (match o with
      | some y => .ok (.v .none) ⟨[], HA [] L y⟩
      | none => .exc RErr)
theorem pr_first {n : Nat} {rv : V} {x : Str} {y : V} {L r : List V} {o : Out AFlow} (hy : YOk y) (h : Parses (n + 3) x (some y) L) (h2 : prFor (R (n + 11)) r ⟨locY rv sFew x y, Hb [sFew] (abs1 y) ++ J4 L y⟩ = o) :
    prFor (R (n + 11)) (.tuple [.str sFew, .str x] :: r) ⟨locR rv, Hb [] []⟩ = o := by
  refine for_next (pr_as1 _ rv sFew x _) ?_ h2
  show bkR (R (n + 10)) 61 _ _ = _
  rw [pr_fb]
  refine bk_app_next (pr_01a n rv x) (bk_next (pr_2a (n + 3) rv x (some y) L h) ?_)
  rcases hy with rfl | ⟨a, l, rfl⟩
  · exact bk_next (pr_3n n rv sFew x _) rfl
  · exact bk_next (pr_3c n rv sFew x a l [sFew] [] (J4 L _) (by simp)) rfl
theorem pr_firstX {n : Nat} {rv : V} {x : Str} {L r : List V} (h : Parses (n + 3) x none L) : prFor (R (n + 11)) (.tuple [.str sFew, .str x] :: r) ⟨locR rv, Hb [] []⟩ = .exc RErr := by
  refine for_exc (pr_as1 _ rv sFew x _) ?_
  show bkR (R (n + 10)) 61 _ _ = _
  rw [pr_fb]
  exact bk_app_next (pr_01a n rv x) (bk_exc (pr_2a (n + 3) rv x none L h))
theorem pr_end (E : Ev) (n : Nat) (σ : St) : prFor (R (n + 1)) [] σ = .ok .next σ := by
  show (R (n + 1)).ex (Fq 61) (foO (sq 61 2)) σ = _
  rw [pr_fo]; rfl
theorem pr_second {n : Nat} {rv : V} {x0 x k : Str} {y0 a : V} {l : List V} {L0 L as : List V} (hk : k ∈ [sOne, sOther]) (ha : as.length ≤ 1000) (h : Parses (n + 3) x (some (.tuple (a :: l))) L) :
    prFor (R (n + 11)) [.tuple [.str k, .str x]] ⟨locY rv sFew x0 y0, Hb [sFew] as ++ J4 L0 y0⟩ = .ok .next ⟨locY rv k x (.tuple (a :: l)), Hb [k, sFew] (as ++ [.tuple [.str k, .tuple (a :: l)]]) ++ (J4 L0 y0 ++ J8 L (.tuple (a :: l)))⟩ := by
  refine for_next (pr_as2 _ rv sFew x0 k x y0 _) ?_ (pr_end (R 0) (n + 10) _)
  show bkR (R (n + 10)) 61 _ _ = _
  rw [pr_fb]
  exact bk_app_next (map_at (f := fun k => bkR (R (n + 10)) 61 [prB 0, prB 1] ⟨locY rv k x y0, Hb [sFew] as ++ J4 L0 y0⟩) (g := fun k => .ok .next ⟨locY rv k x y0, Hb [k, sFew] as ++ J4 L0 y0⟩) (pr_01b n rv x y0 as (J4 L0 y0)) k hk)
    (bk_next (pr_2b (n + 3) rv k x (some (.tuple (a :: l))) L L0 y0 as h) (bk_next (pr_3c n rv k x a l [k, sFew] as _ ha) rfl))
theorem pr_secondX {n : Nat} {rv : V} {x0 x k : Str} {y0 : V} {L0 as : List V} (hk : k ∈ [sFew, sThree]) : prFor (R (n + 21)) [.tuple [.str k, .str x]] ⟨locY rv sFew x0 y0, Hb [sFew] as ++ J4 L0 y0⟩ = .exc VErr := by
  refine for_exc (pr_as2 _ rv sFew x0 k x y0 _) ?_
  show bkR (R (n + 20)) 61 _ _ = _
  rw [pr_fb]
  exact bk_app_exc (map_at (f := fun k => bkR (R (n + 20)) 61 [prB 0, prB 1] ⟨locY rv k x y0, Hb [sFew] as ++ J4 L0 y0⟩) (g := fun _ => .exc VErr) (pr_01c n rv x y0 as (J4 L0 y0)) k hk)
/-- PluralRule.__init__ from its loop -/
theorem pr_fn {n : Nat} {xs ys : List V} {o : Out AFlow} (hs : sort2 xs = some ys) (h : prFor (R (n + 10)) ys ⟨locR (.list xs), Hb [] []⟩ = o) : (R (n + 12)).fn 61 [.ref 1, .v (.list xs)] ⟨[], [.dict [], .inst 89 0 []]⟩ =
    finH (fq 61) ⟨[], [.dict [], .inst 89 0 []]⟩ (o.bind fun f σ => match f with
      | .next => .ok .next σ
      | f => .ok f σ) := by
  refine fn_H (n := n + 10) (σ := ⟨[], [.dict [], .inst 89 0 []]⟩) (loc := [(sSelf, .ref 1), (sRules, .v (.list xs))]) fq61 (by kernel_rfl) rfl ?_
  have hb : (fq 61).body = [sq 61 0, sq 61 1] ++ [sq 61 2] := pr_b
  rw [hb]
  refine bk_app_next (pr_s01 n (.list xs)) ?_
  show (stR (R (n + 10)) 61 (sq 61 2) ⟨locR (.list xs), Hb [] []⟩).bind _ = _
  rw [pr_s2, hs]
  show (prFor (R (n + 10)) ys ⟨locR (.list xs), Hb [] []⟩).bind _ = _
  rw [h]
  cases o with
  | ok f σ => cases f <;> rfl
  | _ => rfl
/-- one rule -/
theorem pr_one (n : Nat) (x : Str) (o : Option V) (L : List V) (hy : ∀ y, o = some y → YOk y) (h : Parses (n + 3) x o L) : (R (n + 13)).fn 61 [.ref 1, .v (.list [.tuple [.str sFew, .str x]])] ⟨[], [.dict [], .inst 89 0 []]⟩ = (match o with
    | some y => .ok (.v .none) ⟨[], Hb [sFew] (abs1 y) ++ J4 L y⟩
    | none => .exc RErr) := by
  cases o with
  | none => exact (pr_fn (n := n + 1) (ys := [.tuple [.str sFew, .str x]]) rfl (pr_firstX h)).trans (by rfl)
  | some y =>
    have hy := hy y rfl
    refine (pr_fn (n := n + 1) (ys := [.tuple [.str sFew, .str x]]) rfl (pr_first hy h (pr_end (R 0) (n + 10) _))).trans ?_
    rcases hy with rfl | ⟨a, l, rfl⟩
    · kernel_rfl
    · kernel_rfl
/-- two rules of two names -/
theorem pr_two (n : Nat) (x x7 k : Str) (y a : V) (l L L7 : List V) (hk : k ∈ [sOne, sOther]) (hy : YOk y) (h : Parses (n + 3) x (some y) L) (h7 : Parses (n + 3) x7 (some (.tuple (a :: l))) L7) :
    (R (n + 13)).fn 61 [.ref 1, .v (.list [.tuple [.str k, .str x7], .tuple [.str sFew, .str x]])] ⟨[], [.dict [], .inst 89 0 []]⟩ =
      .ok (.v .none) ⟨[], Hb [k, sFew] (abs1 y ++ [.tuple [.str k, .tuple (a :: l)]]) ++ (J4 L y ++ J8 L7 (.tuple (a :: l)))⟩ := by
  have hs : sort2 [.tuple [.str k, .str x7], .tuple [.str sFew, .str x]] = some [.tuple [.str sFew, .str x], .tuple [.str k, .str x7]] :=
    map_at (f := fun k => sort2 [.tuple [.str k, .str x7], .tuple [.str sFew, .str x]]) (g := fun k => some [.tuple [.str sFew, .str x], .tuple [.str k, .str x7]]) (by kernel_rfl) k hk
  have ha : (abs1 y).length ≤ 1000 := by rcases hy with rfl | ⟨a, l, rfl⟩ <;> simp [abs1]
  refine (pr_fn (n := n + 1) hs (pr_first hy h (pr_second hk ha h7))).trans ?_
  rcases hy with rfl | ⟨a, l, rfl⟩
  · kernel_rfl
  · kernel_rfl
/-- a name that is no tag -/
theorem pr_bad3 (n : Nat) (x x7 : Str) (y : V) (L : List V) (hy : YOk y) (h : Parses (n + 13) x (some y) L) :
    (R (n + 23)).fn 61 [.ref 1, .v (.list [.tuple [.str sThree, .str x7], .tuple [.str sFew, .str x]])] ⟨[], [.dict [], .inst 89 0 []]⟩ = .exc VErr := by
  have hs : sort2 [.tuple [.str sThree, .str x7], .tuple [.str sFew, .str x]] = some [.tuple [.str sFew, .str x], .tuple [.str sThree, .str x7]] := by kernel_rfl
  exact (pr_fn (n := n + 11) hs (pr_first (n := n + 10) hy h (pr_secondX (n := n) (by simp)))).trans rfl
def pairO (c : Bool) (a b : V) : List V := match c with
  | true => [b, a]
  | false => [a, b]
theorem sort2_pair {a b : V} {c : Bool} (h : ltV b a = some c) : sort2 [a, b] = some (pairO c a b) := by
  have e : sort2 [a, b] = (match ltV b a with | some true => some [b, a] | some false => some [a, b] | none => none) := rfl
  rw [e, h]
  cases c <;> rfl
/-- a name twice -/
theorem pr_bad2 (n : Nat) (x x7 : Str) (y y7 : V) (L L7 : List V) (hy : YOk y) (h : Parses (n + 13) x (some y) L) (hy7 : YOk y7) (h7 : Parses (n + 13) x7 (some y7) L7) :
    (R (n + 23)).fn 61 [.ref 1, .v (.list [.tuple [.str sFew, .str x7], .tuple [.str sFew, .str x]])] ⟨[], [.dict [], .inst 89 0 []]⟩ = .exc VErr := by
  have hs : sort2 [.tuple [.str sFew, .str x7], .tuple [.str sFew, .str x]] = some [.tuple [.str sFew, .str x], .tuple [.str sFew, .str x7]] ∨ sort2 [.tuple [.str sFew, .str x7], .tuple [.str sFew, .str x]] = some [.tuple [.str sFew, .str x7], .tuple [.str sFew, .str x]] := by
    obtain ⟨b, hb⟩ : ∃ b, ltV (.tuple [.str sFew, .str x]) (.tuple [.str sFew, .str x7]) = some b := ⟨_, rfl⟩
    cases b
    · exact .inr (sort2_pair hb)
    · exact .inl (sort2_pair hb)
  rcases hs with hs | hs
  · exact (pr_fn (n := n + 11) hs (pr_first (n := n + 10) hy h (pr_secondX (n := n) (by simp)))).trans rfl
  · exact (pr_fn (n := n + 11) hs (pr_first (n := n + 10) hy7 h7 (pr_secondX (n := n) (by simp)))).trans rfl
end Rk
end
section
open PySem PySem.W PyProof.Rows PySem.Calls Mine
set_option maxRecDepth 100000
set_option maxHeartbeats 400000
namespace Rk
def sCls : Str := Str.ofString "cls"
def sTags : Str := Str.ofString "tags"
theorem fq68 : T02.fns.lookup 68 = some (fq 68) := by kernel_rfl
theorem fq84 : T02.fns.lookup 84 = some (fq 84) := by kernel_rfl
theorem pa_b : (fq 68).body = [sq 68 0, sq 68 1] := by kernel_rfl
abbrev lC (xs : List V) : List (Str × PV) := [(sRules, .v (.list xs)), (sCls, .cst (.ref 89))]
theorem pa_s0 (n : Nat) (xs : List V) : stR (R (n + 10)) 68 (sq 68 0) ⟨lC xs, []⟩ = .ok .next ⟨lC xs, []⟩ := by kernel_rfl
/-- what PluralRule.__init__ leaves -/
inductive Mk : Type where
  | one (fs : List Str) (as : List V) (L : List V) (y : V)
  | two (fs : List Str) (as : List V) (L : List V) (y : V) (L7 : List V) (y7 : V)
def Mk.H : Mk → List AObj
  | .one fs as L y => Hb fs as ++ J4 L y
  | .two fs as L y L7 y7 => Hb fs as ++ (J4 L y ++ J8 L7 y7)
/-- a call that makes a rule -/
def outM (loc : List (Str × PV)) (p : PV) (o : Value ⊕ Mk) : Out PV := match o with
  | .inl c => .exc c
  | .inr k => .ok p ⟨loc, k.H⟩
theorem pa_s1 (n : Nat) (xs : List V) (o : Value ⊕ Mk) (h : (R (n + 5)).fn 61 [.ref 1, .v (.list xs)] ⟨[], [.dict [], .inst 89 0 []]⟩ = outM [] (.v .none) o) :
    stR (R (n + 5 + 1)) 68 (sq 68 1) ⟨lC xs, []⟩ = (match o with
      | .inl c => .exc c
      | .inr k => .ok (.ret (.ref 1)) ⟨lC xs, k.H⟩) :=
  st_call (σ' := ⟨[], [.dict [], .inst 89 0 []]⟩) (fun f => by kernel_rfl) h (by
    cases o with
    | inl c => kernel_rfl
    | inr k => cases k <;> kernel_rfl)
theorem parse_eq (n : Nat) (xs : List V) (o : Value ⊕ Mk) (loc : List (Str × PV)) (h : (R (n + 10)).fn 61 [.ref 1, .v (.list xs)] ⟨[], [.dict [], .inst 89 0 []]⟩ = outM [] (.v .none) o) :
    (R (n + 13)).fn 68 [.cst (.ref 89), .v (.list xs)] ⟨loc, []⟩ = outM loc (.ref 1) o := by
  have hb : bkR (R (n + 11)) 68 (fq 68).body ⟨lC xs, []⟩ = (match o with
      | .inl c => .exc c
      | .inr k => .ok (.ret (.ref 1)) ⟨lC xs, k.H⟩) := by
    rw [pa_b]
    have h1 := pa_s1 (n + 5) xs o h
    refine bk_next (pa_s0 (n + 1) xs) ?_
    cases o with
    | inl c => exact bk_exc h1
    | inr k => exact bk_ret h1
  refine (fn_V (n := n + 11) (σ := ⟨loc, []⟩) (loc := [(sCls, .cst (.ref 89)), (sRules, .v (.list xs))]) fq68 (by kernel_rfl) rfl hb).trans ?_
  cases o with
  | inl c => kernel_rfl
  | inr k => cases k <;> kernel_rfl
/-- the names of a rule -/
theorem tags_one (n : Nat) (fs : List Str) (L : List V) (y : V) (hy : YOk y) (loc : List (Str × PV)) : (R (n + 12)).fn 84 [.ref 1] ⟨loc, Hb fs (abs1 y) ++ J4 L y⟩ = .ok (.fset (match y with
    | .none => []
    | _ => [sFew])) ⟨loc, Hb fs (abs1 y) ++ J4 L y⟩ := by
  rcases hy with rfl | ⟨a, l, rfl⟩
  · kernel_rfl
  · kernel_rfl
theorem tags_two (n : Nat) (fs : List Str) (L L7 : List V) (y y7 : V) (hy : YOk y) (loc : List (Str × PV)) : ([sOne, sOther].map fun k => (R (n + 12)).fn 84 [.ref 1] ⟨loc, Hb fs (abs1 y ++ [.tuple [.str k, y7]]) ++ (J4 L y ++ J8 L7 y7)⟩) = [sOne, sOther].map fun k => .ok (.fset (match y with
    | .none => [k]
    | _ => [sFew, k])) ⟨loc, Hb fs (abs1 y ++ [.tuple [.str k, y7]]) ++ (J4 L y ++ J8 L7 y7)⟩ := by
  rcases hy with rfl | ⟨a, l, rfl⟩
  · kernel_rfl
  · kernel_rfl
/-! the law's frame -/
noncomputable abbrev Fp (pr : List Str) : Fn := { Fq 490 with prot := pr }
noncomputable abbrev stL (pr : List Str) (E : Ev) (s : Stmt) (σ : St) : Out AFlow := stS T02 Z02 B02 E (Fp pr) s σ
noncomputable abbrev bkL (pr : List Str) (E : Ev) (b : List Stmt) (σ : St) : Out AFlow := blkS T02 Z02 B02 E (Fp pr) b σ
theorem fq490 : T02.fns.lookup 490 = some (fq 490) := by kernel_rfl
theorem law_b : (fq 490).body.length = 12 := by kernel_rfl
def trB : Stmt → List Stmt
  | .Try b _ _ _ _ => b
  | _ => []
def trH : Stmt → List ExceptHandler
  | .Try _ h _ _ _ => h
  | _ => []
def asV : Stmt → Expr
  | .Assign _ e _ => e
  | _ => .Constant .none 0 default
def arg0 : Expr → Expr
  | .Call _ (a :: _) _ _ => a
  | _ => .Constant .none 0 default
def atO : Expr → Expr
  | .Attribute o _ _ => o
  | _ => .Constant .none 0 default
noncomputable def try1 : Stmt := (trB (sq 490 7)).getD 0 (.Pass default)
noncomputable def try2 : Stmt := (trB (sq 490 10)).getD 0 (.Pass default)
noncomputable def eX1 : Expr := atO (arg0 (asV try1))
noncomputable def eX2 : Expr := atO (arg0 (asV try2))
theorem try1_b : trB (sq 490 7) = [try1] := by kernel_rfl
theorem try2_b : trB (sq 490 10) = [try2] := by kernel_rfl
def sTold : Str := Str.ofString "told"
def sTaken : Str := Str.ofString "taken"
def sText : Str := Str.ofString "text"
def kAsgF (F : Fn) (x : Str) (o : Out PV) : Out AFlow := o.bind fun p σ => (storeE F x p σ).bind fun _ σ => .ok .next σ
noncomputable def kSorted (E : Ev) (o : Out PV) : Out PV := (kOne o).bind fun as σ => applyE T02 Z02 (up 1 E) (.cst (.builtin "sorted")) as σ
theorem t1_K (E : Ev) (pr : List Str) (σ : St) : stL pr (up 2 E) try1 σ = kAsgF (Fp pr) sTold (kSorted E ((E.ev (Fp pr) eX1 σ).bind fun p σ => attrE T02 E sTags p σ)) := by kernel_rfl
theorem t2_K (E : Ev) (pr : List Str) (σ : St) : stL pr (up 2 E) try2 σ = kAsgF (Fp pr) sTold (kSorted E ((E.ev (Fp pr) eX2 σ).bind fun p σ => attrE T02 E sTags p σ)) := by kernel_rfl
theorem at_tags (E : Ev) (loc : List (Str × PV)) (fs : List Str) (as : List V) (J : List AObj) : attrE T02 E sTags (.ref 1) ⟨loc, Hb fs as ++ J⟩ = quietP (E.fn 84 [.ref 1] ⟨loc, Hb fs as ++ J⟩) := by kernel_rfl
theorem ev_call {n : Nat} {F : Fn} {e : Expr} {σ σ' : St} {a : Addr} {args : List PV} {o : Out PV} (ht : ∀ f, (up 1 (ov (R n) f)).ev F e σ = f a args σ') (h : (R n).fn a args σ' = o) : (R (n + 1)).ev F e σ = o := by
  have e1 := ht (R n).fn
  rw [ov_self, up_R, h] at e1
  exact e1
end Rk
end
section
open PySem PySem.W PyProof.Rows PySem.Calls Mine
set_option maxRecDepth 100000
set_option maxHeartbeats 400000
namespace Rk
def isVal : Tk → Bool
  | .v7 => true
  | .v40 => true
  | _ => false
def isDots : Tk → Bool
  | .dots => true
  | .ell => true
  | _ => false
def clean : Tk → Bool
  | .and => false
  | .or => false
  | _ => true
def valT : List Tk → Option (List Tk)
  | t :: r => if isVal t then some r else none
  | [] => none
theorem valT_eq (ts : List Tk) : (pValue ts).map Prod.snd = valT ts := by
  cases ts with
  | nil => rfl
  | cons t r => cases t <;> rfl
def rovT2 : List Tk → Option (List Tk)
  | t :: q => if isDots t then valT q else some (t :: q)
  | [] => some []
theorem rov2_eq (x : V) (r : List Tk) : (rov2 x r).map Prod.snd = rovT2 r := by
  cases r with
  | nil => rfl
  | cons t q =>
    cases t <;> try rfl
    all_goals
      show Option.map _ (match pValue q with | some (y, r) => some (PyData.tuple [x, y], r) | none => none) = valT q
      rw [← valT_eq]
      cases pValue q <;> rfl
def rovT (ts : List Tk) : Option (List Tk) := (valT ts).bind rovT2
theorem pRov_eq (ts : List Tk) : (pRov ts).map Prod.snd = rovT ts := by
  unfold pRov rovT
  rw [← valT_eq]
  cases pValue ts with
  | none => rfl
  | some p => exact rov2_eq p.1 p.2
def itemsT : Nat → List Tk → Option (List Tk)
  | 0, _ => none
  | N + 1, t :: r => if t = .comma then (rovT r).bind (itemsT N) else some (t :: r)
  | _ + 1, [] => some []
theorem pItems_eq : ∀ (N : Nat) (xs : List V) (r : List Tk), (pItems N xs r).map Prod.snd = itemsT N r
  | 0, xs, r => rfl
  | N + 1, xs, [] => rfl
  | N + 1, xs, t :: r => by
    cases t <;> try rfl
    show Option.map _ (match pRov r with | some (x, r) => pItems N (xs ++ [x]) r | none => none) = (rovT r).bind (itemsT N)
    rw [← pRov_eq]
    cases pRov r with
    | none => rfl
    | some p => exact pItems_eq N (xs ++ [p.1]) p.2
def listR (ts : List Tk) : Option (List Tk) := (rovT ts).bind (itemsT 200)
theorem pList_eq (ts : List Tk) : (pList ts).map Prod.snd = listR ts := by
  unfold pList listR
  rw [← pRov_eq]
  cases pRov ts with
  | none => rfl
  | some p =>
    obtain ⟨x, r⟩ := p
    show Option.map _ (match pItems 200 [x] r with | some (ys, r) => some (PyData.tuple [.str sRl, .list ys], r) | none => none) = itemsT 200 r
    rw [← pItems_eq 200 [x] r]
    generalize pItems 200 [x] r = o
    cases o <;> rfl
def exT2 : List Tk → Option (List Tk)
  | t :: q => if t = .mod ∨ t = .pct then valT q else some (t :: q)
  | [] => some []
theorem ex2_eq (x : Str) (r : List Tk) : (ex2 x r).map Prod.snd = exT2 r := by
  cases r with
  | nil => rfl
  | cons t q =>
    cases t <;> try rfl
    all_goals
      show Option.map _ (match pValue q with | some (y, r) => some (PyData.tuple [.str (Str.ofString "mod"), .tuple [.tuple [.str x, .tuple []], y]], r) | none => none) = valT q
      rw [← valT_eq]
      cases pValue q <;> rfl
def exprT : List Tk → Option (List Tk)
  | t :: r => if (opd t).isSome then exT2 r else none
  | [] => none
theorem pExpr_eq (ts : List Tk) : (pExpr ts).map Prod.snd = exprT ts := by
  cases ts with
  | nil => rfl
  | cons t r =>
    show Option.map _ (match opd t with | some x => ex2 x r | none => none) = if (opd t).isSome then exT2 r else none
    cases opd t with
    | none => rfl
    | some x => exact ex2_eq x r
def isTT : List Tk → Option (List Tk)
  | .not :: q => valT q
  | r => valT r
theorem isT_eq (x : V) (r : List Tk) : (isT x r).map (fun p => p.2.2) = isTT r := by
  have key : ∀ (o : Str) (r : List Tk), Option.map (fun p : Str × V × List Tk => p.2.2) (match pValue r with | some (y, r) => some (o, y, r) | none => none) = valT r := fun o r => by
    rw [← valT_eq]
    cases pValue r <;> rfl
  cases r with
  | nil => exact key sIs []
  | cons t q =>
    by_cases ht : t = .not
    · subst ht; exact key sIsnot q
    · have e1 : isT x (t :: q) = (match pValue (t :: q) with | some (y, r) => some (sIs, y, r) | none => none) := by cases t <;> first | rfl | exact absurd rfl ht
      have e2 : isTT (t :: q) = valT (t :: q) := by cases t <;> first | rfl | exact absurd rfl ht
      rw [e1, e2]; exact key sIs (t :: q)
def relR2 : List Tk → Option (List Tk)
  | .is :: q => isTT q
  | .not :: .within :: q => listR q
  | .not :: .isin :: q => listR q
  | .within :: q => listR q
  | .isin :: q => listR q
  | .eq :: q => listR q
  | .ne :: q => listR q
  | _ => none
theorem pNeg_eq (b : Bool) (m : Str) (x : V) (r : List Tk) : (pNeg b m x r).map Prod.snd = listR r := by
  unfold pNeg
  rw [← pList_eq]
  cases pList r <;> rfl
theorem pRel2_eq (x : V) (r : List Tk) : (pRel2 x r).map Prod.snd = relR2 r := by
  cases r with
  | nil => rfl
  | cons t q =>
    cases t
    case is =>
      show Option.map _ (match isT x q with | some (o, y, r) => some (isV o x y, r) | none => none) = isTT q
      rw [← isT_eq x q]
      cases isT x q <;> rfl
    case not =>
      cases q with
      | nil => rfl
      | cons u q =>
        cases u
        case within => exact pNeg_eq true sWithin x q
        case isin => exact pNeg_eq true sIn x q
        all_goals rfl
    case within => exact pNeg_eq false sWithin x q
    case isin => exact pNeg_eq false sIn x q
    case eq => exact pNeg_eq false sIn x q
    case ne => exact pNeg_eq true sIn x q
    all_goals rfl
def relR (ts : List Tk) : Option (List Tk) := (exprT ts).bind relR2
theorem pRel_eq (ts : List Tk) : (pRel ts).map Prod.snd = relR ts := by
  unfold pRel relR
  rw [← pExpr_eq]
  cases pExpr ts with
  | none => rfl
  | some p => exact pRel2_eq p.1 p.2
def andsR : Nat → List Tk → Option (List Tk)
  | 0, _ => none
  | N + 1, t :: r => if t = .and then (relR r).bind (andsR N) else some (t :: r)
  | _ + 1, [] => some []
theorem pAnds_eq : ∀ (N : Nat) (x : V) (r : List Tk), (pAnds N x r).map Prod.snd = andsR N r
  | 0, x, r => rfl
  | N + 1, x, [] => rfl
  | N + 1, x, t :: r => by
    cases t <;> try rfl
    show Option.map _ (match pRel r with | some (y, r) => pAnds N (anV x y) r | none => none) = (relR r).bind (andsR N)
    rw [← pRel_eq]
    cases pRel r with
    | none => rfl
    | some p => exact pAnds_eq N (anV x p.1) p.2
def andR (ts : List Tk) : Option (List Tk) := (relR ts).bind (andsR 200)
theorem pAnd_eq (ts : List Tk) : (pAnd ts).map Prod.snd = andR ts := by
  unfold pAnd andR
  rw [← pRel_eq]
  cases pRel ts with
  | none => rfl
  | some p => exact pAnds_eq 200 p.1 p.2
def condsR : Nat → List Tk → Option (List Tk)
  | 0, _ => none
  | N + 1, t :: r => if t = .or then (andR r).bind (condsR N) else some (t :: r)
  | _ + 1, [] => some []
theorem pConds_eq : ∀ (N : Nat) (x : V) (r : List Tk), (pConds N x r).map Prod.snd = condsR N r
  | 0, x, r => rfl
  | N + 1, x, [] => rfl
  | N + 1, x, t :: r => by
    cases t <;> try rfl
    show Option.map _ (match pAnd r with | some (y, r) => pConds N (coV x y) r | none => none) = (andR r).bind (condsR N)
    rw [← pAnd_eq]
    cases pAnd r with
    | none => rfl
    | some p => exact pConds_eq N (coV x p.1) p.2
def condR (ts : List Tk) : Option (List Tk) := (andR ts).bind (condsR 200)
theorem pCond_eq (ts : List Tk) : (pCond ts).map Prod.snd = condR ts := by
  unfold pCond condR
  rw [← pAnd_eq]
  cases pAnd ts with
  | none => rfl
  | some p => exact pConds_eq 200 p.1 p.2
end Rk
end
section
open PySem PySem.W PyProof.Rows PySem.Calls Mine
set_option maxRecDepth 100000
set_option maxHeartbeats 400000
namespace Rk
def Stop (p : List Tk) : Prop := p = [] ∨ ∃ t q, p = t :: q ∧ clean t = false
/-- all parts between the signs -/
def lf {α : Type} [DecidableEq α] (P : List α → Bool) (s : α) : List α → List α → Bool
  | cur, [] => P cur
  | cur, w :: r => if w = s then P cur && lf P s [] r else lf P s (cur ++ [w]) r
theorem lf_dead {α : Type} [DecidableEq α] {P : List α → Bool} {s : α} : ∀ (r cur : List α), (∀ q, P (cur ++ q) = false) → lf P s cur r = false
  | [], cur, h => by have := h []; rwa [List.append_nil] at this
  | w :: r, cur, h => by
    unfold lf
    split
    · have := h []; rw [List.append_nil] at this; rw [this]; rfl
    · exact lf_dead r (cur ++ [w]) fun q => by rw [List.append_assoc]; exact h _
def spanT : List Tk → Bool
  | [a] => isVal a
  | [a, b, c] => isVal a && isDots b && isVal c
  | _ => false
theorem span_val {a : Tk} (h : isVal a = false) (q : List Tk) : spanT (a :: q) = false := by
  match q with
  | [] => exact h
  | [b] => rfl
  | [b, c] => show (isVal a && isDots b && isVal c) = false; rw [h]; rfl
  | b :: c :: d :: q => rfl
theorem span_dots {a b : Tk} (h : isDots b = false) (q : List Tk) : spanT (a :: b :: q) = false := by
  match q with
  | [] => rfl
  | [c] => show (isVal a && isDots b && isVal c) = false; rw [h]; simp
  | c :: d :: q => rfl
theorem span_end {a b c : Tk} (h : isVal c = false) (q : List Tk) : spanT (a :: b :: c :: q) = false := by
  match q with
  | [] => show (isVal a && isDots b && isVal c) = false; rw [h]; simp
  | d :: q => rfl
theorem span_long {a b c d : Tk} (q : List Tk) : spanT (a :: b :: c :: d :: q) = false := rfl
theorem valT_stop {p : List Tk} (h : Stop p) : valT p = none := by
  rcases h with rfl | ⟨t, q, rfl, ht⟩
  · rfl
  · cases t <;> first | rfl | cases ht
theorem rovT2_stop {p : List Tk} (h : Stop p) : rovT2 p = some p := by
  rcases h with rfl | ⟨t, q, rfl, ht⟩
  · rfl
  · cases t <;> first | rfl | cases ht
theorem exT2_stop {p : List Tk} (h : Stop p) : exT2 p = some p := by
  rcases h with rfl | ⟨t, q, rfl, ht⟩
  · rfl
  · cases t <;> first | rfl | cases ht
theorem exprT_stop {p : List Tk} (h : Stop p) : exprT p = none := by
  rcases h with rfl | ⟨t, q, rfl, ht⟩
  · rfl
  · cases t <;> first | rfl | cases ht
theorem relR2_stop {p : List Tk} (h : Stop p) : relR2 p = none := by
  rcases h with rfl | ⟨t, q, rfl, ht⟩
  · rfl
  · cases t <;> first | rfl | cases ht
theorem itemsT_stop {p : List Tk} {N : Nat} (h : Stop p) : itemsT (N + 1) p = some p := by
  rcases h with rfl | ⟨t, q, rfl, ht⟩
  · rfl
  · cases t <;> first | rfl | cases ht
theorem rovT_stop {p : List Tk} (h : Stop p) : rovT p = none := by
  unfold rovT; rw [valT_stop h]; rfl
theorem ne_of_len {p q : List Tk} (h : p.length < q.length) : ¬ (some q = some p) := fun e => by
  cases e; exact Nat.lt_irrefl _ h
theorem iff_no {A : Prop} {b : Bool} (h1 : ¬ A) (h2 : b = false) : (A ↔ b = true) := by
  rw [h2]; exact ⟨fun h => absurd h h1, fun h => (by cases h)⟩
/-- the lists of spans -/
theorem list_iff {p : List Tk} (hp : Stop p) : ∀ (n : Nat) (S : List Tk) (N : Nat), S.length ≤ n → S.length < N → ((rovT (S ++ p)).bind (itemsT N) = some p ↔ lf spanT .comma [] S = true)
  | n, [], N, _, _ => by
    rw [List.nil_append, rovT_stop hp]
    exact ⟨fun h => (by cases h), fun h => (by cases h)⟩
  | 0, _ :: _, N, h, _ => by simp at h
  | n + 1, v :: S, N + 1, h, hN => by
    have hS : S.length ≤ n := by simpa using h
    have hSN : S.length < N := by simpa using hN
    cases hv : isVal v with
    | false =>
      refine iff_no ?_ ?_
      · unfold rovT valT
        rw [List.cons_append]
        dsimp only
        rw [hv]; intro h; cases h
      · unfold lf
        split
        · rfl
        · exact lf_dead S [v] fun q => span_val hv q
    | true =>
      have e1 : rovT (v :: S ++ p) = rovT2 (S ++ p) := by
        unfold rovT valT
        rw [List.cons_append]
        dsimp only
        rw [hv]; rfl
      have hvc : v ≠ .comma := by rintro rfl; cases hv
      have e2 : lf spanT .comma [] (v :: S) = lf spanT .comma [v] S := by rw [lf, if_neg hvc]; rfl
      rw [e1]
      match S, hS, hSN, e1, e2 with
      | [], _, _, _, e2 =>
        rw [List.nil_append, rovT2_stop hp, e2]
        exact ⟨fun _ => hv, fun _ => itemsT_stop hp⟩
      | c :: S2, hS, hSN, e1, e2 =>
        have e3 : (if c = .comma then spanT [v] && lf spanT .comma [] S2 else lf spanT .comma [v, c] S2) = lf spanT .comma [v] (c :: S2) := rfl
        rw [← e3] at e2
        cases hd : isDots c with
        | true =>
          have hcc : c ≠ .comma := by rintro rfl; cases hd
          rw [if_neg hcc] at e2
          have e4 : rovT2 (c :: S2 ++ p) = valT (S2 ++ p) := by
            unfold rovT2; rw [List.cons_append]; dsimp only; rw [hd]; rfl
          rw [e4]
          match S2, hS, hSN, e2 with
          | [], _, _, e2 =>
            refine iff_no ?_ e2
            rw [List.nil_append, valT_stop hp]; intro h; cases h
          | w :: S3, hS, hSN, e2 =>
            have e5 : (if w = .comma then spanT [v, c] && lf spanT .comma [] S3 else lf spanT .comma [v, c, w] S3) = lf spanT .comma [v, c] (w :: S3) := rfl
            rw [← e5] at e2
            cases hw : isVal w with
            | false =>
              refine iff_no ?_ ?_
              · unfold valT; rw [List.cons_append]; dsimp only; rw [hw]; intro h; cases h
              · rw [e2]
                split
                · rfl
                · exact lf_dead S3 [v, c, w] fun q => span_end hw q
            | true =>
              have hwc : w ≠ .comma := by rintro rfl; cases hw
              rw [if_neg hwc] at e2
              have e6 : valT (w :: S3 ++ p) = some (S3 ++ p) := by
                unfold valT; rw [List.cons_append]; dsimp only; rw [hw]; rfl
              rw [e6]
              match S3, hS, hSN, e2 with
              | [], _, _, e2 =>
                rw [List.nil_append, e2]
                refine ⟨fun _ => ?_, fun _ => itemsT_stop hp⟩
                show (isVal v && isDots c && isVal w) = true
                rw [hv, hd, hw]; rfl
              | x :: S4, hS, hSN, e2 =>
                have e7 : (if x = .comma then spanT [v, c, w] && lf spanT .comma [] S4 else lf spanT .comma [v, c, w, x] S4) = lf spanT .comma [v, c, w] (x :: S4) := rfl
                rw [← e7] at e2
                by_cases hx : x = .comma
                · subst hx
                  rw [if_pos rfl] at e2
                  have e8 : spanT [v, c, w] = true := by show (isVal v && isDots c && isVal w) = true; rw [hv, hd, hw]; rfl
                  rw [e2, e8, Bool.true_and]
                  have l4 : S4.length + 3 ≤ n := hS
                  have l5 : S4.length + 3 < N := hSN
                  exact list_iff hp n S4 N (by omega) (by omega)
                · rw [if_neg hx] at e2
                  refine iff_no ?_ (by rw [e2]; exact lf_dead S4 _ fun q => span_long q)
                  show ¬ (itemsT (N + 1) (x :: (S4 ++ p)) = some p)
                  unfold itemsT
                  rw [if_neg hx]
                  exact ne_of_len (by simp; omega)
        | false =>
          have e4 : rovT2 (c :: S2 ++ p) = some (c :: (S2 ++ p)) := by
            unfold rovT2; rw [List.cons_append]; dsimp only; rw [hd]; rfl
          rw [e4]
          show itemsT (N + 1) (c :: (S2 ++ p)) = some p ↔ _
          by_cases hc : c = .comma
          · subst hc
            rw [if_pos rfl] at e2
            have e8 : spanT [v] = true := hv
            rw [e2, e8, Bool.true_and]
            have l4 : S2.length + 1 ≤ n := hS
            have l5 : S2.length + 1 < N := hSN
            exact list_iff hp n S2 N (by omega) (by omega)
          · rw [if_neg hc] at e2
            refine iff_no ?_ (by rw [e2]; exact lf_dead S2 _ fun q => span_dots hd q)
            show ¬ (itemsT (N + 1) (c :: (S2 ++ p)) = some p)
            unfold itemsT
            rw [if_neg hc]
            exact ne_of_len (by simp; omega)
def listT (S : List Tk) : Bool := lf spanT .comma [] S
theorem listR_iff {p S : List Tk} (hp : Stop p) (hl : S.length < 200) : listR (S ++ p) = some p ↔ listT S = true := list_iff hp S.length S 200 (Nat.le_refl _) hl
end Rk
end
section
open PySem PySem.W PyProof.Rows PySem.Calls Mine
set_option maxRecDepth 100000
set_option maxHeartbeats 400000
set_option linter.constructorNameAsVariable false
namespace Rk
def valOk : List Tk → Bool
  | [a] => isVal a
  | _ => false
def isOk : List Tk → Bool
  | .not :: q => valOk q
  | q => valOk q
def relT2 : List Tk → Bool
  | .is :: q => isOk q
  | .not :: .within :: q => listT q
  | .not :: .isin :: q => listT q
  | .within :: q => listT q
  | .isin :: q => listT q
  | .eq :: q => listT q
  | .ne :: q => listT q
  | _ => false
def relTv : List Tk → Bool
  | t :: q => isVal t && relT2 q
  | [] => false
def relT1 : List Tk → Bool
  | t :: q => if t = .mod ∨ t = .pct then relTv q else relT2 (t :: q)
  | [] => false
def relT : List Tk → Bool
  | t :: r => (opd t).isSome && relT1 r
  | [] => false
theorem none_iff {p : List Tk} : ((none : Option (List Tk)) = some p ↔ false = true) := ⟨fun h => (by cases h), fun h => (by cases h)⟩
theorem valT_iff {p : List Tk} (hp : Stop p) (S : List Tk) : valT (S ++ p) = some p ↔ valOk S = true := by
  match S with
  | [] => rw [List.nil_append, valT_stop hp]; exact none_iff
  | [a] =>
    show (if isVal a then some p else none) = some p ↔ isVal a = true
    cases isVal a
    · exact none_iff
    · exact ⟨fun _ => rfl, fun _ => rfl⟩
  | a :: b :: S =>
    refine iff_no ?_ rfl
    show ¬ ((if isVal a then some (b :: (S ++ p)) else none) = some p)
    cases isVal a
    · intro h; cases h
    · exact ne_of_len (by simp; omega)
theorem isTT_not {t : Tk} (ht : t ≠ .not) (q : List Tk) : isTT (t :: q) = valT (t :: q) := by cases t <;> first | rfl | exact absurd rfl ht
theorem isOk_not {t : Tk} (ht : t ≠ .not) (q : List Tk) : isOk (t :: q) = valOk (t :: q) := by cases t <;> first | rfl | exact absurd rfl ht
theorem isTT_stop {p : List Tk} (h : Stop p) : isTT p = none := by
  rcases h with rfl | ⟨t, q, rfl, ht⟩
  · rfl
  · cases t <;> first | rfl | cases ht
theorem isTT_iff {p : List Tk} (hp : Stop p) (S : List Tk) : isTT (S ++ p) = some p ↔ isOk S = true := by
  match S with
  | [] => rw [List.nil_append, isTT_stop hp]; exact none_iff
  | t :: q =>
    by_cases ht : t = .not
    · subst ht; exact valT_iff hp q
    · rw [isOk_not ht, List.cons_append, isTT_not ht]; exact valT_iff hp (t :: q)
theorem relR2_notstop {p : List Tk} (h : Stop p) : relR2 (.not :: p) = none := by
  rcases h with rfl | ⟨t, q, rfl, ht⟩
  · rfl
  · cases t <;> first | rfl | cases ht
theorem rel2_iff {p : List Tk} (hp : Stop p) (S : List Tk) (hl : S.length < 200) : relR2 (S ++ p) = some p ↔ relT2 S = true := by
  match S with
  | [] => rw [List.nil_append, relR2_stop hp]; exact none_iff
  | t :: q =>
    have hq : q.length < 200 := Nat.lt_of_succ_lt hl
    cases t
    case is => exact isTT_iff hp q
    case within => exact listR_iff hp hq
    case isin => exact listR_iff hp hq
    case eq => exact listR_iff hp hq
    case ne => exact listR_iff hp hq
    case not =>
      match q with
      | [] => rw [show ([Tk.not] ++ p) = .not :: p from rfl, relR2_notstop hp]; exact none_iff
      | u :: q =>
        have hq2 : q.length < 200 := Nat.lt_of_succ_lt (Nat.lt_of_succ_lt hl)
        cases u
        case within => exact listR_iff hp hq2
        case isin => exact listR_iff hp hq2
        all_goals exact none_iff
    all_goals exact none_iff
theorem rel1_iff {p : List Tk} (hp : Stop p) (S : List Tk) (hl : S.length < 200) : (exT2 (S ++ p)).bind relR2 = some p ↔ relT1 S = true := by
  match S with
  | [] => rw [List.nil_append, exT2_stop hp]; show relR2 p = some p ↔ false = true; rw [relR2_stop hp]; exact none_iff
  | t :: q =>
    show (if t = .mod ∨ t = .pct then valT (q ++ p) else some (t :: (q ++ p))).bind relR2 = some p ↔ (if t = .mod ∨ t = .pct then relTv q else relT2 (t :: q)) = true
    by_cases ht : t = .mod ∨ t = .pct
    · rw [if_pos ht, if_pos ht]
      match q with
      | [] => rw [List.nil_append, valT_stop hp]; exact none_iff
      | v :: q =>
        have hq : q.length < 200 := Nat.lt_of_succ_lt (Nat.lt_of_succ_lt hl)
        show (if isVal v then some (q ++ p) else none).bind relR2 = some p ↔ (isVal v && relT2 q) = true
        cases isVal v
        · exact none_iff
        · rw [Bool.true_and]; exact rel2_iff hp q hq
    · rw [if_neg ht, if_neg ht]
      exact rel2_iff hp (t :: q) hl
theorem rel_iff {p : List Tk} (hp : Stop p) (S : List Tk) (hl : S.length < 200) : relR (S ++ p) = some p ↔ relT S = true := by
  unfold relR
  match S with
  | [] => rw [List.nil_append, exprT_stop hp]; exact none_iff
  | t :: r =>
    show (if (opd t).isSome then exT2 (r ++ p) else none).bind relR2 = some p ↔ ((opd t).isSome && relT1 r) = true
    cases (opd t).isSome
    · exact none_iff
    · rw [Bool.true_and]; exact rel1_iff hp r (Nat.lt_of_succ_lt hl)
/-- what is read is clean -/
def Cs (ts r : List Tk) : Prop := ∃ c, ts = c ++ r ∧ ∀ t ∈ c, clean t = true
theorem Cs.refl {ts : List Tk} : Cs ts ts := ⟨[], rfl, fun t h => by cases h⟩
theorem Cs.cons {ts r : List Tk} {t : Tk} (ht : clean t = true) (h : Cs ts r) : Cs (t :: ts) r := by
  obtain ⟨c, rfl, hc⟩ := h
  refine ⟨t :: c, rfl, fun u hu => ?_⟩
  rcases List.mem_cons.mp hu with rfl | hu
  · exact ht
  · exact hc u hu
theorem Cs.trans {ts r q : List Tk} (h : Cs ts r) (h' : Cs r q) : Cs ts q := by
  obtain ⟨c, rfl, hc⟩ := h
  obtain ⟨d, rfl, hd⟩ := h'
  refine ⟨c ++ d, (List.append_assoc ..).symm, fun u hu => ?_⟩
  rcases List.mem_append.mp hu with hu | hu
  · exact hc u hu
  · exact hd u hu
theorem valT_cs {ts r : List Tk} (h : valT ts = some r) : Cs ts r := by
  match ts with
  | [] => cases h
  | t :: q =>
    have h : (if isVal t then some q else none) = some r := h
    cases ht : isVal t with
    | false => rw [ht] at h; cases h
    | true =>
      rw [ht] at h; cases h
      exact .cons (by cases t <;> first | rfl | cases ht) .refl
theorem rovT2_cs {ts r : List Tk} (h : rovT2 ts = some r) : Cs ts r := by
  match ts with
  | [] => cases h; exact .refl
  | t :: q =>
    have h : (if isDots t then valT q else some (t :: q)) = some r := h
    cases ht : isDots t with
    | false => rw [ht] at h; cases h; exact .refl
    | true =>
      rw [ht] at h
      exact .cons (by cases t <;> first | rfl | cases ht) (valT_cs h)
theorem bind_some {f : List Tk → Option (List Tk)} {o : Option (List Tk)} {r : List Tk} (h : o.bind f = some r) : ∃ q, o = some q ∧ f q = some r := by
  cases o with
  | none => cases h
  | some q => exact ⟨q, rfl, h⟩
theorem rovT_cs {ts r : List Tk} (h : rovT ts = some r) : Cs ts r := by
  obtain ⟨q, h1, h2⟩ := bind_some h
  exact (valT_cs h1).trans (rovT2_cs h2)
theorem itemsT_cs : ∀ (N : Nat) {ts r : List Tk}, itemsT N ts = some r → Cs ts r
  | 0, _, _, h => by cases h
  | N + 1, [], r, h => by cases h; exact .refl
  | N + 1, t :: q, r, h => by
    have h : (if t = .comma then (rovT q).bind (itemsT N) else some (t :: q)) = some r := h
    by_cases ht : t = .comma
    · rw [if_pos ht] at h
      obtain ⟨q', h1, h2⟩ := bind_some h
      exact .cons (by rw [ht]; rfl) ((rovT_cs h1).trans (itemsT_cs N h2))
    · rw [if_neg ht] at h; cases h; exact .refl
theorem listR_cs {ts r : List Tk} (h : listR ts = some r) : Cs ts r := by
  obtain ⟨q, h1, h2⟩ := bind_some h
  exact (rovT_cs h1).trans (itemsT_cs 200 h2)
theorem exT2_cs {ts r : List Tk} (h : exT2 ts = some r) : Cs ts r := by
  match ts with
  | [] => cases h; exact .refl
  | t :: q =>
    have h : (if t = .mod ∨ t = .pct then valT q else some (t :: q)) = some r := h
    by_cases ht : t = .mod ∨ t = .pct
    · rw [if_pos ht] at h
      exact .cons (by rcases ht with rfl | rfl <;> rfl) (valT_cs h)
    · rw [if_neg ht] at h; cases h; exact .refl
theorem exprT_cs {ts r : List Tk} (h : exprT ts = some r) : Cs ts r := by
  match ts with
  | [] => cases h
  | t :: q =>
    have h : (if (opd t).isSome then exT2 q else none) = some r := h
    cases ht : (opd t).isSome with
    | false => rw [ht] at h; cases h
    | true =>
      rw [ht] at h
      exact .cons (by cases t <;> first | rfl | cases ht) (exT2_cs h)
theorem isTT_cs {ts r : List Tk} (h : isTT ts = some r) : Cs ts r := by
  match ts with
  | [] => cases h
  | t :: q =>
    by_cases ht : t = .not
    · subst ht; exact .cons rfl (valT_cs h)
    · rw [isTT_not ht] at h; exact valT_cs h
theorem relR2_cs {ts r : List Tk} (h : relR2 ts = some r) : Cs ts r := by
  match ts with
  | [] => cases h
  | t :: q =>
    cases t
    case is => exact .cons rfl (isTT_cs h)
    case within => exact .cons rfl (listR_cs h)
    case isin => exact .cons rfl (listR_cs h)
    case eq => exact .cons rfl (listR_cs h)
    case ne => exact .cons rfl (listR_cs h)
    case not =>
      match q with
      | [] => cases h
      | u :: q =>
        cases u
        case within => exact .cons rfl (.cons rfl (listR_cs h))
        case isin => exact .cons rfl (.cons rfl (listR_cs h))
        all_goals cases h
    all_goals cases h
theorem relR_cs {ts r : List Tk} (h : relR ts = some r) : Cs ts r := by
  obtain ⟨q, h1, h2⟩ := bind_some h
  exact (exprT_cs h1).trans (relR2_cs h2)
end Rk
end
section
open PySem PySem.W PyProof.Rows PySem.Calls Mine
set_option maxRecDepth 100000
set_option maxHeartbeats 400000
set_option linter.constructorNameAsVariable false
namespace Rk
theorem cs_split : ∀ {c S r p : List Tk}, S ++ p = c ++ r → (∀ t ∈ c, clean t = true) → Stop p → ∃ S', r = S' ++ p ∧ S = c ++ S'
  | [], S, r, p, h, _, _ => ⟨S, h.symm, rfl⟩
  | t :: c, [], r, p, h, hc, hp => by
    rcases hp with rfl | ⟨u, q, rfl, hu⟩
    · cases h
    · have h : u :: q = t :: (c ++ r) := h
      cases h
      rw [hc _ (.head _)] at hu; cases hu
  | t :: c, s :: S, r, p, h, hc, hp => by
    have h : s :: (S ++ p) = t :: (c ++ r) := h
    injection h with h1 h2
    subst h1
    obtain ⟨S', e1, e2⟩ := cs_split h2 (fun u hu => hc u (.tail _ hu)) hp
    exact ⟨S', e1, by rw [e2]; rfl⟩
/-- groups of relations -/
def grpT (g : List Tk) : Bool := lf relT .and [] g
def takenT (ts : List Tk) : Bool := lf grpT .or [] ts
theorem lf_app {α : Type} [DecidableEq α] {P : List α → Bool} {s : α} : ∀ (S cur p : List α), (∀ t ∈ S, t ≠ s) → lf P s cur (S ++ p) = lf P s (cur ++ S) p
  | [], cur, p, _ => by rw [List.append_nil]; rfl
  | t :: S, cur, p, h => by
    rw [List.cons_append, lf, if_neg (h t (.head _)), lf_app S (cur ++ [t]) p fun u hu => h u (.tail _ hu), List.append_assoc]; rfl
theorem grp_and {S : List Tk} (hS : ∀ t ∈ S, clean t = true) (g : List Tk) : grpT (S ++ .and :: g) = (relT S && grpT g) := by
  unfold grpT
  rw [lf_app S [] (.and :: g) (fun t ht e => by have := hS t ht; rw [e] at this; cases this), List.nil_append, lf, if_pos rfl]
theorem grp_one {S : List Tk} (hS : ∀ t ∈ S, clean t = true) : grpT S = relT S := by
  have h := lf_app (P := relT) (s := .and) S [] [] (fun t ht e => by have := hS t ht; rw [e] at this; cases this)
  rw [List.append_nil] at h
  exact h
theorem lf_and {S : List Tk} (hS : ∀ t ∈ S, clean t = true) : ∀ (ts cur : List Tk), lf grpT .or (S ++ .and :: cur) ts = (relT S && lf grpT .or cur ts)
  | [], cur => grp_and hS cur
  | t :: q, cur => by
    rw [lf, lf]
    by_cases ht : t = .or
    · rw [if_pos ht, if_pos ht, grp_and hS cur, Bool.and_assoc]
    · rw [if_neg ht, if_neg ht]
      have := lf_and hS q (cur ++ [t])
      rw [← this]
      congr 1
      simp
theorem taken_nil {S : List Tk} (hS : ∀ t ∈ S, clean t = true) : takenT S = relT S := by
  have h := lf_app (P := grpT) (s := .or) S [] [] (fun t ht e => by have := hS t ht; rw [e] at this; cases this)
  rw [List.append_nil] at h
  unfold takenT
  rw [h]
  exact grp_one hS
theorem taken_sep {S : List Tk} (hS : ∀ t ∈ S, clean t = true) {t : Tk} (ht : clean t = false) (q : List Tk) : takenT (S ++ t :: q) = (relT S && takenT q) := by
  unfold takenT
  rw [lf_app S [] (t :: q) (fun t ht e => by have := hS t ht; rw [e] at this; cases this), List.nil_append]
  cases t <;> first | cases ht | skip
  · rw [lf, if_neg (by intro h; cases h)]
    exact lf_and hS q []
  · rw [lf, if_pos rfl, grp_one hS]
theorem split_clean : ∀ ts : List Tk, ∃ S p, ts = S ++ p ∧ (∀ t ∈ S, clean t = true) ∧ Stop p
  | [] => ⟨[], [], rfl, fun t h => (by cases h), .inl rfl⟩
  | t :: r => by
    cases ht : clean t with
    | false => exact ⟨[], t :: r, rfl, fun t h => (by cases h), .inr ⟨t, r, rfl, ht⟩⟩
    | true =>
      obtain ⟨S, p, e, h1, h2⟩ := split_clean r
      exact ⟨t :: S, p, by rw [e]; rfl, fun u hu => by
        rcases List.mem_cons.mp hu with rfl | hu
        · exact ht
        · exact h1 u hu, h2⟩
/-- the parser takes what the law takes -/
theorem cond_iff : ∀ (n : Nat) (ts : List Tk) (N M : Nat), ts.length ≤ n → ts.length < 200 → ts.length < N → ts.length < M → (((relR ts).bind (andsR N)).bind (condsR M) = some [] ↔ takenT ts = true)
  | n, ts, N, M, hn, hl, hN, hM => by
    obtain ⟨S, p, e, hS, hp⟩ := split_clean ts
    have hSl : S.length + p.length = ts.length := by rw [e, List.length_append]
    have hri := rel_iff hp S (by omega)
    obtain ⟨N, rfl⟩ : ∃ k, N = k + 1 := ⟨N - 1, by omega⟩
    obtain ⟨M, rfl⟩ : ∃ k, M = k + 1 := ⟨M - 1, by omega⟩
    have takes : relT S = false → takenT ts = false := fun h => by
      rcases hp with rfl | ⟨t, q, rfl, ht⟩
      · rw [e, List.append_nil, taken_nil hS]; exact h
      · rw [e, taken_sep hS ht, h]; rfl
    rw [← e] at hri
    cases hr : relR ts with
    | none =>
      refine iff_no (by intro h; cases h) (takes ?_)
      cases hb : relT S with
      | false => rfl
      | true => rw [hr] at hri; cases hri.mpr hb
    | some r =>
      obtain ⟨c, ec, hc⟩ := relR_cs hr
      obtain ⟨S', er, eS⟩ := cs_split (e.symm.trans ec) hc hp
      match S', er, eS with
      | u :: S', er, eS =>
        have hu : clean u = true := hS u (by rw [eS]; simp)
        refine iff_no ?_ (takes ?_)
        · rw [er]
          show ¬ ((andsR (N + 1) (u :: (S' ++ p))).bind (condsR (M + 1)) = some [])
          have h1 : u ≠ .and := by rintro rfl; cases hu
          have h2 : u ≠ .or := by rintro rfl; cases hu
          rw [andsR, if_neg h1]
          show ¬ (condsR (M + 1) (u :: (S' ++ p)) = some [])
          rw [condsR, if_neg h2]
          intro h; cases h
        · cases hb : relT S with
          | false => rfl
          | true =>
            have := hri.mpr hb
            rw [hr] at this
            injection this with this
            rw [er] at this
            have := congrArg List.length this
            simp at this
            omega
      | [], er, eS =>
        have er : r = p := er
        subst er
        have hrel : relT S = true := hri.mp hr
        rcases hp with rfl | ⟨t, q, rfl, ht⟩
        · rw [e, List.append_nil, taken_nil hS]
          exact ⟨fun _ => hrel, fun _ => rfl⟩
        · have hq : q.length + 1 ≤ ts.length := by simp only [List.length_cons] at hSl; omega
          rw [e, taken_sep hS ht, hrel, Bool.true_and]
          match n, hn with
          | 0, hn => omega
          | n + 1, hn =>
            cases t <;> first | cases ht | skip
            · show ((if Tk.and = .and then (relR q).bind (andsR N) else some (.and :: q)).bind (condsR (M + 1)) = some []) ↔ _
              rw [if_pos rfl]
              exact cond_iff n q N (M + 1) (by omega) (by omega) (by omega) (by omega)
            · show ((if Tk.or = .or then (andR q).bind (condsR M) else some (.or :: q)) = some []) ↔ _
              rw [if_pos rfl]
              exact cond_iff n q 200 M (by omega) (by omega) (by omega) (by omega)
theorem pCond_iff (ts : List Tk) (hl : ts.length < 200) : (∃ y, pCond ts = some (y, [])) ↔ takenT ts = true := by
  have h := cond_iff ts.length ts 200 200 (Nat.le_refl _) hl hl hl
  have e : condR ts = ((relR ts).bind (andsR 200)).bind (condsR 200) := rfl
  rw [← e, ← pCond_eq] at h
  rw [← h]
  constructor
  · rintro ⟨y, h⟩; rw [h]; rfl
  · intro h
    rw [Option.map_eq_some_iff] at h
    obtain ⟨⟨y, r⟩, h1, h2⟩ := h
    have h2 : r = [] := h2
    subst h2
    exact ⟨y, h1⟩
end Rk
end
section
open PySem PySem.W PyProof.Rows PySem.Calls Mine
set_option maxRecDepth 100000
set_option maxHeartbeats 400000
set_option linter.constructorNameAsVariable false
namespace Rk
theorem fq457 : T02.fns.lookup 457 = some (fq 457) := by kernel_rfl
theorem fq471 : T02.fns.lookup 471 = some (fq 471) := by kernel_rfl
def allW : List Bd := allB ++ [.ats]
theorem mem_allW (b : Bd) : b ∈ allW := by
  cases b with
  | ats => exact List.mem_append_right _ (.head _)
  | _ => exact List.mem_append_left _ (mem_allB (by intro h; cases h))
def valB : Bd → Bool
  | .k t => isVal t
  | _ => false
def dotB : Bd → Bool
  | .k t => isDots t
  | _ => false
def spanB : List Bd → Bool
  | [a] => valB a
  | [a, b, c] => valB a && dotB b && valB c
  | _ => false
abbrev okB (b : Bool) (σ : St) : Out PV := .ok (.v (.bool b)) σ
theorem span_1 (n : Nat) (σ : St) : (allW.map fun a => (R (n + 20)).fn 471 [.v (wsV [a])] σ) = allW.map fun a => okB (valB a) σ := by kernel_rfl
theorem span_0 (n : Nat) (σ : St) : (R (n + 20)).fn 471 [.v (.list [])] σ = okB false σ := by kernel_rfl
theorem span_2 (n : Nat) (σ : St) (x y : V) : (R (n + 20)).fn 471 [.v (.list [x, y])] σ = okB false σ := by kernel_rfl
theorem span_4 (n : Nat) (σ : St) (x y z u : V) (r : List V) : (R (n + 20)).fn 471 [.v (.list (x :: y :: z :: u :: r))] σ = okB false σ := by kernel_rfl
def notDots : List Bd := allW.filter fun b => !dotB b
def notVals : List Bd := allW.filter fun b => !valB b
theorem span_3a (n : Nat) (σ : St) (x z : V) : (notDots.map fun b => (R (n + 20)).fn 471 [.v (.list [x, .str b.text, z])] σ) = notDots.map fun _ => okB false σ := by kernel_rfl
theorem span_3b (n : Nat) (σ : St) (z : V) : ([Tk.dots, .ell].map fun b => notVals.map fun a => (R (n + 20)).fn 471 [.v (.list [.str a.text, .str b.text, z])] σ) = [Tk.dots, .ell].map fun _ => notVals.map fun _ => okB false σ := by kernel_rfl
theorem span_3c (n : Nat) (σ : St) : ([Tk.dots, .ell].map fun b => [Tk.v7, .v40].map fun a => allW.map fun c => (R (n + 20)).fn 471 [.v (.list [.str a.text, .str b.text, .str c.text])] σ) = [Tk.dots, .ell].map fun _ => [Tk.v7, .v40].map fun _ => allW.map fun c => okB (valB c) σ := by kernel_rfl
theorem span_eq (n : Nat) (σ : St) (q : List Bd) : (R (n + 20)).fn 471 [.v (wsV q)] σ = okB (spanB q) σ := by
  match q with
  | [] => exact span_0 n σ
  | [a] => exact map_at (f := fun a => (R (n + 20)).fn 471 [.v (wsV [a])] σ) (g := fun a => okB (valB a) σ) (span_1 n σ) a (mem_allW a)
  | [a, b] => exact span_2 n σ (.str a.text) (.str b.text)
  | a :: b :: c :: d :: r => exact span_4 n σ (.str a.text) (.str b.text) (.str c.text) (.str d.text) (r.map fun b => .str b.text)
  | [a, b, c] =>
    show _ = okB (valB a && dotB b && valB c) σ
    cases hb : dotB b with
    | false =>
      rw [Bool.and_false, Bool.false_and]
      exact map_at (f := fun b : Bd => (R (n + 20)).fn 471 [.v (.list [.str a.text, .str b.text, .str c.text])] σ) (g := fun _ : Bd => okB false σ) (span_3a n σ (.str a.text) (.str c.text)) b (List.mem_filter.mpr ⟨mem_allW b, by rw [hb]; rfl⟩)
    | true =>
      have hb' : ∃ t ∈ [Tk.dots, .ell], b = .k t := by
        cases b with
        | k t => cases t <;> first | exact ⟨_, .head _, rfl⟩ | exact ⟨_, .tail _ (.head _), rfl⟩ | cases hb
        | _ => cases hb
      obtain ⟨t, ht, rfl⟩ := hb'
      cases ha : valB a with
      | false =>
        have h := map_at (f := fun b : Tk => notVals.map fun a : Bd => (R (n + 20)).fn 471 [.v (.list [.str a.text, .str b.text, .str c.text])] σ) (g := fun _ : Tk => notVals.map fun _ : Bd => okB false σ) (span_3b n σ (.str c.text)) t ht
        exact map_at (f := fun a : Bd => (R (n + 20)).fn 471 [.v (.list [.str a.text, .str t.text, .str c.text])] σ) (g := fun _ : Bd => okB false σ) h a (List.mem_filter.mpr ⟨mem_allW a, by rw [ha]; rfl⟩)
      | true =>
        have ha' : ∃ u ∈ [Tk.v7, .v40], a = .k u := by
          cases a with
          | k t => cases t <;> first | exact ⟨_, .head _, rfl⟩ | exact ⟨_, .tail _ (.head _), rfl⟩ | cases ha
          | _ => cases ha
        obtain ⟨u, hu, rfl⟩ := ha'
        rw [Bool.true_and, Bool.true_and]
        have h1 := map_at (f := fun b : Tk => [Tk.v7, .v40].map fun a : Tk => allW.map fun c : Bd => (R (n + 20)).fn 471 [.v (.list [.str a.text, .str b.text, .str c.text])] σ) (g := fun _ : Tk => [Tk.v7, .v40].map fun _ : Tk => allW.map fun c : Bd => okB (valB c) σ) (span_3c n σ) t ht
        have h2 := map_at (f := fun a : Tk => allW.map fun c : Bd => (R (n + 20)).fn 471 [.v (.list [.str a.text, .str t.text, .str c.text])] σ) (g := fun _ : Tk => allW.map fun c : Bd => okB (valB c) σ) h1 u hu
        exact map_at (f := fun c : Bd => (R (n + 20)).fn 471 [.v (.list [.str u.text, .str t.text, .str c.text])] σ) (g := fun c => okB (valB c) σ) h2 c (mem_allW c)
end Rk
end
section
open PySem PySem.W PyProof.Rows PySem.Calls Mine
set_option maxRecDepth 100000
set_option maxHeartbeats 400000
set_option linter.constructorNameAsVariable false
namespace Rk
def partsL (s : Bd) : List Bd → List Bd → List (List Bd)
  | cur, [] => [cur]
  | cur, w :: r => if w = s then cur :: partsL s [] r else partsL s (cur ++ [w]) r
theorem parts_all (P : List Bd → Bool) (s : Bd) : ∀ (ws cur : List Bd), (partsL s cur ws).all P = lf P s cur ws
  | [], cur => by simp [partsL, lf]
  | w :: r, cur => by
    unfold partsL lf
    split
    · rw [List.all_cons, parts_all P s r []]
    · exact parts_all P s r _
theorem text_inj' : (allW.all fun a => allW.all fun b => (a.text == b.text) == decide (a = b)) = true := by decide +kernel
theorem text_eq (a b : Bd) : (a.text == b.text) = decide (a = b) := by
  have h := List.all_eq_true.mp text_inj' a (mem_allW a)
  exact eq_of_beq (List.all_eq_true.mp h b (mem_allW b))
def sSign : Str := Str.ofString "sign"
def sWords : Str := Str.ofString "words"
def sParts : Str := Str.ofString "parts"
def sWd : Str := Str.ofString "word"
def sAppend : Str := Str.ofString "append"
theorem fq464 : T02.fns.lookup 464 = some (fq 464) := by kernel_rfl
theorem lp_b : (fq 464).body = [sq 464 0, sq 464 1, sq 464 2] := by kernel_rfl
abbrev lp0 (xs : List V) (y : Str) : List (Str × PV) := [(sSign, .v (.str y)), (sWords, .v (.list xs))]
abbrev lp1 (xs : List V) (y : Str) : List (Str × PV) := [(sSign, .v (.str y)), (sWords, .v (.list xs)), (sParts, .ref 1)]
abbrev lp2 (xs : List V) (y : Str) (w : V) : List (Str × PV) := [(sSign, .v (.str y)), (sWords, .v (.list xs)), (sParts, .ref 1), (sWd, .v w)]
def lpO (xs : List V) (y : Str) (o : Option V) : List (Str × PV) := match o with
  | none => lp1 xs y
  | some w => lp2 xs y w
theorem lp_s0 (n : Nat) (xs : List V) (y : Str) : stR (R (n + 10)) 464 (sq 464 0) ⟨lp0 xs y, []⟩ = .ok .next ⟨lp1 xs y, [.vlist [], .rlist [.ref 0]]⟩ := by kernel_rfl
noncomputable abbrev lpFor (E : Ev) (xs : List V) (σ : St) : Out AFlow := forE T02 E (Fq 464) (foT (sq 464 1)) (foB (sq 464 1)) (foO (sq 464 1)) xs σ
theorem lp_s1 (n : Nat) (xs : List V) (y : Str) (H : List AObj) : stR (R (n + 10)) 464 (sq 464 1) ⟨lp1 xs y, H⟩ = lpFor (R (n + 10)) xs ⟨lp1 xs y, H⟩ := by kernel_rfl
noncomputable def lpIf : Stmt := (foB (sq 464 1)).getD 0 (.Pass default)
theorem lp_fb : foB (sq 464 1) = [lpIf] := by kernel_rfl
theorem lp_fo : foO (sq 464 1) = [] := by kernel_rfl
def ifT : Stmt → Expr
  | .If t _ _ _ => t
  | _ => .Constant .none 0 default
def ifB : Stmt → List Stmt
  | .If _ b _ _ => b
  | _ => []
def ifO : Stmt → List Stmt
  | .If _ _ o _ => o
  | _ => []
def isIf : Stmt → Bool
  | .If .. => true
  | _ => false
theorem st_if {E : Ev} {F : Fn} {s : Stmt} {σ σ' : St} {c : Bool} (hs : isIf s = true) (h : E.tr F (ifT s) σ = .ok c σ') : stS T02 Z02 B02 E F s σ = (match c with
    | true => E.ex F (ifB s) σ'
    | false => E.ex F (ifO s) σ') := by
  cases s <;> first | cases hs | skip
  rename_i t b o p
  show (E.tr F t σ).bind _ = _
  have h : E.tr F t σ = .ok c σ' := h
  rw [h]
  cases c <;> rfl
theorem lp_as (E : Ev) (xs : List V) (y : Str) (o : Option V) (w : V) (H : List AObj) : asgE T02 E (Fq 464) (foT (sq 464 1)) (.v w) ⟨lpO xs y o, H⟩ = .ok () ⟨lp2 xs y w, H⟩ := by cases o <;> kernel_rfl
theorem lp_tr (n : Nat) (xs : List V) (y x : Str) (H : List AObj) : (R (n + 10)).tr (Fq 464) (ifT lpIf) ⟨lp2 xs y (.str x), H⟩ = .ok (x == y) ⟨lp2 xs y (.str x), H⟩ := by kernel_rfl
theorem lp_then (n : Nat) (xs : List V) (y : Str) (w : V) (a : AObj) (refs : List PV) (rest : List AObj) : (R (n + 10)).ex (Fq 464) (ifB lpIf) ⟨lp2 xs y w, a :: .rlist refs :: rest⟩ = kBlock (kNext (match fitsN (refs.length + 1) with
    | true => .ok (.v .none) ⟨lp2 xs y w, a :: .rlist (refs ++ [.ref (rest.length + 2)]) :: (rest ++ [.vlist []])⟩
    | false => .no)) := by kernel_rfl
def exV : Stmt → Expr
  | .Expr e _ => e
  | _ => .Constant .none 0 default
noncomputable def kApp (E : Ev) (F : Fn) (args : List Expr) (p : PV) (σ : St) : Out PV := match resE T02 sAppend p σ.H with
  | some c => (evs E F args σ).bind fun as σ => applyC Z02 E c as σ
  | none => .no
noncomputable def lpA : List Expr := callArgs (exV ((ifO lpIf).getD 0 (.Pass default)))
theorem lp_else (n : Nat) (xs : List V) (y : Str) (w : V) (a : AObj) (refs : List PV) (rest : List AObj) : (R (n + 10)).ex (Fq 464) (ifO lpIf) ⟨lp2 xs y w, a :: .rlist refs :: rest⟩ = kBlock (kNext ((okO (atI refs (-1)) ⟨lp2 xs y w, a :: .rlist refs :: rest⟩).bind fun p σ => kApp (R (n + 8)) (Fq 464) lpA p σ)) := by kernel_rfl
theorem lp_arg (n : Nat) (xs : List V) (y : Str) (w : V) (H : List AObj) : evs (R (n + 8)) (Fq 464) lpA ⟨lp2 xs y w, H⟩ = .ok [.v w] ⟨lp2 xs y w, H⟩ := by kernel_rfl
theorem lp_s2 (n : Nat) (xs : List V) (y : Str) (o : Option V) (H : List AObj) : stR (R (n + 10)) 464 (sq 464 2) ⟨lpO xs y o, H⟩ = .ok (.ret (.ref 1)) ⟨lpO xs y o, H⟩ := by cases o <;> kernel_rfl
theorem res_app {H : List AObj} {k : Nat} {xs : List V} (h : H[k]? = some (.vlist xs)) : resE T02 sAppend (.ref k) H = some (.bi "list.append" (.ref k)) := by
  show (match H[k]? with
    | some (.inst C j _) => (match T02.clss.lookup C, H[j]? with
      | some c, some (.dict es) => (match c.meths.lookup sAppend, es.lookup sAppend with
        | some f, none => some (.fn f (.ref k))
        | _, _ => none)
      | _, _ => none)
    | some (.vlist _) => (if sAppend = ("append" : Str) then some (.bi "list.append" (.ref k)) else if sAppend = ("pop" : Str) then some (.bi "list.pop" (.ref k)) else none)
    | some (.vrev _) => (if sAppend = ("pop" : Str) then some (.bi "list.pop" (.ref k)) else none)
    | some (.rlist _) => (if sAppend = ("append" : Str) then some (.bi "list.append" (.ref k)) else none)
    | some (.sset _) => (if sAppend = ("add" : Str) then some (.bi "set.add" (.ref k)) else none)
    | _ => none : Option Cal) = _
  rw [h]
  rfl
theorem app_bi (E : Ev) (k : Nat) (x : V) (σ : St) : applyC Z02 E (.bi "list.append" (.ref k)) [.v x] σ = appendE k (.v x) σ := by kernel_rfl
theorem kApp_eq {E : Ev} {F : Fn} {args : List Expr} {x : V} {k : Nat} {loc : List (Str × PV)} {H : List AObj} {xs : List V} (ha : evs E F args ⟨loc, H⟩ = .ok [.v x] ⟨loc, H⟩) (h : H[k]? = some (.vlist xs)) (hf : xs.length ≤ 10000) : kApp E F args (.ref k) ⟨loc, H⟩ = .ok (.v .none) ⟨loc, H.set k (.vlist (xs ++ [x]))⟩ := by
  have e : kApp E F args (.ref k) ⟨loc, H⟩ = (match resE T02 sAppend (.ref k) H with
    | some c => (evs E F args ⟨loc, H⟩).bind fun as σ => applyC Z02 E c as σ
    | none => .no) := rfl
  rw [e, res_app h, ha]
  show applyC Z02 E (.bi "list.append" (.ref k)) [.v x] ⟨loc, H⟩ = _
  rw [app_bi]
  unfold appendE
  dsimp only
  rw [h]
  dsimp only
  rw [fits_of (by omega)]
theorem set_last {α : Type} (a b : α) : ∀ s : List α, (s ++ [a]).set s.length b = s ++ [b]
  | [] => rfl
  | x :: s => congrArg (x :: ·) (set_last a b s)
/-- the heap of the parts -/
def rf (m : Nat) : List PV := .ref 0 :: (List.range m).map fun i => .ref (i + 2)
def PH (q0 : List V) (qs : List (List V)) : List AObj := .vlist q0 :: .rlist (rf qs.length) :: qs.map .vlist
theorem rf_succ (m : Nat) : rf (m + 1) = rf m ++ [.ref (m + 2)] := by
  unfold rf
  rw [List.range_succ, List.map_append]; rfl
theorem rf_len (m : Nat) : (rf m).length = m + 1 := by simp [rf]
theorem atI_last (rs : List PV) (p : PV) (h : rs.length ≤ 10000) : atI (rs ++ [p]) (-1) = some p := by
  unfold atI
  have e0 : decide ((0 : Int) ≤ -1) = false := by decide
  have e1 : decide (-((rs ++ [p]).length : Int) ≤ -1 ∧ -(2 ^ 63) ≤ (-1 : Int)) = true := by
    rw [decide_eq_true_eq]
    simp only [List.length_append, List.length_singleton]
    refine ⟨by omega, by decide⟩
  rw [e0, e1]
  have e2 : ((-1 : Int) + ((rs ++ [p]).length : Int)).toNat = rs.length := by
    simp only [List.length_append, List.length_singleton]; omega
  dsimp only
  rw [e2]
  simp
theorem frz_tail : ∀ (qs : List (List V)) (pre : List AObj), frzEs (pre ++ qs.map .vlist) ((List.range qs.length).map fun i => .ref (i + pre.length)) = some (qs.map .list)
  | [], pre => rfl
  | q :: qs, pre => by
    rw [List.length_cons, List.range_succ_eq_map]
    show frzEs (pre ++ (q :: qs).map .vlist) (.ref (0 + pre.length) :: ((List.range qs.length).map Nat.succ).map fun i => .ref (i + pre.length)) = _
    rw [List.map_map]
    have e0 : (pre ++ (q :: qs).map AObj.vlist)[0 + pre.length]? = some (.vlist q) := by
      rw [Nat.zero_add, List.getElem?_append_right (Nat.le_refl _)]; simp
    have e1 : frzE (pre ++ (q :: qs).map .vlist) (.ref (0 + pre.length)) = some (.list q) := by
      unfold frzE
      dsimp only
      rw [e0]
    have e2 : pre ++ (q :: qs).map AObj.vlist = (pre ++ [.vlist q]) ++ qs.map .vlist := by simp
    have ih := frz_tail qs (pre ++ [.vlist q])
    have e3 : ((fun i => PV.ref (i + pre.length)) ∘ Nat.succ) = fun i => PV.ref (i + (pre ++ [AObj.vlist q]).length) := by
      funext i
      simp only [Function.comp, List.length_append, List.length_singleton]
      congr 1
      omega
    unfold frzEs
    rw [e1, e3, e2, ih]
    rfl
theorem frz_PH (q0 : List V) (qs : List (List V)) : frzD (PH q0 qs) (.ref 1) = some (.list ((q0 :: qs).map .list)) := by
  have ht := frz_tail qs [.vlist q0, .rlist (rf qs.length)]
  have e : [AObj.vlist q0, .rlist (rf qs.length)] ++ qs.map .vlist = PH q0 qs := rfl
  rw [e] at ht
  have e1 : frzEs (PH q0 qs) (rf qs.length) = some ((q0 :: qs).map .list) := by
    unfold rf frzEs
    have e2 : frzE (PH q0 qs) (.ref 0) = some (.list q0) := rfl
    have e3 : (List.range qs.length).map (fun i => PV.ref (i + 2)) = (List.range qs.length).map (fun i => PV.ref (i + [AObj.vlist q0, .rlist (rf qs.length)].length)) := rfl
    rw [e2, e3, ht]
    rfl
  show (frzEs (PH q0 qs) (rf qs.length)).map PyData.list = _
  rw [e1]; rfl
/-- the parts as a heap; the last one grows -/
def addW (q0 : List V) (qs : List (List V)) (x : V) : List V × List (List V) := match qs.getLast? with
  | none => (q0 ++ [x], [])
  | some c => (q0, qs.dropLast ++ [c ++ [x]])
theorem ph_new {n : Nat} {xs : List V} {y : Str} {w : V} {q0 : List V} {qs : List (List V)} (h : qs.length ≤ 1000) : (R (n + 10)).ex (Fq 464) (ifB lpIf) ⟨lp2 xs y w, PH q0 qs⟩ = .ok .next ⟨lp2 xs y w, PH q0 (qs ++ [[]])⟩ := by
  have h1 := lp_then n xs y w (.vlist q0) (rf qs.length) (qs.map .vlist)
  refine h1.trans ?_
  rw [fits_of (by rw [rf_len]; omega)]
  have e : PH q0 (qs ++ [[]]) = .vlist q0 :: .rlist (rf qs.length ++ [.ref ((qs.map AObj.vlist).length + 2)]) :: (qs.map .vlist ++ [.vlist []]) := by
    unfold PH
    rw [List.length_append, List.length_singleton, rf_succ, List.length_map, List.map_append]; rfl
  rw [e]; rfl
theorem ph_word0 {n : Nat} {xs : List V} {y : Str} {w : V} {q0 : List V} (h : q0.length ≤ 1000) : (R (n + 10)).ex (Fq 464) (ifO lpIf) ⟨lp2 xs y w, PH q0 []⟩ = .ok .next ⟨lp2 xs y w, PH (q0 ++ [w]) []⟩ := by
  have h1 := lp_else n xs y w (.vlist q0) (rf 0) []
  refine h1.trans ?_
  have e : atI (rf 0) (-1) = some (.ref 0) := atI_last [] (.ref 0) (by simp)
  rw [e]
  show kBlock (kNext (kApp (R (n + 8)) (Fq 464) lpA (.ref 0) ⟨lp2 xs y w, PH q0 []⟩)) = _
  rw [kApp_eq (xs := q0) (lp_arg n xs y w _) rfl (by omega)]
  rfl
theorem ph_word1 {n : Nat} {xs : List V} {y : Str} {w : V} {q0 c : List V} {qs : List (List V)} (h : c.length ≤ 1000) (h2 : qs.length ≤ 1000) : (R (n + 10)).ex (Fq 464) (ifO lpIf) ⟨lp2 xs y w, PH q0 (qs ++ [c])⟩ = .ok .next ⟨lp2 xs y w, PH q0 (qs ++ [c ++ [w]])⟩ := by
  have h1 := lp_else n xs y w (.vlist q0) (rf (qs ++ [c]).length) ((qs ++ [c]).map .vlist)
  refine h1.trans ?_
  have er : rf (qs ++ [c]).length = rf qs.length ++ [.ref (qs.length + 2)] := by rw [List.length_append, List.length_singleton, rf_succ]
  have e : atI (rf (qs ++ [c]).length) (-1) = some (.ref (qs.length + 2)) := by rw [er]; exact atI_last _ _ (by rw [rf_len]; omega)
  rw [e]
  show kBlock (kNext (kApp (R (n + 8)) (Fq 464) lpA (.ref (qs.length + 2)) ⟨lp2 xs y w, PH q0 (qs ++ [c])⟩)) = _
  have hg : (PH q0 (qs ++ [c]))[qs.length + 2]? = some (.vlist c) := by
    show ((qs ++ [c]).map AObj.vlist)[qs.length]? = _
    simp
  rw [kApp_eq (lp_arg n xs y w _) hg (by omega)]
  have hs : (PH q0 (qs ++ [c])).set (qs.length + 2) (.vlist (c ++ [w])) = PH q0 (qs ++ [c ++ [w]]) := by
    unfold PH
    rw [List.length_append, List.length_append, List.length_singleton, List.length_singleton]
    show AObj.vlist q0 :: .rlist (rf (qs.length + 1)) :: ((qs ++ [c]).map AObj.vlist).set qs.length (.vlist (c ++ [w])) = _
    congr 2
    rw [List.map_append, List.map_append]
    have h := set_last (AObj.vlist c) (.vlist (c ++ [w])) (qs.map AObj.vlist)
    rw [List.length_map] at h
    exact h
  rw [hs]; rfl
end Rk
end
section
open PySem PySem.W PyProof.Rows PySem.Calls Mine
set_option maxRecDepth 100000
set_option maxHeartbeats 400000
set_option linter.constructorNameAsVariable false
namespace Rk
def wl (q : List Bd) : List V := q.map fun b => .str b.text
def PB : List (List Bd) → List AObj
  | [] => []
  | q0 :: qs => PH (wl q0) (qs.map wl)
theorem wl_len (q : List Bd) : (wl q).length = q.length := List.length_map ..
theorem forG_next {a : Addr} {t : Expr} {b o : List Stmt} {E : Ev} {x : V} {r : List V} {σ σ' σ'' : St} {u : Out AFlow} (h : asgE T02 E (Fq a) t (.v x) σ = .ok () σ') (h2 : E.ex (Fq a) b σ' = .ok .next σ'') (h3 : forE T02 E (Fq a) t b o r σ'' = u) : forE T02 E (Fq a) t b o (x :: r) σ = u := by
  show (asgE T02 E (Fq a) t (.v x) σ).bind _ = _
  rw [h]
  show (E.ex (Fq a) b σ').bind _ = _
  rw [h2]
  exact h3
theorem forG_ret {a : Addr} {t : Expr} {b o : List Stmt} {E : Ev} {x : V} {r : List V} {σ σ' σ'' : St} {p : PV} (h : asgE T02 E (Fq a) t (.v x) σ = .ok () σ') (h2 : E.ex (Fq a) b σ' = .ok (.ret p) σ'') : forE T02 E (Fq a) t b o (x :: r) σ = .ok (.ret p) σ'' := by
  show (asgE T02 E (Fq a) t (.v x) σ).bind _ = _
  rw [h]
  show (E.ex (Fq a) b σ').bind _ = _
  rw [h2]
  rfl
theorem lp_ex (n : Nat) (xs : List V) (y : Str) (w : V) (c : Bool) (H : List AObj) (h : (R (n + 11)).tr (Fq 464) (ifT lpIf) ⟨lp2 xs y w, H⟩ = .ok c ⟨lp2 xs y w, H⟩) {H' : List AObj} (h2 : (R (n + 11)).ex (Fq 464) (match c with | true => ifB lpIf | false => ifO lpIf) ⟨lp2 xs y w, H⟩ = .ok .next ⟨lp2 xs y w, H'⟩) :
    (R (n + 12)).ex (Fq 464) (foB (sq 464 1)) ⟨lp2 xs y w, H⟩ = .ok .next ⟨lp2 xs y w, H'⟩ := by
  rw [lp_fb]
  show bkR (R (n + 11)) 464 [lpIf] _ = _
  refine bk_next ((st_if (F := Fq 464) (by kernel_rfl) h).trans ?_) rfl
  cases c
  · exact h2
  · exact h2
theorem parts_loop (n : Nat) (xs : List V) (s : Bd) : ∀ (ws : List Bd) (o : Option V) (dn : List (List Bd)) (cur : List Bd), dn.length + ws.length ≤ 900 → cur.length + ws.length ≤ 900 →
    ∃ o', lpFor (R (n + 12)) (wl ws) ⟨lpO xs s.text o, PB (dn ++ [cur])⟩ = .ok .next ⟨lpO xs s.text o', PB (dn ++ partsL s cur ws)⟩
  | [], o, dn, cur, _, _ => by
    refine ⟨o, ?_⟩
    show (R (n + 12)).ex (Fq 464) (foO (sq 464 1)) _ = _
    rw [lp_fo]; rfl
  | w :: r, o, dn, cur, h1, h2 => by
    have h1 : dn.length + (r.length + 1) ≤ 900 := h1
    have h2 : cur.length + (r.length + 1) ≤ 900 := h2
    have ht := fun H => lp_tr (n + 1) xs s.text w.text H
    rw [text_eq] at ht
    have ha := lp_as (R (n + 12)) xs s.text o (.str w.text) (PB (dn ++ [cur]))
    by_cases hw : w = s
    · have ih := parts_loop n xs s r (some (.str w.text)) (dn ++ [cur]) [] (by simp; omega) (by simp; omega)
      obtain ⟨o', ih⟩ := ih
      have e : dn ++ partsL s cur (w :: r) = (dn ++ [cur]) ++ partsL s [] r := by rw [partsL, if_pos hw]; simp
      refine ⟨o', forG_next ha (lp_ex n xs s.text (.str w.text) true _ ?_ ?_) (by rw [e]; exact ih)⟩
      · rw [ht]; simp [hw]
      · have : ∃ hd tl, dn ++ [cur] = hd :: tl ∧ tl.length ≤ 900 := by
          cases dn with
          | nil => exact ⟨cur, [], rfl, by simp⟩
          | cons d ds => exact ⟨d, ds ++ [cur], rfl, by simp at h1 ⊢; omega⟩
        obtain ⟨hd, tl, e2, hl⟩ := this
        rw [e2]
        have h := ph_new (n := n + 1) (xs := xs) (y := s.text) (w := .str w.text) (q0 := wl hd) (qs := tl.map wl) (by rw [List.length_map]; omega)
        have e3 : PB (hd :: tl ++ [[]]) = PH (wl hd) (tl.map wl ++ [[]]) := by
          show PH (wl hd) ((tl ++ [[]]).map wl) = _
          rw [List.map_append]; rfl
        rw [e3]; exact h
    · have ih := parts_loop n xs s r (some (.str w.text)) dn (cur ++ [w]) (by omega) (by simp; omega)
      obtain ⟨o', ih⟩ := ih
      have e : dn ++ partsL s cur (w :: r) = dn ++ partsL s (cur ++ [w]) r := by rw [partsL, if_neg hw]
      refine ⟨o', forG_next ha (lp_ex n xs s.text (.str w.text) false _ ?_ ?_) (by rw [e]; exact ih)⟩
      · rw [ht]; simp [hw]
      · have ew : wl (cur ++ [w]) = wl cur ++ [.str w.text] := by unfold wl; rw [List.map_append]; rfl
        cases dn with
        | nil =>
          have h := ph_word0 (n := n + 1) (xs := xs) (y := s.text) (w := .str w.text) (q0 := wl cur) (by rw [wl_len]; omega)
          rw [← ew] at h
          exact h
        | cons d ds =>
          have h := ph_word1 (n := n + 1) (xs := xs) (y := s.text) (w := .str w.text) (q0 := wl d) (c := wl cur) (qs := ds.map wl) (by rw [wl_len]; omega) (by rw [List.length_map]; simp at h1; omega)
          rw [← ew] at h
          have e1 : PB (d :: ds ++ [cur]) = PH (wl d) (ds.map wl ++ [wl cur]) := by
            show PH (wl d) ((ds ++ [cur]).map wl) = _
            rw [List.map_append]; rfl
          have e2 : PB (d :: ds ++ [cur ++ [w]]) = PH (wl d) (ds.map wl ++ [wl (cur ++ [w])]) := by
            show PH (wl d) ((ds ++ [cur ++ [w]]).map wl) = _
            rw [List.map_append]; rfl
          rw [e1, e2]; exact h
theorem parts_ne (s : Bd) : ∀ (ws cur : List Bd), ∃ hd tl, partsL s cur ws = hd :: tl
  | [], cur => ⟨cur, [], rfl⟩
  | w :: r, cur => by
    unfold partsL
    split
    · exact ⟨_, _, rfl⟩
    · exact parts_ne s r _
/-- _law_parts -/
theorem parts_eq (n : Nat) (ws : List Bd) (s : Bd) (σ : St) (hl : ws.length ≤ 800) : (R (n + 14)).fn 464 [.v (wsV ws), .v (.str s.text)] σ = .ok (.v (.list ((partsL s [] ws).map wsV))) σ := by
  obtain ⟨o', h⟩ := parts_loop n (wl ws) s ws none [] [] (by simp; omega) (by simp; omega)
  have hb : bkR (R (n + 12)) 464 (fq 464).body ⟨lp0 (wl ws) s.text, []⟩ = .ok (.ret (.ref 1)) ⟨lpO (wl ws) s.text o', PB (partsL s [] ws)⟩ := by
    rw [lp_b]
    exact bk_next (lp_s0 (n + 2) (wl ws) s.text) (bk_next ((lp_s1 (n + 2) (wl ws) s.text [.vlist [], .rlist [.ref 0]]).trans h) (bk_ret (lp_s2 (n + 2) (wl ws) s.text o' _)))
  refine (fn_V (n := n + 12) (σ := σ) (loc := [(sWords, .v (.list (wl ws))), (sSign, .v (.str s.text))]) fq464 (by kernel_rfl) rfl hb).trans ?_
  obtain ⟨hd, tl, e⟩ := parts_ne s ws []
  rw [e]
  have hf := frz_PH (wl hd) (tl.map wl)
  have e2 : finV (fq 464) σ (.ok (.ret (.ref 1)) ⟨lpO (wl ws) s.text o', PB (hd :: tl)⟩) = (match frzD (PB (hd :: tl)) (.ref 1) with
      | some x => .ok (.v x) σ
      | none => .ok (shP σ.H.length (.ref 1)) ⟨σ.loc, σ.H ++ (PB (hd :: tl)).map (shO σ.H.length)⟩) := by kernel_rfl
  rw [e2, show PB (hd :: tl) = PH (wl hd) (tl.map wl) from rfl, hf]
  have e3 : ((wl hd :: tl.map wl).map PyData.list) = (hd :: tl).map wsV := by
    rw [List.map_cons, List.map_cons, List.map_map]; rfl
  rw [e3]
end Rk
end
section
open PySem PySem.W PyProof.Rows PySem.Calls Mine
set_option maxRecDepth 100000
set_option maxHeartbeats 400000
set_option linter.constructorNameAsVariable false
namespace Rk
/-! lists that are compared -/
theorem eqv_wl : ∀ (p q : List Bd), PyData.eqvAll (wl p) (wl q) = decide (p = q)
  | [], [] => rfl
  | [], b :: q => rfl
  | a :: p, [] => rfl
  | a :: p, b :: q => by
    show (PyData.eqv (.str a.text) (.str b.text) && PyData.eqvAll (wl p) (wl q)) = _
    rw [eqv_wl p q, show PyData.eqv (.str a.text) (.str b.text) = (a.text == b.text) from rfl, text_eq]
    by_cases h1 : a = b <;> by_cases h2 : p = q <;> simp [h1, h2]
theorem eqv_wsV (p q : List Bd) : PyData.eqv (wsV p) (wsV q) = decide (p = q) := eqv_wl p q
theorem any_wsV (ps : List (List Bd)) (q : List Bd) : ((ps.map wsV).any fun y => PyData.eqv y (wsV q)) = ps.any fun p => decide (p = q) := by
  rw [List.any_map]
  congr 1
  funext p
  exact eqv_wsV p q
theorem pick_hi (xs : List V) (k : Nat) : pickV xs none (some (k : Int)) = xs.take k := by
  unfold pickV kms_lo kms_hi
  have h : ¬ ((k : Int) < 0) := by omega
  simp only [if_neg h, Int.toNat_natCast, List.drop_zero, Nat.sub_zero]
  rw [List.take_eq_take_iff]; omega
theorem pick_lo (xs : List V) (k : Nat) : pickV xs (some (k : Int)) none = xs.drop k := by
  unfold pickV kms_lo kms_hi
  have h : ¬ ((k : Int) < 0) := by omega
  simp only [if_neg h, Int.toNat_natCast]
  by_cases hk : k ≤ xs.length
  · rw [Nat.min_eq_left hk, List.take_of_length_le (by rw [List.length_drop]; omega)]
  · rw [Nat.min_eq_right (by omega), List.drop_length, List.drop_eq_nil_of_le (by omega)]; simp
theorem wl_take (q : List Bd) (k : Nat) : (wl q).take k = wl (q.take k) := by unfold wl; rw [List.map_take]
theorem wl_drop (q : List Bd) (k : Nat) : (wl q).drop k = wl (q.drop k) := by unfold wl; rw [List.map_drop]
def sRest : Str := Str.ofString "rest"
def sPart : Str := Str.ofString "part"
theorem fq476 : T02.fns.lookup 476 = some (fq 476) := by kernel_rfl
theorem lr_b : (fq 476).body = [sq 476 0, sq 476 1, sq 476 2, sq 476 3, sq 476 4, sq 476 5] := by kernel_rfl
abbrev lr0 (xs : List V) : List (Str × PV) := [(sWords, .v (.list xs))]
abbrev lr1 (xs ys : List V) : List (Str × PV) := [(sWords, .v (.list xs)), (sRest, .v (.list ys))]
def opB : Bd → Bool
  | .k t => (opd t).isSome
  | _ => false
abbrev retF (σ : St) : Out AFlow := .ok (.ret (.v (.bool false))) σ
def nxt (b : Bool) (σ : St) : Out AFlow := match b with
  | true => .ok .next σ
  | false => retF σ
theorem lr_s0n (n : Nat) (H : List AObj) : stR (R (n + 15)) 476 (sq 476 0) ⟨lr0 [], H⟩ = retF ⟨lr0 [], H⟩ := by kernel_rfl
theorem lr_s0c (n : Nat) (H : List AObj) (r : List V) : (allW.map fun b => stR (R (n + 15)) 476 (sq 476 0) ⟨lr0 (.str b.text :: r), H⟩) = allW.map fun b => nxt (opB b) ⟨lr0 (.str b.text :: r), H⟩ := by kernel_rfl
theorem lr_s1 (n : Nat) (H : List AObj) (xs : List V) : stR (R (n + 15)) 476 (sq 476 1) ⟨lr0 xs, H⟩ = .ok .next ⟨lr1 xs (pickV xs (some (1 : Nat)) none), H⟩ := by kernel_rfl
def modB : Bd → Bool
  | .k .mod => true
  | .k .pct => true
  | _ => false
def notMods : List Bd := allW.filter fun b => !modB b
theorem lr_s2n (n : Nat) (H : List AObj) (xs : List V) : stR (R (n + 15)) 476 (sq 476 2) ⟨lr1 xs [], H⟩ = .ok .next ⟨lr1 xs [], H⟩ := by kernel_rfl
theorem lr_s2o (n : Nat) (H : List AObj) (xs r : List V) : (notMods.map fun b => stR (R (n + 15)) 476 (sq 476 2) ⟨lr1 xs (.str b.text :: r), H⟩) = notMods.map fun b => .ok .next ⟨lr1 xs (.str b.text :: r), H⟩ := by kernel_rfl
theorem lr_s2m1 (n : Nat) (H : List AObj) (xs : List V) : ([Tk.mod, .pct].map fun b => stR (R (n + 15)) 476 (sq 476 2) ⟨lr1 xs [.str b.text], H⟩) = [Tk.mod, .pct].map fun b => retF ⟨lr1 xs [.str b.text], H⟩ := by kernel_rfl
theorem lr_s2mv (n : Nat) (H : List AObj) (xs r : List V) : ([Tk.mod, .pct].map fun b => [Tk.v7, .v40].map fun c => stR (R (n + 15)) 476 (sq 476 2) ⟨lr1 xs (.str b.text :: .str c.text :: r), H⟩) = [Tk.mod, .pct].map fun b => [Tk.v7, .v40].map fun c => .ok .next ⟨lr1 xs (pickV (.str b.text :: .str c.text :: r) (some (2 : Nat)) none), H⟩ := by kernel_rfl
theorem lr_s2mx (n : Nat) (H : List AObj) (xs r : List V) : ([Tk.mod, .pct].map fun b => notVals.map fun c => stR (R (n + 15)) 476 (sq 476 2) ⟨lr1 xs (.str b.text :: .str c.text :: r), H⟩) = [Tk.mod, .pct].map fun b => notVals.map fun c => retF ⟨lr1 xs (.str b.text :: .str c.text :: r), H⟩ := by kernel_rfl
def litI : List (List Bd) := [[.k .is]]
def litV : List (List Bd) := [[.k .v7], [.k .v40], [.k .not, .k .v7], [.k .not, .k .v40]]
def litN : List (List Bd) := [[.k .not, .k .isin], [.k .not, .k .within]]
def litO : List (List Bd) := [[.k .isin], [.k .within], [.k .eq], [.k .ne]]
theorem lr_s3t (n : Nat) (H : List AObj) (xs ys : List V) : (R (n + 15)).tr (Fq 476) (ifT (sq 476 3)) ⟨lr1 xs ys, H⟩ = .ok (PyData.eqv (.list (pickV ys none (some (1 : Nat)))) (wsV [.k .is])) ⟨lr1 xs ys, H⟩ := by kernel_rfl
theorem lr_s3b (n : Nat) (H : List AObj) (xs ys : List V) : (R (n + 15)).ex (Fq 476) (ifB (sq 476 3)) ⟨lr1 xs ys, H⟩ = .ok (.ret (.v (.bool ((litV.map wsV).any fun y => PyData.eqv y (.list (pickV ys (some (1 : Nat)) none)))))) ⟨lr1 xs ys, H⟩ := by kernel_rfl
theorem lr_s3o (n : Nat) (H : List AObj) (xs ys : List V) : (R (n + 15)).ex (Fq 476) (ifO (sq 476 3)) ⟨lr1 xs ys, H⟩ = .ok .next ⟨lr1 xs ys, H⟩ := by kernel_rfl
theorem lr_s4t (n : Nat) (H : List AObj) (xs ys : List V) : (R (n + 15)).tr (Fq 476) (ifT (sq 476 4)) ⟨lr1 xs ys, H⟩ = .ok ((litN.map wsV).any fun y => PyData.eqv y (.list (pickV ys none (some (2 : Nat))))) ⟨lr1 xs ys, H⟩ := by kernel_rfl
theorem lr_s4b (n : Nat) (H : List AObj) (xs ys : List V) : (R (n + 15)).ex (Fq 476) (ifB (sq 476 4)) ⟨lr1 xs ys, H⟩ = .ok .next ⟨lr1 xs (pickV ys (some (2 : Nat)) none), H⟩ := by kernel_rfl
noncomputable def lrE : Stmt := (ifO (sq 476 4)).getD 0 (.Pass default)
theorem lr_s4o : ifO (sq 476 4) = [lrE] := by kernel_rfl
theorem lr_e4t (n : Nat) (H : List AObj) (xs ys : List V) : (R (n + 15)).tr (Fq 476) (ifT lrE) ⟨lr1 xs ys, H⟩ = .ok ((litO.map wsV).any fun y => PyData.eqv y (.list (pickV ys none (some (1 : Nat))))) ⟨lr1 xs ys, H⟩ := by kernel_rfl
theorem lr_e4b (n : Nat) (H : List AObj) (xs ys : List V) : (R (n + 15)).ex (Fq 476) (ifB lrE) ⟨lr1 xs ys, H⟩ = .ok .next ⟨lr1 xs (pickV ys (some (1 : Nat)) none), H⟩ := by kernel_rfl
theorem lr_e4o (n : Nat) (H : List AObj) (xs ys : List V) : (R (n + 15)).ex (Fq 476) (ifO lrE) ⟨lr1 xs ys, H⟩ = retF ⟨lr1 xs ys, H⟩ := by kernel_rfl
def lcI : Expr → Expr
  | .ListComp _ (g :: _) _ _ => g.iter
  | _ => .Constant .none 0 default
def cmL : Expr → Expr
  | .Compare l _ _ _ => l
  | _ => .Constant .none 0 default
def reV : Stmt → Expr
  | .Return (some e) _ => e
  | _ => .Constant .none 0 default
noncomputable def lrC : Expr := lcI (cmL (reV (sq 476 5)))
noncomputable def kEq0 (o : Out PV) : Out PV := o.bind fun a σ => (Out.ok (.v (.list [])) σ : Out PV).bind fun b σ => bO (cmpE T02 .Eq a b σ.H) σ
theorem lr_s5 (E : Ev) (σ : St) : stR (up 2 E) 476 (sq 476 5) σ = kRet (kEq0 ((E.ev (Fq 476) lrC σ).bind fun p σ => lcFin E 471 p σ)) := by kernel_rfl
theorem lr_c (n : Nat) (xs ys : List V) (H : List AObj) (f : Addr → List PV → St → Out PV) : (up 1 (ov (R (n + 5)) f)).ev (Fq 476) lrC ⟨lr1 xs ys, H⟩ = f 464 [.v (.list ys), .v (.str (Bd.k .comma).text)] ⟨lr1 xs ys, H⟩ := by kernel_rfl
end Rk
end
section
open PySem PySem.W PyProof.Rows PySem.Calls Mine
set_option maxRecDepth 100000
set_option maxHeartbeats 400000
set_option linter.constructorNameAsVariable false
namespace Rk
def listB (q : List Bd) : Bool := lf spanB (.k .comma) [] q
def rel2B (r : List Bd) : Bool := match decide (r.take 1 = [.k .is]) with
  | true => litV.any fun p => decide (p = r.drop 1)
  | false => (match litN.any fun p => decide (p = r.take 2) with
    | true => listB (r.drop 2)
    | false => (match litO.any fun p => decide (p = r.take 1) with
      | true => listB (r.drop 1)
      | false => false))
def relvB : List Bd → Bool
  | v :: q => valB v && rel2B q
  | [] => false
def rel1B : List Bd → Bool
  | c :: q => if modB c then relvB q else rel2B (c :: q)
  | [] => rel2B []
def relB : List Bd → Bool
  | b :: r => opB b && rel1B r
  | [] => false
theorem st_ifT {E : Ev} {F : Fn} {s : Stmt} {σ σ' : St} (hs : isIf s = true) (h : E.tr F (ifT s) σ = .ok true σ') : stS T02 Z02 B02 E F s σ = E.ex F (ifB s) σ' := st_if hs h
theorem st_ifF {E : Ev} {F : Fn} {s : Stmt} {σ σ' : St} (hs : isIf s = true) (h : E.tr F (ifT s) σ = .ok false σ') : stS T02 Z02 B02 E F s σ = E.ex F (ifO s) σ' := st_if hs h
theorem if3 : isIf (sq 476 3) = true := by kernel_rfl
theorem if4 : isIf (sq 476 4) = true := by kernel_rfl
theorem if5 : isIf lrE = true := by kernel_rfl
theorem eqv_wl1 (p q : List Bd) : PyData.eqv (.list (wl p)) (wsV q) = decide (p = q) := eqv_wl p q
theorem any_wl (ps : List (List Bd)) (q : List Bd) : ((ps.map wsV).any fun y => PyData.eqv y (.list (wl q))) = ps.any fun p => decide (p = q) := any_wsV ps q
theorem rel1B_cons (c : Bd) (q : List Bd) : rel1B (c :: q) = if modB c then relvB q else rel2B (c :: q) := rfl
theorem filter_span (n : Nat) (σ : St) : ∀ ps : List (List Bd), filterE (R (n + 20)) 471 (ps.map wsV) σ = .ok ((ps.filter fun p => !spanB p).map wsV) σ
  | [] => rfl
  | p :: ps => by
    rw [List.map_cons, filterE, span_eq n σ p]
    have ht : truE σ.H (.v (.bool (spanB p))) = some (spanB p) := rfl
    dsimp only
    rw [ht]
    dsimp only
    rw [filter_span n σ ps]
    cases hs : spanB p <;> simp [keepB, hs]
theorem eq0_ok (ys : List V) (σ : St) : kEq0 (.ok (.v (.list ys)) σ) = okB ys.isEmpty σ := by
  cases ys <;> rfl
theorem filter_empty (ps : List (List Bd)) : ((ps.filter fun p => !spanB p).map wsV).isEmpty = ps.all spanB := by
  induction ps with
  | nil => rfl
  | cons p ps ih =>
    rw [List.all_cons, List.filter_cons]
    cases hs : spanB p with
    | true => simpa using ih
    | false => simp
theorem lr_5 (n : Nat) (xs : List V) (q : List Bd) (H : List AObj) (hl : q.length ≤ 800) : stR (R (n + 30)) 476 (sq 476 5) ⟨lr1 xs (wl q), H⟩ = .ok (.ret (.v (.bool (listB q)))) ⟨lr1 xs (wl q), H⟩ := by
  have h := lr_s5 (R (n + 28)) ⟨lr1 xs (wl q), H⟩
  have e : up 2 (R (n + 28)) = R (n + 30) := up_R 2 (n + 28)
  rw [e] at h
  have hc : (R (n + 28)).ev (Fq 476) lrC ⟨lr1 xs (wl q), H⟩ = .ok (.v (.list ((partsL (.k .comma) [] q).map wsV))) ⟨lr1 xs (wl q), H⟩ :=
    ev_call (n := n + 27) (σ' := ⟨lr1 xs (wl q), H⟩) (lr_c (n + 22) xs (wl q) H) (parts_eq (n + 13) q (.k .comma) _ hl)
  rw [hc] at h
  refine h.trans ?_
  show kRet (kEq0 (match filterE (R (n + 28)) 471 ((partsL (.k .comma) [] q).map wsV) ⟨lr1 xs (wl q), H⟩ with
    | .ok ys σ => .ok (.v (.list ys)) σ
    | _ => .no)) = _
  rw [filter_span (n + 8)]
  dsimp only
  rw [eq0_ok, filter_empty, parts_all]
  rfl
theorem lr_tail (n : Nat) (xs : List V) (r : List Bd) (H : List AObj) (hl : r.length ≤ 800) : ∃ ys, bkR (R (n + 30)) 476 [sq 476 3, sq 476 4, sq 476 5] ⟨lr1 xs (wl r), H⟩ = .ok (.ret (.v (.bool (rel2B r)))) ⟨lr1 xs ys, H⟩ := by
  have t3 := lr_s3t (n + 15) H xs (wl r)
  rw [pick_hi, wl_take, eqv_wl1] at t3
  unfold rel2B
  cases h3 : decide (r.take 1 = [.k .is]) with
  | true =>
    rw [h3] at t3
    have s3 := st_ifT (E := R (n + 30)) if3 t3
    have b3 := lr_s3b (n + 15) H xs (wl r)
    rw [pick_lo, wl_drop, any_wl] at b3
    exact ⟨wl r, bk_ret (s3.trans b3)⟩
  | false =>
    rw [h3] at t3
    have s3 := st_ifF (E := R (n + 30)) if3 t3
    have s3' := s3.trans (lr_s3o (n + 15) H xs (wl r))
    have t4 := lr_s4t (n + 15) H xs (wl r)
    rw [pick_hi, wl_take, any_wl] at t4
    cases h4 : litN.any fun p => decide (p = r.take 2) with
    | true =>
      rw [h4] at t4
      have s4 := st_ifT (E := R (n + 30)) if4 t4
      have b4 := lr_s4b (n + 15) H xs (wl r)
      rw [pick_lo, wl_drop] at b4
      exact ⟨_, bk_next s3' (bk_next (s4.trans b4) (bk_ret (lr_5 n xs (r.drop 2) H (by rw [List.length_drop]; omega))))⟩
    | false =>
      rw [h4] at t4
      have s4 := st_ifF (E := R (n + 30)) if4 t4
      have t5 := lr_e4t (n + 14) H xs (wl r)
      rw [pick_hi, wl_take, any_wl] at t5
      have s4' : stR (R (n + 30)) 476 (sq 476 4) ⟨lr1 xs (wl r), H⟩ = bkR (R (n + 29)) 476 [lrE] ⟨lr1 xs (wl r), H⟩ := by
        rw [← lr_s4o]; exact s4
      cases h5 : litO.any fun p => decide (p = r.take 1) with
      | true =>
        rw [h5] at t5
        have s5 := st_ifT (E := R (n + 29)) if5 t5
        have b5 := lr_e4b (n + 14) H xs (wl r)
        rw [pick_lo, wl_drop] at b5
        exact ⟨_, bk_next s3' (bk_next (s4'.trans (bk_next (s5.trans b5) rfl)) (bk_ret (lr_5 n xs (r.drop 1) H (by rw [List.length_drop]; omega))))⟩
      | false =>
        rw [h5] at t5
        have s5 := st_ifF (E := R (n + 29)) if5 t5
        exact ⟨_, bk_next s3' (bk_ret (s4'.trans (bk_ret (s5.trans (lr_e4o (n + 14) H xs (wl r))))))⟩
theorem modB_is {c : Bd} (h : modB c = true) : ∃ t ∈ [Tk.mod, .pct], c = .k t := by
  cases c with
  | k t => cases t <;> first | exact ⟨_, .head _, rfl⟩ | exact ⟨_, .tail _ (.head _), rfl⟩ | cases h
  | _ => cases h
theorem valB_is {c : Bd} (h : valB c = true) : ∃ t ∈ [Tk.v7, .v40], c = .k t := by
  cases c with
  | k t => cases t <;> first | exact ⟨_, .head _, rfl⟩ | exact ⟨_, .tail _ (.head _), rfl⟩ | cases h
  | _ => cases h
theorem lr_2 (n : Nat) (xs : List V) (r : List Bd) (H : List AObj) (hl : r.length ≤ 800) : ∃ ys, bkR (R (n + 30)) 476 [sq 476 2, sq 476 3, sq 476 4, sq 476 5] ⟨lr1 xs (wl r), H⟩ = .ok (.ret (.v (.bool (rel1B r)))) ⟨lr1 xs ys, H⟩ := by
  match r, hl with
  | [], hl =>
    obtain ⟨ys, h⟩ := lr_tail n xs [] H hl
    exact ⟨ys, bk_next (lr_s2n (n + 15) H xs) h⟩
  | c :: q, hl =>
    rw [rel1B_cons]
    cases hm : modB c with
    | false =>
      rw [if_neg Bool.false_ne_true]
      obtain ⟨ys, h⟩ := lr_tail n xs (c :: q) H hl
      have h2 := map_at (f := fun b : Bd => stR (R (n + 30)) 476 (sq 476 2) ⟨lr1 xs (.str b.text :: wl q), H⟩) (g := fun b : Bd => .ok .next ⟨lr1 xs (.str b.text :: wl q), H⟩) (lr_s2o (n + 15) H xs (wl q)) c (List.mem_filter.mpr ⟨mem_allW c, by rw [hm]; rfl⟩)
      exact ⟨ys, bk_next h2 h⟩
    | true =>
      obtain ⟨t, ht, rfl⟩ := modB_is hm
      rw [if_pos rfl]
      match q, hl with
      | [], hl =>
        have h2 := map_at (f := fun b : Tk => stR (R (n + 30)) 476 (sq 476 2) ⟨lr1 xs [.str b.text], H⟩) (g := fun b : Tk => retF ⟨lr1 xs [.str b.text], H⟩) (lr_s2m1 (n + 15) H xs) t ht
        exact ⟨_, bk_ret h2⟩
      | v :: q, hl =>
        have hq : q.length ≤ 800 := by simp only [List.length_cons] at hl; omega
        show ∃ ys, _ = Out.ok (AFlow.ret (.v (.bool (valB v && rel2B q)))) ⟨lr1 xs ys, H⟩
        cases hv : valB v with
        | false =>
          have h1 := map_at (f := fun b : Tk => notVals.map fun c : Bd => stR (R (n + 30)) 476 (sq 476 2) ⟨lr1 xs (.str b.text :: .str c.text :: wl q), H⟩) (g := fun b : Tk => notVals.map fun c : Bd => retF ⟨lr1 xs (.str b.text :: .str c.text :: wl q), H⟩) (lr_s2mx (n + 15) H xs (wl q)) t ht
          have h2 := map_at (f := fun c : Bd => stR (R (n + 30)) 476 (sq 476 2) ⟨lr1 xs (.str t.text :: .str c.text :: wl q), H⟩) (g := fun c : Bd => retF ⟨lr1 xs (.str t.text :: .str c.text :: wl q), H⟩) h1 v (List.mem_filter.mpr ⟨mem_allW v, by rw [hv]; rfl⟩)
          exact ⟨_, bk_ret h2⟩
        | true =>
          obtain ⟨u, hu, rfl⟩ := valB_is hv
          have h1 := map_at (f := fun b : Tk => [Tk.v7, .v40].map fun c : Tk => stR (R (n + 30)) 476 (sq 476 2) ⟨lr1 xs (.str b.text :: .str c.text :: wl q), H⟩) (g := fun b : Tk => [Tk.v7, .v40].map fun c : Tk => .ok .next ⟨lr1 xs (pickV (.str b.text :: .str c.text :: wl q) (some (2 : Nat)) none), H⟩) (lr_s2mv (n + 15) H xs (wl q)) t ht
          have h2 := map_at (f := fun c : Tk => stR (R (n + 30)) 476 (sq 476 2) ⟨lr1 xs (.str t.text :: .str c.text :: wl q), H⟩) (g := fun c : Tk => .ok .next ⟨lr1 xs (pickV (.str t.text :: .str c.text :: wl q) (some (2 : Nat)) none), H⟩) h1 u hu
          rw [pick_lo] at h2
          obtain ⟨ys, h⟩ := lr_tail n xs q H hq
          exact ⟨ys, bk_next h2 h⟩
/-- _law_relation -/
theorem rel_fn (n : Nat) (ws : List Bd) (σ : St) (hl : ws.length ≤ 800) : (R (n + 32)).fn 476 [.v (wsV ws)] σ = okB (relB ws) σ := by
  have hb : ∃ loc, bkR (R (n + 30)) 476 (fq 476).body ⟨lr0 (wl ws), []⟩ = .ok (.ret (.v (.bool (relB ws)))) ⟨loc, []⟩ := by
    rw [lr_b]
    match ws, hl with
    | [], _ => exact ⟨_, bk_ret (lr_s0n (n + 15) [])⟩
    | b :: r, hl =>
      have h0 := map_at (f := fun b : Bd => stR (R (n + 30)) 476 (sq 476 0) ⟨lr0 (.str b.text :: wl r), []⟩) (g := fun b : Bd => nxt (opB b) ⟨lr0 (.str b.text :: wl r), []⟩) (lr_s0c (n + 15) [] (wl r)) b (mem_allW b)
      show ∃ loc, _ = Out.ok (AFlow.ret (.v (.bool (opB b && rel1B r)))) ⟨loc, []⟩
      cases ho : opB b with
      | false => rw [ho] at h0; exact ⟨_, bk_ret h0⟩
      | true =>
        rw [ho] at h0
        have h1 := lr_s1 (n + 15) [] (wl (b :: r))
        rw [pick_lo, wl_drop] at h1
        obtain ⟨ys, h2⟩ := lr_2 n (wl (b :: r)) r [] (by simp only [List.length_cons] at hl; omega)
        exact ⟨_, bk_next h0 (bk_next h1 h2)⟩
  obtain ⟨loc, hb⟩ := hb
  refine (fn_V (n := n + 30) (σ := σ) (loc := lr0 (wl ws)) fq476 (by kernel_rfl) rfl hb).trans ?_
  kernel_rfl
end Rk
end
section
open PySem PySem.W PyProof.Rows PySem.Calls Mine
set_option maxRecDepth 100000
set_option maxHeartbeats 400000
set_option linter.constructorNameAsVariable false
namespace Rk
def grpB (g : List Bd) : Bool := lf relB (.k .and) [] g
def takenB (ws : List Bd) : Bool := lf grpB (.k .or) [] ws
def sGroup : Str := Str.ofString "group"
def sRelation : Str := Str.ofString "relation"
theorem fq483 : T02.fns.lookup 483 = some (fq 483) := by kernel_rfl
theorem lt_b : (fq 483).body = [sq 483 0, sq 483 1] := by kernel_rfl
def ltL (xs : V) : Option V → Option V → List (Str × PV)
  | none, _ => [(sWords, .v xs)]
  | some g, none => [(sWords, .v xs), (sGroup, .v g)]
  | some g, some r => [(sWords, .v xs), (sGroup, .v g), (sRelation, .v r)]
noncomputable def ltI : Stmt := (foB (sq 483 0)).getD 0 (.Pass default)
theorem lt_fb : foB (sq 483 0) = [ltI] := by kernel_rfl
theorem lt_fo : foO (sq 483 0) = [] := by kernel_rfl
noncomputable def ltF : Stmt := (foB ltI).getD 0 (.Pass default)
theorem lt_ib : foB ltI = [ltF] := by kernel_rfl
theorem lt_io : foO ltI = [] := by kernel_rfl
noncomputable def kFor (a : Addr) (E : Ev) (s : Stmt) (o : Out PV) : Out AFlow := o.bind fun p σ => match p with
  | .v (.list xs) => forE T02 E (Fq a) (foT s) (foB s) (foO s) xs σ
  | _ => .no
theorem lt_K0 (E : Ev) (σ : St) : stR E 483 (sq 483 0) σ = kFor 483 E (sq 483 0) (E.ev (Fq 483) (foI (sq 483 0)) σ) := by kernel_rfl
theorem lt_K1 (E : Ev) (σ : St) : stR E 483 ltI σ = kFor 483 E ltI (E.ev (Fq 483) (foI ltI) σ) := by kernel_rfl
theorem lt_i0 (n : Nat) (xs : V) (H : List AObj) (f : Addr → List PV → St → Out PV) : (up 1 (ov (R (n + 5)) f)).ev (Fq 483) (foI (sq 483 0)) ⟨ltL xs none none, H⟩ = f 464 [.v xs, .v (.str (Bd.k .or).text)] ⟨ltL xs none none, H⟩ := by kernel_rfl
theorem lt_i1 (n : Nat) (xs g : V) (r : Option V) (H : List AObj) (f : Addr → List PV → St → Out PV) : (up 1 (ov (R (n + 5)) f)).ev (Fq 483) (foI ltI) ⟨ltL xs (some g) r, H⟩ = f 464 [.v g, .v (.str (Bd.k .and).text)] ⟨ltL xs (some g) r, H⟩ := by cases r <;> kernel_rfl
def unX : Expr → Expr
  | .UnaryOp _ x _ => x
  | _ => .Constant .none 0 default
theorem lt_if : isIf ltF = true := by kernel_rfl
theorem lt_ft (E : Ev) (σ : St) : (up 2 E).tr (Fq 483) (ifT ltF) σ = (((E.ev (Fq 483) (unX (ifT ltF)) σ).bind fun p σ => okO (truE σ.H p) σ).bind fun b σ => .ok (!b) σ) := by kernel_rfl
theorem lt_c (n : Nat) (xs g r : V) (H : List AObj) (f : Addr → List PV → St → Out PV) : (up 1 (ov (R (n + 5)) f)).ev (Fq 483) (unX (ifT ltF)) ⟨ltL xs (some g) (some r), H⟩ = f 476 [.v r] ⟨ltL xs (some g) (some r), H⟩ := by kernel_rfl
theorem lt_fB (n : Nat) (σ : St) : (R (n + 5)).ex (Fq 483) (ifB ltF) σ = retF σ := by kernel_rfl
theorem lt_fO (n : Nat) (σ : St) : (R (n + 5)).ex (Fq 483) (ifO ltF) σ = .ok .next σ := by kernel_rfl
theorem lt_a0 (E : Ev) (xs g : V) (o r : Option V) (H : List AObj) (h : o = none → r = none) : ∃ r', asgE T02 E (Fq 483) (foT (sq 483 0)) (.v g) ⟨ltL xs o r, H⟩ = .ok () ⟨ltL xs (some g) r', H⟩ := by
  cases o with
  | none => exact ⟨none, by kernel_rfl⟩
  | some g0 => exact ⟨r, by cases r <;> kernel_rfl⟩
theorem lt_a1 (E : Ev) (xs g x : V) (r : Option V) (H : List AObj) : asgE T02 E (Fq 483) (foT ltI) (.v x) ⟨ltL xs (some g) r, H⟩ = .ok () ⟨ltL xs (some g) (some x), H⟩ := by cases r <;> kernel_rfl
theorem lt_s1 (n : Nat) (σ : St) : stR (R (n + 5)) 483 (sq 483 1) σ = .ok (.ret (.v (.bool true))) σ := by kernel_rfl
def retO (b : Bool) (σ : St) : Out AFlow := match b with
  | true => .ok .next σ
  | false => retF σ
theorem parts_len (s : Bd) : ∀ (ws cur : List Bd), ∀ p ∈ partsL s cur ws, p.length ≤ cur.length + ws.length
  | [], cur, p, h => by
    have h : p ∈ [cur] := h
    rw [List.mem_singleton] at h; subst h; simp
  | w :: r, cur, p, h => by
    unfold partsL at h
    split at h
    · rcases List.mem_cons.mp h with rfl | h
      · simp
      · have := parts_len s r [] p h
        simp only [List.length_nil, List.length_cons] at this ⊢; omega
    · have := parts_len s r _ p h
      simp only [List.length_append, List.length_cons, List.length_nil] at this ⊢; omega
theorem lt_in (n : Nat) (xs g : V) (H : List AObj) : ∀ (ps : List (List Bd)) (r : Option V), (∀ p ∈ ps, p.length ≤ 800) → ∃ r', forE T02 (R (n + 40)) (Fq 483) (foT ltI) (foB ltI) (foO ltI) (ps.map wsV) ⟨ltL xs (some g) r, H⟩ = retO (ps.all relB) ⟨ltL xs (some g) r', H⟩
  | [], r, _ => by
    refine ⟨r, ?_⟩
    show (R (n + 40)).ex (Fq 483) (foO ltI) _ = _
    rw [lt_io]; rfl
  | p :: ps, r, h => by
    have hp := h p (.head _)
    have ha := lt_a1 (R (n + 40)) xs g (wsV p) r H
    have hc := ev_call (n := n + 36) (σ' := ⟨ltL xs (some g) (some (wsV p)), H⟩) (lt_c (n + 31) xs g (wsV p) H) (rel_fn (n + 4) p _ hp)
    have ht := lt_ft (R (n + 37)) ⟨ltL xs (some g) (some (wsV p)), H⟩
    rw [hc] at ht
    have ht : (R (n + 39)).tr (Fq 483) (ifT ltF) ⟨ltL xs (some g) (some (wsV p)), H⟩ = .ok (!relB p) ⟨ltL xs (some g) (some (wsV p)), H⟩ := ht
    rw [List.all_cons]
    cases hr : relB p with
    | false =>
      rw [hr] at ht
      have hs := st_ifT lt_if ht
      refine ⟨some (wsV p), forG_ret ha ?_⟩
      rw [lt_ib]
      exact bk_ret (hs.trans (lt_fB (n + 34) _))
    | true =>
      rw [hr] at ht
      have hs := st_ifF lt_if ht
      obtain ⟨r', ih⟩ := lt_in n xs g H ps (some (wsV p)) fun q hq => h q (.tail _ hq)
      refine ⟨r', forG_next ha ?_ (by rw [Bool.true_and]; exact ih)⟩
      rw [lt_ib]
      exact bk_next (hs.trans (lt_fO (n + 34) _)) rfl
theorem lt_grp (n : Nat) (xs : V) (g : List Bd) (r : Option V) (H : List AObj) (hl : g.length ≤ 800) : ∃ r', stR (R (n + 40)) 483 ltI ⟨ltL xs (some (wsV g)) r, H⟩ = retO (grpB g) ⟨ltL xs (some (wsV g)) r', H⟩ := by
  have hk := lt_K1 (R (n + 40)) ⟨ltL xs (some (wsV g)) r, H⟩
  have hi := ev_call (n := n + 39) (σ' := ⟨ltL xs (some (wsV g)) r, H⟩) (lt_i1 (n + 34) xs (wsV g) r H) (parts_eq (n + 25) g (.k .and) _ hl)
  rw [hi] at hk
  obtain ⟨r', h⟩ := lt_in n xs (wsV g) H (partsL (.k .and) [] g) r fun p hp => by
    have := parts_len (.k .and) g [] p hp
    simp only [List.length_nil] at this; omega
  rw [parts_all] at h
  exact ⟨r', hk.trans h⟩
theorem lt_out (n : Nat) (xs : V) (H : List AObj) : ∀ (gs : List (List Bd)) (o r : Option V), (o = none → r = none) → (∀ p ∈ gs, p.length ≤ 800) → ∃ o' r', forE T02 (R (n + 42)) (Fq 483) (foT (sq 483 0)) (foB (sq 483 0)) (foO (sq 483 0)) (gs.map wsV) ⟨ltL xs o r, H⟩ = retO (gs.all grpB) ⟨ltL xs o' r', H⟩
  | [], o, r, _, _ => by
    refine ⟨o, r, ?_⟩
    show (R (n + 42)).ex (Fq 483) (foO (sq 483 0)) _ = _
    rw [lt_fo]; rfl
  | g :: gs, o, r, ho, h => by
    obtain ⟨r1, ha⟩ := lt_a0 (R (n + 42)) xs (wsV g) o r H ho
    obtain ⟨r2, hg⟩ := lt_grp (n + 1) xs g r1 H (h g (.head _))
    rw [List.all_cons]
    cases hb : grpB g with
    | false =>
      rw [hb] at hg
      refine ⟨some (wsV g), r2, forG_ret ha ?_⟩
      rw [lt_fb]
      exact bk_ret hg
    | true =>
      rw [hb] at hg
      obtain ⟨o', r', ih⟩ := lt_out n xs H gs (some (wsV g)) r2 (fun e => by cases e) fun q hq => h q (.tail _ hq)
      refine ⟨o', r', forG_next ha ?_ (by rw [Bool.true_and]; exact ih)⟩
      rw [lt_fb]
      exact bk_next hg rfl
/-- _law_taken -/
theorem taken_fn (n : Nat) (ws : List Bd) (σ : St) (hl : ws.length ≤ 800) : (R (n + 44)).fn 483 [.v (wsV ws)] σ = okB (takenB ws) σ := by
  have hk := lt_K0 (R (n + 42)) ⟨ltL (wsV ws) none none, []⟩
  have hi := ev_call (n := n + 41) (σ' := ⟨ltL (wsV ws) none none, []⟩) (lt_i0 (n + 36) (wsV ws) []) (parts_eq (n + 27) ws (.k .or) _ hl)
  rw [hi] at hk
  obtain ⟨o', r', h⟩ := lt_out n (wsV ws) [] (partsL (.k .or) [] ws) none none (fun _ => rfl) fun p hp => by
    have := parts_len (.k .or) ws [] p hp
    simp only [List.length_nil] at this; omega
  rw [parts_all] at h
  have hs := hk.trans h
  have hb : bkR (R (n + 42)) 483 (fq 483).body ⟨ltL (wsV ws) none none, []⟩ = .ok (.ret (.v (.bool (takenB ws)))) ⟨ltL (wsV ws) o' r', []⟩ := by
    rw [lt_b]
    have hs : stR (R (n + 42)) 483 (sq 483 0) ⟨ltL (wsV ws) none none, []⟩ = retO (takenB ws) ⟨ltL (wsV ws) o' r', []⟩ := hs
    cases hb : takenB ws with
    | false => rw [hb] at hs; exact bk_ret hs
    | true => rw [hb] at hs; exact bk_next hs (bk_ret (lt_s1 (n + 37) _))
  refine (fn_V (n := n + 42) (σ := σ) (loc := ltL (wsV ws) none none) fq483 (by kernel_rfl) rfl hb).trans ?_
  kernel_rfl
end Rk
end
section
open PySem PySem.W PyProof.Rows PySem.Calls Mine
set_option maxRecDepth 100000
set_option maxHeartbeats 400000
set_option linter.constructorNameAsVariable false
namespace Rk
abbrev up' (ts : List Tk) : List Bd := ts.map .k
theorem lf_map {P : List Bd → Bool} {P' : List Tk → Bool} (s : Tk) (hP : ∀ q, P (up' q) = P' q) : ∀ (ts cur : List Tk), lf P (.k s) (up' cur) (up' ts) = lf P' s cur ts
  | [], cur => hP cur
  | t :: r, cur => by
    show (if Bd.k t = Bd.k s then P (up' cur) && lf P (.k s) [] (up' r) else lf P (.k s) (up' cur ++ [.k t]) (up' r)) = (if t = s then P' cur && lf P' s [] r else lf P' s (cur ++ [t]) r)
    have e : up' cur ++ [.k t] = up' (cur ++ [t]) := by simp
    have h1 := lf_map s hP r []
    have h2 := lf_map s hP r (cur ++ [t])
    rw [e, hP cur, h2]
    by_cases ht : t = s
    · subst ht; rw [if_pos rfl, if_pos rfl]; rw [← h1]; rfl
    · rw [if_neg ht, if_neg (fun h => ht (by injection h))]
def AllK (q : List Bd) : Prop := ∃ ts, q = up' ts
theorem AllK.app {p q : List Bd} (h : AllK p) (h' : AllK q) : AllK (p ++ q) := by
  obtain ⟨a, rfl⟩ := h; obtain ⟨b, rfl⟩ := h'; exact ⟨a ++ b, by simp⟩
theorem lf_all {P : List Bd → Bool} (s : Tk) (hP : ∀ q, P q = true → AllK q) : ∀ (ws cur : List Bd), lf P (.k s) cur ws = true → AllK (cur ++ ws)
  | [], cur, h => by rw [List.append_nil]; exact hP cur h
  | w :: r, cur, h => by
    unfold lf at h
    by_cases hw : w = .k s
    · rw [if_pos hw, Bool.and_eq_true] at h
      have h2 := lf_all s hP r [] h.2
      subst hw
      exact (hP cur h.1).app (AllK.app (p := [.k s]) ⟨[s], rfl⟩ h2)
    · rw [if_neg hw] at h
      have h2 := lf_all s hP r _ h
      rw [List.append_assoc] at h2
      exact h2
theorem valB_k {b : Bd} (h : valB b = true) : ∃ t, b = .k t := by cases b <;> first | exact ⟨_, rfl⟩ | cases h
theorem dotB_k {b : Bd} (h : dotB b = true) : ∃ t, b = .k t := by cases b <;> first | exact ⟨_, rfl⟩ | cases h
theorem opB_k {b : Bd} (h : opB b = true) : ∃ t, b = .k t := by cases b <;> first | exact ⟨_, rfl⟩ | cases h
theorem modB_k {b : Bd} (h : modB b = true) : ∃ t, b = .k t := by cases b <;> first | exact ⟨_, rfl⟩ | cases h
theorem span_up (q : List Tk) : spanB (up' q) = spanT q := by
  match q with
  | [] => rfl
  | [a] => rfl
  | [a, b] => rfl
  | [a, b, c] => rfl
  | a :: b :: c :: d :: q => rfl
theorem span_all (q : List Bd) (h : spanB q = true) : AllK q := by
  match q with
  | [] => cases h
  | [a] => obtain ⟨t, rfl⟩ := valB_k h; exact ⟨[t], rfl⟩
  | [a, b] => cases h
  | [a, b, c] =>
    have h : (valB a && dotB b && valB c) = true := h
    rw [Bool.and_eq_true, Bool.and_eq_true] at h
    obtain ⟨t, rfl⟩ := valB_k h.1.1
    obtain ⟨u, rfl⟩ := dotB_k h.1.2
    obtain ⟨v, rfl⟩ := valB_k h.2
    exact ⟨[t, u, v], rfl⟩
  | a :: b :: c :: d :: q => cases h
theorem list_up (q : List Tk) : listB (up' q) = listT q := lf_map .comma span_up q []
theorem list_all (q : List Bd) (h : listB q = true) : AllK q := lf_all .comma span_all q [] h
theorem rel2_up (ts : List Tk) : rel2B (up' ts) = relT2 ts := by
  match ts with
  | [] => decide
  | t :: q =>
    cases t
    case is =>
      show (litV.any fun p => decide (p = up' q)) = isOk q
      match q with
      | [] => decide
      | [a] => cases a <;> decide
      | [a, b] => cases a <;> cases b <;> decide
      | a :: b :: c :: q =>
        have e1 : (litV.any fun p => decide (p = up' (a :: b :: c :: q))) = false := by simp [litV]
        have e2 : isOk (a :: b :: c :: q) = false := by cases a <;> rfl
        rw [e1, e2]
    case not =>
      match q with
      | [] => decide
      | u :: q =>
        cases u
        case within => exact list_up q
        case isin => exact list_up q
        all_goals rfl
    case within => cases q <;> exact list_up _
    case isin => cases q <;> exact list_up _
    case eq => cases q <;> exact list_up _
    case ne => cases q <;> exact list_up _
    all_goals cases q <;> rfl
theorem rel2_all (r : List Bd) (h : rel2B r = true) : AllK r := by
  unfold rel2B at h
  have litAll : ∀ (ls : List (List Bd)), (∀ p ∈ ls, AllK p) → ∀ q, (ls.any fun p => decide (p = q)) = true → AllK q := fun ls hls q h => by
    rw [List.any_eq_true] at h
    obtain ⟨p, hp, e⟩ := h
    rw [← of_decide_eq_true e]; exact hls p hp
  have litVs : ∀ p ∈ litV, AllK p := fun p hp => by
    simp only [litV, List.mem_cons, List.not_mem_nil, or_false] at hp
    rcases hp with rfl | rfl | rfl | rfl
    · exact ⟨[.v7], rfl⟩
    · exact ⟨[.v40], rfl⟩
    · exact ⟨[.not, .v7], rfl⟩
    · exact ⟨[.not, .v40], rfl⟩
  have litNs : ∀ p ∈ litN, AllK p := fun p hp => by
    simp only [litN, List.mem_cons, List.not_mem_nil, or_false] at hp
    rcases hp with rfl | rfl
    · exact ⟨[.not, .isin], rfl⟩
    · exact ⟨[.not, .within], rfl⟩
  have litOs : ∀ p ∈ litO, AllK p := fun p hp => by
    simp only [litO, List.mem_cons, List.not_mem_nil, or_false] at hp
    rcases hp with rfl | rfl | rfl | rfl
    · exact ⟨[.isin], rfl⟩
    · exact ⟨[.within], rfl⟩
    · exact ⟨[.eq], rfl⟩
    · exact ⟨[.ne], rfl⟩
  cases h1 : decide (r.take 1 = [.k .is]) with
  | true =>
    rw [h1] at h
    have a1 : AllK (r.take 1) := by rw [of_decide_eq_true h1]; exact ⟨[.is], rfl⟩
    have := a1.app (litAll litV litVs _ h)
    rwa [List.take_append_drop] at this
  | false =>
    rw [h1] at h
    cases h2 : litN.any fun p => decide (p = r.take 2) with
    | true =>
      rw [h2] at h
      have := (litAll litN litNs _ h2).app (list_all _ h)
      rwa [List.take_append_drop] at this
    | false =>
      rw [h2] at h
      cases h3 : litO.any fun p => decide (p = r.take 1) with
      | true =>
        rw [h3] at h
        have := (litAll litO litOs _ h3).app (list_all _ h)
        rwa [List.take_append_drop] at this
      | false => rw [h3] at h; cases h
theorem rel1_up (ts : List Tk) : rel1B (up' ts) = relT1 ts := by
  match ts with
  | [] => decide
  | t :: q =>
    show (if modB (.k t) then relvB (up' q) else rel2B (up' (t :: q))) = (if t = .mod ∨ t = .pct then relTv q else relT2 (t :: q))
    have hv : relvB (up' q) = relTv q := by
      cases q with
      | nil => rfl
      | cons v q => show (isVal v && rel2B (up' q)) = (isVal v && relT2 q); rw [rel2_up]
    rw [hv, rel2_up]
    by_cases ht : t = .mod ∨ t = .pct
    · rw [if_pos ht, if_pos (by rcases ht with rfl | rfl <;> rfl)]
    · rw [if_neg ht, if_neg (fun h => ht (by cases t <;> first | exact .inl rfl | exact .inr rfl | cases h))]
theorem rel_up (ts : List Tk) : relB (up' ts) = relT ts := by
  match ts with
  | [] => rfl
  | t :: q => show ((opd t).isSome && rel1B (up' q)) = ((opd t).isSome && relT1 q); rw [rel1_up]
theorem rel_all (q : List Bd) (h : relB q = true) : AllK q := by
  match q with
  | [] => cases h
  | b :: r =>
    have h : (opB b && rel1B r) = true := h
    rw [Bool.and_eq_true] at h
    obtain ⟨t, rfl⟩ := opB_k h.1
    have hr : AllK r := by
      match r with
      | [] => exact ⟨[], rfl⟩
      | c :: q =>
        have h2 := h.2
        rw [rel1B_cons] at h2
        cases hm : modB c with
        | false => rw [hm, if_neg Bool.false_ne_true] at h2; exact rel2_all _ h2
        | true =>
          rw [hm, if_pos rfl] at h2
          obtain ⟨u, rfl⟩ := modB_k hm
          match q with
          | [] => cases h2
          | v :: q =>
            have h2 : (valB v && rel2B q) = true := h2
            rw [Bool.and_eq_true] at h2
            obtain ⟨w, rfl⟩ := valB_k h2.1
            exact AllK.app (p := [.k u, .k w]) ⟨[u, w], rfl⟩ (rel2_all _ h2.2)
    exact AllK.app (p := [.k t]) ⟨[t], rfl⟩ hr
theorem grp_up (q : List Tk) : grpB (up' q) = grpT q := lf_map .and rel_up q []
theorem grp_all (q : List Bd) (h : grpB q = true) : AllK q := lf_all .and rel_all q [] h
theorem taken_up (q : List Tk) : takenB (up' q) = takenT q := lf_map .or grp_up q []
theorem taken_all (q : List Bd) (h : takenB q = true) : AllK q := lf_all .or grp_all q [] h
theorem toksOf_up : ∀ ts : List Tk, toksOf (up' ts) = some ts
  | [] => rfl
  | t :: r => by
    show (toksOf (up' r)).map (t :: ·) = _
    rw [toksOf_up r]; rfl
theorem toksOf_is : ∀ {ws : List Bd} {ts : List Tk}, toksOf ws = some ts → ws = up' ts := fun {ws} => by
  induction ws with
  | nil => intro ts h; cases h; rfl
  | cons b r ih =>
    intro ts h
    cases b with
    | k t =>
      have h2 : (toksOf r).map (t :: ·) = some ts := h
      rw [Option.map_eq_some_iff] at h2
      obtain ⟨us, h3, rfl⟩ := h2
      rw [ih h3]; rfl
    | _ => cases h
/-- what is refused, what is taken -/
theorem pText_none {ws : List Bd} (hl : ws.length < 200) (h : pText ws = none) : ws ≠ [] ∧ takenB ws = false := by
  refine ⟨fun e => (by subst e; cases h), ?_⟩
  cases ht : takenB ws with
  | false => rfl
  | true =>
    obtain ⟨ts, rfl⟩ := taken_all ws ht
    rw [taken_up] at ht
    have hl' : ts.length < 200 := by simpa using hl
    obtain ⟨y, hy⟩ := (pCond_iff ts hl').mpr ht
    unfold pText at h
    rw [toksOf_up] at h
    cases ts with
    | nil => cases h
    | cons t r =>
      have h : (match pCond (t :: r) with | some (y, []) => some y | _ => none) = none := h
      rw [hy] at h; cases h
theorem pText_some {ws : List Bd} {y : V} (hl : ws.length < 200) (h : pText ws = some y) : ws = [] ∨ takenB ws = true := by
  unfold pText at h
  split at h
  · cases h
  · rename_i h1
    exact .inl (toksOf_is h1)
  · rename_i t r h1
    right
    have e := toksOf_is h1
    subst e
    rw [taken_up]
    split at h
    · rename_i z h2
      refine (pCond_iff _ (by simpa using hl)).mp ⟨_, h2⟩
    · cases h
end Rk
end
section
open PySem PySem.W PyProof.Rows PySem.Calls Mine
set_option maxRecDepth 100000
set_option maxHeartbeats 400000
set_option linter.constructorNameAsVariable false
namespace Rk
def sScript : Str := Str.ofString "script"
def sSetting : Str := Str.ofString "setting"
def sNumbers : Str := Str.ofString "numbers"
def sKk : Str := Str.ofString "k"
def sPlace : Str := Str.ofString "place"
def sDeed : Str := Str.ofString "deed"
def sKept : Str := Str.ofString "kept"
def sSplit : Str := Str.ofString "split"
abbrev lw0 (sc : PV) : List (Str × PV) := [(sScript, sc)]
abbrev lw1 (sc : PV) (a : Int) : List (Str × PV) := [(sScript, sc), (sSetting, .v (.int a))]
abbrev lw2 (sc : PV) (a : Int) (ws : List V) : List (Str × PV) := [(sScript, sc), (sSetting, .v (.int a)), (sWords, .v (.list ws))]
abbrev lw3 (sc : PV) (a : Int) (ws ns : List V) : List (Str × PV) := [(sScript, sc), (sSetting, .v (.int a)), (sWords, .v (.list ws)), (sNumbers, .v (.list ns))]
def subV : Expr → Expr
  | .Subscript v _ _ => v
  | _ => .Constant .none 0 default
def subS : Expr → Expr
  | .Subscript _ s _ => s
  | _ => .Constant .none 0 default
def callF : Expr → Expr
  | .Call f _ _ _ => f
  | _ => .Constant .none 0 default
def bopL : Expr → Expr
  | .BinOp l _ _ _ => l
  | _ => .Constant .none 0 default
def bopR : Expr → Expr
  | .BinOp _ _ r _ => r
  | _ => .Constant .none 0 default
noncomputable def kMeth (E : Ev) (name : Str) (o : Out PV) : Out PV := o.bind fun p σ => match resE T02 name p σ.H with
  | some c => (Out.ok [] σ : Out (List PV)).bind fun as σ => applyC Z02 E c as σ
  | none => .no
def kIdx (o : Out PV) (g : St → Out PV) : Out PV := o.bind fun a σ => (g σ).bind fun b σ => okO (subE a b σ.H) σ
def kBin (op : Operator) (o : Out PV) (g : St → Out PV) : Out PV := o.bind fun a σ => (g σ).bind fun b σ => vO (binE op a b σ.H) σ
theorem kIdx_ok {a b : PV} {σ : St} {g : St → Out PV} (h : g σ = .ok b σ) : kIdx (.ok a σ) g = okO (subE a b σ.H) σ := by
  have e : kIdx (.ok a σ) g = (g σ).bind fun b σ => okO (subE a b σ.H) σ := rfl
  rw [e, h]; rfl
theorem kBin_ok {op : Operator} {a b : PV} {σ : St} {g : St → Out PV} (h : g σ = .ok b σ) : kBin op (.ok a σ) g = vO (binE op a b σ.H) σ := by
  have e : kBin op (.ok a σ) g = (g σ).bind fun b σ => vO (binE op a b σ.H) σ := rfl
  rw [e, h]; rfl
def valOf : Out PV → V
  | .ok (.v x) _ => x
  | _ => .none
noncomputable def e1 : Expr := atO (callF (asV (sq 490 1)))
theorem la_s1 (E : Ev) (pr : List Str) (σ : St) : stL pr (up 2 E) (sq 490 1) σ = kAsgF (Fp pr) sWords (kMeth (up 1 E) sSplit (kIdx (E.ev (Fp pr) (subV e1) σ) (E.ev (Fp pr) (subS e1)))) := by kernel_rfl
noncomputable def basesV : V := valOf ((R 10).fn 443 [] ⟨[], []⟩)
theorem bases_fn (n : Nat) (σ : St) : (R (n + 10)).fn 443 [] σ = .ok (.v basesV) σ := by kernel_rfl
theorem la_1v (n : Nat) (pr : List Str) (σ : St) (f : Addr → List PV → St → Out PV) : (up 1 (ov (R (n + 5)) f)).ev (Fp pr) (subV e1) σ = f 443 [] σ := by kernel_rfl
theorem la_1s (n : Nat) (pr : List Str) (sc : PV) (a : Int) (H : List AObj) : (R (n + 5)).ev (Fp pr) (subS e1) ⟨lw1 sc a, H⟩ = .ok (.v (.int (a.fmod 6))) ⟨lw1 sc a, H⟩ := by kernel_rfl
def strO : V → Option Str
  | .str x => some x
  | _ => none
def decB (x : V) : Option Bd := match strO x with
  | some y => allW.find? fun b => b.text == y
  | none => none
def itemsV : V → List V
  | .list xs => xs
  | _ => []
noncomputable def baseW (k : Int) : List Bd := (itemsV (valOf (kMeth (R 5) sSplit (okO (subE (.v basesV) (.v (.int k)) []) ⟨[], []⟩)))).filterMap decB
def six : List Int := [0, 1, 2, 3, 4, 5]
theorem base_run (n : Nat) (σ : St) : (six.map fun k => kMeth (R (n + 5)) sSplit (okO (subE (.v basesV) (.v (.int k)) σ.H) σ)) = six.map fun k => .ok (.v (wsV (baseW k))) σ := by kernel_rfl
theorem base_len : (six.all fun k => decide ((baseW k).length ≤ 14)) = true := by decide +kernel
theorem fmod_mem (a : Int) {l : List Int} (m : Nat) (hm : 0 < m) (hl : ∀ i : Nat, i < m → (i : Int) ∈ l) : a.fmod m ∈ l := by
  have h1 : 0 ≤ a.fmod m := Int.fmod_nonneg_of_pos a (by omega)
  have h2 : a.fmod m < m := Int.fmod_lt_of_pos a (by omega)
  have := hl (a.fmod m).toNat (by omega)
  rwa [Int.toNat_of_nonneg h1] at this
theorem la_1 (n : Nat) (sc : PV) (a : Int) : ∃ ws : List Bd, ws.length ≤ 14 ∧ stL [] (R (n + 13)) (sq 490 1) ⟨lw1 sc a, []⟩ = .ok .next ⟨lw2 sc a (wl ws), []⟩ := by
  have h := la_s1 (R (n + 11)) [] ⟨lw1 sc a, []⟩
  have e : up 2 (R (n + 11)) = R (n + 13) := up_R 2 (n + 11)
  have e' : up 1 (R (n + 11)) = R (n + 12) := up_R 1 (n + 11)
  rw [e, e'] at h
  have hv := ev_call (n := n + 10) (σ' := ⟨lw1 sc a, []⟩) (la_1v (n + 5) [] ⟨lw1 sc a, []⟩) (bases_fn n _)
  rw [hv] at h
  have hs := la_1s (n + 6) [] sc a []
  rw [kIdx_ok hs] at h
  have hm : a.fmod 6 ∈ six := fmod_mem a 6 (by decide) (by decide)
  have hr := map_at (f := fun k : Int => kMeth (R (n + 12)) sSplit (okO (subE (.v basesV) (.v (.int k)) []) ⟨lw1 sc a, []⟩)) (g := fun k : Int => .ok (.v (wsV (baseW k))) ⟨lw1 sc a, []⟩) (base_run (n + 7) ⟨lw1 sc a, []⟩) _ hm
  rw [hr] at h
  exact ⟨baseW (a.fmod 6), of_decide_eq_true (List.all_eq_true.mp base_len _ hm), h.trans (by kernel_rfl)⟩
def intsV (ns : List Int) : List V := ns.map .int
theorem pick_ints (is : List Int) (lo hi : Option Int) : ∃ ns : List Int, pickV (intsV is) lo hi = intsV ns ∧ ns.length = min (kms_hi hi is.length - kms_lo lo is.length) (is.length - kms_lo lo is.length) := by
  refine ⟨(is.drop (kms_lo lo is.length)).take (kms_hi hi is.length - kms_lo lo is.length), ?_, ?_⟩
  · unfold pickV intsV
    rw [List.length_map, List.map_take, List.map_drop]
  · rw [List.length_take, List.length_drop]
/-- the law's numbers -/
def numsV (is : List Int) : List V := match decide (2 < is.length) with
  | true => pickV (intsV is) (some 1) (some 9)
  | false => [.int 4, .int 6]
theorem nums_ok (is : List Int) : ∃ ns : List Int, 2 ≤ ns.length ∧ ns.length ≤ 8 ∧ numsV is = intsV ns := by
  unfold numsV
  by_cases hl : 2 < is.length
  · rw [decide_eq_true hl]
    obtain ⟨ns, hp, hn⟩ := pick_ints is (some 1) (some 9)
    have e1 : kms_lo (some 1) is.length = 1 := by unfold kms_lo; simp; omega
    have e2 : kms_hi (some 9) is.length = min 9 is.length := by unfold kms_hi; rfl
    rw [e1, e2] at hn
    exact ⟨ns, by omega, by omega, hp⟩
  · rw [decide_eq_false hl]
    exact ⟨[4, 6], by decide, by decide, rfl⟩
end Rk
end
section
open PySem PySem.W PyProof.Rows PySem.Calls Mine
set_option maxRecDepth 100000
set_option maxHeartbeats 400000
set_option linter.constructorNameAsVariable false
namespace Rk
abbrev lw8 (sc : PV) (a : Int) (ws ns : List V) (k p w d : V) : List (Str × PV) := [(sScript, sc), (sSetting, .v (.int a)), (sWords, .v (.list ws)), (sNumbers, .v (.list ns)), (sKk, .v k), (sPlace, .v p), (sWd, .v w), (sDeed, .v d)]
def lv3 (sc : PV) (a : Int) (ws ns : List V) : Option (V × V × V × V) → List (Str × PV)
  | none => lw3 sc a ws ns
  | some (k, p, w, d) => lw8 sc a ws ns k p w d
def lvk (sc : PV) (a : Int) (ws ns : List V) (k : V) : Option (V × V × V) → List (Str × PV)
  | none => [(sScript, sc), (sSetting, .v (.int a)), (sWords, .v (.list ws)), (sNumbers, .v (.list ns)), (sKk, .v k)]
  | some (p, w, d) => lw8 sc a ws ns k p w d
def lvp (sc : PV) (a : Int) (ws ns : List V) (k p : V) : Option (V × V) → List (Str × PV)
  | none => [(sScript, sc), (sSetting, .v (.int a)), (sWords, .v (.list ws)), (sNumbers, .v (.list ns)), (sKk, .v k), (sPlace, .v p)]
  | some (w, d) => lw8 sc a ws ns k p w d
def lvw (sc : PV) (a : Int) (ws ns : List V) (k p w : V) : Option V → List (Str × PV)
  | none => [(sScript, sc), (sSetting, .v (.int a)), (sWords, .v (.list ws)), (sNumbers, .v (.list ns)), (sKk, .v k), (sPlace, .v p), (sWd, .v w)]
  | some d => lw8 sc a ws ns k p w d
noncomputable abbrev laFor (E : Ev) (xs : List V) (σ : St) : Out AFlow := forE T02 E (Fp []) (foT (sq 490 3)) (foB (sq 490 3)) (foO (sq 490 3)) xs σ
theorem la_s3 (n : Nat) (sc : PV) (a : Int) (ws ns : List V) : stL [] (R (n + 10)) (sq 490 3) ⟨lw3 sc a ws ns, []⟩ = (match rangeOf [.v (.int 0), .v (.int ((ns.length : Int) - 1)), .v (.int 2)] with
    | some (x, y, z) => laFor (R (n + 10)) (rangeL x y z) ⟨lw3 sc a ws ns, []⟩
    | none => .no) := by kernel_rfl
noncomputable def laB (i : Nat) : Stmt := (foB (sq 490 3)).getD i (.Pass default)
theorem la_fb : foB (sq 490 3) = [laB 0, laB 1, laB 2, laB 3] := by kernel_rfl
theorem la_fo : foO (sq 490 3) = [] := by kernel_rfl
theorem la_as (E : Ev) (sc : PV) (a : Int) (ws ns : List V) (o : Option (V × V × V × V)) (k : V) : ∃ o', asgE T02 E (Fp []) (foT (sq 490 3)) (.v k) ⟨lv3 sc a ws ns o, []⟩ = .ok () ⟨lvk sc a ws ns k o', []⟩ := by
  cases o with
  | none => exact ⟨none, by kernel_rfl⟩
  | some q => exact ⟨some q.2, by kernel_rfl⟩
theorem la_b0 (E : Ev) (pr : List Str) (σ : St) : stL pr (up 1 E) (laB 0) σ = kAsgF (Fp pr) sPlace (kBin .Mod (E.ev (Fp pr) (bopL (asV (laB 0))) σ) (E.ev (Fp pr) (bopR (asV (laB 0))))) := by kernel_rfl
theorem la_0l (n : Nat) (pr : List Str) (sc : PV) (a : Int) (ws ns : List V) (k : Int) (o : Option (V × V × V)) : (R (n + 5)).ev (Fp pr) (bopL (asV (laB 0))) ⟨lvk sc a ws ns (.int k) o, []⟩ = okO ((atI ns k).map .v) ⟨lvk sc a ws ns (.int k) o, []⟩ := by cases o <;> kernel_rfl
theorem la_0r (n : Nat) (pr : List Str) (sc : PV) (a : Int) (ws ns : List V) (k : V) (o : Option (V × V × V)) : (R (n + 5)).ev (Fp pr) (bopR (asV (laB 0))) ⟨lvk sc a ws ns k o, []⟩ = .ok (.v (.int ((ws.length : Int) + 1))) ⟨lvk sc a ws ns k o, []⟩ := by cases o <;> kernel_rfl
theorem la_0s (pr : List Str) (sc : PV) (a : Int) (ws ns : List V) (k p : V) (o : Option (V × V × V)) : ∃ o', kAsgF (Fp []) sPlace (.ok (.v p) ⟨lvk sc a ws ns k o, []⟩) = .ok .next ⟨lvp sc a ws ns k p o', []⟩ := by
  cases o with
  | none => exact ⟨none, by kernel_rfl⟩
  | some q => exact ⟨some q.2, by kernel_rfl⟩
theorem la_b1 (E : Ev) (pr : List Str) (σ : St) : stL pr (up 1 E) (laB 1) σ = kAsgF (Fp pr) sWd (kIdx (E.ev (Fp pr) (subV (asV (laB 1))) σ) (E.ev (Fp pr) (subS (asV (laB 1))))) := by kernel_rfl
noncomputable def dictV : V := valOf ((R 10).fn 450 [] ⟨[], []⟩)
theorem dict_fn (n : Nat) (σ : St) : (R (n + 10)).fn 450 [] σ = .ok (.v dictV) σ := by kernel_rfl
theorem la_1d (n : Nat) (pr : List Str) (σ : St) (f : Addr → List PV → St → Out PV) : (up 1 (ov (R (n + 5)) f)).ev (Fp pr) (subV (asV (laB 1))) σ = f 450 [] σ := by kernel_rfl
theorem la_1i (n : Nat) (pr : List Str) (sc : PV) (a : Int) (ws ns : List V) (k : Int) (p : V) (o : Option (V × V)) : (R (n + 8)).ev (Fp pr) (subS (asV (laB 1))) ⟨lvp sc a ws ns (.int k) p o, []⟩ = ((okO ((atI ns (k + 1)).map .v) ⟨lvp sc a ws ns (.int k) p o, []⟩).bind fun x σ => vO (binE .FloorDiv x (.v (.int 3)) σ.H) σ).bind fun x σ => vO (binE .Mod x (.v (.int 21)) σ.H) σ := by cases o <;> kernel_rfl
theorem la_1w (sc : PV) (a : Int) (ws ns : List V) (k p w : V) (o : Option (V × V)) : ∃ o', kAsgF (Fp []) sWd (.ok (.v w) ⟨lvp sc a ws ns k p o, []⟩) = .ok .next ⟨lvw sc a ws ns k p w o', []⟩ := by
  cases o with
  | none => exact ⟨none, by kernel_rfl⟩
  | some q => exact ⟨some q.2, by kernel_rfl⟩
theorem la_b2 (n : Nat) (sc : PV) (a : Int) (ws ns : List V) (k : Int) (p w : V) (o : Option V) : stL [] (R (n + 10)) (laB 2) ⟨lvw sc a ws ns (.int k) p w o, []⟩ = kAsgF (Fp []) sDeed ((okO ((atI ns (k + 1)).map .v) ⟨lvw sc a ws ns (.int k) p w o, []⟩).bind fun x σ => vO (binE .Mod x (.v (.int 3)) σ.H) σ) := by cases o <;> kernel_rfl
theorem la_2s (sc : PV) (a : Int) (ws ns : List V) (k p w d : V) (o : Option V) : kAsgF (Fp []) sDeed (.ok (.v d) ⟨lvw sc a ws ns k p w o, []⟩) = .ok .next ⟨lw8 sc a ws ns k p w d, []⟩ := by cases o <;> kernel_rfl
noncomputable def kSt (o : Out PV) : Out AFlow := kBlock (kAsgF (Fp []) sWords o)
theorem la_b30 (n : Nat) (sc : PV) (a : Int) (ws ns : List V) (k w : V) (p : Int) : stL [] (R (n + 15)) (laB 3) ⟨lw8 sc a ws ns k (.int p) w (.int 0), []⟩ =
    kSt (vO (binE .Add (.v (.list (pickV ws none (some p)))) (.v (.list (pickV ws (some (p + 1)) none))) []) ⟨lw8 sc a ws ns k (.int p) w (.int 0), []⟩) := by kernel_rfl
noncomputable def laI : Stmt := (ifO (laB 3)).getD 0 (.Pass default)
noncomputable def laA1 : Stmt := (ifB laI).getD 0 (.Pass default)
noncomputable def laA2 : Stmt := (ifO laI).getD 0 (.Pass default)
theorem la_if3 : isIf (laB 3) = true := by kernel_rfl
theorem la_ifI : isIf laI = true := by kernel_rfl
theorem la_o3 : ifO (laB 3) = [laI] := by kernel_rfl
theorem la_A1 : ifB laI = [laA1] := by kernel_rfl
theorem la_A2 : ifO laI = [laA2] := by kernel_rfl
theorem la_t31 (n : Nat) (sc : PV) (a : Int) (ws ns : List V) (k p w : V) : ([1, 2].map fun d : Int => (R (n + 5)).tr (Fp []) (ifT (laB 3)) ⟨lw8 sc a ws ns k p w (.int d), []⟩) = [1, 2].map fun d : Int => .ok false ⟨lw8 sc a ws ns k p w (.int d), []⟩ := by kernel_rfl
theorem la_tI (n : Nat) (sc : PV) (a : Int) (ws ns : List V) (k p w : V) : ([1, 2].map fun d : Int => (R (n + 5)).tr (Fp []) (ifT laI) ⟨lw8 sc a ws ns k p w (.int d), []⟩) = [1, 2].map fun d : Int => .ok (decide (d = 1)) ⟨lw8 sc a ws ns k p w (.int d), []⟩ := by kernel_rfl
theorem la_KA (E : Ev) (pr : List Str) (σ : St) : ([laA1, laA2].map fun s => stL pr (up 2 E) s σ) = [laA1, laA2].map fun s => kAsgF (Fp pr) sWords (kBin .Add (kBin .Add (E.ev (Fp pr) (bopL (bopL (asV s))) σ) (E.ev (Fp pr) (bopR (bopL (asV s))))) ((up 1 E).ev (Fp pr) (bopR (asV s)))) := by kernel_rfl
theorem la_x1 (n : Nat) (sc : PV) (a : Int) (ws ns : List V) (k w d : V) (p : Int) : ([laA1, laA2].map fun s => (R (n + 5)).ev (Fp []) (bopL (bopL (asV s))) ⟨lw8 sc a ws ns k (.int p) w d, []⟩) = [laA1, laA2].map fun _ => .ok (.v (.list (pickV ws none (some p)))) ⟨lw8 sc a ws ns k (.int p) w d, []⟩ := by kernel_rfl
theorem la_x2 (n : Nat) (sc : PV) (a : Int) (ws ns : List V) (k w d : V) (p : Int) : ([laA1, laA2].map fun s => (R (n + 5)).ev (Fp []) (bopR (bopL (asV s))) ⟨lw8 sc a ws ns k (.int p) w d, []⟩) = [laA1, laA2].map fun _ => .ok (.v (.list [w])) ⟨lw8 sc a ws ns k (.int p) w d, []⟩ := by kernel_rfl
theorem la_x3 (n : Nat) (sc : PV) (a : Int) (ws ns : List V) (k w d : V) (p : Int) : (R (n + 5)).ev (Fp []) (bopR (asV laA1)) ⟨lw8 sc a ws ns k (.int p) w d, []⟩ = .ok (.v (.list (pickV ws (some (p + 1)) none))) ⟨lw8 sc a ws ns k (.int p) w d, []⟩ := by kernel_rfl
theorem la_x4 (n : Nat) (sc : PV) (a : Int) (ws ns : List V) (k w d : V) (p : Int) : (R (n + 5)).ev (Fp []) (bopR (asV laA2)) ⟨lw8 sc a ws ns k (.int p) w d, []⟩ = .ok (.v (.list (pickV ws (some p) none))) ⟨lw8 sc a ws ns k (.int p) w d, []⟩ := by kernel_rfl
end Rk
end
section
open PySem PySem.W PyProof.Rows PySem.Calls Mine
set_option maxRecDepth 100000
set_option maxHeartbeats 400000
set_option linter.constructorNameAsVariable false
namespace Rk
theorem forX_next {F : Fn} {t : Expr} {b o : List Stmt} {E : Ev} {x : V} {r : List V} {σ σ' σ'' : St} {u : Out AFlow} (h : asgE T02 E F t (.v x) σ = .ok () σ') (h2 : E.ex F b σ' = .ok .next σ'') (h3 : forE T02 E F t b o r σ'' = u) : forE T02 E F t b o (x :: r) σ = u := by
  show (asgE T02 E F t (.v x) σ).bind _ = _
  rw [h]
  show (E.ex F b σ').bind _ = _
  rw [h2]
  exact h3
theorem bl_next {pr : List Str} {E : Ev} {s : Stmt} {b : List Stmt} {σ σ' : St} {o : Out AFlow} (h : stL pr E s σ = .ok .next σ') (h2 : bkL pr E b σ' = o) : bkL pr E (s :: b) σ = o := by
  show (stL pr E s σ).bind _ = o
  rw [h]; exact h2
theorem mod_ok (x : Int) (L : Nat) (H : List AObj) : binE .Mod (.v (.int x)) (.v (.int ((L : Int) + 1))) H = some (.int (x.fmod ((L : Int) + 1))) := by
  show (match ((L : Int) + 1) == 0 with | true => none | false => some (PyData.int (x.fmod ((L : Int) + 1)))) = _
  have : (((L : Int) + 1) == 0) = false := by simp; omega
  rw [this]
def twenty1 : List Int := [0, 1, 2, 3, 4, 5, 6, 7, 8, 9, 10, 11, 12, 13, 14, 15, 16, 17, 18, 19, 20]
noncomputable def dictW (k : Int) : Bd := match subE (.v dictV) (.v (.int k)) [] with
  | some (.v x) => (decB x).getD .ats
  | _ => .ats
theorem dict_run (H : List AObj) : (twenty1.map fun k => subE (.v dictV) (.v (.int k)) H) = twenty1.map fun k => some (.v (.str (dictW k).text)) := by kernel_rfl
theorem add_ok {xs ys : List V} {H : List AObj} (h : xs.length + ys.length ≤ 100000) : binE .Add (.v (.list xs)) (.v (.list ys)) H = some (.list (xs ++ ys)) := by
  show (match fitsN (xs.length + ys.length) with | true => some (PyData.list (xs ++ ys)) | false => none) = _
  rw [fits_of h]
theorem wl_app (p q : List Bd) : wl p ++ wl q = wl (p ++ q) := by unfold wl; rw [List.map_append]
theorem la_edit (n : Nat) (sc : PV) (a : Int) (ns : List V) (k : V) (w : Bd) (p : Nat) (d : Int) (hd : d ∈ ([0, 1, 2] : List Int)) (ws : List Bd) (hl : ws.length ≤ 1000) :
    ∃ ws', ws'.length ≤ ws.length + 1 ∧ stL [] (R (n + 20)) (laB 3) ⟨lw8 sc a (wl ws) ns k (.int p) (.str w.text) (.int d), []⟩ = .ok .next ⟨lw8 sc a (wl ws') ns k (.int p) (.str w.text) (.int d), []⟩ := by
  have hp1 : ((p : Int) + 1) = ((p + 1 : Nat) : Int) := by omega
  have two : d ∈ ([1, 2] : List Int) → ∃ ws', ws'.length ≤ ws.length + 1 ∧ stL [] (R (n + 20)) (laB 3) ⟨lw8 sc a (wl ws) ns k (.int p) (.str w.text) (.int d), []⟩ = .ok .next ⟨lw8 sc a (wl ws') ns k (.int p) (.str w.text) (.int d), []⟩ := fun hd => by
    have t3 := map_at (f := fun d : Int => (R (n + 20)).tr (Fp []) (ifT (laB 3)) ⟨lw8 sc a (wl ws) ns k (.int p) (.str w.text) (.int d), []⟩) (g := fun d : Int => .ok false ⟨lw8 sc a (wl ws) ns k (.int p) (.str w.text) (.int d), []⟩) (la_t31 (n + 15) sc a (wl ws) ns k (.int p) (.str w.text)) d hd
    have tI := map_at (f := fun d : Int => (R (n + 19)).tr (Fp []) (ifT laI) ⟨lw8 sc a (wl ws) ns k (.int p) (.str w.text) (.int d), []⟩) (g := fun d : Int => .ok (decide (d = 1)) ⟨lw8 sc a (wl ws) ns k (.int p) (.str w.text) (.int d), []⟩) (la_tI (n + 14) sc a (wl ws) ns k (.int p) (.str w.text)) d hd
    have s3 := st_ifF (E := R (n + 20)) (F := Fp []) la_if3 t3
    have asn : ∀ s ∈ [laA1, laA2], ∀ q : List Bd, q.length ≤ ws.length → (R (n + 17)).ev (Fp []) (bopR (asV s)) ⟨lw8 sc a (wl ws) ns k (.int p) (.str w.text) (.int d), []⟩ = .ok (.v (.list (wl q))) ⟨lw8 sc a (wl ws) ns k (.int p) (.str w.text) (.int d), []⟩ →
        stL [] (R (n + 18)) s ⟨lw8 sc a (wl ws) ns k (.int p) (.str w.text) (.int d), []⟩ = .ok .next ⟨lw8 sc a (wl (ws.take p ++ [w] ++ q)) ns k (.int p) (.str w.text) (.int d), []⟩ := fun s hs q hq h3 => by
      have hk := map_at (f := fun s : Stmt => stL [] (up 2 (R (n + 16))) s ⟨lw8 sc a (wl ws) ns k (.int p) (.str w.text) (.int d), []⟩) (g := fun s : Stmt => kAsgF (Fp []) sWords (kBin .Add (kBin .Add ((R (n + 16)).ev (Fp []) (bopL (bopL (asV s))) ⟨lw8 sc a (wl ws) ns k (.int p) (.str w.text) (.int d), []⟩) ((R (n + 16)).ev (Fp []) (bopR (bopL (asV s))))) ((up 1 (R (n + 16))).ev (Fp []) (bopR (asV s))))) (la_KA (R (n + 16)) [] ⟨lw8 sc a (wl ws) ns k (.int p) (.str w.text) (.int d), []⟩) s hs
      have h1 := map_at (f := fun s : Stmt => (R (n + 16)).ev (Fp []) (bopL (bopL (asV s))) ⟨lw8 sc a (wl ws) ns k (.int p) (.str w.text) (.int d), []⟩) (g := fun _ : Stmt => .ok (.v (.list (pickV (wl ws) none (some p)))) ⟨lw8 sc a (wl ws) ns k (.int p) (.str w.text) (.int d), []⟩) (la_x1 (n + 11) sc a (wl ws) ns k (.str w.text) (.int d) p) s hs
      have h2 := map_at (f := fun s : Stmt => (R (n + 16)).ev (Fp []) (bopR (bopL (asV s))) ⟨lw8 sc a (wl ws) ns k (.int p) (.str w.text) (.int d), []⟩) (g := fun _ : Stmt => .ok (.v (.list [.str w.text])) ⟨lw8 sc a (wl ws) ns k (.int p) (.str w.text) (.int d), []⟩) (la_x2 (n + 11) sc a (wl ws) ns k (.str w.text) (.int d) p) s hs
      have hk : stL [] (R (n + 18)) s ⟨lw8 sc a (wl ws) ns k (.int p) (.str w.text) (.int d), []⟩ = kAsgF (Fp []) sWords (kBin .Add (kBin .Add ((R (n + 16)).ev (Fp []) (bopL (bopL (asV s))) ⟨lw8 sc a (wl ws) ns k (.int p) (.str w.text) (.int d), []⟩) ((R (n + 16)).ev (Fp []) (bopR (bopL (asV s))))) ((R (n + 17)).ev (Fp []) (bopR (asV s)))) := hk
      have h1 : (R (n + 16)).ev (Fp []) (bopL (bopL (asV s))) ⟨lw8 sc a (wl ws) ns k (.int p) (.str w.text) (.int d), []⟩ = .ok (.v (.list (pickV (wl ws) none (some p)))) ⟨lw8 sc a (wl ws) ns k (.int p) (.str w.text) (.int d), []⟩ := h1
      rw [h1, kBin_ok h2, pick_hi, wl_take, show [PyData.str w.text] = wl [w] from rfl, add_ok (by rw [wl_len, wl_len, List.length_take]; simp; omega), wl_app] at hk
      have h3' : kBin .Add (vO (some (.list (wl (ws.take p ++ [w])))) ⟨lw8 sc a (wl ws) ns k (.int p) (.str w.text) (.int d), []⟩) ((R (n + 17)).ev (Fp []) (bopR (asV s))) = vO (binE .Add (.v (.list (wl (ws.take p ++ [w])))) (.v (.list (wl q))) []) ⟨lw8 sc a (wl ws) ns k (.int p) (.str w.text) (.int d), []⟩ := kBin_ok h3
      rw [h3', add_ok (by rw [wl_len, wl_len, List.length_append, List.length_take]; simp; omega), wl_app] at hk
      exact hk.trans (by kernel_rfl)
    have hlen : ∀ q : List Bd, q.length ≤ ws.length - p → (ws.take p ++ [w] ++ q).length ≤ ws.length + 1 := fun q hq => by
      simp only [List.length_append, List.length_take, List.length_singleton]; omega
    have s3' : stL [] (R (n + 20)) (laB 3) ⟨lw8 sc a (wl ws) ns k (.int p) (.str w.text) (.int d), []⟩ = bkL [] (R (n + 19)) [laI] ⟨lw8 sc a (wl ws) ns k (.int p) (.str w.text) (.int d), []⟩ := by rw [← la_o3]; exact s3
    simp only [List.mem_cons, List.not_mem_nil, or_false] at hd
    rcases hd with rfl | rfl
    · have sI := st_ifT (E := R (n + 19)) (F := Fp []) la_ifI tI
      have x3 := la_x3 (n + 12) sc a (wl ws) ns k (.str w.text) (.int 1) p
      rw [hp1, pick_lo, wl_drop] at x3
      have hs := asn laA1 (by simp) (ws.drop (p + 1)) (by rw [List.length_drop]; omega) x3
      refine ⟨_, hlen (ws.drop (p + 1)) (by rw [List.length_drop]; omega), s3'.trans (bl_next ?_ rfl)⟩
      refine sI.trans ?_
      rw [la_A1]
      exact bl_next (E := R (n + 18)) hs rfl
    · have sI := st_ifF (E := R (n + 19)) (F := Fp []) la_ifI tI
      have x4 := la_x4 (n + 12) sc a (wl ws) ns k (.str w.text) (.int 2) p
      rw [pick_lo, wl_drop] at x4
      have hs := asn laA2 (by simp) (ws.drop p) (by rw [List.length_drop]; omega) x4
      refine ⟨_, hlen (ws.drop p) (by rw [List.length_drop]; omega), s3'.trans (bl_next ?_ rfl)⟩
      refine sI.trans ?_
      rw [la_A2]
      exact bl_next (E := R (n + 18)) hs rfl
  rcases List.mem_cons.mp hd with rfl | hd
  · have h := la_b30 (n + 5) sc a (wl ws) ns k (.str w.text) p
    rw [hp1, pick_hi, pick_lo, wl_take, wl_drop, add_ok (by rw [wl_len, wl_len, List.length_take, List.length_drop]; omega), wl_app] at h
    refine ⟨ws.take p ++ ws.drop (p + 1), by rw [List.length_append, List.length_take, List.length_drop]; omega, h.trans (by kernel_rfl)⟩
  · exact two hd
theorem la_iter (n : Nat) (sc : PV) (a : Int) (ns : List V) (k x y : Int) (hx : atI ns k = some (.int x)) (hy : atI ns (k + 1) = some (.int y)) (ws : List Bd) (hl : ws.length ≤ 1000) (o : Option (V × V × V × V)) (r : List V) :
    ∃ ws' q, ws'.length ≤ ws.length + 1 ∧ laFor (R (n + 21)) (.int k :: r) ⟨lv3 sc a (wl ws) ns o, []⟩ = laFor (R (n + 21)) r ⟨lv3 sc a (wl ws') ns (some q), []⟩ := by
  obtain ⟨o1, h1⟩ := la_as (R (n + 21)) sc a (wl ws) ns o (.int k)
  have hb0 := la_b0 (R (n + 19)) [] ⟨lvk sc a (wl ws) ns (.int k) o1, []⟩
  have hl0 := la_0l (n + 14) [] sc a (wl ws) ns k o1
  rw [hx] at hl0
  have hl0 : (R (n + 19)).ev (Fp []) (bopL (asV (laB 0))) ⟨lvk sc a (wl ws) ns (.int k) o1, []⟩ = .ok (.v (.int x)) ⟨lvk sc a (wl ws) ns (.int k) o1, []⟩ := hl0
  have hr0 := la_0r (n + 14) [] sc a (wl ws) ns (.int k) o1
  rw [hl0, kBin_ok hr0, mod_ok] at hb0
  obtain ⟨p, hp⟩ : ∃ p : Nat, x.fmod (((wl ws).length : Int) + 1) = p := ⟨(x.fmod (((wl ws).length : Int) + 1)).toNat, by
    have := Int.fmod_nonneg_of_pos x (b := ((wl ws).length : Int) + 1) (by omega)
    omega⟩
  rw [hp] at hb0
  obtain ⟨o2, h2⟩ := la_0s [] sc a (wl ws) ns (.int k) (.int p) o1
  have hb0 : stL [] (R (n + 20)) (laB 0) ⟨lvk sc a (wl ws) ns (.int k) o1, []⟩ = .ok .next ⟨lvp sc a (wl ws) ns (.int k) (.int p) o2, []⟩ := hb0.trans h2
  have hb1 := la_b1 (R (n + 19)) [] ⟨lvp sc a (wl ws) ns (.int k) (.int p) o2, []⟩
  have hd := ev_call (n := n + 18) (σ' := ⟨lvp sc a (wl ws) ns (.int k) (.int p) o2, []⟩) (la_1d (n + 13) [] ⟨lvp sc a (wl ws) ns (.int k) (.int p) o2, []⟩) (dict_fn (n + 8) _)
  have hi := la_1i (n + 11) [] sc a (wl ws) ns k (.int p) o2
  rw [hy] at hi
  have hi : (R (n + 19)).ev (Fp []) (subS (asV (laB 1))) ⟨lvp sc a (wl ws) ns (.int k) (.int p) o2, []⟩ = .ok (.v (.int ((y.fdiv 3).fmod 21))) ⟨lvp sc a (wl ws) ns (.int k) (.int p) o2, []⟩ := hi
  rw [hd, kIdx_ok hi] at hb1
  have hw := map_at (f := fun k : Int => subE (.v dictV) (.v (.int k)) []) (g := fun k : Int => some (.v (.str (dictW k).text))) (dict_run []) ((y.fdiv 3).fmod 21) (fmod_mem (y.fdiv 3) 21 (by decide) (by decide))
  have hw : subE (.v dictV) (.v (.int ((y.fdiv 3).fmod 21))) [] = some (.v (.str (dictW ((y.fdiv 3).fmod 21)).text)) := hw
  rw [hw] at hb1
  generalize dictW ((y.fdiv 3).fmod 21) = w at hb1
  obtain ⟨o3, h3⟩ := la_1w sc a (wl ws) ns (.int k) (.int p) (.str w.text) o2
  have hb1 : stL [] (R (n + 20)) (laB 1) ⟨lvp sc a (wl ws) ns (.int k) (.int p) o2, []⟩ = .ok .next ⟨lvw sc a (wl ws) ns (.int k) (.int p) (.str w.text) o3, []⟩ := hb1.trans h3
  have hb2 := la_b2 (n + 10) sc a (wl ws) ns k (.int p) (.str w.text) o3
  rw [hy] at hb2
  have hb2 : stL [] (R (n + 20)) (laB 2) ⟨lvw sc a (wl ws) ns (.int k) (.int p) (.str w.text) o3, []⟩ = kAsgF (Fp []) sDeed (.ok (.v (.int (y.fmod 3))) ⟨lvw sc a (wl ws) ns (.int k) (.int p) (.str w.text) o3, []⟩) := hb2
  rw [la_2s] at hb2
  obtain ⟨ws', hle, hb3⟩ := la_edit n sc a ns (.int k) w p (y.fmod 3) (fmod_mem y 3 (by decide) (by decide)) ws hl
  refine ⟨ws', (.int k, .int p, .str w.text, .int (y.fmod 3)), hle, forX_next h1 ?_ rfl⟩
  show bkL [] (R (n + 20)) (foB (sq 490 3)) _ = _
  rw [la_fb]
  exact bl_next hb0 (bl_next hb1 (bl_next hb2 (bl_next hb3 rfl)))
end Rk
end
section
open PySem PySem.W PyProof.Rows PySem.Calls Mine
set_option maxRecDepth 100000
set_option maxHeartbeats 400000
set_option linter.constructorNameAsVariable false
namespace Rk
def At2 (ns : List V) (k : Int) : Prop := ∃ x y, atI ns k = some (.int x) ∧ atI ns (k + 1) = some (.int y)
theorem la_loop (n : Nat) (sc : PV) (a : Int) (ns : List V) : ∀ (ks : List Int) (ws : List Bd) (q : V × V × V × V), (∀ k ∈ ks, At2 ns k) → ws.length + ks.length ≤ 1000 → ∃ ws' q', ws'.length ≤ ws.length + ks.length ∧ laFor (R (n + 21)) (ks.map .int) ⟨lv3 sc a (wl ws) ns (some q), []⟩ = .ok .next ⟨lv3 sc a (wl ws') ns (some q'), []⟩
  | [], ws, q, _, _ => by
    refine ⟨ws, q, by simp, ?_⟩
    show (R (n + 21)).ex (Fp []) (foO (sq 490 3)) _ = _
    rw [la_fo]; rfl
  | k :: ks, ws, q, h, hl => by
    obtain ⟨x, y, hx, hy⟩ := h k (.head _)
    obtain ⟨ws1, q1, h1, e1⟩ := la_iter n sc a ns k x y hx hy ws (by omega) (some q) (ks.map .int)
    obtain ⟨ws2, q2, h2, e2⟩ := la_loop n sc a ns ks ws1 q1 (fun j hj => h j (.tail _ hj)) (by simp only [List.length_cons] at hl; omega)
    exact ⟨ws2, q2, by simp only [List.length_cons]; omega, e1.trans e2⟩
theorem la_loop0 (n : Nat) (sc : PV) (a : Int) (ns : List V) (k : Int) (ks : List Int) (ws : List Bd) (h : ∀ j ∈ k :: ks, At2 ns j) (hl : ws.length + (ks.length + 1) ≤ 1000) : ∃ ws' q', ws'.length ≤ ws.length + (ks.length + 1) ∧ laFor (R (n + 21)) ((k :: ks).map .int) ⟨lw3 sc a (wl ws) ns, []⟩ = .ok .next ⟨lv3 sc a (wl ws') ns (some q'), []⟩ := by
  obtain ⟨x, y, hx, hy⟩ := h k (.head _)
  obtain ⟨ws1, q1, h1, e1⟩ := la_iter n sc a ns k x y hx hy ws (by omega) none (ks.map .int)
  obtain ⟨ws2, q2, h2, e2⟩ := la_loop n sc a ns ks ws1 q1 (fun j hj => h j (.tail _ hj)) (by omega)
  exact ⟨ws2, q2, by omega, e1.trans e2⟩
theorem la_3k (n : Nat) (sc : PV) (a : Int) (ws : List Bd) (hl : ws.length ≤ 14) (ns : List V) (k : Int) (ks : List Int) (z : Int) (hr : rangeOf [.v (.int 0), .v (.int ((ns.length : Int) - 1)), .v (.int 2)] = some (0, z, 2)) (hz : rangeL 0 z 2 = (k :: ks).map .int) (h : ∀ j ∈ k :: ks, At2 ns j) (hk : ks.length ≤ 3) :
    ∃ ws' q, ws'.length ≤ 18 ∧ stL [] (R (n + 21)) (sq 490 3) ⟨lw3 sc a (wl ws) ns, []⟩ = .ok .next ⟨lv3 sc a (wl ws') ns (some q), []⟩ := by
  have h3 := la_s3 (n + 11) sc a (wl ws) ns
  rw [hr] at h3
  have h3 : stL [] (R (n + 21)) (sq 490 3) ⟨lw3 sc a (wl ws) ns, []⟩ = laFor (R (n + 21)) (rangeL 0 z 2) ⟨lw3 sc a (wl ws) ns, []⟩ := h3
  rw [hz] at h3
  obtain ⟨ws', q, h1, e⟩ := la_loop0 n sc a ns k ks ws h (by omega)
  exact ⟨ws', q, by omega, h3.trans e⟩
theorem at2n {ns : List V} : ∀ k ∈ ([] : List Int), At2 ns k := fun k h => by cases h
theorem at2c {ns : List V} {k : Int} {ks : List Int} (x y : Int) (h : atI ns k = some (.int x)) (h' : atI ns (k + 1) = some (.int y)) (t : ∀ j ∈ ks, At2 ns j) : ∀ j ∈ k :: ks, At2 ns j := fun j hj => by
  rcases List.mem_cons.mp hj with rfl | hj
  · exact ⟨x, y, h, h'⟩
  · exact t j hj
theorem la_3 (n : Nat) (sc : PV) (a : Int) (ws : List Bd) (hl : ws.length ≤ 14) (ns : List Int) (h2 : 2 ≤ ns.length) (h8 : ns.length ≤ 8) : ∃ ws' q, ws'.length ≤ 18 ∧ stL [] (R (n + 21)) (sq 490 3) ⟨lw3 sc a (wl ws) (intsV ns), []⟩ = .ok .next ⟨lv3 sc a (wl ws') (intsV ns) (some q), []⟩ := by
  match ns, h2, h8 with
  | [x0, x1], _, _ => exact la_3k n sc a ws hl _ 0 [] 1 (by kernel_rfl) (by kernel_rfl) (at2c x0 x1 rfl rfl at2n) (by simp)
  | [x0, x1, x2], _, _ => exact la_3k n sc a ws hl _ 0 [] 2 (by kernel_rfl) (by kernel_rfl) (at2c x0 x1 rfl rfl at2n) (by simp)
  | [x0, x1, x2, x3], _, _ => exact la_3k n sc a ws hl _ 0 [2] 3 (by kernel_rfl) (by kernel_rfl) (at2c x0 x1 rfl rfl (at2c x2 x3 rfl rfl at2n)) (by simp)
  | [x0, x1, x2, x3, x4], _, _ => exact la_3k n sc a ws hl _ 0 [2] 4 (by kernel_rfl) (by kernel_rfl) (at2c x0 x1 rfl rfl (at2c x2 x3 rfl rfl at2n)) (by simp)
  | [x0, x1, x2, x3, x4, x5], _, _ => exact la_3k n sc a ws hl _ 0 [2, 4] 5 (by kernel_rfl) (by kernel_rfl) (at2c x0 x1 rfl rfl (at2c x2 x3 rfl rfl (at2c x4 x5 rfl rfl at2n))) (by simp)
  | [x0, x1, x2, x3, x4, x5, x6], _, _ => exact la_3k n sc a ws hl _ 0 [2, 4] 6 (by kernel_rfl) (by kernel_rfl) (at2c x0 x1 rfl rfl (at2c x2 x3 rfl rfl (at2c x4 x5 rfl rfl at2n))) (by simp)
  | [x0, x1, x2, x3, x4, x5, x6, x7], _, _ => exact la_3k n sc a ws hl _ 0 [2, 4, 6] 7 (by kernel_rfl) (by kernel_rfl) (at2c x0 x1 rfl rfl (at2c x2 x3 rfl rfl (at2c x4 x5 rfl rfl (at2c x6 x7 rfl rfl at2n)))) (by simp)
  | _ :: _ :: _ :: _ :: _ :: _ :: _ :: _ :: _ :: _, _, h8 => exact absurd h8 (by simp)
end Rk
end
section
open PySem PySem.W PyProof.Rows PySem.Calls Mine
set_option maxRecDepth 100000
set_option maxHeartbeats 400000
set_option linter.constructorNameAsVariable false
namespace Rk
theorem cps_no (b : Bd) (h : b ≠ .ats) : ∀ c ∈ b.cps, (c != 64) = true := by
  have h2 : (allB.all fun b => b.cps.all fun c => c != 64) = true := by decide +kernel
  exact List.all_eq_true.mp (List.all_eq_true.mp h2 b (mem_allB h))
theorem cut_jr {sf : List Nat} (hs : sf.takeWhile (· != 64) = [] ∨ sf.takeWhile (· != 64) = [32]) : ∀ r : List Bd, ∃ tl, (tl = [] ∨ tl = [32]) ∧ (jr r ++ sf).takeWhile (· != 64) = jr (r.takeWhile fun b => decide (b ≠ .ats)) ++ tl
  | [] => ⟨sf.takeWhile (· != 64), hs, rfl⟩
  | b :: r => by
    rw [jr_cons]
    by_cases hb : b = .ats
    · subst hb
      refine ⟨[32], .inr rfl, ?_⟩
      have e : Bd.cps .ats = [64] := by decide
      rw [e]
      rfl
    · obtain ⟨tl, ht, h⟩ := cut_jr hs r
      refine ⟨tl, ht, ?_⟩
      have e1 : (32 :: (b.cps ++ jr r) ++ sf) = 32 :: (b.cps ++ (jr r ++ sf)) := by simp
      rw [e1, List.takeWhile_cons, if_pos (by decide), List.takeWhile_append_of_pos (cps_no b hb), h, List.takeWhile_cons, if_pos (by simpa using hb), jr_cons]
      simp
theorem cut_jn {sf : List Nat} (hs : sf.takeWhile (· != 64) = [] ∨ sf.takeWhile (· != 64) = [32]) (ws : List Bd) : ∃ tl, (tl = [] ∨ tl = [32]) ∧ (jn ws ++ sf).takeWhile (· != 64) = jn (ws.takeWhile fun b => decide (b ≠ .ats)) ++ tl := by
  cases ws with
  | nil => exact ⟨sf.takeWhile (· != 64), hs, rfl⟩
  | cons b r =>
    by_cases hb : b = .ats
    · subst hb
      refine ⟨[], .inl rfl, ?_⟩
      have e : jn (.ats :: r) = 64 :: jr r := by
        show Bd.cps .ats ++ jr r = _
        have e : Bd.cps .ats = [64] := by decide
        rw [e]; rfl
      rw [e]; rfl
    · obtain ⟨tl, ht, h⟩ := cut_jr hs r
      refine ⟨tl, ht, ?_⟩
      have e1 : jn (b :: r) ++ sf = b.cps ++ (jr r ++ sf) := by show b.cps ++ jr r ++ sf = _; simp
      rw [e1, List.takeWhile_append_of_pos (cps_no b hb), h, List.takeWhile_cons, if_pos (by simpa using hb)]
      show _ = b.cps ++ jr _ ++ tl
      simp
theorem parts_hd (s : Bd) : ∀ (ws cur : List Bd), ∃ tl, partsL s cur ws = (cur ++ ws.takeWhile fun b => decide (b ≠ s)) :: tl
  | [], cur => ⟨[], by simp [partsL]⟩
  | w :: r, cur => by
    unfold partsL
    by_cases hw : w = s
    · rw [if_pos hw]
      refine ⟨partsL s [] r, ?_⟩
      rw [List.takeWhile_cons, if_neg (by simpa using hw), List.append_nil]
    · rw [if_neg hw]
      obtain ⟨tl, h⟩ := parts_hd s r (cur ++ [w])
      exact ⟨tl, by rw [h, List.takeWhile_cons, if_pos (by simpa using hw)]; simp⟩
section
variable (sc : PV) (a : Int) (ws ns : List V) (k p w d : V)
abbrev lTx (x : Str) : List (Str × PV) := lw8 sc a ws ns k p w d ++ [(sText, .v (.str x))]
abbrev lKp (x : Str) (kp : List V) : List (Str × PV) := lw8 sc a ws ns k p w d ++ [(sText, .v (.str x)), (sKept, .v (.list kp))]
abbrev lTk (x : Str) (kp : List V) (b : Bool) : List (Str × PV) := lw8 sc a ws ns k p w d ++ [(sText, .v (.str x)), (sKept, .v (.list kp)), (sTaken, .v (.bool b))]
theorem la_K4 (E : Ev) (pr : List Str) (σ : St) : stL pr (up 1 E) (sq 490 4) σ = kAsgF (Fp pr) sText (kBin .Add (E.ev (Fp pr) (bopL (asV (sq 490 4))) σ) (E.ev (Fp pr) (bopR (asV (sq 490 4))))) := by kernel_rfl
theorem la_4l (n : Nat) : (R (n + 8)).ev (Fp []) (bopL (asV (sq 490 4))) ⟨lw8 sc a ws ns k p w d, []⟩ = vO (joinE sp1 ws) ⟨lw8 sc a ws ns k p w d, []⟩ := by kernel_rfl
noncomputable def sfxV : V := valOf ((R 5).ev (Fp []) (subV (bopR (asV (sq 490 4)))) ⟨[], []⟩)
theorem la_4r (n : Nat) : (R (n + 8)).ev (Fp []) (bopR (asV (sq 490 4))) ⟨lw8 sc a ws ns k p w d, []⟩ = okO (subE (.v sfxV) (.v (.int ((a.fdiv 6).fmod 3))) []) ⟨lw8 sc a ws ns k p w d, []⟩ := by kernel_rfl
noncomputable def sfxS (i : Int) : Str := match subE (.v sfxV) (.v (.int i)) [] with
  | some (.v x) => strOf' x
  | _ => ⟨#[]⟩
where strOf' : V → Str
  | .str x => x
  | _ => ⟨#[]⟩
def three : List Int := [0, 1, 2]
theorem sfx_run : (three.map fun i => subE (.v sfxV) (.v (.int i)) []) = three.map fun i => some (.v (.str (sfxS i))) := by kernel_rfl
theorem sfx_ok : (three.all fun i => ((sfxS i).cps.toList.takeWhile (· != 64) == [] || (sfxS i).cps.toList.takeWhile (· != 64) == [32]) && decide ((sfxS i).cps.size ≤ 100)) = true := by decide +kernel
theorem la_4s (x : Str) : kAsgF (Fp []) sText (.ok (.v (.str x)) ⟨lw8 sc a ws ns k p w d, []⟩) = .ok .next ⟨lTx sc a ws ns k p w d x, []⟩ := by kernel_rfl
theorem la_K5 (E : Ev) (pr : List Str) (σ : St) : stL pr (up 1 E) (sq 490 5) σ = kAsgF (Fp pr) sKept (kIdx (E.ev (Fp pr) (subV (asV (sq 490 5))) σ) (E.ev (Fp pr) (subS (asV (sq 490 5))))) := by kernel_rfl
theorem la_5v (n : Nat) (x : Str) (f : Addr → List PV → St → Out PV) : (up 1 (ov (R (n + 5)) f)).ev (Fp []) (subV (asV (sq 490 5))) ⟨lTx sc a ws ns k p w d x, []⟩ = f 464 [.v (.list ws), .v (.str Bd.ats.text)] ⟨lTx sc a ws ns k p w d x, []⟩ := by kernel_rfl
theorem la_5s (n : Nat) (σ : St) : (R (n + 5)).ev (Fp []) (subS (asV (sq 490 5))) σ = .ok (.v (.int 0)) σ := by kernel_rfl
theorem la_5a (x : Str) (kp : List V) : kAsgF (Fp []) sKept (.ok (.v (.list kp)) ⟨lTx sc a ws ns k p w d x, []⟩) = .ok .next ⟨lKp sc a ws ns k p w d x kp, []⟩ := by kernel_rfl
theorem la_6n (n : Nat) (x : Str) : stL [] (R (n + 10)) (sq 490 6) ⟨lKp sc a ws ns k p w d x [], []⟩ = .ok .next ⟨lTk sc a ws ns k p w d x [] true, []⟩ := by kernel_rfl
theorem la_6K (n : Nat) (x : Str) (y : V) (r : List V) (f : Addr → List PV → St → Out PV) : stL [] (up 2 (ov (R (n + 5)) f)) (sq 490 6) ⟨lKp sc a ws ns k p w d x (y :: r), []⟩ = kAsgF (Fp []) sTaken (f 483 [.v (.list (y :: r))] ⟨lKp sc a ws ns k p w d x (y :: r), []⟩) := by kernel_rfl
theorem la_6a (x : Str) (kp : List V) (b : Bool) : kAsgF (Fp []) sTaken (.ok (.v (.bool b)) ⟨lKp sc a ws ns k p w d x kp, []⟩) = .ok .next ⟨lTk sc a ws ns k p w d x kp b, []⟩ := by kernel_rfl
end
end Rk
end
section
open PySem PySem.W PyProof.Rows PySem.Calls Mine
set_option maxRecDepth 100000
set_option maxHeartbeats 400000
set_option linter.constructorNameAsVariable false
namespace Rk
theorem str_add (x y : Str) : (x ++ y).cps.toList = x.cps.toList ++ y.cps.toList := by
  show (x.cps ++ y.cps).toList = _
  rw [Array.toList_append]
theorem str_add_len (x y : Str) : (x ++ y).length = x.length + y.length := by
  show (x.cps ++ y.cps).size = _
  rw [Array.size_append]; rfl
/-- what stands after the law's first statements -/
structure Pre (x : Str) (kept : List Bd) : Prop where
  no : ∀ b ∈ kept, b ≠ .ats
  len : kept.length ≤ 18
  cut : ∃ tl, (tl = [] ∨ tl = [32]) ∧ x.cps.toList.takeWhile (· != 64) = jn kept ++ tl
  xlen : x.length ≤ 100000
def isTaken (kept : List Bd) : Bool := decide (kept = []) || takenB kept
section
variable (sc : PV) (a : Int) (ns : List V) (k p w d : V)
theorem la_4 (n : Nat) (ws : List Bd) (hl : ws.length ≤ 18) : ∃ x, Pre x (ws.takeWhile fun b => decide (b ≠ .ats)) ∧ stL [] (R (n + 20)) (sq 490 4) ⟨lw8 sc a (wl ws) ns k p w d, []⟩ = .ok .next ⟨lTx sc a (wl ws) ns k p w d x, []⟩ := by
  have h := la_K4 (R (n + 19)) [] ⟨lw8 sc a (wl ws) ns k p w d, []⟩
  have hl4 := la_4l sc a (wl ws) ns k p w d (n + 11)
  rw [show joinE sp1 (wl ws) = some (.str (mkS (jn ws))) from joinE_jn (by omega)] at hl4
  have hl4 : (R (n + 19)).ev (Fp []) (bopL (asV (sq 490 4))) ⟨lw8 sc a (wl ws) ns k p w d, []⟩ = .ok (.v (.str (mkS (jn ws)))) ⟨lw8 sc a (wl ws) ns k p w d, []⟩ := hl4
  have hm : (a.fdiv 6).fmod 3 ∈ three := fmod_mem (a.fdiv 6) 3 (by decide) (by decide)
  have hr4 := la_4r sc a (wl ws) ns k p w d (n + 11)
  have hs := map_at (f := fun i : Int => subE (.v sfxV) (.v (.int i)) []) (g := fun i : Int => some (.v (.str (sfxS i)))) sfx_run _ hm
  have hs : subE (.v sfxV) (.v (.int ((a.fdiv 6).fmod 3))) [] = some (.v (.str (sfxS ((a.fdiv 6).fmod 3)))) := hs
  rw [hs] at hr4
  have ho := List.all_eq_true.mp sfx_ok _ hm
  generalize sfxS ((a.fdiv 6).fmod 3) = sf at hr4 ho
  rw [Bool.and_eq_true, Bool.or_eq_true, beq_iff_eq, beq_iff_eq] at ho
  have hsz := of_decide_eq_true ho.2
  have hjl := jn_len ws
  have hsum : (mkS (jn ws)).length + sf.length ≤ 100000 := by
    rw [mkS_len]
    have : sf.length ≤ 100 := hsz
    omega
  have hadd : binE .Add (.v (.str (mkS (jn ws)))) (.v (.str sf)) [] = some (.str (mkS (jn ws) ++ sf)) := by
    show (match fitsN ((mkS (jn ws)).length + sf.length) with | true => some (PyData.str (mkS (jn ws) ++ sf)) | false => none) = _
    rw [fits_of hsum]
  have hr4 : (R (n + 19)).ev (Fp []) (bopR (asV (sq 490 4))) ⟨lw8 sc a (wl ws) ns k p w d, []⟩ = .ok (.v (.str sf)) ⟨lw8 sc a (wl ws) ns k p w d, []⟩ := hr4
  rw [hl4, kBin_ok hr4, hadd] at h
  obtain ⟨tl, ht, hcut⟩ := cut_jn ho.1 ws
  refine ⟨mkS (jn ws) ++ sf, ⟨fun b hb => ?_, ?_, ⟨tl, ht, ?_⟩, by rw [str_add_len]; exact hsum⟩, h.trans (la_4s sc a (wl ws) ns k p w d _)⟩
  · have := List.all_eq_true.mp List.all_takeWhile b hb; simpa using this
  · exact Nat.le_trans (List.IsPrefix.length_le (List.takeWhile_prefix _)) hl
  · rw [str_add, ← hcut]; simp [mkS]
theorem la_5 (n : Nat) (ws : List Bd) (hl : ws.length ≤ 18) (x : Str) : stL [] (R (n + 20)) (sq 490 5) ⟨lTx sc a (wl ws) ns k p w d x, []⟩ = .ok .next ⟨lKp sc a (wl ws) ns k p w d x (wl (ws.takeWhile fun b => decide (b ≠ .ats))), []⟩ := by
  have h := la_K5 (R (n + 19)) [] ⟨lTx sc a (wl ws) ns k p w d x, []⟩
  have hv := ev_call (n := n + 18) (σ' := ⟨lTx sc a (wl ws) ns k p w d x, []⟩) (la_5v sc a (wl ws) ns k p w d (n + 13) x) (parts_eq (n + 4) ws .ats _ (by omega))
  obtain ⟨tl, hp⟩ := parts_hd .ats ws []
  rw [hp] at hv
  have hs := la_5s (n + 14) ⟨lTx sc a (wl ws) ns k p w d x, []⟩
  rw [hv, kIdx_ok hs] at h
  exact h.trans (la_5a sc a (wl ws) ns k p w d x _)
theorem la_6 (n : Nat) (ws : List V) (kept : List Bd) (hl : kept.length ≤ 18) (x : Str) : stL [] (R (n + 50)) (sq 490 6) ⟨lKp sc a ws ns k p w d x (wl kept), []⟩ = .ok .next ⟨lTk sc a ws ns k p w d x (wl kept) (isTaken kept), []⟩ := by
  cases kept with
  | nil => exact la_6n sc a ws ns k p w d (n + 40) x
  | cons b r =>
    have hK := la_6K sc a ws ns k p w d (n + 43) x (.str b.text) (wl r) (R (n + 48)).fn
    rw [ov_self] at hK
    have e : up 2 (R (n + 48)) = R (n + 50) := up_R 2 (n + 48)
    rw [e] at hK
    have hf := taken_fn (n + 4) (b :: r) ⟨lKp sc a ws ns k p w d x (wl (b :: r)), []⟩ (by omega)
    have hf : (R (n + 48)).fn 483 [.v (.list (.str b.text :: wl r))] ⟨lKp sc a ws ns k p w d x (.str b.text :: wl r), []⟩ = okB (takenB (b :: r)) ⟨lKp sc a ws ns k p w d x (.str b.text :: wl r), []⟩ := hf
    rw [hf] at hK
    exact hK.trans (la_6a sc a ws ns k p w d x _ _)
end
noncomputable def law36 : List Stmt := [sq 490 3, sq 490 4, sq 490 5, sq 490 6]
/-- the law up to its first try -/
theorem law_pre (n : Nat) (sc : PV) (a : Int) (ws0 : List Bd) (hl0 : ws0.length ≤ 14) (is : List Int) : ∃ ws k p w d x kept, Pre x kept ∧ bkL [] (R (n + 60)) law36 ⟨lw3 sc a (wl ws0) (numsV is), []⟩ = .ok .next ⟨lTk sc a ws (numsV is) k p w d x (wl kept) (isTaken kept), []⟩ := by
  obtain ⟨ns, hn2, hn8, e⟩ := nums_ok is
  rw [e]
  obtain ⟨ws, q, hl, h3⟩ := la_3 (n + 39) sc a ws0 hl0 ns hn2 hn8
  obtain ⟨k, p, w, d⟩ := q
  obtain ⟨x, hx, h4⟩ := la_4 sc a (intsV ns) k p w d (n + 40) ws hl
  have h5 := la_5 sc a (intsV ns) k p w d (n + 40) ws hl x
  have h6 := la_6 sc a (intsV ns) k p w d (n + 10) (wl ws) _ hx.len x
  exact ⟨wl ws, k, p, w, d, x, _, hx, bl_next h3 (bl_next h4 (bl_next h5 (bl_next h6 rfl)))⟩
end Rk
end
section
open PySem PySem.W PyProof.Rows PySem.Calls Mine
set_option maxRecDepth 100000
set_option maxHeartbeats 400000
set_option linter.constructorNameAsVariable false
namespace Rk
theorem parses_of (n : Nat) {x : Str} {kept : List Bd} (h : Pre x kept) : ∃ L, Parses (n + 70) x (pText kept) L := by
  obtain ⟨tl, ht, hc⟩ := h.cut
  have := h.len
  exact init_eq n x kept tl h.no ht (by omega) hc h.xlen
section
variable (sc : PV) (a : Int) (ws ns : List V) (k p w d : V)
abbrev lTd (x : Str) (kp : List V) (b : Bool) (t : List V) : List (Str × PV) := lw8 sc a ws ns k p w d ++ [(sText, .v (.str x)), (sKept, .v (.list kp)), (sTaken, .v (.bool b)), (sTold, .v (.list t))]
abbrev lOt (x : Str) (kp : List V) (b : Bool) (t : List V) (o : Str) : List (Str × PV) := lw8 sc a ws ns k p w d ++ [(sText, .v (.str x)), (sKept, .v (.list kp)), (sTaken, .v (.bool b)), (sTold, .v (.list t)), (sOther, .v (.str o))]
theorem t1_e (n : Nat) (pr : List Str) (x : Str) (kp : List V) (b : Bool) (f : Addr → List PV → St → Out PV) : (up 1 (ov (R (n + 5)) f)).ev (Fp pr) eX1 ⟨lTk sc a ws ns k p w d x kp b, []⟩ = f 68 [.cst (.ref 89), .v (.list [.tuple [.str sFew, .str x]])] ⟨lTk sc a ws ns k p w d x kp b, []⟩ := by kernel_rfl
def tell1 : List Bd → List V
  | [] => []
  | _ => [.str sFew]
theorem t1_fin (E : Ev) (x : Str) (kp : List V) (b : Bool) (H : List AObj) : kAsgF (Fp [sTaken]) sTold (kSorted E (.ok (.fset []) ⟨lTk sc a ws ns k p w d x kp b, H⟩)) = .ok .next ⟨lTd sc a ws ns k p w d x kp b [], H⟩ := by kernel_rfl
theorem t1_fin1 (E : Ev) (x : Str) (kp : List V) (b : Bool) (H : List AObj) : kAsgF (Fp [sTaken]) sTold (kSorted E (.ok (.fset [sFew]) ⟨lTk sc a ws ns k p w d x kp b, H⟩)) = .ok .next ⟨lTd sc a ws ns k p w d x kp b [.str sFew], H⟩ := by kernel_rfl
/-- the first try -/
theorem try1_run (n : Nat) {x : Str} {kept : List Bd} (h : Pre x kept) (b : Bool) : ∃ H, stL [sTaken] (R (n + 90)) try1 ⟨lTk sc a ws ns k p w d x (wl kept) b, []⟩ = (match pText kept with
    | some _ => .ok .next ⟨lTd sc a ws ns k p w d x (wl kept) b (tell1 kept), H⟩
    | none => .exc RErr) := by
  obtain ⟨L, hp⟩ := parses_of (n + 4) h
  have hy : ∀ y, pText kept = some y → YOk y := fun y e => .of e
  have ho : (R (n + 84)).fn 61 [.ref 1, .v (.list [.tuple [.str sFew, .str x]])] ⟨[], [.dict [], .inst 89 0 []]⟩ = (match pText kept with
    | some y => .ok (.v .none) ⟨[], Hb [sFew] (abs1 y) ++ J4 L y⟩
    | none => .exc RErr) := pr_one (n + 71) x (pText kept) L hy hp
  have hK := t1_K (R (n + 88)) [sTaken] ⟨lTk sc a ws ns k p w d x (wl kept) b, []⟩
  have e : up 2 (R (n + 88)) = R (n + 90) := up_R 2 (n + 88)
  rw [e] at hK
  have hk := @pText_ok kept
  revert ho hy hk
  generalize pText kept = o
  intro hy ho hk
  cases o with
  | none =>
    have h61 : (R (n + 84)).fn 61 [.ref 1, .v (.list [.tuple [.str sFew, .str x]])] ⟨[], [.dict [], .inst 89 0 []]⟩ = outM [] (.v .none) (.inl RErr) := ho
    have h68 := parse_eq (n + 74) _ _ (lTk sc a ws ns k p w d x (wl kept) b) h61
    have he := ev_call (n := n + 87) (σ' := ⟨lTk sc a ws ns k p w d x (wl kept) b, []⟩) (t1_e sc a ws ns k p w d (n + 82) [sTaken] x (wl kept) b) h68
    rw [he] at hK
    exact ⟨[], hK.trans rfl⟩
  | some y =>
    have h61 : (R (n + 84)).fn 61 [.ref 1, .v (.list [.tuple [.str sFew, .str x]])] ⟨[], [.dict [], .inst 89 0 []]⟩ = outM [] (.v .none) (.inr (.one [sFew] (abs1 y) L y)) := ho
    have h68 := parse_eq (n + 74) _ _ (lTk sc a ws ns k p w d x (wl kept) b) h61
    have he := ev_call (n := n + 87) (σ' := ⟨lTk sc a ws ns k p w d x (wl kept) b, []⟩) (t1_e sc a ws ns k p w d (n + 82) [sTaken] x (wl kept) b) h68
    rw [he] at hK
    have ha := at_tags (R (n + 88)) (lTk sc a ws ns k p w d x (wl kept) b) [sFew] (abs1 y) (J4 L y)
    have hyy := hy y rfl
    rw [tags_one (n + 76) [sFew] L y hyy] at ha
    have hK2 : stL [sTaken] (R (n + 90)) try1 ⟨lTk sc a ws ns k p w d x (wl kept) b, []⟩ = kAsgF (Fp [sTaken]) sTold (kSorted (R (n + 88)) (attrE T02 (R (n + 88)) sTags (.ref 1) ⟨lTk sc a ws ns k p w d x (wl kept) b, Hb [sFew] (abs1 y) ++ J4 L y⟩)) := hK
    rw [ha] at hK2
    refine ⟨Hb [sFew] (abs1 y) ++ J4 L y, ?_⟩
    rcases hk rfl with ⟨rfl, rfl⟩ | ⟨hne, t, l, rfl⟩
    · exact hK2.trans (t1_fin sc a ws ns k p w d _ x _ b _)
    · cases kept with
      | nil => exact absurd rfl hne
      | cons c r => exact hK2.trans (t1_fin1 sc a ws ns k p w d _ x _ b _)
theorem la_8n (n : Nat) (x : Str) : stL [] (R (n + 20)) (sq 490 8) ⟨lTd sc a ws ns k p w d x [] true [], []⟩ = .ok .next ⟨lTd sc a ws ns k p w d x [] true [], []⟩ := by kernel_rfl
theorem la_8c (n : Nat) (x : Str) (y : V) (r : List V) : stL [] (R (n + 20)) (sq 490 8) ⟨lTd sc a ws ns k p w d x (y :: r) true [.str sFew], []⟩ = .ok .next ⟨lTd sc a ws ns k p w d x (y :: r) true [.str sFew], []⟩ := by kernel_rfl
theorem la_K9 (E : Ev) (pr : List Str) (σ : St) : stL pr (up 1 E) (sq 490 9) σ = kAsgF (Fp pr) sOther (kIdx (E.ev (Fp pr) (subV (asV (sq 490 9))) σ) (E.ev (Fp pr) (subS (asV (sq 490 9))))) := by kernel_rfl
noncomputable def othersV : V := valOf ((R 5).ev (Fp []) (subV (asV (sq 490 9))) ⟨[], []⟩)
theorem la_9v (n : Nat) (σ : St) : (R (n + 5)).ev (Fp []) (subV (asV (sq 490 9))) σ = .ok (.v othersV) σ := by kernel_rfl
theorem la_9s (n : Nat) (x : Str) (kp : List V) (b : Bool) (t : List V) : (R (n + 8)).ev (Fp []) (subS (asV (sq 490 9))) ⟨lTd sc a ws ns k p w d x kp b t, []⟩ = .ok (.v (.int ((a.fdiv 18).fmod 4))) ⟨lTd sc a ws ns k p w d x kp b t, []⟩ := by kernel_rfl
theorem la_9a (x : Str) (kp : List V) (b : Bool) (t : List V) (o : Str) : kAsgF (Fp []) sOther (.ok (.v (.str o)) ⟨lTd sc a ws ns k p w d x kp b t, []⟩) = .ok .next ⟨lOt sc a ws ns k p w d x kp b t o, []⟩ := by kernel_rfl
def four : List Int := [0, 1, 2, 3]
def otherAt (i : Int) : Str := if i = 0 then sOne else if i = 1 then sFew else if i = 2 then sThree else sOther
theorem others_run : (four.map fun i => subE (.v othersV) (.v (.int i)) []) = four.map fun i => some (.v (.str (otherAt i))) := by kernel_rfl
theorem la_9 (n : Nat) (x : Str) (kp : List V) (b : Bool) (t : List V) : ∃ o, (o ∈ [sOne, sOther] ∨ o ∈ [sFew, sThree]) ∧ stL [] (R (n + 20)) (sq 490 9) ⟨lTd sc a ws ns k p w d x kp b t, []⟩ = .ok .next ⟨lOt sc a ws ns k p w d x kp b t o, []⟩ := by
  have h := la_K9 (R (n + 19)) [] ⟨lTd sc a ws ns k p w d x kp b t, []⟩
  have hv := la_9v (n + 14) ⟨lTd sc a ws ns k p w d x kp b t, []⟩
  have hs := la_9s sc a ws ns k p w d (n + 11) x kp b t
  rw [hv, kIdx_ok hs] at h
  have hm : (a.fdiv 18).fmod 4 ∈ four := fmod_mem (a.fdiv 18) 4 (by decide) (by decide)
  have hr := map_at (f := fun i : Int => subE (.v othersV) (.v (.int i)) []) (g := fun i : Int => some (.v (.str (otherAt i)))) others_run _ hm
  have hr : subE (.v othersV) (.v (.int ((a.fdiv 18).fmod 4))) [] = some (.v (.str (otherAt ((a.fdiv 18).fmod 4)))) := hr
  rw [hr] at h
  refine ⟨otherAt ((a.fdiv 18).fmod 4), ?_, h.trans (la_9a sc a ws ns k p w d x kp b t _)⟩
  simp only [four, List.mem_cons, List.not_mem_nil, or_false] at hm
  rcases hm with hm | hm | hm | hm <;> rw [hm] <;> simp [otherAt]
end
end Rk
end
section
open PySem PySem.W PyProof.Rows PySem.Calls Mine
set_option maxRecDepth 100000
set_option maxHeartbeats 400000
set_option linter.constructorNameAsVariable false
namespace Rk
def k7 : List Bd := [.k .n, .k .is, .k .v7]
def x7 : Str := mkS (jn k7)
theorem pre7 : Pre x7 k7 where
  no := fun b hb => by
    simp only [k7, List.mem_cons, List.not_mem_nil, or_false] at hb
    rcases hb with rfl | rfl | rfl <;> (intro h; cases h)
  len := by decide
  cut := ⟨[], .inl rfl, by decide⟩
  xlen := by decide
theorem text7 : ∃ t l, pText k7 = some (.tuple (t :: l)) := ⟨.str sIs, [.tuple [.tuple [.str (Str.ofString "n"), .tuple []], valN 7]], by kernel_rfl⟩
section
variable (sc : PV) (a : Int) (ws ns : List V) (k p w d : V)
theorem t2_e (n : Nat) (pr : List Str) (x : Str) (kp : List V) (b : Bool) (t : List V) (o : Str) (f : Addr → List PV → St → Out PV) : (up 1 (ov (R (n + 5)) f)).ev (Fp pr) eX2 ⟨lOt sc a ws ns k p w d x kp b t o, []⟩ = f 68 [.cst (.ref 89), .v (.list [.tuple [.str o, .str x7], .tuple [.str sFew, .str x]])] ⟨lOt sc a ws ns k p w d x kp b t o, []⟩ := by kernel_rfl
def tell2 (o : Str) : List Bd → List V
  | [] => [.str o]
  | _ => [.str sFew, .str o]
theorem t2_fin (E : Ev) (x : Str) (kp : List V) (b : Bool) (t : List V) (H : List AObj) : ([sOne, sOther].map fun o => kAsgF (Fp [sOther]) sTold (kSorted E (.ok (.fset [o]) ⟨lOt sc a ws ns k p w d x kp b t o, H⟩))) = [sOne, sOther].map fun o => .ok .next ⟨lOt sc a ws ns k p w d x kp b [.str o] o, H⟩ := by kernel_rfl
theorem t2_fin1 (E : Ev) (x : Str) (kp : List V) (b : Bool) (t : List V) (H : List AObj) : ([sOne, sOther].map fun o => kAsgF (Fp [sOther]) sTold (kSorted E (.ok (.fset [sFew, o]) ⟨lOt sc a ws ns k p w d x kp b t o, H⟩))) = [sOne, sOther].map fun o => .ok .next ⟨lOt sc a ws ns k p w d x kp b [.str sFew, .str o] o, H⟩ := by kernel_rfl
/-- the second try, of a name that is refused -/
theorem try2_bad (n : Nat) {x : Str} {kept : List Bd} (h : Pre x kept) {y : V} (hy : pText kept = some y) (b : Bool) (t : List V) (o : Str) (ho : o ∈ [sFew, sThree]) : stL [sOther] (R (n + 90)) try2 ⟨lOt sc a ws ns k p w d x (wl kept) b t o, []⟩ = .exc VErr := by
  obtain ⟨L, hp⟩ := parses_of (n + 4) h
  obtain ⟨L7, hp7⟩ := parses_of (n + 4) pre7
  obtain ⟨t7, l7, e7⟩ := text7
  rw [hy] at hp
  rw [e7] at hp7
  have hyo : YOk y := .of hy
  have h61 : (R (n + 84)).fn 61 [.ref 1, .v (.list [.tuple [.str o, .str x7], .tuple [.str sFew, .str x]])] ⟨[], [.dict [], .inst 89 0 []]⟩ = outM [] (.v .none) (.inl VErr) := by
    simp only [List.mem_cons, List.not_mem_nil, or_false] at ho
    rcases ho with rfl | rfl
    · exact pr_bad2 (n + 61) x x7 y _ L L7 hyo hp (.inr ⟨t7, l7, rfl⟩) hp7
    · exact pr_bad3 (n + 61) x x7 y L hyo hp
  have h68 := parse_eq (n + 74) _ _ (lOt sc a ws ns k p w d x (wl kept) b t o) h61
  have he := ev_call (n := n + 87) (σ' := ⟨lOt sc a ws ns k p w d x (wl kept) b t o, []⟩) (t2_e sc a ws ns k p w d (n + 82) [sOther] x (wl kept) b t o) h68
  have hK := t2_K (R (n + 88)) [sOther] ⟨lOt sc a ws ns k p w d x (wl kept) b t o, []⟩
  have e : up 2 (R (n + 88)) = R (n + 90) := up_R 2 (n + 88)
  rw [e, he] at hK
  exact hK.trans rfl
def tg2 (o : Str) : V → List Str
  | .none => [o]
  | _ => [sFew, o]
theorem tags_two' (n : Nat) (fs : List Str) (L L7 : List V) (y y7 : V) (hy : YOk y) (loc : List (Str × PV)) (o : Str) (ho : o ∈ [sOne, sOther]) : (R (n + 12)).fn 84 [.ref 1] ⟨loc, Hb fs (abs1 y ++ [.tuple [.str o, y7]]) ++ (J4 L y ++ J8 L7 y7)⟩ = .ok (.fset (tg2 o y)) ⟨loc, Hb fs (abs1 y ++ [.tuple [.str o, y7]]) ++ (J4 L y ++ J8 L7 y7)⟩ := by
  rcases hy with rfl | ⟨t0, l0, rfl⟩
  · exact map_at (f := fun k : Str => (R (n + 12)).fn 84 [.ref 1] ⟨loc, Hb fs (abs1 .none ++ [.tuple [.str k, y7]]) ++ (J4 L .none ++ J8 L7 y7)⟩) (g := fun k : Str => .ok (.fset [k]) ⟨loc, Hb fs (abs1 .none ++ [.tuple [.str k, y7]]) ++ (J4 L .none ++ J8 L7 y7)⟩) (tags_two n fs L L7 .none y7 (.inl rfl) loc) o ho
  · exact map_at (f := fun k : Str => (R (n + 12)).fn 84 [.ref 1] ⟨loc, Hb fs (abs1 (.tuple (t0 :: l0)) ++ [.tuple [.str k, y7]]) ++ (J4 L (.tuple (t0 :: l0)) ++ J8 L7 y7)⟩) (g := fun k : Str => .ok (.fset [sFew, k]) ⟨loc, Hb fs (abs1 (.tuple (t0 :: l0)) ++ [.tuple [.str k, y7]]) ++ (J4 L (.tuple (t0 :: l0)) ++ J8 L7 y7)⟩) (tags_two n fs L L7 (.tuple (t0 :: l0)) y7 (.inr ⟨t0, l0, rfl⟩) loc) o ho
/-- the second try, of another name -/
theorem try2_ok (n : Nat) {x : Str} {kept : List Bd} (h : Pre x kept) {y : V} (hy : pText kept = some y) (b : Bool) (t : List V) (o : Str) (ho : o ∈ [sOne, sOther]) : ∃ H, stL [sOther] (R (n + 90)) try2 ⟨lOt sc a ws ns k p w d x (wl kept) b t o, []⟩ = .ok .next ⟨lOt sc a ws ns k p w d x (wl kept) b (tell2 o kept) o, H⟩ := by
  obtain ⟨L, hp⟩ := parses_of (n + 4) h
  obtain ⟨L7, hp7⟩ := parses_of (n + 4) pre7
  obtain ⟨t7, l7, e7⟩ := text7
  rw [hy] at hp
  rw [e7] at hp7
  have hyo : YOk y := .of hy
  have h61 : (R (n + 84)).fn 61 [.ref 1, .v (.list [.tuple [.str o, .str x7], .tuple [.str sFew, .str x]])] ⟨[], [.dict [], .inst 89 0 []]⟩ = outM [] (.v .none) (.inr (.two [o, sFew] (abs1 y ++ [.tuple [.str o, .tuple (t7 :: l7)]]) L y L7 (.tuple (t7 :: l7)))) :=
    pr_two (n + 71) x x7 o y t7 l7 L L7 ho hyo hp hp7
  have h68 := parse_eq (n + 74) _ _ (lOt sc a ws ns k p w d x (wl kept) b t o) h61
  have he := ev_call (n := n + 87) (σ' := ⟨lOt sc a ws ns k p w d x (wl kept) b t o, []⟩) (t2_e sc a ws ns k p w d (n + 82) [sOther] x (wl kept) b t o) h68
  have hK := t2_K (R (n + 88)) [sOther] ⟨lOt sc a ws ns k p w d x (wl kept) b t o, []⟩
  have e : up 2 (R (n + 88)) = R (n + 90) := up_R 2 (n + 88)
  rw [e, he] at hK
  have ha := at_tags (R (n + 88)) (lOt sc a ws ns k p w d x (wl kept) b t o) [o, sFew] (abs1 y ++ [.tuple [.str o, .tuple (t7 :: l7)]]) (J4 L y ++ J8 L7 (.tuple (t7 :: l7)))
  have ht := tags_two' (n + 76) [o, sFew] L L7 y (.tuple (t7 :: l7)) hyo (lOt sc a ws ns k p w d x (wl kept) b t o) o ho
  rw [ht] at ha
  have hK2 : stL [sOther] (R (n + 90)) try2 ⟨lOt sc a ws ns k p w d x (wl kept) b t o, []⟩ = kAsgF (Fp [sOther]) sTold (kSorted (R (n + 88)) (attrE T02 (R (n + 88)) sTags (.ref 1) ⟨lOt sc a ws ns k p w d x (wl kept) b t o, Hb [o, sFew] (abs1 y ++ [.tuple [.str o, .tuple (t7 :: l7)]]) ++ (J4 L y ++ J8 L7 (.tuple (t7 :: l7)))⟩)) := hK
  rw [ha] at hK2
  refine ⟨Hb [o, sFew] (abs1 y ++ [.tuple [.str o, .tuple (t7 :: l7)]]) ++ (J4 L y ++ J8 L7 (.tuple (t7 :: l7))), ?_⟩
  generalize Hb [o, sFew] (abs1 y ++ [.tuple [.str o, .tuple (t7 :: l7)]]) ++ (J4 L y ++ J8 L7 (.tuple (t7 :: l7))) = H at hK2 ⊢
  rcases pText_ok hy with ⟨rfl, rfl⟩ | ⟨hne, t0, l0, rfl⟩
  · exact hK2.trans (map_at (f := fun o : Str => kAsgF (Fp [sOther]) sTold (kSorted (R (n + 88)) (.ok (.fset [o]) ⟨lOt sc a ws ns k p w d x (wl []) b t o, H⟩))) (g := fun o : Str => .ok .next ⟨lOt sc a ws ns k p w d x (wl []) b [.str o] o, H⟩) (t2_fin sc a ws ns k p w d (R (n + 88)) x (wl []) b t H) o ho)
  · cases kept with
    | nil => exact absurd rfl hne
    | cons c r => exact hK2.trans (map_at (f := fun o : Str => kAsgF (Fp [sOther]) sTold (kSorted (R (n + 88)) (.ok (.fset [sFew, o]) ⟨lOt sc a ws ns k p w d x (wl (c :: r)) b t o, H⟩))) (g := fun o : Str => .ok .next ⟨lOt sc a ws ns k p w d x (wl (c :: r)) b [.str sFew, .str o] o, H⟩) (t2_fin1 sc a ws ns k p w d (R (n + 88)) x (wl (c :: r)) b t H) o ho)
theorem la_11n (n : Nat) (x : Str) (b : Bool) : ([sOne, sOther].map fun o => stL [] (R (n + 20)) (sq 490 11) ⟨lOt sc a ws ns k p w d x [] b [.str o] o, []⟩) = [sOne, sOther].map fun o => .ok (.ret (.v (.bool true))) ⟨lOt sc a ws ns k p w d x [] b [.str o] o, []⟩ := by kernel_rfl
theorem la_11c (n : Nat) (x : Str) (y : V) (r : List V) (b : Bool) : ([sOne, sOther].map fun o => stL [] (R (n + 20)) (sq 490 11) ⟨lOt sc a ws ns k p w d x (y :: r) b [.str sFew, .str o] o, []⟩) = [sOne, sOther].map fun o => .ok (.ret (.v (.bool true))) ⟨lOt sc a ws ns k p w d x (y :: r) b [.str sFew, .str o] o, []⟩ := by kernel_rfl
theorem la_11 (n : Nat) (x : Str) (kept : List Bd) (b : Bool) (o : Str) (ho : o ∈ [sOne, sOther]) : stL [] (R (n + 20)) (sq 490 11) ⟨lOt sc a ws ns k p w d x (wl kept) b (tell2 o kept) o, []⟩ = .ok (.ret (.v (.bool true))) ⟨lOt sc a ws ns k p w d x (wl kept) b (tell2 o kept) o, []⟩ := by
  cases kept with
  | nil => exact map_at (f := fun o : Str => stL [] (R (n + 20)) (sq 490 11) ⟨lOt sc a ws ns k p w d x [] b [.str o] o, []⟩) (g := fun o : Str => .ok (.ret (.v (.bool true))) ⟨lOt sc a ws ns k p w d x [] b [.str o] o, []⟩) (la_11n sc a ws ns k p w d n x b) o ho
  | cons c r => exact map_at (f := fun o : Str => stL [] (R (n + 20)) (sq 490 11) ⟨lOt sc a ws ns k p w d x (.str c.text :: wl r) b [.str sFew, .str o] o, []⟩) (g := fun o : Str => .ok (.ret (.v (.bool true))) ⟨lOt sc a ws ns k p w d x (.str c.text :: wl r) b [.str sFew, .str o] o, []⟩) (la_11c sc a ws ns k p w d n x (.str c.text) (wl r) b) o ho
theorem la_8 (n : Nat) (x : Str) (kept : List Bd) : stL [] (R (n + 20)) (sq 490 8) ⟨lTd sc a ws ns k p w d x (wl kept) true (tell1 kept), []⟩ = .ok .next ⟨lTd sc a ws ns k p w d x (wl kept) true (tell1 kept), []⟩ := by
  cases kept with
  | nil => exact la_8n sc a ws ns k p w d n x
  | cons c r => exact la_8c sc a ws ns k p w d n x (.str c.text) (wl r)
end
theorem taken_of {x : Str} {kept : List Bd} (h : Pre x kept) {y : V} (hy : pText kept = some y) : isTaken kept = true := by
  have := h.len
  unfold isTaken
  rcases pText_some (by omega) hy with rfl | ht
  · rfl
  · rw [ht, Bool.or_true]
theorem untaken_of {x : Str} {kept : List Bd} (h : Pre x kept) (hy : pText kept = none) : isTaken kept = false := by
  have := h.len
  obtain ⟨h1, h2⟩ := pText_none (by omega) hy
  unfold isTaken
  rw [h2, Bool.or_false]; exact decide_eq_false h1
end Rk
end
section
open PySem PySem.W PyProof.Rows PySem.Calls Mine
set_option maxRecDepth 100000
set_option maxHeartbeats 400000
namespace Rk
section
variable {F : Fn} {X : Cx G02 F} {Q : Flow → Shared → Prop} {E : Value → Shared → Prop} {rest : List Stmt} {n : Nat}
theorem sat_st (ok : X.Ok) (hn : n ≤ X.dep) {W : Wd} {σ : St} {st : Stmt} : Sat X W (exec st X.env) σ (stS T02 Z02 B02 (R n) F st σ) :=
  stS_sat (run_got (A02 X.w.params) (Z02_ok X.w.params) n X ok hn).1 (A02 X.w.params) (Z02_ok X.w.params) ok (run_got (A02 X.w.params) (Z02_ok X.w.params) n X ok hn).2
theorem go_next (ok : X.Ok) (hn : n ≤ X.dep) {W : Wd} {σ σ' : St} {s : Shared} {st : Stmt} (h : stS T02 Z02 B02 (R n) F st σ = .ok .next σ') (I : Inv X W σ s)
    (k : ∀ W' s', W.Le W' → Inv X W' σ' s' → wpAny X.M X.A (execs rest X.env) Q E s') : wpAny X.M X.A (execs (st :: rest) X.env) Q E s := by
  rw [execs_cons]
  refine wpAny_bind (wpAny_mono (sat_st ok hn (by rw [h]; intro e; cases e) s I) (fun f s' ⟨W', b, σ'', le, e, rf, I'⟩ => ?_) fun v s' ⟨c, e, _⟩ => by rw [h] at e; cases e)
  rw [h] at e; cases e
  cases rf
  exact k W' s' le I'
theorem go_block (ok : X.Ok) (hn : n ≤ X.dep) {σ' : St} : ∀ (b : List Stmt) (W : Wd) (σ : St) (s : Shared), blkS T02 Z02 B02 (R n) F b σ = .ok .next σ' → Inv X W σ s →
    (∀ W' s', W.Le W' → Inv X W' σ' s' → wpAny X.M X.A (execs rest X.env) Q E s') → wpAny X.M X.A (execs (b ++ rest) X.env) Q E s
  | [], W, σ, s, h, I, k => by cases h; exact k W s .refl I
  | st :: b, W, σ, s, h, I, k => by
    have h : (stS T02 Z02 B02 (R n) F st σ).bind (fun f σ => match f with
      | .next => blkS T02 Z02 B02 (R n) F b σ
      | f => .ok f σ) = .ok .next σ' := h
    cases e : stS T02 Z02 B02 (R n) F st σ with
    | no => rw [e] at h; cases h
    | exc c => rw [e] at h; cases h
    | ok f σ1 =>
      rw [e] at h
      cases f with
      | next => exact go_next ok hn e I fun W' s' le I' => go_block ok hn b W' σ1 s' h I' fun W'' s'' le' I'' => k W'' s'' (le.trans le') I''
      | brk => cases h
      | cont => cases h
      | ret v => cases h
/-- a statement that returns a value -/
theorem go_ret (ok : X.Ok) (hn : n ≤ X.dep) {W : Wd} {σ σ' : St} {s : Shared} {st : Stmt} {p : PV} (h : stS T02 Z02 B02 (R n) F st σ = .ok (.ret p) σ') (I : Inv X W σ s)
    (k : ∀ W' v s', W.Le W' → Rep W' p v → Inv X W' σ' s' → Q (.ret v) s') : wpAny X.M X.A (execs (st :: rest) X.env) Q E s := by
  rw [execs_cons]
  refine wpAny_bind (wpAny_mono (sat_st ok hn (by rw [h]; intro e; cases e) s I) (fun f s' ⟨W', b, σ'', le, e, rf, I'⟩ => ?_) fun v s' ⟨c, e, _⟩ => by rw [h] at e; cases e)
  rw [h] at e; cases e
  cases rf with
  | ret r => exact wpAny_pure (k W' _ s' le r I')
end
def isVal' : PV → Bool
  | .v _ => true
  | .cst _ => true
  | _ => false
/-- what a frame of values alone may forget -/
theorem forget {F : Fn} {X : Cx G02 F} {W : Wd} {loc : List (Str × PV)} {H : List AObj} {s : Shared} (hv : (loc.all fun y => isVal' y.2) = true) (I : Inv X W ⟨loc, H⟩ s) : ∃ W', W.fro = W'.fro ∧ W'.ex = W.ex ∧ Inv X W' ⟨loc, []⟩ s := by
  obtain ⟨m, news, I⟩ := I
  refine ⟨⟨[], W.fro, W.ex, W.P⟩, rfl, rfl, m, news, ⟨I.fr, I.nw, I.nd, ⟨rfl, fun i j x y a h => by simp at h, I.hr.fro, fun p hp => ⟨(I.hr.exs p hp).1, by simp, (I.hr.exs p hp).2.2⟩, fun a h => by simp at h, fun i x a h => by simp at h, fun i x a h => by simp at h, fun b hb => ?_⟩, fun x p e => ?_, I.os, I.gens, I.P⟩⟩
  · obtain ⟨h1, _, h4, h5⟩ := I.hr.hol b hb
    exact ⟨h1, by simp, h4, h5⟩
  · obtain ⟨v, hm, r⟩ := I.loc x p e
    refine ⟨v, hm, ?_⟩
    have hp : isVal' p = true := by
      have : ∀ l : List (Str × PV), (l.all fun y => isVal' y.2) = true → l.lookup x = some p → isVal' p = true := fun l => by
        induction l with
        | nil => intro _ h; cases h
        | cons y l ih =>
          intro h1 h2
          rw [List.all_cons, Bool.and_eq_true] at h1
          rw [List.lookup_cons] at h2
          cases hx : x == y.1 with
          | true => rw [hx] at h2; cases h2; exact h1.1
          | false => rw [hx] at h2; exact ih h1.2 h2
      exact this loc hv e
    cases r with
    | v r => exact .v r
    | cst v => exact .cst v
    | _ => cases hp
/-- another context of the same frame -/
theorem retext {F F' : Fn} {X : Cx G02 F} {Y : Cx G02 F'} {W : Wd} {σ : St} {s : Shared} (h1 : Y.h₀ = X.h₀) (h2 : Y.L = X.L) (h3 : Y.os = X.os) (h4 : Y.w = X.w) {m : Str → Option Value} {news : Led} (I : InvX X W σ s m news) (hp : ∀ q ∈ Y.pv, m q.1 = some q.2) : InvX Y W σ s m news :=
  ⟨by rw [h1, h2]; exact I.fr, by rw [h1, h2]; exact I.nw, I.nd, I.hr, I.loc, ⟨by rw [h3]; exact I.os.1, hp⟩, I.gens, by rw [h4]; exact I.P⟩
/-- the law's frame -/
structure Fm where
  w : World
  mean : ExcName → Option Value
  mg : Str → Option Value
  mb : Str → Option Value
  h₀ : Heap
  L : Addr
  os : OsState
  a0 : Addr
  vs : List Value
  is : List Int
abbrev Fm.cx (M : Fm) (pr : List Str) (pv : List (Str × Value)) (EP : Value → Value → Shared → Prop) : Cx G02 (Fp pr) :=
  { w := M.w, mean := M.mean, mg := M.mg, mb := M.mb, Ac := callerA, base := M.h₀, h₀ := M.h₀, outer := [], L := M.L, os := M.os, EP := EP, dep := 100, pv := pv }
noncomputable abbrev Fm.env (M : Fm) : Env := envOf (Fq 490).nm (Fq 490).scope M.L 490 (Fq 490).cd
noncomputable abbrev Fm.A (M : Fm) : Around := callerA.deeper M.env
noncomputable abbrev Fm.Mo (M : Fm) : Model := model G02.p M.w
theorem lawKind : (Fq 490).scope.kind = .function := by kernel_rfl
structure Fm.Ok (M : Fm) : Prop where
  kin : (K02 M.w.params).In M.h₀
  top : Top q1 loose1 M.mean M.mg M.mb M.h₀
  lst : M.h₀.get? M.a0 = some (listOf M.vs.toArray 0)
  isInts : VReps [] (intsV M.is) M.vs
  len : M.is.length ≤ 63
section
variable {M : Fm}
theorem cx_ok (ok : M.Ok) {pr : List Str} {pv : List (Str × Value)} {EP : Value → Value → Shared → Prop} (pass : ∀ c, PassesOwn M.Mo M.A M.env (EP c)) (prot : ∀ q ∈ pv, pr.contains q.1 = true)
    (made : pr.isEmpty = true → ∀ c e vs h s m news, Fr M.h₀ M.L h m → News M.h₀ M.L h news → HolIn news → Heap.MadeExcOf h s.heap e c vs → s.os = M.os → AllBare s.gens → EP c (.ref e) s)
    (passed : ∀ c e g s m news, (∀ q ∈ pv, m q.1 = some q.2) → Fr M.h₀ M.L g m → HolIn news → RaisedN M.h₀ [M.env] e c news s.heap → g.UpToSlots s.heap → s.os = M.os → AllBare s.gens → EP c (.ref e) s) : (M.cx pr pv EP).Ok where
  below := below_caller M.h₀
  kin := ok.kin
  top := ok.top
  kind := lawKind
  handled := rfl
  guards := rfl
  depth := by show callerA.depth + 4 * 100 + 2 < recursionLimit; decide
  units := by show callerA.units + 20 * 100 + 60 < cLine; decide
  pass := pass
  prot := prot
  made := made
  passed := passed
/-- where nothing is raised -/
noncomputable def EPq (M : Fm) : Value → Value → Shared → Prop := fun _ v s => wpAny M.Mo M.A (PySem.leaving M.env v) (fun _ _ => True) (fun _ _ => False) s
theorem quiet_ok (ok : M.Ok) : (M.cx [] [] (EPq M)).Ok :=
  cx_ok ok (fun _ => PassesOwn.leaving (Q₁ := fun _ _ => True)) (fun q hq => by cases hq)
    (fun _ c e vs h s m news F N hn hx _ _ => leave_raiseK (news := []) (below_caller M.h₀) hx F News.nil (fun h' t R sm => trivial) lawKind)
    (fun c e g s m news _ F hn R sm _ _ => leave_onN (below_caller M.h₀) F R sm fun h' R' sm' => trivial)
/-- where an exception of one class is caught -/
noncomputable def EPc (M : Fm) (C : Value) (hs : List ExceptHandler) (Q : Flow → Shared → Prop) (E : Value → Shared → Prop) : Value → Value → Shared → Prop := fun c v s =>
  wpAny M.Mo M.A (noteFrame v M.env) (fun _ s₂ => c = C → wpAny M.Mo M.A (setFlight v none) (fun _ s₃ => wpAny M.Mo M.A (handleBy v M.env hs) Q E s₃) E s₂) E s
theorem caught_ok (ok : M.Ok) {C : Value} {hs : List ExceptHandler} {Q : Flow → Shared → Prop} {E : Value → Shared → Prop} {nm : Str} {v : Value}
    (hc : ∀ e g s m news, m nm = some v → Fr M.h₀ M.L g m → HolIn news → RaisedN M.h₀ [M.env] e C news s.heap → g.UpToSlots s.heap → s.os = M.os → AllBare s.gens →
      wpAny M.Mo M.A (noteFrame (.ref e) M.env) (fun _ s₂ => wpAny M.Mo M.A (setFlight (.ref e) none) (fun _ s₃ => wpAny M.Mo M.A (handleBy (.ref e) M.env hs) Q E s₃) E s₂) E s) : (M.cx [nm] [(nm, v)] (EPc M C hs Q E)).Ok :=
  cx_ok ok (fun c => PassesOwn.looking (K := fun v s₂ => c = C → wpAny M.Mo M.A (setFlight v none) (fun _ s₃ => wpAny M.Mo M.A (handleBy v M.env hs) Q E s₃) E s₂)) (fun q hq => by
      rw [List.mem_singleton] at hq; subst hq; simp)
    (fun h => by cases h)
    (fun c e g s m news hm F hn R sm ho hg => by
      by_cases hcc : c = C
      · subst hcc
        exact wpAny_mono (hc e g s m news (hm _ (.head _)) F hn R sm ho hg) (fun _ _ h _ => h) fun _ _ h => h
      · obtain ⟨B, a0, _, _, hfl⟩ := R
        exact wpAny_looks_onW (Around.frames_deeper rfl) rfl hfl fun h' _ _ h => absurd h hcc)
end
end Rk
end
section
open PySem PySem.W PyProof.Rows PySem.Calls Mine
set_option maxRecDepth 100000
set_option maxHeartbeats 400000
namespace Rk
def exX : ExceptHandler → Str
  | .ExceptHandler (some (.Name x _)) _ _ _ => x
  | _ => ""
def exNp : ExceptHandler → Pos
  | .ExceptHandler (some (.Name _ p)) _ _ _ => p
  | _ => default
def exB : ExceptHandler → List Stmt
  | .ExceptHandler _ _ b _ => b
def exPos : ExceptHandler → Pos
  | .ExceptHandler _ _ _ p => p
noncomputable def hd1 : ExceptHandler := (trH (sq 490 7)).headD (.ExceptHandler none none [] default)
noncomputable def hd2 : ExceptHandler := (trH (sq 490 10)).headD (.ExceptHandler none none [] default)
noncomputable def hb1 : Stmt := (exB hd1).getD 0 (.Pass default)
noncomputable def hb2 : Stmt := (exB hd2).getD 0 (.Pass default)
def sRuleError : Str := Str.ofString "RuleError"
def sValueError : Str := Str.ofString "ValueError"
theorem hs1 : trH (sq 490 7) = [.ExceptHandler (some (.Name sRuleError (exNp hd1))) none [hb1] (exPos hd1)] := by kernel_rfl
theorem hs2 : trH (sq 490 10) = [.ExceptHandler (some (.Name sValueError (exNp hd2))) none [hb2] (exPos hd2)] := by kernel_rfl
def exprP : Expr → Pos
  | .UnaryOp _ _ p => p
  | .Name _ p => p
  | .Compare _ _ _ p => p
  | .List _ p => p
  | .Constant _ _ p => p
  | _ => default
def stP : Stmt → Pos
  | .Return _ p => p
  | _ => default
def cmR : Expr → Expr
  | .Compare _ _ (r :: _) _ => r
  | _ => .Constant .none 0 default
def lsE : Expr → List Expr
  | .List es _ => es
  | _ => []
def cnK : Expr → Nat
  | .Constant _ k _ => k
  | _ => 0
noncomputable def h2e (i : Nat) : Expr := (lsE (cmR (reV hb2))).getD i (.Constant .none 0 default)
theorem hb1_is : hb1 = .Return (some (.UnaryOp .Not (.Name sTaken (exprP (unX (reV hb1)))) (exprP (reV hb1)))) (stP hb1) := by kernel_rfl
theorem hb2_is : hb2 = .Return (some (.Compare (.Name sOther (exprP (cmL (reV hb2)))) [.In] [.List [.Constant (.str sFew) (cnK (h2e 0)) (exprP (h2e 0)), .Constant (.str sThree) (cnK (h2e 1)) (exprP (h2e 1))] (exprP (cmR (reV hb2)))] (exprP (reV hb2)))) (stP hb2) := by kernel_rfl
theorem kTaken : (Fq 490).scope.names.lookup sTaken = some .local := by kernel_rfl
theorem kOther : (Fq 490).scope.names.lookup sOther = some .local := by kernel_rfl
theorem kRuleError : (Fq 490).scope.names.lookup sRuleError = some .globalImplicit := by kernel_rfl
theorem kValueError : (Fq 490).scope.names.lookup sValueError = some .globalImplicit := by kernel_rfl
section
variable {M : Fm} {A : Around} {Q : Flow → Shared → Prop} {E : Value → Shared → Prop} {h' : Heap} {m : Str → Option Value} {s : Shared}
/-- return not taken -/
theorem handler1 (F : Fr M.h₀ M.L s.heap m) (hm : m sTaken = some (.bool false)) (hQ : Q (.ret (.bool true)) s) : wpAny M.Mo A (execs [hb1] M.env) Q E s := by
  rw [execs_cons, hb1_is, exec_Return_some]
  refine wpAny_bind (wpAny_bind (wpAny_standAt (wpAny_bind ?_)))
  rw [arm_eval_UnaryOp]
  refine wpAny_bind (nameX_L (cl := []) F hm ?_ lawKind kTaken rfl)
  refine wpAny_bind (wpAny_standAt (wpAny_holding (not_value (wpAny_truthy_bool ?_))))
  exact wpAny_pure (wpAny_pure hQ)
/-- return other in [..] -/
theorem handler2 (hu : A.units ≤ 100) {o : Str} {t : Tok} (ho : o ∈ [sFew, sThree]) (F : Fr M.h₀ M.L s.heap m) (hm : m sOther = some (.str o t))
    (hQ : ∀ h' tk, Fr M.h₀ M.L h' m → (∀ b q, s.heap.get? b = some q → h'.get? b = some q) → Q (.ret (.bool true)) { s with heap := h', toks := tk }) : wpAny M.Mo A (execs [hb2] M.env) Q E s := by
  rw [execs_cons, hb2_is, exec_Return_some]
  refine wpAny_bind (wpAny_bind (wpAny_standAt (wpAny_bind ?_)))
  rw [eval_Compare1, markedBehindIn_of_false (by rfl)]
  refine wpAny_bind (nameX_L (cl := []) F hm ?_ lawKind kOther rfl)
  refine wpAny_bind (wpAny_holding ?_)
  rw [arm_eval_List]
  refine wpAny_bind (wpAny_standAt ?_)
  refine wpAny_bind ?_
  show wpAny _ _ (do
    let v ← eval (.Constant (.str sFew) (cnK (h2e 0)) (exprP (h2e 0))) M.env
    let here ← (Pure.pure [v] : Sem (List Value))
    return here ++ (← holding here (spliced (backTo (exprP (cmR (reV hb2))) (starEach [.Constant (.str sThree) (cnK (h2e 1)) (exprP (h2e 1))] M.env))))) _ _ _
  refine wpAny_bind (wpAny_Constant_str ?_)
  show wpAny _ _ (holding [Value.str sFew s.toks] (spliced (backTo (exprP (cmR (reV hb2))) (starEach [.Constant (.str sThree) (cnK (h2e 1)) (exprP (h2e 1))] M.env))) >>= fun vs => Pure.pure ([Value.str sFew s.toks] ++ vs)) _ _ _
  refine wpAny_bind (wpAny_holding ?_)
  show wpAny _ _ (do
    let v ← eval (.Constant (.str sThree) (cnK (h2e 1)) (exprP (h2e 1))) M.env
    let here ← (Pure.pure [v] : Sem (List Value))
    return here ++ (← holding here (spliced (backTo (exprP (cmR (reV hb2))) (starEach [] M.env))))) _ _ _
  refine wpAny_bind (wpAny_Constant_str ?_)
  show wpAny _ _ (holding [Value.str sThree (s.toks + 1)] (spliced []) >>= fun vs => Pure.pure ([Value.str sThree (s.toks + 1)] ++ vs)) _ _ _
  refine wpAny_bind (wpAny_holding (spliced_nil (wpAny_pure (wpAny_pure (wpAny_newList ?_ (by show 2 ≤ sizeLine; decide))))))
  refine wpAny_bind (wpAny_standAt (wpAny_operateT ?_))
  have hk : ∀ b q, s.heap.get? b = some q → (s.heap.push { cls := .type "list", data := .seq ([Value.str sFew s.toks] ++ ([Value.str sThree (s.toks + 1)] ++ [])).toArray }).get? b = some q := fun b q e => Heap.get?_push_of_some _ e
  refine SeqAt.in_list_reads (xs := [.str sFew, .str sThree]) (d := .str o) (Reads.list (Heap.get?_push_size _ rfl) rfl rfl (.cons (.str _ _) (.cons (.str _ _) .nil))) (.str _ _) (by decide +kernel) ?_ ?_ ?_
  · simp only [List.mem_cons, List.not_mem_nil, or_false] at ho
    rcases ho with rfl | rfl <;> decide +kernel
  · have : min (PyData.depthAll [.str sFew, .str sThree]) (PyData.str o).depth ≤ 5 := Nat.le_trans (Nat.min_le_left _ _) (by decide +kernel)
    have : 106 < cLine := by decide
    omega
  · have hb : (([.str sFew, .str sThree] : List V).any fun y => PyData.eqv y (.str o)) = true := by
      simp only [List.mem_cons, List.not_mem_nil, or_false] at ho
      rcases ho with rfl | rfl <;> decide +kernel
    rw [hb]
    exact wpAny_pure (wpAny_pure (hQ _ _ (F.keeps hk) hk))
end
end Rk
end
section
open PySem PySem.W PyProof.Rows PySem.Calls Mine
set_option maxRecDepth 100000
set_option maxHeartbeats 400000
namespace Rk
def ifeT : Expr → Expr
  | .IfExp t _ _ _ => t
  | _ => .Constant .none 0 default
def ifeB : Expr → Expr
  | .IfExp _ b _ _ => b
  | _ => .Constant .none 0 default
def ifeO : Expr → Expr
  | .IfExp _ _ o _ => o
  | _ => .Constant .none 0 default
def exP2 : Expr → Pos
  | .IfExp _ _ _ p => p
  | .Subscript _ _ p => p
  | .Slice _ _ _ p => p
  | .Call _ _ _ p => p
  | e => exprP e
def asT : Stmt → Expr
  | .Assign (t :: _) _ _ => t
  | _ => .Constant .none 0 default
def asP : Stmt → Pos
  | .Assign _ _ p => p
  | _ => default
def slL : Expr → Expr
  | .Slice (some l) _ _ _ => l
  | _ => .Constant .none 0 default
def slH : Expr → Expr
  | .Slice _ (some h) _ _ => h
  | _ => .Constant .none 0 default
noncomputable def x0 : Expr := asV (sq 490 0)
noncomputable def x2 : Expr := asV (sq 490 2)
theorem sq0_is : sq 490 0 = .Assign [asT (sq 490 0)] (.IfExp (.Name sScript (exP2 (ifeT x0))) (.Subscript (.Name sScript (exP2 (subV (ifeB x0)))) (.Constant (.int 0) (cnK (subS (ifeB x0))) (exP2 (subS (ifeB x0)))) (exP2 (ifeB x0))) (.Constant (.int 1) (cnK (ifeO x0)) (exP2 (ifeO x0))) (exP2 x0)) (asP (sq 490 0)) := by kernel_rfl
def sLen : Str := Str.ofString "len"
theorem sq2_is : sq 490 2 = .Assign [asT (sq 490 2)] (.IfExp (.Compare (.Call (.Name sLen (exP2 (callF (cmL (ifeT x2))))) [.Name sScript (exP2 (arg0 (cmL (ifeT x2))))] [] (exP2 (cmL (ifeT x2)))) [.Gt] [.Constant (.int 2) (cnK (cmR (ifeT x2))) (exP2 (cmR (ifeT x2)))] (exP2 (ifeT x2)))
    (.Subscript (.Name sScript (exP2 (subV (ifeB x2)))) (.Slice (some (.Constant (.int 1) (cnK (slL (subS (ifeB x2)))) (exP2 (slL (subS (ifeB x2)))))) (some (.Constant (.int 9) (cnK (slH (subS (ifeB x2)))) (exP2 (slH (subS (ifeB x2)))))) none (exP2 (subS (ifeB x2)))) (exP2 (ifeB x2)))
    (ifeO x2) (exP2 x2)) (asP (sq 490 2)) := by kernel_rfl
theorem tgt0 : plainT (asT (sq 490 0)) = true := by kernel_rfl
theorem tgt2 : plainT (asT (sq 490 2)) = true := by kernel_rfl
section
variable {M : Fm}
abbrev Fm.sp (M : Fm) : PV := .cst (.ref M.a0)
def set0 (is : List Int) : Int := match is with
  | [] => 1
  | a :: _ => a
theorem scL {pr : List Str} {pv : List (Str × Value)} {EP : Value → Value → Shared → Prop} {W : Wd} {σ : St} {s : Shared} {m : Str → Option Value} {news : Led} (ok : M.Ok) (I : InvX (M.cx pr pv EP) W σ s m news) : s.heap.IsList M.a0 M.vs.toArray := ⟨_, I.fr.keep _ _ ok.lst, rfl, _, rfl⟩
theorem vlen (ok : M.Ok) : M.vs.length = M.is.length := by rw [ok.isInts.length]; exact List.length_map ..
variable {pr : List Str} {pv : List (Str × Value)} {EP : Value → Value → Shared → Prop} {W : Wd} {σ : St}
theorem script_sat (okX : (M.cx pr pv EP).Ok) {pos : Pos} (h : nameE T02 (Fp pr) sScript σ = .ok M.sp σ) : Sat (M.cx pr pv EP) W (eval (.Name sScript pos) (M.cx pr pv EP).env) σ (.ok M.sp σ : Out PV) := by
  have := nameE_sat (W := W) (σ := σ) (x := sScript) (pos := pos) okX (A02 M.w.params).tb
  rw [h] at this; exact this
theorem truth_sat (ok : M.Ok) {v : Value} (r : Rep W M.sp v) : Sat (M.cx pr pv EP) W (truthy v) σ (.ok (!M.is.isEmpty) σ : Out Bool) := by
  cases r
  refine Sat.pr rfl fun s m news I Q q => wpAny_truthy_list (scL ok I) (by have := vlen ok; have := ok.len; rw [List.size_toArray]; omega) (q _ _ ?_)
  show (!M.is.isEmpty) = !M.vs.toArray.isEmpty
  rw [emp_of (vlen ok)]
theorem x0_sat (ok : M.Ok) (okX : (M.cx pr pv EP).Ok) (h : nameE T02 (Fp pr) sScript σ = .ok M.sp σ) {p1 p2 p3 p4 p5 p6 : Pos} {k0 k1 : Nat} :
    Sat (M.cx pr pv EP) W (eval (.IfExp (.Name sScript p1) (.Subscript (.Name sScript p2) (.Constant (.int 0) k0 p3) p4) (.Constant (.int 1) k1 p5) p6) (M.cx pr pv EP).env) σ (.ok (.v (.int (set0 M.is))) σ : Out PV) := by
  rw [arm_eval_IfExp]
  refine Sat.bind (β := Bool) (o := .ok (!M.is.isEmpty) σ) (g := fun _ σ => (Out.ok (PV.v (.int (set0 M.is))) σ : Out PV)) ?_ fun W₁ c c' σ₁ le rc e => ?_
  · rw [show isTrue (.Name sScript p1) (M.cx pr pv EP).env (eval (.Name sScript p1) (M.cx pr pv EP).env) = (do let v ← eval (.Name sScript p1) (M.cx pr pv EP).env; standAt p1; holding [v] (truthy v)) from rfl]
    exact Sat.bindV (script_sat okX h) (g := fun _ σ => (Out.ok (!M.is.isEmpty) σ : Out Bool)) fun W₁ p v σ₁ le₁ r e => by
      cases e
      exact Sat.standAt (Sat.holding (truth_sat ok r))
  · cases e
    have hc : (!M.is.isEmpty) = c' := rc
    subst hc
    cases his : M.is with
    | nil =>
      exact constE_sat (c := .int 1) (k := k1) (pos := p5)
    | cons a r =>
      show Sat (M.cx pr pv EP) W₁ (do
        let o ← eval (.Name sScript p2) (M.cx pr pv EP).env
        let i ← holding [o] (eval (.Constant (.int 0) k0 p3) (M.cx pr pv EP).env)
        PySem.standAt p4
        subscriptTail (.Name sScript p2) (.Constant (.int 0) k0 p3) o i) σ (Out.ok (PV.v (.int a)) σ : Out PV)
      refine Sat.bindV (script_sat okX h) (g := fun _ σ => (Out.ok (PV.v (.int a)) σ : Out PV)) fun W₂ p v σ₂ le₂ r2 e => ?_
      cases e
      refine Sat.bindV (Sat.holding (constE_sat (c := .int 0) (k := k0) (pos := p3))) (g := fun _ σ => (Out.ok (PV.v (.int a)) σ : Out PV)) fun W₃ p' v' σ₃ le₃ r3 e => ?_
      cases e
      have r2 := r2.up le₃
      cases r2
      cases r3 with | v r3 => cases r3 with | int _ u =>
      refine Sat.standAt (Sat.pr rfl fun s m news I Q q => ?_)
      have hi := ok.isInts
      rw [his] at hi
      obtain ⟨v0, e0, rv⟩ := hi.get (i := 0) (p := .int a) rfl
      exact item_sat (X := M.cx pr pv EP) rfl (.inl (scL ok I)) (show atI M.vs 0 = some v0 from e0) (q _ s.toks (.v (rv.up fun p hp => by cases hp)))
theorem slice_sat (ok : M.Ok) {x : Str} {px pos spos : Pos} {lo hi : Option Expr} {l u : PV} {lv uv : Value} {a b : Option Int} (hl : partOf l = some a) (hu : partOf u = some b) (rl : Rep W l lv) (ru : Rep W u uv) :
    Sat (M.cx pr pv EP) W (newFields "slice" [lv, uv, .none] >>= fun j => PySem.standAt pos >>= fun _ => subscriptTail (.Name x px) (.Slice lo hi none spos) (.ref M.a0) j) σ (.ok (.v (.list (pickV (intsV M.is) a b))) σ : Out PV) := by
  have hz : M.vs.length ≤ sizeLine := by have := vlen ok; have := ok.len; have : 63 ≤ sizeLine := by decide
                                         omega
  refine Sat.mk (H' := σ.H) rfl fun s m news I Q h => ?_
  refine wpAny_bind (wpAny_newObj_type (wpAny_bind (wpAny_standAt ?_)))
  refine kms_slice_lit (its := M.vs.toArray) I.fr I.nw (scL ok I) (partOf_is rl hl) (partOf_is ru hu) rfl (fun D h' F' N' hlt => ?_) rfl (fun _ => rfl) (by simpa using hz)
  have hz' : (kms_pick M.vs a b).length ≤ sizeLine := by
    unfold kms_pick
    rw [List.length_take, List.length_drop]; omega
  have hD : ∀ q ∈ news, q.1 ≠ D := fun q hq => Nat.ne_of_lt (hlt q hq)
  have J := I.addEx (o := listOf (kms_pick M.vs a b).toArray 0) s.toks hD F' N'
  have le : W.Le ⟨W.mu, (D, listOf (kms_pick M.vs a b).toArray 0) :: W.fro, W.ex, W.P⟩ := ⟨fun _ _ e => e, fun q hq => .tail _ hq, rfl, rfl⟩
  refine h _ _ ⟨W.mu, (D, listOf (kms_pick M.vs a b).toArray 0) :: W.fro, W.ex, W.P⟩ m _ le (.v (.lst (.head _) ((ok.isInts.pick a b).up fun p hp => by cases hp) hz')) ⟨F', N', J.nd, ⟨I.hr.len, I.hr.nd, ?_, ?_, J.hr.own, ?_, ?_, I.hr.hol.fro hD⟩, fun y q e => ?_, I.os, I.gens, I.P⟩
  · intro q hq
    rcases List.mem_cons.mp hq with rfl | hq
    · exact .head _
    · exact .tail _ (I.hr.fro q hq)
  · intro q hq
    refine ⟨.tail _ (I.hr.exs q hq).1, (I.hr.exs q hq).2.1, fun y hy => ?_⟩
    rcases List.mem_cons.mp hy with rfl | hy
    · exact fun (e : D = q.1) => hD q (I.hr.exs q hq).1 e.symm
    · exact (I.hr.exs q hq).2.2 y hy
  · intro i y b' hi hlv hb
    obtain ⟨o, ho, hx⟩ := I.hr.at_ i y b' hi hlv hb
    exact ⟨o, .tail _ ho, hx.up le⟩
  · intro i y b' hi hlv hb q hq
    rcases List.mem_cons.mp hq with rfl | hq
    · obtain ⟨o, ho, _⟩ := I.hr.at_ i y b' hi hlv hb
      exact fun (e : D = b') => hD _ ho e.symm
    · exact I.hr.apart i y b' hi hlv hb q hq
  · obtain ⟨v, hv, r⟩ := I.loc y q e
    exact ⟨v, hv, r.up le⟩
end
end Rk
end
section
open PySem PySem.W PyProof.Rows PySem.Calls Mine
set_option maxRecDepth 100000
set_option maxHeartbeats 400000
namespace Rk
section
variable {M : Fm} {pr : List Str} {pv : List (Str × Value)} {EP : Value → Value → Shared → Prop} {W : Wd} {σ : St}
noncomputable def kLen (M : Fm) (as : List PV) (σ : St) : Out PV := match as with
  | [.cst (.ref b)] => (match decide (b = M.a0) with
    | true => .ok (.v (.int (M.is.length : Nat))) σ
    | false => .no)
  | _ => .no
theorem len_sat (ok : M.Ok) (okX : (M.cx pr pv EP).Ok) (hlen : nameE T02 (Fp pr) sLen σ = .ok (.cst (.builtin "len")) σ) {np pos p : Pos} (hevs : evs (R 5) (Fp pr) [.Name sScript p] σ = .ok [M.sp] σ) :
    Sat (M.cx pr pv EP) W (eval (.Call (.Name sLen np) [.Name sScript p] [] pos) (M.cx pr pv EP).env) σ (.ok (.v (.int (M.is.length : Nat))) σ : Out PV) := by
  have S := (run_got (A02 M.w.params) (Z02_ok M.w.params) 5 (M.cx pr pv EP) okX (by show 5 ≤ 100; decide)).1
  rw [call_arm (func := .Name sLen np) rfl]
  have hn := nameE_sat (W := W) (σ := σ) (x := sLen) (pos := np) okX (A02 M.w.params).tb
  rw [hlen] at hn
  refine Sat.bindV (g := fun _ σ => (Out.ok (PV.v (.int (M.is.length : Nat))) σ : Out PV)) hn fun W₁ p' a σ₁ le₁ r e => ?_
  cases e
  cases r
  have hc := callWith_sat (W := W₁) (σ := σ) (pos := pos) (f := .builtin "len") (first := []) (es := [.Name sScript p]) (g := kLen M) S okX rfl (known_keeps (A02 M.w.params) rfl) fun W' as vs σ' le rs => by
    unfold kLen
    split
    · rename_i b
      cases hb : decide (b = M.a0) with
      | false => exact Sat.no
      | true =>
        have hb := of_decide_eq_true hb
        subst hb
        cases rs with | cons r1 rs => cases rs with | nil => cases r1 with | cst _ =>
        refine Sat.pr rfl fun s m news I Q q => ?_
        refine call_len_list (scL ok I) (by have := vlen ok; have := ok.len; rw [List.size_toArray]; omega) (q _ _ ?_)
        rw [List.size_toArray, vlen ok]; exact .v (.int _ _)
    · exact Sat.no
  rw [hevs] at hc
  have e : (Out.ok [M.sp] σ : Out (List PV)).bind (kLen M) = .ok (.v (.int (M.is.length : Nat))) σ := by
    show (match decide (M.a0 = M.a0) with | true => (.ok (.v (.int (M.is.length : Nat))) σ : Out PV) | false => .no) = _
    rw [decide_eq_true rfl]
  rw [e] at hc
  exact hc
theorem x2_sat (ok : M.Ok) (okX : (M.cx pr pv EP).Ok) (hsc : nameE T02 (Fp pr) sScript σ = .ok M.sp σ) (hlen : nameE T02 (Fp pr) sLen σ = .ok (.cst (.builtin "len")) σ) {p1 p2 p3 p4 p5 p6 p7 p8 p9 pa pb : Pos} {k0 k1 k2 : Nat}
    (hevs : evs (R 5) (Fp pr) [.Name sScript p2] σ = .ok [M.sp] σ) (hdis : (R 5).ev (Fp pr) (ifeO x2) σ = .ok (.v (.list [.int 4, .int 6])) σ) :
    Sat (M.cx pr pv EP) W (eval (.IfExp (.Compare (.Call (.Name sLen p1) [.Name sScript p2] [] p3) [.Gt] [.Constant (.int 2) k0 p4] p5) (.Subscript (.Name sScript p6) (.Slice (some (.Constant (.int 1) k1 p7)) (some (.Constant (.int 9) k2 p8)) none p9) pa) (ifeO x2) pb) (M.cx pr pv EP).env) σ (.ok (.v (.list (numsV M.is))) σ : Out PV) := by
  have S := (run_got (A02 M.w.params) (Z02_ok M.w.params) 5 (M.cx pr pv EP) okX (by show 5 ≤ 100; decide)).1
  rw [arm_eval_IfExp]
  refine Sat.bind (β := Bool) (o := .ok (decide (2 < M.is.length)) σ) (g := fun _ σ => (Out.ok (PV.v (.list (numsV M.is))) σ : Out PV)) ?_ fun W₁ c c' σ₁ le rc e => ?_
  · rw [isTrue_Compare1, markedBehindIn_of_false (by rfl)]
    refine Sat.bindV (g := fun _ σ => (Out.ok (decide (2 < M.is.length)) σ : Out Bool)) (len_sat ok okX hlen hevs) fun W₁ p a σ₁ le₁ ra e => ?_
    cases e
    refine Sat.bindV (g := fun _ σ => (Out.ok (decide (2 < M.is.length)) σ : Out Bool)) (Sat.holding (constE_sat (c := .int 2) (k := k0) (pos := p4))) fun W₂ q b σ₂ le₂ rb e => ?_
    cases e
    refine Sat.standAt ?_
    have h := cmpE_sat (σ := σ) (op := .Gt) okX (A02 M.w.params).tb (ra.up le₂) rb
    have e2 : cmpE T02 .Gt (.v (.int (M.is.length : Nat))) (.v (.int 2)) σ.H = some (decide (2 < M.is.length)) := by
      show some (decide ((M.is.length : Int) > 2)) = _
      congr 1
      by_cases h : 2 < M.is.length
      · rw [decide_eq_true h]; exact decide_eq_true (by omega)
      · rw [decide_eq_false h]; exact decide_eq_false (by omega)
    rw [e2] at h
    have := Sat.bindV (g := fun p σ => okO (truE σ.H p) σ) (Sat.operate (vs := [a, b]) h) fun W₃ p' c' σ₃ le₃ rc _ => Sat.holding (vs := [c']) (truE_sat (σ := σ₃) rc)
    exact this
  · cases e
    have hc : decide (2 < M.is.length) = c' := rc
    subst hc
    cases hd : decide (2 < M.is.length) with
    | false =>
      have hn : numsV M.is = [.int 4, .int 6] := by unfold numsV; rw [hd]
      rw [hn]
      have := S.ev W₁ σ (ifeO x2)
      rw [hdis] at this
      exact this
    | true =>
      have hn : numsV M.is = pickV (intsV M.is) (some 1) (some 9) := by unfold numsV; rw [hd]
      rw [hn]
      show Sat (M.cx pr pv EP) W₁ (eval (.Subscript (.Name sScript p6) (.Slice (some (.Constant (.int 1) k1 p7)) (some (.Constant (.int 9) k2 p8)) none p9) pa) (M.cx pr pv EP).env) σ _
      rw [sub_slice_name]
      refine Sat.bindV (g := fun _ σ => (Out.ok (PV.v (.list (pickV (intsV M.is) (some 1) (some 9)))) σ : Out PV)) (script_sat okX hsc) fun W₂ p v σ₂ le₂ r2 e => ?_
      cases e
      cases r2
      refine Sat.holdBind ?_
      try simp only [bind_assoc]
      refine Sat.bindV (g := fun _ σ => (Out.ok (PV.v (.list (pickV (intsV M.is) (some 1) (some 9)))) σ : Out PV)) (constE_sat (c := .int 1) (k := k1) (pos := p7)) fun W₃ l lv σ₃ le₃ r3 e => ?_
      cases e
      refine Sat.holdBind ?_
      try simp only [bind_assoc]
      refine Sat.bindV (g := fun _ σ => (Out.ok (PV.v (.list (pickV (intsV M.is) (some 1) (some 9)))) σ : Out PV)) (constE_sat (c := .int 9) (k := k2) (pos := p8)) fun W₄ u uv σ₄ le₄ r4 e => ?_
      cases e
      refine Sat.holdBind ?_
      try simp only [bind_assoc]
      exact slice_sat ok (a := some 1) (b := some 9) rfl rfl (r3.up le₄) r4
/-- an assignment whose value is known -/
theorem go_asg {F : Fn} {X : Cx G02 F} {Q : Flow → Shared → Prop} {E : Value → Shared → Prop} {rest : List Stmt} (okX : X.Ok) (hd : 5 ≤ X.dep) {W : Wd} {σ σ' : St} {s : Shared} {t e : Expr} {pos : Pos} {p : PV} (he : notComp e = true) (ht : plainT t = true)
    (hs : ∀ W, Sat X W (eval e X.env) σ (.ok p σ : Out PV)) (ha : asgE T02 (R 5) F t p σ = .ok () σ') (I : Inv X W σ s) (k : ∀ W' s', W.Le W' → Inv X W' σ' s' → wpAny X.M X.A (execs rest X.env) Q E s') :
    wpAny X.M X.A (execs (.Assign [t] e pos :: rest) X.env) Q E s := by
  have S := (run_got (A02 X.w.params) (Z02_ok X.w.params) 5 X okX hd).1
  have hst : Sat X W (exec (.Assign [t] e pos) X.env) σ (.ok .next σ' : Out AFlow) := by
    rw [assign_arm he ht]
    refine Sat.standAt (Sat.bindV (g := fun _ _ => (Out.ok AFlow.next σ' : Out AFlow)) (hs W) fun W₁ p' a σ₁ le r e => ?_)
    cases e
    have h := Sat.then_ (o' := fun σ => (.ok .next σ : Out AFlow)) (asgE_sat (σ := σ) (t := t) S okX (A02 X.w.params).cls r) fun W' σ' _ => Sat.pure (α := Flow) (β := AFlow) (show FRep W' .next .next from .next)
    rw [ha] at h
    exact h
  rw [execs_cons]
  refine wpAny_bind (wpAny_mono (hst (by intro h; cases h) s I) (fun f s' ⟨W', b, σ'', le, e, rf, I'⟩ => ?_) fun v s' ⟨c, e, _⟩ => by cases e)
  cases e
  cases rf
  exact k W' s' le I'
end
end Rk
end
section
open PySem PySem.W PyProof.Rows PySem.Calls Mine
set_option maxRecDepth 100000
set_option maxHeartbeats 400000
namespace Rk
def tyP : Stmt → Pos
  | .Try _ _ _ _ p => p
  | _ => default
theorem sq7_is : sq 490 7 = .Try [try1] [.ExceptHandler (some (.Name sRuleError (exNp hd1))) none [hb1] (exPos hd1)] [] [] (tyP (sq 490 7)) := by kernel_rfl
theorem sq10_is : sq 490 10 = .Try [try2] [.ExceptHandler (some (.Name sValueError (exNp hd2))) none [hb2] (exPos hd2)] [] [] (tyP (sq 490 10)) := by kernel_rfl
theorem body_is : (fq 490).body = sq 490 0 :: sq 490 1 :: sq 490 2 :: (law36 ++ (sq 490 7 :: [sq 490 8, sq 490 9, sq 490 10, sq 490 11])) := by kernel_rfl
def excBm : List Value := [.type "Exception", .type "BaseException", .type "object"]
theorem kExc (P : Params) : nsIn (K02 P) mainGlobals sRuleError = some (some (.ref 103)) := by kernel_rfl
theorem kExcIn (P : Params) : excIn (K02 P) 103 excBm "Exception.__new__" = true := by kernel_rfl
section
variable {M : Fm}
/-- what is left when the law ends -/
structure Done (M : Fm) (s : Shared) : Prop where
  fr : ∃ m, Fr M.h₀ M.L s.heap m
  nw : ∃ news, News M.h₀ M.L s.heap news ∧ HolIn news
  os : s.os = M.os
  gens : AllBare s.gens
theorem Done.of {pr : List Str} {pv : List (Str × Value)} {EP : Value → Value → Shared → Prop} {W : Wd} {σ : St} {s : Shared} (I : Inv (M.cx pr pv EP) W σ s) : Done M s := by
  obtain ⟨m, news, J⟩ := I
  exact ⟨⟨m, J.fr⟩, ⟨news, J.nw, J.hr.hol.in_⟩, J.os.1, J.gens⟩
theorem quiet_any (ok : M.Ok) (pr : List Str) : (M.cx pr [] (EPq M)).Ok :=
  cx_ok ok (fun _ => PassesOwn.leaving (Q₁ := fun _ _ => True)) (fun q hq => by cases hq)
    (fun _ c e vs h s m news F N hn hx _ _ => leave_raiseK (news := []) (below_caller M.h₀) hx F News.nil (fun h' t R sm => trivial) lawKind)
    (fun c e g s m news _ F hn R sm _ _ => leave_onN (below_caller M.h₀) F R sm fun h' R' sm' => trivial)
theorem to_quiet {F : Fn} {X : Cx G02 F} {pr : List Str} {W : Wd} {σ : St} {s : Shared} (h1 : M.h₀ = X.h₀) (h2 : M.L = X.L) (h3 : M.os = X.os) (h4 : M.w = X.w) (I : Inv X W σ s) : Inv (M.cx pr [] (EPq M)) W σ s := by
  obtain ⟨m, news, J⟩ := I
  exact ⟨m, news, retext h1 h2 h3 h4 J fun q hq => by cases hq⟩
variable {Q : Flow → Shared → Prop} {E : Value → Shared → Prop}
/-- a block that a try holds, where nothing is raised -/
theorem try_quiet (ok : M.Ok) {pr : List Str} {st : Stmt} {W : Wd} {σ σ' : St} {s : Shared} {E' : Value → Shared → Prop} {Q' : Flow → Shared → Prop} (h : stL pr (R 90) st σ = .ok .next σ') (I : Inv (M.cx pr [] (EPq M)) W σ s)
    (k : ∀ W' s', Inv (M.cx pr [] (EPq M)) W' σ' s' → Q' .next s') : wpAny M.Mo M.A (execs [st] M.env) (fun f s₁ => match f with
      | .next => wpAny M.Mo M.A (execs [] M.env) Q' E s₁
      | f => Q' f s₁) E' s := by
  refine go_next (X := M.cx pr [] (EPq M)) (quiet_any ok pr) (n := 90) (by show 90 ≤ 100; decide) h I fun W' s' _ I' => ?_
  exact wpAny_pure (wpAny_pure (k W' s' I'))
/-- a block that a try holds, where an exception is raised -/
theorem try_raises {pr : List Str} {pv : List (Str × Value)} {C : Value} {hs : List ExceptHandler} {st : Stmt} {W : Wd} {σ : St} {s : Shared} {Q' : Flow → Shared → Prop} (okX : (M.cx pr pv (EPc M C hs Q' E)).Ok) (h : stL pr (R 90) st σ = .exc C) (I : Inv (M.cx pr pv (EPc M C hs Q' E)) W σ s) :
    wpAny M.Mo M.A (execs [st] M.env) (fun f s₁ => match f with
      | .next => wpAny M.Mo M.A (execs [] M.env) Q' E s₁
      | f => Q' f s₁) (fun e s₁ => wpAny M.Mo M.A (noteFrame e M.env) (fun _ s₂ => wpAny M.Mo M.A (setFlight e none) (fun _ s₃ => wpAny M.Mo M.A (handleBy e M.env hs) Q' E s₃) E s₂) E s₁) s := by
  rw [execs_cons]
  refine wpAny_bind (wpAny_mono (sat_st (X := M.cx pr pv (EPc M C hs Q' E)) okX (n := 90) (by show 90 ≤ 100; decide) (by show stL pr (R 90) st σ ≠ .no; rw [h]; intro e; cases e) s I) (fun f s' ⟨W', b, σ'', le, e, rf, I'⟩ => ?_) fun v s' ⟨c, e, q⟩ => ?_)
  · have e : stL pr (R 90) st σ = .ok b σ'' := e
    rw [h] at e; cases e
  · have e : stL pr (R 90) st σ = .exc c := e
    rw [h] at e; cases e
    exact wpAny_mono q (fun _ _ h => h rfl) fun _ _ h => h
/-- the law, in its frame -/
theorem law_runs (ok : M.Ok) (hE : ∀ e, PassesOwnAt M.Mo (M.A.mark (some (.ref e))) M.A M.env E) (hQ : ∀ s', Done M s' → Q (.ret (.bool true)) s') {W₀ : Wd} {s : Shared} (I₀ : Inv (M.cx [] [] (EPq M)) W₀ ⟨lw0 M.sp, []⟩ s) : wpAny M.Mo M.A (execs (fq 490).body M.env) Q E s := by
  have ok1 := quiet_any ok []
  rw [body_is, sq0_is]
  refine go_asg (X := M.cx [] [] (EPq M)) (σ' := ⟨lw1 M.sp (set0 M.is), []⟩) ok1 (by show 5 ≤ 100; decide) rfl tgt0 (fun W => x0_sat ok ok1 (by kernel_rfl)) (by kernel_rfl) I₀ fun W1 s1 _ I1 => ?_
  obtain ⟨ws0, hl0, h1⟩ := la_1 0 M.sp (set0 M.is)
  refine go_next (X := M.cx [] [] (EPq M)) ok1 (n := 13) (by show 13 ≤ 100; decide) h1 I1 fun W2 s2 _ I2 => ?_
  rw [sq2_is]
  refine go_asg (X := M.cx [] [] (EPq M)) (σ' := ⟨lw3 M.sp (set0 M.is) (wl ws0) (numsV M.is), []⟩) ok1 (by show 5 ≤ 100; decide) rfl tgt2 (fun W => x2_sat ok ok1 (by kernel_rfl) (by kernel_rfl) (by kernel_rfl) (by kernel_rfl)) (by kernel_rfl) I2 fun W3 s3 _ I3 => ?_
  obtain ⟨ws, k, p, w, d, x, kept, hx, h3⟩ := law_pre 0 M.sp (set0 M.is) ws0 hl0 M.is
  refine go_block (X := M.cx [] [] (EPq M)) ok1 (n := 60) (by show 60 ≤ 100; decide) law36 W3 _ s3 h3 I3 fun W4 s4 _ I4 => ?_
  generalize set0 M.is = a at I4
  generalize numsV M.is = ns at I4
  rw [execs_cons, sq7_is]
  refine wpAny_bind (wpAny_Try_except ?_)
  cases ht : pText kept with
  | none =>
    have hu := untaken_of hx ht
    rw [hu] at I4
    obtain ⟨H, h7⟩ := try1_run M.sp a ws ns k p w d 0 hx false
    rw [ht] at h7
    obtain ⟨m, news, J⟩ := I4
    obtain ⟨v, hv, rv⟩ := J.loc sTaken (.v (.bool false)) (by kernel_rfl)
    have hv : m sTaken = some (.bool false) := by cases rv with | v rv => cases rv; exact hv
    refine try_raises (pr := [sTaken]) (pv := [(sTaken, .bool false)]) (W := W4) (σ := ⟨lTk M.sp a ws ns k p w d x (wl kept) false, []⟩) (caught_ok ok fun e g s m news hm F hn R sm ho hg => ?_) h7 ⟨m, news, retext (X := M.cx [] [] (EPq M)) (Y := M.cx [sTaken] [(sTaken, .bool false)] _) rfl rfl rfl rfl J fun q hq => ?_⟩
    · refine caught_R (below_caller M.h₀) F sm R ok.kin (topRead_of ok.top) (kExc M.w.params) (kExcIn M.w.params) rfl (fun h' F' N' => ?_) lawKind kRuleError rfl (hE e)
      exact handler1 (m := m) F' hm (wpAny_pure (hQ _ ⟨⟨m, F'⟩, ⟨news, N', hn⟩, ho, hg⟩))
    · rw [List.mem_singleton] at hq; subst hq; exact hv
  | some y =>
    have hu := taken_of hx ht
    rw [hu] at I4
    obtain ⟨H, h7⟩ := try1_run M.sp a ws ns k p w d 0 hx true
    rw [ht] at h7
    refine try_quiet ok (pr := [sTaken]) h7 (to_quiet rfl rfl rfl rfl I4) fun W5 s5 I5 => ?_
    obtain ⟨W6, _, _, I6⟩ := forget (by kernel_rfl) I5
    have I6 : Inv (M.cx [] [] (EPq M)) W6 _ s5 := to_quiet rfl rfl rfl rfl I6
    show wpAny M.Mo M.A (execs [sq 490 8, sq 490 9, sq 490 10, sq 490 11] M.env) Q E s5
    refine go_next (X := M.cx [] [] (EPq M)) ok1 (n := 20) (by show 20 ≤ 100; decide) (la_8 M.sp a ws ns k p w d 0 x kept) I6 fun W7 s7 _ I7 => ?_
    obtain ⟨o, ho, h9⟩ := la_9 M.sp a ws ns k p w d 0 x (wl kept) true (tell1 kept)
    refine go_next (X := M.cx [] [] (EPq M)) ok1 (n := 20) (by show 20 ≤ 100; decide) h9 I7 fun W8 s8 _ I8 => ?_
    rw [execs_cons, sq10_is]
    refine wpAny_bind (wpAny_Try_except ?_)
    rcases ho with ho | ho
    · obtain ⟨H, h10⟩ := try2_ok M.sp a ws ns k p w d 0 hx ht true (tell1 kept) o ho
      refine try_quiet ok (pr := [sOther]) h10 (to_quiet rfl rfl rfl rfl I8) fun W9 s9 I9 => ?_
      obtain ⟨W10, _, _, I10⟩ := forget (by kernel_rfl) I9
      have I10 : Inv (M.cx [] [] (EPq M)) W10 _ s9 := to_quiet rfl rfl rfl rfl I10
      show wpAny M.Mo M.A (execs [sq 490 11] M.env) Q E s9
      refine go_ret (X := M.cx [] [] (EPq M)) ok1 (n := 20) (by show 20 ≤ 100; decide) (la_11 M.sp a ws ns k p w d 0 x kept true o ho) I10 fun W11 v s11 _ rv I11 => ?_
      cases rv with | v rv =>
      cases rv
      exact hQ s11 (Done.of I11)
    · have h10 := try2_bad M.sp a ws ns k p w d 0 hx ht true (tell1 kept) o ho
      obtain ⟨m, news, J⟩ := I8
      obtain ⟨v, hv, rv⟩ := J.loc sOther (.v (.str o)) (by kernel_rfl)
      obtain ⟨t, hv⟩ : ∃ t, m sOther = some (.str o t) := by cases rv with | v rv => cases rv with | str t _ _ => exact ⟨t, hv⟩
      refine try_raises (pr := [sOther]) (pv := [(sOther, .str o t)]) (W := W8) (σ := ⟨lOt M.sp a ws ns k p w d x (wl kept) true (tell1 kept) o, []⟩) (caught_ok ok fun e g s m news hm F hn R sm hos hg => ?_) h10 ⟨m, news, retext (X := M.cx [] [] (EPq M)) (Y := M.cx [sOther] [(sOther, .str o t)] _) rfl rfl rfl rfl J fun q hq => ?_⟩
      · refine caught_N0 (T' := "ValueError") (X := "ValueError") (below_caller M.h₀) F sm R (topRead_of ok.top) PyProof.Rows.Boot.«ValueError» PySem.F.isExc_ValueError PySem.F.notTuple_ValueError (by rw [isSubtype_type]; kernel_rfl) (fun h' F' N' => ?_) (by decide +kernel) (by decide +kernel) (by decide +kernel) (by decide +kernel) (by decide +kernel) (by decide +kernel) lawKind kValueError rfl (hE e)
        refine handler2 (m := m) (by show callerA.units + 3 ≤ 100; decide) ho F' hm fun h₂ tk F₂ hk => wpAny_pure (hQ _ ⟨⟨m, F₂⟩, ⟨news, fun q hq => ⟨hk _ _ (N' q hq).1, (N' q hq).2⟩, hn⟩, hos, hg⟩)
      · rw [List.mem_singleton] at hq; subst hq; exact hv
end
end Rk
end
section
open PySem PySem.W PyProof.Rows PySem.Calls Mine
set_option maxRecDepth 100000
set_option maxHeartbeats 400000
namespace Rk
def hid (h : Heap) : Heap := hideAll h [114, 79]
theorem k114 (P : Params) : (H1 P).get? 114 = some { cls := .none, data := .fields #[] } := by kernel_rfl
theorem k79 (P : Params) : (H1 P).get? 79 = some { cls := .none, data := .fields #[] } := by kernel_rfl
theorem recs1 : recsOf q1 = [] := by kernel_rfl
theorem vals1 : valNames q1 = [] := by kernel_rfl
theorem owns1 : ownsOf q1 = ownsOf q := by kernel_rfl
theorem imports1 : importsNone q1 = importsNone q := by kernel_rfl
theorem look_addr {h : Heap} {a : Addr} {o : Obj} : ∀ as : List Addr, (as.filterMap fun a => (h.get? a).map fun o => (a, o)).lookup a = some o → a ∈ as
  | [], e => by cases e
  | b :: r, e => by
    cases hb : h.get? b with
    | none =>
      rw [List.filterMap_cons, hb] at e
      exact .tail _ (look_addr r e)
    | some q =>
      rw [List.filterMap_cons, hb] at e
      dsimp only [Option.map] at e
      rw [List.lookup_cons] at e
      cases hx : a == b with
      | true => rw [eq_of_beq hx]; exact .head _
      | false => rw [hx] at e; exact .tail _ (look_addr r e)
section
variable {w : World} {h : Heap}
theorem hid_keep (B : BaseIn w h) {b : Addr} {o : Obj} (e : h.get? b = some o) (hn : o.cls ≠ .none ∨ ∀ vs, o.data ≠ .fields vs) : (hid h).get? b = some o := hideAll_get _ e fun hm => by
  have bad : ∀ c, (H1 w.params).get? c = some { cls := .none, data := .fields #[] } → b ≠ c := fun c hc hb => by
    subst hb
    have := B _ _ hc
    rw [e] at this
    cases this
    rcases hn with hn | hn
    · exact hn rfl
    · exact hn _ rfl
  simp only [List.mem_cons, List.not_mem_nil, or_false] at hm
  rcases hm with hm | hm
  · exact bad _ (k114 w.params) hm
  · exact bad _ (k79 w.params) hm
theorem ns_hid (B : BaseIn w h) {N : Addr} {m : Str → Option Value} (x : h.Ns N m) : (hid h).Ns N m := by
  obtain ⟨o, es, ep, ho, hd, r⟩ := x
  exact ⟨o, es, ep, hid_keep B ho (.inr fun vs e => by rw [hd] at e; cases e), hd, r⟩
theorem tail_hid (B : BaseIn w h) {bmB bm : List Value} (T : OwnTailQ h bmB bm) : OwnTailQ (hid h) bmB bm := by
  induction T with
  | base => exact .base
  | own hA hN hq _ ih => exact .own (hid_keep B hA (.inr fun vs e => by cases e)) (ns_hid B hN) hq ih
theorem top_hid (B : BaseIn w h) {mean : ExcName → Option Value} {mg mb : Str → Option Value} (T : Top q (looseW q loose) mean mg mb h) : Top q1 loose1 mean mg mb (hid h) where
  g := ns_hid B T.g
  b := ns_hid B T.b
  nolimit := let ⟨mc, a, b⟩ := T.nolimit; ⟨mc, ns_hid B a, b⟩
  nodigits := let ⟨mc, a, b⟩ := T.nodigits; ⟨mc, ns_hid B a, b⟩
  fn := fun d hd => by rw [recs1] at hd; cases hd
  own := fun o ho => by
    rw [owns1] at ho
    obtain ⟨C, O, hm⟩ := T.own o ho
    obtain ⟨bm, N, nm, q, bs, hdct, sn, sub, ab, col, dd, k0, k1, k2, k3, k5, mN, hC, hN, hq, TT⟩ := O.obj
    exact ⟨C, ⟨O.bound, bm, N, nm, q, bs, hdct, sn, sub, ab, col, dd, k0, k1, k2, k3, k5, mN, hid_keep B hC (.inr fun vs e => by cases e), ns_hid B hN, hq, tail_hid B TT⟩, hm⟩
  const := fun x d hv => by
    have := valOf_name hv
    rw [vals1] at this; cases this
  free := fun x h1 h2 _ _ _ => by
    unfold loose1 at h2
    simp only [List.mem_append, not_or] at h2
    exact T.free x h1 h2.1 h2.2.1 h2.2.2.1 h2.2.2.2
  builtins := T.builtins
  tab := fun d hd => by rw [recs1] at hd; cases hd
  bmain := by
    obtain ⟨bm, ob, a, b, c, d, e, f⟩ := T.bmain
    exact ⟨bm, ob, a, b, hid_keep B c (.inl (by rw [d]; intro h; cases h)), d, e, f⟩
  seer := fun hi => by
    rw [imports1] at hi
    have S := T.seer hi
    refine ⟨?_, ?_, ?_, ?_⟩
    · obtain ⟨mc, a, b⟩ := S.statics; exact ⟨mc, ns_hid B a, b⟩
    · obtain ⟨mc, a, b⟩ := S.mods; exact ⟨mc, ns_hid B a, b⟩
    · obtain ⟨mc, a, b⟩ := S.imp; exact ⟨mc, ns_hid B a, b⟩
    · obtain ⟨mg, bm, ob, a, b, c, d, e⟩ := S.main
      exact ⟨mg, bm, ob, ns_hid B a, b, hid_keep B c (.inl (by rw [d]; intro h; cases h)), d, e⟩
theorem kin_heap (B : BaseIn w h) : (K02 w.params).In h := fun b o e => B _ _ (lookup_frag _ e)
theorem kin_hid (B : BaseIn w h) : (K02 w.params).In (hid h) := fun b o e => hideAll_get _ (kin_heap B b o e) fun hm => by
  have := look_addr _ e
  simp only [List.mem_cons, List.not_mem_nil, or_false] at hm
  rcases hm with rfl | rfl
  · exact absurd this (by decide)
  · exact absurd this (by decide)
theorem table_of (B : BaseIn w h) {c p : Addr} (e : cells02.lookup c = some p) : isCodeTable h p := by
  obtain ⟨_, _, o, vs, file, tf, flags, tg, inF, text, tt, hK, hcls, hd, g11, _⟩ := cellOk02.at_ w.params c p e
  exact ⟨c, o, vs, kin_heap B _ _ hK, hcls, hd, getD_ref g11⟩
theorem oldK_of (B : BaseIn w h) {M : Fm} (hM : M.h₀ = hid h) {s : Shared} (D : Done M s) : OldK h s.heap := by
  obtain ⟨m, F⟩ := D.fr
  obtain ⟨news, N, hn⟩ := D.nw
  have hole : ∀ p ∈ holes, (H1 w.params).get? p = some { cls := .none, data := .fields #[] } → isCodeTable h p → ∀ o, h.get? p = some o → (asItWas h s.heap p o ∧ ∃ o', s.heap.get? p = some o') := fun p hp hk ht o e => by
    have := B _ _ hk
    rw [e] at this
    cases this
    obtain ⟨o', ho, ps, rfl, _⟩ := hn p hp
    exact ⟨.inr (.inl ⟨ht, rfl, #[], ps, rfl, by rw [(N _ ho).1, Array.empty_append]⟩), _, (N _ ho).1⟩
  have key : ∀ b o, h.get? b = some o → (asItWas h s.heap b o ∧ ∃ o', s.heap.get? b = some o') := fun b o e => by
    by_cases h1 : b = 114
    · subst h1; exact hole 114 (by decide) (k114 w.params) (table_of B (c := 118) rfl) o e
    · by_cases h2 : b = 79
      · subst h2; exact hole 79 (by decide) (k79 w.params) (table_of B (c := 83) rfl) o e
      · have hm : b ∉ [114, 79] := fun hm => by
          simp only [List.mem_cons, List.not_mem_nil, or_false] at hm
          rcases hm with hm | hm
          · exact h1 hm
          · exact h2 hm
        have := F.keep b o (by rw [hM]; exact hideAll_get _ e hm)
        exact ⟨.inl this, _, this⟩
  exact ⟨fun b o e => (key b o e).1, fun b o e => (key b o e).2⟩
end
end Rk
end
section
open PySem PySem.W PyProof.Rows PySem.Calls Mine
set_option maxRecDepth 100000
set_option maxHeartbeats 400000
namespace Rk
theorem items_are {R : WRecords} : ∀ {xs : List WData}, WShape.hasItems R xs .int = true → ∃ is : List Int, xs = is.map .int
  | [], _ => ⟨[], rfl⟩
  | d :: xs, h => by
    have h : (WShape.has R d .int && WShape.hasItems R xs .int) = true := h
    rw [Bool.and_eq_true] at h
    obtain ⟨is, rfl⟩ := items_are h.2
    cases d with
    | int i => exact ⟨i :: is, rfl⟩
    | _ => have := h.1; simp [WShape.has, WShape.arms] at this
theorem args_are {args : List WData} (h : WShape.hasAll [] args [.list .int] = true) : ∃ is : List Int, args = [.list (is.map .int)] := by
  cases args with
  | nil => cases h
  | cons d r =>
    have h : (WShape.has [] d (.list .int) && WShape.hasAll [] r []) = true := h
    rw [Bool.and_eq_true] at h
    cases r with
    | cons x r => exact absurd h.2 (by simp [WShape.hasAll])
    | nil =>
      cases d with
      | list xs =>
        have h1 : WShape.hasItems [] xs .int = true := by have := h.1; simpa [WShape.has, WShape.arms] using this
        obtain ⟨is, rfl⟩ := items_are h1
        exact ⟨is, rfl⟩
      | _ => have := h.1; simp [WShape.has, WShape.arms] at this
theorem len_of {is : List Int} (h : rowW.claim.pre [.list (is.map .int)] = true) : is.length ≤ 63 := by
  have hcond := (pre_splitW h).2
  w_cond hcond
  rename_i h1 _
  rw [List.length_map] at h1
  have h2 : ¬ ((63 : Int) < (is.length : Int)) := h1
  omega
theorem ints_of {P : Params} {h : Heap} : ∀ {is : List Int} {vs : List Value}, WellAll P h vs (is.map .int) → VReps [] (intsV is) vs
  | [], _, .nil => .nil
  | i :: is, _, .cons x t => by
    cases x with
    | int _ t' => exact .cons (.int i t') (ints_of t)
theorem fn490 (P : Params) : FnOk G02 490 (fq 490) := (A02 P).fns 490 (fq 490) fq490
theorem k490 (P : Params) : nsIn (K02 P) mainGlobals (Str.ofString "law") = some (some (.ref 490)) := by kernel_rfl
theorem names490 : (fq 490).names = [sScript] := by kernel_rfl
theorem dfl490 : (fq 490).dfl = [] := by kernel_rfl
theorem hroom490 : callerA.depth < recursionLimit := by decide
theorem law_walk (d : DefRec) (kwd : List (Str × PySem.Expr)) (hdn : d.name = Str.ofString "law") : WalkO q loose (fun _ _ => True) BaseIn rowW d kwd fun f vs => PySem.call f vs := by
  intro w s₀ s₁ mg mb G Y a o pm cd doc dV kV ho hd hcd hD hmg hg args vals as hpre hlay hrd hwl hlo
  have T := G.T
  obtain ⟨is, rfl⟩ := args_are (pre_splitW hpre).1
  have hlen := len_of hpre
  obtain ⟨v, vals, rfl, hw1, hw2⟩ := wellAll_cons_inv hwl
  cases hw2
  cases hw1 with
  | @list a0 vs _ hl0 hints =>
  have hints := ints_of hints
  have FO := fn490 w.params
  obtain ⟨name, params, dV', kV', doc', pm', ct, oc, an, od, osl, hK, hcode, hbind⟩ := FO.obj w.params
  have ha : a = 490 := by
    have h1 : mg (Str.ofString "law") = some (.ref 490) := mg_of (kin_heap Y) T.g (k490 w.params)
    rw [hdn, h1] at hmg
    cases hmg; rfl
  subst ha
  have hobj := kin_heap Y _ _ hK
  rw [hobj] at ho
  clear ho hd hD hcd hmg
  have nodig : s₁.heap.NoLimit := T.nolimit
  have hb := hbind s₁ [.ref a0] (kin_heap Y) (by rw [names490]; exact Nat.le_refl _) (by rw [names490]; exact Nat.le_add_right _ _)
  have hbs : (fq 490).names.zip ([Value.ref a0] ++ (dflts (fq 490) [Value.ref a0].length).map (·.2)) = [(sScript, .ref a0)] := by
    unfold dflts
    rw [names490, dfl490]; rfl
  rw [hbs] at hb
  refine enter_call (codeAny_call_def hroom490 hobj rfl nodig (codeRec_of (kin_heap Y) hcode) rfl hb FO.cell (fun x hx => ?_) (fun h₁ hns hk => ?_) FO.co FO.gen FO.kind)
  · rw [List.mem_singleton] at hx; subst hx
    exact FO.loc sScript (by rw [names490]; exact .head _)
  · let M : Fm := { w := w, mean := ExcName.means s₀.heap, mg := mg, mb := mb, h₀ := hid s₁.heap, L := s₁.heap.objs.size, os := s₁.os, a0 := a0, vs := vs, is := is }
    have ok : M.Ok := { kin := kin_hid Y, top := top_hid Y T, lst := hid_keep Y hl0 (.inl (by intro h; cases h)), isInts := hints, len := hlen }
    have hz : (hid s₁.heap).objs.size = s₁.heap.objs.size := hideAll_size _ _
    have hole : ∀ p, p ∈ [114, 79] → (H1 w.params).get? p = some { cls := .none, data := .fields #[] } → h₁.get? p = some { cls := .none, data := .fields #[] } ∧ p ≠ s₁.heap.objs.size ∧ (hid s₁.heap).get? p = none := fun p hp e =>
      ⟨hk _ _ (Y _ _ e), Nat.ne_of_lt (Heap.lt_size (Y _ _ e)), hideAll_none _ hp⟩
    have I₀ : Inv (M.cx [] [] (EPq M)) ⟨[], [], [], w.params⟩ ⟨lw0 M.sp, []⟩ { s₁ with heap := h₁, toks := s₁.toks + 1 } := by
      refine ⟨fun x => List.lookup x [(sScript, Value.ref a0)].reverse, [(114, { cls := .none, data := .fields #[] }), (79, { cls := .none, data := .fields #[] })],
        ⟨hns, fun b o e => hk _ _ (of_hideAll _ e), Nat.le_of_eq hz⟩, fun p hp => ?_, by decide, ⟨rfl, fun i j x y a h => (by simp at h), fun p h => (by cases h), fun p h => (by cases h), fun a h => (by cases h), fun i x a h => (by simp at h), fun i x a h => (by simp at h), fun b hb => ?_⟩, fun x p e => ?_, ⟨rfl, fun q h => (by cases h)⟩, .of_eq hg, rfl⟩
      · simp only [List.mem_cons, List.not_mem_nil, or_false] at hp
        rcases hp with rfl | rfl
        · exact hole 114 (by decide) (k114 w.params)
        · exact hole 79 (by decide) (k79 w.params)
      · refine ⟨⟨{ cls := .none, data := .fields #[] }, ?_, #[], rfl, trivial⟩, (by simp), fun q h => (by cases h), fun q h => (by cases h)⟩
        simp only [holes, List.mem_cons, List.not_mem_nil, or_false] at hb
        rcases hb with rfl | rfl
        · exact .head _
        · exact .tail _ (.head _)
      · have e : [(sScript, M.sp)].lookup x = some p := e
        obtain ⟨rfl, rfl⟩ := lookup1 e
        exact ⟨.ref a0, (by simp), .cst _⟩
    refine law_runs (M := M) ok (fun e => PassesOwnAt.leaving) (fun s' D => ?_) I₀
    refine ⟨.inl ⟨.bool true, .bool true, [], rfl, fun cls => (by rfl), .bool true, (by first | kernel_rfl | wrow_post), fun _ => ⟨.nil, fun a h => (by cases h)⟩⟩, oldK_of Y rfl D, D.os, D.gens⟩
theorem law_some : (defOf q "law").isSome = true := by kernel_rfl
noncomputable def lawD : DefRec × List (Str × PySem.Expr) := (defOf q "law").get law_some
theorem lawD_is : defOf q "law" = some (lawD.1, lawD.2) := by
  have h := Option.some_get law_some
  exact h.symm
theorem lawD_nm : lawD.1.name = Str.ofString "law" := by kernel_rfl
theorem lawD_def : pw.theDef "law" = some (lawD.1.params, lawD.1.body, lawD.1.scope) := by kernel_rfl
theorem lawD_kw : kwWritten? lawD.1.params.kwonlyargs lawD.1.params.kw_defaults = some lawD.2 := by kernel_rfl
theorem law_holds : PySem.Challenge.rw_nk0005_02.Holds :=
  top_holds lawD.1 lawD.2 lawD_is lawD_def lawD_kw (law_walk lawD.1 lawD.2 lawD_nm)
end Rk
end
set_option maxRecDepth 100000 in
set_option maxHeartbeats 8000000 in
theorem PySem.Challenge.cw_nk0005_02_holds : PySem.Challenge.rw_nk0005_02.Holds := by
  exact Rk.law_holds
