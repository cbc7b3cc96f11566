import PyProof.Rows.All
import Wide.All
import OpenK.AllK
import Wide.FinOn
import PySem.Challenge.RW_km0070_01
open PySem PySem.W PyProof.Rows
set_option Elab.async false
set_option rowWalk.seconds 0
section
open PySem PySem.W PyProof.Rows
set_option Elab.async false
set_option maxRecDepth 100000
set_option maxHeartbeats 8000000
namespace Mine
open_top hd for PySem.Challenge.rw_km0070_01
end Mine

end
theorem Mine.flHD : True := by first | (row_walk; done) | trivial
section
open PySem PySem.W PyProof.Rows
set_option Elab.async false
namespace Mine
def bodyOf : Stmt → List Stmt
  | .FunctionDef _ _ b _ _ _ _ _ _ _ => b
  | .For _ _ b _ _ => b
  | .While _ b _ _ => b
  | .If _ b _ _ => b
  | _ => []
def scopeOf : Stmt → Scope
  | .FunctionDef _ _ _ _ _ _ sc _ _ _ => sc
  | _ => default
def tl : List Stmt → List Stmt
  | _ :: r => r
  | [] => []
def fst1 : List Stmt → Stmt
  | a :: _ => a
  | [] => .Pass default
def lawDef : Stmt := fst1 (tl (tl (tl (tl (tl PySem.Challenge.pw_km0070_01.main.body)))))
def forNet : Stmt := fst1 (tl (bodyOf lawDef))
def forNeed : Stmt := fst1 (tl (tl (tl (bodyOf forNet))))
def lawScope : Scope := scopeOf lawDef
end Mine

end
section
open PySem PySem.W PyProof.Rows
set_option Elab.async false
set_option maxRecDepth 100000
namespace Mine
abbrev prg : Program := Challenge.rw_km0070_01.row.prog
structure Stat (w : World) (s₀ : Shared) (b : Heap) (mg mb : Str → Option Value) : Prop where
  KX : (Mine.hd.heap_39 w.params).In b
  T : Top Mine.hd.view_39 (looseW Mine.hd.view_39 []) (ExcName.means s₀.heap) mg mb b
  GL : Glob 0 mg mb (List.map itemOf (recsOf Mine.hd.view_39)) (scalarsOf [] ++ constsW Mine.hd.view_39) [] (namesW Mine.hd.view_39 []) b
  B0 : Below callerA b [] b
def cellv (o : Obj) (v : Value) : Prop := o.data = .cell (some v)
abbrev mset (x : Str) (v : Value) (m : Str → Option Value) : Str → Option Value := fun y => if y = x then some v else m y
/-- a goal at which the walk is to stop -/
structure Halt (P : Prop) : Prop where
  out : P
end Mine

end
section
open PySem PySem.W PyProof.Rows
set_option Elab.async false
set_option maxRecDepth 100000
namespace Mine
/-- the points of a mask, rising -/
def pts (m : Nat) : List Nat := (List.range 6).filter fun i => m.testBit i
abbrev ent (tk : Nat → Tok) (k : Nat) : Int × Value := ((k : Int), Value.int (k : Int) (tk k))
abbrev entA (tk : Nat → Tok) (l : List Nat) : Array (Int × Value) := (l.map (ent tk)).toArray

theorem hash6 : ∀ k : Nat, k < 6 → hashInt (k : Int) = (k : Int) := by decide +kernel
theorem mem_pts {m k : Nat} : k ∈ pts m ↔ k < 6 ∧ m.testBit k = true := by simp [pts]
theorem pts_lt {m k : Nat} (h : k ∈ pts m) : k < 6 := (mem_pts.mp h).1
theorem pts_len (m : Nat) : (pts m).length ≤ 6 := by
  have := List.length_filter_le (fun i => m.testBit i) (List.range 6)
  simpa [pts] using this
theorem pts_sorted (m : Nat) : (pts m).Pairwise (· < ·) := List.Pairwise.filter _ List.pairwise_lt_range
theorem pts_nodup (m : Nat) : (pts m).Nodup := (pts_sorted m).imp Nat.ne_of_lt

/-- the position of k among the points -/
theorem pts_below : ∀ m < 64, ∀ k < 6, m.testBit k = false →
    let p := SetTable.below (pts m).toArray k
    (pts m).toArray[p]? ≠ some k ∧ SetTable.insertAt (pts m).toArray p k = (pts (m ||| 2 ^ k)).toArray := by decide +kernel
theorem pts_insert : ∀ m < 64, ∀ k < 6, m.testBit k = false →
    let p := SetTable.below (pts m).toArray k
    (pts m).take p ++ k :: (pts m).drop p = pts (m ||| 2 ^ k) := by decide +kernel
theorem pts_erase : ∀ m < 64, ∀ i < 6, ∀ k ∈ (pts m)[i]?, (pts m).eraseIdx i = pts (m - 2 ^ k) ∧ m.testBit k = true := by decide +kernel
def layOk (M m : Nat) : Bool :=
  (SetTable.layClean M ((pts m).map fun k : Nat => (k : Int)).toArray).map (fun owner => (List.range (M + 1)).filterMap fun j => (owner.getD j none).map (j, ·)) == some ((pts m).zipIdx)
theorem lay_ok : ∀ M ∈ [7, 15, 31], ∀ m < 64, layOk M m = true := by decide +kernel
end Mine

end
section
open PySem PySem.W PyProof.Rows
set_option Elab.async false
set_option maxRecDepth 100000
namespace Mine

structure Tab (w : World) (wk : Bool) (t : SetTable) (m : Nat) : Prop where
  place : t.place = (pts m).toArray
  fill : (pts m).length + t.dummies.size ≤ 6
  mask : t.mask = 7 ∨ t.mask = 15 ∨ t.mask = 31
  plain : t.plain = true
  led : w.params.followText "set-order" = true ∨ t.led = true ∨ (wk = true ∧ (pts m).length ≤ 1)

abbrev setObj (cls : String) (tk : Nat → Tok) (m ep : Nat) (t : SetTable) : Obj := { cls := .type cls, data := .set (entA tk (pts m)) ep t }
/-- o is a set (or frozenset) of the points of m -/
def SetO (w : World) (wk : Bool) (cls : String) (m : Nat) (o : Obj) : Prop := m < 64 ∧ ∃ tk ep t, o = setObj cls tk m ep t ∧ Tab w wk t m

theorem entA_size (tk : Nat → Tok) (l : List Nat) : (entA tk l).size = l.length := by simp
theorem Tab.fits {w : World} {wk : Bool} {t : SetTable} {m : Nat} (T : Tab w wk t m) (tk : Nat → Tok) : t.fits (entA tk (pts m)).size = true := by
  have := T.fill
  have := T.mask
  simp only [SetTable.fits, SetTable.fill, T.place, entA_size, List.size_toArray, List.length_map, Bool.and_eq_true, beq_self_eq_true, decide_eq_true_eq, true_and]
  omega

section
variable {prog : Program} {w : World} {A : Around} {E : Value → Shared → Prop} {s : Shared} {a : Addr} {cls : String} {tk : Nat → Tok} {m ep : Nat} {t : SetTable} {wk : Bool}

theorem setState_ {Q : (Array (Int × Value) × Nat × SetTable) → Shared → Prop} (ho : s.heap.get? a = some (setObj cls tk m ep t)) (T : Tab w wk t m)
    (h : Q (entA tk (pts m), ep, t) s) : wpAny (model prog w) A (setState a) Q E s := wpAny_setState_of ho rfl (T.fits tk) h
theorem setEntries_ {Q : Array (Int × Value) → Shared → Prop} (ho : s.heap.get? a = some (setObj cls tk m ep t)) (T : Tab w wk t m)
    (h : Q (entA tk (pts m)) s) : wpAny (model prog w) A (setEntries a) Q E s := wpAny_setEntries_of ho rfl (T.fits tk) h
theorem setEpoch_ {Q : Nat → Shared → Prop} (ho : s.heap.get? a = some (setObj cls tk m ep t)) (T : Tab w wk t m)
    (h : Q ep s) : wpAny (model prog w) A (setEpoch a) Q E s := wpAny_setEpoch_of ho rfl (T.fits tk) h
theorem sizeOf_ {Q : Nat → Shared → Prop} (ho : s.heap.get? a = some (setObj cls tk m ep t)) (T : Tab w wk t m)
    (h : Q (pts m).length s) : wpAny (model prog w) A (Builtin.Frozenset.sizeOf a) Q E s := by
  unfold Builtin.Frozenset.sizeOf
  refine wpAny_bind (setEntries_ ho T (wpAny_pure ?_))
  rw [entA_size]; exact h
theorem setsByText_ {Q : Bool → Shared → Prop} (h : Q (w.params.followText "set-order") s) : wpAny (model prog w) A setsByText Q E s := by
  unfold setsByText
  exact wpAny_bind (wpAny_askSetting (wpAny_pure h))

/-- the order in which the set is walked -/
def walkOf (w : World) (a ep : Nat) (es : Array (Int × Value)) : Array (Int × Value) :=
  if w.params.followText "set-order" = true then pickOrder (w.params.setOrder a ep) es else es

theorem cons_erase_perm {α : Type} : ∀ (l : List α) (i : Nat) (h : i < l.length), (l[i] :: l.eraseIdx i).Perm l
  | [], i, h => by simp at h
  | a :: r, 0, h => by simp
  | a :: r, i + 1, h => by
    simp only [List.getElem_cons_succ, List.eraseIdx_cons_succ]
    exact (List.Perm.swap _ _ _).trans (List.Perm.cons _ (cons_erase_perm r i (by simpa using h)))
theorem pickGo_perm {α : Type} (next : Nat → Nat) : ∀ (fuel k : Nat) (left : List α) (out : Array α), left.length ≤ fuel → (pickOrder.go next fuel k left out).toList.Perm (out.toList ++ left)
  | 0, k, left, out, h => by
    have : left = [] := List.length_eq_zero_iff.mp (by omega)
    subst this
    simp [pickOrder.go]
  | fuel + 1, k, left, out, h => by
    unfold pickOrder.go
    cases hx : left[next k % left.length]? with
    | none =>
      have hl : left.length = 0 := by
        rcases Nat.eq_zero_or_pos left.length with h0 | h0
        · exact h0
        · have := Nat.mod_lt (next k) h0
          rw [List.getElem?_eq_getElem this] at hx; cases hx
      have : left = [] := List.length_eq_zero_iff.mp hl
      subst this
      simp
    | some x =>
      obtain ⟨hlt, rfl⟩ := List.getElem?_eq_some_iff.mp hx
      refine (pickGo_perm next fuel (k + 1) _ _ (by rw [List.length_eraseIdx_of_lt hlt]; omega)).trans ?_
      rw [Array.toList_push, List.append_assoc]
      exact List.Perm.append_left _ (by simpa using cons_erase_perm left _ hlt)
theorem walkOf_perm (w : World) (a ep : Nat) (es : Array (Int × Value)) : (walkOf w a ep es).toList.Perm es.toList := by
  unfold walkOf
  split
  · have := pickGo_perm (w.params.setOrder a ep) es.size 0 es.toList #[] (by simp)
    simpa [pickOrder] using this
  · exact .rfl
theorem walkOf_text {w : World} (h : w.params.followText "set-order" = true) (a ep : Nat) (es : Array (Int × Value)) : walkOf w a ep es = pickOrder (w.params.setOrder a ep) es := by
  unfold walkOf; rw [if_pos h]
theorem walkOf_plain {w : World} (h : w.params.followText "set-order" = false) (a ep : Nat) (es : Array (Int × Value)) : walkOf w a ep es = es := by
  unfold walkOf; rw [h]; rfl

theorem setWalk_ {Q : Array (Int × Value) → Shared → Prop} (ho : s.heap.get? a = some (setObj cls tk m ep t)) (T : Tab w wk t m)
    (h : Q (walkOf w a ep (entA tk (pts m))) s) : wpAny (model prog w) A (setWalk a) Q E s := by
  unfold setWalk
  refine wpAny_bind (setState_ ho T ?_)
  refine wpAny_bind (setsByText_ ?_)
  cases hb : w.params.followText "set-order" with
  | true =>
    simp only [if_true]
    refine wpAny_bind (wpAny_askSetting (wpAny_pure ?_))
    rw [walkOf_text hb] at h
    exact h
  | false =>
    rw [walkOf_plain hb] at h
    rw [if_neg Bool.false_ne_true]
    show wpAny _ _ (if (!t.plain && decide ((entA tk (pts m)).size > 1)) = true then _ else _) _ _ _
    rw [if_neg (show ¬ ((!t.plain && decide ((entA tk (pts m)).size > 1)) = true) by rw [T.plain]; simp)]
    refine wpAny_bind ?_
    show wpAny _ _ (if (!t.led && decide ((entA tk (pts m)).size > 1)) = true then unsupported _ else pure ()) _ _ _
    have hl : (!t.led && decide ((entA tk (pts m)).size > 1)) = false := by
      rcases T.led with h1 | h1 | ⟨_, h1⟩
      · rw [hb] at h1; cases h1
      · rw [h1]; rfl
      · rw [entA_size]
        have : decide ((pts m).length > 1) = false := decide_eq_false (by omega)
        rw [this, Bool.and_false]
    rw [hl]
    exact wpAny_pure (wpAny_pure h)
end
end Mine

end
section
open PySem PySem.W PyProof.Rows
set_option Elab.async false
set_option maxRecDepth 100000
set_option linter.unusedVariables false
set_option linter.unusedSimpArgs false
namespace Mine

/-- m without the point k -/
def del (m k : Nat) : Nat := if m.testBit k then m - 2 ^ k else m
/-- m without the points of r -/
def sub (m r : Nat) : Nat := (pts r).foldl del m

theorem entA_elems {prog : Program} {w : World} (tk : Nat → Tok) (l : List Nat) (hl : ∀ k ∈ l, k < 6) : ElemsOf (PySem.intKind prog w) (entA tk l).toList := by
  intro e he
  simp only [List.mem_map] at he
  obtain ⟨k, hk, rfl⟩ := he
  exact ⟨⟨(k : Int), intKind_is _ _ _ _, (hash6 k (hl k hk)).symm⟩, rfl⟩
theorem findIdx_ent {prog : Program} {w : World} (tk : Nat → Tok) (k : Nat) : ∀ l : List Nat, (l.map (ent tk)).findIdx? (fun e => (PySem.intKind prog w).is (k : Int) e.2) = l.findIdx? (· == k)
  | [] => rfl
  | a :: r => by
    simp only [List.map_cons, List.findIdx?_cons, findIdx_ent tk k r]
    have : (PySem.intKind prog w).is (k : Int) (ent tk a).2 = (a == k) := by
      show ((a : Int) == (k : Int)) = (a == k)
      by_cases h : a = k
      · subst h; simp
      · have h' : ¬ ((a : Int) = (k : Int)) := fun e => h (Int.ofNat_inj.mp e)
        rw [beq_eq_false_iff_ne.mpr h', beq_eq_false_iff_ne.mpr h]
    rw [this]
theorem eraseIdx_map' {α β : Type} (f : α → β) : ∀ (l : List α) (i : Nat), (l.map f).eraseIdx i = (l.eraseIdx i).map f
  | [], i => by simp
  | a :: r, 0 => by simp
  | a :: r, i + 1 => by simp [eraseIdx_map' f r i]

theorem eraseAt_list {α : Type} (l : List α) (i : Nat) (h : i < l.length) : SetTable.eraseAt l.toArray i = (l.eraseIdx i).toArray := by
  unfold SetTable.eraseAt
  apply Array.toList_inj.mp
  simp [List.extract_eq_take_drop, List.eraseIdx_eq_take_drop_succ, List.take_of_length_le]

section
variable {prog : Program} {w : World} {A : Around} {E : Value → Shared → Prop} {s : Shared} {a : Addr} {cls : String} {tk : Nat → Tok} {m ep : Nat} {t : SetTable} {wk : Bool}

theorem wpAny_setScan_at {k : Nat} {x : Value} {adding : Bool} {Q : ScanMet → Shared → Prop} (hk : k < 6) (hx : (PySem.intKind prog w).is (k : Int) x = true) (ho : s.heap.get? a = some (setObj cls tk m ep t)) (T : Tab w wk t m)
    (hel : ElemsOf (PySem.intKind prog w) (entA tk (pts m)).toList)
    (h : Q (match (entA tk (pts m)).toList.findIdx? (fun e => (PySem.intKind prog w).is (k : Int) e.2) with | some j => .found (0 + j) | none => .absent) s) :
    wpAny (model prog w) A (setScan a x (k : Int) adding (entA tk (pts m))) Q E s := by
  have := wpAny_setScan_of (A := A) (E := E) (Q := Q) (adding := adding) (knd := PySem.intKind prog w) (k := (k : Int)) hx ho rfl (T.fits tk) hel h
  rw [show (PySem.intKind prog w).hash (k : Int) = (k : Int) from hash6 k hk] at this
  exact this
theorem setFind_ {k : Nat} {u : Tok} {Q : Option Nat → Shared → Prop} (ho : s.heap.get? a = some (setObj cls tk m ep t)) (T : Tab w wk t m) (hk : k < 6)
    (h : Q ((pts m).findIdx? (· == k)) s) : wpAny (model prog w) A (setFind a (.int (k : Int) u) (k : Int)) Q E s := by
  unfold setFind setFindIn
  refine wpAny_bind (setState_ ho T ?_)
  have hsz : (entA tk (pts m)).size < scanBound := by rw [entA_size]; have := pts_len m; unfold scanBound; omega
  have hel := entA_elems (prog := prog) (w := w) tk (pts m) fun k h => pts_lt h
  dsimp only
  rw [if_pos (byScan_of (x := Value.int (k : Int) u) rfl hsz hel)]
  refine wpAny_bind (wpAny_rule (wpAny_bind ?_))
  refine wpAny_setScan_at hk (intKind_is _ _ _ _) ho T hel ?_
  have e := findIdx_ent (prog := prog) (w := w) tk k (pts m)
  have e' : (entA tk (pts m)).toList = (pts m).map (ent tk) := rfl
  rw [e', e]
  cases hf : (pts m).findIdx? (· == k) with
  | none => rw [hf] at h; exact wpAny_pure h
  | some j => rw [hf] at h; dsimp only; rw [Nat.zero_add]; exact wpAny_pure h
end

theorem findIdx_none {l : List Nat} {k : Nat} (h : l.findIdx? (· == k) = none) : k ∉ l := fun hk => by
  have := List.findIdx?_eq_none_iff.mp h k hk
  simp at this
theorem findIdx_some {l : List Nat} {k i : Nat} (h : l.findIdx? (· == k) = some i) : l[i]? = some k ∧ i < l.length := by
  obtain ⟨hi, hp, _⟩ := List.findIdx?_eq_some_iff_getElem.mp h
  exact ⟨by rw [List.getElem?_eq_getElem hi]; exact congrArg some (by simpa using hp), hi⟩
theorem len_del : ∀ m < 64, ∀ k < 6, m.testBit k = true → (pts (m - 2 ^ k)).length + 1 = (pts m).length ∧ m - 2 ^ k < 64 := by decide +kernel
theorem insertAt_size {α : Type} (xs : Array α) (p : Nat) (x : α) : (SetTable.insertAt xs p x).size = xs.size + 1 := by
  have := (SetTable.insertAt_perm xs p x).length_eq
  simpa using this

theorem Tab.drop {w : World} {wk : Bool} {t : SetTable} {m k i : Nat} (T : Tab w wk t m) (hm : m < 64) (hi : (pts m)[i]? = some k) (hlt : i < (pts m).length) : Tab w wk (t.drop i) (m - 2 ^ k) ∧ (pts m).eraseIdx i = pts (m - 2 ^ k) ∧ m.testBit k = true := by
  have hi6 : i < 6 := Nat.lt_of_lt_of_le hlt (pts_len m)
  obtain ⟨he, hb⟩ := pts_erase m hm i hi6 k hi
  have hk : k < 6 := pts_lt (List.mem_of_getElem? hi)
  obtain ⟨hl, _⟩ := len_del m hm k hk hb
  have hd : t.drop i = { t with place := SetTable.eraseAt t.place i, dummies := SetTable.insertAt t.dummies (SetTable.below t.dummies k) k } := by
    unfold SetTable.drop
    have : t.place[i]? = some k := by rw [T.place]; simpa using hi
    rw [this]
  rw [hd]
  refine ⟨⟨?_, ?_, T.mask, T.plain, ?_⟩, he, hb⟩
  · show SetTable.eraseAt t.place i = _
    rw [T.place, eraseAt_list _ _ hlt, he]
  · show _ + (SetTable.insertAt t.dummies _ _).size ≤ 6
    rw [insertAt_size]
    have := T.fill
    omega
  · rcases T.led with h | h | ⟨h0, h⟩
    · exact .inl h
    · exact .inr (.inl h)
    · exact .inr (.inr ⟨h0, by omega⟩)
theorem pts_sub_mem {m k : Nat} (hm : m < 64) (hk : k < 6) (h : k ∉ pts m) : m.testBit k = false := by
  cases hb : m.testBit k with
  | false => rfl
  | true => exact absurd (mem_pts.mpr ⟨hk, hb⟩) h

section
variable {prog : Program} {w : World} {A : Around} {E : Value → Shared → Prop} {s : Shared} {a : Addr} {cls : String} {tk : Nat → Tok} {m ep : Nat} {t : SetTable} {wk : Bool}
theorem get_put {h : Heap} {es' : Array (Int × Value)} {t' : SetTable} (ho : h.get? a = some (setObj cls tk m ep t)) :
    (h.update a (Obj.putSet es' t')).get? a = some { cls := .type cls, data := .set es' (ep + 1) t' } := by
  have := Heap.get?_update_self (Obj.putSet es' t') ho (by rw [putSet_of es' t' rfl]; rfl)
  rw [putSet_of es' t' rfl] at this; exact this

theorem discard_ {k : Nat} {u : Tok} {Q : Bool → Shared → Prop} (ho : s.heap.get? a = some (setObj cls tk m ep t)) (T : Tab w wk t m) (hm : m < 64) (hk : k < 6)
    (h : ∀ h' ep' t', Heap.SameBut a s.heap h' → h'.get? a = some (setObj cls tk (del m k) ep' t') → Tab w wk t' (del m k) → ∀ b, Q b { s with heap := h' }) :
    wpAny (model prog w) A (setDiscardHashed a (.int (k : Int) u) (k : Int)) Q E s := by
  unfold setDiscardHashed
  refine wpAny_bind (setFind_ ho T hk ?_)
  cases hf : (pts m).findIdx? (· == k) with
  | none =>
    have hb := pts_sub_mem hm hk (findIdx_none hf)
    have e : del m k = m := by unfold del; rw [hb]; rfl
    have es : s = { s with heap := s.heap } := by cases s; rfl
    refine wpAny_pure ?_
    rw [es]
    exact h s.heap ep t (Heap.SameBut.refl a s.heap) (by rw [e]; exact ho) (by rw [e]; exact T) _
  | some i =>
    obtain ⟨hi, hlt⟩ := findIdx_some hf
    obtain ⟨T', he, hb⟩ := T.drop hm hi hlt
    have e : del m k = m - 2 ^ k := by unfold del; rw [hb]; rfl
    have hes : SetTable.eraseAt (entA tk (pts m)) i = entA tk (pts (m - 2 ^ k)) := by
      rw [eraseAt_list _ _ (by simpa using hlt), ← he]
      rw [eraseIdx_map']
    dsimp only
    refine wpAny_bind (setState_ ho T ?_)
    dsimp only
    rw [hes]
    have hsz : (entA tk (pts (m - 2 ^ k))).size ≤ sizeLine := by rw [entA_size, sizeLine_eq]; have := pts_len (m - 2 ^ k); omega
    refine wpAny_bind (wpAny_storeSet_of ho rfl ?_ hsz)
    refine wpAny_bind (wpAny_point (wpAny_pure ?_))
    refine h _ (ep + 1) _ (Heap.SameBut.update s.heap a _) ?_ (by rw [e]; exact T') _
    rw [e]
    exact get_put ho
end
end Mine

end
section
open PySem PySem.W PyProof.Rows
set_option Elab.async false
set_option maxRecDepth 100000
set_option linter.unusedVariables false
set_option linter.unusedSimpArgs false
namespace Mine

theorem zip_fst : ∀ (l : List Nat) (i : Nat), (l.zipIdx i).map (·.1) = l
  | [], _ => rfl
  | a :: r, i => by simp [List.zipIdx_cons, zip_fst r (i + 1)]
theorem laid_ {M m : Nat} (hM : M ∈ [7, 15, 31]) (hm : m < 64) (finger moves : Nat) (led plain : Bool) :
    SetTable.laid M finger moves led plain ((pts m).map fun k : Nat => (k : Int)).toArray = some ({ mask := M, place := (pts m).toArray, dummies := #[], finger, led, moves, plain }, (List.range (pts m).length).toArray) := by
  have h := lay_ok M hM m hm
  unfold layOk at h
  have h' := beq_iff_eq.mp h
  cases hc : SetTable.layClean M ((pts m).map fun k : Nat => (k : Int)).toArray with
  | none => rw [hc] at h'; cases h'
  | some owner =>
    rw [hc] at h'
    have hl := Option.some.inj h'
    dsimp only at hl
    unfold SetTable.laid
    rw [hc]
    simp only [Option.bind_eq_bind, Option.bind_some]
    rw [hl]
    refine congrArg some (Prod.ext ?_ ?_)
    · simp only [zip_fst]
    · simp only [List.zipIdx_eq_zip_range', List.map_snd_zip, List.length_range', Nat.le_refl, List.range_eq_range']
theorem size_above : ∀ n ≤ 6, SetTable.sizeAbove (SetTable.grown n) - 1 ∈ [7, 15, 31] ∧ SetTable.sizeAbove (SetTable.grown n) ≤ 64 := by decide +kernel
theorem entA_hash (tk : Nat → Tok) (l : List Nat) : (entA tk l).map (·.1) = (l.map fun k : Nat => (k : Int)).toArray := by simp

section
variable {prog : Program} {w : World} {A : Around} {E : Value → Shared → Prop} {s : Shared} {a : Addr} {cls : String} {tk : Nat → Tok} {m ep : Nat} {t : SetTable} {wk : Bool}
theorem relayW_ {n : Nat} {Q : Unit → Shared → Prop} (ho : s.heap.get? a = some (setObj cls tk m ep t)) (T : Tab w wk t m) (hm : m < 64) (hn : SetTable.sizeAbove n - 1 ∈ [7, 15, 31] ∧ SetTable.sizeAbove n ≤ 64)
    (h : ∀ h' ep' t', Heap.SameBut a s.heap h' → h'.get? a = some (setObj cls tk m ep' t') → Tab w wk t' m → t'.dummies = #[] → Q () { s with heap := h' }) :
    wpAny (model prog w) A (setRelay a n) Q E s := by
  obtain ⟨hM, h64⟩ := hn
  unfold setRelay
  refine wpAny_bind (setState_ ho T ?_)
  dsimp only
  rw [if_neg (by rw [sizeLine_eq]; omega)]
  unfold SetTable.relaid
  rw [entA_hash, laid_ hM hm]
  have hf : (List.range (pts m).length).toArray.filterMap (fun i => (entA tk (pts m))[i]?) = entA tk (pts m) := by
    have := filterMap_getElem?_range (entA tk (pts m))
    rw [entA_size] at this
    apply Array.toList_inj.mp
    rw [Array.toList_filterMap]
    exact this
  refine wpAny_bind (?_ : wpAny _ _ _ _ _ _)
  show wpAny _ _ (if (((List.range (pts m).length).toArray.filterMap (fun i => (entA tk (pts m))[i]?)).size != (entA tk (pts m)).size) = true then unsupported _ else pure _) _ _ _
  rw [hf, if_neg (by simp)]
  refine wpAny_pure ?_
  have hsz : (entA tk (pts m)).size ≤ sizeLine := by rw [entA_size, sizeLine_eq]; have := pts_len m; omega
  refine wpAny_storeSet_of ho rfl ?_ hsz
  refine h _ (ep + 1) _ (Heap.SameBut.update s.heap a _) (get_put ho) ⟨rfl, ?_, ?_, T.plain, T.led⟩ rfl
  · have := pts_len m
    show _ + (#[] : Array Nat).size ≤ 6
    simpa using this
  · show SetTable.sizeAbove n - 1 = 7 ∨ SetTable.sizeAbove n - 1 = 15 ∨ SetTable.sizeAbove n - 1 = 31
    simpa using hM
theorem relay_ {n : Nat} {Q : Unit → Shared → Prop} (ho : s.heap.get? a = some (setObj cls tk m ep t)) (T : Tab w wk t m) (hm : m < 64) (hn : n ≤ 6)
    (h : ∀ h' ep' t', Heap.SameBut a s.heap h' → h'.get? a = some (setObj cls tk m ep' t') → Tab w wk t' m → Q () { s with heap := h' }) :
    wpAny (model prog w) A (setRelay a (SetTable.grown n)) Q E s := relayW_ ho T hm (size_above n hn) fun h' ep' t' x y z _ => h h' ep' t' x y z

theorem tidy_ {Q : Unit → Shared → Prop} (ho : s.heap.get? a = some (setObj cls tk m ep t)) (T : Tab w wk t m) (hm : m < 64)
    (h : ∀ h' ep' t', Heap.SameBut a s.heap h' → h'.get? a = some (setObj cls tk m ep' t') → Tab w wk t' m → Q () { s with heap := h' }) :
    wpAny (model prog w) A (setTidy a) Q E s := by
  unfold setTidy
  refine wpAny_bind (setState_ ho T ?_)
  dsimp only
  cases t.tooManyDummies with
  | true =>
    rw [if_pos rfl, entA_size]
    exact relay_ ho T hm (pts_len m) h
  | false =>
    rw [if_neg Bool.false_ne_true]
    refine wpAny_pure ?_
    have es : s = { s with heap := s.heap } := by cases s; rfl
    rw [es]
    exact h s.heap ep t (Heap.SameBut.refl a s.heap) ho T

theorem forIn_list_inv {α β : Type} {M : Model} (f : α → β → Sem (ForInStep β)) (I : List α → β → Shared → Prop) {Q : β → Shared → Prop}
    (turn : ∀ x rest b s, I (x :: rest) b s → wpAny M A (f x b) (fun r s' => ∃ b', r = .yield b' ∧ I rest b' s') E s)
    (fin : ∀ b s, I [] b s → Q b s) : ∀ (xs : List α) (b : β) (s : Shared), I xs b s → wpAny M A (forIn xs b f) Q E s
  | [], b, s, h => by rw [List.forIn_nil]; exact wpAny_pure (fin b s h)
  | x :: xs, b, s, h => by
    rw [List.forIn_cons]
    refine wpAny_bind (wpAny_mono (turn x xs b s h) (fun r s' h' => ?_) fun _ _ e => e)
    obtain ⟨b', rfl, h'⟩ := h'
    exact forIn_list_inv f I turn fin xs b' s' h'
end

theorem del_lt : ∀ m < 64, ∀ k < 6, del m k < 64 := by decide +kernel
theorem del_comm : ∀ m < 64, ∀ j < 6, ∀ k < 6, del (del m j) k = del (del m k) j := by decide +kernel
theorem foldl_del_lt : ∀ (l : List Nat) (m : Nat), m < 64 → (∀ k ∈ l, k < 6) → l.foldl del m < 64
  | [], m, hm, _ => hm
  | a :: r, m, hm, h => foldl_del_lt r (del m a) (del_lt m hm a (h a (.head _))) fun k hk => h k (.tail _ hk)
theorem foldl_del_perm {l l' : List Nat} (p : l.Perm l') : ∀ m, m < 64 → (∀ k ∈ l, k < 6) → l.foldl del m = l'.foldl del m := by
  induction p with
  | nil => intros; rfl
  | cons a _ ih => intro m hm h; exact ih _ (del_lt m hm a (h a (.head _))) fun k hk => h k (.tail _ hk)
  | swap a b l => intro m hm h; simp only [List.foldl_cons]; rw [del_comm m hm b (h b (.head _)) a (h a (.tail _ (.head _)))]
  | trans p1 _ ih1 ih2 => intro m hm h; exact (ih1 m hm h).trans (ih2 m hm fun k hk => h k (p1.mem_iff.mpr hk))
end Mine

end
section
open PySem PySem.W PyProof.Rows
set_option Elab.async false
set_option maxRecDepth 100000
set_option linter.unusedVariables false
set_option linter.unusedSimpArgs false
namespace Mine

def IsSetCls (c : String) : Prop := c = "set" ∨ c = "frozenset"
theorem sub_set_set : isSubtype (.type "set") (.type "set") = pure true := by rw [isSubtype_type]; kernel_rfl
theorem sub_fro_set : isSubtype (.type "frozenset") (.type "set") = pure false := by rw [isSubtype_type]; kernel_rfl
theorem sub_fro_fro : isSubtype (.type "frozenset") (.type "frozenset") = pure true := by rw [isSubtype_type]; kernel_rfl

section
variable {prog : Program} {w : World} {A : Around} {E : Value → Shared → Prop} {s : Shared} {a : Addr} {cls : String} {tk : Nat → Tok} {m ep : Nat} {t : SetTable} {wk wk₂ : Bool}

theorem isAnySet_ {c : String} {v : Value} {Q : Bool → Shared → Prop} (hT : s.TypeIs v c) (hc : IsSetCls c) (h : Q true s) : wpAny (model prog w) A (Builtin.Frozenset.isAnySet v) Q E s := by
  unfold Builtin.Frozenset.isAnySet
  rcases hc with rfl | rfl
  · refine wpAny_bind (wpAny_isInstance hT sub_set_set ?_)
    exact wpAny_pure h
  · refine wpAny_bind (wpAny_isInstance hT sub_fro_set ?_)
    exact wpAny_isInstance hT sub_fro_fro h

theorem setWalkUnseen_ {others : List Addr} {fl : Option Addr} {Q : Array (Int × Value) → Shared → Prop} (ho : s.heap.get? a = some (setObj cls tk m ep t)) (T : Tab w wk t m)
    (h : Q (walkOf w a ep (entA tk (pts m))) s) : wpAny (model prog w) A (setWalkUnseen a others fl) Q E s := by
  unfold setWalkUnseen
  refine wpAny_bind (setState_ ho T ?_)
  dsimp only
  refine wpAny_bind (setsByText_ ?_)
  have hc : (w.params.followText "set-order" || (t.led && t.plain) || decide ((entA tk (pts m)).size ≤ 1)) = true := by
    rw [entA_size, T.plain]
    rcases T.led with h1 | h1 | ⟨_, h1⟩
    · rw [h1]; rfl
    · rw [h1]; simp
    · simp [h1]
  rw [if_pos hc]
  exact setWalk_ ho T h

theorem walk_ents {w : World} {a ep : Nat} {tk : Nat → Tok} {m : Nat} : ∃ l : List Nat, l.Perm (pts m) ∧ (walkOf w a ep (entA tk (pts m))).toList = l.map (ent tk) := by
  have p := walkOf_perm w a ep (entA tk (pts m))
  have hinj : ∀ x ∈ (walkOf w a ep (entA tk (pts m))).toList, x = ent tk x.1.toNat ∧ True := fun x hx => by
    have := p.mem_iff.mp hx
    simp only [List.mem_map] at this
    obtain ⟨k, _, rfl⟩ := this
    exact ⟨by simp, trivial⟩
  refine ⟨(walkOf w a ep (entA tk (pts m))).toList.map fun x => x.1.toNat, ?_, ?_⟩
  · have q := p.map fun x => x.1.toNat
    have e : (entA tk (pts m)).toList.map (fun x => x.1.toNat) = pts m := by
      simp [Function.comp_def]
    rw [e] at q; exact q
  · rw [List.map_map]
    conv => lhs; rw [← List.map_id (walkOf w a ep (entA tk (pts m))).toList]
    exact List.map_congr_left fun x hx => (hinj x hx).1

theorem diffUpdate_ {id : String} {o : Addr} {cls₂ : String} {tk₂ : Nat → Tok} {r ep₂ : Nat} {t₂ : SetTable} {Q : Unit → Shared → Prop} (hne : o ≠ a) (hc2 : IsSetCls cls₂)
    (ho : s.heap.get? a = some (setObj cls tk m ep t)) (T : Tab w wk t m) (hm : m < 64) (ho₂ : s.heap.get? o = some (setObj cls₂ tk₂ r ep₂ t₂)) (T₂ : Tab w wk₂ t₂ r)
    (h : ∀ h' ep' t', Heap.SameBut a s.heap h' → h'.get? a = some (setObj cls tk (sub m r) ep' t') → Tab w wk t' (sub m r) → sub m r < 64 → Q () { s with heap := h' }) :
    wpAny (model prog w) A (Builtin.Frozenset.differenceUpdate id a (.ref o)) Q E s := by
  unfold Builtin.Frozenset.differenceUpdate
  rw [if_neg (show ¬ ((Value.ref o == Value.ref a) = true) by simp [hne])]
  refine wpAny_bind (isAnySet_ ⟨_, ho₂, rfl⟩ hc2 ?_)
  dsimp only [Builtin.Frozenset.addrOf]
  rw [if_pos rfl]
  refine wpAny_bind (wpAny_bind (wpAny_pure ?_))
  show wpAny _ _ (Sem.pure o) _ _ _
  refine wpAny_pure ?_
  refine wpAny_bind (sizeOf_ ho₂ T₂ ?_)
  refine wpAny_bind (sizeOf_ ho T ?_)
  have h8 : ¬ ((pts r).length / 8 > (pts m).length) := by have := pts_len r; omega
  rw [if_neg h8]
  refine wpAny_bind (setEpoch_ ho₂ T₂ ?_)
  refine wpAny_bind (wpAny_holding (wpAny_bind (setWalkUnseen_ ho₂ T₂ ?_)))
  obtain ⟨l, pl, el⟩ := walk_ents (w := w) (a := o) (ep := ep₂) (tk := tk₂) (m := r)
  have hl6 : ∀ k ∈ l, k < 6 := fun k hk => pts_lt (pl.mem_iff.mp hk)
  refine wpAny_bind (forIn_array_ _ (fun rest _ s' => ∃ done l' h' ep' t', l = done ++ l' ∧ rest = l'.map (ent tk₂) ∧ s' = { s with heap := h' } ∧ Heap.SameBut a s.heap h' ∧
      h'.get? a = some (setObj cls tk (done.foldl del m) ep' t') ∧ Tab w wk t' (done.foldl del m)) _ ?_ ?_ _ _
      ⟨[], l, s.heap, ep, t, rfl, el, rfl, Heap.SameBut.refl _ _, ho, T⟩)
  · rintro x rest b s' ⟨done, l', h', ep', t', rfl, hr, rfl, hs, hg, T'⟩
    cases l' with
    | nil => cases hr
    | cons k l' =>
      simp only [List.map_cons, List.cons.injEq] at hr
      obtain ⟨rfl, rfl⟩ := hr
      have hk : k < 6 := hl6 k (List.mem_append_right _ (.head _))
      have hlt : done.foldl del m < 64 := foldl_del_lt done m hm fun k hk => hl6 k (List.mem_append_left _ hk)
      dsimp only
      refine wpAny_bind (wpAny_holding (discard_ (s := { s with heap := h' }) hg T' hlt hk fun h'' ep'' t'' hs'' hg'' T'' b => ?_))
      unfold Builtin.Frozenset.unchanged
      have ho₂' : h''.get? o = some (setObj cls₂ tk₂ r ep₂ t₂) := by rw [hs''.2 o hne, hs.2 o hne]; exact ho₂
      refine wpAny_bind (wpAny_bind (setEpoch_ (s := { s with heap := h'' }) ho₂' T₂ ?_))
      rw [if_neg (by simp)]
      refine wpAny_pure ?_
      refine wpAny_pure ?_
      refine ⟨done ++ [k], l', h'', ep'', t'', by simp, rfl, rfl, hs.trans hs'', ?_, ?_⟩
      · rw [List.foldl_append]; exact hg''
      · rw [List.foldl_append]; exact T''
  · rintro b s' ⟨done, l', h', ep', t', rfl, hr, rfl, hs, hg, T'⟩
    cases l' with
    | cons k l' => cases hr
    | nil =>
      rw [List.append_nil] at pl hl6
      have hlt : done.foldl del m < 64 := foldl_del_lt done m hm hl6
      have e : done.foldl del m = sub m r := foldl_del_perm pl m hm hl6
      refine wpAny_pure ?_
      refine tidy_ (s := { s with heap := h' }) hg T' hlt fun h'' ep'' t'' hs'' hg'' T'' => ?_
      rw [e] at hg'' T'' hlt
      exact h h'' ep'' t'' (hs.trans hs'') hg'' T'' hlt
end
end Mine

end
section
open PySem PySem.W PyProof.Rows
set_option Elab.async false
set_option maxRecDepth 100000
set_option linter.unusedVariables false
set_option linter.unusedSimpArgs false
namespace Mine

theorem fillsI_set : fillsInplaceSlot (.type "set") "sub" (Operator.Sub == Operator.Add) = pure true := by
  unfold fillsInplaceSlot
  show (typeLookup (.type "set") (dunderI "sub") >>= fun fi => pure (fi.isSome && !isSeqSlot fi)) = pure true
  rw [F.slot_set_isub.lookup]
  show (pure (true && !isSeqSlot (some (Value.builtin "set.__isub__"))) : Sem Bool) = pure true
  rw [show isSeqSlot (some (Value.builtin "set.__isub__")) = false from by decide +kernel]; rfl
theorem noFillsI {T : String} (h : typeLookup (.type T) (dunderI "sub") = pure none) : fillsInplaceSlot (.type T) "sub" (Operator.Sub == Operator.Add) = pure false := by
  unfold fillsInplaceSlot
  show (typeLookup (.type T) (dunderI "sub") >>= fun fi => pure (fi.isSome && !isSeqSlot fi)) = pure false
  rw [h]; rfl

section
variable {prog : Program} {w : World} {A : Around} {E : Value → Shared → Prop} {s : Shared} {a : Addr} {cls : String} {tk : Nat → Tok} {m ep : Nat} {t : SetTable} {wk wk₂ : Bool}

theorem isub_via {v : Value} {Q : Value → Shared → Prop} (hT : s.TypeIs (.ref a) "set") (hc : wpAny (model prog w) A (call (.builtin "set.__isub__") [.ref a, v]) (fun r s' => r ≠ .notImplemented ∧ Q r s') E s) :
    wpAny (model prog w) A (inplaceOp .Sub (.ref a) v) Q E s := by
  unfold inplaceOp
  refine wpAny_holding ?_
  refine wpAny_bind (wpAny_typeOf hT (wpAny_bind (wpAny_of_eq fillsI_set ?_)))
  rw [if_pos rfl]
  refine wpAny_bind (wpAny_tryMethod_slot hT F.slot_set_isub (wpAny_mono hc (fun r s' h => ⟨h.1, ?_⟩) fun _ _ e => e))
  exact wpAny_bind (wpAny_rule (wpAny_pure h.2))

theorem isub_set {o : Addr} {cls₂ : String} {tk₂ : Nat → Tok} {r ep₂ : Nat} {t₂ : SetTable} {Q : Value → Shared → Prop} (hne : o ≠ a) (hc2 : IsSetCls cls₂)
    (ho : s.heap.get? a = some (setObj "set" tk m ep t)) (T : Tab w wk t m) (hm : m < 64) (ho₂ : s.heap.get? o = some (setObj cls₂ tk₂ r ep₂ t₂)) (T₂ : Tab w wk₂ t₂ r)
    (h : ∀ h' ep' t', Heap.SameBut a s.heap h' → h'.get? a = some (setObj "set" tk (sub m r) ep' t') → Tab w wk t' (sub m r) → sub m r < 64 → Q (.ref a) { s with heap := h' }) :
    wpAny (model prog w) A (inplaceOp .Sub (.ref a) (.ref o)) Q E s := by
  have hT : s.TypeIs (.ref a) "set" := ⟨_, ho, rfl⟩
  refine isub_via hT (wpAny_call_entry F.slot_set_isub hT F.entry_set_isub ?_ (F.args_set_isub_2 _ _))
  unfold Builtin.«set.__isub__»
  show wpAny _ _ (do
    let x ← Builtin.Frozenset.slot1 "__isub__" ⟨[.ref a, .ref o], []⟩
    if !(← Builtin.Frozenset.isAnySet x.2) then rule s!"set.{"__isub__"}.declined"; return ← ret .notImplemented
    Builtin.Frozenset.differenceUpdate s!"set.{"__isub__"}" (← Builtin.Frozenset.addrOf x.1) x.2
    ret x.1) _ _ _
  refine wpAny_bind (?_ : wpAny _ _ (pure (Value.ref a, Value.ref o)) _ _ _)
  refine wpAny_pure ?_
  refine wpAny_bind (isAnySet_ ⟨_, ho₂, rfl⟩ hc2 ?_)
  rw [if_neg (by decide)]
  refine wpAny_bind (wpAny_pure ?_)
  refine wpAny_bind (diffUpdate_ hne hc2 ho T hm ho₂ T₂ fun h' ep' t' hs hg T' hlt => ?_)
  exact wpAny_pure ⟨_, rfl, (by intro e; cases e), h h' ep' t' hs hg T' hlt⟩

theorem clearAll_ {Q : Unit → Shared → Prop} (ho : s.heap.get? a = some (setObj cls tk m ep t)) (T : Tab w wk t m)
    (h : ∀ h' ep' t', Heap.SameBut a s.heap h' → h'.get? a = some (setObj cls tk 0 ep' t') → Tab w wk t' 0 → Q () { s with heap := h' }) :
    wpAny (model prog w) A (Builtin.Frozenset.clearAll a) Q E s := by
  unfold Builtin.Frozenset.clearAll setClear setDeathsKnown setItems
  simp only [bind_assoc]
  refine wpAny_bind (setState_ ho T ?_)
  dsimp only
  refine wpAny_bind (setsByText_ ?_)
  refine wpAny_bind (wpAny_pure ?_)
  have hc : (w.params.followText "set-order" || (t.led && t.plain) || decide ((entA tk (pts m)).size ≤ 1)) = true := by
    rw [entA_size, T.plain]
    rcases T.led with h1 | h1 | ⟨_, h1⟩
    · rw [h1]; rfl
    · rw [h1]; simp
    · simp [h1]
  rw [if_pos hc]
  refine wpAny_bind (wpAny_bind (setWalk_ ho T ?_))
  refine wpAny_bind (wpAny_pure ?_)
  refine wpAny_bind (wpAny_pure ?_)
  refine wpAny_bind (setState_ ho T ?_)
  refine wpAny_bind (setsByText_ ?_)
  refine wpAny_bind (wpAny_storeSet_of ho rfl ?_ (Nat.zero_le _))
  refine wpAny_bind (wpAny_pure ?_)
  have fin := h _ (ep + 1) (t.cleared (!w.params.followText "set-order" && (t.led || t.finger == 0))) (Heap.SameBut.update s.heap a _) (get_put ho) ?_
  · refine wpAny_pure ?_
    show wpAny _ _ (letGo _) _ _ _
    exact wpAny_letGo fin
  · refine ⟨rfl, ?_, .inl rfl, ?_, ?_⟩
    · show (pts 0).length + (#[] : Array Nat).size ≤ 6
      decide
    · show (t.plain || t.finger == 0) = true
      rw [T.plain]; rfl
    · cases hb : w.params.followText "set-order" with
      | true => exact .inl rfl
      | false =>
        rcases T.led with h1 | h1 | ⟨h0, h1⟩
        · rw [hb] at h1; cases h1
        · refine .inr (.inl ?_)
          show (!false && (t.led || t.finger == 0)) = true
          rw [h1]; rfl
        · exact .inr (.inr ⟨h0, by decide⟩)

theorem isub_self {Q : Value → Shared → Prop}
    (ho : s.heap.get? a = some (setObj "set" tk m ep t)) (T : Tab w wk t m)
    (h : ∀ h' ep' t', Heap.SameBut a s.heap h' → h'.get? a = some (setObj "set" tk 0 ep' t') → Tab w wk t' 0 → Q (.ref a) { s with heap := h' }) :
    wpAny (model prog w) A (inplaceOp .Sub (.ref a) (.ref a)) Q E s := by
  have hT : s.TypeIs (.ref a) "set" := ⟨_, ho, rfl⟩
  refine isub_via hT (wpAny_call_entry F.slot_set_isub hT F.entry_set_isub ?_ (F.args_set_isub_2 _ _))
  unfold Builtin.«set.__isub__»
  show wpAny _ _ (do
    let x ← Builtin.Frozenset.slot1 "__isub__" ⟨[.ref a, .ref a], []⟩
    if !(← Builtin.Frozenset.isAnySet x.2) then rule s!"set.{"__isub__"}.declined"; return ← ret .notImplemented
    Builtin.Frozenset.differenceUpdate s!"set.{"__isub__"}" (← Builtin.Frozenset.addrOf x.1) x.2
    ret x.1) _ _ _
  refine wpAny_bind (?_ : wpAny _ _ (pure (Value.ref a, Value.ref a)) _ _ _)
  refine wpAny_pure ?_
  refine wpAny_bind (isAnySet_ hT (.inl rfl) ?_)
  rw [if_neg (by decide)]
  refine wpAny_bind (wpAny_pure ?_)
  refine wpAny_bind (?_ : wpAny _ _ (Builtin.Frozenset.differenceUpdate _ a (.ref a)) _ _ _)
  unfold Builtin.Frozenset.differenceUpdate
  rw [if_pos (by simp)]
  refine wpAny_bind (wpAny_rule (clearAll_ ho T fun h' ep' t' hs hg T' => ?_))
  exact wpAny_pure ⟨_, rfl, (by intro e; cases e), h h' ep' t' hs hg T'⟩
end
end Mine

end
section
open PySem PySem.W PyProof.Rows
set_option Elab.async false
set_option maxRecDepth 100000
set_option linter.unusedVariables false
set_option linter.unusedSimpArgs false
namespace Mine

/-- a type whose values a set refuses under minus -/
structure Bad (T : String) : Prop where
  ne : (Value.type T == Value.type "set") = false
  noSet : isSubtype (.type T) (.type "set") = pure false
  noFro : isSubtype (.type T) (.type "frozenset") = pure false
  setNo : isSubtype (.type "set") (.type T) = pure false
  noI : typeLookup (.type T) (dunderI "sub") = pure none
  nm : (Value.type T == Value.type "builtin_function_or_method") = false
  len : (shownName T).length ≤ 1000
  fills : fillsNumberSlot (.type T) "sub" = pure false ∨ (fillsNumberSlot (.type T) "sub" = pure true ∧ T = "int")

theorem bad_list : Bad "list" where
  ne := by decide
  noSet := by rw [isSubtype_type]; kernel_rfl
  noFro := by rw [isSubtype_type]; kernel_rfl
  setNo := by rw [isSubtype_type]; kernel_rfl
  noI := by rw [typeLookup_type, builtinLookup_eq_fast]; kernel_rfl
  nm := by decide
  len := by decide +kernel
  fills := .inl (by
    have h1 : typeLookup (.type "list") (dunder "sub") = pure none := by rw [typeLookup_type, builtinLookup_eq_fast]; kernel_rfl
    have h2 : typeLookup (.type "list") (dunderR "sub") = pure none := by rw [typeLookup_type, builtinLookup_eq_fast]; kernel_rfl
    simp only [fillsNumberSlot, h1, h2, pure_bind]; rfl)
theorem bad_none : Bad "NoneType" where
  ne := by decide
  noSet := by rw [isSubtype_type]; kernel_rfl
  noFro := by rw [isSubtype_type]; kernel_rfl
  setNo := by rw [isSubtype_type]; kernel_rfl
  noI := by rw [typeLookup_type, builtinLookup_eq_fast]; kernel_rfl
  nm := by decide
  len := by decide +kernel
  fills := .inl (by
    have h1 : typeLookup (.type "NoneType") (dunder "sub") = pure none := by rw [typeLookup_type, builtinLookup_eq_fast]; kernel_rfl
    have h2 : typeLookup (.type "NoneType") (dunderR "sub") = pure none := by rw [typeLookup_type, builtinLookup_eq_fast]; kernel_rfl
    simp only [fillsNumberSlot, h1, h2, pure_bind]; rfl)
theorem bad_int : Bad "int" where
  ne := by decide
  noSet := by rw [isSubtype_type]; kernel_rfl
  noFro := by rw [isSubtype_type]; kernel_rfl
  setNo := by rw [isSubtype_type]; kernel_rfl
  noI := F.noI_int_sub
  nm := by decide
  len := by decide +kernel
  fills := .inr ⟨F.fills_int_sub, rfl⟩

theorem alias_tree {id id' : String} {b : Builtin} (h1 : entriesT.find (code id) = none) (h2 : id.cutAt '#' = [id])
    (h3 : Manifest.canonical (String.map (fun c => if (c.isAlphanum || c == '_' || c == '.') = true then c else '_') id) ++ "" = id') (h4 : entriesT.find (code id') = some b) : entryFor table id = some b :=
  entryFor_alias (by rw [fastTable_eq_tree]; exact h1) h2 h3 (by rw [fastTable_eq_tree]; exact h4)
theorem entry_set_sub : entryFor table "set.__sub__" = some Builtin.«frozenset.__sub__» :=
  alias_tree (id' := "frozenset.__sub__") (by kernel_rfl) rfl (by decide +kernel) (by kernel_rfl)
theorem entry_set_rsub : entryFor table "set.__rsub__" = some Builtin.«frozenset.__rsub__» :=
  alias_tree (id' := "frozenset.__rsub__") (by kernel_rfl) rfl (by decide +kernel) (by kernel_rfl)

section
variable {prog : Program} {w : World} {A : Around} {E : Value → Shared → Prop} {s : Shared} {a : Addr} {v : Value} {T : String}

theorem noAnySet_ {Q : Bool → Shared → Prop} (B : Bad T) (hv : s.TypeIs v T) (h : Q false s) : wpAny (model prog w) A (Builtin.Frozenset.isAnySet v) Q E s := by
  unfold Builtin.Frozenset.isAnySet
  refine wpAny_bind (wpAny_isInstance hv B.noSet ?_)
  exact wpAny_isInstance hv B.noFro h

theorem isub_declines {Q : Value → Shared → Prop} (B : Bad T) (ha : s.TypeIs (.ref a) "set") (hv : s.TypeIs v T) (h : Q .notImplemented s) :
    wpAny (model prog w) A (call (.builtin "set.__isub__") [.ref a, v]) Q E s := by
  refine wpAny_call_entry F.slot_set_isub ha F.entry_set_isub ?_ (F.args_set_isub_2 _ _)
  unfold Builtin.«set.__isub__»
  show wpAny _ _ (do
    let x ← Builtin.Frozenset.slot1 "__isub__" ⟨[.ref a, v], []⟩
    if !(← Builtin.Frozenset.isAnySet x.2) then rule s!"set.{"__isub__"}.declined"; return ← ret .notImplemented
    Builtin.Frozenset.differenceUpdate s!"set.{"__isub__"}" (← Builtin.Frozenset.addrOf x.1) x.2
    ret x.1) _ _ _
  refine wpAny_bind (?_ : wpAny _ _ (pure (Value.ref a, v)) _ _ _)
  refine wpAny_pure ?_
  refine wpAny_bind (noAnySet_ B hv ?_)
  rw [if_pos (by decide)]
  refine wpAny_bind (wpAny_rule (wpAny_pure ⟨_, rfl, h⟩))

theorem sub_declines {Q : Value → Shared → Prop} (B : Bad T) (ha : s.TypeIs (.ref a) "set") (hv : s.TypeIs v T) (h : Q .notImplemented s) :
    wpAny (model prog w) A (call (.builtin "set.__sub__") [.ref a, v]) Q E s := by
  refine wpAny_call_entry F.slot_set_sub ha entry_set_sub ?_ (F.args_set_sub_2 _ _)
  unfold Builtin.«frozenset.__sub__»
  show wpAny _ _ (do
    let x ← Builtin.Frozenset.slot1 "__sub__" ⟨[.ref a, v], []⟩
    if !(← Builtin.Frozenset.isAnySet x.1 <&&> Builtin.Frozenset.isAnySet x.2) then rule s!"frozenset.{"__sub__"}.declined"; return ← ret .notImplemented
    ret (← Builtin.Frozenset.difference s!"frozenset.{"__sub__"}" (← Builtin.Frozenset.addrOf x.1) x.2)) _ _ _
  refine wpAny_bind (?_ : wpAny _ _ (pure (Value.ref a, v)) _ _ _)
  refine wpAny_pure ?_
  refine wpAny_bind (wpAny_bind (isAnySet_ ha (.inl rfl) ?_))
  show wpAny _ _ (Builtin.Frozenset.isAnySet v) _ _ _
  refine noAnySet_ B hv ?_
  rw [if_pos (by decide)]
  refine wpAny_bind (wpAny_rule (wpAny_pure ⟨_, rfl, h⟩))

theorem rsub_declines {Q : Value → Shared → Prop} (B : Bad T) (ha : s.TypeIs (.ref a) "set") (hv : s.TypeIs v T) (h : Q .notImplemented s) :
    wpAny (model prog w) A (call (.builtin "set.__rsub__") [.ref a, v]) Q E s := by
  refine wpAny_call_entry F.slot_set_rsub ha entry_set_rsub ?_ (F.args_set_rsub_2 _ _)
  unfold Builtin.«frozenset.__rsub__»
  show wpAny _ _ (do
    let x ← Builtin.Frozenset.slot1 "__rsub__" ⟨[.ref a, v], []⟩
    if !(← Builtin.Frozenset.isAnySet x.2 <&&> Builtin.Frozenset.isAnySet x.1) then rule s!"frozenset.{"__rsub__"}.declined"; return ← ret .notImplemented
    ret (← Builtin.Frozenset.difference s!"frozenset.{"__rsub__"}" (← Builtin.Frozenset.addrOf x.2) x.1)) _ _ _
  refine wpAny_bind (?_ : wpAny _ _ (pure (Value.ref a, v)) _ _ _)
  refine wpAny_pure ?_
  refine wpAny_bind (wpAny_bind (noAnySet_ B hv ?_))
  show wpAny _ _ (pure false) _ _ _
  refine wpAny_pure ?_
  rw [if_pos (by decide)]
  refine wpAny_bind (wpAny_rule (wpAny_pure ⟨_, rfl, h⟩))

theorem int_sub_declines {i : Int} {u : Tok} {Q : Value → Shared → Prop} {tk : Nat → Tok} {m ep : Nat} {t : SetTable} (ho : s.heap.get? a = some (setObj "set" tk m ep t)) (h : Q .notImplemented s) :
    wpAny (model prog w) A (call (.builtin "int.__sub__") [.int i u, .ref a]) Q E s := by
  refine wpAny_call_entry F.slot_int_sub (typeIs_int s i u) F.entry_int_sub ?_ (F.args_int_sub_2 _ _)
  unfold Builtin.«int.__sub__» Builtin.Int.intBinary
  refine wpAny_bind (?_ : wpAny _ _ (pure (Value.int i u, [Value.ref a])) _ _ _)
  refine wpAny_pure ?_
  dsimp only
  refine wpAny_bind (?_ : wpAny _ _ (pure i) _ _ _)
  refine wpAny_pure ?_
  refine wpAny_bind (wpAny_bind (wpAny_load ho (wpAny_pure ?_)))
  exact wpAny_bind (wpAny_rule (wpAny_pure ⟨_, rfl, h⟩))
theorem int_rsub_declines {i : Int} {u : Tok} {Q : Value → Shared → Prop} {tk : Nat → Tok} {m ep : Nat} {t : SetTable} (ho : s.heap.get? a = some (setObj "set" tk m ep t)) (h : Q .notImplemented s) :
    wpAny (model prog w) A (call (.builtin "int.__rsub__") [.int i u, .ref a]) Q E s := by
  refine wpAny_call_entry F.slot_int_rsub (typeIs_int s i u) F.entry_int_rsub ?_ (F.args_int_rsub_2 _ _)
  unfold Builtin.«int.__rsub__» Builtin.Int.intBinary
  refine wpAny_bind (?_ : wpAny _ _ (pure (Value.int i u, [Value.ref a])) _ _ _)
  refine wpAny_pure ?_
  dsimp only
  refine wpAny_bind (?_ : wpAny _ _ (pure i) _ _ _)
  refine wpAny_pure ?_
  refine wpAny_bind (wpAny_bind (wpAny_load ho (wpAny_pure ?_)))
  exact wpAny_bind (wpAny_rule (wpAny_pure ⟨_, rfl, h⟩))

theorem tryInt_rsub {i : Int} {u : Tok} {tk : Nat → Tok} {m ep : Nat} {t : SetTable} (ho : s.heap.get? a = some (setObj "set" tk m ep t)) {Q : Option Value → Shared → Prop} (h : Q none s) :
    wpAny (model prog w) A (tryMethod (Value.int i u) (dunderR "sub") (Value.ref a)) Q E s := by
  have h1 : wpAny (model prog w) A (call (.builtin "int.__rsub__") [.int i u, .ref a]) (fun v s' => v = .notImplemented ∧ Q none s') E s := int_rsub_declines ho ⟨rfl, h⟩
  have h2 := @wpAny_tryMethod_declines (model prog w) A E s (.int i u) (.ref a) "int" (dunderR "sub") "int.__rsub__" Q (typeIs_int s i u) F.slot_int_rsub h1
  exact h2
theorem tryInt_sub {i : Int} {u : Tok} {tk : Nat → Tok} {m ep : Nat} {t : SetTable} (ho : s.heap.get? a = some (setObj "set" tk m ep t)) {Q : Option Value → Shared → Prop} (h : Q none s) :
    wpAny (model prog w) A (tryMethod (Value.int i u) (dunder "sub") (Value.ref a)) Q E s := by
  have h1 : wpAny (model prog w) A (call (.builtin "int.__sub__") [.int i u, .ref a]) (fun v s' => v = .notImplemented ∧ Q none s') E s := int_sub_declines ho ⟨rfl, h⟩
  have h2 := @wpAny_tryMethod_declines (model prog w) A E s (.int i u) (.ref a) "int" (dunder "sub") "int.__sub__" Q (typeIs_int s i u) F.slot_int_sub h1
  exact h2
/-- v, when its type is int, is an int -/
def IntOnly (v : Value) (T : String) : Prop := T = "int" → ∃ i u, v = .int i u

theorem op1_right {tk : Nat → Tok} {m ep : Nat} {t : SetTable} {Q : Option Value → Shared → Prop} (B : Bad T) (hi : IntOnly v T) (ho : s.heap.get? a = some (setObj "set" tk m ep t)) (hv : s.TypeIs v T) (h : Q none s) :
    wpAny (model prog w) A (binaryOp1 "sub" (.ref a) v) Q E s := by
  have ha : s.TypeIs (.ref a) "set" := ⟨_, ho, rfl⟩
  have hne : (Value.type "set" == Value.type T) = false := by rw [Bool.eq_false_iff]; intro e; have := B.ne; rw [beq_iff_eq.mp e] at this; simp at this
  simp only [binaryOp1]
  refine wpAny_bind (wpAny_typeOf ha (wpAny_bind (wpAny_typeOf hv (wpAny_bind (wpAny_of_eq F.fills_set_sub ?_)))))
  simp only [hne, Bool.false_eq_true, if_false]
  rcases B.fills with hf | ⟨hf, hT⟩
  · refine wpAny_bind (wpAny_of_eq hf ?_)
    simp only [Bool.and_false, Bool.false_and, Bool.false_eq_true, if_false, pure_bind, if_true]
    refine wpAny_bind (wpAny_tryMethod_declines ha F.slot_set_sub (sub_declines B ha hv ⟨rfl, ?_⟩))
    exact wpAny_pure h
  · obtain ⟨i, u, rfl⟩ := hi hT
    refine wpAny_bind (wpAny_of_eq hf ?_)
    simp only [Bool.and_self, if_true]
    refine wpAny_bind (wpAny_of_eq (by rw [hT]; rw [isSubtype_type]; kernel_rfl : isSubtype (.type T) (.type "set") = pure false) ?_)
    have hpy : numberSlotInPython (.type "set") "sub" = pure false := rfl
    simp only [Bool.false_eq_true, if_false, pure_bind, Bool.not_false, Bool.and_self, if_true, hpy]
    refine wpAny_bind (wpAny_tryMethod_declines ha F.slot_set_sub (sub_declines B ha hv ⟨rfl, ?_⟩))
    dsimp only
    refine wpAny_bind (tryInt_rsub ho ?_)
    exact wpAny_pure h

theorem op1_left {tk : Nat → Tok} {m ep : Nat} {t : SetTable} {Q : Option Value → Shared → Prop} (B : Bad T) (hi : IntOnly v T) (ho : s.heap.get? a = some (setObj "set" tk m ep t)) (hv : s.TypeIs v T) (h : Q none s) :
    wpAny (model prog w) A (binaryOp1 "sub" v (.ref a)) Q E s := by
  have ha : s.TypeIs (.ref a) "set" := ⟨_, ho, rfl⟩
  rcases B.fills with hf | ⟨hf, hT⟩
  · exact wpAny_binaryOp1_right_declines (nm := "sub") B.ne hv ha hf F.fills_set_sub F.slot_set_rsub (rsub_declines B ha hv ⟨rfl, h⟩)
  · obtain ⟨i, u, rfl⟩ := hi hT
    simp only [binaryOp1]
    refine wpAny_bind (wpAny_typeOf hv (wpAny_bind (wpAny_typeOf ha (wpAny_bind (wpAny_of_eq hf ?_)))))
    simp only [B.ne, Bool.false_eq_true, if_false]
    refine wpAny_bind (wpAny_of_eq F.fills_set_sub ?_)
    simp only [Bool.and_self, if_true]
    refine wpAny_bind (wpAny_of_eq B.setNo ?_)
    have hpy : numberSlotInPython (.type T) "sub" = pure false := rfl
    simp only [Bool.false_eq_true, if_false, pure_bind, Bool.not_false, Bool.and_self, if_true, hpy]
    refine wpAny_bind (tryInt_sub ho ?_)
    dsimp only
    refine wpAny_bind (wpAny_tryMethod_declines ha F.slot_set_rsub (rsub_declines B ha hv ⟨rfl, ?_⟩))
    exact wpAny_pure h

theorem shown_set_len : (shownName "set").length ≤ 1000 := by decide +kernel
theorem opError {x y : Value} {T U sym : String} {Q : Value → Shared → Prop} (hh : A.handled = none) (hx : s.TypeIs x T) (hy : s.TypeIs y U)
    (nx : (Value.type T == Value.type "builtin_function_or_method") = false) (ny : (Value.type U == Value.type "builtin_function_or_method") = false)
    (lx : (shownName T).length ≤ 1000) (ly : (shownName U).length ≤ 1000) (ls : sym.length ≤ 10)
    (h : ∀ h' tk e, Heap.NewExc s.heap h' e "TypeError" → E (.ref e) { s with heap := h', toks := tk }) :
    wpAny (model prog w) A (binopTypeError sym x y : Sem Value) Q E s := by
  unfold binopTypeError
  refine wpAny_bind (wpAny_rule (wpAny_bind (wpAny_typeNameOf' hx nx (wpAny_bind (wpAny_typeNameOf' hy ny ?_)))))
  refine wpAny_raiseErrorMade plainExc_TypeError hh h ?_
  show (Str.ofString _).length ≤ sizeLine
  rw [PySem.ofString_length, sizeLine_eq]
  simp only [String.length_append, toString]
  have e1 : "'".length ≤ 100 := by decide
  have e2 : "unsupported operand type(s) for ".length ≤ 100 := by decide
  have e3 : ": '".length ≤ 100 := by decide
  have e4 : "' and '".length ≤ 100 := by decide
  omega

theorem refuse_right {tk : Nat → Tok} {m ep : Nat} {t : SetTable} {Q : Value → Shared → Prop} (hh : A.handled = none) (B : Bad T) (hi : IntOnly v T) (ho : s.heap.get? a = some (setObj "set" tk m ep t)) (hv : s.TypeIs v T)
    (h : ∀ h' tk e, Heap.NewExc s.heap h' e "TypeError" → E (.ref e) { s with heap := h', toks := tk }) :
    wpAny (model prog w) A (inplaceOp .Sub (.ref a) v) Q E s := by
  have ha : s.TypeIs (.ref a) "set" := ⟨_, ho, rfl⟩
  unfold inplaceOp
  refine wpAny_holding ?_
  refine wpAny_bind (wpAny_typeOf ha (wpAny_bind (wpAny_of_eq fillsI_set ?_)))
  rw [if_pos rfl]
  refine wpAny_bind (wpAny_tryMethod_declines ha F.slot_set_isub (isub_declines B ha hv ⟨rfl, ?_⟩))
  refine wpAny_bind (op1_right B hi ho hv ?_)
  exact opError hh ha hv (by decide) B.nm shown_set_len B.len (by decide) h
theorem refuse_left {tk : Nat → Tok} {m ep : Nat} {t : SetTable} {Q : Value → Shared → Prop} (hh : A.handled = none) (B : Bad T) (hi : IntOnly v T) (ho : s.heap.get? a = some (setObj "set" tk m ep t)) (hv : s.TypeIs v T)
    (h : ∀ h' tk e, Heap.NewExc s.heap h' e "TypeError" → E (.ref e) { s with heap := h', toks := tk }) :
    wpAny (model prog w) A (inplaceOp .Sub v (.ref a)) Q E s := by
  have ha : s.TypeIs (.ref a) "set" := ⟨_, ho, rfl⟩
  unfold inplaceOp
  refine wpAny_holding ?_
  refine wpAny_bind (wpAny_typeOf hv (wpAny_bind (wpAny_of_eq (noFillsI B.noI) ?_)))
  rw [if_neg Bool.false_ne_true]
  refine wpAny_bind (op1_left B hi ho hv ?_)
  exact opError hh hv ha B.nm (by decide) B.len shown_set_len (by decide) h
end
end Mine

end
section
open PySem PySem.W PyProof.Rows
set_option Elab.async false
set_option maxRecDepth 100000
set_option linter.unusedVariables false
set_option linter.unusedSimpArgs false
namespace Mine

structure NewT (w : World) (nk : Bool) (t : SetTable) (m : Nat) : Prop where
  place : t.place = (pts m).toArray
  dummies : t.dummies = #[]
  mask : t.mask = if 5 ≤ (pts m).length then 31 else 7
  plain : t.plain = true
  led : w.params.followText "set-order" = true ∨ t.led = true ∨ nk = true
theorem NewT.tab {w : World} {wk : Bool} {t : SetTable} {m : Nat} (T : NewT w false t m) : Tab w wk t m where
  place := T.place
  fill := by rw [T.dummies]; have := pts_len m; simpa using this
  mask := by rw [T.mask]; split <;> simp
  plain := T.plain
  led := by
    rcases T.led with h | h | h
    · exact .inl h
    · exact .inr (.inl h)
    · cases h
theorem NewT.tab1 {w : World} {nk : Bool} {t : SetTable} {m : Nat} (T : NewT w nk t m) (h : (pts m).length ≤ 1) : Tab w true t m where
  place := T.place
  fill := by rw [T.dummies]; have := pts_len m; simpa using this
  mask := by rw [T.mask]; split <;> simp
  plain := T.plain
  led := .inr (.inr ⟨rfl, h⟩)

theorem len_ins : ∀ m < 64, ∀ k < 6, m.testBit k = false → (pts (m ||| 2 ^ k)).length = (pts m).length + 1 ∧ m ||| 2 ^ k < 64 := by decide +kernel
theorem or_old : ∀ m < 64, ∀ k < 6, m.testBit k = true → m ||| 2 ^ k = m := by decide +kernel
theorem bits_ : ∀ k : Nat, k < 6 → SetTable.bits (k : Int) = k := by decide +kernel
theorem below_nil (k : Nat) : SetTable.has #[] k = false := by simp [SetTable.has]

theorem NewT.slot {w : World} {nk : Bool} {t : SetTable} {m k : Nat} (T : NewT w nk t m) (hm : m < 64) (hk : k < 6) (hb : m.testBit k = false) : t.slot k = .empty := by
  obtain ⟨h1, _⟩ := pts_below m hm k hk hb
  unfold SetTable.slot
  rw [T.place, T.dummies, below_nil]
  dsimp only at h1 ⊢
  rw [if_neg (by simpa using h1)]
  rfl
theorem NewT.free {w : World} {nk : Bool} {t : SetTable} {m k : Nat} (T : NewT w nk t m) (hm : m < 64) (hk : k < 6) (hb : m.testBit k = false) : t.freeSlot (k : Int) = some (k, false) := by
  have hs := T.slot hm hk hb
  have hM : k < t.mask + 1 := by rw [T.mask]; split <;> omega
  unfold SetTable.freeSlot SetTable.probe
  have hj : (t.probeStart (k : Int)).j = k := by
    unfold SetTable.probeStart
    dsimp only
    rw [bits_ k hk, Nat.mod_eq_of_lt hM]
  have hf : ∃ n, 10 * SetTable.turns t.mask = n + 1 := ⟨10 * SetTable.turns t.mask - 1, by unfold SetTable.turns; omega⟩
  obtain ⟨n, hn⟩ := hf
  rw [hn]
  unfold SetTable.probe.go
  rw [hj, hs]
  rfl
theorem ins_ent (tk : Nat → Tok) (u : Tok) {m k : Nat} (hm : m < 64) (hk : k < 6) (hb : m.testBit k = false) :
    SetTable.insertAt (entA tk (pts m)) (SetTable.below (pts m).toArray k) ((k : Int), Value.int (k : Int) u) = entA (fun j => if j = k then u else tk j) (pts (m ||| 2 ^ k)) := by
  apply Array.toList_inj.mp
  rw [SetTable.toList_insertAt]
  rw [← pts_insert m hm k hk hb]
  have hn : ∀ j ∈ pts m, j ≠ k := fun j hj e => by rw [e] at hj; rw [(mem_pts.mp hj).2] at hb; cases hb
  have e1 : ∀ l : List Nat, (∀ j ∈ l, j ∈ pts m) → l.map (ent fun j => if j = k then u else tk j) = l.map (ent tk) := fun l hl => List.map_congr_left fun j hj => by simp [ent, hn j (hl j hj)]
  simp only [List.map_append, List.map_cons]
  rw [e1 _ fun j hj => List.mem_of_mem_take hj, e1 _ fun j hj => List.mem_of_mem_drop hj]
  simp [List.map_take, List.map_drop, ent]

section
variable {prog : Program} {w : World} {A : Around} {E : Value → Shared → Prop} {s : Shared} {a : Addr} {cls : String} {tk : Nat → Tok} {m ep : Nat} {t : SetTable}

theorem relayAll_ (hm : m < 64) (h5 : (pts m).length = 5) :
    relayAll t (entA tk (pts m)) (SetTable.grown (entA tk (pts m)).size) = (entA tk (pts m), { mask := 31, place := (pts m).toArray, dummies := #[], finger := t.finger, led := t.led, moves := t.movedTo 31, plain := t.plain }, false) := by
  unfold relayAll SetTable.relaid
  rw [entA_hash, entA_size, h5, show SetTable.sizeAbove (SetTable.grown 5) - 1 = 31 from by decide +kernel, laid_ (by simp) hm]
  have hf : (List.range (pts m).length).toArray.filterMap (fun i => (entA tk (pts m))[i]?) = entA tk (pts m) := by
    have := filterMap_getElem?_range (entA tk (pts m))
    rw [entA_size] at this
    apply Array.toList_inj.mp
    rw [Array.toList_filterMap]
    exact this
  dsimp only
  rw [hf]
  rw [if_pos]
  rw [entA_size]
  simp only [coversAll, SetTable.fits, SetTable.fill, h5, List.size_toArray, Bool.and_eq_true]
  exact ⟨by decide +kernel, by simp⟩

theorem addHashed_ {nk : Bool} {k : Nat} {u : Tok} {Q : Bool → Shared → Prop} (ho : s.heap.get? a = some (setObj cls tk m ep t)) (T : NewT w nk t m) (Tt : Tab w true t m) (hm : m < 64) (hk : k < 6)
    (h : ∀ h' tk' ep' t', Heap.SameBut a s.heap h' → h'.get? a = some (setObj cls tk' (m ||| 2 ^ k) ep' t') → NewT w nk t' (m ||| 2 ^ k) → m ||| 2 ^ k < 64 → ∀ b, Q b { s with heap := h' }) :
    wpAny (model prog w) A (setAddHashed a (.int (k : Int) u) (k : Int)) Q E s := by
  unfold setAddHashed setAddHashedIn
  refine wpAny_holding (wpAny_bind (setState_ ho Tt ?_))
  have hsz : (entA tk (pts m)).size < scanBound := by rw [entA_size]; have := pts_len m; unfold scanBound; omega
  have hel := entA_elems (prog := prog) (w := w) tk (pts m) fun k h => pts_lt h
  dsimp only
  rw [if_pos (byScan_of (x := Value.int (k : Int) u) rfl hsz hel)]
  unfold setAddByScan
  refine wpAny_bind (wpAny_bind (wpAny_rule (wpAny_bind ?_)))
  refine wpAny_setScan_at hk (intKind_is _ _ _ _) ho Tt hel ?_
  have e := findIdx_ent (prog := prog) (w := w) tk k (pts m)
  have e' : (entA tk (pts m)).toList = (pts m).map (ent tk) := rfl
  rw [e', e]
  cases hf : (pts m).findIdx? (· == k) with
  | some j =>
    obtain ⟨hj, _⟩ := findIdx_some hf
    have hb := (mem_pts.mp (List.mem_of_getElem? hj)).2
    have eo := or_old m hm k hk hb
    refine wpAny_pure (wpAny_pure ?_)
    have es : s = { s with heap := s.heap } := rfl
    rw [es]
    exact h s.heap tk ep t (Heap.SameBut.refl a s.heap) (by rw [eo]; exact ho) (by rw [eo]; exact T) (by rw [eo]; exact hm) _
  | none =>
    have hb := pts_sub_mem hm hk (findIdx_none hf)
    obtain ⟨hlen, hlt⟩ := len_ins m hm k hk hb
    have hfree := T.free hm hk hb
    have hput : t.put k = ({ t with place := (pts (m ||| 2 ^ k)).toArray, dummies := t.dummies }, SetTable.below (pts m).toArray k) := by
      unfold SetTable.put
      rw [T.place, T.dummies, below_nil]
      have h2 := (pts_below m hm k hk hb).2
      dsimp only at h2 ⊢
      rw [h2]
      rfl
    have hlay : layNew t (entA tk (pts m)) (k : Int) (.int (k : Int) u) = (entA (fun j => if j = k then u else tk j) (pts (m ||| 2 ^ k)), { t with place := (pts (m ||| 2 ^ k)).toArray, dummies := t.dummies }, false, false) := by
      have hfits : SetTable.fits { t with place := (pts (m ||| 2 ^ k)).toArray, dummies := t.dummies } (pts (m ||| 2 ^ k)).length = true := by
        have hle := pts_len (m ||| 2 ^ k)
        have hM : t.mask = 31 ∨ t.mask = 7 := by rw [T.mask]; split <;> simp
        simp only [SetTable.fits, SetTable.fill, T.dummies, List.size_toArray, Bool.and_eq_true, beq_self_eq_true, decide_eq_true_eq, true_and, List.length_nil, Nat.add_zero]
        rcases hM with h | h <;> rw [h] <;> omega
      unfold layNew
      rw [hfree]
      dsimp only
      rw [hput]
      dsimp only
      rw [ins_ent tk u hm hk hb, entA_size]
      unfold SetTable.orStandIn
      rw [if_pos hfits, hfits]
      rfl
    dsimp only
    rw [hlay]
    dsimp only
    refine wpAny_bind (wpAny_pure ?_)
    rw [if_pos T.plain]
    refine wpAny_bind ?_
    rw [hashByValue_scannable 8 rfl]
    refine wpAny_pure ?_
    have hT1 : ∀ ep', s.heap.get? a = some (setObj cls tk m ep' t) → True := fun _ _ => trivial
    generalize htk : (fun j => if j = k then u else tk j) = tk'
    have hsz1 : (entA tk' (pts (m ||| 2 ^ k))).size ≤ sizeLine := by rw [entA_size, sizeLine_eq]; have := pts_len (m ||| 2 ^ k); omega
    rw [if_pos (show plainKind (Value.int (k : Int) u) = true from rfl)]
    refine wpAny_bind (wpAny_storeSet_of ho rfl ?_ hsz1)
    have hg := get_put (es' := entA tk' (pts (m ||| 2 ^ k))) (t' := { t with place := (pts (m ||| 2 ^ k)).toArray, dummies := t.dummies }) ho
    have hsb := Heap.SameBut.update s.heap a (Obj.putSet (entA tk' (pts (m ||| 2 ^ k))) { t with place := (pts (m ||| 2 ^ k)).toArray, dummies := t.dummies })
    generalize hh1 : s.heap.update a (Obj.putSet (entA tk' (pts (m ||| 2 ^ k))) { t with place := (pts (m ||| 2 ^ k)).toArray, dummies := t.dummies }) = h1 at hg hsb ⊢
    have hle := pts_len (m ||| 2 ^ k)
    by_cases h4 : (pts m).length = 4
    · have hmask : t.mask = 7 := by rw [T.mask, if_neg (by omega)]
      have h5 : (pts (m ||| 2 ^ k)).length = 5 := by omega
      have htf : SetTable.tooFull { t with place := (pts (m ||| 2 ^ k)).toArray, dummies := t.dummies } = true := by
        simp only [SetTable.tooFull, SetTable.fill, hmask, T.dummies, List.size_toArray, h5]; rfl
      rw [htf]
      rw [if_pos (by rfl)]
      rw [relayAll_ (tk := tk') (t := { t with place := (pts (m ||| 2 ^ k)).toArray, dummies := t.dummies }) hlt h5]
      dsimp only
      refine wpAny_bind (wpAny_pure ?_)
      refine wpAny_bind (wpAny_storeSet_of (s := { s with heap := h1 }) hg rfl ?_ hsz1)
      refine wpAny_pure (wpAny_pure ?_)
      have hsb2 := Heap.SameBut.update h1 a (Obj.putSet (entA tk' (pts (m ||| 2 ^ k))) { mask := 31, place := (pts (m ||| 2 ^ k)).toArray, dummies := #[], finger := t.finger, led := t.led, moves := SetTable.movedTo { t with place := (pts (m ||| 2 ^ k)).toArray, dummies := t.dummies } 31, plain := t.plain })
      exact h _ tk' (ep + 1 + 1) _ (hsb.trans hsb2) (get_put (tk := tk') (m := m ||| 2 ^ k) hg) ⟨rfl, rfl, by rw [h5]; rfl, T.plain, T.led⟩ hlt _
    · have hmk : t.mask = if 5 ≤ (pts (m ||| 2 ^ k)).length then 31 else 7 := by
        rw [T.mask]
        by_cases h5 : 5 ≤ (pts m).length
        · rw [if_pos h5, if_pos (by omega)]
        · rw [if_neg h5, if_neg (by omega)]
      have htf : SetTable.tooFull { t with place := (pts (m ||| 2 ^ k)).toArray, dummies := t.dummies } = false := by
        simp only [SetTable.tooFull, SetTable.fill, hmk, T.dummies, List.size_toArray]
        by_cases h5 : 5 ≤ (pts (m ||| 2 ^ k)).length
        · rw [if_pos h5]; simp; omega
        · rw [if_neg h5]; simp; omega
      rw [htf]
      rw [if_neg (by decide)]
      refine wpAny_pure (wpAny_pure ?_)
      exact h _ tk' (ep + 1) _ hsb hg ⟨rfl, T.dummies, hmk, T.plain, T.led⟩ hlt _
end
end Mine

end
section
open PySem PySem.W PyProof.Rows
set_option Elab.async false
set_option maxRecDepth 100000
set_option linter.unusedVariables false
set_option linter.unusedSimpArgs false
namespace Mine

theorem slot_setiter_next : Slot "set_iterator" "__next__" "set_iterator.__next__" :=
  .of (owner := "set_iterator") (n := "__next__") (by rw [typeLookup_type, builtinLookup_eq_fast]; kernel_rfl) (by decide +kernel) (by decide +kernel) (by decide +kernel)
    (by first | exact .inl (by decide +kernel) | exact .inr (by decide +kernel)) (by rw [isSubtype_type]; kernel_rfl)
theorem slot_setiter_iter : Slot "set_iterator" "__iter__" "set_iterator.__iter__" :=
  .of (owner := "set_iterator") (n := "__iter__") (by rw [typeLookup_type, builtinLookup_eq_fast]; kernel_rfl) (by decide +kernel) (by decide +kernel) (by decide +kernel)
    (by first | exact .inl (by decide +kernel) | exact .inr (by decide +kernel)) (by rw [isSubtype_type]; kernel_rfl)
theorem slot_fro_iter : Slot "frozenset" "__iter__" "frozenset.__iter__" :=
  .of (owner := "frozenset") (n := "__iter__") (by rw [typeLookup_type, builtinLookup_eq_fast]; kernel_rfl) (by decide +kernel) (by decide +kernel) (by decide +kernel)
    (by first | exact .inl (by decide +kernel) | exact .inr (by decide +kernel)) (by rw [isSubtype_type]; kernel_rfl)
theorem entry_setiter_next : entryFor table "set_iterator.__next__" = some Builtin.«set_iterator.__next__» := entryFor_of_tree (by kernel_rfl)
theorem entry_fro_iter : entryFor table "frozenset.__iter__" = some Builtin.«frozenset.__iter__» := entryFor_of_tree (by kernel_rfl)
theorem entry_set_iter : entryFor table "set.__iter__" = some Builtin.«frozenset.__iter__» :=
  alias_tree (id' := "frozenset.__iter__") (by kernel_rfl) rfl (by decide +kernel) (by kernel_rfl)
theorem args_setiter_next (a : Value) : argsOk "set_iterator.__next__" ⟨[a], []⟩ := by unfold argsOk; kernel_rfl
theorem args_fro_iter (a : Value) : argsOk "frozenset.__iter__" ⟨[a], []⟩ := by unfold argsOk; kernel_rfl

/-- the slot from which the i-th item is sought -/
def slotOf (m : Nat) : Nat → Nat
  | 0 => 0
  | i + 1 => (pts m).getD i 0 + 1
theorem below_slot : ∀ m < 64, ∀ i < 7, i ≤ (pts m).length → SetTable.below (pts m).toArray (slotOf m i) = i := by decide +kernel
def slotAt (w : World) (m i : Nat) : Nat := if w.params.followText "set-order" = true then 0 else slotOf m i
def itObj (slot i a n ep : Nat) : Obj := { cls := .type "set_iterator", data := .fields #[.int slot 0, .int i 0, .ref a, .int n 0, .int ep 0] }

/-- a set that Python may walk: its maker is known -/
structure TabL (w : World) (t : SetTable) (m : Nat) : Prop where
  tab : Tab w false t m
theorem Tab.strong {w : World} {t : SetTable} {m : Nat} (T : Tab w false t m) : w.params.followText "set-order" = true ∨ t.led = true := by
  rcases T.led with h | h | ⟨h, _⟩
  · exact .inl h
  · exact .inr h
  · cases h
theorem Tab.weaken {w : World} {t : SetTable} {m : Nat} {wk : Bool} (T : Tab w false t m) : Tab w wk t m :=
  ⟨T.place, T.fill, T.mask, T.plain, T.strong.elim .inl fun h => .inr (.inl h)⟩

section
variable {prog : Program} {w : World} {A : Around} {E : Value → Shared → Prop} {s : Shared} {a : Addr} {cls : String} {tk : Nat → Tok} {m ep : Nat} {t : SetTable} {wk : Bool}

theorem setNext_ {i : Nat} {Q : Option (Value × Nat) → Shared → Prop} (ho : s.heap.get? a = some (setObj cls tk m ep t)) (T : Tab w false t m) (hm : m < 64) (hi : i ≤ (pts m).length)
    (h : Q (((walkOf w a ep (entA tk (pts m)))[i]?).map fun e => (e.2, slotAt w m (i + 1))) s) : wpAny (model prog w) A (setNext a (slotAt w m i) i ep) Q E s := by
  unfold setNext
  refine wpAny_bind (setState_ ho T ?_)
  dsimp only
  refine wpAny_bind (setsByText_ ?_)
  cases hb : w.params.followText "set-order" with
  | true =>
    rw [if_pos rfl, if_neg (by simp)]
    refine wpAny_bind (setWalk_ ho T (wpAny_pure ?_))
    have e1 : slotAt w m i = slotAt w m (i + 1) := by unfold slotAt; rw [if_pos hb, if_pos hb]
    rw [e1]; exact h
  | false =>
    rw [walkOf_plain hb] at h
    rw [if_neg Bool.false_ne_true]
    show wpAny _ _ (if (!t.plain && decide ((entA tk (pts m)).size > 1)) = true then _ else _) _ _ _
    rw [if_neg (show ¬ ((!t.plain && decide ((entA tk (pts m)).size > 1)) = true) by rw [T.plain]; simp)]
    refine wpAny_bind ?_
    show wpAny _ _ (if (!t.led && !(entA tk (pts m)).isEmpty) = true then unsupported _ else pure ()) _ _ _
    have hl : t.led = true := by
      rcases T.strong with h1 | h1
      · rw [hb] at h1; cases h1
      · exact h1
    rw [if_neg (by rw [hl]; simp)]
    refine wpAny_pure (wpAny_pure ?_)
    have e1 : slotAt w m i = slotOf m i := by unfold slotAt; rw [hb]; rfl
    have e2 : slotAt w m (i + 1) = slotOf m (i + 1) := by unfold slotAt; rw [hb]; rfl
    have hi7 : i < 7 := by have := pts_len m; omega
    rw [e1, T.place, below_slot m hm i hi7 hi]
    rw [e2] at h
    by_cases hlt : i < (pts m).length
    · have e3 : (entA tk (pts m))[i]? = some (ent tk (pts m)[i]) := by simp [hlt]
      have e4 : (pts m).toArray[i]? = some (pts m)[i] := by simp [hlt]
      rw [e3] at h ⊢
      rw [e4]
      have e5 : slotOf m (i + 1) = (pts m)[i] + 1 := by unfold slotOf; simp [hlt]
      rw [e5] at h
      exact h
    · have e3 : (entA tk (pts m))[i]? = none := by simp; omega
      rw [e3] at h ⊢
      exact h

theorem pyIter_set {Q : Value → Shared → Prop} (hc : IsSetCls cls) (ho : s.heap.get? a = some (setObj cls tk m ep t)) (T : Tab w false t m)
    (h : Q (.ref s.heap.objs.size) { s with heap := s.heap.push (itObj (slotAt w m 0) 0 a (pts m).length ep) }) :
    wpAny (model prog w) A (pyIter (.ref a)) Q E s := by
  have hT : s.TypeIs (.ref a) cls := ⟨_, ho, rfl⟩
  have e0 : slotAt w m 0 = 0 := by unfold slotAt; split <;> rfl
  rw [e0] at h
  have tree : ∀ E', wpAny (model prog w) A.in1 (Builtin.«frozenset.__iter__» ⟨[.ref a], []⟩) (fun fin s' => ∃ v, fin = .done (.ret v) ∧ ∃ T' r, s'.TypeIs v T' ∧ typeLookup (.type T') "__next__" = pure (some r) ∧ Q v s') E' s := by
    intro E'
    unfold Builtin.«frozenset.__iter__»
    refine wpAny_bind (?_ : wpAny _ _ (pure a) _ _ _)
    refine wpAny_pure ?_
    refine wpAny_bind (sizeOf_ ho T ?_)
    have hd : ∀ (Q' : Bool → Shared → Prop), Q' false s → wpAny (model prog w) A.in1 (setDrawn a) Q' E' s := fun Q' hq => by
      unfold setDrawn
      refine wpAny_bind (setState_ ho T ?_)
      dsimp only
      refine wpAny_bind (setsByText_ (wpAny_pure ?_))
      show Q' (!w.params.followText "set-order" && (!t.plain && decide ((entA tk (pts m)).size > 1))) s
      rw [T.plain]; simpa using hq
    refine wpAny_bind (hd _ ?_)
    rw [if_neg Bool.false_ne_true]
    refine wpAny_bind (wpAny_pure ?_)
    refine wpAny_bind (setEpoch_ ho T ?_)
    exact wpAny_bind (wpAny_newObj_type (wpAny_pure ⟨_, rfl, "set_iterator", _, ⟨_, Heap.get?_push_size _ rfl, rfl⟩, slot_setiter_next.lookup, h⟩))
  rcases hc with rfl | rfl
  · exact wpAny_pyIter_slot hT F.slot_set_iter (wpAny_call_entry F.slot_set_iter hT entry_set_iter (tree _) (F.args_set_iter_1 _))
  · exact wpAny_pyIter_slot hT slot_fro_iter (wpAny_call_entry slot_fro_iter hT entry_fro_iter (tree _) (args_fro_iter _))
end
end Mine

end
section
open PySem PySem.W PyProof.Rows
set_option Elab.async false
set_option maxRecDepth 100000
set_option linter.unusedVariables false
set_option linter.unusedSimpArgs false
namespace Mine

theorem entry_setiter_iter : ∃ b, entryFor table "set_iterator.__iter__" = some b ∧ ∀ v, b ⟨[v], []⟩ = ret v := by
  refine ⟨Builtin.«dict_keyiterator.__iter__», alias_tree (id' := "dict_keyiterator.__iter__") (by kernel_rfl) rfl (by decide +kernel) (by kernel_rfl), ?_⟩
  intro v
  rfl
theorem args_setiter_iter (a : Value) : argsOk "set_iterator.__iter__" ⟨[a], []⟩ := by unfold argsOk; kernel_rfl
theorem getItO (slot i a n ep : Nat) : (itObj slot i a n ep).data = .fields #[.int slot 0, .int i 0, .ref a, .int n 0, .int ep 0] := rfl

section
variable {prog : Program} {w : World} {A : Around} {E : Value → Shared → Prop} {s : Shared} {a I : Addr} {cls : String} {tk : Nat → Tok} {m ep : Nat} {t : SetTable} {wk : Bool}

theorem get_fields {h : Heap} {o : Obj} {vs : Array Value} (f : Array Value → Array Value) (ho : h.get? I = some o) (hd : o.data = .fields vs) :
    (h.update I (Obj.mapFields f)).get? I = some { o with data := .fields (f vs) } := by
  have hf : (Obj.mapFields f o).isFreed = false := Obj.isFreed_of_fields (Obj.data_mapFields hd _)
  have := Heap.get?_update_self (Obj.mapFields f) ho hf
  rw [this]
  obtain ⟨c, d, dt, sl⟩ := o
  subst hd
  rfl

theorem pyNext_item {i : Nat} {Q : Option Value → Shared → Prop} (hI : s.heap.get? I = some (itObj (slotAt w m i) i a (pts m).length ep)) (ho : s.heap.get? a = some (setObj cls tk m ep t)) (T : Tab w false t m) (hm : m < 64)
    (hi : i < (pts m).length)
    (h : ∀ h' e, (walkOf w a ep (entA tk (pts m)))[i]? = some e → Heap.SameBut I s.heap h' → h'.get? I = some (itObj (slotAt w m (i + 1)) (i + 1) a (pts m).length ep) → Q (some e.2) { s with heap := h' }) :
    wpAny (model prog w) A (pyNext (.ref I)) Q E s := by
  have hT : s.TypeIs (.ref I) "set_iterator" := ⟨_, hI, rfl⟩
  have hsz : (walkOf w a ep (entA tk (pts m))).size = (pts m).length := by
    have := (walkOf_perm w a ep (entA tk (pts m))).length_eq
    simpa using this
  obtain ⟨e, he⟩ : ∃ e, (walkOf w a ep (entA tk (pts m)))[i]? = some e := ⟨_, Array.getElem?_eq_getElem (by omega)⟩
  unfold pyNext
  refine wpAny_bind (wpAny_attempt (wpAny_callSpecial?_slot (name := Str.ofString "__next__") hT slot_setiter_next
    (wpAny_call_entry slot_setiter_next hT entry_setiter_next ?_ (args_setiter_next _))))
  unfold Builtin.«set_iterator.__next__»
  refine wpAny_bind (?_ : wpAny _ _ (pure (Value.ref I, [])) _ _ _)
  refine wpAny_pure ?_
  refine wpAny_bind (wpAny_fieldsOf hI rfl ?_)
  dsimp only
  refine wpAny_bind (setEntries_ ho T ?_)
  rw [if_neg (by rw [entA_size]; simp)]
  simp only [Int.toNat_natCast]
  refine wpAny_bind (setNext_ ho T hm (Nat.le_of_lt hi) ?_)
  rw [he]
  dsimp only [Option.map_some]
  refine wpAny_bind (wpAny_setField hI rfl (by simp) ?_)
  have h1 := get_fields (fun vs => vs.setIfInBounds 0 (rawInt (slotAt w m (i + 1)))) hI rfl
  refine wpAny_bind (wpAny_setField (s := { s with heap := _ }) h1 rfl (by simp) ?_)
  have h2 := get_fields (fun vs => vs.setIfInBounds 1 (rawInt (i + 1))) h1 rfl
  refine wpAny_pure ⟨_, rfl, wpAny_pure (h _ e he ((Heap.SameBut.update s.heap I _).trans (Heap.SameBut.update _ I _)) ?_)⟩
  rw [h2]
  simp [itObj, rawInt]

theorem pyNext_done {Q : Option Value → Shared → Prop} (hh : A.handled = none) (hI : s.heap.get? I = some (itObj (slotAt w m (pts m).length) (pts m).length a (pts m).length ep)) (ho : s.heap.get? a = some (setObj cls tk m ep t)) (T : Tab w false t m) (hm : m < 64)
    (h : ∀ h', Heap.ExtBut I s.heap h' → Q none { s with heap := h' }) :
    wpAny (model prog w) A (pyNext (.ref I)) Q E s := by
  have hT : s.TypeIs (.ref I) "set_iterator" := ⟨_, hI, rfl⟩
  have hsz : (walkOf w a ep (entA tk (pts m))).size = (pts m).length := by
    have := (walkOf_perm w a ep (entA tk (pts m))).length_eq
    simpa using this
  have he : (walkOf w a ep (entA tk (pts m)))[(pts m).length]? = none := Array.getElem?_eq_none (by omega)
  unfold pyNext
  refine wpAny_bind (wpAny_attempt (wpAny_callSpecial?_slot (name := Str.ofString "__next__") hT slot_setiter_next
    (wpAny_call_entry slot_setiter_next hT entry_setiter_next ?_ (args_setiter_next _))))
  unfold Builtin.«set_iterator.__next__»
  refine wpAny_bind (?_ : wpAny _ _ (pure (Value.ref I, [])) _ _ _)
  refine wpAny_pure ?_
  refine wpAny_bind (wpAny_fieldsOf hI rfl ?_)
  dsimp only
  refine wpAny_bind (setEntries_ ho T ?_)
  rw [if_neg (by rw [entA_size]; simp)]
  simp only [Int.toNat_natCast]
  refine wpAny_bind (setNext_ ho T hm (Nat.le_refl _) ?_)
  rw [he]
  dsimp only [Option.map_none]
  refine wpAny_bind (wpAny_setField hI rfl (by simp) ?_)
  show wpAny _ _ (newExc (.type "StopIteration") [] >>= _) _ _ _
  refine wpAny_bind ?_
  simp only [newExc, newTuple]
  refine wpAny_bind (wpAny_newObj_type ?_ (by size_fits))
  refine wpAny_bind (m := firstArgMember _ _) (wpAny_of_eq (a := Value.none) (by first | rfl | (simp only [firstArgMember]; rfl)) ?_)
  refine wpAny_newObj_type ?_ (by size_fits)
  simp only [raiseNew]
  refine wpAny_bind (wpAny_handled ?_)
  rw [show A.in1.handled = none from hh]
  refine wpAny_bind (wpAny_pure (wpAny_throw ?_))
  refine wpAny_bind (wpAny_isInstance (T := "StopIteration") (b := true) ⟨_, Heap.get?_push_size _ rfl, rfl⟩ isSubtype_stop ?_)
  exact wpAny_pure (h _ (((Heap.SameBut.update ..).extBut.push _).push _))

theorem walks_set (hh : A.handled = none) (hne : a ≠ I) (T : Tab w false t m) (hm : m < 64) :
    Walks prog w A I [I, a] [I] (pts m).length (fun i v => ∃ e, (walkOf w a ep (entA tk (pts m)))[i]? = some e ∧ v = e.2)
      (fun i h => h.get? I = some (itObj (slotAt w m i) i a (pts m).length ep) ∧ h.get? a = some (setObj cls tk m ep t)) where
  sub := fun b hb => by simp at hb; simp [hb]
  frame := fun i h h' st hk => ⟨hk I (by simp) _ st.1, hk a (by simp) _ st.2⟩
  item := fun i s Q E hi st hQ => pyNext_item st.1 st.2 T hm hi fun h' e he hs hg => hQ _ h' s.toks ⟨e, he, rfl⟩ ⟨hg, (hs.2 a hne).trans st.2⟩ fun b o hb x => (hs.2 b (fun q => hb (by simp [q]))).trans x
  done := fun s Q E st hQ => pyNext_done hh st.1 st.2 T hm fun h' hs => hQ h' s.toks fun b o hb x => hs b o (fun q => hb (by simp [q])) x
  self := fun i s Q E st hQ => by
    have hT : s.TypeIs (.ref I) "set_iterator" := ⟨_, st.1, rfl⟩
    obtain ⟨b, hb, hv⟩ := entry_setiter_iter
    refine wpAny_pyIter_slot hT slot_setiter_iter (wpAny_call_entry slot_setiter_iter hT hb ?_ (args_setiter_iter _))
    rw [hv]
    exact wpAny_pure ⟨_, rfl, "set_iterator", _, hT, slot_setiter_next.lookup, hQ⟩
end
end Mine

end
section
open PySem PySem.W PyProof.Rows
set_option Elab.async false
set_option maxRecDepth 100000
set_option linter.unusedVariables false
set_option linter.unusedSimpArgs false
namespace Mine

/-- the points as ints -/
def ipts (m : Nat) : List Int := (pts m).map fun k : Nat => (k : Int)

theorem slot_fro_len : Slot "frozenset" "__len__" "frozenset.__len__" :=
  .of (owner := "frozenset") (n := "__len__") (by rw [typeLookup_type, builtinLookup_eq_fast]; kernel_rfl) (by decide +kernel) (by decide +kernel) (by decide +kernel)
    (by first | exact .inl (by decide +kernel) | exact .inr (by decide +kernel)) (by rw [isSubtype_type]; kernel_rfl)
theorem ints_of_ents {tk : Nat → Tok} : ∀ l : List Nat, IntsAre ((l.map (ent tk)).map (·.2)) (l.map fun k : Nat => (k : Int))
  | [] => .nil
  | k :: l => .cons _ _ (ints_of_ents l)
theorem ipts_sorted (m : Nat) : (ipts m).Pairwise (· ≤ ·) := by
  unfold ipts
  exact List.Pairwise.map _ (fun a b h => Int.ofNat_le.mpr (Nat.le_of_lt h)) (pts_sorted m)
theorem sorted_unique {l l' : List Int} (p : l.Perm l') (h : l.Pairwise (· ≤ ·)) (h' : l'.Pairwise (· ≤ ·)) : l = l' :=
  List.Perm.eq_of_pairwise (le := (· ≤ ·)) (fun a b _ _ h1 h2 => Int.le_antisymm h1 h2) h h' p

section
variable {prog : Program} {w : World} {A : Around} {E : Value → Shared → Prop} {s : Shared} {a I : Addr} {cls : String} {tk : Nat → Tok} {m ep : Nat} {t : SetTable} {wk : Bool}

theorem hint_set {Q : Bool → Shared → Prop} (hc : IsSetCls cls) (hT : s.TypeIs (.ref a) cls) (h : Q false s) : wpAny (model prog w) A (Builtin.List.listLengthHint (.ref a)) Q E s := by
  unfold Builtin.List.listLengthHint
  rcases hc with rfl | rfl
  · refine wpAny_bind (wpAny_specialOf hT F.slot_set_len.lookup ?_)
    dsimp only
    generalize hid : ("set.__len__" : String) = id0
    (fail_if_success (clear hid id0))
    rw [show splitId id0 = some ("set", "__len__") from by subst hid; decide +kernel]
    subst hid
    dsimp only
    refine wpAny_bind (wpAny_isInstance (b := true) hT sub_set_set ?_)
    rw [if_neg (by decide)]
    refine wpAny_bind (wpAny_typeOf hT ?_)
    exact wpAny_pure h
  · refine wpAny_bind (wpAny_specialOf hT slot_fro_len.lookup ?_)
    dsimp only
    generalize hid : ("frozenset.__len__" : String) = id0
    (fail_if_success (clear hid id0))
    rw [show splitId id0 = some ("frozenset", "__len__") from by subst hid; decide +kernel]
    subst hid
    dsimp only
    refine wpAny_bind (wpAny_isInstance (b := true) hT sub_fro_fro ?_)
    rw [if_neg (by decide)]
    refine wpAny_bind (wpAny_typeOf hT ?_)
    exact wpAny_pure h

theorem collect_set {Q : List Value → Shared → Prop} (hh : A.handled = none) (hc : IsSetCls cls) (ho : s.heap.get? a = some (setObj cls tk m ep t)) (T : Tab w false t m) (hm : m < 64)
    (h : ∀ h' tk' vs ns, (∀ b o, s.heap.get? b = some o → h'.get? b = some o) → s.heap.objs.size ≤ h'.objs.size → IntsAre vs ns → ns.Perm (ipts m) → Q vs { s with heap := h', toks := tk' }) :
    wpAny (model prog w) A (collect (.ref a)) Q E s := by
  have hT : s.TypeIs (.ref a) cls := ⟨_, ho, rfl⟩
  unfold collect
  refine wpAny_bind (wpAny_runValue (codeAny_builtin F.entry_proto_collect ?_))
  rw [Around.under_plainId F.plain_proto_collect _]
  show wpAny _ A.in1 (newList [] >>= fun l => again (.builtin "list.__iadd__" ⟨[l, .ref a], []⟩)) _ _ s
  refine wpAny_bind (wpAny_newObj_type ?_)
  refine wpAny_pure ⟨plainId_quiet F.plain_list_iadd _, codeAny_builtin F.entry_list_iadd ?_⟩
  rw [Around.under_plainId F.plain_list_iadd _]
  have ho₁ : (s.heap.push { cls := .type "list", data := .seq ([] : List Value).toArray }).get? a = some (setObj cls tk m ep t) := Heap.get?_push_of_some _ ho
  have hS₁ : (s.heap.push { cls := .type "list", data := .seq ([] : List Value).toArray }).get? s.heap.objs.size = some { cls := .type "list", data := .seq ([] : List Value).toArray } := Heap.get?_push_size _ rfl
  have hT₁ : Shared.TypeIs { s with heap := s.heap.push { cls := .type "list", data := .seq ([] : List Value).toArray } } (.ref a) cls := ⟨_, ho₁, rfl⟩
  have hlt : a < s.heap.objs.size := Heap.lt_size ho
  have h1 : Builtin.List.listSameRef (.ref s.heap.objs.size) (.ref a) = false := by
    simp only [Builtin.List.listSameRef, beq_eq_false_iff_ne, ne_eq]
    exact Nat.ne_of_gt hlt
  show wpAny _ A.in1 (Builtin.List.listExtendWith (.ref s.heap.objs.size) (.ref a) (.ref s.heap.objs.size)) _ _ _
  unfold Builtin.List.listExtendWith
  refine wpAny_bind (wpAny_typeOf hT₁ ?_)
  rw [if_neg (by rw [h1]; rcases hc with rfl | rfl <;> decide)]
  refine wpAny_bind (pyIter_set hc ho₁ T ?_)
  generalize hH : s.heap.push { cls := .type "list", data := .seq ([] : List Value).toArray } = H1 at ho₁ hS₁ hT₁ ⊢
  have hsz1 : H1.objs.size = s.heap.objs.size + 1 := by rw [← hH, Heap.size_push]
  have old1 : ∀ b o, s.heap.get? b = some o → H1.get? b = some o := fun b o e => by rw [← hH]; exact Heap.get?_push_of_some _ e
  refine wpAny_bind (wpAny_holding (hint_set hc (s := { s with heap := H1.push _ }) ⟨_, Heap.get?_push_of_some _ ho₁, rfl⟩ ?_))
  dsimp only
  rw [if_pos (by rcases hc with rfl | rfl <;> decide)]
  refine wpAny_bind (wpAny_rule ?_)
  have hI1 : (H1.push (itObj (slotAt w m 0) 0 a (pts m).length ep)).get? H1.objs.size = some (itObj (slotAt w m 0) 0 a (pts m).length ep) := Heap.get?_push_size _ rfl
  have ho2 : (H1.push (itObj (slotAt w m 0) 0 a (pts m).length ep)).get? a = some (setObj cls tk m ep t) := Heap.get?_push_of_some _ ho₁
  have hS2 : (H1.push (itObj (slotAt w m 0) 0 a (pts m).length ep)).get? s.heap.objs.size = some (seqObj "list" #[] 0) := Heap.get?_push_of_some _ hS₁
  have old2 : ∀ b o, s.heap.get? b = some o → (H1.push (itObj (slotAt w m 0) 0 a (pts m).length ep)).get? b = some o := fun b o e => Heap.get?_push_of_some _ (old1 b o e)
  have hsz2 : (H1.push (itObj (slotAt w m 0) 0 a (pts m).length ep)).objs.size = H1.objs.size + 1 := Heap.size_push _ _
  show wpAny _ _ (Builtin.List.listTouch (.ref s.heap.objs.size) >>= _) _ _ { s with heap := H1.push (itObj (slotAt w m 0) 0 a (pts m).length ep) }
  generalize hH2 : H1.push (itObj (slotAt w m 0) 0 a (pts m).length ep) = H2 at hI1 ho2 hS2 old2 hsz2 ⊢
  unfold Builtin.List.listTouch
  have hS3 := get?_update_seq hS2 (·.push .none)
  have hS4 := get?_update_seq hS3 (·.pop)
  refine wpAny_bind (wpAny_bind (listUpdate_at hS2 rfl ?_))
  refine listUpdate_at (s := { s with heap := _ }) hS3 rfl ?_ (by simp [sizeLine_eq]) (by simp)
  have keep : ∀ b o, b ≠ s.heap.objs.size → H2.get? b = some o → ((H2.update s.heap.objs.size (Obj.mapSeq (·.push .none))).update s.heap.objs.size (Obj.mapSeq (·.pop))).get? b = some o := fun b o hb e => by
    rw [Heap.get?_update_ne _ _ _ _ hb, Heap.get?_update_ne _ _ _ _ hb]; exact e
  have hS5 : ((H2.update s.heap.objs.size (Obj.mapSeq (·.push .none))).update s.heap.objs.size (Obj.mapSeq (·.pop))).get? s.heap.objs.size = some (seqObj "list" #[] 2) := by
    rw [hS4]; rfl
  have hszs : ((H2.update s.heap.objs.size (Obj.mapSeq (·.push .none))).update s.heap.objs.size (Obj.mapSeq (·.pop))).objs.size = H2.objs.size := by simp
  generalize hH3 : (H2.update s.heap.objs.size (Obj.mapSeq (·.push .none))).update s.heap.objs.size (Obj.mapSeq (·.pop)) = H3 at keep hS5 hszs ⊢
  have hI3 := keep H1.objs.size _ (by rw [hsz1]; exact Nat.ne_of_gt (Nat.lt_succ_self _)) hI1
  have ho3 := keep a _ (Nat.ne_of_lt hlt) ho2
  have old3 : ∀ b o, s.heap.get? b = some o → H3.get? b = some o := fun b o e => keep b o (Nat.ne_of_lt (Heap.lt_size e)) (old2 b o e)
  have hne : a ≠ H1.objs.size := by rw [hsz1]; exact Nat.ne_of_lt (Nat.lt_succ_of_lt hlt)
  have W := (walks_set (prog := prog) (A := A.in1) (cls := cls) (tk := tk) (ep := ep) hh hne T hm).toS
  have hSf : s.heap.objs.size ∉ [H1.objs.size, a] := by
    simp only [List.mem_cons, List.not_mem_nil, or_false, not_or]
    exact ⟨by rw [hsz1]; exact Nat.ne_of_lt (Nat.lt_succ_self _), Nat.ne_of_gt hlt⟩
  refine wpAny_pure ⟨plainId_quiet F.plain_extend_loop _, codeAny_extend_loopS W (by have := pts_len m; rw [sizeLine_eq]; omega) s.heap.objs.size hSf (.ref s.heap.objs.size) (pts m).length 0 { s with heap := H3 } #[] 2 (by omega) (Nat.zero_le _)
    ⟨hI3, ho3⟩ hS5 (ItemsOf.nil _) fun s' acc c' hmv hS' hacc => ?_⟩
  obtain ⟨h', g', d', tk', os'⟩ := s'
  have eg : g' = s.gens := hmv.gens
  have ed : d' = s.drawn := hmv.drawn
  have eo : os' = s.os := hmv.os
  subst eg; subst ed; subst eo
  show wpAny _ A (load s.heap.objs.size >>= _) _ _ _
  refine wpAny_bind (wpAny_load hS' ?_)
  refine wpAny_pure ?_
  have hold : ∀ b o, s.heap.get? b = some o → h'.get? b = some o := fun b o e => hmv.heap b o (by
    have := Heap.lt_size e
    simp only [List.mem_cons, List.not_mem_nil, or_false, not_or]
    exact ⟨Nat.ne_of_lt this, by rw [hsz1]; exact Nat.ne_of_lt (Nat.lt_succ_of_lt this)⟩) (old3 b o e)
  obtain ⟨l, pl, el⟩ := walk_ents (w := w) (a := a) (ep := ep) (tk := tk) (m := m)
  have hsz : acc.size = (pts m).length := hacc.1
  have hacc' : acc.toList = (l.map (ent tk)).map (·.2) := by
    have hl : l.length = (pts m).length := pl.length_eq
    apply List.ext_getElem?
    intro i
    by_cases hi : i < (pts m).length
    · have hil : i < acc.toList.length := by simpa [hsz] using hi
      have h1 : acc.toList[i]? = some acc.toList[i] := List.getElem?_eq_getElem hil
      obtain ⟨e, he, hv⟩ := hacc.2 i acc.toList[i] (by rw [← Array.getElem?_toList]; exact h1)
      rw [h1, hv]
      rw [← Array.getElem?_toList, el] at he
      rw [List.getElem?_map, he]; rfl
    · rw [List.getElem?_eq_none (by simp [hsz]; omega), List.getElem?_eq_none (by simp [hl]; omega)]
  rw [hacc']
  refine h h' tk' _ (l.map fun k : Nat => (k : Int)) hold ?_ (ints_of_ents l) (pl.map _)
  exact Nat.le_of_lt (Heap.lt_size hS')

theorem call_sorted_set {Q : Value → Shared → Prop} (hh : A.handled = none) (hc : IsSetCls cls) (ho : s.heap.get? a = some (setObj cls tk m ep t)) (T : Tab w false t m) (hm : m < 64)
    (h : ∀ D h' tk' vs c, (∀ b o, s.heap.get? b = some o → h'.get? b = some o) → s.heap.objs.size ≤ D → h'.get? D = some (seqObj "list" vs.toArray c) → IntsAre vs (ipts m) → Q (.ref D) { s with heap := h', toks := tk' }) :
    wpAny (model prog w) A (call (.builtin "sorted") [.ref a]) Q E s := by
  refine Calls.call_function_entry kind_sorted plain_sorted entry_sorted (args_sorted1 _) ?_
  unfold Builtin.«sorted»
  refine wpAny_bind (m := checkCount "sorted" 1 1 _) (wpAny_pure ?_)
  refine wpAny_bind (collect_set hh hc ho T hm fun h1 tk1 vs ns old hle hI hp => ?_)
  have h64 : vs.length < 64 := by
    have e1 := IntsAre.length hI
    have e2 := hp.length_eq
    have e3 : (ipts m).length = (pts m).length := by simp [ipts]
    have := pts_len m
    omega
  refine wpAny_bind (wpAny_newList ?_ (by rw [sizeLine_eq]; omega))
  have hoL : (h1.push (seqObj "list" vs.toArray 0)).get? h1.objs.size = some (seqObj "list" vs.toArray 0) := Heap.get?_push_size _ rfl
  show wpAny _ _ _ _ _ { s with heap := h1.push (seqObj "list" vs.toArray 0), toks := tk1 }
  refine wpAny_bind (wpAny_holding (wpAny_call_entry slot_list_sort ⟨_, hoL, rfl⟩ entry_list_sort (list_sort_tree (s := { s with heap := h1.push (seqObj "list" vs.toArray 0), toks := tk1 }) hoL hI h64 fun out ns' a1 a2 a3 => ⟨_, rfl, ?_⟩) (args_list_sort _)))
  have e : ns' = ipts m := sorted_unique (a2.trans hp) a3 (ipts_sorted m)
  rw [e] at a1
  obtain ⟨c, hD⟩ := sortedHeap_at (out := out) hoL
  refine wpAny_pure ⟨_, rfl, h h1.objs.size _ tk1 out.toList c (fun b o x => ?_) hle (by simpa using hD) a1⟩
  have hb := Heap.lt_size (old b o x)
  rw [sortedHeap_old (Nat.ne_of_lt hb) (by rw [Heap.size_push]; exact Nat.lt_succ_of_lt hb), Heap.get?_push_ne _ _ _ (Nat.ne_of_lt hb)]
  exact old b o x

theorem SetO.objOf {wk : Bool} {o : Obj} (h : SetO w wk "set" m o) : o.SetObjOf (PySem.intKind prog w) (fun z => decide (z ∈ ipts m)) (pts m).length := by
  obtain ⟨hm, tk, ep, t, rfl, T⟩ := h
  refine ⟨⟨rfl, rfl, rfl⟩, _, ep, t, rfl, entA_elems tk _ fun k hk => pts_lt hk, fun z => ?_, entA_size tk _, T.fits tk⟩
  simp only [decide_eq_true_eq, ipts, List.mem_map]
  constructor
  · rintro ⟨k, hk, rfl⟩
    exact ⟨ent tk k, ⟨k, hk, rfl⟩, intKind_is _ _ _ _⟩
  · rintro ⟨e, ⟨k, hk, rfl⟩, hz⟩
    refine ⟨k, hk, ?_⟩
    have : ((k : Int) == z) = true := hz
    exact beq_iff_eq.mp this
end
end Mine

end
section
open PySem PySem.W PyProof.Rows
set_option Elab.async false
set_option maxRecDepth 100000
set_option linter.unusedVariables false
set_option linter.unusedSimpArgs false
namespace Mine

def ins (m k : Nat) : Nat := m ||| 2 ^ k
theorem ins_lt : ∀ m < 64, ∀ k < 6, ins m k < 64 := by decide +kernel
theorem foldl_ins_lt : ∀ (l : List Nat) (m : Nat), m < 64 → (∀ k ∈ l, k < 6) → l.foldl ins m < 64
  | [], m, hm, _ => hm
  | a :: r, m, hm, h => foldl_ins_lt r (ins m a) (ins_lt m hm a (h a (.head _))) fun k hk => h k (.tail _ hk)
theorem ins_pts : ∀ m < 64, (pts m).foldl ins 0 = m := by decide +kernel

section
variable {prog : Program} {w : World} {A : Around} {E : Value → Shared → Prop} {R : Result → Shared → Prop} {cls : String} {I : Addr} {fp wr : List Addr} {G : Array GenState → Array GenState → Prop} {n : Nat} {P : Nat → Value → Prop} {St : Nat → Shared → Prop}

theorem update_loop (W : WalksS prog w A.in1 I fp wr G n P St) (S : Addr) (hSf : S ∉ fp) (vals : List Nat) (hn : vals.length = n)
    (hval : ∀ i v, i < n → P i v → ∃ t, v = .int ((vals.getD i 0 : Nat) : Int) t) (h6 : ∀ k ∈ vals, k < 6) :
    ∀ (k i : Nat) (s : Shared) (m : Nat) (tk : Nat → Tok) (ep : Nat) (t : SetTable), n - i = k → i ≤ n → St i s → s.heap.get? S = some (setObj cls tk m ep t) → NewT w false t m → m < 64 →
      (∀ s' tk' ep' t', Moved (S :: wr) G s s' → s'.heap.get? S = some (setObj cls tk' ((vals.drop i).foldl ins m) ep' t') → NewT w false t' ((vals.drop i).foldl ins m) → R (.ok (.ret .none)) s') →
      codeAny (model prog w) A (.builtin "set.update.loop" ⟨[.ref S, .ref I], []⟩) R s := by
  have hSw : S ∉ wr := fun h => hSf (W.sub _ h)
  have hsub : ∀ b ∈ wr, b ∈ S :: wr := fun b hb => List.mem_cons_of_mem _ hb
  intro k
  induction k with
  | zero =>
    intro i s m tk ep t hk hi hst hS T hm hR
    have hin : i = n := by omega
    have hd : vals.drop i = [] := List.drop_eq_nil_of_le (by omega)
    rw [hd] at hR
    subst hin
    refine codeAny_builtin PyProof.Rows.F.entry_set_update_loop ?_
    rw [Around.under_plainId PyProof.Rows.F.plain_set_update_loop _]
    show wpAny _ A.in1 (pyNext (.ref I) >>= _) _ _ s
    refine wpAny_bind (W.done s _ _ hst fun s' hmv => ?_)
    show wpAny _ A.in1 (ret Value.none) _ _ s'
    exact wpAny_pure (hR s' tk ep t (hmv.mono hsub) (hmv.heap S _ hSw hS) T)
  | succ k ih =>
    intro i s m tk ep t hk hi hst hS T hm hR
    have hlt : i < n := by omega
    have hil : i < vals.length := by omega
    have hd : vals.drop i = vals[i] :: vals.drop (i + 1) := List.drop_eq_getElem_cons hil
    have hg : vals.getD i 0 = vals[i] := by simp [hil]
    have hk6 : vals[i] < 6 := h6 _ (List.getElem_mem hil)
    rw [hd] at hR
    simp only [List.foldl_cons] at hR
    refine codeAny_builtin PyProof.Rows.F.entry_set_update_loop ?_
    rw [Around.under_plainId PyProof.Rows.F.plain_set_update_loop _]
    show wpAny _ A.in1 (pyNext (.ref I) >>= _) _ _ s
    refine wpAny_bind (W.item i s _ _ hlt hst fun v s' hP hst' hmv => ?_)
    obtain ⟨u, rfl⟩ := hval i v hlt hP
    rw [hg]
    have hS' := hmv.heap S _ hSw hS
    show wpAny _ A.in1 (holding [Value.int (vals[i] : Int) u] (setAdd S (.int (vals[i] : Int) u)) >>= _) _ _ s'
    refine wpAny_bind (wpAny_holding ?_)
    unfold setAdd
    refine wpAny_holding ?_
    refine wpAny_bind ((PySem.intKind prog w).pyHash (k := (vals[i] : Int)) (intKind_is _ _ _ _) ?_)
    rw [show (PySem.intKind prog w).hash (vals[i] : Int) = (vals[i] : Int) from hash6 _ hk6]
    refine addHashed_ (s := { s' with toks := s'.toks + 1 }) hS' T T.tab hm hk6 fun h' tk' ep' t' hsb hS2 T2 hm2 b => ?_
    refine wpAny_pure ⟨plainId_quiet PyProof.Rows.F.plain_set_update_loop _, ih (i + 1) _ _ tk' ep' t' (by omega) hlt (W.frame _ s' _ _ hst' (Nat.le_succ _) fun b hb o e => ?_) hS2 T2 hm2 fun s'' tk'' ep'' t'' hm'' hS'' T'' => ?_⟩
    · rw [hsb.2 b (fun h : b = S => hSf (by rw [← h]; exact hb))]; exact e
    · refine hR s'' tk'' ep'' t'' (Moved.trans W.gtrans ((hmv.mono hsub).then_heap (Nat.le_succ _) fun b o hb e => ?_) hm'') hS'' T''
      rw [hsb.2 b (fun h : b = S => hb (by rw [h]; exact List.mem_cons_self))]; exact e
end

/-- x, of type T, gives the ints vals when it is walked -/
structure Gives6 (prog : Program) (w : World) (h : Heap) (x : Addr) (T : String) (vals : List Nat) : Prop where
  typ : ∀ s : Shared, (∀ b o, h.get? b = some o → s.heap.get? b = some o) → s.TypeIs (.ref x) T
  noSet : isSubtype (.type T) (.type "set") = pure false
  noFro : isSubtype (.type T) (.type "frozenset") = pure false
  noDict : (Value.type T == Value.type "dict") = false
  noFroT : (Value.type T == Value.type "frozenset") = false
  iter : ∀ (A : Around) (s : Shared) (Q : Value → Shared → Prop) (E : Value → Shared → Prop), (∀ b o, h.get? b = some o → s.heap.get? b = some o) →
    (∀ o fp wr P St, (∀ b ∈ fp, b = s.heap.objs.size ∨ b < h.objs.size) → (∀ A' : Around, A'.handled = none → WalksS prog w A' s.heap.objs.size fp wr (fun a b => b = a) vals.length P St) → (∀ b ∈ wr, b = s.heap.objs.size) →
      (∀ i v, i < vals.length → P i v → ∃ t, v = .int ((vals.getD i 0 : Nat) : Int) t) → o.isFreed = false → St 0 { s with heap := s.heap.push o } → Q (.ref s.heap.objs.size) { s with heap := s.heap.push o }) →
    wpAny (model prog w) A (pyIter (.ref x)) Q E s

theorem gives_list {prog : Program} {w : World} {h : Heap} {x : Addr} {items : Array Value} {vals : List Nat} (hl : h.IsList x items) (hi : IntsAre items.toList (vals.map fun k : Nat => (k : Int))) :
    Gives6 prog w h x "list" vals where
  typ := fun s k => let ⟨o, ho, hc, _⟩ := hl; ⟨o, k _ _ ho, hc⟩
  noSet := PySem.F.sub_list_set
  noFro := PySem.F.sub_list_frozenset
  noDict := by decide
  noFroT := by decide
  iter := fun A s Q E k hQ => by
    have hl' : s.heap.IsList x items := let ⟨o, ho, r⟩ := hl; ⟨o, k _ _ ho, r⟩
    have hlt : x < h.objs.size := by obtain ⟨_, e, _⟩ := hl; exact Heap.lt_size e
    have hlt' : x < s.heap.objs.size := by obtain ⟨_, e, _⟩ := hl'; exact Heap.lt_size e
    have hlen : items.size = vals.length := by have := IntsAre.length hi; simpa using this
    refine wpAny_pyIter_list hl' ?_
    have W := fun (A' : Around) (hh : A'.handled = none) => (Walks.list (prog := prog) (w := w) (A := A') hh s.heap.objs.size x (Nat.ne_of_lt hlt') items).toS
    rw [hlen] at W
    refine hQ _ _ _ _ _ (fun b hb => ?_) W (fun b hb => by simpa using hb) (fun i v hi' hP => ?_) rfl ⟨⟨_, Heap.get?_push_size _ rfl, rfl, rfl⟩, hl'.push _⟩
    · rcases List.mem_cons.mp hb with rfl | hb
      · exact .inl rfl
      · rw [List.mem_singleton.mp hb]; exact .inr hlt
    · obtain ⟨u, e⟩ := PyProof.Rows.IntsAre.int_at hi i v (by rw [Array.getElem?_toList]; exact hP)
      refine ⟨u, ?_⟩
      rw [e]
      simp [hi']
end Mine

end
section
open PySem PySem.W PyProof.Rows
set_option Elab.async false
set_option maxRecDepth 100000
set_option linter.unusedVariables false
set_option linter.unusedSimpArgs false
namespace Mine

theorem gives_range {prog : Program} {w : World} {h : Heap} {x : Addr} {t u v : Tok} (hr : IsRange h x 0 6 1 t u v) :
    Gives6 prog w h x "range" (List.range 6) where
  typ := fun s k => ⟨_, k _ _ hr, rfl⟩
  noSet := by rw [isSubtype_type]; kernel_rfl
  noFro := by rw [isSubtype_type]; kernel_rfl
  noDict := by decide
  noFroT := by decide
  iter := fun A s Q E k hQ => by
    have hr' : IsRange s.heap x 0 6 1 t u v := k _ _ hr
    refine wpAny_pyIter_range hr' (by decide) ?_
    have hn : Builtin.Range.rangeSize 0 6 1 = ((6 : Nat) : Int) := by decide
    have W := fun (A' : Around) (hh : A'.handled = none) => (LCg.range_walks (prog := prog) (w := w) (A := A') (I := s.heap.objs.size) hh 0 6).toS
    refine hQ _ _ _ _ _ (fun b hb => ?_) W (fun b hb => by simpa using hb) (fun i v hi' hP => ?_) rfl ?_
    · rw [List.mem_singleton.mp hb]; exact .inl rfl
    · obtain ⟨u', e⟩ := hP
      have hi6 : i < 6 := by simpa using hi'
      refine ⟨u', ?_⟩
      rw [e]
      have : (List.range 6).getD i 0 = i := by simp [hi6]
      rw [this]; simp
    · show IsRangeIter _ _ _ _ _
      rw [hn]
      simpa using Heap.get?_push_size _ rfl

section
variable {prog : Program} {w : World} {A : Around} {E : Value → Shared → Prop} {s : Shared}

def newT (w : World) : SetTable := .fresh 0 0 (!w.params.followText "set-order")
theorem newT_ok (w : World) : NewT w false (newT w) 0 := ⟨rfl, rfl, rfl, rfl, by
  show _ ∨ (!w.params.followText "set-order") = true ∨ _
  cases w.params.followText "set-order" <;> simp⟩
theorem newSet_ {cls : String} {Q : Value → Shared → Prop} (h : Q (.ref s.heap.objs.size) { s with heap := s.heap.push (setObj cls (fun _ => 0) 0 0 (newT w)) }) :
    wpAny (model prog w) A (newSet (.type cls)) Q E s := by
  unfold newSet
  refine wpAny_bind (setsByText_ ?_)
  dsimp only
  simp only [newObj]
  exact wpAny_bind (wpAny_alloc (wpAny_pure h))

/-- the filling of a new set from x -/
theorem fill_ {id T cls : String} {x S : Addr} {vals : List Nat} {Q : Unit → Shared → Prop} {h₀ : Heap} (hh : A.handled = none) (h6 : ∀ k ∈ vals, k < 6) (G : Gives6 prog w h₀ x T vals) (k₀ : ∀ b o, h₀.get? b = some o → s.heap.get? b = some o)
    (hS0 : h₀.objs.size ≤ S) (hS : s.heap.get? S = some (setObj cls (fun _ => 0) 0 0 (newT w)))
    (h : ∀ h' tk' tks ep t, (∀ b o, b < S → s.heap.get? b = some o → h'.get? b = some o) → h'.get? S = some (setObj cls tks (vals.foldl ins 0) ep t) → NewT w false t (vals.foldl ins 0) → Q () { s with heap := h', toks := tk' }) :
    wpAny (model prog w) A (Builtin.Frozenset.updateFrom id S (.ref x)) Q E s := by
  unfold Builtin.Frozenset.updateFrom Builtin.Frozenset.isAnySet
  have hT := G.typ s k₀
  have hlt := Heap.lt_size hS
  refine wpAny_bind (wpAny_bind (wpAny_isInstance hT G.noSet ?_))
  refine wpAny_isInstance hT G.noFro ?_
  rw [if_neg Bool.false_ne_true]
  refine wpAny_bind (wpAny_typeOf hT ?_)
  rw [if_neg (by rw [G.noDict]; decide)]
  refine wpAny_bind (G.iter A s _ _ k₀ fun o fp wr P St hfp W hwr hval hfr hst => ?_)
  have hSf : S ∉ fp := fun hm => by
    rcases hfp S hm with e | e
    · rw [e] at hlt; exact Nat.lt_irrefl _ hlt
    · exact Nat.lt_irrefl _ (Nat.lt_of_lt_of_le e hS0)
  refine wpAny_bind (wpAny_runValue (update_loop (cls := cls) (W A.in1 hh) S hSf vals rfl hval h6 vals.length 0 { s with heap := s.heap.push o } 0 (fun _ => 0) 0 (newT w) (by omega) (Nat.zero_le _) hst
    (Heap.get?_push_of_some _ hS) (newT_ok w) (by decide) fun s' tk' ep' t' hmv hS' T' => ?_))
  obtain ⟨h', g', d', tk2, os'⟩ := s'
  have eg : g' = s.gens := hmv.gens
  have ed : d' = s.drawn := hmv.drawn
  have eo : os' = s.os := hmv.os
  subst eg; subst ed; subst eo
  refine wpAny_pure ?_
  exact h h' tk2 tk' ep' t' (fun b o' hb e => hmv.heap b o' (by
    simp only [List.mem_cons, not_or]
    exact ⟨Nat.ne_of_lt hb, fun hm => by rw [hwr b hm] at hb; exact Nat.lt_irrefl _ (Nat.lt_trans hb hlt)⟩) (Heap.get?_push_of_some _ e)) hS' T'

theorem callType_w {T newId initId : String} {Bn Bi : Builtin} {args : List Value} {Q Q₁ : Value → Shared → Prop} (ft : TypeCalled T newId initId)
    (hct : checkTypeCall T ⟨args, []⟩ = pure ()) (hcn : checkBuiltinCall newId ⟨.type T :: args, []⟩ = pure ())
    (entryN : entryFor table newId = some Bn) (entryI : entryFor table initId = some Bi)
    (g : wpAny (model prog w) A.in1.in1 (Bn ⟨.type T :: args, []⟩) (fun fin s' => ∃ v, fin = .done (.ret v) ∧ Q₁ v s') E s)
    (hnext : ∀ obj s₁, Q₁ obj s₁ → s₁.TypeIs obj T ∧ ∀ R : Unit → Shared → Prop, R () s₁ → wpAny (model prog w) A.in1.in1 (checkBuiltinCall initId ⟨obj :: args, []⟩) R E s₁)
    (hin : ∀ obj s₁, Q₁ obj s₁ → wpAny (model prog w) A.in1.in1 (Bi ⟨obj :: args, []⟩) (fun fin s' => fin = .done (.ret .none) ∧ Q obj s') E s₁) :
    wpAny (model prog w) A (call (.type T) args) Q E s := by
  obtain ⟨c, tl, hmro⟩ := ft.mro
  have hmade := ft.made
  have hsub := ft.sub
  refine wpAny_call (codeAny_of_tree ?_)
  show wpAny _ _ (callAny (.type T) _) _ _ _
  refine wpAny_pure ⟨Code.quiet_builtin _ (by decide +kernel), codeAny_builtin PySem.F.entry_type_call ?_⟩
  rw [Around.under_plain (weight_type_call_type T args []) (units_type_call_type T args [])]
  have h1 := ft.notType
  have h2 := ft.canCreate
  repeat (any_goals (first | assumption | wp_step))
  refine codeAny_mono (codeAny_call_builtin (R := wants Q₁ E) ft.plain entryN (wpAny_of_eq hcn (wpAny_mono g (fun fin s' hg => ?_) fun _ _ e => e))) fun r s₁ hr => ?_
  · obtain ⟨v, rfl, hv⟩ := hg; exact hv
  cases r with
  | error e => exact hr
  | ok fl =>
    cases fl with
    | ret obj =>
      obtain ⟨hT, hck⟩ := hnext _ _ hr
      have hi := hin _ _ hr
      have hli := ft.init.lookup
      have hbi := ft.init.bind obj
      repeat (any_goals (first | assumption | wp_step))
      refine codeAny_mono (codeAny_call_builtin (R := wants (fun r s₂ => r = .none ∧ Q obj s₂) E) ft.init.plain entryI (hck _ (wpAny_mono hi (fun fin s' hg => ?_) fun _ _ e => e))) fun r₂ s₂ hr₂ => ?_
      · obtain ⟨rfl, hq⟩ := hg; exact ⟨rfl, hq⟩
      cases r₂ with
      | error e => exact hr₂
      | ok fl₂ =>
        cases fl₂ with
        | ret r =>
          obtain ⟨rfl, hq⟩ := hr₂
          repeat (any_goals (first | assumption | wp_step))
        | _ => exact hr₂.elim
    | _ => exact hr.elim
end
end Mine

end
section
open PySem PySem.W PyProof.Rows
set_option Elab.async false
set_option maxRecDepth 100000
set_option linter.unusedVariables false
set_option linter.unusedSimpArgs false
namespace Mine

theorem mro_fro : mroOf (.type "frozenset") = pure [.type "frozenset", .type "object"] := by rw [mroOf_type]; kernel_rfl
theorem lookup_fro_new : typeLookup (.type "frozenset") "__new__" = pure (some (.builtin "frozenset.__new__")) := by rw [typeLookup_type, builtinLookup_eq_fast]; kernel_rfl
theorem slot_fro_init : Slot "frozenset" "__init__" "object.__init__" :=
  .of (owner := "object") (n := "__init__") (by rw [typeLookup_type, builtinLookup_eq_fast]; kernel_rfl) (by decide +kernel) (by decide +kernel) (by decide +kernel)
    (by first | exact .inl (by decide +kernel) | exact .inr (by decide +kernel)) (by rw [isSubtype_type]; kernel_rfl)
theorem called_fro : TypeCalled "frozenset" "frozenset.__new__" "object.__init__" :=
  ⟨by decide +kernel, by decide +kernel, ⟨_, _, mro_fro⟩, madeBy_type mro_fro lookup_fro_new (by decide +kernel), by decide +kernel, sub_fro_fro, slot_fro_init⟩
theorem typeCall_fro_1 (a : Value) : checkTypeCall "frozenset" ⟨[a], []⟩ = pure () := by kernel_rfl
theorem newCall_fro_1 (a : Value) : checkBuiltinCall "frozenset.__new__" ⟨[.type "frozenset", a], []⟩ = pure () := by kernel_rfl
theorem entry_fro_new : entryFor table "frozenset.__new__" = some Builtin.«frozenset.__new__» := entryFor_of_tree (by kernel_rfl)
theorem madeHere_fro : Bind.madeHere "frozenset.__new__" (.type "frozenset") = pure () := by
  unfold Bind.madeHere
  have e : Bind.staticBase (.type "frozenset") = pure (.type "frozenset") := by first | rfl | kernel_rfl
  rw [e]
  simp only [pure_bind, called_fro.made]
  first | rfl | kernel_rfl | (simp; rfl)

section
variable {prog : Program} {w : World} {A : Around} {E : Value → Shared → Prop} {s : Shared}

theorem newClass_ {T : String} {v : Value} {Q : Value × List Value → Shared → Prop} (hsub : isSubtype (.type T) (.type T) = pure true) (h : Q (.type T, [v]) s) :
    wpAny (model prog w) A (Builtin.Frozenset.newClass T ⟨[.type T, v], []⟩) Q E s := by
  unfold Builtin.Frozenset.newClass
  obtain ⟨hp, g, d, tk, os⟩ := s
  dsimp only
  wp_walk
  exact h

theorem call_set_ {T : String} {x : Addr} {vals : List Nat} {Q : Value → Shared → Prop} (hh : A.handled = none) (h6 : ∀ k ∈ vals, k < 6) (G : Gives6 prog w s.heap x T vals)
    (h : ∀ h' tk' o, (∀ b o, s.heap.get? b = some o → h'.get? b = some o) → h'.get? s.heap.objs.size = some o → SetO w false "set" (vals.foldl ins 0) o → Q (.ref s.heap.objs.size) { s with heap := h', toks := tk' }) :
    wpAny (model prog w) A (call (.type "set") [.ref x]) Q E s := by
  refine callType_w (Bn := Builtin.«set.__new__») (Bi := Builtin.«set.__init__») (Q₁ := fun obj s₁ => obj = .ref s.heap.objs.size ∧ s₁ = { s with heap := s.heap.push (setObj "set" (fun _ => 0) 0 0 (newT w)) })
    PySem.F.called_set (PySem.F.typeCall_set_1 _) (PySem.F.newCall_set_1 _) PySem.F.entry_set_new PySem.F.entry_set_init ?_ ?_ ?_
  · unfold Builtin.«set.__new__»
    refine wpAny_bind (newClass_ PySem.sub_set_self ?_)
    exact wpAny_bind (newSet_ (wpAny_pure ⟨_, rfl, rfl, rfl⟩))
  · rintro obj s₁ ⟨rfl, rfl⟩
    have hT : Shared.TypeIs { s with heap := s.heap.push (setObj "set" (fun _ => 0) 0 0 (newT w)) } (.ref s.heap.objs.size) "set" := ⟨_, Heap.get?_push_size _ rfl, rfl⟩
    exact ⟨hT, fun R hR => check_set_init_1 hT hR⟩
  · rintro obj s₁ ⟨rfl, rfl⟩
    have hS : (s.heap.push (setObj "set" (fun _ => 0) 0 0 (newT w))).get? s.heap.objs.size = some (setObj "set" (fun _ => 0) 0 0 (newT w)) := Heap.get?_push_size _ rfl
    have hT : Shared.TypeIs { s with heap := s.heap.push (setObj "set" (fun _ => 0) 0 0 (newT w)) } (.ref s.heap.objs.size) "set" := ⟨_, hS, rfl⟩
    unfold Builtin.«set.__init__» noKeywords
    dsimp only [List.isEmpty_nil]
    rw [if_pos rfl]
    refine wpAny_bind (wpAny_pure ?_)
    have hname : ∀ Q' : String → Shared → Prop, (∀ n, Q' n { s with heap := s.heap.push (setObj "set" (fun _ => 0) 0 0 (newT w)) }) → wpAny (model prog w) A.in1.in1 (typeNameOfCut 200 (.ref s.heap.objs.size)) Q' E { s with heap := s.heap.push (setObj "set" (fun _ => 0) 0 0 (newT w)) } := fun Q' hq => by
      unfold typeNameOfCut shownTypeOf
      refine wpAny_bind (wpAny_bind (wpAny_typeOf hT ?_))
      rw [if_neg (by decide)]
      refine wpAny_pure ?_
      exact wpAny_pure (hq _)
    refine wpAny_bind (hname _ fun n => ?_)
    refine wpAny_bind (m := checkCount n 0 1 _) (wpAny_pure ?_)
    refine wpAny_bind (wpAny_pure ?_)
    unfold setUsed
    refine wpAny_bind (wpAny_bind (setState_ hS ((newT_ok w).tab (wk := false)) (wpAny_pure ?_)))
    rw [if_neg (show ¬ (((entA (fun _ => 0) (pts 0), 0, newT w).2.2.fill != 0) = true) from fun h => by cases h)]
    have hGk : ∀ b o, s.heap.get? b = some o → (s.heap.push (setObj "set" (fun _ => 0) 0 0 (newT w))).get? b = some o := fun b o e => Heap.get?_push_of_some _ e
    refine wpAny_bind (fill_ (s := { s with heap := s.heap.push (setObj "set" (fun _ => 0) 0 0 (newT w)) }) (h₀ := s.heap) hh h6 G hGk (Nat.le_refl _) hS fun h' tk' tks ep t old hg T' => ?_)
    have hm : vals.foldl ins 0 < 64 := foldl_ins_lt vals 0 (by decide) h6
    exact wpAny_pure ⟨rfl, h h' tk' _ (fun b o e => old b o (Heap.lt_size e) (hGk b o e)) hg ⟨hm, tks, ep, t, rfl, T'.tab⟩⟩

theorem call_fro_ {T : String} {x : Addr} {vals : List Nat} {Q : Value → Shared → Prop} (hh : A.handled = none) (h6 : ∀ k ∈ vals, k < 6) (G : Gives6 prog w s.heap x T vals)
    (h : ∀ h' tk' o, (∀ b o, s.heap.get? b = some o → h'.get? b = some o) → h'.get? s.heap.objs.size = some o → SetO w false "frozenset" (vals.foldl ins 0) o → Q (.ref s.heap.objs.size) { s with heap := h', toks := tk' }) :
    wpAny (model prog w) A (call (.type "frozenset") [.ref x]) Q E s := by
  refine callType_w (Bn := Builtin.«frozenset.__new__») (Bi := Builtin.«object.__init__») (Q₁ := fun obj s₁ => obj = .ref s.heap.objs.size ∧ ∃ h' tk' o, (∀ b o, s.heap.get? b = some o → h'.get? b = some o) ∧ h'.get? s.heap.objs.size = some o ∧ SetO w false "frozenset" (vals.foldl ins 0) o ∧ s₁ = { s with heap := h', toks := tk' })
    called_fro (typeCall_fro_1 _) (newCall_fro_1 _) entry_fro_new PySem.F.entry_object_init ?_ ?_ ?_
  · unfold Builtin.«frozenset.__new__»
    refine wpAny_bind (newClass_ sub_fro_fro ?_)
    dsimp only
    refine wpAny_bind (wpAny_of_eq slot_fro_init.lookup ?_)
    rw [if_pos (by simp)]
    refine wpAny_bind (m := noKeywords "frozenset" _) (wpAny_pure ?_)
    refine wpAny_bind (m := typeNameCut 200 _) (?_ : wpAny _ _ (typeName (.type "frozenset")) _ _ _)
    refine wpAny_pure ?_
    refine wpAny_bind (m := checkCount _ 0 1 _) (wpAny_pure ?_)
    rw [if_pos (by simp)]
    refine wpAny_bind (wpAny_typeOf (G.typ s fun _ _ e => e) ?_)
    rw [if_neg (by rw [G.noFroT]; decide)]
    unfold Builtin.Frozenset.newFrom
    simp only [bind_assoc]
    refine wpAny_bind (newSet_ ?_)
    refine wpAny_bind (wpAny_pure ?_)
    have hS : (s.heap.push (setObj "frozenset" (fun _ => 0) 0 0 (newT w))).get? s.heap.objs.size = some (setObj "frozenset" (fun _ => 0) 0 0 (newT w)) := Heap.get?_push_size _ rfl
    have hGk : ∀ b o, s.heap.get? b = some o → (s.heap.push (setObj "frozenset" (fun _ => 0) 0 0 (newT w))).get? b = some o := fun b o e => Heap.get?_push_of_some _ e
    refine wpAny_bind (wpAny_holding (fill_ (s := { s with heap := s.heap.push (setObj "frozenset" (fun _ => 0) 0 0 (newT w)) }) (h₀ := s.heap) hh h6 G hGk (Nat.le_refl _) hS fun h' tk' tks ep t old hg T' => ?_))
    have hm : vals.foldl ins 0 < 64 := foldl_ins_lt vals 0 (by decide) h6
    exact wpAny_bind (wpAny_pure (wpAny_pure ⟨_, rfl, rfl, h', tk', _, fun b o e => old b o (Heap.lt_size e) (hGk b o e), hg, ⟨hm, tks, ep, t, rfl, T'.tab⟩, rfl⟩))
  · rintro obj s₁ ⟨rfl, h', tk', o, old, hg, hS, rfl⟩
    have hT : Shared.TypeIs { s with heap := h', toks := tk' } (.ref s.heap.objs.size) "frozenset" := by
      obtain ⟨_, _, _, _, rfl, _⟩ := hS
      exact ⟨_, hg, rfl⟩
    exact ⟨hT, fun R hR => slot_fro_init.check _ _ _ _ _ _ _ _ hT (PySem.F.args_object_init_2 _ _) hR⟩
  · rintro obj s₁ ⟨rfl, h', tk', o, old, hg, hS, rfl⟩
    have hT : Shared.TypeIs { s with heap := h', toks := tk' } (.ref s.heap.objs.size) "frozenset" := by
      obtain ⟨_, _, _, _, rfl, _⟩ := hS
      exact ⟨_, hg, rfl⟩
    have hl := slot_fro_init.lookup
    have hm := called_fro.made
    have hne : (some "frozenset.__new__" != some "object.__new__") = true := by decide
    have hq := h h' tk' o old hg hS
    repeat (any_goals (first | assumption | wp_step))
    exact ⟨rfl, hq⟩
end
end Mine

end
section
open PySem PySem.W PyProof.Rows
set_option Elab.async false
set_option maxRecDepth 100000
set_option linter.unusedVariables false
set_option linter.unusedSimpArgs false
namespace Mine

/-- the points of m that are not in r, one after another -/
def dif (l : List Nat) (r : Nat) : Nat := (l.filter fun k => !r.testBit k).foldl ins 0
theorem ins_comm : ∀ m < 64, ∀ j < 6, ∀ k < 6, ins (ins m j) k = ins (ins m k) j := by decide +kernel
theorem foldl_ins_perm {l l' : List Nat} (p : l.Perm l') : ∀ m, m < 64 → (∀ k ∈ l, k < 6) → l.foldl ins m = l'.foldl ins m := by
  induction p with
  | nil => intros; rfl
  | cons a _ ih => intro m hm h; exact ih _ (ins_lt m hm a (h a (.head _))) fun k hk => h k (.tail _ hk)
  | swap a b l => intro m hm h; simp only [List.foldl_cons]; rw [ins_comm m hm b (h b (.head _)) a (h a (.tail _ (.head _)))]
  | trans p1 _ ih1 ih2 => intro m hm h; exact (ih1 m hm h).trans (ih2 m hm fun k hk => h k (p1.mem_iff.mpr hk))
theorem dif_63 : ∀ r < 64, dif (pts 63) r = 63 - r := by decide +kernel
theorem pts_zero : ∀ r < 64, (pts r).length = 0 → r = 0 := by decide +kernel

theorem slot_fro_sub : Slot "frozenset" (dunder "sub") "frozenset.__sub__" :=
  .of (owner := "frozenset") (n := "__sub__") (by rw [typeLookup_type, builtinLookup_eq_fast]; kernel_rfl) (by decide +kernel) (by decide +kernel) (by decide +kernel)
    (by first | exact .inl (by decide +kernel) | exact .inr (by decide +kernel)) (by rw [isSubtype_type]; kernel_rfl)
theorem entry_fro_sub : entryFor table "frozenset.__sub__" = some Builtin.«frozenset.__sub__» := entryFor_of_tree (by kernel_rfl)
theorem args_fro_sub (a b : Value) : argsOk "frozenset.__sub__" ⟨[a, b], []⟩ := by unfold argsOk; kernel_rfl
theorem noI_fro_sub : typeLookup (.type "frozenset") (dunderI "sub") = pure none := by rw [typeLookup_type, builtinLookup_eq_fast]; kernel_rfl
theorem fills_fro_sub : fillsNumberSlot (.type "frozenset") "sub" = pure true := by
  refine fillsNumberSlot_of (id := "frozenset.__sub__") (r := some (.builtin "frozenset.__rsub__")) slot_fro_sub.lookup (by decide +kernel) ?_
  rw [typeLookup_type, builtinLookup_eq_fast]; kernel_rfl
theorem sub_set_fro : isSubtype (.type "set") (.type "frozenset") = pure false := by rw [isSubtype_type]; kernel_rfl

section
variable {prog : Program} {w : World} {A : Around} {E : Value → Shared → Prop} {s : Shared} {a o : Addr} {tk tk₂ : Nat → Tok} {m ep r ep₂ : Nat} {t t₂ : SetTable} {wk wk₂ : Bool} {cls₂ : String}

theorem baseOf_fro {Q : Value → Shared → Prop} (ho : s.heap.get? a = some (setObj "frozenset" tk m ep t)) (h : Q (.type "frozenset") s) : wpAny (model prog w) A (Builtin.Frozenset.baseOf a) Q E s := by
  unfold Builtin.Frozenset.baseOf
  refine wpAny_bind (wpAny_isInstance (T := "frozenset") ⟨_, ho, rfl⟩ sub_fro_set ?_)
  exact wpAny_pure h

theorem unchanged_ {id : String} {cls : String} {Q : Unit → Shared → Prop} (ho : s.heap.get? a = some (setObj cls tk m ep t)) (T : Tab w wk t m) (h : Q () s) : wpAny (model prog w) A (Builtin.Frozenset.unchanged id a ep) Q E s := by
  unfold Builtin.Frozenset.unchanged
  refine wpAny_bind (setEpoch_ ho T ?_)
  rw [if_neg (by simp)]
  exact wpAny_pure h

theorem difference_new {id : String} {Q : Value → Shared → Prop} (hc2 : IsSetCls cls₂) (hbig : ¬ ((pts m).length / 4 > (pts r).length))
    (ho : s.heap.get? a = some (setObj "frozenset" tk m ep t)) (T : Tab w false t m) (hm : m < 64) (ho₂ : s.heap.get? o = some (setObj cls₂ tk₂ r ep₂ t₂)) (T₂ : Tab w wk₂ t₂ r) (hr : r < 64)
    (h : ∀ h' ob, (∀ b x, s.heap.get? b = some x → h'.get? b = some x) → h'.get? s.heap.objs.size = some ob → SetO w false "frozenset" (dif (pts m) r) ob → Q (.ref s.heap.objs.size) { s with heap := h' }) :
    wpAny (model prog w) A (Builtin.Frozenset.difference id a (.ref o)) Q E s := by
  have hTo : s.TypeIs (.ref o) cls₂ := ⟨_, ho₂, rfl⟩
  unfold Builtin.Frozenset.difference
  dsimp only
  refine wpAny_bind (isAnySet_ hTo hc2 ?_)
  rw [if_neg (by decide)]
  refine wpAny_bind (wpAny_pure ?_)
  rw [if_neg (by simp)]
  rw [if_pos rfl]
  refine wpAny_bind (sizeOf_ ho₂ T₂ ?_)
  refine wpAny_bind (sizeOf_ ho T ?_)
  rw [if_neg hbig]
  refine wpAny_bind (baseOf_fro ho ?_)
  refine wpAny_bind (newSet_ ?_)
  refine wpAny_bind (wpAny_pure ?_)
  have ho' : (s.heap.push (setObj "frozenset" (fun _ => 0) 0 0 (newT w))).get? a = some (setObj "frozenset" tk m ep t) := Heap.get?_push_of_some _ ho
  have ho₂' : (s.heap.push (setObj "frozenset" (fun _ => 0) 0 0 (newT w))).get? o = some (setObj cls₂ tk₂ r ep₂ t₂) := Heap.get?_push_of_some _ ho₂
  have hS : (s.heap.push (setObj "frozenset" (fun _ => 0) 0 0 (newT w))).get? s.heap.objs.size = some (setObj "frozenset" (fun _ => 0) 0 0 (newT w)) := Heap.get?_push_size _ rfl
  have hold : ∀ b x, s.heap.get? b = some x → (s.heap.push (setObj "frozenset" (fun _ => 0) 0 0 (newT w))).get? b = some x := fun b x e => Heap.get?_push_of_some _ e
  refine wpAny_bind (setEpoch_ (s := { s with heap := _ }) ho' T ?_)
  refine wpAny_bind (wpAny_holding ?_)
  rw [if_pos rfl]
  refine wpAny_bind (setWalkUnseen_ (s := { s with heap := _ }) ho' T ?_)
  obtain ⟨l, pl, el⟩ := walk_ents (w := w) (a := a) (ep := ep) (tk := tk) (m := m)
  have hl6 : ∀ k ∈ l, k < 6 := fun k hk => pts_lt (pl.mem_iff.mp hk)
  have hne : ∀ {b x}, s.heap.get? b = some x → b ≠ s.heap.objs.size := fun e => Nat.ne_of_lt (Heap.lt_size e)
  refine wpAny_bind (forIn_array_ _ (fun rest _ s' => ∃ done l' h' tks ep' t', l = done ++ l' ∧ rest = l'.map (ent tk) ∧ s' = { s with heap := h' } ∧ Heap.SameBut s.heap.objs.size (s.heap.push (setObj "frozenset" (fun _ => 0) 0 0 (newT w))) h' ∧
      h'.get? s.heap.objs.size = some (setObj "frozenset" tks (dif done r) ep' t') ∧ NewT w false t' (dif done r)) _ ?_ ?_ _ _
      ⟨[], l, _, fun _ => 0, 0, newT w, rfl, el, rfl, Heap.SameBut.refl _ _, hS, newT_ok w⟩)
  · rintro x rest b s' ⟨done, l', h', tks, ep', t', rfl, hr', rfl, hs, hg, T'⟩
    cases l' with
    | nil => cases hr'
    | cons k l' =>
      simp only [List.map_cons, List.cons.injEq] at hr'
      obtain ⟨rfl, rfl⟩ := hr'
      have hk : k < 6 := hl6 k (List.mem_append_right _ (.head _))
      have hlt : dif done r < 64 := foldl_ins_lt _ 0 (by decide) fun k hk => hl6 k (List.mem_append_left _ (List.mem_filter.mp hk).1)
      have ho₂'' : h'.get? o = some (setObj cls₂ tk₂ r ep₂ t₂) := (hs.2 o (hne ho₂)).trans ho₂'
      have ho'' : h'.get? a = some (setObj "frozenset" tk m ep t) := (hs.2 a (hne ho)).trans ho'
      dsimp only
      refine wpAny_bind (wpAny_holding ?_)
      rw [if_pos rfl]
      refine wpAny_bind (setFind_ (s := { s with heap := h' }) ho₂'' T₂ hk ?_)
      refine wpAny_bind (wpAny_pure ?_)
      have hsome : ((pts r).findIdx? (· == k)).isSome = r.testBit k := by
        cases hf : (pts r).findIdx? (· == k) with
        | none => rw [pts_sub_mem hr hk (findIdx_none hf)]; rfl
        | some i => rw [(mem_pts.mp (List.mem_of_getElem? (findIdx_some hf).1)).2]; rfl
      rw [hsome]
      cases hb : r.testBit k with
      | true =>
        rw [if_neg (by decide)]
        refine wpAny_pure ?_
        refine wpAny_bind (unchanged_ (s := { s with heap := h' }) ho'' T (wpAny_pure ?_))
        have e : dif (done ++ [k]) r = dif done r := by unfold dif; rw [List.filter_append]; simp [hb]
        exact ⟨done ++ [k], l', h', tks, ep', t', by simp, rfl, rfl, hs, by rw [e]; exact hg, by rw [e]; exact T'⟩
      | false =>
        rw [if_pos (by decide)]
        refine wpAny_bind (addHashed_ (s := { s with heap := h' }) hg T' T'.tab hlt hk fun h'' tks'' ep'' t'' hs'' hg'' T'' _ b => ?_)
        refine wpAny_pure ?_
        have hoo : h''.get? a = some (setObj "frozenset" tk m ep t) := (hs''.2 a (hne ho)).trans ho''
        refine wpAny_bind (unchanged_ (s := { s with heap := h'' }) hoo T (wpAny_pure ?_))
        have e : dif (done ++ [k]) r = dif done r ||| 2 ^ k := by unfold dif; rw [List.filter_append]; simp [hb, ins]
        exact ⟨done ++ [k], l', h'', tks'', ep'', t'', by simp, rfl, rfl, hs.trans hs'', by rw [e]; exact hg'', by rw [e]; exact T''⟩
  · rintro b s' ⟨done, l', h', tks, ep', t', rfl, hr', rfl, hs, hg, T'⟩
    cases l' with
    | cons k l' => cases hr'
    | nil =>
      rw [List.append_nil] at pl hl6
      have e : dif done r = dif (pts m) r := foldl_ins_perm (pl.filter _) 0 (by decide) fun k hk => hl6 k (List.mem_filter.mp hk).1
      rw [e] at hg T'
      have hlt : dif (pts m) r < 64 := foldl_ins_lt _ 0 (by decide) fun k hk => pts_lt (List.mem_filter.mp hk).1
      refine wpAny_pure (wpAny_pure (h h' _ (fun b x e => (hs.2 b (hne e)).trans (hold b x e)) hg ⟨hlt, tks, ep', t', rfl, T'.tab⟩))
end
end Mine

end
section
open PySem PySem.W PyProof.Rows
set_option Elab.async false
set_option maxRecDepth 100000
set_option linter.unusedVariables false
set_option linter.unusedSimpArgs false
namespace Mine

theorem pts63 : (pts 63).length = 6 := by decide
theorem sub_63_0 : sub 63 0 = 63 := by decide

section
variable {prog : Program} {w : World} {A : Around} {E : Value → Shared → Prop} {s : Shared} {a o : Addr} {tk tk₂ : Nat → Tok} {m ep r ep₂ : Nat} {t t₂ : SetTable} {wk wk₂ : Bool} {cls₂ cls : String}

theorem copy63 {Q : Value → Shared → Prop} (ho : s.heap.get? a = some (setObj "frozenset" tk 63 ep t)) (T : Tab w false t 63)
    (h : ∀ h' tks ep' t', (∀ b x, s.heap.get? b = some x → h'.get? b = some x) → h'.get? s.heap.objs.size = some (setObj "frozenset" tks 63 ep' t') → Tab w false t' 63 → Q (.ref s.heap.objs.size) { s with heap := h' }) :
    wpAny (model prog w) A (Builtin.Frozenset.copyOf a) Q E s := by
  unfold Builtin.Frozenset.copyOf
  refine wpAny_bind (baseOf_fro ho ?_)
  refine wpAny_bind (newSet_ ?_)
  refine wpAny_bind (wpAny_pure ?_)
  have ho' : (s.heap.push (setObj "frozenset" (fun _ => 0) 0 0 (newT w))).get? a = some (setObj "frozenset" tk 63 ep t) := Heap.get?_push_of_some _ ho
  have hS : (s.heap.push (setObj "frozenset" (fun _ => 0) 0 0 (newT w))).get? s.heap.objs.size = some (setObj "frozenset" (fun _ => 0) 0 0 (newT w)) := Heap.get?_push_size _ rfl
  have hold : ∀ b x, s.heap.get? b = some x → (s.heap.push (setObj "frozenset" (fun _ => 0) 0 0 (newT w))).get? b = some x := fun b x e => Heap.get?_push_of_some _ e
  have hne : ∀ {b x}, s.heap.get? b = some x → b ≠ s.heap.objs.size := fun e => Nat.ne_of_lt (Heap.lt_size e)
  unfold setMerge
  rw [if_neg (by simpa using (hne ho).symm)]
  refine wpAny_bind (wpAny_bind (setState_ (s := { s with heap := _ }) ho' T ?_))
  dsimp only
  rw [if_neg (show ¬ ((entA tk (pts 63)).isEmpty = true) from fun h => by cases h)]
  refine wpAny_bind ?_
  unfold setRoomFor
  refine wpAny_bind (setState_ (s := { s with heap := _ }) hS ((newT_ok w).tab (wk := false)) ?_)
  rw [entA_size, pts63, show SetTable.roomFor (newT w) 6 = some 12 from rfl]
  dsimp only
  refine relayW_ (wk := false) (s := { s with heap := _ }) hS (newT_ok w).tab (by decide) (by decide +kernel) fun h1 ep1 t1 hs1 hg1 T1 hd1 => ?_
  refine wpAny_bind (setState_ (s := { s with heap := h1 }) hg1 T1 ?_)
  dsimp only
  have hfill : t1.fill = 0 := by unfold SetTable.fill; rw [T1.place, hd1]; rfl
  have hdum : t.dummies = #[] := by
    have := T.fill
    rw [pts63] at this
    exact Array.eq_empty_of_size_eq_zero (by omega)
  have hm15 : t1.mask = 7 ∨ t1.mask = 15 ∨ t1.mask = 31 := T1.mask
  have hold1 : ∀ b x, s.heap.get? b = some x → h1.get? b = some x := fun b x e => (hs1.2 b (hne e)).trans (hold b x e)
  have hled : w.params.followText "set-order" = true ∨ (t1.led && t.led) = true := by
    rcases T.strong with h2 | h2
    · exact .inl h2
    · rcases T1.strong with h3 | h3
      · exact .inl h3
      · exact .inr (by rw [h2, h3]; rfl)
  have hplain : (t1.plain && t.plain) = true := by rw [T.plain, T1.plain]; rfl
  have hsz : (entA tk (pts 63)).size ≤ sizeLine := by rw [entA_size, pts63, sizeLine_eq]; omega
  unfold SetTable.road
  rw [if_neg (by rw [hfill]; decide)]
  by_cases hmask : (t1.mask == t.mask && t.dummies.isEmpty) = true
  · rw [if_pos hmask]
    dsimp only
    refine wpAny_storeSet_of (s := { s with heap := h1 }) hg1 rfl ?_ hsz
    refine wpAny_pure ?_
    have hg2 := get_put (es' := entA tk (pts 63)) (t' := { mask := t.mask, place := t.place, dummies := t.dummies, finger := t1.finger, led := t1.led && t.led, moves := t1.moves, plain := t1.plain && t.plain }) hg1
    refine h _ tk (ep1 + 1) _ (fun b x e => ?_) hg2 ⟨T.place, T.fill, T.mask, hplain, hled.elim .inl fun h => .inr (.inl h)⟩
    rw [Heap.get?_update_ne _ _ _ _ (hne e)]; exact hold1 b x e
  · rw [if_neg hmask]
    dsimp only
    rw [entA_hash, laid_ (by simpa using hm15) (by decide)]
    have hf : (List.range (pts 63).length).toArray.filterMap (fun i => (entA tk (pts 63))[i]?) = entA tk (pts 63) := by
      have := filterMap_getElem?_range (entA tk (pts 63))
      rw [entA_size] at this
      apply Array.toList_inj.mp
      rw [Array.toList_filterMap]
      exact this
    refine wpAny_bind ?_
    show wpAny _ _ (if (((List.range (pts 63).length).toArray.filterMap (fun i => (entA tk (pts 63))[i]?)).size != (entA tk (pts 63)).size) = true then unsupported "internal:set-table-lost-an-element" else pure _) _ _ _
    rw [hf, if_neg (by simp)]
    refine wpAny_pure ?_
    refine wpAny_storeSet_of (s := { s with heap := h1 }) hg1 rfl ?_ hsz
    refine wpAny_pure ?_
    have hg2 := get_put (es' := entA tk (pts 63)) (t' := { mask := t1.mask, place := (pts 63).toArray, dummies := #[], finger := t1.finger, led := t1.led && t.led, moves := t1.moves, plain := t1.plain && t.plain }) hg1
    refine h _ tk (ep1 + 1) _ (fun b x e => ?_) hg2 ⟨rfl, by rw [pts63]; exact Nat.le_refl _, hm15, hplain, hled.elim .inl fun h => .inr (.inl h)⟩
    rw [Heap.get?_update_ne _ _ _ _ (hne e)]; exact hold1 b x e

theorem difference_63 {id : String} {Q : Value → Shared → Prop} (hc2 : IsSetCls cls₂)
    (ho : s.heap.get? a = some (setObj "frozenset" tk 63 ep t)) (T : Tab w false t 63) (ho₂ : s.heap.get? o = some (setObj cls₂ tk₂ r ep₂ t₂)) (T₂ : Tab w wk₂ t₂ r) (hr : r < 64)
    (h : ∀ h' ob, (∀ b x, s.heap.get? b = some x → h'.get? b = some x) → h'.get? s.heap.objs.size = some ob → SetO w false "frozenset" (63 - r) ob → Q (.ref s.heap.objs.size) { s with heap := h' }) :
    wpAny (model prog w) A (Builtin.Frozenset.difference id a (.ref o)) Q E s := by
  by_cases hbig : (pts 63).length / 4 > (pts r).length
  · have hr0 : r = 0 := pts_zero r hr (by rw [pts63] at hbig; omega)
    subst hr0
    have hTo : s.TypeIs (.ref o) cls₂ := ⟨_, ho₂, rfl⟩
    unfold Builtin.Frozenset.difference
    dsimp only
    refine wpAny_bind (isAnySet_ hTo hc2 ?_)
    rw [if_neg (by decide)]
    refine wpAny_bind (wpAny_pure ?_)
    rw [if_neg (by simp)]
    rw [if_pos rfl]
    refine wpAny_bind (sizeOf_ ho₂ T₂ ?_)
    refine wpAny_bind (sizeOf_ ho T ?_)
    rw [if_pos hbig]
    refine wpAny_bind (wpAny_rule ?_)
    refine wpAny_bind (copy63 ho T fun h1 tks ep1 t1 old1 hg1 T1 => ?_)
    refine wpAny_bind (wpAny_pure ?_)
    refine wpAny_bind (wpAny_holding ?_)
    have hne : o ≠ s.heap.objs.size := Nat.ne_of_lt (Heap.lt_size ho₂)
    refine diffUpdate_ (s := { s with heap := h1 }) hne hc2 hg1 T1 (by decide) (old1 o _ ho₂) T₂ fun h' ep' t' hs hg T' hlt => ?_
    rw [sub_63_0] at hg T'
    refine wpAny_pure (h h' _ (fun b x e => ?_) hg ⟨by decide, tks, ep', t', rfl, T'⟩)
    exact (hs.2 b (Nat.ne_of_lt (Heap.lt_size e))).trans (old1 b x e)
  · refine difference_new hc2 hbig ho T (by decide) ho₂ T₂ hr fun h' ob old hg hS => ?_
    rw [dif_63 r hr] at hS
    exact h h' ob old hg hS

theorem call_fro_sub {Q : Value → Shared → Prop}
    (ho : s.heap.get? a = some (setObj "frozenset" tk 63 ep t)) (T : Tab w false t 63) (ho₂ : s.heap.get? o = some (setObj "set" tk₂ r ep₂ t₂)) (T₂ : Tab w wk₂ t₂ r) (hr : r < 64)
    (h : ∀ h' ob, (∀ b x, s.heap.get? b = some x → h'.get? b = some x) → h'.get? s.heap.objs.size = some ob → SetO w false "frozenset" (63 - r) ob → Q (.ref s.heap.objs.size) { s with heap := h' }) :
    wpAny (model prog w) A (call (.builtin "frozenset.__sub__") [.ref a, .ref o]) Q E s := by
  have ha : s.TypeIs (.ref a) "frozenset" := ⟨_, ho, rfl⟩
  have hb : s.TypeIs (.ref o) "set" := ⟨_, ho₂, rfl⟩
  refine wpAny_call_entry slot_fro_sub ha entry_fro_sub ?_ (args_fro_sub _ _)
  unfold Builtin.«frozenset.__sub__»
  show wpAny _ _ (do
    let x ← Builtin.Frozenset.slot1 "__sub__" ⟨[.ref a, .ref o], []⟩
    if !(← Builtin.Frozenset.isAnySet x.1 <&&> Builtin.Frozenset.isAnySet x.2) then rule s!"frozenset.{"__sub__"}.declined"; return ← ret .notImplemented
    ret (← Builtin.Frozenset.difference s!"frozenset.{"__sub__"}" (← Builtin.Frozenset.addrOf x.1) x.2)) _ _ _
  refine wpAny_bind (?_ : wpAny _ _ (pure (Value.ref a, Value.ref o)) _ _ _)
  refine wpAny_pure ?_
  refine wpAny_bind (wpAny_bind (isAnySet_ ha (.inr rfl) ?_))
  show wpAny _ _ (Builtin.Frozenset.isAnySet (.ref o)) _ _ _
  refine isAnySet_ hb (.inl rfl) ?_
  rw [if_neg (by decide)]
  refine wpAny_bind (wpAny_pure ?_)
  refine wpAny_bind (difference_63 (.inl rfl) ho T ho₂ T₂ hr fun h' ob old hg hS => ?_)
  exact wpAny_pure ⟨_, rfl, h h' ob old hg hS⟩

theorem op1_fro {Q : Option Value → Shared → Prop}
    (ho : s.heap.get? a = some (setObj "frozenset" tk 63 ep t)) (T : Tab w false t 63) (ho₂ : s.heap.get? o = some (setObj "set" tk₂ r ep₂ t₂)) (T₂ : Tab w wk₂ t₂ r) (hr : r < 64)
    (h : ∀ h' ob, (∀ b x, s.heap.get? b = some x → h'.get? b = some x) → h'.get? s.heap.objs.size = some ob → SetO w false "frozenset" (63 - r) ob → Q (some (.ref s.heap.objs.size)) { s with heap := h' }) :
    wpAny (model prog w) A (binaryOp1 "sub" (.ref a) (.ref o)) Q E s := by
  have ha : s.TypeIs (.ref a) "frozenset" := ⟨_, ho, rfl⟩
  have hb : s.TypeIs (.ref o) "set" := ⟨_, ho₂, rfl⟩
  have hne : (Value.type "frozenset" == Value.type "set") = false := by decide
  simp only [binaryOp1]
  refine wpAny_bind (wpAny_typeOf ha (wpAny_bind (wpAny_typeOf hb (wpAny_bind (wpAny_of_eq fills_fro_sub ?_)))))
  simp only [hne, Bool.false_eq_true, if_false]
  refine wpAny_bind (wpAny_of_eq F.fills_set_sub ?_)
  simp only [Bool.and_self, if_true]
  refine wpAny_bind (wpAny_of_eq sub_set_fro ?_)
  have hpy : numberSlotInPython (.type "frozenset") "sub" = pure false := rfl
  simp only [Bool.false_eq_true, if_false, pure_bind, Bool.not_false, Bool.and_self, if_true, hpy]
  refine wpAny_bind (wpAny_tryMethod_slot ha slot_fro_sub (call_fro_sub ho T ho₂ T₂ hr fun h' ob old hg hS => ⟨(by intro e; cases e), ?_⟩))
  exact wpAny_pure (h h' ob old hg hS)

theorem isub_fro {Q : Value → Shared → Prop}
    (ho : s.heap.get? a = some (setObj "frozenset" tk 63 ep t)) (T : Tab w false t 63) (ho₂ : s.heap.get? o = some (setObj "set" tk₂ r ep₂ t₂)) (T₂ : Tab w wk₂ t₂ r) (hr : r < 64)
    (h : ∀ h' ob, (∀ b x, s.heap.get? b = some x → h'.get? b = some x) → h'.get? s.heap.objs.size = some ob → SetO w false "frozenset" (63 - r) ob → Q (.ref s.heap.objs.size) { s with heap := h' }) :
    wpAny (model prog w) A (inplaceOp .Sub (.ref a) (.ref o)) Q E s := by
  have ha : s.TypeIs (.ref a) "frozenset" := ⟨_, ho, rfl⟩
  unfold inplaceOp
  refine wpAny_holding ?_
  refine wpAny_bind (wpAny_typeOf ha (wpAny_bind (wpAny_of_eq (noFillsI noI_fro_sub) ?_)))
  rw [if_neg Bool.false_ne_true]
  refine wpAny_bind (op1_fro ho T ho₂ T₂ hr fun h' ob old hg hS => ?_)
  exact wpAny_pure (h h' ob old hg hS)
end
end Mine

end
section
open PySem PySem.W PyProof.Rows
set_option Elab.async false
set_option maxRecDepth 100000
set_option linter.unusedVariables false
set_option linter.unusedSimpArgs false
namespace Mine

section
variable {prog : Program} {w : World} {A : Around} {E : Value → Shared → Prop} {s : Shared} {h₀ : Heap} {L a o : Addr} {m : Str → Option Value} {news : List (Addr × Obj)} {g : Obj → List (Addr × Obj)} {so oo : Obj} {M r : Nat} {wk wk₂ : Bool} {cls cls₂ : String}

theorem isSetCls_of {h : SetO w wk cls M so} : True := trivial

/-- left -= {x}: the very set, changed -/
theorem isub_N {Q : Value → Shared → Prop} (F : Fr h₀ L s.heap m) (N : News h₀ L s.heap news) (U : UpdF a so news g) (hS : SetO w wk "set" M so) (ho : (o, oo) ∈ news) (hO : SetO w wk₂ "set" r oo) (hne : o ≠ a)
    (h : ∀ h' so', Fr h₀ L h' m → News h₀ L h' (g so') → SetO w wk "set" (sub M r) so' → Q (.ref a) { s with heap := h' }) :
    wpAny (model prog w) A (inplaceOp .Sub (.ref a) (.ref o)) Q E s := by
  obtain ⟨pre, post, rfl, hg, p1, p2⟩ := U.split
  have hm := N (a, so) (List.mem_append_right _ (.head _))
  have hmo := N (o, oo) ho
  obtain ⟨hM, tk, ep, t, rfl, T⟩ := hS
  obtain ⟨hr, tk₂, ep₂, t₂, rfl, T₂⟩ := hO
  refine isub_set hne (.inl rfl) hm.1 T hM hmo.1 T₂ fun h' ep' t' hsb hg' T' hlt => ?_
  exact h h' _ (F.change hsb hm.2.1 hm.2.2) (hg _ ▸ N.setAt p1 p2 hsb hg') ⟨hlt, tk, ep', t', rfl, T'⟩
/-- near[0] -= near[0] -/
theorem iself_N {Q : Value → Shared → Prop} (F : Fr h₀ L s.heap m) (N : News h₀ L s.heap news) (U : UpdF a so news g) (hS : SetO w wk "set" M so)
    (h : ∀ h' so', Fr h₀ L h' m → News h₀ L h' (g so') → SetO w wk "set" 0 so' → Q (.ref a) { s with heap := h' }) :
    wpAny (model prog w) A (inplaceOp .Sub (.ref a) (.ref a)) Q E s := by
  obtain ⟨pre, post, rfl, hg, p1, p2⟩ := U.split
  have hm := N (a, so) (List.mem_append_right _ (.head _))
  obtain ⟨hM, tk, ep, t, rfl, T⟩ := hS
  refine isub_self hm.1 T fun h' ep' t' hsb hg' T' => ?_
  exact h h' _ (F.change hsb hm.2.1 hm.2.2) (hg _ ▸ N.setAt p1 p2 hsb hg') ⟨by decide, tk, ep', t', rfl, T'⟩
/-- whole -= left: a new frozenset -/
theorem ifro_N {Q : Value → Shared → Prop} (F : Fr h₀ L s.heap m) (N : News h₀ L s.heap news) (hf : (a, so) ∈ news) (hS : SetO w false "frozenset" 63 so) (ho : (o, oo) ∈ news) (hO : SetO w wk₂ "set" r oo)
    (h : ∀ D h' ob, Fr h₀ L h' m → News h₀ L h' ((D, ob) :: news) → (∀ p ∈ news, p.1 < D) → SetO w false "frozenset" (63 - r) ob → Q (.ref D) { s with heap := h' }) :
    wpAny (model prog w) A (inplaceOp .Sub (.ref a) (.ref o)) Q E s := by
  have hm := N (a, so) hf
  have hmo := N (o, oo) ho
  obtain ⟨hM, tk, ep, t, rfl, T⟩ := hS
  obtain ⟨hr, tk₂, ep₂, t₂, rfl, T₂⟩ := hO
  refine isub_fro hm.1 T hmo.1 T₂ hr fun h' ob old hg hS' => ?_
  exact h _ h' ob (F.kept old) (N.kept_cons F old (Nat.le_refl _) hg) (fun p hp => Heap.lt_size (N p hp).1) hS'
/-- the refusals -/
theorem bad_r {v : Value} {T : String} {Q : Value → Shared → Prop} (hh : A.handled = none) (N : News h₀ L s.heap news) (hf : (a, so) ∈ news) (hS : SetO w wk "set" M so) (B : Bad T) (hi : IntOnly v T) (hv : s.TypeIs v T)
    (h : ∀ h' tk e, Heap.NewExc s.heap h' e "TypeError" → E (.ref e) { s with heap := h', toks := tk }) :
    wpAny (model prog w) A (inplaceOp .Sub (.ref a) v) Q E s := by
  obtain ⟨hM, tk, ep, t, rfl, T⟩ := hS
  exact refuse_right hh B hi (N _ hf).1 hv h
theorem bad_l {v : Value} {T : String} {Q : Value → Shared → Prop} (hh : A.handled = none) (N : News h₀ L s.heap news) (hf : (a, so) ∈ news) (hS : SetO w wk "set" M so) (B : Bad T) (hi : IntOnly v T) (hv : s.TypeIs v T)
    (h : ∀ h' tk e, Heap.NewExc s.heap h' e "TypeError" → E (.ref e) { s with heap := h', toks := tk }) :
    wpAny (model prog w) A (inplaceOp .Sub v (.ref a)) Q E s := by
  obtain ⟨hM, tk, ep, t, rfl, T⟩ := hS
  exact refuse_left hh B hi (N _ hf).1 hv h

theorem sorted_SN {Q : Value → Shared → Prop} (hh : A.handled = none) (F : Fr h₀ L s.heap m) (N : News h₀ L s.heap news) (hf : (a, so) ∈ news) (hc : IsSetCls cls) (hS : SetO w false cls M so)
    (h : ∀ D h' tk vs c, Fr h₀ L h' m → News h₀ L h' ((D, PySem.W.listOf vs.toArray c) :: news) → (∀ p ∈ news, p.1 < D) → IntsAre vs (ipts M) → Q (.ref D) { s with heap := h', toks := tk }) :
    wpAny (model prog w) A (call (.builtin "sorted") [.ref a]) Q E s := by
  have hm := N (a, so) hf
  obtain ⟨hM, tk, ep, t, rfl, T⟩ := hS
  refine call_sorted_set hh hc hm.1 T hM fun D h' tk' vs c old hle hg hI => ?_
  exact h D h' tk' vs c (F.kept old) (N.kept_cons F old hle hg) (fun p hp => Nat.lt_of_lt_of_le (Heap.lt_size (N p hp).1) hle) hI
theorem len_SN {Q : Value → Shared → Prop} (N : News h₀ L s.heap news) (U : UpdF a so news g) (hS : SetO w wk "set" M so)
    (h : Q (.int ((pts M).length : Int) (s.toks + 1)) { s with toks := s.toks + 1 + 1 }) : wpAny (model prog w) A (call (.builtin "len") [.ref a]) Q E s :=
  kse_len N U (SetO.objOf (prog := prog) hS) (by have := pts_len M; omega) h
theorem set_LN {Q : Value → Shared → Prop} {items : Array Value} {vals : List Nat} (hh : A.handled = none) (F : Fr h₀ L s.heap m) (N : News h₀ L s.heap news) (hl : s.heap.IsList a items) (hi : IntsAre items.toList (vals.map fun k : Nat => (k : Int))) (h6 : ∀ k ∈ vals, k < 6)
    (h : ∀ D h' tk ob, Fr h₀ L h' m → News h₀ L h' ((D, ob) :: news) → (∀ p ∈ news, p.1 < D) → SetO w false "set" (vals.foldl ins 0) ob → Q (.ref D) { s with heap := h', toks := tk }) :
    wpAny (model prog w) A (call (.type "set") [.ref a]) Q E s := by
  refine call_set_ hh h6 (gives_list hl hi) fun h' tk' ob old hg hS => ?_
  exact h _ h' tk' ob (F.kept old) (N.kept_cons F old (Nat.le_refl _) hg) (fun p hp => Heap.lt_size (N p hp).1) hS
theorem set_RN {Q : Value → Shared → Prop} {t u v : Tok} (hh : A.handled = none) (F : Fr h₀ L s.heap m) (N : News h₀ L s.heap news) (hr : IsRange s.heap a 0 6 1 t u v)
    (h : ∀ D h' tk ob, Fr h₀ L h' m → News h₀ L h' ((D, ob) :: news) → (∀ p ∈ news, p.1 < D) → SetO w false "set" 63 ob → Q (.ref D) { s with heap := h', toks := tk }) :
    wpAny (model prog w) A (call (.type "set") [.ref a]) Q E s := by
  refine call_set_ hh (by decide) (gives_range hr) fun h' tk' ob old hg hS => ?_
  exact h _ h' tk' ob (F.kept old) (N.kept_cons F old (Nat.le_refl _) hg) (fun p hp => Heap.lt_size (N p hp).1) hS
theorem fro_RN {Q : Value → Shared → Prop} {t u v : Tok} (hh : A.handled = none) (F : Fr h₀ L s.heap m) (N : News h₀ L s.heap news) (hr : IsRange s.heap a 0 6 1 t u v)
    (h : ∀ D h' tk ob, Fr h₀ L h' m → News h₀ L h' ((D, ob) :: news) → (∀ p ∈ news, p.1 < D) → SetO w false "frozenset" 63 ob → Q (.ref D) { s with heap := h', toks := tk }) :
    wpAny (model prog w) A (call (.type "frozenset") [.ref a]) Q E s := by
  refine call_fro_ hh (by decide) (gives_range hr) fun h' tk' ob old hg hS => ?_
  exact h _ h' tk' ob (F.kept old) (N.kept_cons F old (Nat.le_refl _) hg) (fun p hp => Heap.lt_size (N p hp).1) hS

theorem len_one : ∀ k < 6, (pts (2 ^ k)).length ≤ 1 := by decide
theorem fresh_new (w : World) (led : Bool) : NewT w true (.fresh 0 0 led) 0 := ⟨rfl, rfl, rfl, rfl, .inr (.inr rfl)⟩
/-- the one add of a display {x} -/
theorem add1_N {led : Bool} {k : Nat} {u : Tok} {Q : Bool → Shared → Prop} (F : Fr h₀ L s.heap m) (N : News h₀ L s.heap news) (U : UpdF a { cls := .type "set", dict := none, data := .set #[] 0 (.fresh 0 0 led) } news g) (hk : k < 6)
    (h : ∀ h' so', Fr h₀ L h' m → News h₀ L h' (g so') → SetO w true "set" (2 ^ k) so' → ∀ b, Q b { s with heap := h', toks := s.toks + 1 }) :
    wpAny (model prog w) A (setAdd a (.int (k : Int) u)) Q E s := by
  obtain ⟨pre, post, rfl, hg, p1, p2⟩ := U.split
  have hm := N (a, _) (List.mem_append_right _ (.head _))
  have hm1 : s.heap.get? a = some (setObj "set" (fun _ => 0) 0 0 (.fresh 0 0 led)) := hm.1
  unfold setAdd
  refine wpAny_holding (wpAny_bind ((PySem.intKind prog w).pyHash (k := (k : Int)) (intKind_is _ _ _ _) ?_))
  rw [show (PySem.intKind prog w).hash (k : Int) = (k : Int) from hash6 k hk]
  refine addHashed_ (s := { s with toks := s.toks + 1 }) hm1 (fresh_new w led) ((fresh_new w led).tab1 (by decide)) (by decide) hk fun h' tk' ep' t' hsb hg' T' hlt b => ?_
  rw [Nat.zero_or] at hg' T' hlt
  exact h h' _ (F.change hsb hm.2.1 hm.2.2) (hg _ ▸ N.setAt p1 p2 hsb hg') ⟨hlt, tk', ep', t', rfl, T'.tab1 (len_one k hk)⟩ b
theorem unled_N {Q : Unit → Shared → Prop} (F : Fr h₀ L s.heap m) (N : News h₀ L s.heap news) (U : UpdF a so news g) (hS : SetO w true "set" (2 ^ r) so) (hr : r < 6)
    (h : ∀ h' so', Fr h₀ L h' m → News h₀ L h' (g so') → SetO w true "set" (2 ^ r) so' → Q () { s with heap := h' }) : wpAny (model prog w) A (setUnled a) Q E s := by
  obtain ⟨pre, post, rfl, hg, p1, p2⟩ := U.split
  have hm := N (a, so) (List.mem_append_right _ (.head _))
  obtain ⟨hM, tk, ep, t, rfl, T⟩ := hS
  have hsz : (entA tk (pts (2 ^ r))).size ≤ sizeLine := by rw [entA_size, sizeLine_eq]; have := pts_len (2 ^ r); omega
  unfold setUnled
  refine wpAny_bind (setState_ hm.1 T ?_)
  refine wpAny_storeSet_of hm.1 rfl ?_ hsz
  have hsb := Heap.SameBut.update s.heap a (Obj.putSet (entA tk (pts (2 ^ r))) { t with led := false })
  have hgp := get_put (a := a) (es' := entA tk (pts (2 ^ r))) (t' := { t with led := false }) hm.1
  exact h _ (setObj "set" tk (2 ^ r) (ep + 1) { t with led := false }) (F.change hsb hm.2.1 hm.2.2) (hg _ ▸ N.setAt p1 p2 hsb hgp) ⟨hM, tk, ep + 1, _, rfl, ⟨T.place, T.fill, T.mask, T.plain, .inr (.inr ⟨rfl, len_one r hr⟩)⟩⟩
end
end Mine

end
section
open PySem PySem.W PyProof.Rows
set_option Elab.async false
set_option maxRecDepth 100000
set_option linter.unusedVariables false
set_option linter.unusedSimpArgs false
namespace Mine
section
variable {prog : Program} {w : World} {A : Around} {E : Value → Shared → Prop} {s : Shared} {h₀ : Heap} {L : Addr} {m : Str → Option Value} {news : List (Addr × Obj)}

theorem main_of_code {env : Env} {q : Str} {Q : Bool → Shared → Prop} (F : Fr h₀ L s.heap m) (hc : h₀.CodeRec env.code q) (h : ∀ b, Q b s) : wpAny (model prog w) A (inMainModule env) Q E s := by
  obtain ⟨c, o, vs, t, e, ho, hd, _⟩ := hc
  have ho' := F.keep _ _ ho
  unfold inMainModule
  try dsimp only
  rw [e]
  split
  · exact wpAny_pure (h _)
  · refine wpAny_bind (wpAny_fieldsOf ho' hd ?_)
    split
    · exact wpAny_bind (wpAny_askSetting (wpAny_pure (h _)))
    · exact wpAny_pure (h _)

theorem set1_eval {e : PySem.Expr} {k : Nat} {pos : Pos} {env : Env} {q : Str} {Q : Value → Shared → Prop} (F : Fr h₀ L s.heap m) (N : News h₀ L s.heap news) (hc : h₀.CodeRec env.code q)
    (hroad : (displayRoad k [e] == .constants) = false) (hp : kdsPlain e = true)
    (h : ∀ D h' (led : Bool), Fr h₀ L h' m → News h₀ L h' ((D, { cls := .type "set", dict := none, data := .set #[] 0 (.fresh 0 0 led) }) :: news) → (∀ p ∈ news, p.1 < D) →
      wpAny (model prog w) A (eval e env) (fun v s' => KdsFill (model prog w) A E (displayRoad k [e] == .unsure) D Q [v] s') E { s with heap := h' }) :
    wpAny (model prog w) A (eval (.Set [e] k pos) env) Q E s := by
  rw [arm_eval_Set]
  refine wpAny_bind (wpAny_standAt ?_)
  refine wpAny_bind (main_of_code F hc fun b => ?_)
  rw [kds_star [e] (by simp [hp]), List.map_map]
  refine kds_core (ts := (evalEach [e] env).map fun t => do let v ← t; standAt pos; pure v) hroad ?_ ?_ ?_ fun led => ?_
  · refine List.findIdx?_eq_none_iff.mpr fun x hx => ?_
    obtain ⟨t, _, rfl⟩ := List.mem_map.mp hx
    rfl
  · rw [List.length_map, kds_len]; simp
  · rw [List.map_map]; try rfl
  · exact kds_all pos [e] _ _ (h _ _ led (F.push _) (News.push F N _ rfl) (fun p hp => Heap.lt_size (N p hp).1))
end
end Mine

end
section
open PySem PySem.W PyProof.Rows
set_option Elab.async false
set_option linter.unusedVariables false
set_option linter.unusedSimpArgs false
namespace Mine
def StepJ (h₀ : Heap) (L : Addr) (I : Addr) (oI : Obj) (J : (Str → Option Value) → List (Addr × Obj) → Prop) (s : Shared) (Q : Flow → Shared → Prop) (f : Flow) (s₃ : Shared) : Prop :=
  match f with
  | .next | .cont => ∃ h' tk m₂ news₂, s₃ = { s with heap := h', toks := tk } ∧ Fr h₀ L h' m₂ ∧ News h₀ L h' ((I, oI) :: news₂) ∧ (∀ p ∈ news₂, p.1 ≠ I) ∧ J m₂ news₂
  | .brk => Q .next s₃
  | .ret v => Q (.ret v) s₃
def LoopJ (prog : Program) (w : World) (A : Around) (h₀ : Heap) (L : Addr) (env : Env) (x : Str) (body : List Stmt) (Q : Flow → Shared → Prop) (E : Value → Shared → Prop) (xv : Value) (s₁ : Shared) : Prop :=
  ∃ (r : Addr) (a b : Int) (t u v : Tok) (n : Nat) (m : Str → Option Value) (news : List (Addr × Obj)) (J : Nat → (Str → Option Value) → List (Addr × Obj) → Prop), xv = .ref r ∧ A.handled = none ∧ Fr h₀ L s₁.heap m ∧ News h₀ L s₁.heap news ∧ IsRange s₁.heap r a b 1 t u v ∧ Builtin.Range.small a b 1 = true ∧ Builtin.Range.rangeSize a b 1 = ((n : Nat) : Int) ∧ J 0 m news ∧
    (∀ i tk₀ I oI h tk m₁ news₁, i < n → (∀ p ∈ news, p.1 < I) → J i m₁ news₁ → Fr h₀ L h m₁ → News h₀ L h ((I, oI) :: news₁) → (∀ p ∈ news₁, p.1 ≠ I) →
      wpAny (model prog w) A (storeName env x (.int (a + (i : Int)) tk₀)) (fun _ s₂ => wpAny (model prog w) A (execs body env) (StepJ h₀ L I oI (J (i + 1)) s₁ Q) E s₂) E { s₁ with heap := h, toks := tk }) ∧
    (∀ h tk m₁ news₁, J n m₁ news₁ → Fr h₀ L h m₁ → News h₀ L h news₁ → Q .next { s₁ with heap := h, toks := tk })
section
variable {prog : Program} {w : World} {A : Around} {E : Value → Shared → Prop} {s : Shared} {env : Env} {h₀ : Heap} {L : Addr} {x : Str} {body : List Stmt} {Q : Flow → Shared → Prop}
theorem For_J {px pos : Pos} {iter : Expr}
    (h : wpAny (model prog w) A (eval iter env) (LoopJ prog w A h₀ L env x body Q E) E s)
    (hs : ∀ x, foldedSetIterable iter env x = pure x := by intro _; rfl)
    (hE : PassesOwn (model prog w) A env E := by passes_own) :
    wpAny (model prog w) A (exec (.For (.Name x px) iter body [] pos) env) Q E s := by
  refine wpAny_For (wpAny_mono h (fun xv s₁ h₁ => ?_) fun _ _ e => e) hs
  obtain ⟨r, a, b, t, u, v, n, m, news, J, rfl, hh, F, N, hr, hsm, hn, h0, turn, done⟩ := h₁
  refine wpAny_pyIter_range hr hsm ?_
  have W := LCg.range_walks (prog := prog) (w := w) (I := s₁.heap.objs.size) hh a n
  have hIL : L ≠ s₁.heap.objs.size := Nat.ne_of_lt F.ns.lt
  have hI₀ : h₀.get? s₁.heap.objs.size = none := next_is_new F
  refine codeAny_forLoop (R := fun r s' => match r with | .ok f => Q f s' | .error e => cameBackBy (model prog w) A env E e s')
    (fun k s' => ∃ h' tk i m₁ news₁, s' = { s₁ with heap := h', toks := tk } ∧ i ≤ n ∧ k = n + 1 - i ∧ IsRangeIter h' s₁.heap.objs.size (a + (i : Nat) * 1) ((n : Int) - (i : Nat)) 1 ∧ Fr h₀ L h' m₁ ∧ News h₀ L h' news₁ ∧ (∀ p ∈ news₁, p.1 ≠ s₁.heap.objs.size) ∧ J i m₁ news₁) ?_ (n + 1)
    ⟨_, s₁.toks, 0, m, news, rfl, Nat.zero_le _, rfl, ?_, F.push _, fun p hp => ⟨Heap.get?_push_of_some _ (N p hp).1, (N p hp).2⟩, fun p hp => Nat.ne_of_lt (Heap.lt_size (N p hp).1), h0⟩
  · rintro k s' ⟨h', tk, i, m₁, news₁, rfl, hi, rfl, hst, F', N', off', hJ⟩
    by_cases hlt : i < n
    · refine wpAny_passesOwn hE (W.item i _ _ _ hlt hst fun v h₂ tk₂ hPv hst₂ hk₂ => ?_)
      obtain ⟨tk₀, rfl⟩ := hPv
      have F₂ : Fr h₀ L h₂ m₁ := LCg.fr_but F' hk₂ hIL hI₀
      have N₂ : News h₀ L h₂ news₁ := LCg.news_but N' hk₂ off'
      obtain ⟨oI, hoI⟩ : ∃ oI : Obj, oI = { cls := .type "range_iterator", data := .fields #[rawInt (a + ((i + 1 : Nat) : Int) * 1), rawInt ((n : Int) - ((i + 1 : Nat) : Int)), rawInt 1] } := ⟨_, rfl⟩
      have hst₃ : h₂.get? s₁.heap.objs.size = some oI := by rw [hoI]; exact hst₂
      have N₃ : News h₀ L h₂ ((s₁.heap.objs.size, oI) :: news₁) := fun p hp => by
        rcases List.mem_cons.mp hp with rfl | hp
        · exact ⟨hst₃, Ne.symm hIL, hI₀⟩
        · exact N₂ p hp
      refine wpAny_passesOwn hE (wpAny_assign_Name (wpAny_mono (turn i tk₀ s₁.heap.objs.size oI h₂ tk₂ m₁ news₁ hlt (fun p hp => Heap.lt_size (N p hp).1) hJ F₂ N₃ off') (fun _ s₂ h₂' => ?_) fun _ _ e => e))
      refine wpAny_passesOwn hE (wpAny_mono h₂' (fun f s₃ h₃ => ?_) fun _ _ e => e)
      have fin : (∃ h' tk m₂ news₂, s₃ = { s₁ with heap := h', toks := tk } ∧ Fr h₀ L h' m₂ ∧ News h₀ L h' ((s₁.heap.objs.size, oI) :: news₂) ∧ (∀ p ∈ news₂, p.1 ≠ s₁.heap.objs.size) ∧ J (i + 1) m₂ news₂) →
          ∃ k', k' < n + 1 - i ∧ ∃ h' tk i m₁ news₁, s₃ = { s₁ with heap := h', toks := tk } ∧ i ≤ n ∧ k' = n + 1 - i ∧ IsRangeIter h' s₁.heap.objs.size (a + (i : Nat) * 1) ((n : Int) - (i : Nat)) 1 ∧ Fr h₀ L h' m₁ ∧ News h₀ L h' news₁ ∧ (∀ p ∈ news₁, p.1 ≠ s₁.heap.objs.size) ∧ J i m₁ news₁ := by
        rintro ⟨h', tk, m₂, news₂, rfl, F₄, N₄, off₄, J₄⟩
        exact ⟨n + 1 - (i + 1), by omega, h', tk, i + 1, m₂, news₂, rfl, hlt, rfl, by have q := (N₄ _ List.mem_cons_self).1; rw [hoI] at q; exact q, F₄, fun p hp => N₄ p (List.mem_cons_of_mem _ hp), off₄, J₄⟩
      cases f with
      | next => exact fin h₃
      | cont => exact fin h₃
      | brk => exact h₃
      | ret v => exact h₃
    · obtain rfl : i = n := Nat.le_antisymm hi (Nat.not_lt.mp hlt)
      refine wpAny_passesOwn hE (W.done _ _ _ hst fun h₂ tk₂ hk₂ => ?_)
      exact wpAny_execs_nil (done h₂ tk₂ m₁ news₁ hJ (LCg.fr_but F' hk₂ hIL hI₀) (LCg.news_but N' hk₂ off'))
  · show IsRangeIter _ _ _ _ _
    rw [hn]
    simpa using Heap.get?_push_size _ rfl
end
end Mine

end
section
open PySem PySem.W PyProof.Rows PyProof.Rows.LCg PyProof.Rows.LCt
set_option Elab.async false
set_option linter.unusedVariables false
namespace Mine
section
variable {prog : Program} {w : World} {A : Around} {E : Value → Shared → Prop} {s : Shared} {h₀ : Heap} {L : Addr} {m : Str → Option Value} {env : Env}
theorem CompEnd_mono {s₁ : Shared} {I C D : Addr} {oI oC oD : Obj} {S : List (Addr × Obj) → Prop} {r r' : Value → List (Addr × Obj) → Prop} {y : Value} {s₂ : Shared} (h : CompEnd h₀ L m s₁ I oI C oC D oD S r y s₂) (k : ∀ y n, r y n → r' y n) : CompEnd h₀ L m s₁ I oI C oC D oD S r' y s₂ := by
  obtain ⟨h', tk, n, e, F, N, o, hS, hr⟩ := h
  exact ⟨h', tk, n, e, F, N, o, hS, k _ _ hr⟩
theorem restT_inv {ct elt : PySem.Expr} {x : Str} {scope : Scope} {cl : List (Str × Addr)} {S : List (Addr × Obj) → Prop} {P : Nat → Value → Prop} {Fin : List Value → List (Addr × Obj) → Prop} {n : Nat} (J : Nat → List Value → List (Addr × Obj) → Prop)
    (turn : ∀ i ys news, i < n → J i ys news → ∀ v I oI C oC D m₂ h tk (E' : Value → Shared → Prop), P i v → NsObj oC m₂ → m₂ x = some v → Fr h₀ L h m → News h₀ L h ((I, oI) :: (C, oC) :: (D, lst ys) :: news) → Off3 I C D news → ((@Ne Nat I C) ∧ (@Ne Nat I D) ∧ (@Ne Nat C D)) →
      wpAny (model prog w) A (isTrue ct (compEnvC scope cl C env) (eval ct (compEnvC scope cl C env))) (fun ok s' => if ok = true then
        wpAny (model prog w) A (eval elt (compEnvC scope cl C env)) (CompEnd h₀ L m { s with heap := h, toks := tk } I oI C oC D (lst ys) S (fun y news' => J (i + 1) (ys ++ [y]) news')) E' s'
        else CompEnd h₀ L m { s with heap := h, toks := tk } I oI C oC D (lst ys) S (fun _ news' => J (i + 1) ys news') Value.none s') E' { s with heap := h, toks := tk })
    (fin : ∀ ys news, J n ys news → Fin ys news) : ∀ k i ys news, i + k = n → J i ys news → CompRestT prog w A h₀ L m env ct elt x scope cl s S P Fin k i ys news
  | 0, i, ys, news, e, hJ => by
    have : i = n := by omega
    subst this
    exact CompRestT.zero (fin _ _ hJ)
  | k + 1, i, ys, news, e, hJ => by
    refine CompRestT.succ fun v I oI C oC D m₂ h tk E' hP hC hx F N o ne => ?_
    refine wpAny_mono (turn i ys news (by omega) hJ v I oI C oC D m₂ h tk E' hP hC hx F N o ne) (fun ok s' h' => ?_) fun _ _ e => e
    cases ok with
    | true =>
      simp only [if_true] at h' ⊢
      exact wpAny_mono h' (fun y s₂ z => CompEnd_mono z fun y n r => restT_inv J turn fin k (i + 1) _ _ (by omega) r) fun _ _ e => e
    | false =>
      simp only [Bool.false_eq_true, if_false] at h' ⊢
      exact CompEnd_mono h' fun y n r => restT_inv J turn fin k (i + 1) _ _ (by omega) r
theorem rest_inv {elt : PySem.Expr} {x : Str} {scope : Scope} {cl : List (Str × Addr)} {S : List (Addr × Obj) → Prop} {P : Nat → Value → Prop} {Fin : List Value → List (Addr × Obj) → Prop} {n : Nat} (J : Nat → List Value → List (Addr × Obj) → Prop)
    (turn : ∀ i ys news, i < n → J i ys news → ∀ v I oI C oC D m₂ h tk (E' : Value → Shared → Prop), P i v → NsObj oC m₂ → m₂ x = some v → Fr h₀ L h m → News h₀ L h ((I, oI) :: (C, oC) :: (D, lst ys) :: news) → Off3 I C D news → ((@Ne Nat I C) ∧ (@Ne Nat I D) ∧ (@Ne Nat C D)) →
        wpAny (model prog w) A (eval elt (compEnvC scope cl C env)) (CompEnd h₀ L m { s with heap := h, toks := tk } I oI C oC D (lst ys) S (fun y news' => J (i + 1) (ys ++ [y]) news')) E' { s with heap := h, toks := tk })
    (fin : ∀ ys news, J n ys news → Fin ys news) : ∀ k i ys news, i + k = n → J i ys news → CompRest prog w A h₀ L m env elt x scope cl s S P Fin k i ys news
  | 0, i, ys, news, e, hJ => by
    have : i = n := by omega
    subst this
    exact CompRest.zero (fin _ _ hJ)
  | k + 1, i, ys, news, e, hJ => by
    refine CompRest.succ fun v I oI C oC D m₂ h tk E' hP hC hx F N o ne => ?_
    exact wpAny_mono (turn i ys news (by omega) hJ v I oI C oC D m₂ h tk E' hP hC hx F N o ne) (fun y s₂ z => CompEnd_mono z fun y n r => rest_inv J turn fin k (i + 1) _ _ (by omega) r) fun _ _ e => e
end
end Mine

end
section
open PySem PySem.W PyProof.Rows
set_option Elab.async false
namespace Mine
theorem len_MN {prog : Program} {w : World} {A : Around} {E : Value → Shared → Prop} {s : Shared} {h₀ : Heap} {L a : Addr} {news : List (Addr × Obj)} {so : Obj} {M : Nat} {wk : Bool} {Q : Value → Shared → Prop} (N : News h₀ L s.heap news) (hm : (a, so) ∈ news) (hS : SetO w wk "set" M so)
    (h : ∀ tk, Q (.int ((pts M).length : Int) tk) { s with toks := s.toks + 1 + 1 }) : wpAny (model prog w) A (call (.builtin "len") [.ref a]) Q E s := by
  have N' : News h₀ L s.heap [(a, so)] := fun p hp => by
    rw [List.mem_singleton.mp hp]; exact N _ hm
  exact len_SN N' (UpdF.head (fun p hp => by cases hp)) hS (h _)
end Mine
namespace Mine
theorem type_FN {prog : Program} {w : World} {A : Around} {E : Value → Shared → Prop} {s : Shared} {h₀ : Heap} {L a : Addr} {news : List (Addr × Obj)} {so : Obj} {M : Nat} {wk : Bool} {Q : Value → Shared → Prop} (N : News h₀ L s.heap news) (hm : (a, so) ∈ news) (hS : SetO w wk "frozenset" M so)
    (h : Q (.type "frozenset") s) : wpAny (model prog w) A (call (.type "type") [.ref a]) Q E s := by
  obtain ⟨hM, tk, ep, t, rfl, T⟩ := hS
  obtain ⟨hh, g, d, t', os⟩ := s
  exact call_type_obj (N _ hm).1 (show (Value.type "frozenset" == Value.type "builtin_function_or_method") = false by decide +kernel) h
end Mine

end
section
open PySem PySem.W PyProof.Rows PySem.Calls
set_option Elab.async false
set_option linter.unusedVariables false
namespace Mine
section
variable {prog : Program} {w : World} {A₀ A : Around} {s : Shared} {base h₀ : Heap} {L : Addr} {m : Str → Option Value} {news : List (Addr × Obj)} {K : Frag} {p : Program} {loose : List Str} {mean : ExcName → Option Value} {mg mb : Str → Option Value}
    {R : Result → Shared → Prop} {name qual : Str} {params : Arguments} {body : List Stmt} {scope : Scope} {dV kV doc pm cdv ct oc : Value} {an od : Option Addr} {osl : Array (Option Value)} {f : Addr} {args : Args} {binds : List (Str × Value)} {env : Env}
/-- a def with a try inside, called from a frame that may have cells -/
theorem try_call (B : Below A₀ base [] h₀) (F : Fr h₀ L s.heap m) (X₀ : K.In h₀) (N : News h₀ L s.heap news) (T : Top p loose mean mg mb h₀) (hA : A.frames = some [env]) (hf : env.frame = some L) (hke : env.scope.kind = .function)
    (ho : K.lookup f = some ⟨oc, od, .func (fnOf name qual params body scope dV kV doc pm an cdv ct), osl⟩) (hcd : codeIn K cdv qual = true) (hroom : A.depth < recursionLimit)
    (hbind : BindsTo s (fnOf name qual params body scope dV kV doc pm an cdv ct) args binds) (hloc : ∀ y ∈ binds, scope.names.lookup y.1 = some .local)
    (h : ∀ g L' h₁, Fr h₀ L g m → Fr g L' h₁ (fun y => binds.reverse.lookup y) → News g L' h₁ news → Below A base [env] g → K.In g → Top p loose mean mg mb g → KtsDicts ([env].filterMap (·.frame)) g →
      wpAny (model prog w) (A.deeper (envOf qual scope L' f cdv)) (execs body (envOf qual scope L' f cdv))
        (fun fl s' => LeaveS0 ([env].filterMap (·.frame)) h₀ L m g R (match fl with | .ret v => v | _ => .none) s')
        (fun e s' => wpAny (model prog w) (A.deeper (envOf qual scope L' f cdv)) (leaving (envOf qual scope L' f cdv) e) (fun _ s'' => R (.error e) s'') (fun e' s'' => R (.error e') s'') s')
        { s with heap := h₁, toks := s.toks + binds.length })
    (hco : scope.isCoroutine = false) (hgen : scope.isGenerator = false) (hk : scope.kind = .function)
    (hcell : ∀ x ∈ scope.names, x.2 ≠ .cell) : codeAny (model prog w) A (.call (.ref f) args) R s := by
  have X := X₀.keeps F.keep
  obtain ⟨oL, es, ep, hL, hLd, hLk, hLf⟩ := F.ns
  have newL : ∀ p ∈ news, p.1 ≠ L := fun p hp => (N p hp).2.1
  have nL : L ∉ news.map (·.1) := fun q => by
    obtain ⟨p, hp, e⟩ := List.mem_map.mp q
    exact newL p hp e
  have old : h₀.StaysIn (hideAll s.heap (news.map (·.1))) := fun b o e => hideAll_get _ (F.keep b o e) fun q => by
    obtain ⟨p, hp, rfl⟩ := List.mem_map.mp q
    rw [(N p hp).2.2] at e; cases e
  have atL := hideAll_get (news.map (·.1)) hL nL
  have nL₀ : h₀.get? L = none := Heap.get?_none_of_le F.above
  have baseL : base.get? L = none := by
    cases q : base.get? L with
    | none => rfl
    | some o => have := B.stays _ _ q; rw [nL₀] at this; cases this
  have fsL : [env].filterMap (·.frame) = [L] := by simp [hf]
  have B₂ : Below A base [env] (hideAll s.heap (news.map (·.1))) :=
    ⟨hA, fun b o e => old b o (B.stays b o e), .cons (by rw [hke]; decide) hf (m := m) ⟨oL, es, ep, atL, hLd, hLk, hLf⟩ baseL trivial⟩
  refine codeAny_call_def (fd := fnOf name qual params body scope dV kV doc pm an cdv ct) (body := body) (binds := binds) hroom (X _ _ ho) rfl (T.nolimit.keeps F.keep) (codeRec_of X hcd) rfl hbind hcell hloc (fun h₁ hns hk₁ => ?_) hco hgen hk
  refine wpAny_mono (h _ s.heap.objs.size h₁ ⟨⟨oL, es, ep, atL, hLd, hLk, hLf⟩, old, F.above⟩ ⟨hns, fun b o e => hk₁ b o (of_hideAll _ e), Nat.le_of_eq (hideAll_size _ _)⟩
    (fun p hp => ⟨hk₁ _ _ (N p hp).1, Nat.ne_of_lt (Heap.lt_size (N p hp).1), hideAll_none _ (List.mem_map_of_mem hp)⟩) B₂ (X₀.keeps old) (T.keeps old) (fun b hb => by
      rw [fsL] at hb
      rw [List.mem_singleton.mp hb]
      exact ⟨oL, es, ep, atL, hLd⟩)) (fun fl s' hl => ?_) fun _ _ y => y
  obtain ⟨g', L', m', news', T', F', N', k⟩ := hl
  rw [fsL] at T'
  obtain ⟨sl, hs⟩ := T'.frame L oL atL (List.mem_singleton.mpr rfl)
  refine k ⟨⟨_, es, ep, F'.keep _ _ hs, hLd, hLk, hLf⟩, fun b o e => F'.keep b o (T'.other b o (old b o e) fun q => ?_), F.above⟩ fun p hp => ⟨(N' p hp).1, fun q => ?_, ?_⟩
  · rw [List.mem_singleton.mp q, nL₀] at e; cases e
  · have z := (N' p hp).2.2
    rw [q, hs] at z; cases z
  · cases q : h₀.get? p.1 with
    | none => rfl
    | some o =>
      have z := (N' p hp).2.2
      have hne : p.1 ∉ [L] := fun w => by rw [List.mem_singleton.mp w, nL₀] at q; cases q
      rw [T'.other _ _ (old _ _ q) hne] at z
      cases z
end
end Mine

end
section
open PySem PySem.W PyProof.Rows PyProof.Rows.LCg PySem.Calls
set_option Elab.async false
set_option linter.unusedVariables false
namespace Mine
section
variable {prog : Program} {w : World} {A : Around} {E : Value → Shared → Prop} {s : Shared} {h₀ : Heap} {L : Addr} {m : Str → Option Value} {env : Env}
theorem env_cell {M : Model} {scope : Scope} {globals : Addr} {cl : List (Str × Addr)} {qual : Str} {env : Env} {x : Str} {Q : Env → Shared → Prop}
    (hcf : ∀ n, cellsFrom n scope.names cl = (x, n) :: cl) (hpc : ∀ h, pushCells h scope.names = h.push { cls := .type "cell", data := .cell none })
    (h : Q { scope, locals := s.heap.objs.size, globals, cells := (x, s.heap.objs.size + 1) :: cl, qual, func := none, code := env.code, frame := env.frame, builtins := env.builtins }
      { s with heap := (s.heap.push { cls := .type "dict", data := .dict #[] }).push { cls := .type "cell", data := .cell none } }) :
    wpAny M A (newFunctionEnv scope globals cl [] qual none .none (some env)) Q E s := by
  simp only [newFunctionEnv, Option.isSome_some, if_true]
  refine wpAny_bind (wpAny_alloc ?_)
  refine wpAny_bind (wpAny_layCells _ (fun name kind cells => by cases hkc : kind == NameKind.cell <;> simp [hkc]) _ _ _ _ ?_)
  rw [hcf, hpc, Heap.size_push]
  exact wpAny_bind (by rw [List.forIn_nil]; exact wpAny_pure (wpAny_pure h))
/-- where a list comprehension over a range, with a cell for its name, may go on -/
def SrcCell (prog : Program) (w : World) (A : Around) (h₀ : Heap) (L : Addr) (m : Str → Option Value) (env : Env) (elt : PySem.Expr) (x : Str) (scope : Scope) (cl : List (Str × Addr)) (y : Str) (Q : Flow → Shared → Prop) (xv : Value) (s₁ : Shared) : Prop :=
  ∃ (r : Addr) (a b : Int) (t u v : Tok) (n : Nat) (news : List (Addr × Obj)) (J : Nat → List Value → Prop), xv = .ref r ∧ A.handled = none ∧ Fr h₀ L s₁.heap m ∧ News h₀ L s₁.heap news ∧ IsRange s₁.heap r a b 1 t u v ∧ Builtin.Range.small a b 1 = true ∧ Builtin.Range.rangeSize a b 1 = ((n : Nat) : Int) ∧ n ≤ sizeLine ∧ J 0 [] ∧
    (∀ i ys t₀ I oI C oC X oX D h tk (E' : Value → Shared → Prop), i < n → J i ys → oX.data = .cell (some (.int (a + (i : Int)) t₀)) → (∀ p ∈ news, p.1 < I) → @LT.lt Nat _ I D → @LT.lt Nat _ D C → @LT.lt Nat _ C X →
      Fr h₀ L h m → News h₀ L h ((I, oI) :: (C, oC) :: (X, oX) :: (D, lst ys) :: news) →
      wpAny (model prog w) A (eval elt (compEnvC scope ((x, X) :: cl) C env)) (fun y s₂ => ∃ h' tk', s₂ = { s₁ with heap := h', toks := tk' } ∧ Fr h₀ L h' m ∧ News h₀ L h' ((I, oI) :: (C, oC) :: (X, oX) :: (D, lst ys) :: news) ∧ J (i + 1) (ys ++ [y])) E' { s₁ with heap := h, toks := tk }) ∧
    (∀ D h tk ys, J n ys → Fr h₀ L h (fun z => if z = y then some (.ref D) else m z) → News h₀ L h ((D, lst ys) :: news) → (∀ p ∈ news, p.1 < D) → Q .next { s₁ with heap := h, toks := tk })
theorem Assign_ListComp_cell {elt iter : PySem.Expr} {x y : Str} {px py : Pos} {scope : Scope} {cl : List (Str × Addr)} {pos spos : Pos} {Q : Flow → Shared → Prop} (hLe : env.locals = L)
    (hsw : swapsWith (.ListComp elt [⟨.Name x px, iter, [], 0⟩] scope pos) (some (.Name y py)) spos.line env = pure true)
    (hy : env.kindOf y = some .local) (hp : (env.scope.kind == .class || (env.scope.kind == .module && env.locals != env.globals)) = false)
    (hclos : closureFor scope env = pure cl) (hkind : scope.kind = .function)
    (hnames : ∀ y ∈ scope.names, y.2 = .local → scope.names.lookup y.1 = some .local) (hx : (relabel scope env).names.lookup x = some .cell)
    (hcf : ∀ n, cellsFrom n scope.names cl = (x, n) :: cl) (hpc : ∀ h, pushCells h scope.names = h.push { cls := .type "cell", data := .cell none })
    (h : wpAny (model prog w) A (eval iter env) (SrcCell prog w A h₀ L m env elt x scope cl y Q) E s)
    (hs : ∀ x, foldedSetIterable iter env x = pure x := by intro _; rfl) :
    wpAny (model prog w) A (exec (.Assign [.Name y py] (.ListComp elt [⟨.Name x px, iter, [], 0⟩] scope pos) spos) env) Q E s := by
  subst hLe
  rw [exec_Assign_Name_used _ _ _ _ hsw]
  refine wpAny_bind (wpAny_standAt (wpAny_bind ?_))
  show wpAny _ A (do let _ ← comprehension (.ListComp elt [⟨.Name x px, iter, [], 0⟩] scope pos) scope env _ (newList []) false (eval iter env) (some (assign (.Name y py) env))) _ _ s
  refine wpAny_bind (wpAny_mono (wpAny_comprehension_free (use := some (assign (.Name y py) env)) (Q := fun _ s' => Q .next s') rfl hs hclos hkind hnames
    (wpAny_mono h (fun xv s₁ h₁ => ?_) fun _ _ e => e)) (fun _ s' hq => wpAny_pure (wpAny_pure hq)) fun _ _ e => e)
  obtain ⟨L, hLe⟩ : ∃ L, L = env.locals := ⟨_, rfl⟩
  rw [← hLe] at h₁
  obtain ⟨r, a, b, t, u, v, n, news, J, rfl, hh, F, N, hr, hsm, hn, hsz, h0, turn, fin⟩ := h₁
  refine wpAny_pyIter_range hr hsm ?_
  refine wpAny_newObj_type (env_cell (x := x) hcf hpc ?_)
  have W := range_walks (prog := prog) (w := w) (I := s₁.heap.objs.size) hh a n
  obtain ⟨I, hI⟩ : ∃ I, I = s₁.heap.objs.size := ⟨_, rfl⟩
  generalize hH1 : s₁.heap.push { cls := .type "range_iterator", data := .fields #[rawInt a, rawInt (Builtin.Range.rangeSize a b 1), rawInt 1] } = H1
  generalize hH2 : H1.push { cls := .type "list", dict := none, data := .seq ([] : List Value).toArray } = H2
  generalize hH4 : (H2.push { cls := .type "dict", data := .dict #[] }).push { cls := .type "cell", data := .cell none } = H4
  have z1 : H1.objs.size = I + 1 := by rw [← hH1, Heap.size_push, hI]
  have z2 : H2.objs.size = I + 2 := by rw [← hH2, Heap.size_push, z1]
  rw [← hI] at W
  have up1 : ∀ b o, s₁.heap.get? b = some o → H1.get? b = some o := fun b o e => hH1 ▸ Heap.get?_push_of_some _ e
  have up2 : ∀ b o, H1.get? b = some o → H2.get? b = some o := fun b o e => hH2 ▸ Heap.get?_push_of_some _ e
  have up4 : ∀ b o, H2.get? b = some o → H4.get? b = some o := fun b o e => hH4 ▸ Heap.get?_push_of_some _ (Heap.get?_push_of_some _ e)
  have up : ∀ b o, s₁.heap.get? b = some o → H4.get? b = some o := fun b o e => up4 _ _ (up2 _ _ (up1 _ _ e))
  have atI : H4.get? I = some { cls := .type "range_iterator", data := .fields #[rawInt a, rawInt (Builtin.Range.rangeSize a b 1), rawInt 1] } := up4 _ _ (up2 _ _ (by rw [← hH1, hI]; exact Heap.get?_push_size _ rfl))
  have atD : H4.get? (I + 1) = some (lst []) := up4 _ _ (by rw [← hH2, ← z1]; exact Heap.get?_push_size _ rfl)
  have atC : H4.get? (I + 2) = some { cls := .type "dict", data := .dict #[] } := by rw [← hH4, ← z2]; exact Heap.get?_push_of_some _ (Heap.get?_push_size _ rfl)
  have atX : H4.get? (I + 3) = some { cls := .type "cell", data := .cell none } := by
    have z3 : (H2.push { cls := .type "dict", data := .dict #[] }).objs.size = I + 3 := by rw [Heap.size_push, z2]
    rw [← hH4, ← z3]; exact Heap.get?_push_size _ rfl
  have hLI : @LT.lt Nat _ L I := by rw [hI]; exact F.ns.lt
  have fresh : ∀ a, I ≤ a → h₀.get? a = none := fun a ha => by
    cases e : h₀.get? a with
    | none => rfl
    | some o => exact absurd (Heap.lt_size (F.keep a o e)) (Nat.not_lt.mpr (hI ▸ ha))
  have hnews : ∀ p ∈ news, p.1 < I := fun p hp => by rw [hI]; exact Heap.lt_size (N p hp).1
  have nsC : ∀ h : Heap, h.get? (I + 2) = some { cls := .type "dict", data := .dict #[] } → h.Ns (I + 2) fun _ => none := fun h e => ⟨_, #[], 0, e, rfl, (fun _ hm => nomatch hm), fun _ => rfl⟩
  show codeAny (model prog w) A (.compStart (.ListComp elt [⟨.Name x px, iter, [], 0⟩] scope pos) 0 (.ref s₁.heap.objs.size) (.ref H1.objs.size) (compEnvC scope ((x, H2.objs.size + 1) :: cl) H2.objs.size env)) _ _
  rw [z1, z2, ← hI]
  have loop : ∀ s₃ : Shared, s₃ = { s₁ with heap := H4 } →
      codeAny (model prog w) A (.compLoop (.ListComp elt [⟨.Name x px, iter, [], 0⟩] scope pos) 0 (.ref I) (.ref (I + 1)) (compEnvC scope ((x, I + 2 + 1) :: cl) (I + 2) env))
        (compPost (model prog w) A E (some (assign (.Name y py) env)) (fun _ s' => Q .next s') (.ref (I + 1)) (I + 2)) s₃ := by
    rintro s₃ rfl
    refine codeAny_compLoop_tests
      (fun k s' => ∃ h' tk i ys oX v, s' = { s₁ with heap := h', toks := tk } ∧ i ≤ n ∧ k = n + 1 - i ∧ ys.length = i ∧ IsRangeIter h' I (a + (i : Nat) * 1) ((n : Int) - (i : Nat)) 1 ∧ Fr h₀ L h' m ∧ News h₀ L h' ((I + 2, { cls := .type "dict", data := .dict #[] }) :: (I + 3, oX) :: (I + 1, lst ys) :: news) ∧ oX.data = .cell v ∧ J i ys) ?_ (n + 1)
      ⟨H4, s₁.toks, 0, [], { cls := .type "cell", data := .cell none }, none, rfl, Nat.zero_le _, rfl, rfl, ?_, F.keeps up, fun p hp => ?_, rfl, h0⟩
    · rintro k s' ⟨h', tk, i, ys, oX, v, rfl, hi, rfl, hyl, hst, F', N', hX, hJ⟩
      have nC := (N' _ List.mem_cons_self).1
      have nX := (N' (I + 3, oX) (List.mem_cons_of_mem _ List.mem_cons_self)).1
      by_cases hlt : i < n
      · refine W.item i _ _ _ hlt hst fun v' h₂ tk₂ hPv hst₂ hk₂ => ?_
        obtain ⟨t₀, rfl⟩ := hPv
        have neI : ∀ q ∈ ((I + 2, ({ cls := .type "dict", data := .dict #[] } : Obj)) :: (I + 3, oX) :: (I + 1, lst ys) :: news), q.1 ≠ I := fun q hq => by
          rcases List.mem_cons.mp hq with rfl | hq
          · show I + 2 ≠ I; omega
          · rcases List.mem_cons.mp hq with rfl | hq
            · show I + 3 ≠ I; omega
            · rcases List.mem_cons.mp hq with rfl | hq
              · show I + 1 ≠ I; omega
              · exact Nat.ne_of_lt (hnews q hq)
        have F₂ : Fr h₀ L h₂ m := fr_but F' hk₂ (Nat.ne_of_lt hLI) (fresh I (Nat.le_refl _))
        have N₂ := news_but N' hk₂ neI
        refine wpAny_assign_Name (wpAny_storeName_cell (c := I + 3) (v₀ := v) hkind hx (by show List.lookup x ((x, I + 2 + 1) :: cl) = _; simp) ⟨oX, (N₂ _ (List.mem_cons_of_mem _ List.mem_cons_self)).1, hX⟩ fun h₃ hv₃ hs₃ => ?_)
        refine wpAny_tests_nil ?_
        simp only [if_true]
        obtain ⟨oX', hX₁, hX₂⟩ := hv₃
        have hL3 : L ≠ I + 3 := by have : L < I := hLI; exact fun e => absurd (e ▸ this : I + 3 < I) (by omega)
        have F₃ : Fr h₀ L h₃ m := F₂.change hs₃ (Ne.symm hL3) (fresh _ (by show I ≤ I + 3; omega))
        have keep₃ : ∀ b o, b ≠ I + 3 → h₂.get? b = some o → h₃.get? b = some o := fun b o hb e => hs₃.extBut b o hb e
        have hst₃ : h₃.get? I = h₂.get? I := by
          have e : h₂.get? I = some _ := hst₂
          rw [e]; exact keep₃ _ _ (by show I ≠ I + 3; omega) e
        obtain ⟨oI, hoI⟩ : ∃ o, h₂.get? I = some o := ⟨_, hst₂⟩
        have N₃ : News h₀ L h₃ ((I, oI) :: (I + 2, { cls := .type "dict", data := .dict #[] }) :: (I + 3, oX') :: (I + 1, lst ys) :: news) := fun p hp => by
          rcases List.mem_cons.mp hp with rfl | hp
          · exact ⟨hst₃.trans hoI, Ne.symm (Nat.ne_of_lt hLI), fresh _ (Nat.le_refl _)⟩
          · rcases List.mem_cons.mp hp with rfl | hp
            · have z := N₂ _ List.mem_cons_self
              exact ⟨keep₃ _ _ (by show I + 2 ≠ I + 3; omega) z.1, z.2⟩
            · rcases List.mem_cons.mp hp with rfl | hp
              · have z := N₂ (I + 3, oX) (List.mem_cons_of_mem _ List.mem_cons_self)
                exact ⟨hX₁, z.2⟩
              · have z := N₂ p (List.mem_cons_of_mem _ (List.mem_cons_of_mem _ hp))
                refine ⟨keep₃ _ _ ?_ z.1, z.2⟩
                rcases List.mem_cons.mp hp with rfl | hp
                · show I + 1 ≠ I + 3; omega
                · have := hnews p hp
                  exact fun e => absurd (e ▸ this : I + 3 < I) (by omega)
        refine wpAny_mono (turn i ys t₀ I oI (I + 2) _ (I + 3) oX' (I + 1) h₃ tk₂ _ hlt hJ hX₂ hnews (by show I < I + 1; omega) (by show I + 1 < I + 2; omega) (by show I + 2 < I + 3; omega) F₃ N₃) (fun y s₄ h₄ => ?_) fun _ _ e => e
        obtain ⟨h₄, tk₄, rfl, F₄, N₄, J₄⟩ := h₄
        have atD₄ := (N₄ (I + 1, lst ys) (List.mem_cons_of_mem _ (List.mem_cons_of_mem _ (List.mem_cons_of_mem _ List.mem_cons_self)))).1
        refine append_at (hsz := by show ys.toArray.size ≤ sizeLine; rw [List.size_toArray, hyl]; exact Nat.le_trans hi hsz) atD₄ fun h₅ hs₅ hD₅ => ?_
        have keep₅ : ∀ b o, b ≠ I + 1 → h₄.get? b = some o → h₅.get? b = some o := fun b o hb e => hs₅.extBut b o hb e
        have hL1 : L ≠ I + 1 := by have : L < I := hLI; exact fun e => absurd (e ▸ this : I + 1 < I) (by omega)
        refine ⟨n + 1 - (i + 1), by omega, h₅, tk₄, i + 1, ys ++ [y], oX', _, rfl, hlt, rfl, by rw [List.length_append, List.length_singleton, hyl], ?_, F₄.change hs₅ (Ne.symm hL1) (fresh _ (by show I ≤ I + 1; omega)), fun p hp => ?_, hX₂, J₄⟩
        · have e : h₂.get? I = some _ := hst₂
          rw [hoI] at e
          have z := keep₅ _ _ (by show I ≠ I + 1; omega) (N₄ _ List.mem_cons_self).1
          rw [Option.some.inj e] at z
          exact z
        · rcases List.mem_cons.mp hp with rfl | hp
          · have z := N₄ (I + 2, _) (List.mem_cons_of_mem _ List.mem_cons_self)
            exact ⟨keep₅ _ _ (by show I + 2 ≠ I + 1; omega) z.1, z.2⟩
          · rcases List.mem_cons.mp hp with rfl | hp
            · have z := N₄ (I + 3, oX') (List.mem_cons_of_mem _ (List.mem_cons_of_mem _ List.mem_cons_self))
              exact ⟨keep₅ _ _ (by show I + 3 ≠ I + 1; omega) z.1, z.2⟩
            · rcases List.mem_cons.mp hp with rfl | hp
              · exact ⟨hD₅.trans (congrArg some (lst_snoc ys y)), Ne.symm hL1, fresh _ (by show I ≤ I + 1; omega)⟩
              · have z := N₄ p (List.mem_cons_of_mem _ (List.mem_cons_of_mem _ (List.mem_cons_of_mem _ (List.mem_cons_of_mem _ hp))))
                refine ⟨keep₅ _ _ ?_ z.1, z.2⟩
                have := hnews p hp
                exact fun e => absurd (e ▸ this : I + 1 < I) (by omega)
      · obtain rfl : i = n := Nat.le_antisymm hi (Nat.not_lt.mp hlt)
        refine W.done _ _ _ hst fun h₂ tk₂ hk₂ => ?_
        have k2 : h₂.get? (I + 2) = some { cls := .type "dict", data := .dict #[] } := hk₂ _ _ (by rw [List.mem_singleton]; show ¬ I + 2 = I; omega) nC
        have F₂ : Fr h₀ L h₂ m := fr_but F' hk₂ (Nat.ne_of_lt hLI) (fresh I (Nat.le_refl _))
        have hL2 : L ≠ I + 2 := by have : L < I := hLI; exact fun e => absurd (e ▸ this : I + 2 < I) (by omega)
        have neI : ∀ p ∈ ((I + 1, lst ys) :: news), p.1 ≠ I ∧ p.1 ≠ I + 2 := fun p hp => by
          rcases List.mem_cons.mp hp with rfl | hp
          · exact ⟨by show I + 1 ≠ I; omega, by show I + 1 ≠ I + 2; omega⟩
          · have := hnews p hp
            exact ⟨Nat.ne_of_lt this, fun e => absurd (e ▸ this : I + 2 < I) (by omega)⟩
        have N₂ : News h₀ L h₂ ((I + 1, lst ys) :: news) := fun p hp => by
          have z := N' p (List.mem_cons_of_mem _ (List.mem_cons_of_mem _ hp))
          exact ⟨hk₂ _ _ (by rw [List.mem_singleton]; exact (neI p hp).1) z.1, z.2⟩
        show wpAny _ A (assign (.Name y py) env (.ref (I + 1))) _ _ _
        refine wpAny_assign_Name (wpAny_storeName_local hy (hLe ▸ F₂.ns) (fun h₅ hn₅ hs₅ => ?_) hp)
        rw [← hLe] at hn₅ hs₅
        have hL₀ : h₀.get? L = none := Heap.get?_none_of_le F₂.above
        have F₅ : Fr h₀ L h₅ (fun z => if z = y then some (.ref (I + 1)) else m z) := ⟨hn₅, fun b o e => hs₅.extBut b o (fun q => by rw [q, hL₀] at e; cases e) (F₂.keep b o e), F₂.above⟩
        refine ⟨_, (nsC _ k2).sameBut hs₅ (Ne.symm hL2), fun h'' hs'' => ?_⟩
        refine fin (I + 1) h'' _ ys hJ (F₅.change hs'' (Ne.symm hL2) (fresh _ (by show I ≤ I + 2; omega))) (fun p hp => ?_) fun p hp => Nat.lt_succ_of_lt (hnews p hp)
        have z := N₂ p hp
        exact ⟨hs''.extBut _ _ (neI p hp).2 (hs₅.extBut _ _ z.2.1 z.1), z.2⟩
    · show IsRangeIter _ _ _ _ _
      rw [hn] at atI
      simpa using atI
    · rcases List.mem_cons.mp hp with rfl | hp
      · exact ⟨atC, fun e => by have e' : @Eq Nat (I + 2) L := e; omega, fresh _ (by show I ≤ I + 2; omega)⟩
      · rcases List.mem_cons.mp hp with rfl | hp
        · exact ⟨atX, fun e => by have e' : @Eq Nat (I + 3) L := e; omega, fresh _ (by show I ≤ I + 3; omega)⟩
        · rcases List.mem_cons.mp hp with rfl | hp
          · exact ⟨atD, fun e => by have e' : @Eq Nat (I + 1) L := e; omega, fresh _ (by show I ≤ I + 1; omega)⟩
          · exact ⟨up _ _ (N p hp).1, (N p hp).2⟩
  refine codeAny_compStart_list (loop _ rfl) (W.self 0 _ _ _ ?_ (loop _ rfl))
  show IsRangeIter _ _ _ _ _
  rw [hn] at atI
  simpa using atI
end
end Mine

end
section
set_option linter.unusedVariables false
set_option maxRecDepth 100000
namespace Mine
theorem sub_one : ∀ m < 64, ∀ g < 6, sub m (2 ^ g) = m &&& (63 - 2 ^ g) := by decide +kernel
theorem sub_lt64 (m : Nat) (hm : m < 64) (g : Nat) (hg : g < 6) : sub m (2 ^ g) < 64 := by
  rw [sub_one m hm g hg]
  exact Nat.lt_of_le_of_lt Nat.and_le_left hm
theorem and_lt64 {a m : Nat} (h : m < 64) : a &&& m < 64 := Nat.lt_of_le_of_lt Nat.and_le_right h
theorem sub_and (K : Nat) (hK : K < 64) (M : Nat) (hM : M < 64) (g : Nat) (hg : g < 6) : sub (K &&& M) (2 ^ g) = K &&& sub M (2 ^ g) := by
  rw [sub_one _ (and_lt64 hM) g hg, sub_one M hM g hg, Nat.and_assoc]
theorem sub_len : ∀ m < 64, ∀ g < 6, m.testBit g = true → (pts (sub m (2 ^ g))).length < (pts m).length := by decide +kernel
theorem off_bit : ∀ c < 64, ∀ g < 6, c.testBit g = false → c &&& (63 - 2 ^ g) = c := by decide +kernel
theorem sub_le (m : Nat) (hm : m < 64) (g : Nat) (hg : g < 6) (c : Nat) (hc : c < 64) (h : c &&& m = c) (hb : c.testBit g = false) : c &&& sub m (2 ^ g) = c := by
  rw [sub_one m hm g hg, ← Nat.and_assoc, h, off_bit c hc g hg hb]
theorem mem_ipts {M : Nat} {n : Int} : n ∈ ipts M ↔ ∃ g : Nat, g < 6 ∧ n = (g : Int) ∧ M.testBit g = true := by
  unfold ipts pts
  constructor
  · intro h
    obtain ⟨p, hp, rfl⟩ := List.mem_map.mp h
    have := List.mem_filter.mp hp
    exact ⟨p, List.mem_range.mp this.1, rfl, this.2⟩
  · rintro ⟨g, hg, rfl, hb⟩
    exact List.mem_map.mpr ⟨g, List.mem_filter.mpr ⟨List.mem_range.mpr hg, hb⟩, rfl⟩
end Mine

end
section
open PySem PySem.W PyProof.Rows
set_option linter.unusedVariables false
namespace Mine
theorem bnn (x : Int) : Spec.bitNot (Spec.bitNot x) = x := by unfold Spec.bitNot; omega
theorem bor (c d : Nat) : Builtin.bitOr (c : Int) (d : Int) = ((c ||| d : Nat) : Int) := by
  rw [← bitOr_eq]
  unfold Spec.bitOr Spec.bitAnd
  have h1 : decide (0 ≤ Spec.bitNot (c : Int)) = false := decide_eq_false (by unfold Spec.bitNot; omega)
  have h2 : decide (0 ≤ Spec.bitNot (d : Int)) = false := decide_eq_false (by unfold Spec.bitNot; omega)
  rw [h1, h2]
  simp only [bnn, Int.toNat_natCast]
theorem band (c d : Nat) : Builtin.bitAnd (c : Int) (d : Int) = ((c &&& d : Nat) : Int) := by
  show Spec.bitAnd (c : Int) (d : Int) = _
  unfold Spec.bitAnd
  have h1 : decide (0 ≤ (c : Int)) = true := decide_eq_true (by omega)
  have h2 : decide (0 ≤ (d : Int)) = true := decide_eq_true (by omega)
  rw [h1, h2]
  simp only [Int.toNat_natCast]
end Mine

end
section
open PySem PySem.W PyProof.Rows
namespace Mine
theorem pred_bit (m k : Nat) : ((((m : Nat) : Int).fdiv (2 ^ ((k : Nat) : Int).toNat)).fmod 2 == 1) = m.testBit k := by
  have hp : (0 : Int) ≤ 2 ^ k := Int.pow_nonneg (by decide)
  rw [Int.toNat_natCast, Int.fdiv_eq_ediv_of_nonneg _ hp, Int.fmod_eq_emod_of_nonneg _ (by decide), Nat.testBit_eq_decide_div_mod_eq]
  have e : ((m : Int) / 2 ^ k) % 2 = ((m / 2 ^ k % 2 : Nat) : Int) := by
    rw [Int.natCast_emod, Int.natCast_ediv, Int.natCast_pow]; rfl
  rw [e]
  by_cases h : m / 2 ^ k % 2 = 1
  · rw [h]; rfl
  · rw [decide_eq_false h]
    have : ((m / 2 ^ k % 2 : Nat) : Int) ≠ 1 := fun z => h (by omega)
    simpa using this
theorem law_pts (m : Nat) : List.map (fun a => a) (List.filter (fun a : Int => (((m : Nat) : Int).fdiv (2 ^ a.toNat)).fmod 2 == 1) (rangeInts 0 1 ((6 : Int) - 0).toNat)) = (pts m).map fun k : Nat => (k : Int) := by
  have e : rangeInts 0 1 ((6 : Int) - 0).toNat = (List.range 6).map fun k : Nat => (k : Int) := by decide
  rw [e, List.map_id', List.filter_map]
  unfold pts
  congr 1
  apply List.filter_congr
  intro k _
  exact pred_bit m k
end Mine

end
section
open Mine
local macro_rules | `(tactic| k_ne) => `(tactic| assumption)
local macro_rules | `(tactic| walk_at "eval Set") => `(tactic| (k_here; k_dflt (refine' set1_eval ?F ?N ?c ?r ?p ?_; (case F => k_asm); (case N => k_asm); (case c => assumption); (case r => kds_road); (case p => rfl)); intro d' h' led' F' N' l1; (try k_lt l1); (try k_sweep)))
local macro_rules | `(tactic| walk_at "setAdd int") => `(tactic| (k_here; (with_reducible show wpAny _ _ (setAdd _ (Value.int _ _)) _ _ _); k_dflt (refine' add1_N ?F ?N ?U ?k ?_; (case F => k_asm); (case N => k_asm); (case U => k_updF); (case k => assumption)); intro h' o' F' N' hs' b'; (try dsimp only at N'); (try k_sweep)))
local macro_rules | `(tactic| walk_at "setUnled") => `(tactic| (k_here; k_dflt (refine' unled_N ?F ?N ?U ?S ?k ?_; (case F => k_asm); (case N => k_asm); (case U => k_updF); (case S => assumption); (case k => assumption)); intro h' o' F' N' hs'; (try dsimp only at N'); (try k_sweep)))
local macro_rules | `(tactic| walk_at "inplaceOp Sub ref ref") => `(tactic| (k_here; (with_reducible show wpAny _ _ (inplaceOp _ (Value.ref _) (Value.ref _)) _ _ _); k_dflt (refine' isub_N ?F ?N ?U ?S ?o ?O ?n ?_; (case F => k_asm); (case N => k_asm); (case U => k_updF); (case S => assumption); (case o => k_mem); (case O => assumption); (case n => k_ne)); intro h' o' F' N' hs'; (try dsimp only at N'); (try k_sweep)))
local macro_rules | `(tactic| walk_at "call builtin:len") => `(tactic| (k_here; (with_reducible show wpAny _ _ (call (Value.builtin "len") [Value.ref _]) _ _ _); k_dflt (refine' len_MN ?N ?m ?S ?_; (case N => k_asm); (case m => k_mem); (case S => assumption)); intro tl'; (try k_sweep)))
local macro_rules | `(tactic| walk_at "call builtin:sorted") => `(tactic| (k_here; (with_reducible show wpAny _ _ (call (Value.builtin "sorted") [Value.ref _]) _ _ _); k_dflt (refine' sorted_SN ?hh ?F ?N ?hf ?hc ?S ?_; (case hh => rfl); (case F => k_asm); (case N => k_asm); (case hf => k_mem); (case S => assumption); (case hc => first | exact Or.inl rfl | exact Or.inr rfl)); intro D' h' tk' vs' c' F' N' l1 hI'; (try k_lt l1); (try k_sweep)))
local macro_rules | `(tactic| walk_at "call type:set") => `(tactic| (k_here; (with_reducible show wpAny _ _ (call (Value.type "set") [Value.ref _]) _ _ _); k_dflt (refine' set_RN ?hh ?F ?N ?r ?_; (case hh => rfl); (case F => k_asm); (case N => k_asm); (case r => assumption)); intro D' h' tk' o' F' N' l1 hs'; (try k_lt l1); (try k_sweep)))
local macro_rules | `(tactic| walk_at "call type:frozenset") => `(tactic| (k_here; (with_reducible show wpAny _ _ (call (Value.type "frozenset") [Value.ref _]) _ _ _); k_dflt (refine' fro_RN ?hh ?F ?N ?r ?_; (case hh => rfl); (case F => k_asm); (case N => k_asm); (case r => assumption)); intro D' h' tk' o' F' N' l1 hs'; (try k_lt l1); (try k_sweep)))
local macro_rules | `(tactic| walk_at "inplaceOp Sub ref ref") => `(tactic| (k_here; (with_reducible show wpAny _ _ (inplaceOp _ (Value.ref _) (Value.ref _)) _ _ _); k_dflt (refine' ifro_N ?F ?N ?f ?S ?o ?O ?_; (case F => k_asm); (case N => k_asm); (case f => k_mem); (case S => assumption); (case o => k_mem); (case O => assumption)); intro D' h' o' F' N' l1 hs'; (try k_lt l1); (try k_sweep)))
local macro_rules | `(tactic| walk_at "inplaceOp Sub ref ref") => `(tactic| (k_here; k_dflt (refine' iself_N ?F ?N ?U ?S ?_; (case F => k_asm); (case N => k_asm); (case U => k_updF); (case S => assumption)); intro h' o' F' N' hs'; (try dsimp only at N'); (try k_sweep)))
local macro_rules | `(tactic| walk_at "call type:type") => `(tactic| (k_here; (with_reducible show wpAny _ _ (call (Value.type "type") [Value.ref _]) _ _ _); k_dflt (refine' type_FN ?N ?m ?S ?_; (case N => k_asm); (case m => k_mem); (case S => assumption)); (try k_sweep)))
local macro_rules | `(tactic| walk_at "inplaceOp Sub ref ref") => `(tactic| (k_here; k_dflt (first | (refine' bad_r (T := "list") ?hh ?N ?f ?S ?B ?i ?v ?_; (case hh => rfl); (case N => k_asm); (case f => k_mem); (case S => assumption); (case B => exact bad_list); (case i => exact fun z => absurd z (by decide)); (case v => exact ⟨_, (News.get (by k_asm) (by k_mem)), rfl⟩)) | (refine' bad_l (T := "list") ?hh ?N ?f ?S ?B ?i ?v ?_; (case hh => rfl); (case N => k_asm); (case f => k_mem); (case S => assumption); (case B => exact bad_list); (case i => exact fun z => absurd z (by decide)); (case v => exact ⟨_, (News.get (by k_asm) (by k_mem)), rfl⟩))); intro h' tk' e' x'; (try k_sweep)))
local macro_rules | `(tactic| walk_at "eval ListComp") => `(tactic| ((with_reducible show wpAny _ _ (eval (Expr.ListComp (Expr.Name _ _) [⟨_, Expr.Call (Expr.Name (Str.ofString "range") _) _ _ _, _, _⟩] _ _) _) _ _ _); (with_reducible apply ListComp_DCr); (case hh => with_unfolding_all rfl); (case hclos => with_unfolding_all rfl); (case hcell => decide); (case hkind => with_unfolding_all rfl); (case hnames => decide); (case hx => with_unfolding_all rfl); (case hs => intro _; with_unfolding_all rfl); (case' h => with_reducible refine wpAny_rangePack ?_)))
local macro_rules | `(tactic| walk_at "subscriptTail Name Name ref int") => `(tactic| (k_here; (with_reducible show wpAny _ _ (subscriptTail _ _ (Value.ref _) (Value.int _ _)) _ _ _); k_dflt (refine' kim_list ?N ?m ?c ?d ?h0 ?hf ?hx ?_; (case N => k_asm); (case m => k_mem); (case c => rfl); (case d => rfl); (case hx => first | with_reducible assumption | rfl); (case h0 => first | with_reducible assumption | decide); (case hf => first | decide | omega))))
local macro_rules | `(tactic| walk_at "subscriptTail Name Constant ref int") => `(tactic| (k_here; (with_reducible show wpAny _ _ (subscriptTail _ _ (Value.ref _) (Value.int _ _)) _ _ _); k_dflt (refine' kim_list ?N ?m ?c ?d ?h0 ?hf ?hx ?_; (case N => k_asm); (case m => k_mem); (case c => rfl); (case d => rfl); (case hx => rfl); (case h0 => decide); (case hf => decide))))
local macro_rules | `(tactic| walk_at "eval Name") => `(tactic| (k_here; (with_reducible show wpAny _ _ (eval (Expr.Name _ _) (envOfC _ _ _ _ _)) _ _ _); k_dflt (first | (refine' nameX_L ?F ?v ?_ ?a ?b; (case F => k_asm); (case a => rfl); (case b => rfl); (case v => rfl); k_whole) | (refine' nameX_C ?N ?c ?m ?d ?_ ?a ?b; (case a => rfl); (case b => rfl); (case N => k_asm); (case c => rfl); (case m => k_mem); (case d => k_asm); k_whole) | (refine' nameX_K ?F ?X ?T ?e ?_ ?a ?b; (case F => k_asm); (case X => k_asm); (case T => k_asm); (case a => rfl); (case b => rfl); (case e => k_is); k_whole) | (refine' nameX_B ?F ?X ?T ?e ?v ?n ?_ ?a ?b; (case F => k_asm); (case X => k_asm); (case T => k_asm); (case a => rfl); (case b => rfl); (case e => k_is); (case v => boot_fast); (case n => decide); k_whole))))

section
open PySem PySem.W PyProof.Rows
set_option Elab.async false
set_option linter.unusedVariables false
namespace Mine
set_option maxRecDepth 100000
set_option maxHeartbeats 8000000
def whileSt : Stmt := fst1 (tl (tl (tl (tl (tl (tl (tl (bodyOf forNeed))))))))

def weakOf (need : Int) (M : Nat) (k : Nat → Nat) : List Int := (ipts M).filter fun i => decide (((pts (k i.toNat)).length : Int) < need)
theorem ipts_at {M i : Nat} {n : Int} (h : (ipts M)[i]? = some n) : ∃ p : Nat, p < 6 ∧ n = (p : Int) ∧ (ipts M).take (i + 1) = (ipts M).take i ++ [(p : Int)] := by
  have hm := List.mem_of_getElem? h
  obtain ⟨p, hp, rfl⟩ := List.mem_map.mp hm
  refine ⟨p, by have := List.mem_filter.mp hp; exact List.mem_range.mp this.1, rfl, ?_⟩
  rw [List.take_add_one, h]; rfl
theorem IntsAre.snoc {ys : List Value} {ns : List Int} {n : Int} {t : Tok} (h : IntsAre ys ns) : IntsAre (ys ++ [.int n t]) (ns ++ [n]) := h.append (.cons n t .nil)
theorem isTrue_int {vs : List Value} {ns : List Int} {i : Nat} {v : Value} (h : IntsAre vs ns) (hi : vs.toArray[i]? = some v) : ∃ n t, ns[i]? = some n ∧ v = .int n t := by
  rw [List.getElem?_toArray] at hi
  have hl : i < ns.length := by
    have := (List.getElem?_eq_some_iff.mp hi).1
    rw [h.length] at this; exact this
  obtain ⟨t, ht⟩ := h.get i ns[i] (by simp [hl])
  rw [hi] at ht
  exact ⟨ns[i], t, by simp [hl], Option.some.inj ht⟩
end Mine

end
theorem Mine.flWD : True := by first | (row_walk; done) | (walk1; done) | trivial
section
open PySem PySem.W PyProof.Rows
set_option Elab.async false
set_option linter.unusedVariables false
namespace Mine
set_option maxRecDepth 100000
set_option maxHeartbeats 8000000

theorem le_mil {k : Int} (h : k < 0 + (((6 - 0 : Int).toNat : Nat) : Int)) : k ≤ 1000000 := by
  have e : (((6 - 0 : Int).toNat : Nat) : Int) = 6 := rfl
  omega
theorem p64_ne {n : Nat} : (64 : Int) ^ n ≠ 0 := Int.ne_of_gt (Int.pow_pos (by decide))
theorem p64_log {k : Int} (h : k < 0 + (((6 - 0 : Int).toNat : Nat) : Int)) : ((64 : Int) ^ k.toNat).natAbs.log2 < 9000 := by
  have e : (((6 - 0 : Int).toNat : Nat) : Int) = 6 := rfl
  have h6 : k.toNat < 6 := by omega
  have hc : ∀ n < 6, ((64 : Int) ^ n).natAbs.log2 < 9000 := by decide
  exact hc _ h6
local macro_rules | `(tactic| walk_at "binaryOp Pow int int") => `(tactic| (k_here; (with_reducible refine pow_int_small ?kb1 ?kb2 ?kb3 ?_); (case kb1 => with_reducible assumption); (case kb2 => exact le_mil (by with_reducible assumption)); (case kb3 => decide)))
local macro_rules | `(tactic| walk_at "binaryOp FloorDiv int int") => `(tactic| (k_here; (with_reducible refine floordiv_int ?kbe ?_ (Or.inl (PyProof.noPylong_of_log2 ?kbp))); (case kbe => exact p64_ne); (case kbp => exact p64_log (by with_reducible assumption))))

theorem masksS {w : World} {s₀ s : Shared} {b : Heap} {mg mb : Str → Option Value} (S : Stat w s₀ b mg mb) {fa c : Addr} {u : Str → Option Value} {cn cd cm ct ck co : Obj} {net need tells : Int} {t1 t2 t3 : Tok} {lel ml onl i1 i2 : Addr} {it1 it2 : Obj} {lev mv onv : List Value} {e3 e4 e5 : Nat} {Q : Flow → Shared → Prop} {v : Option Value}
  (F : Fr b b.objs.size s.heap u) 
  (N : News b b.objs.size s.heap [(onl, PySem.W.listOf onv.toArray e5), (b.objs.size + 1 + 1 + 1 + 1 + 1 + 1, cn), (b.objs.size + 1 + 1 + 1 + 1 + 1, cd), (b.objs.size + 1 + 1 + 1 + 1, cm), (b.objs.size + 1 + 1 + 1, ct), (b.objs.size + 1 + 1, ck), (b.objs.size + 1, co), (i1, it1)]) 
  (hck : ck.data = .cell (some (.int net t2))) (hnet : 0 ≤ net ∧ net ≤ 2) (hct : ct.data = .cell (some (.int tells t3))) (hcm : cm.data = .cell v) (conl2 : onl ≠ b.objs.size + 1 + 1) (conl3 : onl ≠ b.objs.size + 1 + 1 + 1) (conl4 : onl ≠ b.objs.size + 1 + 1 + 1 + 1) (conl5 : onl ≠ b.objs.size + 1 + 1 + 1 + 1 + 1) (conl6 : onl ≠ b.objs.size + 1 + 1 + 1 + 1 + 1 + 1) (k1 : b.objs.size + 1 + 1 + 1 + 1 + 1 + 1 < i1) (hCR : b.CodeRec (.ref c) (Str.ofString "law")) (hrow : Challenge.rw_km0070_01.foot = 3)
  (hQ : ∀ ml cm' mv mn h tk, cm'.data = .cell (some (.ref ml)) → IntsAre mv mn → mn.length = 6 → (∀ x ∈ mn, 0 ≤ x ∧ x < 64) → onl ≠ ml → b.objs.size + 1 + 1 + 1 + 1 + 1 + 1 ≠ ml → b.objs.size + 1 + 1 + 1 + 1 + 1 ≠ ml → b.objs.size + 1 + 1 + 1 + 1 ≠ ml → b.objs.size + 1 + 1 + 1 ≠ ml → b.objs.size + 1 + 1 ≠ ml → Fr b b.objs.size h u → News b b.objs.size h [(ml, LCg.lst mv), (onl, PySem.W.listOf onv.toArray e5), (b.objs.size + 1 + 1 + 1 + 1 + 1 + 1, cn), (b.objs.size + 1 + 1 + 1 + 1 + 1, cd), (b.objs.size + 1 + 1 + 1 + 1, cm'), (b.objs.size + 1 + 1 + 1, ct), (b.objs.size + 1 + 1, ck), (b.objs.size + 1, co), (i1, it1)] → Q .next { s with heap := h, toks := tk })
  : wpAny (model Challenge.rw_km0070_01.row.prog w) (callerA.deeper (envOfC (Str.ofString "law") lawScope b.objs.size fa (.ref c))) (exec (fst1 (tl (bodyOf forNet))) (envOfC (Str.ofString "law") lawScope b.objs.size fa (.ref c))) Q (fun _ _ => False) s := by
  obtain ⟨KX, T, GL, B0⟩ := S
  dsimp only [whileSt, lawScope, scopeOf, forNeed, forNet, lawDef, bodyOf, PySem.Challenge.pw_km0070_01, tl, fst1]
  revert KX
  k_fill
  intro KX
  k_steps
  rename _ = Data.cell (some (Value.ref _)) => hd9
  rename IntsAre _ _ => hI9
  rename Fr b _ _ _ => F9
  rename News b _ _ _ => N9
  rename _ ∧ _ => hne
  refine hQ _ _ _ _ _ _ hd9 hI9 rfl (fun x hx => ?_) hne.1 hne.2.1 hne.2.2.1 hne.2.2.2.1 hne.2.2.2.2.1 hne.2.2.2.2.2.1 F9 N9
  obtain ⟨k', _, rfl⟩ := List.mem_map.mp hx
  have h6a := Int.fmod_nonneg_of_pos (k' + net) (b := 6) (by decide)
  have h6b := Int.fmod_lt_of_pos (k' + net) (b := 6) (by decide)
  repeat' split
  all_goals first
    | exact ⟨Int.fmod_nonneg_of_pos _ (by decide), Int.fmod_lt_of_pos _ (by decide)⟩
    | (exfalso; omega)
end Mine

end
theorem Mine.flWM : True := by first | (row_walk; done) | (walk1; done) | trivial
section
open PySem PySem.W PyProof.Rows
set_option Elab.async false
set_option linter.unusedVariables false
namespace Mine
set_option maxRecDepth 100000
set_option maxHeartbeats 8000000
local macro_rules | `(tactic| walk_at "CompSrcT") => `(tactic| refine Halt.out ?_)
local macro_rules | `(tactic| walk_at "CompEnd") => `(tactic| refine Halt.out ?_)

theorem weakA {w : World} {s₀ s : Shared} {b : Heap} {mg mb : Str → Option Value} (S : Stat w s₀ b mg mb) {fa c : Addr} {u : Str → Option Value} {cn cd cm ct ck co : Obj} {net need tells : Int} {t1 t2 t3 : Tok} {lel ml onl i1 i2 : Addr} {it1 it2 : Obj} {lev mv onv : List Value} {e3 e4 e5 : Nat} {Q : Flow → Shared → Prop} {nl hl lf a0 a1 a2 a3 a4 a5 : Addr} {lo o0 o1 o2 o3 o4 o5 : Obj} {M : Nat} {k : Nat → Nat} {e2 e6 : Nat}
  (F : Fr b b.objs.size s.heap (fun y => if y = Str.ofString "left" then some (.ref lf) else u y))
  (N : News b b.objs.size s.heap [(nl, PySem.W.listOf [Value.ref a0, Value.ref a1, Value.ref a2, Value.ref a3, Value.ref a4, Value.ref a5].toArray e2), (a5, o5), (a4, o4), (a3, o3), (a2, o2), (a1, o1), (a0, o0), (hl, PySem.W.listOf [Value.ref a0, Value.ref a1, Value.ref a2, Value.ref a3, Value.ref a4, Value.ref a5].toArray e6), (lf, lo), (lel, PySem.W.listOf lev.toArray e3), (ml, PySem.W.listOf mv.toArray e4), (onl, PySem.W.listOf onv.toArray e5), (b.objs.size + 1 + 1 + 1 + 1 + 1 + 1, cn), (b.objs.size + 1 + 1 + 1 + 1 + 1, cd), (b.objs.size + 1 + 1 + 1 + 1, cm), (b.objs.size + 1 + 1 + 1, ct), (b.objs.size + 1 + 1, ck), (b.objs.size + 1, co), (i1, it1), (i2, it2)])
  (hcd : cd.data = .cell (some (.int need t1))) (hck : ck.data = .cell (some (.int net t2))) (hct : ct.data = .cell (some (.int tells t3))) (hcm : cm.data = .cell (some (.ref ml))) (hco : co.data = .cell (some (.ref onl))) (hcn : cn.data = .cell (some (.ref nl))) (hlo : SetO w false "set" M lo) (q0 : SetO w false "set" (k 0) o0) (q1 : SetO w false "set" (k 1) o1) (q2 : SetO w false "set" (k 2) o2) (q3 : SetO w false "set" (k 3) o3) (q4 : SetO w false "set" (k 4) o4) (q5 : SetO w false "set" (k 5) o5) (conl2 : onl ≠ b.objs.size + 1 + 1) (conl3 : onl ≠ b.objs.size + 1 + 1 + 1) (conl4 : onl ≠ b.objs.size + 1 + 1 + 1 + 1) (conl5 : onl ≠ b.objs.size + 1 + 1 + 1 + 1 + 1) (conl6 : onl ≠ b.objs.size + 1 + 1 + 1 + 1 + 1 + 1) (cml2 : ml ≠ b.objs.size + 1 + 1) (cml3 : ml ≠ b.objs.size + 1 + 1 + 1) (cml4 : ml ≠ b.objs.size + 1 + 1 + 1 + 1) (cml5 : ml ≠ b.objs.size + 1 + 1 + 1 + 1 + 1) (cml6 : ml ≠ b.objs.size + 1 + 1 + 1 + 1 + 1 + 1) (clel2 : lel ≠ b.objs.size + 1 + 1) (clel3 : lel ≠ b.objs.size + 1 + 1 + 1) (clel4 : lel ≠ b.objs.size + 1 + 1 + 1 + 1) (clel5 : lel ≠ b.objs.size + 1 + 1 + 1 + 1 + 1) (clel6 : lel ≠ b.objs.size + 1 + 1 + 1 + 1 + 1 + 1) (k1 : b.objs.size + 1 + 1 + 1 + 1 + 1 + 1 < i1) (k2 : b.objs.size + 1 + 1 + 1 + 1 + 1 + 1 < i2) (h10 : b.objs.size + 1 + 1 + 1 + 1 + 1 + 1 < lf) (h11 : @LT.lt Nat _ ml lf) (h12 : @LT.lt Nat _ onl lf) (h13 : @LT.lt Nat _ lel lf) (hi1 : @LT.lt Nat _ i1 lf) (hi2 : @LT.lt Nat _ i2 lf) (h14 : @LT.lt Nat _ lf a0) (h15 : @LT.lt Nat _ hl nl) (h16 : @LT.lt Nat _ a0 a1) (h17 : @LT.lt Nat _ a1 a2) (h18 : @LT.lt Nat _ a2 a3) (h19 : @LT.lt Nat _ a3 a4) (h20 : @LT.lt Nat _ a4 a5) (h21 : @LT.lt Nat _ a5 nl) (n0 : hl ≠ a0) (n1 : hl ≠ a1) (n2 : hl ≠ a2) (n3 : hl ≠ a3) (n4 : hl ≠ a4) (n5 : hl ≠ a5) (n6 : hl ≠ lf) (hCR : b.CodeRec (.ref c) (Str.ofString "law")) (hrow : Challenge.rw_km0070_01.foot = 3)
  (hQ : ∀ wl ws e1 h tk, Fr b b.objs.size h (fun y => if y = Str.ofString "weak" then some (.ref wl) else if y = Str.ofString "left" then some (.ref lf) else u y) → News b b.objs.size h [(wl, PySem.W.listOf ws.toArray e1), (nl, PySem.W.listOf [Value.ref a0, Value.ref a1, Value.ref a2, Value.ref a3, Value.ref a4, Value.ref a5].toArray e2), (a5, o5), (a4, o4), (a3, o3), (a2, o2), (a1, o1), (a0, o0), (hl, PySem.W.listOf [Value.ref a0, Value.ref a1, Value.ref a2, Value.ref a3, Value.ref a4, Value.ref a5].toArray e6), (lf, lo), (lel, PySem.W.listOf lev.toArray e3), (ml, PySem.W.listOf mv.toArray e4), (onl, PySem.W.listOf onv.toArray e5), (b.objs.size + 1 + 1 + 1 + 1 + 1 + 1, cn), (b.objs.size + 1 + 1 + 1 + 1 + 1, cd), (b.objs.size + 1 + 1 + 1 + 1, cm), (b.objs.size + 1 + 1 + 1, ct), (b.objs.size + 1 + 1, ck), (b.objs.size + 1, co), (i1, it1), (i2, it2)] → LCg.Off1 wl [(nl, PySem.W.listOf [Value.ref a0, Value.ref a1, Value.ref a2, Value.ref a3, Value.ref a4, Value.ref a5].toArray e2), (a5, o5), (a4, o4), (a3, o3), (a2, o2), (a1, o1), (a0, o0), (hl, PySem.W.listOf [Value.ref a0, Value.ref a1, Value.ref a2, Value.ref a3, Value.ref a4, Value.ref a5].toArray e6), (lf, lo), (lel, PySem.W.listOf lev.toArray e3), (ml, PySem.W.listOf mv.toArray e4), (onl, PySem.W.listOf onv.toArray e5), (b.objs.size + 1 + 1 + 1 + 1 + 1 + 1, cn), (b.objs.size + 1 + 1 + 1 + 1 + 1, cd), (b.objs.size + 1 + 1 + 1 + 1, cm), (b.objs.size + 1 + 1 + 1, ct), (b.objs.size + 1 + 1, ck), (b.objs.size + 1, co), (i1, it1), (i2, it2)] → IntsAre ws (weakOf need M k) → Q .next { s with heap := h, toks := tk })
  : wpAny (model Challenge.rw_km0070_01.row.prog w) (callerA.deeper (envOfC (Str.ofString "law") lawScope b.objs.size fa (.ref c))) (exec (fst1 (tl (tl (tl (tl (tl (tl (bodyOf forNeed)))))))) (envOfC (Str.ofString "law") lawScope b.objs.size fa (.ref c))) Q (fun _ _ => False) s := by
  obtain ⟨KX, T, GL, B0⟩ := S
  dsimp only [whileSt, lawScope, scopeOf, forNeed, forNet, lawDef, bodyOf, PySem.Challenge.pw_km0070_01, tl, fst1]
  revert KX
  k_fill
  intro KX
  k_dflt (refine LCt.Assign_ListComp_T (F₀ := F) (by rfl) (by with_unfolding_all rfl) (by with_unfolding_all rfl) (by decide) (by rfl) (by decide) (by rfl) (by rfl) (by rfl) ?_)
  k_steps
  refine Halt.mk ?_
  rename_i D' h' tk' vs' c' F' N' hI' l1
  have hlen : vs'.length ≤ 6 := by
    rw [hI'.length]; unfold ipts; rw [List.length_map]; exact pts_len M
  refine LCt.CompSrcT.ledger (by rfl) F' N' List.mem_cons_self (by show vs'.toArray.size ≤ _; rw [List.size_toArray]; exact Nat.le_trans hlen (by decide)) ?_
  intro g'
  refine restT_inv (n := vs'.toArray.size) (fun i ys news => IntsAre ys (((ipts M).take i).filter fun i => decide (((pts (k i.toNat)).length : Int) < need)) ∧ news = [(D', PySem.W.listOf vs'.toArray c'), (nl, PySem.W.listOf [Value.ref a0, Value.ref a1, Value.ref a2, Value.ref a3, Value.ref a4, Value.ref a5].toArray e2), (a5, o5), (a4, o4), (a3, o3), (a2, o2), (a1, o1), (a0, o0), (hl, PySem.W.listOf [Value.ref a0, Value.ref a1, Value.ref a2, Value.ref a3, Value.ref a4, Value.ref a5].toArray e6), (lf, lo), (lel, PySem.W.listOf lev.toArray e3), (ml, PySem.W.listOf mv.toArray e4), (onl, PySem.W.listOf onv.toArray e5), (b.objs.size + 1 + 1 + 1 + 1 + 1 + 1, cn), (b.objs.size + 1 + 1 + 1 + 1 + 1, cd), (b.objs.size + 1 + 1 + 1 + 1, cm), (b.objs.size + 1 + 1 + 1, ct), (b.objs.size + 1 + 1, ck), (b.objs.size + 1, co), (i1, it1), (i2, it2)]) ?turn ?fin _ 0 [] _ (Nat.zero_add _) ⟨.nil, rfl⟩
  case fin =>
    rintro ys news ⟨hy, rfl⟩
    intro D h tk F₁ N₁ ow
    refine hQ D ys ys.length h tk F₁ (fun p hp => N₁ p ?_) ?_ ?_
    · rcases List.mem_cons.mp hp with rfl | hp
      · exact List.mem_cons_self
      · exact List.mem_cons_of_mem _ (List.mem_cons_of_mem _ hp)
    · exact ow.2
    · unfold weakOf
      rw [List.take_of_length_le (by show _ ≤ vs'.toArray.size; rw [List.size_toArray, hI'.length]; exact Nat.le_refl _)] at hy
      exact hy
  case turn =>
    clear N' F'
    rintro i ys news hi ⟨hy, rfl⟩ v I oI C oC D m₂ h tk E' hP hC hx F₁ N₁ off ne
    obtain ⟨n, t, hn, rfl⟩ := isTrue_int hI' hP
    obtain ⟨p, hp6, rfl, htk⟩ := ipts_at hn
    rw [htk, List.filter_append]
    clear hn hP
    have hcase : p = 0 ∨ p = 1 ∨ p = 2 ∨ p = 3 ∨ p = 4 ∨ p = 5 := by omega
    rcases hcase with rfl | rfl | rfl | rfl | rfl | rfl
    · change m₂ (Str.ofString "i") = some (Value.int 0 t) at hx
      k_steps
      · rename_i hc
        refine Halt.mk ?_
        refine ⟨h, _, _, rfl, F₁, N₁, off, .inr ⟨_, List.mem_cons_self, rfl, _, rfl⟩, ?_, rfl⟩
        rw [List.filter_cons_of_pos (by exact decide_eq_true hc)]
        exact IntsAre.snoc hy
      · rename_i hc
        refine Halt.mk ?_
        refine ⟨h, _, _, rfl, F₁, N₁, off, .inr ⟨_, List.mem_cons_self, rfl, _, rfl⟩, ?_, rfl⟩
        rw [List.filter_cons_of_neg (by intro z; exact hc (of_decide_eq_true z)), List.filter_nil, List.append_nil]
        exact hy
    · change m₂ (Str.ofString "i") = some (Value.int 1 t) at hx
      k_steps
      · rename_i hc
        refine Halt.mk ?_
        refine ⟨h, _, _, rfl, F₁, N₁, off, .inr ⟨_, List.mem_cons_self, rfl, _, rfl⟩, ?_, rfl⟩
        rw [List.filter_cons_of_pos (by exact decide_eq_true hc)]
        exact IntsAre.snoc hy
      · rename_i hc
        refine Halt.mk ?_
        refine ⟨h, _, _, rfl, F₁, N₁, off, .inr ⟨_, List.mem_cons_self, rfl, _, rfl⟩, ?_, rfl⟩
        rw [List.filter_cons_of_neg (by intro z; exact hc (of_decide_eq_true z)), List.filter_nil, List.append_nil]
        exact hy
    · change m₂ (Str.ofString "i") = some (Value.int 2 t) at hx
      k_steps
      · rename_i hc
        refine Halt.mk ?_
        refine ⟨h, _, _, rfl, F₁, N₁, off, .inr ⟨_, List.mem_cons_self, rfl, _, rfl⟩, ?_, rfl⟩
        rw [List.filter_cons_of_pos (by exact decide_eq_true hc)]
        exact IntsAre.snoc hy
      · rename_i hc
        refine Halt.mk ?_
        refine ⟨h, _, _, rfl, F₁, N₁, off, .inr ⟨_, List.mem_cons_self, rfl, _, rfl⟩, ?_, rfl⟩
        rw [List.filter_cons_of_neg (by intro z; exact hc (of_decide_eq_true z)), List.filter_nil, List.append_nil]
        exact hy
    · change m₂ (Str.ofString "i") = some (Value.int 3 t) at hx
      k_steps
      · rename_i hc
        refine Halt.mk ?_
        refine ⟨h, _, _, rfl, F₁, N₁, off, .inr ⟨_, List.mem_cons_self, rfl, _, rfl⟩, ?_, rfl⟩
        rw [List.filter_cons_of_pos (by exact decide_eq_true hc)]
        exact IntsAre.snoc hy
      · rename_i hc
        refine Halt.mk ?_
        refine ⟨h, _, _, rfl, F₁, N₁, off, .inr ⟨_, List.mem_cons_self, rfl, _, rfl⟩, ?_, rfl⟩
        rw [List.filter_cons_of_neg (by intro z; exact hc (of_decide_eq_true z)), List.filter_nil, List.append_nil]
        exact hy
    · change m₂ (Str.ofString "i") = some (Value.int 4 t) at hx
      k_steps
      · rename_i hc
        refine Halt.mk ?_
        refine ⟨h, _, _, rfl, F₁, N₁, off, .inr ⟨_, List.mem_cons_self, rfl, _, rfl⟩, ?_, rfl⟩
        rw [List.filter_cons_of_pos (by exact decide_eq_true hc)]
        exact IntsAre.snoc hy
      · rename_i hc
        refine Halt.mk ?_
        refine ⟨h, _, _, rfl, F₁, N₁, off, .inr ⟨_, List.mem_cons_self, rfl, _, rfl⟩, ?_, rfl⟩
        rw [List.filter_cons_of_neg (by intro z; exact hc (of_decide_eq_true z)), List.filter_nil, List.append_nil]
        exact hy
    · change m₂ (Str.ofString "i") = some (Value.int 5 t) at hx
      k_steps
      · rename_i hc
        refine Halt.mk ?_
        refine ⟨h, _, _, rfl, F₁, N₁, off, .inr ⟨_, List.mem_cons_self, rfl, _, rfl⟩, ?_, rfl⟩
        rw [List.filter_cons_of_pos (by exact decide_eq_true hc)]
        exact IntsAre.snoc hy
      · rename_i hc
        refine Halt.mk ?_
        refine ⟨h, _, _, rfl, F₁, N₁, off, .inr ⟨_, List.mem_cons_self, rfl, _, rfl⟩, ?_, rfl⟩
        rw [List.filter_cons_of_neg (by intro z; exact hc (of_decide_eq_true z)), List.filter_nil, List.append_nil]
        exact hy
end Mine

end
theorem Mine.flWA : True := by first | (row_walk; done) | (walk1; done) | trivial
section
open PySem PySem.W PyProof.Rows
set_option Elab.async false
set_option linter.unusedVariables false
namespace Mine
set_option maxRecDepth 100000
set_option maxHeartbeats 8000000
local macro_rules | `(tactic| walk_at "CompSrcT") => `(tactic| refine Halt.out ?_)
local macro_rules | `(tactic| walk_at "CompEnd") => `(tactic| refine Halt.out ?_)

theorem weakB {w : World} {s₀ s : Shared} {b : Heap} {mg mb : Str → Option Value} (S : Stat w s₀ b mg mb) {fa c : Addr} {u : Str → Option Value} {cn cd cm ct ck co : Obj} {net need tells : Int} {t1 t2 t3 : Tok} {lel ml onl i1 i2 : Addr} {it1 it2 : Obj} {lev mv onv : List Value} {e3 e4 e5 : Nat} {Q : Flow → Shared → Prop} {nl hl lf a0 a1 a2 a3 a4 a5 : Addr} {lo o0 o1 o2 o3 o4 o5 : Obj} {M : Nat} {k : Nat → Nat} {e2 e6 : Nat}
  (F : Fr b b.objs.size s.heap (fun y => if y = Str.ofString "left" then some (.ref lf) else u y))
  (N : News b b.objs.size s.heap [(nl, PySem.W.listOf [Value.ref a0, Value.ref a1, Value.ref a2, Value.ref a3, Value.ref a4, Value.ref a5].toArray e2), (a5, o5), (a4, o4), (a3, o3), (a2, o2), (a1, o1), (a0, o0), (hl, PySem.W.listOf [Value.ref a0, Value.ref a1, Value.ref a2, Value.ref a3, Value.ref a4, Value.ref a5].toArray e6), (lf, lo), (lel, PySem.W.listOf lev.toArray e3), (ml, PySem.W.listOf mv.toArray e4), (onl, PySem.W.listOf onv.toArray e5), (b.objs.size + 1 + 1 + 1 + 1 + 1 + 1, cn), (b.objs.size + 1 + 1 + 1 + 1 + 1, cd), (b.objs.size + 1 + 1 + 1 + 1, cm), (b.objs.size + 1 + 1 + 1, ct), (b.objs.size + 1 + 1, ck), (b.objs.size + 1, co), (i1, it1), (i2, it2)])
  (hcd : cd.data = .cell (some (.int need t1))) (hck : ck.data = .cell (some (.int net t2))) (hct : ct.data = .cell (some (.int tells t3))) (hcm : cm.data = .cell (some (.ref ml))) (hco : co.data = .cell (some (.ref onl))) (hcn : cn.data = .cell (some (.ref nl))) (hlo : SetO w false "set" M lo) (q0 : SetO w false "set" (k 0) o0) (q1 : SetO w false "set" (k 1) o1) (q2 : SetO w false "set" (k 2) o2) (q3 : SetO w false "set" (k 3) o3) (q4 : SetO w false "set" (k 4) o4) (q5 : SetO w false "set" (k 5) o5) (conl2 : onl ≠ b.objs.size + 1 + 1) (conl3 : onl ≠ b.objs.size + 1 + 1 + 1) (conl4 : onl ≠ b.objs.size + 1 + 1 + 1 + 1) (conl5 : onl ≠ b.objs.size + 1 + 1 + 1 + 1 + 1) (conl6 : onl ≠ b.objs.size + 1 + 1 + 1 + 1 + 1 + 1) (cml2 : ml ≠ b.objs.size + 1 + 1) (cml3 : ml ≠ b.objs.size + 1 + 1 + 1) (cml4 : ml ≠ b.objs.size + 1 + 1 + 1 + 1) (cml5 : ml ≠ b.objs.size + 1 + 1 + 1 + 1 + 1) (cml6 : ml ≠ b.objs.size + 1 + 1 + 1 + 1 + 1 + 1) (clel2 : lel ≠ b.objs.size + 1 + 1) (clel3 : lel ≠ b.objs.size + 1 + 1 + 1) (clel4 : lel ≠ b.objs.size + 1 + 1 + 1 + 1) (clel5 : lel ≠ b.objs.size + 1 + 1 + 1 + 1 + 1) (clel6 : lel ≠ b.objs.size + 1 + 1 + 1 + 1 + 1 + 1) (k1 : b.objs.size + 1 + 1 + 1 + 1 + 1 + 1 < i1) (k2 : b.objs.size + 1 + 1 + 1 + 1 + 1 + 1 < i2) (h10 : b.objs.size + 1 + 1 + 1 + 1 + 1 + 1 < lf) (h11 : @LT.lt Nat _ ml lf) (h12 : @LT.lt Nat _ onl lf) (h13 : @LT.lt Nat _ lel lf) (hi1 : @LT.lt Nat _ i1 lf) (hi2 : @LT.lt Nat _ i2 lf) (h14 : @LT.lt Nat _ lf a0) (h15 : @LT.lt Nat _ hl nl) (h16 : @LT.lt Nat _ a0 a1) (h17 : @LT.lt Nat _ a1 a2) (h18 : @LT.lt Nat _ a2 a3) (h19 : @LT.lt Nat _ a3 a4) (h20 : @LT.lt Nat _ a4 a5) (h21 : @LT.lt Nat _ a5 nl) (n0 : hl ≠ a0) (n1 : hl ≠ a1) (n2 : hl ≠ a2) (n3 : hl ≠ a3) (n4 : hl ≠ a4) (n5 : hl ≠ a5) (n6 : hl ≠ lf) (hCR : b.CodeRec (.ref c) (Str.ofString "law")) (hrow : Challenge.rw_km0070_01.foot = 3)
  (hQ : ∀ wl ws e1 h tk, Fr b b.objs.size h (fun y => if y = Str.ofString "weak" then some (.ref wl) else if y = Str.ofString "left" then some (.ref lf) else u y) → News b b.objs.size h [(wl, PySem.W.listOf ws.toArray e1), (nl, PySem.W.listOf [Value.ref a0, Value.ref a1, Value.ref a2, Value.ref a3, Value.ref a4, Value.ref a5].toArray e2), (a5, o5), (a4, o4), (a3, o3), (a2, o2), (a1, o1), (a0, o0), (hl, PySem.W.listOf [Value.ref a0, Value.ref a1, Value.ref a2, Value.ref a3, Value.ref a4, Value.ref a5].toArray e6), (lf, lo), (lel, PySem.W.listOf lev.toArray e3), (ml, PySem.W.listOf mv.toArray e4), (onl, PySem.W.listOf onv.toArray e5), (b.objs.size + 1 + 1 + 1 + 1 + 1 + 1, cn), (b.objs.size + 1 + 1 + 1 + 1 + 1, cd), (b.objs.size + 1 + 1 + 1 + 1, cm), (b.objs.size + 1 + 1 + 1, ct), (b.objs.size + 1 + 1, ck), (b.objs.size + 1, co), (i1, it1), (i2, it2)] → LCg.Off1 wl [(nl, PySem.W.listOf [Value.ref a0, Value.ref a1, Value.ref a2, Value.ref a3, Value.ref a4, Value.ref a5].toArray e2), (a5, o5), (a4, o4), (a3, o3), (a2, o2), (a1, o1), (a0, o0), (hl, PySem.W.listOf [Value.ref a0, Value.ref a1, Value.ref a2, Value.ref a3, Value.ref a4, Value.ref a5].toArray e6), (lf, lo), (lel, PySem.W.listOf lev.toArray e3), (ml, PySem.W.listOf mv.toArray e4), (onl, PySem.W.listOf onv.toArray e5), (b.objs.size + 1 + 1 + 1 + 1 + 1 + 1, cn), (b.objs.size + 1 + 1 + 1 + 1 + 1, cd), (b.objs.size + 1 + 1 + 1 + 1, cm), (b.objs.size + 1 + 1 + 1, ct), (b.objs.size + 1 + 1, ck), (b.objs.size + 1, co), (i1, it1), (i2, it2)] → IntsAre ws (weakOf need M k) → Q .next { s with heap := h, toks := tk })
  : wpAny (model Challenge.rw_km0070_01.row.prog w) (callerA.deeper (envOfC (Str.ofString "law") lawScope b.objs.size fa (.ref c))) (exec (fst1 (tl (tl (tl (bodyOf whileSt))))) (envOfC (Str.ofString "law") lawScope b.objs.size fa (.ref c))) Q (fun _ _ => False) s := by
  obtain ⟨KX, T, GL, B0⟩ := S
  dsimp only [whileSt, lawScope, scopeOf, forNeed, forNet, lawDef, bodyOf, PySem.Challenge.pw_km0070_01, tl, fst1]
  revert KX
  k_fill
  intro KX
  k_dflt (refine LCt.Assign_ListComp_T (F₀ := F) (by rfl) (by with_unfolding_all rfl) (by with_unfolding_all rfl) (by decide) (by rfl) (by decide) (by rfl) (by rfl) (by rfl) ?_)
  k_steps
  refine Halt.mk ?_
  rename_i D' h' tk' vs' c' F' N' hI' l1
  have hlen : vs'.length ≤ 6 := by
    rw [hI'.length]; unfold ipts; rw [List.length_map]; exact pts_len M
  refine LCt.CompSrcT.ledger (by rfl) F' N' List.mem_cons_self (by show vs'.toArray.size ≤ _; rw [List.size_toArray]; exact Nat.le_trans hlen (by decide)) ?_
  intro g'
  refine restT_inv (n := vs'.toArray.size) (fun i ys news => IntsAre ys (((ipts M).take i).filter fun i => decide (((pts (k i.toNat)).length : Int) < need)) ∧ news = [(D', PySem.W.listOf vs'.toArray c'), (nl, PySem.W.listOf [Value.ref a0, Value.ref a1, Value.ref a2, Value.ref a3, Value.ref a4, Value.ref a5].toArray e2), (a5, o5), (a4, o4), (a3, o3), (a2, o2), (a1, o1), (a0, o0), (hl, PySem.W.listOf [Value.ref a0, Value.ref a1, Value.ref a2, Value.ref a3, Value.ref a4, Value.ref a5].toArray e6), (lf, lo), (lel, PySem.W.listOf lev.toArray e3), (ml, PySem.W.listOf mv.toArray e4), (onl, PySem.W.listOf onv.toArray e5), (b.objs.size + 1 + 1 + 1 + 1 + 1 + 1, cn), (b.objs.size + 1 + 1 + 1 + 1 + 1, cd), (b.objs.size + 1 + 1 + 1 + 1, cm), (b.objs.size + 1 + 1 + 1, ct), (b.objs.size + 1 + 1, ck), (b.objs.size + 1, co), (i1, it1), (i2, it2)]) ?turn ?fin _ 0 [] _ (Nat.zero_add _) ⟨.nil, rfl⟩
  case fin =>
    rintro ys news ⟨hy, rfl⟩
    intro D h tk F₁ N₁ ow
    refine hQ D ys ys.length h tk F₁ (fun p hp => N₁ p ?_) ?_ ?_
    · rcases List.mem_cons.mp hp with rfl | hp
      · exact List.mem_cons_self
      · exact List.mem_cons_of_mem _ (List.mem_cons_of_mem _ hp)
    · exact ow.2
    · unfold weakOf
      rw [List.take_of_length_le (by show _ ≤ vs'.toArray.size; rw [List.size_toArray, hI'.length]; exact Nat.le_refl _)] at hy
      exact hy
  case turn =>
    clear N' F'
    rintro i ys news hi ⟨hy, rfl⟩ v I oI C oC D m₂ h tk E' hP hC hx F₁ N₁ off ne
    obtain ⟨n, t, hn, rfl⟩ := isTrue_int hI' hP
    obtain ⟨p, hp6, rfl, htk⟩ := ipts_at hn
    rw [htk, List.filter_append]
    clear hn hP
    have hcase : p = 0 ∨ p = 1 ∨ p = 2 ∨ p = 3 ∨ p = 4 ∨ p = 5 := by omega
    rcases hcase with rfl | rfl | rfl | rfl | rfl | rfl
    · change m₂ (Str.ofString "i") = some (Value.int 0 t) at hx
      k_steps
      · rename_i hc
        refine Halt.mk ?_
        refine ⟨h, _, _, rfl, F₁, N₁, off, .inr ⟨_, List.mem_cons_self, rfl, _, rfl⟩, ?_, rfl⟩
        rw [List.filter_cons_of_pos (by exact decide_eq_true hc)]
        exact IntsAre.snoc hy
      · rename_i hc
        refine Halt.mk ?_
        refine ⟨h, _, _, rfl, F₁, N₁, off, .inr ⟨_, List.mem_cons_self, rfl, _, rfl⟩, ?_, rfl⟩
        rw [List.filter_cons_of_neg (by intro z; exact hc (of_decide_eq_true z)), List.filter_nil, List.append_nil]
        exact hy
    · change m₂ (Str.ofString "i") = some (Value.int 1 t) at hx
      k_steps
      · rename_i hc
        refine Halt.mk ?_
        refine ⟨h, _, _, rfl, F₁, N₁, off, .inr ⟨_, List.mem_cons_self, rfl, _, rfl⟩, ?_, rfl⟩
        rw [List.filter_cons_of_pos (by exact decide_eq_true hc)]
        exact IntsAre.snoc hy
      · rename_i hc
        refine Halt.mk ?_
        refine ⟨h, _, _, rfl, F₁, N₁, off, .inr ⟨_, List.mem_cons_self, rfl, _, rfl⟩, ?_, rfl⟩
        rw [List.filter_cons_of_neg (by intro z; exact hc (of_decide_eq_true z)), List.filter_nil, List.append_nil]
        exact hy
    · change m₂ (Str.ofString "i") = some (Value.int 2 t) at hx
      k_steps
      · rename_i hc
        refine Halt.mk ?_
        refine ⟨h, _, _, rfl, F₁, N₁, off, .inr ⟨_, List.mem_cons_self, rfl, _, rfl⟩, ?_, rfl⟩
        rw [List.filter_cons_of_pos (by exact decide_eq_true hc)]
        exact IntsAre.snoc hy
      · rename_i hc
        refine Halt.mk ?_
        refine ⟨h, _, _, rfl, F₁, N₁, off, .inr ⟨_, List.mem_cons_self, rfl, _, rfl⟩, ?_, rfl⟩
        rw [List.filter_cons_of_neg (by intro z; exact hc (of_decide_eq_true z)), List.filter_nil, List.append_nil]
        exact hy
    · change m₂ (Str.ofString "i") = some (Value.int 3 t) at hx
      k_steps
      · rename_i hc
        refine Halt.mk ?_
        refine ⟨h, _, _, rfl, F₁, N₁, off, .inr ⟨_, List.mem_cons_self, rfl, _, rfl⟩, ?_, rfl⟩
        rw [List.filter_cons_of_pos (by exact decide_eq_true hc)]
        exact IntsAre.snoc hy
      · rename_i hc
        refine Halt.mk ?_
        refine ⟨h, _, _, rfl, F₁, N₁, off, .inr ⟨_, List.mem_cons_self, rfl, _, rfl⟩, ?_, rfl⟩
        rw [List.filter_cons_of_neg (by intro z; exact hc (of_decide_eq_true z)), List.filter_nil, List.append_nil]
        exact hy
    · change m₂ (Str.ofString "i") = some (Value.int 4 t) at hx
      k_steps
      · rename_i hc
        refine Halt.mk ?_
        refine ⟨h, _, _, rfl, F₁, N₁, off, .inr ⟨_, List.mem_cons_self, rfl, _, rfl⟩, ?_, rfl⟩
        rw [List.filter_cons_of_pos (by exact decide_eq_true hc)]
        exact IntsAre.snoc hy
      · rename_i hc
        refine Halt.mk ?_
        refine ⟨h, _, _, rfl, F₁, N₁, off, .inr ⟨_, List.mem_cons_self, rfl, _, rfl⟩, ?_, rfl⟩
        rw [List.filter_cons_of_neg (by intro z; exact hc (of_decide_eq_true z)), List.filter_nil, List.append_nil]
        exact hy
    · change m₂ (Str.ofString "i") = some (Value.int 5 t) at hx
      k_steps
      · rename_i hc
        refine Halt.mk ?_
        refine ⟨h, _, _, rfl, F₁, N₁, off, .inr ⟨_, List.mem_cons_self, rfl, _, rfl⟩, ?_, rfl⟩
        rw [List.filter_cons_of_pos (by exact decide_eq_true hc)]
        exact IntsAre.snoc hy
      · rename_i hc
        refine Halt.mk ?_
        refine ⟨h, _, _, rfl, F₁, N₁, off, .inr ⟨_, List.mem_cons_self, rfl, _, rfl⟩, ?_, rfl⟩
        rw [List.filter_cons_of_neg (by intro z; exact hc (of_decide_eq_true z)), List.filter_nil, List.append_nil]
        exact hy
end Mine

end
theorem Mine.flWB : True := by first | (row_walk; done) | (walk1; done) | trivial
section
open PySem PySem.W PyProof.Rows
set_option Elab.async false
set_option linter.unusedVariables false
namespace Mine
set_option maxRecDepth 100000
set_option maxHeartbeats 8000000

theorem getD_in {wn : List Int} {a : Int} (h : 0 < wn.length) : wn.getD (a.fmod (wn.length : Int)).toNat 0 ∈ wn := by
  rw [Int.fmod_eq_emod_of_nonneg a (by omega)]
  have h1 := Int.emod_nonneg a (b := (wn.length : Int)) (by omega)
  have h2 := Int.emod_lt_of_pos a (b := (wn.length : Int)) (by omega)
  have h3 : (a % (wn.length : Int)).toNat < wn.length := by omega
  rw [List.getD_eq_getElem?_getD, List.getElem?_eq_getElem h3]
  exact List.getElem_mem h3
theorem goneS {w : World} {s₀ s : Shared} {b : Heap} {mg mb : Str → Option Value} (S : Stat w s₀ b mg mb) {fa c : Addr} {u : Str → Option Value} {cn cd cm ct ck co : Obj} {net need tells : Int} {t1 t2 t3 : Tok} {lel ml onl i1 i2 : Addr} {it1 it2 : Obj} {lev mv onv : List Value} {e3 e4 e5 : Nat} {Q : Flow → Shared → Prop} {nl hl lf a0 a1 a2 a3 a4 a5 : Addr} {lo o0 o1 o2 o3 o4 o5 : Obj} {e2 e6 : Nat} {wl : Addr} {ws : List Value} {wn : List Int} {e1 : Nat}
  (F : Fr b b.objs.size s.heap (fun y => if y = Str.ofString "weak" then some (.ref wl) else u y))
  (N : News b b.objs.size s.heap [(wl, PySem.W.listOf ws.toArray e1), (nl, PySem.W.listOf [Value.ref a0, Value.ref a1, Value.ref a2, Value.ref a3, Value.ref a4, Value.ref a5].toArray e2), (a5, o5), (a4, o4), (a3, o3), (a2, o2), (a1, o1), (a0, o0), (hl, PySem.W.listOf [Value.ref a0, Value.ref a1, Value.ref a2, Value.ref a3, Value.ref a4, Value.ref a5].toArray e6), (lf, lo), (lel, PySem.W.listOf lev.toArray e3), (ml, PySem.W.listOf mv.toArray e4), (onl, PySem.W.listOf onv.toArray e5), (b.objs.size + 1 + 1 + 1 + 1 + 1 + 1, cn), (b.objs.size + 1 + 1 + 1 + 1 + 1, cd), (b.objs.size + 1 + 1 + 1 + 1, cm), (b.objs.size + 1 + 1 + 1, ct), (b.objs.size + 1 + 1, ck), (b.objs.size + 1, co), (i1, it1), (i2, it2)])
  (hcd : cd.data = .cell (some (.int need t1))) (hck : ck.data = .cell (some (.int net t2))) (hct : ct.data = .cell (some (.int tells t3))) (hcm : cm.data = .cell (some (.ref ml))) (hco : co.data = .cell (some (.ref onl))) (hCR : b.CodeRec (.ref c) (Str.ofString "law")) (hrow : Challenge.rw_km0070_01.foot = 3) (hI : IntsAre ws wn) (hne : 0 < wn.length) (hsz : wn.length ≤ 6) (hnn : 0 ≤ net + need) 
  (hQ : ∀ n t h tk, n ∈ wn → Fr b b.objs.size h (fun y => if y = Str.ofString "gone" then some (.int n t) else if y = Str.ofString "weak" then some (.ref wl) else u y) → News b b.objs.size h [(nl, PySem.W.listOf [Value.ref a0, Value.ref a1, Value.ref a2, Value.ref a3, Value.ref a4, Value.ref a5].toArray e2), (a5, o5), (a4, o4), (a3, o3), (a2, o2), (a1, o1), (a0, o0), (hl, PySem.W.listOf [Value.ref a0, Value.ref a1, Value.ref a2, Value.ref a3, Value.ref a4, Value.ref a5].toArray e6), (lf, lo), (lel, PySem.W.listOf lev.toArray e3), (ml, PySem.W.listOf mv.toArray e4), (onl, PySem.W.listOf onv.toArray e5), (b.objs.size + 1 + 1 + 1 + 1 + 1 + 1, cn), (b.objs.size + 1 + 1 + 1 + 1 + 1, cd), (b.objs.size + 1 + 1 + 1 + 1, cm), (b.objs.size + 1 + 1 + 1, ct), (b.objs.size + 1 + 1, ck), (b.objs.size + 1, co), (i1, it1), (i2, it2)] → Q .next { s with heap := h, toks := tk })
  : wpAny (model Challenge.rw_km0070_01.row.prog w) (callerA.deeper (envOfC (Str.ofString "law") lawScope b.objs.size fa (.ref c))) (exec (fst1 (bodyOf whileSt)) (envOfC (Str.ofString "law") lawScope b.objs.size fa (.ref c))) Q (fun _ _ => False) s := by
  obtain ⟨KX, T, GL, B0⟩ := S
  dsimp only [whileSt, lawScope, scopeOf, forNeed, forNet, lawDef, bodyOf, PySem.Challenge.pw_km0070_01, tl, fst1]
  revert KX
  k_fill
  intro KX
  k_steps
  rename_i t' h' F' N'
  refine hQ _ _ _ _ ?_ F' (fun p hp => N' p (List.mem_cons_of_mem _ hp))
  exact getD_in hne
theorem leftS {w : World} {s₀ s : Shared} {b : Heap} {mg mb : Str → Option Value} (S : Stat w s₀ b mg mb) {fa c : Addr} {u : Str → Option Value} {cn cd cm ct ck co : Obj} {net need tells : Int} {t1 t2 t3 : Tok} {lel ml onl i1 i2 : Addr} {it1 it2 : Obj} {lev mv onv : List Value} {e3 e4 e5 : Nat} {Q : Flow → Shared → Prop} {nl hl lf a0 a1 a2 a3 a4 a5 : Addr} {lo o0 o1 o2 o3 o4 o5 : Obj} {M : Nat} {e2 e6 : Nat} {g : Nat} {tg : Tok}
  (F : Fr b b.objs.size s.heap (fun y => if y = Str.ofString "gone" then some (.int (g : Int) tg) else if y = Str.ofString "left" then some (.ref lf) else u y))
  (N : News b b.objs.size s.heap [(nl, PySem.W.listOf [Value.ref a0, Value.ref a1, Value.ref a2, Value.ref a3, Value.ref a4, Value.ref a5].toArray e2), (a5, o5), (a4, o4), (a3, o3), (a2, o2), (a1, o1), (a0, o0), (hl, PySem.W.listOf [Value.ref a0, Value.ref a1, Value.ref a2, Value.ref a3, Value.ref a4, Value.ref a5].toArray e6), (lf, lo), (lel, PySem.W.listOf lev.toArray e3), (ml, PySem.W.listOf mv.toArray e4), (onl, PySem.W.listOf onv.toArray e5), (b.objs.size + 1 + 1 + 1 + 1 + 1 + 1, cn), (b.objs.size + 1 + 1 + 1 + 1 + 1, cd), (b.objs.size + 1 + 1 + 1 + 1, cm), (b.objs.size + 1 + 1 + 1, ct), (b.objs.size + 1 + 1, ck), (b.objs.size + 1, co), (i1, it1), (i2, it2)]) (hg : g < 6) (hlo : SetO w false "set" M lo)
  (hcd : cd.data = .cell (some (.int need t1))) (hck : ck.data = .cell (some (.int net t2))) (hct : ct.data = .cell (some (.int tells t3))) (hcm : cm.data = .cell (some (.ref ml))) (hco : co.data = .cell (some (.ref onl))) (conl2 : onl ≠ b.objs.size + 1 + 1) (conl3 : onl ≠ b.objs.size + 1 + 1 + 1) (conl4 : onl ≠ b.objs.size + 1 + 1 + 1 + 1) (conl5 : onl ≠ b.objs.size + 1 + 1 + 1 + 1 + 1) (conl6 : onl ≠ b.objs.size + 1 + 1 + 1 + 1 + 1 + 1) (cml2 : ml ≠ b.objs.size + 1 + 1) (cml3 : ml ≠ b.objs.size + 1 + 1 + 1) (cml4 : ml ≠ b.objs.size + 1 + 1 + 1 + 1) (cml5 : ml ≠ b.objs.size + 1 + 1 + 1 + 1 + 1) (cml6 : ml ≠ b.objs.size + 1 + 1 + 1 + 1 + 1 + 1) (clel2 : lel ≠ b.objs.size + 1 + 1) (clel3 : lel ≠ b.objs.size + 1 + 1 + 1) (clel4 : lel ≠ b.objs.size + 1 + 1 + 1 + 1) (clel5 : lel ≠ b.objs.size + 1 + 1 + 1 + 1 + 1) (clel6 : lel ≠ b.objs.size + 1 + 1 + 1 + 1 + 1 + 1) (k1 : b.objs.size + 1 + 1 + 1 + 1 + 1 + 1 < i1) (k2 : b.objs.size + 1 + 1 + 1 + 1 + 1 + 1 < i2) (h10 : b.objs.size + 1 + 1 + 1 + 1 + 1 + 1 < lf) (h11 : @LT.lt Nat _ ml lf) (h12 : @LT.lt Nat _ onl lf) (h13 : @LT.lt Nat _ lel lf) (hi1 : @LT.lt Nat _ i1 lf) (hi2 : @LT.lt Nat _ i2 lf) (h14 : @LT.lt Nat _ lf a0) (h15 : @LT.lt Nat _ hl nl) (h16 : @LT.lt Nat _ a0 a1) (h17 : @LT.lt Nat _ a1 a2) (h18 : @LT.lt Nat _ a2 a3) (h19 : @LT.lt Nat _ a3 a4) (h20 : @LT.lt Nat _ a4 a5) (h21 : @LT.lt Nat _ a5 nl) (n0 : hl ≠ a0) (n1 : hl ≠ a1) (n2 : hl ≠ a2) (n3 : hl ≠ a3) (n4 : hl ≠ a4) (n5 : hl ≠ a5) (n6 : hl ≠ lf) (hCR : b.CodeRec (.ref c) (Str.ofString "law")) (hrow : Challenge.rw_km0070_01.foot = 3) 
  (hQ : ∀ lo' h tk, SetO w false "set" (sub M (2 ^ g)) lo' → Fr b b.objs.size h (fun y => if y = Str.ofString "left" then some (.ref lf) else if y = Str.ofString "gone" then some (.int (g : Int) tg) else if y = Str.ofString "left" then some (.ref lf) else u y) → News b b.objs.size h [(nl, PySem.W.listOf [Value.ref a0, Value.ref a1, Value.ref a2, Value.ref a3, Value.ref a4, Value.ref a5].toArray e2), (a5, o5), (a4, o4), (a3, o3), (a2, o2), (a1, o1), (a0, o0), (hl, PySem.W.listOf [Value.ref a0, Value.ref a1, Value.ref a2, Value.ref a3, Value.ref a4, Value.ref a5].toArray e6), (lf, lo'), (lel, PySem.W.listOf lev.toArray e3), (ml, PySem.W.listOf mv.toArray e4), (onl, PySem.W.listOf onv.toArray e5), (b.objs.size + 1 + 1 + 1 + 1 + 1 + 1, cn), (b.objs.size + 1 + 1 + 1 + 1 + 1, cd), (b.objs.size + 1 + 1 + 1 + 1, cm), (b.objs.size + 1 + 1 + 1, ct), (b.objs.size + 1 + 1, ck), (b.objs.size + 1, co), (i1, it1), (i2, it2)] → Q .next { s with heap := h, toks := tk })
  : wpAny (model Challenge.rw_km0070_01.row.prog w) (callerA.deeper (envOfC (Str.ofString "law") lawScope b.objs.size fa (.ref c))) (exec (fst1 (tl (bodyOf whileSt))) (envOfC (Str.ofString "law") lawScope b.objs.size fa (.ref c))) Q (fun _ _ => False) s := by
  obtain ⟨KX, T, GL, B0⟩ := S
  dsimp only [whileSt, lawScope, scopeOf, forNeed, forNet, lawDef, bodyOf, PySem.Challenge.pw_km0070_01, tl, fst1]
  revert KX
  k_fill
  intro KX
  k_steps
  rename SetO w false "set" (sub M (2 ^ g)) _ => hS
  rename Fr b _ _ _ => F9
  rename News b _ _ _ => N9
  exact hQ _ _ _ hS F9 (fun p hp => N9 p (List.mem_cons_of_mem _ hp))
end Mine

end
theorem Mine.flWG : True := by first | (row_walk; done) | (walk1; done) | trivial
section
open PySem PySem.W PyProof.Rows
set_option Elab.async false
set_option linter.unusedVariables false
namespace Mine
set_option maxRecDepth 100000
set_option maxHeartbeats 8000000

theorem Fr_congr {h₀ h : Heap} {L : Addr} {m m' : Str → Option Value} (F : Fr h₀ L h m) (e : m = m') : Fr h₀ L h m' := e ▸ F
theorem map_i {x : Str} {v : Option Value} {u : Str → Option Value} (hx : x ≠ Str.ofString "i") : (fun y => if y = x then v else u y) = (fun y => if y = Str.ofString "i" then u (Str.ofString "i") else if y = x then v else u y) := by
  funext y
  by_cases h : y = Str.ofString "i"
  · subst h; rw [if_neg (Ne.symm hx), if_pos rfl]
  · rw [if_neg h]
theorem map_ii {x : Str} {v v' : Option Value} {u : Str → Option Value} : (fun y => if y = x then v else if y = x then v' else u y) = (fun y => if y = x then v else u y) := by
  funext y
  by_cases h : y = x
  · rw [if_pos h, if_pos h]
  · rw [if_neg h, if_neg h, if_neg h]
theorem forS {w : World} {s₀ s : Shared} {b : Heap} {mg mb : Str → Option Value} (S : Stat w s₀ b mg mb) {fa c : Addr} {u : Str → Option Value} {cn cd cm ct ck co : Obj} {net need tells : Int} {t1 t2 t3 : Tok} {lel ml onl i1 i2 : Addr} {it1 it2 : Obj} {lev mv onv : List Value} {e3 e4 e5 : Nat} {Q : Flow → Shared → Prop} {nl hl lf a0 a1 a2 a3 a4 a5 : Addr} {lo o0 o1 o2 o3 o4 o5 : Obj} {M : Nat} {k : Nat → Nat} {e2 e6 : Nat} {g : Nat} {tg : Tok}
  (F : Fr b b.objs.size s.heap (fun y => if y = Str.ofString "gone" then some (.int (g : Int) tg) else u y))
  (N : News b b.objs.size s.heap [(nl, PySem.W.listOf [Value.ref a0, Value.ref a1, Value.ref a2, Value.ref a3, Value.ref a4, Value.ref a5].toArray e2), (a5, o5), (a4, o4), (a3, o3), (a2, o2), (a1, o1), (a0, o0), (hl, PySem.W.listOf [Value.ref a0, Value.ref a1, Value.ref a2, Value.ref a3, Value.ref a4, Value.ref a5].toArray e6), (lf, lo), (lel, PySem.W.listOf lev.toArray e3), (ml, PySem.W.listOf mv.toArray e4), (onl, PySem.W.listOf onv.toArray e5), (b.objs.size + 1 + 1 + 1 + 1 + 1 + 1, cn), (b.objs.size + 1 + 1 + 1 + 1 + 1, cd), (b.objs.size + 1 + 1 + 1 + 1, cm), (b.objs.size + 1 + 1 + 1, ct), (b.objs.size + 1 + 1, ck), (b.objs.size + 1, co), (i1, it1), (i2, it2)]) (hg : g < 6) 
  (hcd : cd.data = .cell (some (.int need t1))) (hck : ck.data = .cell (some (.int net t2))) (hct : ct.data = .cell (some (.int tells t3))) (hcm : cm.data = .cell (some (.ref ml))) (hco : co.data = .cell (some (.ref onl))) (hcn : cn.data = .cell (some (.ref nl))) (hlo : SetO w false "set" M lo) (q0 : SetO w false "set" (k 0) o0) (q1 : SetO w false "set" (k 1) o1) (q2 : SetO w false "set" (k 2) o2) (q3 : SetO w false "set" (k 3) o3) (q4 : SetO w false "set" (k 4) o4) (q5 : SetO w false "set" (k 5) o5) (conl2 : onl ≠ b.objs.size + 1 + 1) (conl3 : onl ≠ b.objs.size + 1 + 1 + 1) (conl4 : onl ≠ b.objs.size + 1 + 1 + 1 + 1) (conl5 : onl ≠ b.objs.size + 1 + 1 + 1 + 1 + 1) (conl6 : onl ≠ b.objs.size + 1 + 1 + 1 + 1 + 1 + 1) (cml2 : ml ≠ b.objs.size + 1 + 1) (cml3 : ml ≠ b.objs.size + 1 + 1 + 1) (cml4 : ml ≠ b.objs.size + 1 + 1 + 1 + 1) (cml5 : ml ≠ b.objs.size + 1 + 1 + 1 + 1 + 1) (cml6 : ml ≠ b.objs.size + 1 + 1 + 1 + 1 + 1 + 1) (clel2 : lel ≠ b.objs.size + 1 + 1) (clel3 : lel ≠ b.objs.size + 1 + 1 + 1) (clel4 : lel ≠ b.objs.size + 1 + 1 + 1 + 1) (clel5 : lel ≠ b.objs.size + 1 + 1 + 1 + 1 + 1) (clel6 : lel ≠ b.objs.size + 1 + 1 + 1 + 1 + 1 + 1) (k1 : b.objs.size + 1 + 1 + 1 + 1 + 1 + 1 < i1) (k2 : b.objs.size + 1 + 1 + 1 + 1 + 1 + 1 < i2) (h10 : b.objs.size + 1 + 1 + 1 + 1 + 1 + 1 < lf) (h11 : @LT.lt Nat _ ml lf) (h12 : @LT.lt Nat _ onl lf) (h13 : @LT.lt Nat _ lel lf) (hi1 : @LT.lt Nat _ i1 lf) (hi2 : @LT.lt Nat _ i2 lf) (h14 : @LT.lt Nat _ lf a0) (h15 : @LT.lt Nat _ hl nl) (h16 : @LT.lt Nat _ a0 a1) (h17 : @LT.lt Nat _ a1 a2) (h18 : @LT.lt Nat _ a2 a3) (h19 : @LT.lt Nat _ a3 a4) (h20 : @LT.lt Nat _ a4 a5) (h21 : @LT.lt Nat _ a5 nl) (n0 : hl ≠ a0) (n1 : hl ≠ a1) (n2 : hl ≠ a2) (n3 : hl ≠ a3) (n4 : hl ≠ a4) (n5 : hl ≠ a5) (n6 : hl ≠ lf) (hCR : b.CodeRec (.ref c) (Str.ofString "law")) (hrow : Challenge.rw_km0070_01.foot = 3) 
  (hQ : ∀ iv p0 p1 p2 p3 p4 p5 h tk, SetO w false "set" (sub (k 0) (2 ^ g)) p0 → SetO w false "set" (sub (k 1) (2 ^ g)) p1 → SetO w false "set" (sub (k 2) (2 ^ g)) p2 → SetO w false "set" (sub (k 3) (2 ^ g)) p3 → SetO w false "set" (sub (k 4) (2 ^ g)) p4 → SetO w false "set" (sub (k 5) (2 ^ g)) p5 → Fr b b.objs.size h (fun y => if y = Str.ofString "i" then iv else if y = Str.ofString "gone" then some (.int (g : Int) tg) else u y) → News b b.objs.size h [(nl, PySem.W.listOf [Value.ref a0, Value.ref a1, Value.ref a2, Value.ref a3, Value.ref a4, Value.ref a5].toArray e2), (a5, p5), (a4, p4), (a3, p3), (a2, p2), (a1, p1), (a0, p0), (hl, PySem.W.listOf [Value.ref a0, Value.ref a1, Value.ref a2, Value.ref a3, Value.ref a4, Value.ref a5].toArray e6), (lf, lo), (lel, PySem.W.listOf lev.toArray e3), (ml, PySem.W.listOf mv.toArray e4), (onl, PySem.W.listOf onv.toArray e5), (b.objs.size + 1 + 1 + 1 + 1 + 1 + 1, cn), (b.objs.size + 1 + 1 + 1 + 1 + 1, cd), (b.objs.size + 1 + 1 + 1 + 1, cm), (b.objs.size + 1 + 1 + 1, ct), (b.objs.size + 1 + 1, ck), (b.objs.size + 1, co), (i1, it1), (i2, it2)] → Q .next { s with heap := h, toks := tk })
  : wpAny (model Challenge.rw_km0070_01.row.prog w) (callerA.deeper (envOfC (Str.ofString "law") lawScope b.objs.size fa (.ref c))) (exec (fst1 (tl (tl (bodyOf whileSt)))) (envOfC (Str.ofString "law") lawScope b.objs.size fa (.ref c))) Q (fun _ _ => False) s := by
  obtain ⟨KX, T, GL, B0⟩ := S
  dsimp only [whileSt, lawScope, scopeOf, forNeed, forNet, lawDef, bodyOf, PySem.Challenge.pw_km0070_01, tl, fst1]
  revert KX
  k_fill
  intro KX
  k_dflt (refine For_J (h₀ := b) (L := b.objs.size) ?_)
  k_steps
  rename Fr b _ _ _ => F'
  rename News b _ _ _ => N'
  rename IsRange _ _ _ _ _ _ _ _ => R'
  refine ⟨_, _, _, _, _, _, 6, _, _, (fun i m news => ∃ iv p0 p1 p2 p3 p4 p5, m = (fun y => if y = Str.ofString "i" then iv else if y = Str.ofString "gone" then some (.int (g : Int) tg) else u y) ∧ news = [(nl, PySem.W.listOf [Value.ref a0, Value.ref a1, Value.ref a2, Value.ref a3, Value.ref a4, Value.ref a5].toArray e2), (a5, p5), (a4, p4), (a3, p3), (a2, p2), (a1, p1), (a0, p0), (hl, PySem.W.listOf [Value.ref a0, Value.ref a1, Value.ref a2, Value.ref a3, Value.ref a4, Value.ref a5].toArray e6), (lf, lo), (lel, PySem.W.listOf lev.toArray e3), (ml, PySem.W.listOf mv.toArray e4), (onl, PySem.W.listOf onv.toArray e5), (b.objs.size + 1 + 1 + 1 + 1 + 1 + 1, cn), (b.objs.size + 1 + 1 + 1 + 1 + 1, cd), (b.objs.size + 1 + 1 + 1 + 1, cm), (b.objs.size + 1 + 1 + 1, ct), (b.objs.size + 1 + 1, ck), (b.objs.size + 1, co), (i1, it1), (i2, it2)] ∧ SetO w false "set" (if 0 < i then sub (k 0) (2 ^ g) else k 0) p0 ∧ SetO w false "set" (if 1 < i then sub (k 1) (2 ^ g) else k 1) p1 ∧ SetO w false "set" (if 2 < i then sub (k 2) (2 ^ g) else k 2) p2 ∧ SetO w false "set" (if 3 < i then sub (k 3) (2 ^ g) else k 3) p3 ∧ SetO w false "set" (if 4 < i then sub (k 4) (2 ^ g) else k 4) p4 ∧ SetO w false "set" (if 5 < i then sub (k 5) (2 ^ g) else k 5) p5), rfl, rfl, F', N', R', by decide, by decide, ⟨_, _, _, _, _, _, _, map_i (by decide), rfl, q0, q1, q2, q3, q4, q5⟩, ?turn, ?done⟩
  case done =>
    rintro h tk m₁ news₁ ⟨iv, p0, p1, p2, p3, p4, p5, rfl, rfl, r0, r1, r2, r3, r4, r5⟩ F₁ N₁
    exact hQ iv p0 p1 p2 p3 p4 p5 h _ r0 r1 r2 r3 r4 r5 F₁ N₁
  case turn =>
    clear F' N' R' hQ q0 q1 q2 q3 q4 q5
    rintro i tk₀ I oI h tk m₁ news₁ hi6 hI ⟨iv, p0, p1, p2, p3, p4, p5, rfl, rfl, r0, r1, r2, r3, r4, r5⟩ F₁ N₁ off
    have off' : ∀ a ∈ ([(nl, PySem.W.listOf [Value.ref a0, Value.ref a1, Value.ref a2, Value.ref a3, Value.ref a4, Value.ref a5].toArray e2), (a5, p5), (a4, p4), (a3, p3), (a2, p2), (a1, p1), (a0, p0), (hl, PySem.W.listOf [Value.ref a0, Value.ref a1, Value.ref a2, Value.ref a3, Value.ref a4, Value.ref a5].toArray e6), (lf, lo), (lel, PySem.W.listOf lev.toArray e3), (ml, PySem.W.listOf mv.toArray e4), (onl, PySem.W.listOf onv.toArray e5), (b.objs.size + 1 + 1 + 1 + 1 + 1 + 1, cn), (b.objs.size + 1 + 1 + 1 + 1 + 1, cd), (b.objs.size + 1 + 1 + 1 + 1, cm), (b.objs.size + 1 + 1 + 1, ct), (b.objs.size + 1 + 1, ck), (b.objs.size + 1, co), (i1, it1), (i2, it2)]).map Prod.fst, a ≠ I := fun a ha => by
      obtain ⟨p, hp, rfl⟩ := List.mem_map.mp ha
      exact off p hp
    have hnlI : @LT.lt Nat _ nl I := hI _ List.mem_cons_self
    clear off hI
    have hcase : i = 0 ∨ i = 1 ∨ i = 2 ∨ i = 3 ∨ i = 4 ∨ i = 5 := by omega
    rcases hcase with rfl | rfl | rfl | rfl | rfl | rfl
    · change wpAny _ _ (storeName _ _ (.int 0 tk₀)) _ _ _
      k_steps
      rename SetO w false "set" (sub _ (2 ^ g)) _ => hS
      rename Fr b _ _ _ => F9
      rename News b _ _ _ => N9
      refine ⟨_, _, _, [(nl, PySem.W.listOf [Value.ref a0, Value.ref a1, Value.ref a2, Value.ref a3, Value.ref a4, Value.ref a5].toArray e2), (a5, p5), (a4, p4), (a3, p3), (a2, p2), (a1, p1), (a0, _), (hl, PySem.W.listOf [Value.ref a0, Value.ref a1, Value.ref a2, Value.ref a3, Value.ref a4, Value.ref a5].toArray e6), (lf, lo), (lel, PySem.W.listOf lev.toArray e3), (ml, PySem.W.listOf mv.toArray e4), (onl, PySem.W.listOf onv.toArray e5), (b.objs.size + 1 + 1 + 1 + 1 + 1 + 1, cn), (b.objs.size + 1 + 1 + 1 + 1 + 1, cd), (b.objs.size + 1 + 1 + 1 + 1, cm), (b.objs.size + 1 + 1 + 1, ct), (b.objs.size + 1 + 1, ck), (b.objs.size + 1, co), (i1, it1), (i2, it2)], rfl, Fr_congr F9 map_ii, fun p hp => N9 p (List.mem_cons_of_mem _ hp), fun p hp => off' p.1 (by have z := List.mem_map_of_mem (f := Prod.fst) hp; exact z), _, _, p1, p2, p3, p4, p5, rfl, rfl, hS, r1, r2, r3, r4, r5⟩
    · change wpAny _ _ (storeName _ _ (.int 1 tk₀)) _ _ _
      k_steps
      rename SetO w false "set" (sub _ (2 ^ g)) _ => hS
      rename Fr b _ _ _ => F9
      rename News b _ _ _ => N9
      refine ⟨_, _, _, [(nl, PySem.W.listOf [Value.ref a0, Value.ref a1, Value.ref a2, Value.ref a3, Value.ref a4, Value.ref a5].toArray e2), (a5, p5), (a4, p4), (a3, p3), (a2, p2), (a1, _), (a0, p0), (hl, PySem.W.listOf [Value.ref a0, Value.ref a1, Value.ref a2, Value.ref a3, Value.ref a4, Value.ref a5].toArray e6), (lf, lo), (lel, PySem.W.listOf lev.toArray e3), (ml, PySem.W.listOf mv.toArray e4), (onl, PySem.W.listOf onv.toArray e5), (b.objs.size + 1 + 1 + 1 + 1 + 1 + 1, cn), (b.objs.size + 1 + 1 + 1 + 1 + 1, cd), (b.objs.size + 1 + 1 + 1 + 1, cm), (b.objs.size + 1 + 1 + 1, ct), (b.objs.size + 1 + 1, ck), (b.objs.size + 1, co), (i1, it1), (i2, it2)], rfl, Fr_congr F9 map_ii, fun p hp => N9 p (List.mem_cons_of_mem _ hp), fun p hp => off' p.1 (by have z := List.mem_map_of_mem (f := Prod.fst) hp; exact z), _, p0, _, p2, p3, p4, p5, rfl, rfl, r0, hS, r2, r3, r4, r5⟩
    · change wpAny _ _ (storeName _ _ (.int 2 tk₀)) _ _ _
      k_steps
      rename SetO w false "set" (sub _ (2 ^ g)) _ => hS
      rename Fr b _ _ _ => F9
      rename News b _ _ _ => N9
      refine ⟨_, _, _, [(nl, PySem.W.listOf [Value.ref a0, Value.ref a1, Value.ref a2, Value.ref a3, Value.ref a4, Value.ref a5].toArray e2), (a5, p5), (a4, p4), (a3, p3), (a2, _), (a1, p1), (a0, p0), (hl, PySem.W.listOf [Value.ref a0, Value.ref a1, Value.ref a2, Value.ref a3, Value.ref a4, Value.ref a5].toArray e6), (lf, lo), (lel, PySem.W.listOf lev.toArray e3), (ml, PySem.W.listOf mv.toArray e4), (onl, PySem.W.listOf onv.toArray e5), (b.objs.size + 1 + 1 + 1 + 1 + 1 + 1, cn), (b.objs.size + 1 + 1 + 1 + 1 + 1, cd), (b.objs.size + 1 + 1 + 1 + 1, cm), (b.objs.size + 1 + 1 + 1, ct), (b.objs.size + 1 + 1, ck), (b.objs.size + 1, co), (i1, it1), (i2, it2)], rfl, Fr_congr F9 map_ii, fun p hp => N9 p (List.mem_cons_of_mem _ hp), fun p hp => off' p.1 (by have z := List.mem_map_of_mem (f := Prod.fst) hp; exact z), _, p0, p1, _, p3, p4, p5, rfl, rfl, r0, r1, hS, r3, r4, r5⟩
    · change wpAny _ _ (storeName _ _ (.int 3 tk₀)) _ _ _
      k_steps
      rename SetO w false "set" (sub _ (2 ^ g)) _ => hS
      rename Fr b _ _ _ => F9
      rename News b _ _ _ => N9
      refine ⟨_, _, _, [(nl, PySem.W.listOf [Value.ref a0, Value.ref a1, Value.ref a2, Value.ref a3, Value.ref a4, Value.ref a5].toArray e2), (a5, p5), (a4, p4), (a3, _), (a2, p2), (a1, p1), (a0, p0), (hl, PySem.W.listOf [Value.ref a0, Value.ref a1, Value.ref a2, Value.ref a3, Value.ref a4, Value.ref a5].toArray e6), (lf, lo), (lel, PySem.W.listOf lev.toArray e3), (ml, PySem.W.listOf mv.toArray e4), (onl, PySem.W.listOf onv.toArray e5), (b.objs.size + 1 + 1 + 1 + 1 + 1 + 1, cn), (b.objs.size + 1 + 1 + 1 + 1 + 1, cd), (b.objs.size + 1 + 1 + 1 + 1, cm), (b.objs.size + 1 + 1 + 1, ct), (b.objs.size + 1 + 1, ck), (b.objs.size + 1, co), (i1, it1), (i2, it2)], rfl, Fr_congr F9 map_ii, fun p hp => N9 p (List.mem_cons_of_mem _ hp), fun p hp => off' p.1 (by have z := List.mem_map_of_mem (f := Prod.fst) hp; exact z), _, p0, p1, p2, _, p4, p5, rfl, rfl, r0, r1, r2, hS, r4, r5⟩
    · change wpAny _ _ (storeName _ _ (.int 4 tk₀)) _ _ _
      k_steps
      rename SetO w false "set" (sub _ (2 ^ g)) _ => hS
      rename Fr b _ _ _ => F9
      rename News b _ _ _ => N9
      refine ⟨_, _, _, [(nl, PySem.W.listOf [Value.ref a0, Value.ref a1, Value.ref a2, Value.ref a3, Value.ref a4, Value.ref a5].toArray e2), (a5, p5), (a4, _), (a3, p3), (a2, p2), (a1, p1), (a0, p0), (hl, PySem.W.listOf [Value.ref a0, Value.ref a1, Value.ref a2, Value.ref a3, Value.ref a4, Value.ref a5].toArray e6), (lf, lo), (lel, PySem.W.listOf lev.toArray e3), (ml, PySem.W.listOf mv.toArray e4), (onl, PySem.W.listOf onv.toArray e5), (b.objs.size + 1 + 1 + 1 + 1 + 1 + 1, cn), (b.objs.size + 1 + 1 + 1 + 1 + 1, cd), (b.objs.size + 1 + 1 + 1 + 1, cm), (b.objs.size + 1 + 1 + 1, ct), (b.objs.size + 1 + 1, ck), (b.objs.size + 1, co), (i1, it1), (i2, it2)], rfl, Fr_congr F9 map_ii, fun p hp => N9 p (List.mem_cons_of_mem _ hp), fun p hp => off' p.1 (by have z := List.mem_map_of_mem (f := Prod.fst) hp; exact z), _, p0, p1, p2, p3, _, p5, rfl, rfl, r0, r1, r2, r3, hS, r5⟩
    · change wpAny _ _ (storeName _ _ (.int 5 tk₀)) _ _ _
      k_steps
      rename SetO w false "set" (sub _ (2 ^ g)) _ => hS
      rename Fr b _ _ _ => F9
      rename News b _ _ _ => N9
      refine ⟨_, _, _, [(nl, PySem.W.listOf [Value.ref a0, Value.ref a1, Value.ref a2, Value.ref a3, Value.ref a4, Value.ref a5].toArray e2), (a5, _), (a4, p4), (a3, p3), (a2, p2), (a1, p1), (a0, p0), (hl, PySem.W.listOf [Value.ref a0, Value.ref a1, Value.ref a2, Value.ref a3, Value.ref a4, Value.ref a5].toArray e6), (lf, lo), (lel, PySem.W.listOf lev.toArray e3), (ml, PySem.W.listOf mv.toArray e4), (onl, PySem.W.listOf onv.toArray e5), (b.objs.size + 1 + 1 + 1 + 1 + 1 + 1, cn), (b.objs.size + 1 + 1 + 1 + 1 + 1, cd), (b.objs.size + 1 + 1 + 1 + 1, cm), (b.objs.size + 1 + 1 + 1, ct), (b.objs.size + 1 + 1, ck), (b.objs.size + 1, co), (i1, it1), (i2, it2)], rfl, Fr_congr F9 map_ii, fun p hp => N9 p (List.mem_cons_of_mem _ hp), fun p hp => off' p.1 (by have z := List.mem_map_of_mem (f := Prod.fst) hp; exact z), _, p0, p1, p2, p3, p4, _, rfl, rfl, r0, r1, r2, r3, r4, hS⟩
end Mine

end
theorem Mine.flWF : True := by first | (row_walk; done) | (walk1; done) | trivial
section
open PySem PySem.W PyProof.Rows
set_option Elab.async false
set_option linter.unusedVariables false
namespace Mine
set_option maxRecDepth 100000
set_option maxHeartbeats 8000000

def testOf : Stmt → PySem.Expr
  | .While t _ _ _ => t
  | .If t _ _ _ => t
  | _ => default
def posOf : Stmt → Pos
  | .While _ _ _ p => p
  | _ => default
theorem while_eq : whileSt = .While (testOf whileSt) (bodyOf whileSt) [] (posOf whileSt) := rfl
theorem whileBody_eq : bodyOf whileSt = [(fst1 (bodyOf whileSt)), (fst1 (tl (bodyOf whileSt))), (fst1 (tl (tl (bodyOf whileSt)))), (fst1 (tl (tl (tl (bodyOf whileSt)))))] := rfl
theorem testS {w : World} {s₀ s : Shared} {b : Heap} {mg mb : Str → Option Value} (S : Stat w s₀ b mg mb) {fa c : Addr} {u : Str → Option Value}  {Q : Bool → Shared → Prop} {wl : Addr} {ws : List Value} {wn : List Int} {e1 : Nat}
  (F : Fr b b.objs.size s.heap (fun y => if y = Str.ofString "weak" then some (.ref wl) else u y))
  (N : News b b.objs.size s.heap [(wl, PySem.W.listOf ws.toArray e1)])
  (hCR : b.CodeRec (.ref c) (Str.ofString "law")) (hrow : Challenge.rw_km0070_01.foot = 3) (hI : IntsAre ws wn) (hsz : wn.length ≤ 6)
  (hQ : ∀ tk, Q (decide (0 < wn.length)) { s with toks := tk })
  : wpAny (model Challenge.rw_km0070_01.row.prog w) (callerA.deeper (envOfC (Str.ofString "law") lawScope b.objs.size fa (.ref c))) (isTrue (testOf whileSt) (envOfC (Str.ofString "law") lawScope b.objs.size fa (.ref c)) (eval (testOf whileSt) (envOfC (Str.ofString "law") lawScope b.objs.size fa (.ref c)))) Q (fun _ _ => False) s := by
  obtain ⟨KX, T, GL, B0⟩ := S
  dsimp only [testOf, whileSt, lawScope, scopeOf, forNeed, forNet, lawDef, bodyOf, PySem.Challenge.pw_km0070_01, tl, fst1]
  revert KX
  k_fill
  intro KX
  k_steps
  exact hQ _
end Mine

end
theorem Mine.flWT : True := by first | (row_walk; done) | (walk1; done) | trivial
section
open PySem PySem.W PyProof.Rows
set_option Elab.async false
set_option linter.unusedVariables false
namespace Mine
set_option maxRecDepth 100000
set_option maxHeartbeats 8000000

theorem map_at {m : Str → Option Value} {x : Str} {v : Option Value} (h : m x = v) : m = fun y => if y = x then v else m y := by
  funext y
  by_cases e : y = x
  · rw [if_pos e, e, h]
  · rw [if_neg e]
theorem map_at2 {m : Str → Option Value} {x x₂ : Str} {v v₂ : Option Value} (h : m x = v) (h₂ : m x₂ = v₂) : m = fun y => if y = x then v else if y = x₂ then v₂ else m y := by
  funext y
  by_cases e : y = x
  · rw [if_pos e, e, h]
  · by_cases e₂ : y = x₂
    · rw [if_neg e, if_pos e₂, e₂, h₂]
    · rw [if_neg e, if_neg e₂]
theorem weak_len {need : Int} {M : Nat} {k : Nat → Nat} : (weakOf need M k).length ≤ 6 := by
  unfold weakOf
  refine Nat.le_trans (List.length_filter_le _ _) ?_
  unfold ipts
  rw [List.length_map]
  exact pts_len M
theorem weak_mem {need n : Int} {M : Nat} {k : Nat → Nat} (h : n ∈ weakOf need M k) : ∃ g : Nat, g < 6 ∧ n = (g : Int) ∧ M.testBit g = true ∧ ((pts (k g)).length : Int) < need := by
  have h' := List.mem_filter.mp h
  obtain ⟨g, hg, rfl, hb⟩ := mem_ipts.mp h'.1
  exact ⟨g, hg, rfl, hb, of_decide_eq_true h'.2⟩
theorem whileS {w : World} {s₀ s : Shared} {b : Heap} {mg mb : Str → Option Value} (S : Stat w s₀ b mg mb) {fa c : Addr} {u : Str → Option Value} {cn cd cm ct ck co : Obj} {net need tells : Int} {t1 t2 t3 : Tok} {lel ml onl i1 i2 : Addr} {it1 it2 : Obj} {lev mv onv : List Value} {e3 e4 e5 : Nat} {Q : Flow → Shared → Prop} {nl hl lf a0 a1 a2 a3 a4 a5 : Addr} {lo o0 o1 o2 o3 o4 o5 : Obj} {M : Nat} {K : Nat → Nat} {e2 e6 : Nat} {wl : Addr} {ws : List Value} {e1 : Nat} {m : Str → Option Value} {P : Nat → Prop}
  (F : Fr b b.objs.size s.heap m) (hlf : m (Str.ofString "left") = some (.ref lf)) (hw : m (Str.ofString "weak") = some (.ref wl))
  (N : News b b.objs.size s.heap [(wl, PySem.W.listOf ws.toArray e1), (nl, PySem.W.listOf [Value.ref a0, Value.ref a1, Value.ref a2, Value.ref a3, Value.ref a4, Value.ref a5].toArray e2), (a5, o5), (a4, o4), (a3, o3), (a2, o2), (a1, o1), (a0, o0), (hl, PySem.W.listOf [Value.ref a0, Value.ref a1, Value.ref a2, Value.ref a3, Value.ref a4, Value.ref a5].toArray e6), (lf, lo), (lel, PySem.W.listOf lev.toArray e3), (ml, PySem.W.listOf mv.toArray e4), (onl, PySem.W.listOf onv.toArray e5), (b.objs.size + 1 + 1 + 1 + 1 + 1 + 1, cn), (b.objs.size + 1 + 1 + 1 + 1 + 1, cd), (b.objs.size + 1 + 1 + 1 + 1, cm), (b.objs.size + 1 + 1 + 1, ct), (b.objs.size + 1 + 1, ck), (b.objs.size + 1, co), (i1, it1), (i2, it2)])
  (hcd : cd.data = .cell (some (.int need t1))) (hck : ck.data = .cell (some (.int net t2))) (hct : ct.data = .cell (some (.int tells t3))) (hcm : cm.data = .cell (some (.ref ml))) (hco : co.data = .cell (some (.ref onl))) (hcn : cn.data = .cell (some (.ref nl))) (hlo : SetO w false "set" M lo) (q0 : SetO w false "set" (K 0 &&& M) o0) (q1 : SetO w false "set" (K 1 &&& M) o1) (q2 : SetO w false "set" (K 2 &&& M) o2) (q3 : SetO w false "set" (K 3 &&& M) o3) (q4 : SetO w false "set" (K 4 &&& M) o4) (q5 : SetO w false "set" (K 5 &&& M) o5) (conl2 : onl ≠ b.objs.size + 1 + 1) (conl3 : onl ≠ b.objs.size + 1 + 1 + 1) (conl4 : onl ≠ b.objs.size + 1 + 1 + 1 + 1) (conl5 : onl ≠ b.objs.size + 1 + 1 + 1 + 1 + 1) (conl6 : onl ≠ b.objs.size + 1 + 1 + 1 + 1 + 1 + 1) (cml2 : ml ≠ b.objs.size + 1 + 1) (cml3 : ml ≠ b.objs.size + 1 + 1 + 1) (cml4 : ml ≠ b.objs.size + 1 + 1 + 1 + 1) (cml5 : ml ≠ b.objs.size + 1 + 1 + 1 + 1 + 1) (cml6 : ml ≠ b.objs.size + 1 + 1 + 1 + 1 + 1 + 1) (clel2 : lel ≠ b.objs.size + 1 + 1) (clel3 : lel ≠ b.objs.size + 1 + 1 + 1) (clel4 : lel ≠ b.objs.size + 1 + 1 + 1 + 1) (clel5 : lel ≠ b.objs.size + 1 + 1 + 1 + 1 + 1) (clel6 : lel ≠ b.objs.size + 1 + 1 + 1 + 1 + 1 + 1) (k1 : b.objs.size + 1 + 1 + 1 + 1 + 1 + 1 < i1) (k2 : b.objs.size + 1 + 1 + 1 + 1 + 1 + 1 < i2) (h10 : b.objs.size + 1 + 1 + 1 + 1 + 1 + 1 < lf) (h11 : @LT.lt Nat _ ml lf) (h12 : @LT.lt Nat _ onl lf) (h13 : @LT.lt Nat _ lel lf) (hi1 : @LT.lt Nat _ i1 lf) (hi2 : @LT.lt Nat _ i2 lf) (h14 : @LT.lt Nat _ lf a0) (h15 : @LT.lt Nat _ hl nl) (h16 : @LT.lt Nat _ a0 a1) (h17 : @LT.lt Nat _ a1 a2) (h18 : @LT.lt Nat _ a2 a3) (h19 : @LT.lt Nat _ a3 a4) (h20 : @LT.lt Nat _ a4 a5) (h21 : @LT.lt Nat _ a5 nl) (n0 : hl ≠ a0) (n1 : hl ≠ a1) (n2 : hl ≠ a2) (n3 : hl ≠ a3) (n4 : hl ≠ a4) (n5 : hl ≠ a5) (n6 : hl ≠ lf) (hCR : b.CodeRec (.ref c) (Str.ofString "law")) (hrow : Challenge.rw_km0070_01.foot = 3)
  (hnn : 0 ≤ net + need) (hI : IntsAre ws (weakOf need M fun j => K j &&& M)) (hM : M < 64) (hK : ∀ j < 6, K j < 64) (hP : P M)
  (step : ∀ M g, M < 64 → P M → g < 6 → M.testBit g = true → ((pts (K g &&& M)).length : Int) < need → P (sub M (2 ^ g)))
  (hQ : ∀ M lo' p0 p1 p2 p3 p4 p5 m₁ h tk, M < 64 → P M → weakOf need M (fun j => K j &&& M) = [] → (∀ y, y ≠ Str.ofString "i" → y ≠ Str.ofString "gone" → y ≠ Str.ofString "weak" → m₁ y = m y) → SetO w false "set" M lo' → SetO w false "set" (K 0 &&& M) p0 → SetO w false "set" (K 1 &&& M) p1 → SetO w false "set" (K 2 &&& M) p2 → SetO w false "set" (K 3 &&& M) p3 → SetO w false "set" (K 4 &&& M) p4 → SetO w false "set" (K 5 &&& M) p5 → Fr b b.objs.size h m₁ → News b b.objs.size h [(nl, PySem.W.listOf [Value.ref a0, Value.ref a1, Value.ref a2, Value.ref a3, Value.ref a4, Value.ref a5].toArray e2), (a5, p5), (a4, p4), (a3, p3), (a2, p2), (a1, p1), (a0, p0), (hl, PySem.W.listOf [Value.ref a0, Value.ref a1, Value.ref a2, Value.ref a3, Value.ref a4, Value.ref a5].toArray e6), (lf, lo'), (lel, PySem.W.listOf lev.toArray e3), (ml, PySem.W.listOf mv.toArray e4), (onl, PySem.W.listOf onv.toArray e5), (b.objs.size + 1 + 1 + 1 + 1 + 1 + 1, cn), (b.objs.size + 1 + 1 + 1 + 1 + 1, cd), (b.objs.size + 1 + 1 + 1 + 1, cm), (b.objs.size + 1 + 1 + 1, ct), (b.objs.size + 1 + 1, ck), (b.objs.size + 1, co), (i1, it1), (i2, it2)] → Q .next { s with heap := h, toks := tk })
  : wpAny (model Challenge.rw_km0070_01.row.prog w) (callerA.deeper (envOfC (Str.ofString "law") lawScope b.objs.size fa (.ref c))) (exec whileSt (envOfC (Str.ofString "law") lawScope b.objs.size fa (.ref c))) Q (fun _ _ => False) s := by
  rw [while_eq]
  refine While_inv2 (L := b.objs.size) (h₀ := b) (fun n m₁ news₁ => ∃ wl ws e1 M lo' p0 p1 p2 p3 p4 p5, n = (pts M).length ∧ M < 64 ∧ P M ∧ (∀ y, y ≠ Str.ofString "i" → y ≠ Str.ofString "gone" → y ≠ Str.ofString "weak" → m₁ y = m y) ∧ m₁ (Str.ofString "weak") = some (.ref wl) ∧ news₁ = [(wl, PySem.W.listOf ws.toArray e1), (nl, PySem.W.listOf [Value.ref a0, Value.ref a1, Value.ref a2, Value.ref a3, Value.ref a4, Value.ref a5].toArray e2), (a5, p5), (a4, p4), (a3, p3), (a2, p2), (a1, p1), (a0, p0), (hl, PySem.W.listOf [Value.ref a0, Value.ref a1, Value.ref a2, Value.ref a3, Value.ref a4, Value.ref a5].toArray e6), (lf, lo'), (lel, PySem.W.listOf lev.toArray e3), (ml, PySem.W.listOf mv.toArray e4), (onl, PySem.W.listOf onv.toArray e5), (b.objs.size + 1 + 1 + 1 + 1 + 1 + 1, cn), (b.objs.size + 1 + 1 + 1 + 1 + 1, cd), (b.objs.size + 1 + 1 + 1 + 1, cm), (b.objs.size + 1 + 1 + 1, ct), (b.objs.size + 1 + 1, ck), (b.objs.size + 1, co), (i1, it1), (i2, it2)] ∧ IntsAre ws (weakOf need M fun j => K j &&& M) ∧ SetO w false "set" M lo' ∧ SetO w false "set" (K 0 &&& M) p0 ∧ SetO w false "set" (K 1 &&& M) p1 ∧ SetO w false "set" (K 2 &&& M) p2 ∧ SetO w false "set" (K 3 &&& M) p3 ∧ SetO w false "set" (K 4 &&& M) p4 ∧ SetO w false "set" (K 5 &&& M) p5) F N ⟨wl, ws, e1, M, lo, o0, o1, o2, o3, o4, o5, rfl, hM, hP, fun _ _ _ _ => rfl, hw, rfl, hI, hlo, q0, q1, q2, q3, q4, q5⟩ ?_
  clear hI hM hP hlo q0 q1 q2 q3 q4 q5 hw N F
  rintro n m₁ news₁ h₁ tk₁ F₁ N₁ ⟨wl, ws, e1, M, lo', p0, p1, p2, p3, p4, p5, rfl, hM, hP, hk, hw, rfl, hI, hlo, q0, q1, q2, q3, q4, q5⟩
  have hl₁ : m₁ (Str.ofString "left") = some (.ref lf) := (hk _ (by decide) (by decide) (by decide)).trans hlf
  refine testS S (Fr_congr F₁ (map_at hw)) (fun p hp => N₁ p (by rw [List.mem_singleton.mp hp]; exact List.mem_cons_self)) hCR hrow hI weak_len ?_
  intro tk
  by_cases hz : 0 < (weakOf need M fun j => K j &&& M).length
  · rw [decide_eq_true hz, if_pos rfl, whileBody_eq]
    refine wpAny_execs_cons ?_
    refine goneS S (Fr_congr F₁ (map_at hw)) N₁ hcd hck hct hcm hco hCR hrow hI hz weak_len hnn ?_
    intro n t h₂ tk₂ hn F₂ N₂
    obtain ⟨g, hg, rfl, hb, hlt⟩ := weak_mem hn
    show wpAny _ _ (execs _ _) _ _ _
    refine wpAny_execs_cons ?_
    refine leftS S (g := g) (tg := t) (Fr_congr F₂ (map_at2 (by first | rfl | exact if_pos rfl) (by rw [if_neg (by decide), if_neg (by decide)]; exact hl₁))) N₂ hg hlo hcd hck hct hcm hco conl2 conl3 conl4 conl5 conl6 cml2 cml3 cml4 cml5 cml6 clel2 clel3 clel4 clel5 clel6 k1 k2 h10 h11 h12 h13 hi1 hi2 h14 h15 h16 h17 h18 h19 h20 h21 n0 n1 n2 n3 n4 n5 n6 hCR hrow ?_
    intro lo'' h₃ tk₃ hlo₂ F₃ N₃
    show wpAny _ _ (execs _ _) _ _ _
    refine wpAny_execs_cons ?_
    refine forS (k := fun j => K j &&& M) S (g := g) (tg := t) (Fr_congr F₃ (map_at (by rw [if_neg (by decide), if_pos rfl]))) N₃ hg hcd hck hct hcm hco hcn hlo₂ q0 q1 q2 q3 q4 q5 conl2 conl3 conl4 conl5 conl6 cml2 cml3 cml4 cml5 cml6 clel2 clel3 clel4 clel5 clel6 k1 k2 h10 h11 h12 h13 hi1 hi2 h14 h15 h16 h17 h18 h19 h20 h21 n0 n1 n2 n3 n4 n5 n6 hCR hrow ?_
    intro iv r0 r1 r2 r3 r4 r5 h₄ tk₄ z0 z1 z2 z3 z4 z5 F₄ N₄
    show wpAny _ _ (execs _ _) _ _ _
    refine wpAny_execs_cons ?_
    have y0 : SetO w false "set" (K 0 &&& sub M (2 ^ g)) r0 := by rw [← sub_and _ (hK 0 (by decide)) _ hM _ hg]; exact z0
    have y1 : SetO w false "set" (K 1 &&& sub M (2 ^ g)) r1 := by rw [← sub_and _ (hK 1 (by decide)) _ hM _ hg]; exact z1
    have y2 : SetO w false "set" (K 2 &&& sub M (2 ^ g)) r2 := by rw [← sub_and _ (hK 2 (by decide)) _ hM _ hg]; exact z2
    have y3 : SetO w false "set" (K 3 &&& sub M (2 ^ g)) r3 := by rw [← sub_and _ (hK 3 (by decide)) _ hM _ hg]; exact z3
    have y4 : SetO w false "set" (K 4 &&& sub M (2 ^ g)) r4 := by rw [← sub_and _ (hK 4 (by decide)) _ hM _ hg]; exact z4
    have y5 : SetO w false "set" (K 5 &&& sub M (2 ^ g)) r5 := by rw [← sub_and _ (hK 5 (by decide)) _ hM _ hg]; exact z5
    refine weakB (k := fun j => K j &&& sub M (2 ^ g)) S (Fr_congr F₄ (map_at (x := Str.ofString "left") (v := some (.ref lf)) ?hle)) N₄ hcd hck hct hcm hco hcn hlo₂ y0 y1 y2 y3 y4 y5 conl2 conl3 conl4 conl5 conl6 cml2 cml3 cml4 cml5 cml6 clel2 clel3 clel4 clel5 clel6 k1 k2 h10 h11 h12 h13 hi1 hi2 h14 h15 h16 h17 h18 h19 h20 h21 n0 n1 n2 n3 n4 n5 n6 hCR hrow ?_
    case hle =>
      rw [if_neg (by decide), if_neg (by decide), if_pos rfl]
    intro wl₂ ws₂ e₂ h₅ tk₅ F₅ N₅ off₅ hI₅
    show wpAny _ _ (execs _ _) _ _ _
    refine wpAny_execs_nil ⟨h₅, tk₅, _, _, (pts (sub M (2 ^ g))).length, rfl, F₅, N₅, sub_len M hM g hg hb, wl₂, ws₂, e₂, sub M (2 ^ g), lo'', r0, r1, r2, r3, r4, r5, rfl, sub_lt64 M hM g hg, step M g hM hP hg hb hlt, ?_, ?_, rfl, hI₅, hlo₂, y0, y1, y2, y3, y4, y5⟩
    · intro y e1 e2 e3
      by_cases e4 : y = Str.ofString "left"
      · subst e4
        exact Eq.symm hlf
      · simp only [e1, e2, e3, e4, if_false]
        exact hk y e1 e2 e3
    · exact if_pos rfl
  · rw [decide_eq_false hz, if_neg (by decide)]
    exact hQ M lo' p0 p1 p2 p3 p4 p5 m₁ h₁ _ hM hP (List.eq_nil_of_length_eq_zero (by omega)) hk hlo q0 q1 q2 q3 q4 q5 F₁ (fun p hp => N₁ p (List.mem_cons_of_mem _ hp))
end Mine

end
theorem Mine.flWW : True := by first | (row_walk; done) | (walk1; done) | trivial
section
open PySem PySem.W PyProof.Rows
set_option Elab.async false
set_option linter.unusedVariables false
namespace Mine
set_option maxRecDepth 100000
set_option maxHeartbeats 8000000

noncomputable def coreUpTo (need : Int) (ln : List Int) (n : Nat) : Nat := Nat.rec 0 (fun i c => if need ≤ ln.getD (i + 1) 0 then c ||| (i + 1) else c) n
theorem coreUpTo_zero {need : Int} {ln : List Int} : coreUpTo need ln 0 = 0 := rfl
theorem coreUpTo_succ {need : Int} {ln : List Int} {i : Nat} : coreUpTo need ln (i + 1) = if need ≤ ln.getD (i + 1) 0 then coreUpTo need ln i ||| (i + 1) else coreUpTo need ln i := rfl
theorem coreS {w : World} {s₀ s : Shared} {b : Heap} {mg mb : Str → Option Value} (S : Stat w s₀ b mg mb) {fa c : Addr} {u : Str → Option Value} {cn cd cm ct ck co : Obj} {net need tells : Int} {t1 t2 t3 : Tok} {lel ml onl i1 i2 : Addr} {it1 it2 : Obj} {lev mv onv : List Value} {e3 e4 e5 : Nat} {Q : Flow → Shared → Prop} {m : Str → Option Value} {ln : List Int} {t : Tok}
  (F : Fr b b.objs.size s.heap m) (hc : m (Str.ofString "core") = some (.int 0 t)) (hle : m (Str.ofString "least") = some (.ref lel))
  (N : News b b.objs.size s.heap [(lel, PySem.W.listOf lev.toArray e3), (ml, PySem.W.listOf mv.toArray e4), (onl, PySem.W.listOf onv.toArray e5), (b.objs.size + 1 + 1 + 1 + 1 + 1 + 1, cn), (b.objs.size + 1 + 1 + 1 + 1 + 1, cd), (b.objs.size + 1 + 1 + 1 + 1, cm), (b.objs.size + 1 + 1 + 1, ct), (b.objs.size + 1 + 1, ck), (b.objs.size + 1, co), (i1, it1), (i2, it2)])
  (hcd : cd.data = .cell (some (.int need t1))) (hck : ck.data = .cell (some (.int net t2))) (hct : ct.data = .cell (some (.int tells t3))) (hcm : cm.data = .cell (some (.ref ml))) (hco : co.data = .cell (some (.ref onl))) (conl2 : onl ≠ b.objs.size + 1 + 1) (conl3 : onl ≠ b.objs.size + 1 + 1 + 1) (conl4 : onl ≠ b.objs.size + 1 + 1 + 1 + 1) (conl5 : onl ≠ b.objs.size + 1 + 1 + 1 + 1 + 1) (conl6 : onl ≠ b.objs.size + 1 + 1 + 1 + 1 + 1 + 1) (cml2 : ml ≠ b.objs.size + 1 + 1) (cml3 : ml ≠ b.objs.size + 1 + 1 + 1) (cml4 : ml ≠ b.objs.size + 1 + 1 + 1 + 1) (cml5 : ml ≠ b.objs.size + 1 + 1 + 1 + 1 + 1) (cml6 : ml ≠ b.objs.size + 1 + 1 + 1 + 1 + 1 + 1) (clel2 : lel ≠ b.objs.size + 1 + 1) (clel3 : lel ≠ b.objs.size + 1 + 1 + 1) (clel4 : lel ≠ b.objs.size + 1 + 1 + 1 + 1) (clel5 : lel ≠ b.objs.size + 1 + 1 + 1 + 1 + 1) (clel6 : lel ≠ b.objs.size + 1 + 1 + 1 + 1 + 1 + 1) (k1 : b.objs.size + 1 + 1 + 1 + 1 + 1 + 1 < i1) (k2 : b.objs.size + 1 + 1 + 1 + 1 + 1 + 1 < i2) (hCR : b.CodeRec (.ref c) (Str.ofString "law")) (hrow : Challenge.rw_km0070_01.foot = 3) (hI : IntsAre lev ln) (hlen : ln.length = 64)
  (hQ : ∀ c t m₁ h tk, c < 64 → c = coreUpTo need ln 63 → m₁ (Str.ofString "core") = some (.int ((c : Nat) : Int) t) → (∀ y, y ≠ Str.ofString "some" → y ≠ Str.ofString "core" → m₁ y = m y) → Fr b b.objs.size h m₁ → News b b.objs.size h [(lel, PySem.W.listOf lev.toArray e3), (ml, PySem.W.listOf mv.toArray e4), (onl, PySem.W.listOf onv.toArray e5), (b.objs.size + 1 + 1 + 1 + 1 + 1 + 1, cn), (b.objs.size + 1 + 1 + 1 + 1 + 1, cd), (b.objs.size + 1 + 1 + 1 + 1, cm), (b.objs.size + 1 + 1 + 1, ct), (b.objs.size + 1 + 1, ck), (b.objs.size + 1, co), (i1, it1), (i2, it2)] → Q .next { s with heap := h, toks := tk })
  : wpAny (model Challenge.rw_km0070_01.row.prog w) (callerA.deeper (envOfC (Str.ofString "law") lawScope b.objs.size fa (.ref c))) (exec (fst1 (tl (bodyOf forNeed))) (envOfC (Str.ofString "law") lawScope b.objs.size fa (.ref c))) Q (fun _ _ => False) s := by
  obtain ⟨KX, T, GL, B0⟩ := S
  dsimp only [whileSt, lawScope, scopeOf, forNeed, forNet, lawDef, bodyOf, PySem.Challenge.pw_km0070_01, tl, fst1]
  revert KX
  k_fill
  intro KX
  k_dflt (refine For_J (h₀ := b) (L := b.objs.size) ?_)
  k_steps
  rename Fr b _ _ _ => F'
  rename News b _ _ _ => N'
  rename IsRange _ _ _ _ _ _ _ _ => R'
  refine ⟨_, _, _, _, _, _, 63, _, _, (fun i m₁ news₁ => ∃ c t, c < 64 ∧ c = coreUpTo need ln i ∧ m₁ (Str.ofString "core") = some (.int ((c : Nat) : Int) t) ∧ (∀ y, y ≠ Str.ofString "some" → y ≠ Str.ofString "core" → m₁ y = m y) ∧ news₁ = [(lel, PySem.W.listOf lev.toArray e3), (ml, PySem.W.listOf mv.toArray e4), (onl, PySem.W.listOf onv.toArray e5), (b.objs.size + 1 + 1 + 1 + 1 + 1 + 1, cn), (b.objs.size + 1 + 1 + 1 + 1 + 1, cd), (b.objs.size + 1 + 1 + 1 + 1, cm), (b.objs.size + 1 + 1 + 1, ct), (b.objs.size + 1 + 1, ck), (b.objs.size + 1, co), (i1, it1), (i2, it2)]), rfl, rfl, F', N', R', by decide, by decide, ⟨0, t, by decide, rfl, hc, fun _ _ _ => rfl, rfl⟩, ?turn, ?done⟩
  case done =>
    rintro h tk m₁ news₁ ⟨c', t', hc64, hc', hm, hk, rfl⟩ F₁ N₁
    exact hQ c' t' m₁ h _ hc64 hc' hm hk F₁ N₁
  case turn =>
    clear F' N' R' hQ
    rintro i tk₀ I oI h tk m₁ news₁ hi6 hI' ⟨c', t', hc64, hc', hm, hk, rfl⟩ F₁ N₁ off
    have hle₁ : m₁ (Str.ofString "least") = some (.ref lel) := (hk _ (by decide) (by decide)).trans hle
    replace F₁ := Fr_congr F₁ (map_at2 hm hle₁)
    clear hI'
    k_steps
    · rename need ≤ _ => hge
      rename Fr b _ _ _ => F9
      rename News b _ _ _ => N9
      have e1 : (1 + (i : Int)).toNat = i + 1 := by omega
      have e2 : (1 + (i : Int)) = ((i + 1 : Nat) : Int) := by omega
      rw [e1] at hge
      refine ⟨_, _, _, _, rfl, F9, N9, off, c' ||| (i + 1), _, Nat.or_lt_two_pow (n := 6) hc64 (by omega), ?_, (by rw [← bor, ← e2]; exact if_pos rfl), ?_, rfl⟩
      · show _ = coreUpTo need ln (i + 1)
        rw [coreUpTo_succ, if_pos hge, hc']
      · intro y h1 h2
        by_cases h3 : y = Str.ofString "least"
        · subst h3; exact hle.symm
        · simp only [h1, h2, h3, if_false]; exact hk y h1 h2
    · rename ¬need ≤ _ => hge
      rename Fr b _ _ _ => F9
      rename News b _ _ _ => N9
      have e1 : (1 + (i : Int)).toNat = i + 1 := by omega
      rw [e1] at hge
      refine ⟨_, _, _, _, rfl, F9, N9, off, c', _, hc64, ?_, (by exact (if_neg (by decide)).trans (if_pos rfl)), ?_, rfl⟩
      · show _ = coreUpTo need ln (i + 1)
        rw [coreUpTo_succ, if_neg hge, hc']
      · intro y h1 h2
        by_cases h3 : y = Str.ofString "least"
        · subst h3; exact hle.symm
        · simp only [h1, h2, h3, if_false]; exact hk y h1 h2
end Mine

end
theorem Mine.flWC : True := by first | (row_walk; done) | (walk1; done) | trivial
section
open PySem PySem.W PyProof.Rows
set_option Elab.async false
set_option linter.unusedVariables false
namespace Mine
set_option maxRecDepth 100000
set_option maxHeartbeats 8000000

theorem led_perm {H : Addr × Obj} {as R : List (Addr × Obj)} {p : Addr × Obj} (h : p ∈ H :: (as.reverse ++ R)) : p ∈ H :: (R ++ as) := by
  rcases List.mem_cons.mp h with rfl | h
  · exact List.mem_cons_self
  · rcases List.mem_append.mp h with z | z
    · exact List.mem_cons_of_mem _ (List.mem_append_right _ (List.mem_reverse.mp z))
    · exact List.mem_cons_of_mem _ (List.mem_append_left _ z)
theorem len_s {as : List (Addr × Obj)} {n : Nat} (h : as.length = n + 1) : ∃ a o r, as = (a, o) :: r ∧ r.length = n := by
  cases as with
  | nil => exact absurd h (Nat.succ_ne_zero n).symm
  | cons p r => exact ⟨p.1, p.2, r, rfl, Nat.succ.inj h⟩
theorem len6 {as : List (Addr × Obj)} (h : as.length = 6) : ∃ a0 o0 a1 o1 a2 o2 a3 o3 a4 o4 a5 o5, as = [(a0, o0), (a1, o1), (a2, o2), (a3, o3), (a4, o4), (a5, o5)] := by
  obtain ⟨a0, o0, r0, e0, h0⟩ := len_s h
  obtain ⟨a1, o1, r1, e1, h1⟩ := len_s h0
  obtain ⟨a2, o2, r2, e2, h2⟩ := len_s h1
  obtain ⟨a3, o3, r3, e3, h3⟩ := len_s h2
  obtain ⟨a4, o4, r4, e4, h4⟩ := len_s h3
  obtain ⟨a5, o5, r5, e5, h5⟩ := len_s h4
  have e6 : r5 = [] := List.eq_nil_of_length_eq_zero h5
  rw [e6] at e5; rw [e5] at e4; rw [e4] at e3; rw [e3] at e2; rw [e2] at e1; rw [e1] at e0
  exact ⟨a0, o0, a1, o1, a2, o2, a3, o3, a4, o4, a5, o5, e0⟩
theorem chain7 {p0 p1 p2 p3 p4 p5 p6 : Addr × Obj} (h : List.Pairwise (fun p q : Addr × Obj => @LT.lt Nat _ p.1 q.1) [p0, p1, p2, p3, p4, p5, p6]) : @LT.lt Nat _ p0.1 p1.1 ∧ @LT.lt Nat _ p1.1 p2.1 ∧ @LT.lt Nat _ p2.1 p3.1 ∧ @LT.lt Nat _ p3.1 p4.1 ∧ @LT.lt Nat _ p4.1 p5.1 ∧ @LT.lt Nat _ p5.1 p6.1 := by
  simp only [List.pairwise_cons, List.mem_cons, forall_eq_or_imp] at h
  exact ⟨h.1.1, h.2.1.1, h.2.2.1.1, h.2.2.2.1.1, h.2.2.2.2.1.1, h.2.2.2.2.2.1.1⟩
theorem firstS {w : World} {s₀ s : Shared} {b : Heap} {mg mb : Str → Option Value} (S : Stat w s₀ b mg mb) {fa c : Addr} {u : Str → Option Value} {cn cd cm ct ck co : Obj} {net need tells : Int} {t1 t2 t3 : Tok} {lel ml onl i1 i2 : Addr} {it1 it2 : Obj} {lev mv onv : List Value} {e3 e4 e5 : Nat} {Q : Flow → Shared → Prop} {rest : List Stmt} 
  (F : Fr b b.objs.size s.heap u) 
  (N : News b b.objs.size s.heap [(lel, PySem.W.listOf lev.toArray e3), (ml, PySem.W.listOf mv.toArray e4), (onl, PySem.W.listOf onv.toArray e5), (b.objs.size + 1 + 1 + 1 + 1 + 1 + 1, cn), (b.objs.size + 1 + 1 + 1 + 1 + 1, cd), (b.objs.size + 1 + 1 + 1 + 1, cm), (b.objs.size + 1 + 1 + 1, ct), (b.objs.size + 1 + 1, ck), (b.objs.size + 1, co), (i1, it1), (i2, it2)])
  (hcd : cd.data = .cell (some (.int need t1))) (hck : ck.data = .cell (some (.int net t2))) (hct : ct.data = .cell (some (.int tells t3))) (hcm : cm.data = .cell (some (.ref ml))) (hco : co.data = .cell (some (.ref onl))) (conl2 : onl ≠ b.objs.size + 1 + 1) (conl3 : onl ≠ b.objs.size + 1 + 1 + 1) (conl4 : onl ≠ b.objs.size + 1 + 1 + 1 + 1) (conl5 : onl ≠ b.objs.size + 1 + 1 + 1 + 1 + 1) (conl6 : onl ≠ b.objs.size + 1 + 1 + 1 + 1 + 1 + 1) (cml2 : ml ≠ b.objs.size + 1 + 1) (cml3 : ml ≠ b.objs.size + 1 + 1 + 1) (cml4 : ml ≠ b.objs.size + 1 + 1 + 1 + 1) (cml5 : ml ≠ b.objs.size + 1 + 1 + 1 + 1 + 1) (cml6 : ml ≠ b.objs.size + 1 + 1 + 1 + 1 + 1 + 1) (clel2 : lel ≠ b.objs.size + 1 + 1) (clel3 : lel ≠ b.objs.size + 1 + 1 + 1) (clel4 : lel ≠ b.objs.size + 1 + 1 + 1 + 1) (clel5 : lel ≠ b.objs.size + 1 + 1 + 1 + 1 + 1) (clel6 : lel ≠ b.objs.size + 1 + 1 + 1 + 1 + 1 + 1) (k1 : b.objs.size + 1 + 1 + 1 + 1 + 1 + 1 < i1) (k2 : b.objs.size + 1 + 1 + 1 + 1 + 1 + 1 < i2) (hCR : b.CodeRec (.ref c) (Str.ofString "law")) (hrow : Challenge.rw_km0070_01.foot = 3) 
  (hQ : ∀ lf lo h tk, b.objs.size + 1 + 1 + 1 + 1 + 1 + 1 < lf → @LT.lt Nat _ ml lf → @LT.lt Nat _ onl lf → @LT.lt Nat _ lel lf → @LT.lt Nat _ i1 lf → @LT.lt Nat _ i2 lf → SetO w false "set" 63 lo → Fr b b.objs.size h (fun y => if y = Str.ofString "left" then some (.ref lf) else if y = Str.ofString "first" then some (.ref lf) else u y) → News b b.objs.size h [(lf, lo), (lel, PySem.W.listOf lev.toArray e3), (ml, PySem.W.listOf mv.toArray e4), (onl, PySem.W.listOf onv.toArray e5), (b.objs.size + 1 + 1 + 1 + 1 + 1 + 1, cn), (b.objs.size + 1 + 1 + 1 + 1 + 1, cd), (b.objs.size + 1 + 1 + 1 + 1, cm), (b.objs.size + 1 + 1 + 1, ct), (b.objs.size + 1 + 1, ck), (b.objs.size + 1, co), (i1, it1), (i2, it2)] → wpAny (model Challenge.rw_km0070_01.row.prog w) (callerA.deeper (envOfC (Str.ofString "law") lawScope b.objs.size fa (.ref c))) (execs rest (envOfC (Str.ofString "law") lawScope b.objs.size fa (.ref c))) Q (fun _ _ => False) { s with heap := h, toks := tk })
  : wpAny (model Challenge.rw_km0070_01.row.prog w) (callerA.deeper (envOfC (Str.ofString "law") lawScope b.objs.size fa (.ref c))) (execs ((fst1 (tl (tl (bodyOf forNeed)))) :: (fst1 (tl (tl (tl (bodyOf forNeed))))) :: rest) (envOfC (Str.ofString "law") lawScope b.objs.size fa (.ref c))) Q (fun _ _ => False) s := by
  obtain ⟨KX, T, GL, B0⟩ := S
  dsimp only [whileSt, lawScope, scopeOf, forNeed, forNet, lawDef, bodyOf, PySem.Challenge.pw_km0070_01, tl, fst1]
  revert KX
  k_fill
  intro KX
  k_steps
  rename SetO w false "set" 63 _ => hS
  rename Fr b _ _ _ => F9
  rename News b _ _ _ => N9
  rename _ ∧ _ => hlt
  exact hQ _ _ _ _ hlt.2.2.2.1 hlt.2.1 hlt.2.2.1 hlt.1 hlt.2.2.2.2.2.2.2.2.2.1 hlt.2.2.2.2.2.2.2.2.2.2 hS F9 N9
theorem heldS {w : World} {s₀ s : Shared} {b : Heap} {mg mb : Str → Option Value} (S : Stat w s₀ b mg mb) {fa c : Addr} {u : Str → Option Value} {cn cd cm ct ck co : Obj} {net need tells : Int} {t1 t2 t3 : Tok} {lel ml onl i1 i2 : Addr} {it1 it2 : Obj} {lev mv onv : List Value} {e3 e4 e5 : Nat} {Q : Flow → Shared → Prop} {lf : Addr} {lo : Obj} {mn : List Int} {K : Nat → Nat}
  (F : Fr b b.objs.size s.heap u) 
  (N : News b b.objs.size s.heap [(lf, lo), (lel, PySem.W.listOf lev.toArray e3), (ml, PySem.W.listOf mv.toArray e4), (onl, PySem.W.listOf onv.toArray e5), (b.objs.size + 1 + 1 + 1 + 1 + 1 + 1, cn), (b.objs.size + 1 + 1 + 1 + 1 + 1, cd), (b.objs.size + 1 + 1 + 1 + 1, cm), (b.objs.size + 1 + 1 + 1, ct), (b.objs.size + 1 + 1, ck), (b.objs.size + 1, co), (i1, it1), (i2, it2)])
  (hcd : cd.data = .cell (some (.int need t1))) (hck : ck.data = .cell (some (.int net t2))) (hct : ct.data = .cell (some (.int tells t3))) (hcm : cm.data = .cell (some (.ref ml))) (hco : co.data = .cell (some (.ref onl))) (conl2 : onl ≠ b.objs.size + 1 + 1) (conl3 : onl ≠ b.objs.size + 1 + 1 + 1) (conl4 : onl ≠ b.objs.size + 1 + 1 + 1 + 1) (conl5 : onl ≠ b.objs.size + 1 + 1 + 1 + 1 + 1) (conl6 : onl ≠ b.objs.size + 1 + 1 + 1 + 1 + 1 + 1) (cml2 : ml ≠ b.objs.size + 1 + 1) (cml3 : ml ≠ b.objs.size + 1 + 1 + 1) (cml4 : ml ≠ b.objs.size + 1 + 1 + 1 + 1) (cml5 : ml ≠ b.objs.size + 1 + 1 + 1 + 1 + 1) (cml6 : ml ≠ b.objs.size + 1 + 1 + 1 + 1 + 1 + 1) (clel2 : lel ≠ b.objs.size + 1 + 1) (clel3 : lel ≠ b.objs.size + 1 + 1 + 1) (clel4 : lel ≠ b.objs.size + 1 + 1 + 1 + 1) (clel5 : lel ≠ b.objs.size + 1 + 1 + 1 + 1 + 1) (clel6 : lel ≠ b.objs.size + 1 + 1 + 1 + 1 + 1 + 1) (k1 : b.objs.size + 1 + 1 + 1 + 1 + 1 + 1 < i1) (k2 : b.objs.size + 1 + 1 + 1 + 1 + 1 + 1 < i2) (hCR : b.CodeRec (.ref c) (Str.ofString "law")) (hrow : Challenge.rw_km0070_01.foot = 3) (h10 : b.objs.size + 1 + 1 + 1 + 1 + 1 + 1 < lf) (h11 : @LT.lt Nat _ ml lf) (h12 : @LT.lt Nat _ onl lf) (h13 : @LT.lt Nat _ lel lf) (hi1 : @LT.lt Nat _ i1 lf) (hi2 : @LT.lt Nat _ i2 lf) (hI : IntsAre mv mn) (hlen : mn.length = 6) (hK : ∀ j < 6, K j < 64) (hmn : ∀ j < 6, mn.getD j 0 = ((K j : Nat) : Int))
  (hQ : ∀ hl a0 a1 a2 a3 a4 a5 o0 o1 o2 o3 o4 o5 e6 h tk, SetO w false "set" (K 0) o0 → SetO w false "set" (K 1) o1 → SetO w false "set" (K 2) o2 → SetO w false "set" (K 3) o3 → SetO w false "set" (K 4) o4 → SetO w false "set" (K 5) o5 → @LT.lt Nat _ lf a0 → @LT.lt Nat _ a0 a1 → @LT.lt Nat _ a1 a2 → @LT.lt Nat _ a2 a3 → @LT.lt Nat _ a3 a4 → @LT.lt Nat _ a4 a5 → hl ≠ a0 → hl ≠ a1 → hl ≠ a2 → hl ≠ a3 → hl ≠ a4 → hl ≠ a5 → hl ≠ lf → hl ≠ b.objs.size + 1 + 1 + 1 + 1 + 1 + 1 → Fr b b.objs.size h (fun y => if y = Str.ofString "held" then some (.ref hl) else u y) → News b b.objs.size h [(hl, PySem.W.listOf [Value.ref a0, Value.ref a1, Value.ref a2, Value.ref a3, Value.ref a4, Value.ref a5].toArray e6), (a5, o5), (a4, o4), (a3, o3), (a2, o2), (a1, o1), (a0, o0), (lf, lo), (lel, PySem.W.listOf lev.toArray e3), (ml, PySem.W.listOf mv.toArray e4), (onl, PySem.W.listOf onv.toArray e5), (b.objs.size + 1 + 1 + 1 + 1 + 1 + 1, cn), (b.objs.size + 1 + 1 + 1 + 1 + 1, cd), (b.objs.size + 1 + 1 + 1 + 1, cm), (b.objs.size + 1 + 1 + 1, ct), (b.objs.size + 1 + 1, ck), (b.objs.size + 1, co), (i1, it1), (i2, it2)] → Q .next { s with heap := h, toks := tk })
  : wpAny (model Challenge.rw_km0070_01.row.prog w) (callerA.deeper (envOfC (Str.ofString "law") lawScope b.objs.size fa (.ref c))) (exec (fst1 (tl (tl (tl (tl (bodyOf forNeed)))))) (envOfC (Str.ofString "law") lawScope b.objs.size fa (.ref c))) Q (fun _ _ => False) s := by
  obtain ⟨KX, T, GL, B0⟩ := S
  dsimp only [whileSt, lawScope, scopeOf, forNeed, forNet, lawDef, bodyOf, PySem.Challenge.pw_km0070_01, tl, fst1]
  revert KX
  k_fill
  intro KX
  k_dflt (refine LCg.Assign_ListComp_U (F₀ := F) (by rfl) (by with_unfolding_all rfl) (by with_unfolding_all rfl) (by decide) (by rfl) (by decide) (by rfl) (by rfl) (by rfl) ?_)
  iterate 7 walk1
  rename Fr b _ _ _ => F'
  rename News b _ _ _ => N'
  rename IsRange _ _ _ _ _ _ _ _ => R'
  refine LCg.CompSrc.range (n := 6) rfl F' N' R' (by decide) (by rfl) (by decide) ?_
  intro g'
  refine rest_inv (n := 6) (fun i ys news => ∃ as : List (Addr × Obj), as.length = i ∧ ys = as.map (fun p => Value.ref p.1) ∧ news = (lf, lo) :: (lel, PySem.W.listOf lev.toArray e3) :: (ml, PySem.W.listOf mv.toArray e4) :: (onl, PySem.W.listOf onv.toArray e5) :: (b.objs.size + 1 + 1 + 1 + 1 + 1 + 1, cn) :: (b.objs.size + 1 + 1 + 1 + 1 + 1, cd) :: (b.objs.size + 1 + 1 + 1 + 1, cm) :: (b.objs.size + 1 + 1 + 1, ct) :: (b.objs.size + 1 + 1, ck) :: (b.objs.size + 1, co) :: (i1, it1) :: (i2, it2) :: as ∧ (∀ j p, as[j]? = some p → SetO w false "set" (K j) p.2) ∧ List.Pairwise (fun p q : Addr × Obj => @LT.lt Nat _ p.1 q.1) ((lf, lo) :: as)) ?turn ?fin 6 0 [] _ rfl ⟨[], rfl, rfl, rfl, (fun j p h => nomatch h), List.pairwise_singleton _ _⟩
  case fin =>
    rintro ys news ⟨as, hal, rfl, rfl, hS, hpw⟩
    intro D h tk F₁ N₁ ow
    · obtain ⟨a0, o0, a1, o1, a2, o2, a3, o3, a4, o4, a5, o5, rfl⟩ := len6 hal
      simp only [LCg.Off1, and_true] at ow
      obtain ⟨x1, x2, x3, x4, x5, x6, x7, x8, x9, x10, x11, x12, y0, y1, y2, y3, y4, y5⟩ := ow
      have hp := chain7 hpw
      exact hQ D a0 a1 a2 a3 a4 a5 o0 o1 o2 o3 o4 o5 6 h tk (hS 0 _ rfl) (hS 1 _ rfl) (hS 2 _ rfl) (hS 3 _ rfl) (hS 4 _ rfl) (hS 5 _ rfl) hp.1 hp.2.1 hp.2.2.1 hp.2.2.2.1 hp.2.2.2.2.1 hp.2.2.2.2.2 (Ne.symm y0) (Ne.symm y1) (Ne.symm y2) (Ne.symm y3) (Ne.symm y4) (Ne.symm y5) (Ne.symm x1) (Ne.symm x5) F₁ (fun p hp => N₁ p (led_perm (as := [(a0, o0), (a1, o1), (a2, o2), (a3, o3), (a4, o4), (a5, o5)]) (R := [(lf, lo), (lel, PySem.W.listOf lev.toArray e3), (ml, PySem.W.listOf mv.toArray e4), (onl, PySem.W.listOf onv.toArray e5), (b.objs.size + 1 + 1 + 1 + 1 + 1 + 1, cn), (b.objs.size + 1 + 1 + 1 + 1 + 1, cd), (b.objs.size + 1 + 1 + 1 + 1, cm), (b.objs.size + 1 + 1 + 1, ct), (b.objs.size + 1 + 1, ck), (b.objs.size + 1, co), (i1, it1), (i2, it2)]) hp))
  case turn =>
    clear F' N' R'
    rintro i ys news hi6 ⟨as, hal, rfl, rfl, hS, hpw⟩ v I oI C oC D m₂ h tk E' ⟨t, rfl⟩ hC hx F₁ N₁ off ne
    k_steps
    rename IntsAre _ _ => hI9
    rename Heap.IsList _ _ _ => hL9
    rename Fr b _ _ _ => F9
    rename News b _ _ _ => N9
    have e1 : (0 + (i : Int)).toNat = i := by omega
    rw [e1, hmn i hi6, law_pts] at hI9
    refine set_LN rfl F9 N9 hL9 hI9 (fun k hk => pts_lt hk) ?_
    intro D₂ h₂ tk₂ ob F₂ N₂ l₂ hS₂
    rw [ins_pts _ (hK i hi6)] at hS₂
    refine ⟨h₂, tk₂, (lf, lo) :: (lel, PySem.W.listOf lev.toArray e3) :: (ml, PySem.W.listOf mv.toArray e4) :: (onl, PySem.W.listOf onv.toArray e5) :: (b.objs.size + 1 + 1 + 1 + 1 + 1 + 1, cn) :: (b.objs.size + 1 + 1 + 1 + 1 + 1, cd) :: (b.objs.size + 1 + 1 + 1 + 1, cm) :: (b.objs.size + 1 + 1 + 1, ct) :: (b.objs.size + 1 + 1, ck) :: (b.objs.size + 1, co) :: (i1, it1) :: (i2, it2) :: (as ++ [(D₂, ob)]), rfl, F₂, fun p hp => ?_, LCg.Off3.of fun p hp => ?_, trivial, as ++ [(D₂, ob)], ?_, ?_, rfl, ?_, ?_⟩
    · have hp' : p ∈ ((I, oI) :: (C, oC) :: (D, LCg.lst (as.map fun p => Value.ref p.1)) :: (lf, lo) :: (lel, PySem.W.listOf lev.toArray e3) :: (ml, PySem.W.listOf mv.toArray e4) :: (onl, PySem.W.listOf onv.toArray e5) :: (b.objs.size + 1 + 1 + 1 + 1 + 1 + 1, cn) :: (b.objs.size + 1 + 1 + 1 + 1 + 1, cd) :: (b.objs.size + 1 + 1 + 1 + 1, cm) :: (b.objs.size + 1 + 1 + 1, ct) :: (b.objs.size + 1 + 1, ck) :: (b.objs.size + 1, co) :: (i1, it1) :: (i2, it2) :: as) ++ [(D₂, ob)] := hp
      rcases List.mem_append.mp hp' with z | z
      · exact N₂ p (List.mem_cons_of_mem _ (List.mem_cons_of_mem _ (List.mem_cons_of_mem _ z)))
      · rw [List.mem_singleton.mp z]; exact N₂ _ List.mem_cons_self
    · have hp' : p ∈ ((lf, lo) :: (lel, PySem.W.listOf lev.toArray e3) :: (ml, PySem.W.listOf mv.toArray e4) :: (onl, PySem.W.listOf onv.toArray e5) :: (b.objs.size + 1 + 1 + 1 + 1 + 1 + 1, cn) :: (b.objs.size + 1 + 1 + 1 + 1 + 1, cd) :: (b.objs.size + 1 + 1 + 1 + 1, cm) :: (b.objs.size + 1 + 1 + 1, ct) :: (b.objs.size + 1 + 1, ck) :: (b.objs.size + 1, co) :: (i1, it1) :: (i2, it2) :: as) ++ [(D₂, ob)] := hp
      rcases List.mem_append.mp hp' with z | z
      · exact off.mem p z
      · rw [List.mem_singleton.mp z]
        exact ⟨Ne.symm (Nat.ne_of_lt (l₂ (I, oI) (List.mem_cons_of_mem _ (List.mem_cons_of_mem _ List.mem_cons_self)))), Ne.symm (Nat.ne_of_lt (l₂ (C, oC) (List.mem_cons_of_mem _ (List.mem_cons_of_mem _ (List.mem_cons_of_mem _ List.mem_cons_self))))), Ne.symm (Nat.ne_of_lt (l₂ (D, _) (List.mem_cons_of_mem _ (List.mem_cons_of_mem _ (List.mem_cons_of_mem _ (List.mem_cons_of_mem _ List.mem_cons_self))))))⟩
    · rw [List.length_append, hal]; rfl
    · rw [List.map_append]; rfl
    · intro j p hj
      by_cases hlt : j < as.length
      · rw [List.getElem?_append_left hlt] at hj
        exact hS j p hj
      · rw [List.getElem?_append_right (Nat.not_lt.mp hlt)] at hj
        have hj0 : j - as.length = 0 := by
          have := (List.getElem?_eq_some_iff.mp hj).1
          simpa using this
        rw [hj0] at hj
        have hji : j = i := by omega
        subst hji
        have : (D₂, ob) = p := Option.some.inj hj
        rw [← this]
        exact hS₂
    · show List.Pairwise _ (((lf, lo) :: as) ++ [(D₂, ob)])
      refine List.pairwise_append.mpr ⟨hpw, List.pairwise_singleton _ _, fun p hp q hq => ?_⟩
      rw [List.mem_singleton.mp hq]
      refine l₂ p ?_
      rcases List.mem_cons.mp hp with rfl | z
      · exact List.mem_cons_of_mem _ (List.mem_cons_of_mem _ (List.mem_cons_of_mem _ (List.mem_cons_of_mem _ (List.mem_cons_of_mem _ List.mem_cons_self))))
      · exact List.mem_append_right [_, _, _, _, _, _, _, _, _, _, _, _, _, _, _, _, _] z
end Mine

end
theorem Mine.flWP : True := by first | (row_walk; done) | (walk1; done) | trivial
section
open PySem PySem.W PyProof.Rows
set_option Elab.async false
set_option linter.unusedVariables false
namespace Mine
set_option maxRecDepth 100000
set_option maxHeartbeats 8000000

theorem nearS {w : World} {s₀ s : Shared} {b : Heap} {mg mb : Str → Option Value} (S : Stat w s₀ b mg mb) {fa c : Addr} {u : Str → Option Value} {cn cd cm ct ck co : Obj} {net need tells : Int} {t1 t2 t3 : Tok} {lel ml onl i1 i2 : Addr} {it1 it2 : Obj} {lev mv onv : List Value} {e3 e4 e5 : Nat} {Q : Flow → Shared → Prop} {hl lf a0 a1 a2 a3 a4 a5 : Addr} {lo o0 o1 o2 o3 o4 o5 : Obj} {e6 : Nat} 
  (F : Fr b b.objs.size s.heap (fun y => if y = Str.ofString "held" then some (.ref hl) else u y))
  (N : News b b.objs.size s.heap [(hl, PySem.W.listOf [Value.ref a0, Value.ref a1, Value.ref a2, Value.ref a3, Value.ref a4, Value.ref a5].toArray e6), (a5, o5), (a4, o4), (a3, o3), (a2, o2), (a1, o1), (a0, o0), (lf, lo), (lel, PySem.W.listOf lev.toArray e3), (ml, PySem.W.listOf mv.toArray e4), (onl, PySem.W.listOf onv.toArray e5), (b.objs.size + 1 + 1 + 1 + 1 + 1 + 1, cn), (b.objs.size + 1 + 1 + 1 + 1 + 1, cd), (b.objs.size + 1 + 1 + 1 + 1, cm), (b.objs.size + 1 + 1 + 1, ct), (b.objs.size + 1 + 1, ck), (b.objs.size + 1, co), (i1, it1), (i2, it2)])
  (hcd : cd.data = .cell (some (.int need t1))) (hck : ck.data = .cell (some (.int net t2))) (hct : ct.data = .cell (some (.int tells t3))) (hcm : cm.data = .cell (some (.ref ml))) (hco : co.data = .cell (some (.ref onl))) (conl2 : onl ≠ b.objs.size + 1 + 1) (conl3 : onl ≠ b.objs.size + 1 + 1 + 1) (conl4 : onl ≠ b.objs.size + 1 + 1 + 1 + 1) (conl5 : onl ≠ b.objs.size + 1 + 1 + 1 + 1 + 1) (conl6 : onl ≠ b.objs.size + 1 + 1 + 1 + 1 + 1 + 1) (cml2 : ml ≠ b.objs.size + 1 + 1) (cml3 : ml ≠ b.objs.size + 1 + 1 + 1) (cml4 : ml ≠ b.objs.size + 1 + 1 + 1 + 1) (cml5 : ml ≠ b.objs.size + 1 + 1 + 1 + 1 + 1) (cml6 : ml ≠ b.objs.size + 1 + 1 + 1 + 1 + 1 + 1) (clel2 : lel ≠ b.objs.size + 1 + 1) (clel3 : lel ≠ b.objs.size + 1 + 1 + 1) (clel4 : lel ≠ b.objs.size + 1 + 1 + 1 + 1) (clel5 : lel ≠ b.objs.size + 1 + 1 + 1 + 1 + 1) (clel6 : lel ≠ b.objs.size + 1 + 1 + 1 + 1 + 1 + 1) (k1 : b.objs.size + 1 + 1 + 1 + 1 + 1 + 1 < i1) (k2 : b.objs.size + 1 + 1 + 1 + 1 + 1 + 1 < i2) (h10 : b.objs.size + 1 + 1 + 1 + 1 + 1 + 1 < lf) (h11 : @LT.lt Nat _ ml lf) (h12 : @LT.lt Nat _ onl lf) (h13 : @LT.lt Nat _ lel lf) (hi1 : @LT.lt Nat _ i1 lf) (hi2 : @LT.lt Nat _ i2 lf) (h14 : @LT.lt Nat _ lf a0) (h16 : @LT.lt Nat _ a0 a1) (h17 : @LT.lt Nat _ a1 a2) (h18 : @LT.lt Nat _ a2 a3) (h19 : @LT.lt Nat _ a3 a4) (h20 : @LT.lt Nat _ a4 a5) (hCR : b.CodeRec (.ref c) (Str.ofString "law")) (hrow : Challenge.rw_km0070_01.foot = 3) (n7 : hl ≠ b.objs.size + 1 + 1 + 1 + 1 + 1 + 1) (hcn : ∃ v, cn.data = .cell v)
  (hQ : ∀ nl cn' e2 h tk, cn'.data = .cell (some (.ref nl)) → @LT.lt Nat _ a5 nl → @LT.lt Nat _ hl nl → Fr b b.objs.size h (fun y => if y = Str.ofString "held" then some (.ref hl) else u y) → News b b.objs.size h [(nl, PySem.W.listOf [Value.ref a0, Value.ref a1, Value.ref a2, Value.ref a3, Value.ref a4, Value.ref a5].toArray e2), (a5, o5), (a4, o4), (a3, o3), (a2, o2), (a1, o1), (a0, o0), (hl, PySem.W.listOf [Value.ref a0, Value.ref a1, Value.ref a2, Value.ref a3, Value.ref a4, Value.ref a5].toArray e6), (lf, lo), (lel, PySem.W.listOf lev.toArray e3), (ml, PySem.W.listOf mv.toArray e4), (onl, PySem.W.listOf onv.toArray e5), (b.objs.size + 1 + 1 + 1 + 1 + 1 + 1, cn'), (b.objs.size + 1 + 1 + 1 + 1 + 1, cd), (b.objs.size + 1 + 1 + 1 + 1, cm), (b.objs.size + 1 + 1 + 1, ct), (b.objs.size + 1 + 1, ck), (b.objs.size + 1, co), (i1, it1), (i2, it2)] → Q .next { s with heap := h, toks := tk })
  : wpAny (model Challenge.rw_km0070_01.row.prog w) (callerA.deeper (envOfC (Str.ofString "law") lawScope b.objs.size fa (.ref c))) (exec (fst1 (tl (tl (tl (tl (tl (bodyOf forNeed))))))) (envOfC (Str.ofString "law") lawScope b.objs.size fa (.ref c))) Q (fun _ _ => False) s := by
  obtain ⟨v, hcn⟩ := hcn
  obtain ⟨KX, T, GL, B0⟩ := S
  dsimp only [whileSt, lawScope, scopeOf, forNeed, forNet, lawDef, bodyOf, PySem.Challenge.pw_km0070_01, tl, fst1]
  revert KX
  k_fill
  intro KX
  k_steps
  rename _ = Data.cell (some (Value.ref _)) => hd9
  rename Fr b _ _ _ => F9
  rename News b _ _ _ => N9
  rename _ ∧ _ => hlt
  exact hQ _ _ _ _ _ hd9 hlt.2.1 hlt.1 F9 (fun p hp => N9 p (SubL.mem (by k_subL) p hp))
end Mine

end
theorem Mine.flWN : True := by first | (row_walk; done) | (walk1; done) | trivial
section
open PySem PySem.W PyProof.Rows
set_option Elab.async false
set_option linter.unusedVariables false
namespace Mine
set_option maxRecDepth 100000
set_option maxHeartbeats 8000000

theorem chk1S {w : World} {s₀ s : Shared} {b : Heap} {mg mb : Str → Option Value} (S : Stat w s₀ b mg mb) {fa c : Addr} {u : Str → Option Value} {cn cd cm ct ck co : Obj} {net need tells : Int} {t1 t2 t3 : Tok} {lel ml onl i1 i2 : Addr} {it1 it2 : Obj} {lev mv onv : List Value} {e3 e4 e5 : Nat} {Q : Flow → Shared → Prop} {nl hl lf a0 a1 a2 a3 a4 a5 : Addr} {lo o0 o1 o2 o3 o4 o5 : Obj} {M : Nat} {k : Nat → Nat} {e2 e6 : Nat} {cc : Nat} {tc : Tok}
  (F : Fr b b.objs.size s.heap (fun y => if y = Str.ofString "left" then some (.ref lf) else if y = Str.ofString "first" then some (.ref lf) else if y = Str.ofString "core" then some (.int ((cc : Nat) : Int) tc) else u y))
  (N : News b b.objs.size s.heap [(nl, PySem.W.listOf [Value.ref a0, Value.ref a1, Value.ref a2, Value.ref a3, Value.ref a4, Value.ref a5].toArray e2), (a5, o5), (a4, o4), (a3, o3), (a2, o2), (a1, o1), (a0, o0), (hl, PySem.W.listOf [Value.ref a0, Value.ref a1, Value.ref a2, Value.ref a3, Value.ref a4, Value.ref a5].toArray e6), (lf, lo), (lel, PySem.W.listOf lev.toArray e3), (ml, PySem.W.listOf mv.toArray e4), (onl, PySem.W.listOf onv.toArray e5), (b.objs.size + 1 + 1 + 1 + 1 + 1 + 1, cn), (b.objs.size + 1 + 1 + 1 + 1 + 1, cd), (b.objs.size + 1 + 1 + 1 + 1, cm), (b.objs.size + 1 + 1 + 1, ct), (b.objs.size + 1 + 1, ck), (b.objs.size + 1, co), (i1, it1), (i2, it2)])
  (hcd : cd.data = .cell (some (.int need t1))) (hck : ck.data = .cell (some (.int net t2))) (hct : ct.data = .cell (some (.int tells t3))) (hcm : cm.data = .cell (some (.ref ml))) (hco : co.data = .cell (some (.ref onl))) (hcn : cn.data = .cell (some (.ref nl))) (hlo : SetO w false "set" M lo) (q0 : SetO w false "set" (k 0) o0) (q1 : SetO w false "set" (k 1) o1) (q2 : SetO w false "set" (k 2) o2) (q3 : SetO w false "set" (k 3) o3) (q4 : SetO w false "set" (k 4) o4) (q5 : SetO w false "set" (k 5) o5) (conl2 : onl ≠ b.objs.size + 1 + 1) (conl3 : onl ≠ b.objs.size + 1 + 1 + 1) (conl4 : onl ≠ b.objs.size + 1 + 1 + 1 + 1) (conl5 : onl ≠ b.objs.size + 1 + 1 + 1 + 1 + 1) (conl6 : onl ≠ b.objs.size + 1 + 1 + 1 + 1 + 1 + 1) (cml2 : ml ≠ b.objs.size + 1 + 1) (cml3 : ml ≠ b.objs.size + 1 + 1 + 1) (cml4 : ml ≠ b.objs.size + 1 + 1 + 1 + 1) (cml5 : ml ≠ b.objs.size + 1 + 1 + 1 + 1 + 1) (cml6 : ml ≠ b.objs.size + 1 + 1 + 1 + 1 + 1 + 1) (clel2 : lel ≠ b.objs.size + 1 + 1) (clel3 : lel ≠ b.objs.size + 1 + 1 + 1) (clel4 : lel ≠ b.objs.size + 1 + 1 + 1 + 1) (clel5 : lel ≠ b.objs.size + 1 + 1 + 1 + 1 + 1) (clel6 : lel ≠ b.objs.size + 1 + 1 + 1 + 1 + 1 + 1) (k1 : b.objs.size + 1 + 1 + 1 + 1 + 1 + 1 < i1) (k2 : b.objs.size + 1 + 1 + 1 + 1 + 1 + 1 < i2) (h10 : b.objs.size + 1 + 1 + 1 + 1 + 1 + 1 < lf) (h11 : @LT.lt Nat _ ml lf) (h12 : @LT.lt Nat _ onl lf) (h13 : @LT.lt Nat _ lel lf) (hi1 : @LT.lt Nat _ i1 lf) (hi2 : @LT.lt Nat _ i2 lf) (h14 : @LT.lt Nat _ lf a0) (h15 : @LT.lt Nat _ hl nl) (h16 : @LT.lt Nat _ a0 a1) (h17 : @LT.lt Nat _ a1 a2) (h18 : @LT.lt Nat _ a2 a3) (h19 : @LT.lt Nat _ a3 a4) (h20 : @LT.lt Nat _ a4 a5) (h21 : @LT.lt Nat _ a5 nl) (n0 : hl ≠ a0) (n1 : hl ≠ a1) (n2 : hl ≠ a2) (n3 : hl ≠ a3) (n4 : hl ≠ a4) (n5 : hl ≠ a5) (n6 : hl ≠ lf) (hCR : b.CodeRec (.ref c) (Str.ofString "law")) (hrow : Challenge.rw_km0070_01.foot = 3)  (hMc : cc = M)
  (hQ : ∀ h tk, Fr b b.objs.size h (fun y => if y = Str.ofString "left" then some (.ref lf) else if y = Str.ofString "first" then some (.ref lf) else if y = Str.ofString "core" then some (.int ((cc : Nat) : Int) tc) else u y) → News b b.objs.size h [(nl, PySem.W.listOf [Value.ref a0, Value.ref a1, Value.ref a2, Value.ref a3, Value.ref a4, Value.ref a5].toArray e2), (a5, o5), (a4, o4), (a3, o3), (a2, o2), (a1, o1), (a0, o0), (hl, PySem.W.listOf [Value.ref a0, Value.ref a1, Value.ref a2, Value.ref a3, Value.ref a4, Value.ref a5].toArray e6), (lf, lo), (lel, PySem.W.listOf lev.toArray e3), (ml, PySem.W.listOf mv.toArray e4), (onl, PySem.W.listOf onv.toArray e5), (b.objs.size + 1 + 1 + 1 + 1 + 1 + 1, cn), (b.objs.size + 1 + 1 + 1 + 1 + 1, cd), (b.objs.size + 1 + 1 + 1 + 1, cm), (b.objs.size + 1 + 1 + 1, ct), (b.objs.size + 1 + 1, ck), (b.objs.size + 1, co), (i1, it1), (i2, it2)] → Q .next { s with heap := h, toks := tk })
  : wpAny (model Challenge.rw_km0070_01.row.prog w) (callerA.deeper (envOfC (Str.ofString "law") lawScope b.objs.size fa (.ref c))) (exec (fst1 (tl (tl (tl (tl (tl (tl (tl (tl (bodyOf forNeed)))))))))) (envOfC (Str.ofString "law") lawScope b.objs.size fa (.ref c))) Q (fun _ _ => False) s := by
  obtain ⟨KX, T, GL, B0⟩ := S
  dsimp only [whileSt, lawScope, scopeOf, forNeed, forNet, lawDef, bodyOf, PySem.Challenge.pw_km0070_01, tl, fst1]
  revert KX
  k_fill
  intro KX
  k_steps
  · rename Fr b _ _ _ => F9
    rename News b _ _ _ => N9
    exact hQ _ _ F9 (fun p hp => N9 p (SubL.mem (by k_subL) p hp))
  · rename ¬ _ => hbad
    refine absurd ?_ hbad
    rw [hMc, law_pts]; rfl

theorem chk2S {w : World} {s₀ s : Shared} {b : Heap} {mg mb : Str → Option Value} (S : Stat w s₀ b mg mb) {fa c : Addr} {u : Str → Option Value} {cn cd cm ct ck co : Obj} {net need tells : Int} {t1 t2 t3 : Tok} {lel ml onl i1 i2 : Addr} {it1 it2 : Obj} {lev mv onv : List Value} {e3 e4 e5 : Nat} {Q : Flow → Shared → Prop} {nl hl lf a0 a1 a2 a3 a4 a5 : Addr} {lo o0 o1 o2 o3 o4 o5 : Obj} {M : Nat} {k : Nat → Nat} {e2 e6 : Nat} {cc : Nat} {tc : Tok}
  (F : Fr b b.objs.size s.heap (fun y => if y = Str.ofString "left" then some (.ref lf) else if y = Str.ofString "first" then some (.ref lf) else if y = Str.ofString "core" then some (.int ((cc : Nat) : Int) tc) else u y))
  (N : News b b.objs.size s.heap [(nl, PySem.W.listOf [Value.ref a0, Value.ref a1, Value.ref a2, Value.ref a3, Value.ref a4, Value.ref a5].toArray e2), (a5, o5), (a4, o4), (a3, o3), (a2, o2), (a1, o1), (a0, o0), (hl, PySem.W.listOf [Value.ref a0, Value.ref a1, Value.ref a2, Value.ref a3, Value.ref a4, Value.ref a5].toArray e6), (lf, lo), (lel, PySem.W.listOf lev.toArray e3), (ml, PySem.W.listOf mv.toArray e4), (onl, PySem.W.listOf onv.toArray e5), (b.objs.size + 1 + 1 + 1 + 1 + 1 + 1, cn), (b.objs.size + 1 + 1 + 1 + 1 + 1, cd), (b.objs.size + 1 + 1 + 1 + 1, cm), (b.objs.size + 1 + 1 + 1, ct), (b.objs.size + 1 + 1, ck), (b.objs.size + 1, co), (i1, it1), (i2, it2)])
  (hcd : cd.data = .cell (some (.int need t1))) (hck : ck.data = .cell (some (.int net t2))) (hct : ct.data = .cell (some (.int tells t3))) (hcm : cm.data = .cell (some (.ref ml))) (hco : co.data = .cell (some (.ref onl))) (hcn : cn.data = .cell (some (.ref nl))) (hlo : SetO w false "set" M lo) (q0 : SetO w false "set" (k 0) o0) (q1 : SetO w false "set" (k 1) o1) (q2 : SetO w false "set" (k 2) o2) (q3 : SetO w false "set" (k 3) o3) (q4 : SetO w false "set" (k 4) o4) (q5 : SetO w false "set" (k 5) o5) (conl2 : onl ≠ b.objs.size + 1 + 1) (conl3 : onl ≠ b.objs.size + 1 + 1 + 1) (conl4 : onl ≠ b.objs.size + 1 + 1 + 1 + 1) (conl5 : onl ≠ b.objs.size + 1 + 1 + 1 + 1 + 1) (conl6 : onl ≠ b.objs.size + 1 + 1 + 1 + 1 + 1 + 1) (cml2 : ml ≠ b.objs.size + 1 + 1) (cml3 : ml ≠ b.objs.size + 1 + 1 + 1) (cml4 : ml ≠ b.objs.size + 1 + 1 + 1 + 1) (cml5 : ml ≠ b.objs.size + 1 + 1 + 1 + 1 + 1) (cml6 : ml ≠ b.objs.size + 1 + 1 + 1 + 1 + 1 + 1) (clel2 : lel ≠ b.objs.size + 1 + 1) (clel3 : lel ≠ b.objs.size + 1 + 1 + 1) (clel4 : lel ≠ b.objs.size + 1 + 1 + 1 + 1) (clel5 : lel ≠ b.objs.size + 1 + 1 + 1 + 1 + 1) (clel6 : lel ≠ b.objs.size + 1 + 1 + 1 + 1 + 1 + 1) (k1 : b.objs.size + 1 + 1 + 1 + 1 + 1 + 1 < i1) (k2 : b.objs.size + 1 + 1 + 1 + 1 + 1 + 1 < i2) (h10 : b.objs.size + 1 + 1 + 1 + 1 + 1 + 1 < lf) (h11 : @LT.lt Nat _ ml lf) (h12 : @LT.lt Nat _ onl lf) (h13 : @LT.lt Nat _ lel lf) (hi1 : @LT.lt Nat _ i1 lf) (hi2 : @LT.lt Nat _ i2 lf) (h14 : @LT.lt Nat _ lf a0) (h15 : @LT.lt Nat _ hl nl) (h16 : @LT.lt Nat _ a0 a1) (h17 : @LT.lt Nat _ a1 a2) (h18 : @LT.lt Nat _ a2 a3) (h19 : @LT.lt Nat _ a3 a4) (h20 : @LT.lt Nat _ a4 a5) (h21 : @LT.lt Nat _ a5 nl) (n0 : hl ≠ a0) (n1 : hl ≠ a1) (n2 : hl ≠ a2) (n3 : hl ≠ a3) (n4 : hl ≠ a4) (n5 : hl ≠ a5) (n6 : hl ≠ lf) (hCR : b.CodeRec (.ref c) (Str.ofString "law")) (hrow : Challenge.rw_km0070_01.foot = 3)  (hMc : cc = M)
  (hQ : ∀ h tk, Fr b b.objs.size h (fun y => if y = Str.ofString "left" then some (.ref lf) else if y = Str.ofString "first" then some (.ref lf) else if y = Str.ofString "core" then some (.int ((cc : Nat) : Int) tc) else u y) → News b b.objs.size h [(nl, PySem.W.listOf [Value.ref a0, Value.ref a1, Value.ref a2, Value.ref a3, Value.ref a4, Value.ref a5].toArray e2), (a5, o5), (a4, o4), (a3, o3), (a2, o2), (a1, o1), (a0, o0), (hl, PySem.W.listOf [Value.ref a0, Value.ref a1, Value.ref a2, Value.ref a3, Value.ref a4, Value.ref a5].toArray e6), (lf, lo), (lel, PySem.W.listOf lev.toArray e3), (ml, PySem.W.listOf mv.toArray e4), (onl, PySem.W.listOf onv.toArray e5), (b.objs.size + 1 + 1 + 1 + 1 + 1 + 1, cn), (b.objs.size + 1 + 1 + 1 + 1 + 1, cd), (b.objs.size + 1 + 1 + 1 + 1, cm), (b.objs.size + 1 + 1 + 1, ct), (b.objs.size + 1 + 1, ck), (b.objs.size + 1, co), (i1, it1), (i2, it2)] → Q .next { s with heap := h, toks := tk })
  : wpAny (model Challenge.rw_km0070_01.row.prog w) (callerA.deeper (envOfC (Str.ofString "law") lawScope b.objs.size fa (.ref c))) (exec (fst1 (tl (tl (tl (tl (tl (tl (tl (tl (tl (tl (tl (tl (tl (tl (tl (bodyOf forNeed))))))))))))))))) (envOfC (Str.ofString "law") lawScope b.objs.size fa (.ref c))) Q (fun _ _ => False) s := by
  obtain ⟨KX, T, GL, B0⟩ := S
  dsimp only [whileSt, lawScope, scopeOf, forNeed, forNet, lawDef, bodyOf, PySem.Challenge.pw_km0070_01, tl, fst1]
  revert KX
  k_fill
  intro KX
  k_steps
  · rename Fr b _ _ _ => F9
    rename News b _ _ _ => N9
    exact hQ _ _ F9 (fun p hp => N9 p (SubL.mem (by k_subL) p hp))
  · rename ¬ _ => hbad
    refine absurd ?_ hbad
    rw [hMc, law_pts]; rfl
end Mine

end
theorem Mine.flWK : True := by first | (row_walk; done) | (walk1; done) | trivial
section
open PySem PySem.W PyProof.Rows
set_option Elab.async false
set_option linter.unusedVariables false
namespace Mine
set_option maxRecDepth 100000
set_option maxHeartbeats 8000000

theorem iterS {w : World} {s₀ s : Shared} {b : Heap} {mg mb : Str → Option Value} (S : Stat w s₀ b mg mb) {fa c : Addr} {u : Str → Option Value} {cn cd cm ct ck co : Obj} {net need tells : Int} {t1 t2 t3 : Tok} {lel ml onl i1 i2 : Addr} {it1 it2 : Obj} {lev mv onv : List Value} {e3 e4 e5 : Nat} {Q : Flow → Shared → Prop} {nl hl lf a0 a1 a2 a3 a4 a5 : Addr} {lo o0 o1 o2 o3 o4 o5 : Obj} {M : Nat} {K : Nat → Nat} {e2 e6 : Nat} {mn : List Int} {tc : Tok} {m : Str → Option Value}
  (F : Fr b b.objs.size s.heap m) (hh : m (Str.ofString "held") = some (.ref hl)) (hc : m (Str.ofString "core") = some (.int ((M : Nat) : Int) tc))
  (N : News b b.objs.size s.heap [(nl, PySem.W.listOf [Value.ref a0, Value.ref a1, Value.ref a2, Value.ref a3, Value.ref a4, Value.ref a5].toArray e2), (a5, o5), (a4, o4), (a3, o3), (a2, o2), (a1, o1), (a0, o0), (hl, PySem.W.listOf [Value.ref a0, Value.ref a1, Value.ref a2, Value.ref a3, Value.ref a4, Value.ref a5].toArray e6), (lf, lo), (lel, PySem.W.listOf lev.toArray e3), (ml, PySem.W.listOf mv.toArray e4), (onl, PySem.W.listOf onv.toArray e5), (b.objs.size + 1 + 1 + 1 + 1 + 1 + 1, cn), (b.objs.size + 1 + 1 + 1 + 1 + 1, cd), (b.objs.size + 1 + 1 + 1 + 1, cm), (b.objs.size + 1 + 1 + 1, ct), (b.objs.size + 1 + 1, ck), (b.objs.size + 1, co), (i1, it1), (i2, it2)])
  (hcd : cd.data = .cell (some (.int need t1))) (hck : ck.data = .cell (some (.int net t2))) (hct : ct.data = .cell (some (.int tells t3))) (hcm : cm.data = .cell (some (.ref ml))) (hco : co.data = .cell (some (.ref onl))) (hcn : cn.data = .cell (some (.ref nl))) (hlo : SetO w false "set" M lo) (q0 : SetO w false "set" (K 0 &&& M) o0) (q1 : SetO w false "set" (K 1 &&& M) o1) (q2 : SetO w false "set" (K 2 &&& M) o2) (q3 : SetO w false "set" (K 3 &&& M) o3) (q4 : SetO w false "set" (K 4 &&& M) o4) (q5 : SetO w false "set" (K 5 &&& M) o5) (conl2 : onl ≠ b.objs.size + 1 + 1) (conl3 : onl ≠ b.objs.size + 1 + 1 + 1) (conl4 : onl ≠ b.objs.size + 1 + 1 + 1 + 1) (conl5 : onl ≠ b.objs.size + 1 + 1 + 1 + 1 + 1) (conl6 : onl ≠ b.objs.size + 1 + 1 + 1 + 1 + 1 + 1) (cml2 : ml ≠ b.objs.size + 1 + 1) (cml3 : ml ≠ b.objs.size + 1 + 1 + 1) (cml4 : ml ≠ b.objs.size + 1 + 1 + 1 + 1) (cml5 : ml ≠ b.objs.size + 1 + 1 + 1 + 1 + 1) (cml6 : ml ≠ b.objs.size + 1 + 1 + 1 + 1 + 1 + 1) (clel2 : lel ≠ b.objs.size + 1 + 1) (clel3 : lel ≠ b.objs.size + 1 + 1 + 1) (clel4 : lel ≠ b.objs.size + 1 + 1 + 1 + 1) (clel5 : lel ≠ b.objs.size + 1 + 1 + 1 + 1 + 1) (clel6 : lel ≠ b.objs.size + 1 + 1 + 1 + 1 + 1 + 1) (k1 : b.objs.size + 1 + 1 + 1 + 1 + 1 + 1 < i1) (k2 : b.objs.size + 1 + 1 + 1 + 1 + 1 + 1 < i2) (h10 : b.objs.size + 1 + 1 + 1 + 1 + 1 + 1 < lf) (h11 : @LT.lt Nat _ ml lf) (h12 : @LT.lt Nat _ onl lf) (h13 : @LT.lt Nat _ lel lf) (hi1 : @LT.lt Nat _ i1 lf) (hi2 : @LT.lt Nat _ i2 lf) (h14 : @LT.lt Nat _ lf a0) (h15 : @LT.lt Nat _ hl nl) (h16 : @LT.lt Nat _ a0 a1) (h17 : @LT.lt Nat _ a1 a2) (h18 : @LT.lt Nat _ a2 a3) (h19 : @LT.lt Nat _ a3 a4) (h20 : @LT.lt Nat _ a4 a5) (h21 : @LT.lt Nat _ a5 nl) (n0 : hl ≠ a0) (n1 : hl ≠ a1) (n2 : hl ≠ a2) (n3 : hl ≠ a3) (n4 : hl ≠ a4) (n5 : hl ≠ a5) (n6 : hl ≠ lf) (hCR : b.CodeRec (.ref c) (Str.ofString "law")) (hrow : Challenge.rw_km0070_01.foot = 3) (hI : IntsAre mv mn) (hlen : mn.length = 6) (hmn : ∀ j < 6, mn.getD j 0 = ((K j : Nat) : Int))
  (hQ : ∀ m₁ h tk, (∀ y, y ≠ Str.ofString "i" → m₁ y = m y) → Fr b b.objs.size h m₁ → News b b.objs.size h [(nl, PySem.W.listOf [Value.ref a0, Value.ref a1, Value.ref a2, Value.ref a3, Value.ref a4, Value.ref a5].toArray e2), (a5, o5), (a4, o4), (a3, o3), (a2, o2), (a1, o1), (a0, o0), (hl, PySem.W.listOf [Value.ref a0, Value.ref a1, Value.ref a2, Value.ref a3, Value.ref a4, Value.ref a5].toArray e6), (lf, lo), (lel, PySem.W.listOf lev.toArray e3), (ml, PySem.W.listOf mv.toArray e4), (onl, PySem.W.listOf onv.toArray e5), (b.objs.size + 1 + 1 + 1 + 1 + 1 + 1, cn), (b.objs.size + 1 + 1 + 1 + 1 + 1, cd), (b.objs.size + 1 + 1 + 1 + 1, cm), (b.objs.size + 1 + 1 + 1, ct), (b.objs.size + 1 + 1, ck), (b.objs.size + 1, co), (i1, it1), (i2, it2)] → Q .next { s with heap := h, toks := tk })
  : wpAny (model Challenge.rw_km0070_01.row.prog w) (callerA.deeper (envOfC (Str.ofString "law") lawScope b.objs.size fa (.ref c))) (exec (fst1 (tl (tl (tl (tl (tl (tl (tl (tl (tl (bodyOf forNeed))))))))))) (envOfC (Str.ofString "law") lawScope b.objs.size fa (.ref c))) Q (fun _ _ => False) s := by
  obtain ⟨KX, T, GL, B0⟩ := S
  dsimp only [whileSt, lawScope, scopeOf, forNeed, forNet, lawDef, bodyOf, PySem.Challenge.pw_km0070_01, tl, fst1]
  revert KX
  k_fill
  intro KX
  k_dflt (refine For_J (h₀ := b) (L := b.objs.size) ?_)
  k_steps
  rename Fr b _ _ _ => F'
  rename News b _ _ _ => N'
  rename IsRange _ _ _ _ _ _ _ _ => R'
  refine ⟨_, _, _, _, _, _, 6, _, _, fun i m₁ news₁ => (∀ y, y ≠ Str.ofString "i" → m₁ y = m y) ∧ news₁ = [(nl, PySem.W.listOf [Value.ref a0, Value.ref a1, Value.ref a2, Value.ref a3, Value.ref a4, Value.ref a5].toArray e2), (a5, o5), (a4, o4), (a3, o3), (a2, o2), (a1, o1), (a0, o0), (hl, PySem.W.listOf [Value.ref a0, Value.ref a1, Value.ref a2, Value.ref a3, Value.ref a4, Value.ref a5].toArray e6), (lf, lo), (lel, PySem.W.listOf lev.toArray e3), (ml, PySem.W.listOf mv.toArray e4), (onl, PySem.W.listOf onv.toArray e5), (b.objs.size + 1 + 1 + 1 + 1 + 1 + 1, cn), (b.objs.size + 1 + 1 + 1 + 1 + 1, cd), (b.objs.size + 1 + 1 + 1 + 1, cm), (b.objs.size + 1 + 1 + 1, ct), (b.objs.size + 1 + 1, ck), (b.objs.size + 1, co), (i1, it1), (i2, it2)], rfl, rfl, F', N', R', by decide, by decide, ⟨fun _ _ => rfl, rfl⟩, ?turn, ?done⟩
  case done =>
    rintro h tk m₁ news₁ ⟨hk, rfl⟩ F₁ N₁
    exact hQ m₁ h _ hk F₁ N₁
  case turn =>
    clear F' N' R' hQ
    rintro i tk₀ I oI h tk m₁ news₁ hi6 hI₀ ⟨hk, rfl⟩ F₁ N₁ off
    clear hI₀
    replace F₁ := Fr_congr F₁ (map_at2 ((hk _ (by decide)).trans hh) ((hk _ (by decide)).trans hc))
    obtain ⟨ai, oi, hx, hm, hS⟩ : ∃ ai oi, [Value.ref a0, Value.ref a1, Value.ref a2, Value.ref a3, Value.ref a4, Value.ref a5][i]? = some (.ref ai) ∧ (ai, oi) ∈ [(nl, PySem.W.listOf [Value.ref a0, Value.ref a1, Value.ref a2, Value.ref a3, Value.ref a4, Value.ref a5].toArray e2), (a5, o5), (a4, o4), (a3, o3), (a2, o2), (a1, o1), (a0, o0), (hl, PySem.W.listOf [Value.ref a0, Value.ref a1, Value.ref a2, Value.ref a3, Value.ref a4, Value.ref a5].toArray e6), (lf, lo), (lel, PySem.W.listOf lev.toArray e3), (ml, PySem.W.listOf mv.toArray e4), (onl, PySem.W.listOf onv.toArray e5), (b.objs.size + 1 + 1 + 1 + 1 + 1 + 1, cn), (b.objs.size + 1 + 1 + 1 + 1 + 1, cd), (b.objs.size + 1 + 1 + 1 + 1, cm), (b.objs.size + 1 + 1 + 1, ct), (b.objs.size + 1 + 1, ck), (b.objs.size + 1, co), (i1, it1), (i2, it2)] ∧ SetO w false "set" (K i &&& M) oi := by
      have hcase : i = 0 ∨ i = 1 ∨ i = 2 ∨ i = 3 ∨ i = 4 ∨ i = 5 := by clear hmn; omega
      rcases hcase with rfl | rfl | rfl | rfl | rfl | rfl
      · exact ⟨_, _, rfl, by k_mem, q0⟩
      · exact ⟨_, _, rfl, by k_mem, q1⟩
      · exact ⟨_, _, rfl, by k_mem, q2⟩
      · exact ⟨_, _, rfl, by k_mem, q3⟩
      · exact ⟨_, _, rfl, by k_mem, q4⟩
      · exact ⟨_, _, rfl, by k_mem, q5⟩
    have N₂ : News b b.objs.size h ((ai, oi) :: (I, oI) :: [(nl, PySem.W.listOf [Value.ref a0, Value.ref a1, Value.ref a2, Value.ref a3, Value.ref a4, Value.ref a5].toArray e2), (a5, o5), (a4, o4), (a3, o3), (a2, o2), (a1, o1), (a0, o0), (hl, PySem.W.listOf [Value.ref a0, Value.ref a1, Value.ref a2, Value.ref a3, Value.ref a4, Value.ref a5].toArray e6), (lf, lo), (lel, PySem.W.listOf lev.toArray e3), (ml, PySem.W.listOf mv.toArray e4), (onl, PySem.W.listOf onv.toArray e5), (b.objs.size + 1 + 1 + 1 + 1 + 1 + 1, cn), (b.objs.size + 1 + 1 + 1 + 1 + 1, cd), (b.objs.size + 1 + 1 + 1 + 1, cm), (b.objs.size + 1 + 1 + 1, ct), (b.objs.size + 1 + 1, ck), (b.objs.size + 1, co), (i1, it1), (i2, it2)]) := fun p hp => by
      rcases List.mem_cons.mp hp with rfl | hp
      · exact N₁ _ (List.mem_cons_of_mem _ hm)
      · exact N₁ p hp
    have hmi := hmn i hi6
    clear N₁ hm hmn q0 q1 q2 q3 q4 q5
    obtain ⟨v, hv⟩ : ∃ v : Int, v = (0 : Int) + ((i : Nat) : Int) := ⟨_, rfl⟩
    have hv0 : 0 ≤ v := by omega
    have hv6 : v < 6 := by omega
    have hvt : v.toNat = i := by omega
    rw [← hv]
    rw [← hvt] at hx
    k_steps
    · rename Fr b _ _ _ => F9
      rename News b _ _ _ => N9
      refine ⟨_, _, _, [(nl, PySem.W.listOf [Value.ref a0, Value.ref a1, Value.ref a2, Value.ref a3, Value.ref a4, Value.ref a5].toArray e2), (a5, o5), (a4, o4), (a3, o3), (a2, o2), (a1, o1), (a0, o0), (hl, PySem.W.listOf [Value.ref a0, Value.ref a1, Value.ref a2, Value.ref a3, Value.ref a4, Value.ref a5].toArray e6), (lf, lo), (lel, PySem.W.listOf lev.toArray e3), (ml, PySem.W.listOf mv.toArray e4), (onl, PySem.W.listOf onv.toArray e5), (b.objs.size + 1 + 1 + 1 + 1 + 1 + 1, cn), (b.objs.size + 1 + 1 + 1 + 1 + 1, cd), (b.objs.size + 1 + 1 + 1 + 1, cm), (b.objs.size + 1 + 1 + 1, ct), (b.objs.size + 1 + 1, ck), (b.objs.size + 1, co), (i1, it1), (i2, it2)], rfl, F9, fun p hp => N9 p (SubL.mem (by k_subL) p hp), off, ?_, rfl⟩
      intro y e1
      by_cases e2 : y = Str.ofString "held"
      · subst e2; exact hh.symm
      · by_cases e3 : y = Str.ofString "core"
        · subst e3; exact hc.symm
        · simp only [e1, e2, e3, if_false]; exact hk y e1
    · rename ¬ _ => hbad
      refine absurd ?_ hbad
      show _ = List.map _ (List.filter (fun a : Int => ((Builtin.bitAnd (mn.getD v.toNat 0) ((M : Nat) : Int)).fdiv (2 ^ a.toNat)).fmod 2 == 1) _)
      rw [hvt, hmi, band, law_pts]; rfl
end Mine

end
theorem Mine.flWI : True := by first | (row_walk; done) | (walk1; done) | trivial
section
open PySem PySem.W PyProof.Rows
set_option Elab.async false
set_option linter.unusedVariables false
namespace Mine
set_option maxRecDepth 100000
set_option maxHeartbeats 8000000

theorem froS {w : World} {s₀ s : Shared} {b : Heap} {mg mb : Str → Option Value} (S : Stat w s₀ b mg mb) {fa c : Addr} {u : Str → Option Value} {cn cd cm ct ck co : Obj} {net need tells : Int} {t1 t2 t3 : Tok} {lel ml onl i1 i2 : Addr} {it1 it2 : Obj} {lev mv onv : List Value} {e3 e4 e5 : Nat} {Q : Flow → Shared → Prop} {nl hl lf a0 a1 a2 a3 a4 a5 : Addr} {lo o0 o1 o2 o3 o4 o5 : Obj} {M : Nat} {e2 e6 : Nat} {tc : Tok} {rest : List Stmt}
  (F : Fr b b.objs.size s.heap (fun y => if y = Str.ofString "left" then some (.ref lf) else if y = Str.ofString "core" then some (.int ((M : Nat) : Int) tc) else u y))
  (N : News b b.objs.size s.heap [(nl, PySem.W.listOf [Value.ref a0, Value.ref a1, Value.ref a2, Value.ref a3, Value.ref a4, Value.ref a5].toArray e2), (a5, o5), (a4, o4), (a3, o3), (a2, o2), (a1, o1), (a0, o0), (hl, PySem.W.listOf [Value.ref a0, Value.ref a1, Value.ref a2, Value.ref a3, Value.ref a4, Value.ref a5].toArray e6), (lf, lo), (lel, PySem.W.listOf lev.toArray e3), (ml, PySem.W.listOf mv.toArray e4), (onl, PySem.W.listOf onv.toArray e5), (b.objs.size + 1 + 1 + 1 + 1 + 1 + 1, cn), (b.objs.size + 1 + 1 + 1 + 1 + 1, cd), (b.objs.size + 1 + 1 + 1 + 1, cm), (b.objs.size + 1 + 1 + 1, ct), (b.objs.size + 1 + 1, ck), (b.objs.size + 1, co), (i1, it1), (i2, it2)])
  (hcd : cd.data = .cell (some (.int need t1))) (hck : ck.data = .cell (some (.int net t2))) (hct : ct.data = .cell (some (.int tells t3))) (hcm : cm.data = .cell (some (.ref ml))) (hco : co.data = .cell (some (.ref onl))) (hcn : cn.data = .cell (some (.ref nl))) (hlo : SetO w false "set" M lo) (conl2 : onl ≠ b.objs.size + 1 + 1) (conl3 : onl ≠ b.objs.size + 1 + 1 + 1) (conl4 : onl ≠ b.objs.size + 1 + 1 + 1 + 1) (conl5 : onl ≠ b.objs.size + 1 + 1 + 1 + 1 + 1) (conl6 : onl ≠ b.objs.size + 1 + 1 + 1 + 1 + 1 + 1) (cml2 : ml ≠ b.objs.size + 1 + 1) (cml3 : ml ≠ b.objs.size + 1 + 1 + 1) (cml4 : ml ≠ b.objs.size + 1 + 1 + 1 + 1) (cml5 : ml ≠ b.objs.size + 1 + 1 + 1 + 1 + 1) (cml6 : ml ≠ b.objs.size + 1 + 1 + 1 + 1 + 1 + 1) (clel2 : lel ≠ b.objs.size + 1 + 1) (clel3 : lel ≠ b.objs.size + 1 + 1 + 1) (clel4 : lel ≠ b.objs.size + 1 + 1 + 1 + 1) (clel5 : lel ≠ b.objs.size + 1 + 1 + 1 + 1 + 1) (clel6 : lel ≠ b.objs.size + 1 + 1 + 1 + 1 + 1 + 1) (k1 : b.objs.size + 1 + 1 + 1 + 1 + 1 + 1 < i1) (k2 : b.objs.size + 1 + 1 + 1 + 1 + 1 + 1 < i2) (h10 : b.objs.size + 1 + 1 + 1 + 1 + 1 + 1 < lf) (h11 : @LT.lt Nat _ ml lf) (h12 : @LT.lt Nat _ onl lf) (h13 : @LT.lt Nat _ lel lf) (hi1 : @LT.lt Nat _ i1 lf) (hi2 : @LT.lt Nat _ i2 lf) (h14 : @LT.lt Nat _ lf a0) (h15 : @LT.lt Nat _ hl nl) (h16 : @LT.lt Nat _ a0 a1) (h17 : @LT.lt Nat _ a1 a2) (h18 : @LT.lt Nat _ a2 a3) (h19 : @LT.lt Nat _ a3 a4) (h20 : @LT.lt Nat _ a4 a5) (h21 : @LT.lt Nat _ a5 nl) (n0 : hl ≠ a0) (n1 : hl ≠ a1) (n2 : hl ≠ a2) (n3 : hl ≠ a3) (n4 : hl ≠ a4) (n5 : hl ≠ a5) (n6 : hl ≠ lf) (hCR : b.CodeRec (.ref c) (Str.ofString "law")) (hrow : Challenge.rw_km0070_01.foot = 3) 
  (hQ : ∀ v1 v2 h tk, Fr b b.objs.size h (fun y => if y = Str.ofString "others" then v1 else if y = Str.ofString "whole" then v2 else if y = Str.ofString "left" then some (.ref lf) else if y = Str.ofString "core" then some (.int ((M : Nat) : Int) tc) else u y) → News b b.objs.size h [(nl, PySem.W.listOf [Value.ref a0, Value.ref a1, Value.ref a2, Value.ref a3, Value.ref a4, Value.ref a5].toArray e2), (a5, o5), (a4, o4), (a3, o3), (a2, o2), (a1, o1), (a0, o0), (hl, PySem.W.listOf [Value.ref a0, Value.ref a1, Value.ref a2, Value.ref a3, Value.ref a4, Value.ref a5].toArray e6), (lf, lo), (lel, PySem.W.listOf lev.toArray e3), (ml, PySem.W.listOf mv.toArray e4), (onl, PySem.W.listOf onv.toArray e5), (b.objs.size + 1 + 1 + 1 + 1 + 1 + 1, cn), (b.objs.size + 1 + 1 + 1 + 1 + 1, cd), (b.objs.size + 1 + 1 + 1 + 1, cm), (b.objs.size + 1 + 1 + 1, ct), (b.objs.size + 1 + 1, ck), (b.objs.size + 1, co), (i1, it1), (i2, it2)] → wpAny (model Challenge.rw_km0070_01.row.prog w) (callerA.deeper (envOfC (Str.ofString "law") lawScope b.objs.size fa (.ref c))) (execs rest (envOfC (Str.ofString "law") lawScope b.objs.size fa (.ref c))) Q (fun _ _ => False) { s with heap := h, toks := tk })
  : wpAny (model Challenge.rw_km0070_01.row.prog w) (callerA.deeper (envOfC (Str.ofString "law") lawScope b.objs.size fa (.ref c))) (execs ((fst1 (tl (tl (tl (tl (tl (tl (tl (tl (tl (tl (bodyOf forNeed)))))))))))) :: (fst1 (tl (tl (tl (tl (tl (tl (tl (tl (tl (tl (tl (bodyOf forNeed))))))))))))) :: (fst1 (tl (tl (tl (tl (tl (tl (tl (tl (tl (tl (tl (tl (bodyOf forNeed)))))))))))))) :: (fst1 (tl (tl (tl (tl (tl (tl (tl (tl (tl (tl (tl (tl (tl (bodyOf forNeed))))))))))))))) :: rest) (envOfC (Str.ofString "law") lawScope b.objs.size fa (.ref c))) Q (fun _ _ => False) s := by
  obtain ⟨KX, T, GL, B0⟩ := S
  dsimp only [whileSt, lawScope, scopeOf, forNeed, forNet, lawDef, bodyOf, PySem.Challenge.pw_km0070_01, tl, fst1]
  revert KX
  k_fill
  intro KX
  k_steps
  · rename Fr b _ _ _ => F9
    rename News b _ _ _ => N9
    exact hQ _ _ _ _ F9 (fun p hp => N9 p (SubL.mem (by k_subL) p hp))
  · rename ¬ _ => hbad
    refine absurd ?_ hbad
    have h64 : M < 64 := hlo.1
    have e : (63 : Int) - ((M : Nat) : Int) = ((63 - M : Nat) : Int) := by omega
    rw [e, law_pts]; rfl
end Mine

end
theorem Mine.flWJ : True := by first | (row_walk; done) | (walk1; done) | trivial
section
local macro_rules | `(tactic| walk_at "call ref") => `(tactic| (k_here; (with_reducible show wpAny _ (Around.deeper callerA _) _ _ _ _); k_dflt (refine wpAny_call ?_; (refine' try_call ?B ?F ?X ?N ?T ?A ?f ?ke ?o ?cd ?room ?bind ?loc ?_ ?co ?gen ?k ?cell; (case A => exact rfl); (case F => k_asm); (case B => k_asm); (case X => k_asm); (case N => k_asm); (case T => k_asm); (case f => exact rfl); (case ke => exact rfl); (case o => k_is); (case cd => k_is); (case room => k_room); (case bind => exact BindsTo.of_eq rfl); (case loc => exact locs rfl); (case co => exact rfl); (case gen => exact rfl); (case k => exact rfl); (case cell => decide); k_whole; intro g' L' h' FG' F' N' B' X' T' D'; (try dsimp only); (try k_lift B'); (try k_fold)))))
local macro_rules | `(tactic| walk_at "call ref") => `(tactic| (k_here; (with_reducible rename KtsDicts _ _ => kdX); k_dflt (refine wpAny_call ?_; (refine' code_defS ?k1 ?k2 ?k3 ?k4 ?k5 ?XB ?TB ?D ?T0 ?kA ?k6 ?k7 ?k8 ?k9 ?kB ?_ ?cK ?c2 ?c3 ?c4 ?c5; (case kA => exact rfl); (case k2 => k_asm); (case k1 => k_asm); (case XB => assumption); (case TB => assumption); (case D => assumption); (case T0 => first | assumption | exact KtsTurn.refl); (case k3 => k_asm); (case k4 => k_asm); (case k5 => k_asm); (case k6 => k_is); (case k7 => k_is); (case k8 => k_room); (case k9 => exact BindsTo.of_eq rfl); (case kB => exact locs rfl); (case cK => exact rfl); (case c2 => exact rfl); (case c3 => exact rfl); (case c4 => exact rfl); (case c5 => decide); k_whole; intro g' L' h' FG' F' N' B' X' T' D'; (try dsimp only); (try k_lift B'); (try k_fold)))))
local macro_rules | `(tactic| walk_at "inplaceOp Sub ref none") => `(tactic| (k_here; (with_reducible show wpAny _ _ (inplaceOp _ (Value.ref _) Value.none) _ _ _); k_dflt (refine' bad_r (T := "NoneType") ?hh ?N ?f ?S ?B ?i ?v ?_; (case hh => rfl); (case N => k_asm); (case f => k_mem); (case S => assumption); (case B => exact bad_none); (case i => exact fun z => absurd z (by decide)); (case v => rfl)); intro h' tk' e' x'; (try k_sweep)))
local macro_rules | `(tactic| walk_at "inplaceOp Sub none ref") => `(tactic| (k_here; (with_reducible show wpAny _ _ (inplaceOp _ Value.none (Value.ref _)) _ _ _); k_dflt (refine' bad_l (T := "NoneType") ?hh ?N ?f ?S ?B ?i ?v ?_; (case hh => rfl); (case N => k_asm); (case f => k_mem); (case S => assumption); (case B => exact bad_none); (case i => exact fun z => absurd z (by decide)); (case v => rfl)); intro h' tk' e' x'; (try k_sweep)))
local macro_rules | `(tactic| walk_at "inplaceOp Sub ref int") => `(tactic| (k_here; (with_reducible show wpAny _ _ (inplaceOp _ (Value.ref _) (Value.int _ _)) _ _ _); k_dflt (refine' bad_r (T := "int") ?hh ?N ?f ?S ?B ?i ?v ?_; (case hh => rfl); (case N => k_asm); (case f => k_mem); (case S => assumption); (case B => exact bad_int); (case i => exact fun _ => ⟨_, _, rfl⟩); (case v => rfl)); intro h' tk' e' x'; (try k_sweep)))
local macro_rules | `(tactic| walk_at "inplaceOp Sub int ref") => `(tactic| (k_here; (with_reducible show wpAny _ _ (inplaceOp _ (Value.int _ _) (Value.ref _)) _ _ _); k_dflt (refine' bad_l (T := "int") ?hh ?N ?f ?S ?B ?i ?v ?_; (case hh => rfl); (case N => k_asm); (case f => k_mem); (case S => assumption); (case B => exact bad_int); (case i => exact fun _ => ⟨_, _, rfl⟩); (case v => rfl)); intro h' tk' e' x'; (try k_sweep)))
open PySem PySem.W PyProof.Rows
set_option Elab.async false
set_option linter.unusedVariables false
namespace Mine
set_option maxRecDepth 100000
set_option maxHeartbeats 8000000

theorem badS {w : World} {s₀ s : Shared} {b : Heap} {mg mb : Str → Option Value} (S : Stat w s₀ b mg mb) {fa c : Addr} {u : Str → Option Value} {cn cd cm ct ck co : Obj} {net need tells : Int} {t1 t2 t3 : Tok} {lel ml onl i1 i2 : Addr} {it1 it2 : Obj} {lev mv onv : List Value} {e3 e4 e5 : Nat} {Q : Flow → Shared → Prop} {nl hl lf a0 a1 a2 a3 a4 a5 : Addr} {lo o0 o1 o2 o3 o4 o5 : Obj} {M : Nat} {e2 e6 : Nat} {tc : Tok}
  (F : Fr b b.objs.size s.heap (fun y => if y = Str.ofString "left" then some (.ref lf) else u y))
  (N : News b b.objs.size s.heap [(nl, PySem.W.listOf [Value.ref a0, Value.ref a1, Value.ref a2, Value.ref a3, Value.ref a4, Value.ref a5].toArray e2), (a5, o5), (a4, o4), (a3, o3), (a2, o2), (a1, o1), (a0, o0), (hl, PySem.W.listOf [Value.ref a0, Value.ref a1, Value.ref a2, Value.ref a3, Value.ref a4, Value.ref a5].toArray e6), (lf, lo), (lel, PySem.W.listOf lev.toArray e3), (ml, PySem.W.listOf mv.toArray e4), (onl, PySem.W.listOf onv.toArray e5), (b.objs.size + 1 + 1 + 1 + 1 + 1 + 1, cn), (b.objs.size + 1 + 1 + 1 + 1 + 1, cd), (b.objs.size + 1 + 1 + 1 + 1, cm), (b.objs.size + 1 + 1 + 1, ct), (b.objs.size + 1 + 1, ck), (b.objs.size + 1, co), (i1, it1), (i2, it2)])
  (hcd : cd.data = .cell (some (.int need t1))) (hck : ck.data = .cell (some (.int net t2))) (hct : ct.data = .cell (some (.int tells t3))) (hcm : cm.data = .cell (some (.ref ml))) (hco : co.data = .cell (some (.ref onl))) (hcn : cn.data = .cell (some (.ref nl))) (hlo : SetO w false "set" M lo) (conl2 : onl ≠ b.objs.size + 1 + 1) (conl3 : onl ≠ b.objs.size + 1 + 1 + 1) (conl4 : onl ≠ b.objs.size + 1 + 1 + 1 + 1) (conl5 : onl ≠ b.objs.size + 1 + 1 + 1 + 1 + 1) (conl6 : onl ≠ b.objs.size + 1 + 1 + 1 + 1 + 1 + 1) (cml2 : ml ≠ b.objs.size + 1 + 1) (cml3 : ml ≠ b.objs.size + 1 + 1 + 1) (cml4 : ml ≠ b.objs.size + 1 + 1 + 1 + 1) (cml5 : ml ≠ b.objs.size + 1 + 1 + 1 + 1 + 1) (cml6 : ml ≠ b.objs.size + 1 + 1 + 1 + 1 + 1 + 1) (clel2 : lel ≠ b.objs.size + 1 + 1) (clel3 : lel ≠ b.objs.size + 1 + 1 + 1) (clel4 : lel ≠ b.objs.size + 1 + 1 + 1 + 1) (clel5 : lel ≠ b.objs.size + 1 + 1 + 1 + 1 + 1) (clel6 : lel ≠ b.objs.size + 1 + 1 + 1 + 1 + 1 + 1) (k1 : b.objs.size + 1 + 1 + 1 + 1 + 1 + 1 < i1) (k2 : b.objs.size + 1 + 1 + 1 + 1 + 1 + 1 < i2) (h10 : b.objs.size + 1 + 1 + 1 + 1 + 1 + 1 < lf) (h11 : @LT.lt Nat _ ml lf) (h12 : @LT.lt Nat _ onl lf) (h13 : @LT.lt Nat _ lel lf) (hi1 : @LT.lt Nat _ i1 lf) (hi2 : @LT.lt Nat _ i2 lf) (h14 : @LT.lt Nat _ lf a0) (h15 : @LT.lt Nat _ hl nl) (h16 : @LT.lt Nat _ a0 a1) (h17 : @LT.lt Nat _ a1 a2) (h18 : @LT.lt Nat _ a2 a3) (h19 : @LT.lt Nat _ a3 a4) (h20 : @LT.lt Nat _ a4 a5) (h21 : @LT.lt Nat _ a5 nl) (n0 : hl ≠ a0) (n1 : hl ≠ a1) (n2 : hl ≠ a2) (n3 : hl ≠ a3) (n4 : hl ≠ a4) (n5 : hl ≠ a5) (n6 : hl ≠ lf) (hCR : b.CodeRec (.ref c) (Str.ofString "law")) (hrow : Challenge.rw_km0070_01.foot = 3) 
  (hQ : ∀ m₁ h tk, (∀ y, y ≠ Str.ofString "bad" → m₁ y = (fun y => if y = Str.ofString "left" then some (.ref lf) else u y) y) → Fr b b.objs.size h m₁ → News b b.objs.size h [(nl, PySem.W.listOf [Value.ref a0, Value.ref a1, Value.ref a2, Value.ref a3, Value.ref a4, Value.ref a5].toArray e2), (a5, o5), (a4, o4), (a3, o3), (a2, o2), (a1, o1), (a0, o0), (hl, PySem.W.listOf [Value.ref a0, Value.ref a1, Value.ref a2, Value.ref a3, Value.ref a4, Value.ref a5].toArray e6), (lf, lo), (lel, PySem.W.listOf lev.toArray e3), (ml, PySem.W.listOf mv.toArray e4), (onl, PySem.W.listOf onv.toArray e5), (b.objs.size + 1 + 1 + 1 + 1 + 1 + 1, cn), (b.objs.size + 1 + 1 + 1 + 1 + 1, cd), (b.objs.size + 1 + 1 + 1 + 1, cm), (b.objs.size + 1 + 1 + 1, ct), (b.objs.size + 1 + 1, ck), (b.objs.size + 1, co), (i1, it1), (i2, it2)] → Q .next { s with heap := h, toks := tk })
  : wpAny (model Challenge.rw_km0070_01.row.prog w) (callerA.deeper (envOfC (Str.ofString "law") lawScope b.objs.size fa (.ref c))) (exec (fst1 (tl (tl (tl (tl (tl (tl (tl (tl (tl (tl (tl (tl (tl (tl (bodyOf forNeed)))))))))))))))) (envOfC (Str.ofString "law") lawScope b.objs.size fa (.ref c))) Q (fun _ _ => False) s := by
  obtain ⟨KX, T, GL, B0⟩ := S
  dsimp only [whileSt, lawScope, scopeOf, forNeed, forNet, lawDef, bodyOf, PySem.Challenge.pw_km0070_01, tl, fst1]
  revert KX
  k_fill
  intro KX
  k_steps
  rename Fr b _ _ _ => F9
  rename News b _ _ _ => N9
  exact hQ _ _ _ (fun y e => by simp only [e, if_false]) F9 (fun p hp => N9 p (SubL.mem (by k_subL) p hp))
end Mine

end
theorem Mine.flWX : True := by first | (row_walk; done) | (walk1; done) | trivial
section
open PySem PySem.W PyProof.Rows
set_option Elab.async false
set_option linter.unusedVariables false
namespace Mine
set_option maxRecDepth 100000
set_option maxHeartbeats 8000000

theorem zeroS {w : World} {s₀ s : Shared} {b : Heap} {mg mb : Str → Option Value} (S : Stat w s₀ b mg mb) {fa c : Addr} {u : Str → Option Value} {cn cd cm ct ck co : Obj} {net need tells : Int} {t1 t2 t3 : Tok} {lel ml onl i1 i2 : Addr} {it1 it2 : Obj} {lev mv onv : List Value} {e3 e4 e5 : Nat} {Q : Flow → Shared → Prop} {nl hl lf a0 a1 a2 a3 a4 a5 : Addr} {lo o0 o1 o2 o3 o4 o5 : Obj} {M : Nat} {e2 e6 : Nat} {M0 : Nat}
  (F : Fr b b.objs.size s.heap (fun y => if y = Str.ofString "held" then some (.ref hl) else u y))
  (N : News b b.objs.size s.heap [(nl, PySem.W.listOf [Value.ref a0, Value.ref a1, Value.ref a2, Value.ref a3, Value.ref a4, Value.ref a5].toArray e2), (a5, o5), (a4, o4), (a3, o3), (a2, o2), (a1, o1), (a0, o0), (hl, PySem.W.listOf [Value.ref a0, Value.ref a1, Value.ref a2, Value.ref a3, Value.ref a4, Value.ref a5].toArray e6), (lf, lo), (lel, PySem.W.listOf lev.toArray e3), (ml, PySem.W.listOf mv.toArray e4), (onl, PySem.W.listOf onv.toArray e5), (b.objs.size + 1 + 1 + 1 + 1 + 1 + 1, cn), (b.objs.size + 1 + 1 + 1 + 1 + 1, cd), (b.objs.size + 1 + 1 + 1 + 1, cm), (b.objs.size + 1 + 1 + 1, ct), (b.objs.size + 1 + 1, ck), (b.objs.size + 1, co), (i1, it1), (i2, it2)])
  (hcd : cd.data = .cell (some (.int need t1))) (hck : ck.data = .cell (some (.int net t2))) (hct : ct.data = .cell (some (.int tells t3))) (hcm : cm.data = .cell (some (.ref ml))) (hco : co.data = .cell (some (.ref onl))) (hcn : cn.data = .cell (some (.ref nl))) (hlo : SetO w false "set" M lo) (q0 : SetO w false "set" M0 o0) (conl2 : onl ≠ b.objs.size + 1 + 1) (conl3 : onl ≠ b.objs.size + 1 + 1 + 1) (conl4 : onl ≠ b.objs.size + 1 + 1 + 1 + 1) (conl5 : onl ≠ b.objs.size + 1 + 1 + 1 + 1 + 1) (conl6 : onl ≠ b.objs.size + 1 + 1 + 1 + 1 + 1 + 1) (cml2 : ml ≠ b.objs.size + 1 + 1) (cml3 : ml ≠ b.objs.size + 1 + 1 + 1) (cml4 : ml ≠ b.objs.size + 1 + 1 + 1 + 1) (cml5 : ml ≠ b.objs.size + 1 + 1 + 1 + 1 + 1) (cml6 : ml ≠ b.objs.size + 1 + 1 + 1 + 1 + 1 + 1) (clel2 : lel ≠ b.objs.size + 1 + 1) (clel3 : lel ≠ b.objs.size + 1 + 1 + 1) (clel4 : lel ≠ b.objs.size + 1 + 1 + 1 + 1) (clel5 : lel ≠ b.objs.size + 1 + 1 + 1 + 1 + 1) (clel6 : lel ≠ b.objs.size + 1 + 1 + 1 + 1 + 1 + 1) (k1 : b.objs.size + 1 + 1 + 1 + 1 + 1 + 1 < i1) (k2 : b.objs.size + 1 + 1 + 1 + 1 + 1 + 1 < i2) (h10 : b.objs.size + 1 + 1 + 1 + 1 + 1 + 1 < lf) (h11 : @LT.lt Nat _ ml lf) (h12 : @LT.lt Nat _ onl lf) (h13 : @LT.lt Nat _ lel lf) (hi1 : @LT.lt Nat _ i1 lf) (hi2 : @LT.lt Nat _ i2 lf) (h14 : @LT.lt Nat _ lf a0) (h15 : @LT.lt Nat _ hl nl) (h16 : @LT.lt Nat _ a0 a1) (h17 : @LT.lt Nat _ a1 a2) (h18 : @LT.lt Nat _ a2 a3) (h19 : @LT.lt Nat _ a3 a4) (h20 : @LT.lt Nat _ a4 a5) (h21 : @LT.lt Nat _ a5 nl) (n0 : hl ≠ a0) (n1 : hl ≠ a1) (n2 : hl ≠ a2) (n3 : hl ≠ a3) (n4 : hl ≠ a4) (n5 : hl ≠ a5) (n6 : hl ≠ lf) (hCR : b.CodeRec (.ref c) (Str.ofString "law")) (hrow : Challenge.rw_km0070_01.foot = 3) 
  (hQ : ∀ h tk, Fr b b.objs.size h (fun y => if y = Str.ofString "held" then some (.ref hl) else u y) → News b b.objs.size h [(lel, PySem.W.listOf lev.toArray e3), (ml, PySem.W.listOf mv.toArray e4), (onl, PySem.W.listOf onv.toArray e5), (b.objs.size + 1 + 1 + 1 + 1 + 1 + 1, cn), (b.objs.size + 1 + 1 + 1 + 1 + 1, cd), (b.objs.size + 1 + 1 + 1 + 1, cm), (b.objs.size + 1 + 1 + 1, ct), (b.objs.size + 1 + 1, ck), (b.objs.size + 1, co), (i1, it1), (i2, it2)] → Q .next { s with heap := h, toks := tk })
  : wpAny (model Challenge.rw_km0070_01.row.prog w) (callerA.deeper (envOfC (Str.ofString "law") lawScope b.objs.size fa (.ref c))) (execs [(fst1 (tl (tl (tl (tl (tl (tl (tl (tl (tl (tl (tl (tl (tl (tl (tl (tl (bodyOf forNeed)))))))))))))))))), (fst1 (tl (tl (tl (tl (tl (tl (tl (tl (tl (tl (tl (tl (tl (tl (tl (tl (tl (bodyOf forNeed)))))))))))))))))))] (envOfC (Str.ofString "law") lawScope b.objs.size fa (.ref c))) Q (fun _ _ => False) s := by
  obtain ⟨KX, T, GL, B0⟩ := S
  dsimp only [whileSt, lawScope, scopeOf, forNeed, forNet, lawDef, bodyOf, PySem.Challenge.pw_km0070_01, tl, fst1]
  revert KX
  k_fill
  intro KX
  k_steps
  rename Fr b _ _ _ => F9
  rename News b _ _ _ => N9
  exact hQ _ _ F9 (fun p hp => N9 p (SubL.mem (by k_subL) p hp))
end Mine

end
theorem Mine.flWZ : True := by first | (row_walk; done) | (walk1; done) | trivial
section
open PySem PySem.W PyProof.Rows
set_option Elab.async false
set_option linter.unusedVariables false
namespace Mine
set_option maxRecDepth 100000
set_option maxHeartbeats 8000000

theorem needStore {w : World} {s₀ s : Shared} {b : Heap} {mg mb : Str → Option Value} (S : Stat w s₀ b mg mb) {fa c : Addr} {u : Str → Option Value} {cn cd cm ct ck co : Obj} {net need tells : Int} {t1 t2 t3 : Tok} {lel ml onl i1 i2 : Addr} {it1 it2 : Obj} {lev mv onv : List Value} {e3 e4 e5 : Nat} {Q : Unit → Shared → Prop} {v v' : Option Value} {n : Int} {t : Tok}
  (F : Fr b b.objs.size s.heap u) 
  (N : News b b.objs.size s.heap [(lel, PySem.W.listOf lev.toArray e3), (ml, PySem.W.listOf mv.toArray e4), (onl, PySem.W.listOf onv.toArray e5), (b.objs.size + 1 + 1 + 1 + 1 + 1 + 1, cn), (b.objs.size + 1 + 1 + 1 + 1 + 1, cd), (b.objs.size + 1 + 1 + 1 + 1, cm), (b.objs.size + 1 + 1 + 1, ct), (b.objs.size + 1 + 1, ck), (b.objs.size + 1, co), (i1, it1), (i2, it2)])
  (hcd : cd.data = .cell v) (conl2 : onl ≠ b.objs.size + 1 + 1) (conl3 : onl ≠ b.objs.size + 1 + 1 + 1) (conl4 : onl ≠ b.objs.size + 1 + 1 + 1 + 1) (conl5 : onl ≠ b.objs.size + 1 + 1 + 1 + 1 + 1) (conl6 : onl ≠ b.objs.size + 1 + 1 + 1 + 1 + 1 + 1) (cml2 : ml ≠ b.objs.size + 1 + 1) (cml3 : ml ≠ b.objs.size + 1 + 1 + 1) (cml4 : ml ≠ b.objs.size + 1 + 1 + 1 + 1) (cml5 : ml ≠ b.objs.size + 1 + 1 + 1 + 1 + 1) (cml6 : ml ≠ b.objs.size + 1 + 1 + 1 + 1 + 1 + 1) (clel2 : lel ≠ b.objs.size + 1 + 1) (clel3 : lel ≠ b.objs.size + 1 + 1 + 1) (clel4 : lel ≠ b.objs.size + 1 + 1 + 1 + 1) (clel5 : lel ≠ b.objs.size + 1 + 1 + 1 + 1 + 1) (clel6 : lel ≠ b.objs.size + 1 + 1 + 1 + 1 + 1 + 1) (k1 : b.objs.size + 1 + 1 + 1 + 1 + 1 + 1 < i1) (k2 : b.objs.size + 1 + 1 + 1 + 1 + 1 + 1 < i2) (hCR : b.CodeRec (.ref c) (Str.ofString "law")) (hrow : Challenge.rw_km0070_01.foot = 3)
  (hQ : ∀ cd' h tk, cd'.data = .cell (some (.int n t)) → Fr b b.objs.size h u → News b b.objs.size h [(lel, PySem.W.listOf lev.toArray e3), (ml, PySem.W.listOf mv.toArray e4), (onl, PySem.W.listOf onv.toArray e5), (b.objs.size + 1 + 1 + 1 + 1 + 1 + 1, cn), (b.objs.size + 1 + 1 + 1 + 1 + 1, cd'), (b.objs.size + 1 + 1 + 1 + 1, cm), (b.objs.size + 1 + 1 + 1, ct), (b.objs.size + 1 + 1, ck), (b.objs.size + 1, co), (i1, it1), (i2, it2)] → Q () { s with heap := h, toks := tk })
  : wpAny (model Challenge.rw_km0070_01.row.prog w) (callerA.deeper (envOfC (Str.ofString "law") lawScope b.objs.size fa (.ref c))) (storeName (envOfC (Str.ofString "law") lawScope b.objs.size fa (.ref c)) (Str.ofString "need") (.int n t)) Q (fun _ _ => False) s := by
  obtain ⟨KX, T, GL, B0⟩ := S
  dsimp only [whileSt, lawScope, scopeOf, forNeed, forNet, lawDef, bodyOf, PySem.Challenge.pw_km0070_01, tl, fst1]
  revert KX
  k_fill
  intro KX
  k_steps
  rename _ = Data.cell (some (Value.int _ _)) => hd9
  rename Fr b _ _ _ => F9
  rename News b _ _ _ => N9
  exact hQ _ _ _ hd9 F9 N9
theorem tellsS {w : World} {s₀ s : Shared} {b : Heap} {mg mb : Str → Option Value} (S : Stat w s₀ b mg mb) {fa c : Addr} {u : Str → Option Value} {cn cd cm ct ck co : Obj} {net need tells : Int} {t1 t2 t3 : Tok} {lel ml onl i1 i2 : Addr} {it1 it2 : Obj} {lev mv onv : List Value} {e3 e4 e5 : Nat} {Q : Flow → Shared → Prop} {sl : Addr} {sv : List Value} {ns : List Int} {v : Option Value}
  (F : Fr b b.objs.size s.heap (fun y => if y = Str.ofString "script" then some (.ref sl) else u y)) 
  (N : News b b.objs.size s.heap [(onl, PySem.W.listOf onv.toArray e5), (b.objs.size + 1 + 1 + 1 + 1 + 1 + 1, cn), (b.objs.size + 1 + 1 + 1 + 1 + 1, cd), (b.objs.size + 1 + 1 + 1 + 1, cm), (b.objs.size + 1 + 1 + 1, ct), (b.objs.size + 1 + 1, ck), (b.objs.size + 1, co), (i1, it1)]) 
  (hsl : b.IsList sl sv.toArray) (hI : IntsAre sv ns) (hlen : ns.length ≤ 63)
  (hck : ck.data = .cell (some (.int net t2))) (hnet : 0 ≤ net ∧ net ≤ 2) (hct : ct.data = .cell v) (conl2 : onl ≠ b.objs.size + 1 + 1) (conl3 : onl ≠ b.objs.size + 1 + 1 + 1) (conl4 : onl ≠ b.objs.size + 1 + 1 + 1 + 1) (conl5 : onl ≠ b.objs.size + 1 + 1 + 1 + 1 + 1) (conl6 : onl ≠ b.objs.size + 1 + 1 + 1 + 1 + 1 + 1) (k1 : b.objs.size + 1 + 1 + 1 + 1 + 1 + 1 < i1) (hCR : b.CodeRec (.ref c) (Str.ofString "law")) (hrow : Challenge.rw_km0070_01.foot = 3)
  (hQ : ∀ ct' n t h tk, ct'.data = .cell (some (.int n t)) → Fr b b.objs.size h (fun y => if y = Str.ofString "script" then some (.ref sl) else u y) → News b b.objs.size h [(onl, PySem.W.listOf onv.toArray e5), (b.objs.size + 1 + 1 + 1 + 1 + 1 + 1, cn), (b.objs.size + 1 + 1 + 1 + 1 + 1, cd), (b.objs.size + 1 + 1 + 1 + 1, cm), (b.objs.size + 1 + 1 + 1, ct'), (b.objs.size + 1 + 1, ck), (b.objs.size + 1, co), (i1, it1)] → Q .next { s with heap := h, toks := tk })
  : wpAny (model Challenge.rw_km0070_01.row.prog w) (callerA.deeper (envOfC (Str.ofString "law") lawScope b.objs.size fa (.ref c))) (exec (fst1 (bodyOf forNet)) (envOfC (Str.ofString "law") lawScope b.objs.size fa (.ref c))) Q (fun _ _ => False) s := by
  obtain ⟨KX, T, GL, B0⟩ := S
  dsimp only [whileSt, lawScope, scopeOf, forNeed, forNet, lawDef, bodyOf, PySem.Challenge.pw_km0070_01, tl, fst1]
  revert KX
  k_fill
  intro KX
  k_steps
  rename Fr b _ _ _ => F9
  rename News b _ _ _ => N9
  refine sumK (vs := (slicePick sv.toArray _ _ _).toList) rfl F9 N9 ⟨_, (N9 _ List.mem_cons_self).1, rfl, _, rfl⟩ (hI.pick _ _ _) ?_
  clear F9 N9
  intro h' tk' t' F' N₀
  have N' : News b b.objs.size h' [(onl, PySem.W.listOf onv.toArray e5), (b.objs.size + 1 + 1 + 1 + 1 + 1 + 1, cn), (b.objs.size + 1 + 1 + 1 + 1 + 1, cd), (b.objs.size + 1 + 1 + 1 + 1, cm), (b.objs.size + 1 + 1 + 1, ct), (b.objs.size + 1 + 1, ck), (b.objs.size + 1, co), (i1, it1)] := fun p hp => N₀ p (List.mem_cons_of_mem _ hp)
  clear N₀
  k_steps
  rename _ = Data.cell (some (Value.int _ _)) => hd9
  rename Fr b _ _ _ => F9
  rename News b _ _ _ => N9
  exact hQ _ _ _ _ _ hd9 F9 (fun p hp => N9 p (SubL.mem (by k_subL) p hp))
end Mine

end
theorem Mine.flWH : True := by first | (row_walk; done) | (walk1; done) | trivial
section
open PySem PySem.W PyProof.Rows
set_option Elab.async false
set_option linter.unusedVariables false
namespace Mine
set_option maxRecDepth 100000
set_option maxHeartbeats 8000000

def PtsGot (h₀ : Heap) (L : Addr) (m : Str → Option Value) (news : List (Addr × Obj)) (M : Nat) (s : Shared) (v : Value) (s₂ : Shared) : Prop :=
  ∃ D ys e h tk, v = .ref D ∧ s₂ = { s with heap := h, toks := tk } ∧ Fr h₀ L h m ∧ News h₀ L h ((D, ({ cls := .type "list", data := .seq ys.toArray e } : Obj)) :: news) ∧ IntsAre ys (ipts M)
def LeastIs (on : List Int) (K : Nat → Nat) (j : Nat) (x : Int) : Prop :=
  x ∈ (ipts j).map (fun p => on.getD (K p.toNat &&& j) 0) ++ [9] ∧ ∀ a ∈ (ipts j).map (fun p => on.getD (K p.toNat &&& j) 0) ++ [9], x ≤ a
def LJ (on : List Int) (K : Nat → Nat) (i : Nat) (ys : List Value) : Prop := ∃ ls, IntsAre ys ls ∧ ls.length = i ∧ ∀ j < i, LeastIs on K j (ls.getD j 0)
theorem LJ.snoc {on : List Int} {K : Nat → Nat} {i : Nat} {ys : List Value} {x : Int} {t : Tok} (h : LJ on K i ys) (hx : LeastIs on K i x) : LJ on K (i + 1) (ys ++ [.int x t]) := by
  obtain ⟨ls, h1, h2, h3⟩ := h
  refine ⟨ls ++ [x], IntsAre.snoc h1, by rw [List.length_append, h2]; rfl, fun j hj => ?_⟩
  rw [List.getD_eq_getElem?_getD]
  by_cases hlt : j < i
  · rw [List.getElem?_append_left (by omega), ← List.getD_eq_getElem?_getD]
    exact h3 j hlt
  · have : j = i := by omega
    subst this
    rw [List.getElem?_append_right (by omega), h2, Nat.sub_self]
    exact hx
theorem leastS {w : World} {s₀ s : Shared} {b : Heap} {mg mb : Str → Option Value} (S : Stat w s₀ b mg mb) {fa c : Addr} {u : Str → Option Value} {cn cd cm ct ck co : Obj} {net need tells : Int} {t1 t2 t3 : Tok} {lel ml onl i1 i2 : Addr} {it1 it2 : Obj} {lev mv onv : List Value} {e3 e4 e5 : Nat} {Q : Flow → Shared → Prop} {on mn : List Int} {K : Nat → Nat}
  (F : Fr b b.objs.size s.heap u) 
  (N : News b b.objs.size s.heap [(ml, PySem.W.listOf mv.toArray e4), (onl, PySem.W.listOf onv.toArray e5), (b.objs.size + 1 + 1 + 1 + 1 + 1 + 1, cn), (b.objs.size + 1 + 1 + 1 + 1 + 1, cd), (b.objs.size + 1 + 1 + 1 + 1, cm), (b.objs.size + 1 + 1 + 1, ct), (b.objs.size + 1 + 1, ck), (b.objs.size + 1, co), (i1, it1)]) 
  (hcm : cm.data = .cell (some (.ref ml))) (hco : co.data = .cell (some (.ref onl))) (hmi : IntsAre mv mn) (hml : mn.length = 6) (hoi : IntsAre onv on) (hol : on.length = 64) (hK : ∀ j < 6, K j < 64) (hmn : ∀ j < 6, mn.getD j 0 = ((K j : Nat) : Int)) (hCR : b.CodeRec (.ref c) (Str.ofString "law")) (hrow : Challenge.rw_km0070_01.foot = 3)
  (hQ : ∀ lel ys ls h tk, IntsAre ys ls → ls.length = 64 → (∀ j < 64, LeastIs on K j (ls.getD j 0)) → lel ≠ b.objs.size + 1 + 1 + 1 + 1 + 1 + 1 → (∀ p ∈ [(ml, PySem.W.listOf mv.toArray e4), (onl, PySem.W.listOf onv.toArray e5), (b.objs.size + 1 + 1 + 1 + 1 + 1 + 1, cn), (b.objs.size + 1 + 1 + 1 + 1 + 1, cd), (b.objs.size + 1 + 1 + 1 + 1, cm), (b.objs.size + 1 + 1 + 1, ct), (b.objs.size + 1 + 1, ck), (b.objs.size + 1, co), (i1, it1)], p.1 < lel) → Fr b b.objs.size h (fun y => if y = Str.ofString "least" then some (.ref lel) else u y) → News b b.objs.size h ((lel, LCg.lst ys) :: [(ml, PySem.W.listOf mv.toArray e4), (onl, PySem.W.listOf onv.toArray e5), (b.objs.size + 1 + 1 + 1 + 1 + 1 + 1, cn), (b.objs.size + 1 + 1 + 1 + 1 + 1, cd), (b.objs.size + 1 + 1 + 1 + 1, cm), (b.objs.size + 1 + 1 + 1, ct), (b.objs.size + 1 + 1, ck), (b.objs.size + 1, co), (i1, it1)]) → Q .next { s with heap := h, toks := tk })
  : wpAny (model Challenge.rw_km0070_01.row.prog w) (callerA.deeper (envOfC (Str.ofString "law") lawScope b.objs.size fa (.ref c))) (exec (fst1 (tl (tl (bodyOf forNet)))) (envOfC (Str.ofString "law") lawScope b.objs.size fa (.ref c))) Q (fun _ _ => False) s := by
  obtain ⟨KX, T, GL, B0⟩ := S
  dsimp only [whileSt, lawScope, scopeOf, forNeed, forNet, lawDef, bodyOf, PySem.Challenge.pw_km0070_01, tl, fst1]
  revert KX
  k_fill
  intro KX
  k_dflt (refine Assign_ListComp_cell (h₀ := b) (L := b.objs.size) (m := u) (cl := [(Str.ofString "ones", b.objs.size + 1), (Str.ofString "masks", b.objs.size + 1 + 1 + 1 + 1)]) (by rfl) (by with_unfolding_all rfl) (by rfl) (by rfl) (by with_unfolding_all rfl) (by rfl) (by decide) (by rfl) (fun _ => rfl) (fun _ => rfl) ?_)
  iterate 7 walk1
  rename Fr b _ _ _ => F'
  rename News b _ _ _ => N'
  rename IsRange _ _ _ _ _ _ _ _ => R'
  refine ⟨_, _, _, _, _, _, 64, _, fun i ys => LJ on K i ys, rfl, rfl, F', N', R', by decide, by decide, by decide, ⟨[], .nil, rfl, fun j hj => absurd hj (Nat.not_lt_zero _)⟩, ?turn, ?fin⟩
  case fin =>
    intro D h tk ys hJ F₁ N₁ hlt
    obtain ⟨ls, h1, h2, h3⟩ := hJ
    exact hQ D ys ls h tk h1 h2 h3 (Ne.symm (Nat.ne_of_lt (hlt _ (List.mem_cons_of_mem _ (List.mem_cons_of_mem _ List.mem_cons_self))))) (fun p hp => hlt p hp) F₁ N₁
  case turn =>
    clear F' N' R'
    intro i ys t₀ I oI C oC X oX D h tk E' hi hys hX hI hID hDC hCX F₁ N₁
    have hI1 : @LT.lt Nat _ ml I := hI _ List.mem_cons_self
    clear hI
    iterate 6 walk1
    k_dflt (refine LCg.ListComp_U (h₀ := b) (L := b.objs.size) (m := u) (F₀ := F₁) (by with_unfolding_all rfl) (by decide) (by rfl) (by decide) (by rfl) ?_)
    refine wpAny_mono (Q := PtsGot b b.objs.size u ((I, oI) :: (C, oC) :: (X, oX) :: (D, LCg.lst ys) :: (ml, PySem.W.listOf mv.toArray e4) :: (onl, PySem.W.listOf onv.toArray e5) :: (b.objs.size + 1 + 1 + 1 + 1 + 1 + 1, cn) :: (b.objs.size + 1 + 1 + 1 + 1 + 1, cd) :: (b.objs.size + 1 + 1 + 1 + 1, cm) :: (b.objs.size + 1 + 1 + 1, ct) :: (b.objs.size + 1 + 1, ck) :: (b.objs.size + 1, co) :: (i1, it1) :: []) i s) ?call ?rest (fun _ _ e => e)
    case call =>
      k_steps
      rename IntsAre _ _ => hI9
      rename Fr b _ _ _ => F9
      rename News b _ _ _ => N9
      have e1 : (0 : Int) + (i : Int) = ((i : Nat) : Int) := by omega
      rw [e1, law_pts] at hI9
      exact ⟨_, _, _, _, _, rfl, rfl, F9, fun p hp => N9 p (SubL.mem (by k_subL) p hp), hI9⟩
    case rest =>
      rintro v s₂ ⟨D₂, ys₂, e₂, h₂, tk₂, rfl, rfl, F₂, N₂, hI₂⟩
      have hl6 : ys₂.length ≤ 6 := by rw [hI₂.length]; unfold ipts; rw [List.length_map]; exact pts_len i
      refine LCg.CompSrc.ledger (by rfl) F₂ N₂ List.mem_cons_self (by show ys₂.toArray.size ≤ _; rw [List.size_toArray]; exact Nat.le_trans hl6 (by decide)) ?_
      intro g'
      refine rest_inv (n := ys₂.toArray.size) (fun i₂ zs news => IntsAre zs (((ipts i).take i₂).map fun p => on.getD (K p.toNat &&& i) 0) ∧ news = (D₂, ({ cls := .type "list", data := .seq ys₂.toArray e₂ } : Obj)) :: (I, oI) :: (C, oC) :: (X, oX) :: (D, LCg.lst ys) :: (ml, PySem.W.listOf mv.toArray e4) :: (onl, PySem.W.listOf onv.toArray e5) :: (b.objs.size + 1 + 1 + 1 + 1 + 1 + 1, cn) :: (b.objs.size + 1 + 1 + 1 + 1 + 1, cd) :: (b.objs.size + 1 + 1 + 1 + 1, cm) :: (b.objs.size + 1 + 1 + 1, ct) :: (b.objs.size + 1 + 1, ck) :: (b.objs.size + 1, co) :: (i1, it1) :: []) ?turn2 ?fin2 _ 0 [] _ (Nat.zero_add _) ⟨.nil, rfl⟩
      case fin2 =>
        rintro zs news ⟨hz, rfl⟩
        intro D₅ h₅ tk₅ F₅ N₅ ow
        rw [List.take_of_length_le (by show _ ≤ ys₂.toArray.size; rw [List.size_toArray, hI₂.length]; exact Nat.le_refl _)] at hz
        clear F₂ N₂ ow
        have hzl : zs.length ≤ 6 := by rw [hz.length, List.length_map]; unfold ipts; rw [List.length_map]; exact pts_len i
        k_steps
        · assumption
        · rename News b _ _ _ => N9
          exact fun p hp => N9 p (SubL.mem (by k_subL) p hp)
        · rename_i hmem hmin
          exact LJ.snoc hys ⟨hmem, hmin⟩
      case turn2 =>
        rintro i₂ zs news hi2 ⟨hz, rfl⟩ v I₂ oI₂ C₂ oC₂ D₃ m₃ h₃ tk₃ E₃ hP hC₃ hx₃ F₃ N₃ off₃ ne₃
        obtain ⟨n, t, hn, rfl⟩ := isTrue_int hI₂ hP
        obtain ⟨p, hp6, rfl, htk⟩ := ipts_at hn
        rw [htk, List.map_append]
        have hb : ((K p &&& i : Nat) : Int) = Builtin.bitAnd (mn.getD ((p : Nat) : Int).toNat 0) (0 + (i : Int)) := by
          rw [Int.toNat_natCast, hmn p hp6, Int.zero_add, band]
        have hb1 : 0 ≤ Builtin.bitAnd (mn.getD ((p : Nat) : Int).toNat 0) (0 + (i : Int)) := by rw [← hb]; omega
        have hb2 : Builtin.bitAnd (mn.getD ((p : Nat) : Int).toNat 0) (0 + (i : Int)) < 64 := by
          rw [← hb]; have := and_lt64 (a := K p) hi; omega
        clear hn hP
        k_steps
        refine ⟨h₃, _, _, rfl, F₃, N₃, off₃, .inr ⟨_, List.mem_cons_self, rfl, _, rfl⟩, ?_, rfl⟩
        rw [← hb, Int.toNat_natCast]
        exact IntsAre.snoc hz
end Mine

end
theorem Mine.flWL : True := by first | (row_walk; done) | (walk1; done) | trivial
section
open PySem PySem.W PyProof.Rows
set_option linter.unusedVariables false
namespace Mine
def Good (need : Int) (ls : List Int) (j : Nat) : Prop := need ≤ ls.getD j 0
theorem good_iff {on ls : List Int} {K : Nat → Nat} {need : Int} (hon : ∀ x < 64, on.getD x 0 = ((pts x).length : Int)) (hls : ∀ j < 64, LeastIs on K j (ls.getD j 0)) (hn : need ≤ 9) {j : Nat} (hj : j < 64) :
    Good need ls j ↔ ∀ g < 6, j.testBit g = true → need ≤ ((pts (K g &&& j)).length : Int) := by
  obtain ⟨h1, h2⟩ := hls j hj
  constructor
  · intro h g hg hb
    have hm : on.getD (K ((g : Nat) : Int).toNat &&& j) 0 ∈ (ipts j).map (fun p => on.getD (K p.toNat &&& j) 0) ++ [9] :=
      List.mem_append_left _ (List.mem_map.mpr ⟨(g : Int), mem_ipts.mpr ⟨g, hg, rfl, hb⟩, rfl⟩)
    have := h2 _ hm
    rw [Int.toNat_natCast, hon _ (and_lt64 hj)] at this
    exact Int.le_trans h this
  · intro h
    show need ≤ ls.getD j 0
    rcases List.mem_append.mp h1 with z | z
    · obtain ⟨p, hp, e⟩ := List.mem_map.mp z
      obtain ⟨g, hg, rfl, hb⟩ := mem_ipts.mp hp
      rw [← e, Int.toNat_natCast, hon _ (and_lt64 hj)]
      exact h g hg hb
    · rw [List.mem_singleton.mp z]; exact hn
theorem pts_mono {a b : Nat} (h : ∀ i, a.testBit i = true → b.testBit i = true) : (pts a).length ≤ (pts b).length := by
  unfold pts
  rw [← List.countP_eq_length_filter, ← List.countP_eq_length_filter]
  exact List.countP_mono_left fun i _ => h i
theorem sub_bits {a b : Nat} (h : a &&& b = a) {i : Nat} (hi : a.testBit i = true) : b.testBit i = true := by
  rw [← h, Nat.testBit_and] at hi
  simp at hi
  exact hi.2
theorem core_sub {need : Int} {ls : List Int} {M : Nat} : ∀ i, (∀ j, 0 < j → j ≤ i → Good need ls j → j &&& M = j) → coreUpTo need ls i &&& M = coreUpTo need ls i
  | 0, _ => by rw [coreUpTo_zero, Nat.zero_and]
  | i + 1, h => by
    have ih := core_sub i fun j h0 hj => h j h0 (by omega)
    rw [coreUpTo_succ]
    split
    · rename_i hg
      rw [Nat.and_or_distrib_right, ih, h (i + 1) (by omega) (Nat.le_refl _) hg]
    · exact ih
theorem sub_core {need : Int} {ls : List Int} {j : Nat} (h0 : 0 < j) (hg : Good need ls j) : ∀ i, j ≤ i → j &&& coreUpTo need ls i = j
  | 0, h => by omega
  | i + 1, h => by
    rw [coreUpTo_succ]
    by_cases e : j = i + 1
    · subst e
      rw [if_pos (show need ≤ ls.getD (i + 1) 0 from hg), Nat.and_or_distrib_left, Nat.and_self]
      apply Nat.eq_of_testBit_eq
      intro k
      simp only [Nat.testBit_or, Nat.testBit_and]
      cases (i + 1).testBit k <;> simp
    · have ih := sub_core h0 hg i (by omega)
      split
      · rw [Nat.and_or_distrib_left, ih]
        apply Nat.eq_of_testBit_eq
        intro k
        simp only [Nat.testBit_or, Nat.testBit_and]
        cases j.testBit k <;> simp
      · exact ih
theorem core_step {on ls : List Int} {K : Nat → Nat} {need : Int} (hon : ∀ x < 64, on.getD x 0 = ((pts x).length : Int)) (hls : ∀ j < 64, LeastIs on K j (ls.getD j 0)) (hn : need ≤ 9)
    (M g : Nat) (hM : M < 64) (hP : ∀ j, 0 < j → j < 64 → Good need ls j → j &&& M = j) (hg : g < 6) (hb : M.testBit g = true) (hw : ((pts (K g &&& M)).length : Int) < need) :
    ∀ j, 0 < j → j < 64 → Good need ls j → j &&& sub M (2 ^ g) = j := by
  intro j h0 hj hgood
  have hjM := hP j h0 hj hgood
  refine sub_le M hM g hg j hj hjM ?_
  cases hjb : j.testBit g with
  | false => rfl
  | true =>
    have h1 := (good_iff hon hls hn hj).mp hgood g hg hjb
    have h2 : (pts (K g &&& j)).length ≤ (pts (K g &&& M)).length := pts_mono fun i hi => by
      rw [Nat.testBit_and] at hi ⊢
      simp only [Bool.and_eq_true] at hi ⊢
      exact ⟨hi.1, sub_bits hjM hi.2⟩
    omega
theorem core_eq {on ls : List Int} {K : Nat → Nat} {need : Int} (hon : ∀ x < 64, on.getD x 0 = ((pts x).length : Int)) (hls : ∀ j < 64, LeastIs on K j (ls.getD j 0)) (hn : need ≤ 9)
    {M : Nat} (hM : M < 64) (hP : ∀ j, 0 < j → j < 64 → Good need ls j → j &&& M = j) (hw : weakOf need M (fun j => K j &&& M) = []) : coreUpTo need ls 63 = M := by
  have h1 := core_sub (need := need) (ls := ls) (M := M) 63 fun j h0 hj => hP j h0 (by omega)
  rcases Nat.eq_zero_or_pos M with e | h0
  · rw [e, Nat.and_zero] at h1
    rw [e, ← h1]
  · have hgood : Good need ls M := (good_iff hon hls hn hM).mpr fun g hg hb => by
      by_cases hc : ((pts (K g &&& M)).length : Int) < need
      · have : (g : Int) ∈ weakOf need M (fun j => K j &&& M) := List.mem_filter.mpr ⟨mem_ipts.mpr ⟨g, hg, rfl, hb⟩, decide_eq_true hc⟩
        rw [hw] at this
        cases this
      · omega
    have h2 := sub_core h0 hgood 63 (by omega)
    rw [Nat.and_comm, h1] at h2
    exact h2
end Mine

end
theorem Mine.flMZ : True := by first | (row_walk; done) | (walk1; done) | trivial
section
open PySem PySem.W PyProof.Rows
set_option Elab.async false
set_option linter.unusedVariables false
namespace Mine
set_option maxRecDepth 100000
set_option maxHeartbeats 8000000

theorem map_at3 {m : Str → Option Value} {x x₂ x₃ : Str} {v v₂ v₃ : Option Value} (h : m x = v) (h₂ : m x₂ = v₂) (h₃ : m x₃ = v₃) : m = fun y => if y = x then v else if y = x₂ then v₂ else if y = x₃ then v₃ else m y := by
  funext y
  by_cases e : y = x
  · rw [if_pos e, e, h]
  · by_cases e₂ : y = x₂
    · rw [if_neg e, if_pos e₂, e₂, h₂]
    · by_cases e₃ : y = x₃
      · rw [if_neg e, if_neg e₂, if_pos e₃, e₃, h₃]
      · rw [if_neg e, if_neg e₂, if_neg e₃]
theorem all63 : ∀ j < 64, j &&& 63 = j := by decide +kernel
theorem coreZ {w : World} {s₀ s : Shared} {b : Heap} {mg mb : Str → Option Value} (S : Stat w s₀ b mg mb) {fa c : Addr} {u : Str → Option Value}  {Q : Flow → Shared → Prop} {news : List (Addr × Obj)}
  (F : Fr b b.objs.size s.heap u) (N : News b b.objs.size s.heap news) (hCR : b.CodeRec (.ref c) (Str.ofString "law")) (hrow : Challenge.rw_km0070_01.foot = 3)
  (hQ : ∀ t h tk, Fr b b.objs.size h (fun y => if y = Str.ofString "core" then some (.int 0 t) else u y) → News b b.objs.size h news → Q .next { s with heap := h, toks := tk })
  : wpAny (model Challenge.rw_km0070_01.row.prog w) (callerA.deeper (envOfC (Str.ofString "law") lawScope b.objs.size fa (.ref c))) (exec (fst1 (bodyOf forNeed)) (envOfC (Str.ofString "law") lawScope b.objs.size fa (.ref c))) Q (fun _ _ => False) s := by
  obtain ⟨KX, T, GL, B0⟩ := S
  dsimp only [whileSt, lawScope, scopeOf, forNeed, forNet, lawDef, bodyOf, PySem.Challenge.pw_km0070_01, tl, fst1]
  revert KX
  k_fill
  intro KX
  k_steps
  rename Fr b _ _ _ => F9
  rename News b _ _ _ => N9
  exact hQ _ _ _ F9 N9
theorem needBody_eq : bodyOf forNeed = [(fst1 (bodyOf forNeed)), (fst1 (tl (bodyOf forNeed))), (fst1 (tl (tl (bodyOf forNeed)))), (fst1 (tl (tl (tl (bodyOf forNeed))))), (fst1 (tl (tl (tl (tl (bodyOf forNeed)))))), (fst1 (tl (tl (tl (tl (tl (bodyOf forNeed))))))), (fst1 (tl (tl (tl (tl (tl (tl (bodyOf forNeed)))))))), (fst1 (tl (tl (tl (tl (tl (tl (tl (bodyOf forNeed))))))))), (fst1 (tl (tl (tl (tl (tl (tl (tl (tl (bodyOf forNeed)))))))))), (fst1 (tl (tl (tl (tl (tl (tl (tl (tl (tl (bodyOf forNeed))))))))))), (fst1 (tl (tl (tl (tl (tl (tl (tl (tl (tl (tl (bodyOf forNeed)))))))))))), (fst1 (tl (tl (tl (tl (tl (tl (tl (tl (tl (tl (tl (bodyOf forNeed))))))))))))), (fst1 (tl (tl (tl (tl (tl (tl (tl (tl (tl (tl (tl (tl (bodyOf forNeed)))))))))))))), (fst1 (tl (tl (tl (tl (tl (tl (tl (tl (tl (tl (tl (tl (tl (bodyOf forNeed))))))))))))))), (fst1 (tl (tl (tl (tl (tl (tl (tl (tl (tl (tl (tl (tl (tl (tl (bodyOf forNeed)))))))))))))))), (fst1 (tl (tl (tl (tl (tl (tl (tl (tl (tl (tl (tl (tl (tl (tl (tl (bodyOf forNeed))))))))))))))))), (fst1 (tl (tl (tl (tl (tl (tl (tl (tl (tl (tl (tl (tl (tl (tl (tl (tl (bodyOf forNeed)))))))))))))))))), (fst1 (tl (tl (tl (tl (tl (tl (tl (tl (tl (tl (tl (tl (tl (tl (tl (tl (tl (bodyOf forNeed)))))))))))))))))))] := rfl

theorem bodyS {w : World} {s₀ s : Shared} {b : Heap} {mg mb : Str → Option Value} (S : Stat w s₀ b mg mb) {fa c : Addr} {u : Str → Option Value} {cn cd cm ct ck co : Obj} {net need tells : Int} {t1 t2 t3 : Tok} {lel ml onl i1 i2 : Addr} {it1 it2 : Obj} {lev mv onv : List Value} {e3 e4 e5 : Nat} {Q : Flow → Shared → Prop} {m : Str → Option Value} {ls on mn : List Int} {K : Nat → Nat}
  (F : Fr b b.objs.size s.heap m) (hle : m (Str.ofString "least") = some (.ref lel))
  (N : News b b.objs.size s.heap [(lel, PySem.W.listOf lev.toArray e3), (ml, PySem.W.listOf mv.toArray e4), (onl, PySem.W.listOf onv.toArray e5), (b.objs.size + 1 + 1 + 1 + 1 + 1 + 1, cn), (b.objs.size + 1 + 1 + 1 + 1 + 1, cd), (b.objs.size + 1 + 1 + 1 + 1, cm), (b.objs.size + 1 + 1 + 1, ct), (b.objs.size + 1 + 1, ck), (b.objs.size + 1, co), (i1, it1), (i2, it2)]) (hcd : cd.data = .cell (some (.int need t1))) (hck : ck.data = .cell (some (.int net t2))) (hct : ct.data = .cell (some (.int tells t3))) (hcm : cm.data = .cell (some (.ref ml))) (hco : co.data = .cell (some (.ref onl))) (hcn : ∃ v, cn.data = .cell v) (conl2 : onl ≠ b.objs.size + 1 + 1) (conl3 : onl ≠ b.objs.size + 1 + 1 + 1) (conl4 : onl ≠ b.objs.size + 1 + 1 + 1 + 1) (conl5 : onl ≠ b.objs.size + 1 + 1 + 1 + 1 + 1) (conl6 : onl ≠ b.objs.size + 1 + 1 + 1 + 1 + 1 + 1) (cml2 : ml ≠ b.objs.size + 1 + 1) (cml3 : ml ≠ b.objs.size + 1 + 1 + 1) (cml4 : ml ≠ b.objs.size + 1 + 1 + 1 + 1) (cml5 : ml ≠ b.objs.size + 1 + 1 + 1 + 1 + 1) (cml6 : ml ≠ b.objs.size + 1 + 1 + 1 + 1 + 1 + 1) (clel2 : lel ≠ b.objs.size + 1 + 1) (clel3 : lel ≠ b.objs.size + 1 + 1 + 1) (clel4 : lel ≠ b.objs.size + 1 + 1 + 1 + 1) (clel5 : lel ≠ b.objs.size + 1 + 1 + 1 + 1 + 1) (clel6 : lel ≠ b.objs.size + 1 + 1 + 1 + 1 + 1 + 1) (k1 : b.objs.size + 1 + 1 + 1 + 1 + 1 + 1 < i1) (k2 : b.objs.size + 1 + 1 + 1 + 1 + 1 + 1 < i2) (hCR : b.CodeRec (.ref c) (Str.ofString "law")) (hrow : Challenge.rw_km0070_01.foot = 3)
  (hIl : IntsAre lev ls) (hll : ls.length = 64) (hIm : IntsAre mv mn) (hlm : mn.length = 6) (hK : ∀ j < 6, K j < 64) (hmn : ∀ j < 6, mn.getD j 0 = ((K j : Nat) : Int))
  (hon : ∀ x < 64, on.getD x 0 = ((pts x).length : Int)) (hls : ∀ j < 64, LeastIs on K j (ls.getD j 0)) (hnn : 0 ≤ net + need) (hn9 : need ≤ 9)
  (hQ : ∀ m₁ cn' h tk, (∃ v, cn'.data = .cell v) → m₁ (Str.ofString "script") = m (Str.ofString "script") → m₁ (Str.ofString "least") = m (Str.ofString "least") → Fr b b.objs.size h m₁ → News b b.objs.size h [(lel, PySem.W.listOf lev.toArray e3), (ml, PySem.W.listOf mv.toArray e4), (onl, PySem.W.listOf onv.toArray e5), (b.objs.size + 1 + 1 + 1 + 1 + 1 + 1, cn'), (b.objs.size + 1 + 1 + 1 + 1 + 1, cd), (b.objs.size + 1 + 1 + 1 + 1, cm), (b.objs.size + 1 + 1 + 1, ct), (b.objs.size + 1 + 1, ck), (b.objs.size + 1, co), (i1, it1), (i2, it2)] → Q .next { s with heap := h, toks := tk })
  : wpAny (model Challenge.rw_km0070_01.row.prog w) (callerA.deeper (envOfC (Str.ofString "law") lawScope b.objs.size fa (.ref c))) (execs (bodyOf forNeed) (envOfC (Str.ofString "law") lawScope b.objs.size fa (.ref c))) Q (fun _ _ => False) s := by
  rw [needBody_eq]
  refine wpAny_execs_cons (coreZ S F N hCR hrow ?_)
  intro t0 h0 tk0 F0 N0
  show wpAny _ _ (execs _ _) _ _ _
  refine wpAny_execs_cons (coreS (u := m) S F0 (if_pos rfl) ((if_neg (by decide)).trans hle) N0 hcd hck hct hcm hco conl2 conl3 conl4 conl5 conl6 cml2 cml3 cml4 cml5 cml6 clel2 clel3 clel4 clel5 clel6 k1 k2 hCR hrow hIl hll ?_)
  intro cc tc m1 h1 tk1 hc64 hcc hmc hk1 F1 N1
  show wpAny _ _ (execs _ _) _ _ _
  have f1_script : m1 (Str.ofString "script") = m (Str.ofString "script") := (hk1 _ (by decide) (by decide)).trans ((if_neg (by decide)))
  have f1_least : m1 (Str.ofString "least") = m (Str.ofString "least") := (hk1 _ (by decide) (by decide)).trans ((if_neg (by decide)))
  refine firstS S F1 N1 hcd hck hct hcm hco conl2 conl3 conl4 conl5 conl6 cml2 cml3 cml4 cml5 cml6 clel2 clel3 clel4 clel5 clel6 k1 k2 hCR hrow ?_
  intro lf lo h2 tk2 h10 h11 h12 h13 hi1 hi2 hlo F2 N2
  generalize hm2 : (fun y => if y = Str.ofString "left" then some (Value.ref lf) else if y = Str.ofString "first" then some (Value.ref lf) else m1 y) = m2 at F2
  have f2_script : m2 (Str.ofString "script") = m (Str.ofString "script") := by rw [← hm2]; exact (if_neg (by decide)).trans ((if_neg (by decide)).trans (f1_script))
  have f2_least : m2 (Str.ofString "least") = m (Str.ofString "least") := by rw [← hm2]; exact (if_neg (by decide)).trans ((if_neg (by decide)).trans (f1_least))
  have f2_core : m2 (Str.ofString "core") = some (.int ((cc : Nat) : Int) tc) := by rw [← hm2]; exact (if_neg (by decide)).trans ((if_neg (by decide)).trans (hmc))
  have f2_left : m2 (Str.ofString "left") = some (.ref lf) := by rw [← hm2]; exact if_pos rfl
  have f2_first : m2 (Str.ofString "first") = some (.ref lf) := by rw [← hm2]; exact (if_neg (by decide)).trans (if_pos rfl)
  have hmn2 : ∀ j < 6, mn.getD j 0 = (((K j &&& 63 : Nat) : Nat) : Int) := fun j hj => by rw [all63 _ (hK j hj)]; exact hmn j hj
  refine wpAny_execs_cons (heldS (K := fun j => K j &&& 63) S F2 N2 hcd hck hct hcm hco conl2 conl3 conl4 conl5 conl6 cml2 cml3 cml4 cml5 cml6 clel2 clel3 clel4 clel5 clel6 k1 k2 hCR hrow h10 h11 h12 h13 hi1 hi2 hIm hlm (fun j hj => and_lt64 (by decide)) hmn2 ?_)
  intro hl a0 a1 a2 a3 a4 a5 o0 o1 o2 o3 o4 o5 e6 h3 tk3 q0 q1 q2 q3 q4 q5 h14 h16 h17 h18 h19 h20 n0 n1 n2 n3 n4 n5 n6 n7 F3 N3
  show wpAny _ _ (execs _ _) _ _ _
  refine wpAny_execs_cons (nearS S F3 N3 hcd hck hct hcm hco conl2 conl3 conl4 conl5 conl6 cml2 cml3 cml4 cml5 cml6 clel2 clel3 clel4 clel5 clel6 k1 k2 h10 h11 h12 h13 hi1 hi2 h14 h16 h17 h18 h19 h20 hCR hrow n7 hcn ?_)
  intro nl cn' e2 h4 tk4 hcn' h21 h15 F4 N4
  show wpAny _ _ (execs _ _) _ _ _
  generalize hm4 : (fun y => if y = Str.ofString "held" then some (Value.ref hl) else m2 y) = m4 at F4
  have f4_script : m4 (Str.ofString "script") = m (Str.ofString "script") := by rw [← hm4]; exact (if_neg (by decide)).trans (f2_script)
  have f4_least : m4 (Str.ofString "least") = m (Str.ofString "least") := by rw [← hm4]; exact (if_neg (by decide)).trans (f2_least)
  have f4_core : m4 (Str.ofString "core") = some (.int ((cc : Nat) : Int) tc) := by rw [← hm4]; exact (if_neg (by decide)).trans (f2_core)
  have f4_left : m4 (Str.ofString "left") = some (.ref lf) := by rw [← hm4]; exact (if_neg (by decide)).trans (f2_left)
  have f4_first : m4 (Str.ofString "first") = some (.ref lf) := by rw [← hm4]; exact (if_neg (by decide)).trans (f2_first)
  have f4_held : m4 (Str.ofString "held") = some (.ref hl) := by rw [← hm4]; exact if_pos rfl
  refine wpAny_execs_cons (weakA (k := fun j => K j &&& 63) S (Fr_congr F4 (map_at f4_left)) N4 hcd hck hct hcm hco hcn' hlo q0 q1 q2 q3 q4 q5 conl2 conl3 conl4 conl5 conl6 cml2 cml3 cml4 cml5 cml6 clel2 clel3 clel4 clel5 clel6 k1 k2 h10 h11 h12 h13 hi1 hi2 h14 h15 h16 h17 h18 h19 h20 h21 n0 n1 n2 n3 n4 n5 n6 hCR hrow ?_)
  intro wl ws e1 h5 tk5 F5 N5 _off hI5
  show wpAny _ _ (execs _ _) _ _ _
  generalize hm5 : (fun y => if y = Str.ofString "weak" then some (Value.ref wl) else if y = Str.ofString "left" then some (Value.ref lf) else m4 y) = m5 at F5
  have f5_script : m5 (Str.ofString "script") = m (Str.ofString "script") := by rw [← hm5]; exact (if_neg (by decide)).trans ((if_neg (by decide)).trans (f4_script))
  have f5_least : m5 (Str.ofString "least") = m (Str.ofString "least") := by rw [← hm5]; exact (if_neg (by decide)).trans ((if_neg (by decide)).trans (f4_least))
  have f5_core : m5 (Str.ofString "core") = some (.int ((cc : Nat) : Int) tc) := by rw [← hm5]; exact (if_neg (by decide)).trans ((if_neg (by decide)).trans (f4_core))
  have f5_left : m5 (Str.ofString "left") = some (.ref lf) := by rw [← hm5]; exact (if_neg (by decide)).trans (if_pos rfl)
  have f5_first : m5 (Str.ofString "first") = some (.ref lf) := by rw [← hm5]; exact (if_neg (by decide)).trans ((if_neg (by decide)).trans (f4_first))
  have f5_held : m5 (Str.ofString "held") = some (.ref hl) := by rw [← hm5]; exact (if_neg (by decide)).trans ((if_neg (by decide)).trans (f4_held))
  have f5_weak : m5 (Str.ofString "weak") = some (.ref wl) := by rw [← hm5]; exact if_pos rfl
  refine wpAny_execs_cons (whileS (u := m) (K := K) (M := 63) (P := fun M => ∀ j, 0 < j → j < 64 → Good need ls j → j &&& M = j) S F5 f5_left f5_weak N5 hcd hck hct hcm hco hcn' hlo q0 q1 q2 q3 q4 q5 conl2 conl3 conl4 conl5 conl6 cml2 cml3 cml4 cml5 cml6 clel2 clel3 clel4 clel5 clel6 k1 k2 h10 h11 h12 h13 hi1 hi2 h14 h15 h16 h17 h18 h19 h20 h21 n0 n1 n2 n3 n4 n5 n6 hCR hrow hnn hI5 (by decide) hK (fun j _ hj _ => all63 j hj) (fun M g hM hP hg hb hw => core_step hon hls hn9 M g hM hP hg hb hw) ?_)
  intro M lo' p0 p1 p2 p3 p4 p5 m6 h6 tk6 hM hPM hwk hk6 hlo' r0 r1 r2 r3 r4 r5 F6 N6
  show wpAny _ _ (execs _ _) _ _ _
  have hcM : cc = M := hcc.trans (core_eq hon hls hn9 hM hPM hwk)
  subst hcM
  have f6_script : m6 (Str.ofString "script") = m (Str.ofString "script") := (hk6 _ (by decide) (by decide) (by decide)).trans f5_script
  have f6_least : m6 (Str.ofString "least") = m (Str.ofString "least") := (hk6 _ (by decide) (by decide) (by decide)).trans f5_least
  have f6_core : m6 (Str.ofString "core") = some (.int ((cc : Nat) : Int) tc) := (hk6 _ (by decide) (by decide) (by decide)).trans f5_core
  have f6_left : m6 (Str.ofString "left") = some (.ref lf) := (hk6 _ (by decide) (by decide) (by decide)).trans f5_left
  have f6_first : m6 (Str.ofString "first") = some (.ref lf) := (hk6 _ (by decide) (by decide) (by decide)).trans f5_first
  have f6_held : m6 (Str.ofString "held") = some (.ref hl) := (hk6 _ (by decide) (by decide) (by decide)).trans f5_held
  refine wpAny_execs_cons (chk1S (M := cc) (k := fun j => K j &&& cc) S (Fr_congr F6 (map_at3 f6_left f6_first f6_core)) N6 hcd hck hct hcm hco hcn' hlo' r0 r1 r2 r3 r4 r5 conl2 conl3 conl4 conl5 conl6 cml2 cml3 cml4 cml5 cml6 clel2 clel3 clel4 clel5 clel6 k1 k2 h10 h11 h12 h13 hi1 hi2 h14 h15 h16 h17 h18 h19 h20 h21 n0 n1 n2 n3 n4 n5 n6 hCR hrow rfl ?_)
  intro h7 tk7 F7 N7
  show wpAny _ _ (execs _ _) _ _ _
  replace F7 := Fr_congr F7 (map_at3 f6_left f6_first f6_core).symm
  refine wpAny_execs_cons (iterS (u := m) (M := cc) (K := K) S F7 f6_held f6_core N7 hcd hck hct hcm hco hcn' hlo' r0 r1 r2 r3 r4 r5 conl2 conl3 conl4 conl5 conl6 cml2 cml3 cml4 cml5 cml6 clel2 clel3 clel4 clel5 clel6 k1 k2 h10 h11 h12 h13 hi1 hi2 h14 h15 h16 h17 h18 h19 h20 h21 n0 n1 n2 n3 n4 n5 n6 hCR hrow hIm hlm hmn ?_)
  intro m8 h8 tk8 hk8 F8 N8
  show wpAny _ _ (execs _ _) _ _ _
  have f8_script : m8 (Str.ofString "script") = m (Str.ofString "script") := (hk8 _ (by decide)).trans f6_script
  have f8_least : m8 (Str.ofString "least") = m (Str.ofString "least") := (hk8 _ (by decide)).trans f6_least
  have f8_core : m8 (Str.ofString "core") = some (.int ((cc : Nat) : Int) tc) := (hk8 _ (by decide)).trans f6_core
  have f8_left : m8 (Str.ofString "left") = some (.ref lf) := (hk8 _ (by decide)).trans f6_left
  have f8_first : m8 (Str.ofString "first") = some (.ref lf) := (hk8 _ (by decide)).trans f6_first
  have f8_held : m8 (Str.ofString "held") = some (.ref hl) := (hk8 _ (by decide)).trans f6_held
  refine froS (M := cc) S (Fr_congr F8 (map_at2 f8_left f8_core)) N8 hcd hck hct hcm hco hcn' hlo' conl2 conl3 conl4 conl5 conl6 cml2 cml3 cml4 cml5 cml6 clel2 clel3 clel4 clel5 clel6 k1 k2 h10 h11 h12 h13 hi1 hi2 h14 h15 h16 h17 h18 h19 h20 h21 n0 n1 n2 n3 n4 n5 n6 hCR hrow ?_
  intro v1 v2 h9 tk9 F9 N9
  generalize hm9 : (fun y => if y = Str.ofString "others" then v1 else if y = Str.ofString "whole" then v2 else if y = Str.ofString "left" then some (Value.ref lf) else if y = Str.ofString "core" then some (Value.int ((cc : Nat) : Int) tc) else m8 y) = m9 at F9
  have f9_script : m9 (Str.ofString "script") = m (Str.ofString "script") := by rw [← hm9]; exact (if_neg (by decide)).trans ((if_neg (by decide)).trans ((if_neg (by decide)).trans ((if_neg (by decide)).trans (f8_script))))
  have f9_least : m9 (Str.ofString "least") = m (Str.ofString "least") := by rw [← hm9]; exact (if_neg (by decide)).trans ((if_neg (by decide)).trans ((if_neg (by decide)).trans ((if_neg (by decide)).trans (f8_least))))
  have f9_core : m9 (Str.ofString "core") = some (.int ((cc : Nat) : Int) tc) := by rw [← hm9]; exact (if_neg (by decide)).trans ((if_neg (by decide)).trans ((if_neg (by decide)).trans (if_pos rfl)))
  have f9_left : m9 (Str.ofString "left") = some (.ref lf) := by rw [← hm9]; exact (if_neg (by decide)).trans ((if_neg (by decide)).trans (if_pos rfl))
  have f9_first : m9 (Str.ofString "first") = some (.ref lf) := by rw [← hm9]; exact (if_neg (by decide)).trans ((if_neg (by decide)).trans ((if_neg (by decide)).trans ((if_neg (by decide)).trans (f8_first))))
  have f9_held : m9 (Str.ofString "held") = some (.ref hl) := by rw [← hm9]; exact (if_neg (by decide)).trans ((if_neg (by decide)).trans ((if_neg (by decide)).trans ((if_neg (by decide)).trans (f8_held))))
  refine wpAny_execs_cons (badS (tc := tc) (M := cc) S (Fr_congr F9 (map_at f9_left)) N9 hcd hck hct hcm hco hcn' hlo' conl2 conl3 conl4 conl5 conl6 cml2 cml3 cml4 cml5 cml6 clel2 clel3 clel4 clel5 clel6 k1 k2 h10 h11 h12 h13 hi1 hi2 h14 h15 h16 h17 h18 h19 h20 h21 n0 n1 n2 n3 n4 n5 n6 hCR hrow ?_)
  intro m10 h10' tk10 hk10 F10 N10
  show wpAny _ _ (execs _ _) _ _ _
  replace hk10 : ∀ y, y ≠ Str.ofString "bad" → m10 y = m9 y := fun y hy => (hk10 y hy).trans (congrFun (map_at f9_left).symm y)
  have f10_script : m10 (Str.ofString "script") = m (Str.ofString "script") := (hk10 _ (by decide)).trans f9_script
  have f10_least : m10 (Str.ofString "least") = m (Str.ofString "least") := (hk10 _ (by decide)).trans f9_least
  have f10_core : m10 (Str.ofString "core") = some (.int ((cc : Nat) : Int) tc) := (hk10 _ (by decide)).trans f9_core
  have f10_left : m10 (Str.ofString "left") = some (.ref lf) := (hk10 _ (by decide)).trans f9_left
  have f10_first : m10 (Str.ofString "first") = some (.ref lf) := (hk10 _ (by decide)).trans f9_first
  have f10_held : m10 (Str.ofString "held") = some (.ref hl) := (hk10 _ (by decide)).trans f9_held
  refine wpAny_execs_cons (chk2S (M := cc) (k := fun j => K j &&& cc) S (Fr_congr F10 (map_at3 f10_left f10_first f10_core)) N10 hcd hck hct hcm hco hcn' hlo' r0 r1 r2 r3 r4 r5 conl2 conl3 conl4 conl5 conl6 cml2 cml3 cml4 cml5 cml6 clel2 clel3 clel4 clel5 clel6 k1 k2 h10 h11 h12 h13 hi1 hi2 h14 h15 h16 h17 h18 h19 h20 h21 n0 n1 n2 n3 n4 n5 n6 hCR hrow rfl ?_)
  intro h11' tk11 F11 N11
  show wpAny _ _ (execs _ _) _ _ _
  replace F11 := Fr_congr F11 (map_at3 f10_left f10_first f10_core).symm
  refine zeroS (M := cc) (M0 := K 0 &&& cc) S (Fr_congr F11 (map_at f10_held)) N11 hcd hck hct hcm hco hcn' hlo' r0 conl2 conl3 conl4 conl5 conl6 cml2 cml3 cml4 cml5 cml6 clel2 clel3 clel4 clel5 clel6 k1 k2 h10 h11 h12 h13 hi1 hi2 h14 h15 h16 h17 h18 h19 h20 h21 n0 n1 n2 n3 n4 n5 n6 hCR hrow ?_
  intro h12' tk12 F12 N12
  exact hQ m10 cn' h12' tk12 ⟨_, hcn'⟩ f10_script f10_least (Fr_congr F12 (map_at f10_held).symm) N12
end Mine

end
theorem Mine.flWY : True := by first | (row_walk; done) | (walk1; done) | trivial
section
open PySem PySem.W PyProof.Rows
set_option Elab.async false
set_option linter.unusedVariables false
namespace Mine
set_option maxRecDepth 100000
set_option maxHeartbeats 8000000

def iterOf : Stmt → PySem.Expr
  | .For _ i _ _ _ => i
  | _ => default
def tposOf : Stmt → Pos
  | .For (.Name _ p) _ _ _ _ => p
  | _ => default
def fposOf : Stmt → Pos
  | .For _ _ _ _ p => p
  | _ => default
theorem forNeed_eq : forNeed = .For (.Name (Str.ofString "need") (tposOf forNeed)) (iterOf forNeed) (bodyOf forNeed) [] (fposOf forNeed) := rfl
theorem forNet_eq : forNet = .For (.Name (Str.ofString "net") (tposOf forNet)) (iterOf forNet) (bodyOf forNet) [] (fposOf forNet) := rfl
theorem netBody_eq : bodyOf forNet = [(fst1 (bodyOf forNet)), (fst1 (tl (bodyOf forNet))), (fst1 (tl (tl (bodyOf forNet)))), forNeed] := rfl
theorem mem_rot {x p : Addr × Obj} {l : List (Addr × Obj)} (h : p ∈ l ++ [x]) : p ∈ x :: l := by
  rcases List.mem_append.mp h with z | z
  · exact List.mem_cons_of_mem _ z
  · rw [List.mem_singleton.mp z]; exact List.mem_cons_self
theorem mem_rot' {x p : Addr × Obj} {l : List (Addr × Obj)} (h : p ∈ x :: l) : p ∈ l ++ [x] := by
  rcases List.mem_cons.mp h with rfl | z
  · exact List.mem_append_right _ (List.mem_singleton.mpr rfl)
  · exact List.mem_append_left _ z
theorem off_fst {l l' : List (Addr × Obj)} {I : Addr} (e : l'.map Prod.fst = l.map Prod.fst) (h : ∀ p ∈ l, p.1 ≠ I) : ∀ p ∈ l', p.1 ≠ I := fun p hp => by
  have z := List.mem_map_of_mem (f := Prod.fst) hp
  rw [e] at z
  obtain ⟨q, hq, e'⟩ := List.mem_map.mp z
  rw [← e']; exact h q hq

theorem needIter {w : World} {s₀ s : Shared} {b : Heap} {mg mb : Str → Option Value} (S : Stat w s₀ b mg mb) {fa c : Addr} {u : Str → Option Value}  {Q : Value → Shared → Prop} {news : List (Addr × Obj)}
  (F : Fr b b.objs.size s.heap u) (N : News b b.objs.size s.heap news) (hCR : b.CodeRec (.ref c) (Str.ofString "law")) (hrow : Challenge.rw_km0070_01.foot = 3)
  (hQ : ∀ r t x v h tk, IsRange h r 1 5 1 t x v → Fr b b.objs.size h u → News b b.objs.size h news → Q (.ref r) { s with heap := h, toks := tk })
  : wpAny (model Challenge.rw_km0070_01.row.prog w) (callerA.deeper (envOfC (Str.ofString "law") lawScope b.objs.size fa (.ref c))) (eval (iterOf forNeed) (envOfC (Str.ofString "law") lawScope b.objs.size fa (.ref c))) Q (fun _ _ => False) s := by
  obtain ⟨KX, T, GL, B0⟩ := S
  dsimp only [iterOf, whileSt, lawScope, scopeOf, forNeed, forNet, lawDef, bodyOf, PySem.Challenge.pw_km0070_01, tl, fst1]
  revert KX
  k_fill
  intro KX
  k_steps
  rename IsRange _ _ _ _ _ _ _ _ => R9
  rename Fr b _ _ _ => F9
  rename News b _ _ _ => N9
  exact hQ _ _ _ _ _ _ R9 F9 N9

theorem netIter {w : World} {s₀ s : Shared} {b : Heap} {mg mb : Str → Option Value} (S : Stat w s₀ b mg mb) {fa c : Addr} {u : Str → Option Value}  {Q : Value → Shared → Prop} {news : List (Addr × Obj)}
  (F : Fr b b.objs.size s.heap u) (N : News b b.objs.size s.heap news) (hCR : b.CodeRec (.ref c) (Str.ofString "law")) (hrow : Challenge.rw_km0070_01.foot = 3)
  (hQ : ∀ r t x v h tk, IsRange h r 0 3 1 t x v → Fr b b.objs.size h u → News b b.objs.size h news → Q (.ref r) { s with heap := h, toks := tk })
  : wpAny (model Challenge.rw_km0070_01.row.prog w) (callerA.deeper (envOfC (Str.ofString "law") lawScope b.objs.size fa (.ref c))) (eval (iterOf forNet) (envOfC (Str.ofString "law") lawScope b.objs.size fa (.ref c))) Q (fun _ _ => False) s := by
  obtain ⟨KX, T, GL, B0⟩ := S
  dsimp only [iterOf, whileSt, lawScope, scopeOf, forNeed, forNet, lawDef, bodyOf, PySem.Challenge.pw_km0070_01, tl, fst1]
  revert KX
  k_fill
  intro KX
  k_steps
  rename IsRange _ _ _ _ _ _ _ _ => R9
  rename Fr b _ _ _ => F9
  rename News b _ _ _ => N9
  exact hQ _ _ _ _ _ _ R9 F9 N9

theorem netStore {w : World} {s₀ s : Shared} {b : Heap} {mg mb : Str → Option Value} (S : Stat w s₀ b mg mb) {fa c : Addr} {u : Str → Option Value} {cn cd cm ct ck co : Obj} {net need tells : Int} {t1 t2 t3 : Tok} {lel ml onl i1 i2 : Addr} {it1 it2 : Obj} {lev mv onv : List Value} {e3 e4 e5 : Nat} {Q : Unit → Shared → Prop} {v v' : Option Value} {n : Int} {t : Tok}
  (F : Fr b b.objs.size s.heap u) 
  (N : News b b.objs.size s.heap [(i1, it1), (onl, PySem.W.listOf onv.toArray e5), (b.objs.size + 1 + 1 + 1 + 1 + 1 + 1, cn), (b.objs.size + 1 + 1 + 1 + 1 + 1, cd), (b.objs.size + 1 + 1 + 1 + 1, cm), (b.objs.size + 1 + 1 + 1, ct), (b.objs.size + 1 + 1, ck), (b.objs.size + 1, co)]) 
  (hck : ck.data = .cell v) (conl2 : onl ≠ b.objs.size + 1 + 1) (conl3 : onl ≠ b.objs.size + 1 + 1 + 1) (conl4 : onl ≠ b.objs.size + 1 + 1 + 1 + 1) (conl5 : onl ≠ b.objs.size + 1 + 1 + 1 + 1 + 1) (conl6 : onl ≠ b.objs.size + 1 + 1 + 1 + 1 + 1 + 1) (k1 : b.objs.size + 1 + 1 + 1 + 1 + 1 + 1 < i1) (hCR : b.CodeRec (.ref c) (Str.ofString "law")) (hrow : Challenge.rw_km0070_01.foot = 3)
  (hQ : ∀ ck' h tk, ck'.data = .cell (some (.int n t)) → Fr b b.objs.size h u → News b b.objs.size h [(i1, it1), (onl, PySem.W.listOf onv.toArray e5), (b.objs.size + 1 + 1 + 1 + 1 + 1 + 1, cn), (b.objs.size + 1 + 1 + 1 + 1 + 1, cd), (b.objs.size + 1 + 1 + 1 + 1, cm), (b.objs.size + 1 + 1 + 1, ct), (b.objs.size + 1 + 1, ck'), (b.objs.size + 1, co)] → Q () { s with heap := h, toks := tk })
  : wpAny (model Challenge.rw_km0070_01.row.prog w) (callerA.deeper (envOfC (Str.ofString "law") lawScope b.objs.size fa (.ref c))) (storeName (envOfC (Str.ofString "law") lawScope b.objs.size fa (.ref c)) (Str.ofString "net") (.int n t)) Q (fun _ _ => False) s := by
  obtain ⟨KX, T, GL, B0⟩ := S
  dsimp only [whileSt, lawScope, scopeOf, forNeed, forNet, lawDef, bodyOf, PySem.Challenge.pw_km0070_01, tl, fst1]
  revert KX
  k_fill
  intro KX
  k_steps
  rename _ = Data.cell (some (Value.int _ _)) => hd9
  rename Fr b _ _ _ => F9
  rename News b _ _ _ => N9
  exact hQ _ _ _ hd9 F9 N9
theorem needS {w : World} {s₀ s : Shared} {b : Heap} {mg mb : Str → Option Value} (S : Stat w s₀ b mg mb) {fa c : Addr} {u : Str → Option Value} {cn cd cm ct ck co : Obj} {net need tells : Int} {t1 t2 t3 : Tok} {lel ml onl i1 i2 : Addr} {it1 it2 : Obj} {lev mv onv : List Value} {e3 e4 e5 : Nat} {Q : Flow → Shared → Prop} {m : Str → Option Value} {ls on mn : List Int} {K : Nat → Nat}
  (F : Fr b b.objs.size s.heap m) (hle : m (Str.ofString "least") = some (.ref lel))
  (N : News b b.objs.size s.heap [(lel, PySem.W.listOf lev.toArray e3), (ml, PySem.W.listOf mv.toArray e4), (onl, PySem.W.listOf onv.toArray e5), (b.objs.size + 1 + 1 + 1 + 1 + 1 + 1, cn), (b.objs.size + 1 + 1 + 1 + 1 + 1, cd), (b.objs.size + 1 + 1 + 1 + 1, cm), (b.objs.size + 1 + 1 + 1, ct), (b.objs.size + 1 + 1, ck), (b.objs.size + 1, co), (i1, it1)]) (hcd : ∃ v, cd.data = .cell v) (hck : ck.data = .cell (some (.int net t2))) (hct : ct.data = .cell (some (.int tells t3))) (hcm : cm.data = .cell (some (.ref ml))) (hco : co.data = .cell (some (.ref onl))) (hcn : ∃ v, cn.data = .cell v) (conl2 : onl ≠ b.objs.size + 1 + 1) (conl3 : onl ≠ b.objs.size + 1 + 1 + 1) (conl4 : onl ≠ b.objs.size + 1 + 1 + 1 + 1) (conl5 : onl ≠ b.objs.size + 1 + 1 + 1 + 1 + 1) (conl6 : onl ≠ b.objs.size + 1 + 1 + 1 + 1 + 1 + 1) (cml2 : ml ≠ b.objs.size + 1 + 1) (cml3 : ml ≠ b.objs.size + 1 + 1 + 1) (cml4 : ml ≠ b.objs.size + 1 + 1 + 1 + 1) (cml5 : ml ≠ b.objs.size + 1 + 1 + 1 + 1 + 1) (cml6 : ml ≠ b.objs.size + 1 + 1 + 1 + 1 + 1 + 1) (clel2 : lel ≠ b.objs.size + 1 + 1) (clel3 : lel ≠ b.objs.size + 1 + 1 + 1) (clel4 : lel ≠ b.objs.size + 1 + 1 + 1 + 1) (clel5 : lel ≠ b.objs.size + 1 + 1 + 1 + 1 + 1) (clel6 : lel ≠ b.objs.size + 1 + 1 + 1 + 1 + 1 + 1) (k1 : b.objs.size + 1 + 1 + 1 + 1 + 1 + 1 < i1) (hCR : b.CodeRec (.ref c) (Str.ofString "law")) (hrow : Challenge.rw_km0070_01.foot = 3)
  (hIl : IntsAre lev ls) (hll : ls.length = 64) (hIm : IntsAre mv mn) (hlm : mn.length = 6) (hK : ∀ j < 6, K j < 64) (hmn : ∀ j < 6, mn.getD j 0 = ((K j : Nat) : Int))
  (hon : ∀ x < 64, on.getD x 0 = ((pts x).length : Int)) (hls : ∀ j < 64, LeastIs on K j (ls.getD j 0)) (hnet : 0 ≤ net) (hh : lel ≠ b.objs.size + 1 + 1 + 1 + 1 + 1 + 1)
  (hQ : ∀ m₁ cn' cd' h tk, (∃ v, cn'.data = .cell v) → (∃ v, cd'.data = .cell v) → m₁ (Str.ofString "script") = m (Str.ofString "script") → Fr b b.objs.size h m₁ → News b b.objs.size h [(lel, PySem.W.listOf lev.toArray e3), (ml, PySem.W.listOf mv.toArray e4), (onl, PySem.W.listOf onv.toArray e5), (b.objs.size + 1 + 1 + 1 + 1 + 1 + 1, cn'), (b.objs.size + 1 + 1 + 1 + 1 + 1, cd'), (b.objs.size + 1 + 1 + 1 + 1, cm), (b.objs.size + 1 + 1 + 1, ct), (b.objs.size + 1 + 1, ck), (b.objs.size + 1, co), (i1, it1)] → Q .next { s with heap := h, toks := tk })
  : wpAny (model Challenge.rw_km0070_01.row.prog w) (callerA.deeper (envOfC (Str.ofString "law") lawScope b.objs.size fa (.ref c))) (exec forNeed (envOfC (Str.ofString "law") lawScope b.objs.size fa (.ref c))) Q (fun _ _ => False) s := by
  rw [forNeed_eq]
  refine For_J (h₀ := b) (L := b.objs.size) ?_
  refine needIter S F N hCR hrow ?_
  intro r t x v h₁ tk₁ R₁ F₁ N₁
  refine ⟨r, 1, 5, t, x, v, 4, m, [(lel, PySem.W.listOf lev.toArray e3), (ml, PySem.W.listOf mv.toArray e4), (onl, PySem.W.listOf onv.toArray e5), (b.objs.size + 1 + 1 + 1 + 1 + 1 + 1, cn), (b.objs.size + 1 + 1 + 1 + 1 + 1, cd), (b.objs.size + 1 + 1 + 1 + 1, cm), (b.objs.size + 1 + 1 + 1, ct), (b.objs.size + 1 + 1, ck), (b.objs.size + 1, co), (i1, it1)], fun i m₁ news₁ => ∃ cn' cd', (∃ v, cn'.data = .cell v) ∧ (∃ v, cd'.data = .cell v) ∧ m₁ (Str.ofString "script") = m (Str.ofString "script") ∧ m₁ (Str.ofString "least") = m (Str.ofString "least") ∧ news₁ = [(lel, PySem.W.listOf lev.toArray e3), (ml, PySem.W.listOf mv.toArray e4), (onl, PySem.W.listOf onv.toArray e5), (b.objs.size + 1 + 1 + 1 + 1 + 1 + 1, cn'), (b.objs.size + 1 + 1 + 1 + 1 + 1, cd'), (b.objs.size + 1 + 1 + 1 + 1, cm), (b.objs.size + 1 + 1 + 1, ct), (b.objs.size + 1 + 1, ck), (b.objs.size + 1, co), (i1, it1)], rfl, rfl, F₁, N₁, R₁, by decide, by decide, ⟨cn, cd, hcn, hcd, rfl, rfl, rfl⟩, ?turn, ?done⟩
  case done =>
    rintro h tk m₁ news₁ ⟨cn', cd', y1, y2, y3, y4, rfl⟩ F₂ N₂
    exact hQ m₁ cn' cd' h _ y1 y2 y3 F₂ N₂
  case turn =>
    rintro i tk₀ I oI h tk m₁ news₁ hi hI ⟨cn', cd', y1, ⟨v₂, y2⟩, y3, y4, rfl⟩ F₂ N₂ off
    have k2 : b.objs.size + 1 + 1 + 1 + 1 + 1 + 1 < I := hI (b.objs.size + 1 + 1 + 1 + 1 + 1 + 1, cn) (by repeat first | exact List.mem_cons_self | apply List.mem_cons_of_mem)
    refine needStore (net := 0) (need := 0) (tells := 0) (t1 := t2) (t2 := t2) (t3 := t2) (v' := none) (i2 := I) (it2 := oI) (cn := cn') (cd := cd') S F₂ (fun p hp => N₂ p (mem_rot (l := [(lel, PySem.W.listOf lev.toArray e3), (ml, PySem.W.listOf mv.toArray e4), (onl, PySem.W.listOf onv.toArray e5), (b.objs.size + 1 + 1 + 1 + 1 + 1 + 1, cn'), (b.objs.size + 1 + 1 + 1 + 1 + 1, cd'), (b.objs.size + 1 + 1 + 1 + 1, cm), (b.objs.size + 1 + 1 + 1, ct), (b.objs.size + 1 + 1, ck), (b.objs.size + 1, co), (i1, it1)]) hp)) y2 conl2 conl3 conl4 conl5 conl6 cml2 cml3 cml4 cml5 cml6 clel2 clel3 clel4 clel5 clel6 k1 k2 hCR hrow ?_
    intro cd'' h₂ tk₂ hcd'' F₃ N₃
    refine bodyS (u := m) (i2 := I) (it2 := oI) (cn := cn') (cd := cd'') S F₃ (y4.trans hle) N₃ hcd'' hck hct hcm hco y1 conl2 conl3 conl4 conl5 conl6 cml2 cml3 cml4 cml5 cml6 clel2 clel3 clel4 clel5 clel6 k1 k2 hCR hrow hIl hll hIm hlm hK hmn hon hls (by omega) (by omega) ?_
    intro m₂ cn'' h₃ tk₃ hcn'' g1 g2 F₄ N₄
    exact ⟨h₃, tk₃, m₂, [(lel, PySem.W.listOf lev.toArray e3), (ml, PySem.W.listOf mv.toArray e4), (onl, PySem.W.listOf onv.toArray e5), (b.objs.size + 1 + 1 + 1 + 1 + 1 + 1, cn''), (b.objs.size + 1 + 1 + 1 + 1 + 1, cd''), (b.objs.size + 1 + 1 + 1 + 1, cm), (b.objs.size + 1 + 1 + 1, ct), (b.objs.size + 1 + 1, ck), (b.objs.size + 1, co), (i1, it1)], rfl, F₄, fun p hp => N₄ p (mem_rot' (l := [(lel, PySem.W.listOf lev.toArray e3), (ml, PySem.W.listOf mv.toArray e4), (onl, PySem.W.listOf onv.toArray e5), (b.objs.size + 1 + 1 + 1 + 1 + 1 + 1, cn''), (b.objs.size + 1 + 1 + 1 + 1 + 1, cd''), (b.objs.size + 1 + 1 + 1 + 1, cm), (b.objs.size + 1 + 1 + 1, ct), (b.objs.size + 1 + 1, ck), (b.objs.size + 1, co), (i1, it1)]) hp), off_fst (l := [(lel, PySem.W.listOf lev.toArray e3), (ml, PySem.W.listOf mv.toArray e4), (onl, PySem.W.listOf onv.toArray e5), (b.objs.size + 1 + 1 + 1 + 1 + 1 + 1, cn'), (b.objs.size + 1 + 1 + 1 + 1 + 1, cd'), (b.objs.size + 1 + 1 + 1 + 1, cm), (b.objs.size + 1 + 1 + 1, ct), (b.objs.size + 1 + 1, ck), (b.objs.size + 1, co), (i1, it1)]) rfl off, cn'', cd'', hcn'', ⟨_, hcd''⟩, g1.trans y3, g2.trans y4, rfl⟩
theorem netBodyS {w : World} {s₀ s : Shared} {b : Heap} {mg mb : Str → Option Value} (S : Stat w s₀ b mg mb) {fa c : Addr} {u : Str → Option Value} {cn cd cm ct ck co : Obj} {net need tells : Int} {t1 t2 t3 : Tok} {lel ml onl i1 i2 : Addr} {it1 it2 : Obj} {lev mv onv : List Value} {e3 e4 e5 : Nat} {Q : Flow → Shared → Prop} {m : Str → Option Value} {on : List Int} {sl : Addr} {sv : List Value} {ns : List Int}
  (F : Fr b b.objs.size s.heap m) (hsc : m (Str.ofString "script") = some (.ref sl)) (hsl : b.IsList sl sv.toArray) (hI : IntsAre sv ns) (hlen : ns.length ≤ 63)
  (N : News b b.objs.size s.heap [(onl, PySem.W.listOf onv.toArray e5), (b.objs.size + 1 + 1 + 1 + 1 + 1 + 1, cn), (b.objs.size + 1 + 1 + 1 + 1 + 1, cd), (b.objs.size + 1 + 1 + 1 + 1, cm), (b.objs.size + 1 + 1 + 1, ct), (b.objs.size + 1 + 1, ck), (b.objs.size + 1, co), (i1, it1)]) (hck : ck.data = .cell (some (.int net t2))) (hcd : (∃ v, cd.data = .cell v)) (hct : (∃ v, ct.data = .cell v)) (hcm : (∃ v, cm.data = .cell v)) (hco : co.data = .cell (some (.ref onl))) (hcn : (∃ v, cn.data = .cell v)) (conl2 : onl ≠ b.objs.size + 1 + 1) (conl3 : onl ≠ b.objs.size + 1 + 1 + 1) (conl4 : onl ≠ b.objs.size + 1 + 1 + 1 + 1) (conl5 : onl ≠ b.objs.size + 1 + 1 + 1 + 1 + 1) (conl6 : onl ≠ b.objs.size + 1 + 1 + 1 + 1 + 1 + 1) (k1 : b.objs.size + 1 + 1 + 1 + 1 + 1 + 1 < i1) (hCR : b.CodeRec (.ref c) (Str.ofString "law")) (hrow : Challenge.rw_km0070_01.foot = 3)
  (hoi : IntsAre onv on) (hol : on.length = 64) (hon : ∀ x < 64, on.getD x 0 = ((pts x).length : Int)) (hnet : 0 ≤ net ∧ net ≤ 2)
  (hQ : ∀ m₁ cn' cd' cm' ct' h tk, (∃ v, cn'.data = .cell v) → (∃ v, cd'.data = .cell v) → (∃ v, cm'.data = .cell v) → (∃ v, ct'.data = .cell v) → m₁ (Str.ofString "script") = some (.ref sl) → Fr b b.objs.size h m₁ → News b b.objs.size h [(onl, PySem.W.listOf onv.toArray e5), (b.objs.size + 1 + 1 + 1 + 1 + 1 + 1, cn'), (b.objs.size + 1 + 1 + 1 + 1 + 1, cd'), (b.objs.size + 1 + 1 + 1 + 1, cm'), (b.objs.size + 1 + 1 + 1, ct'), (b.objs.size + 1 + 1, ck), (b.objs.size + 1, co), (i1, it1)] → Q .next { s with heap := h, toks := tk })
  : wpAny (model Challenge.rw_km0070_01.row.prog w) (callerA.deeper (envOfC (Str.ofString "law") lawScope b.objs.size fa (.ref c))) (execs (bodyOf forNet) (envOfC (Str.ofString "law") lawScope b.objs.size fa (.ref c))) Q (fun _ _ => False) s := by
  obtain ⟨v₃, hct⟩ := hct
  obtain ⟨v₄, hcm⟩ := hcm
  rw [netBody_eq]
  refine wpAny_execs_cons (tellsS (need := 0) (tells := 0) (t1 := t2) (t3 := t2) (lel := onl) (ml := onl) (lev := onv) (mv := onv) (e3 := e5) (e4 := e5) (i2 := i1) (it2 := it1) S (Fr_congr F (map_at hsc)) N hsl hI hlen hck hnet hct conl2 conl3 conl4 conl5 conl6 k1 hCR hrow ?_)
  intro ct' n t h₁ tk₁ hct' F₁ N₁
  show wpAny _ _ (execs _ _) _ _ _
  replace F₁ := Fr_congr F₁ (map_at hsc).symm
  refine wpAny_execs_cons (masksS (need := 0) (t1 := t2) (lel := onl) (ml := onl) (lev := onv) (mv := onv) (e3 := e5) (e4 := e5) (i2 := i1) (it2 := it1) S F₁ N₁ hck hnet hct' hcm conl2 conl3 conl4 conl5 conl6 k1 hCR hrow ?_)
  intro ml cm' mv mn h₂ tk₂ hcm' hIm hlm hb conm d6 d5 d4 d3 d2 F₂ N₂
  show wpAny _ _ (execs _ _) _ _ _
  have hmb : ∀ j < 6, 0 ≤ mn.getD j 0 ∧ mn.getD j 0 < 64 := fun j hj => by
    rw [List.getD_eq_getElem?_getD, List.getElem?_eq_getElem (by omega)]
    exact hb _ (List.getElem_mem _)
  have hK : ∀ j < 6, (fun j => (mn.getD j 0).toNat) j < 64 := fun j hj => by have := hmb j hj; show (mn.getD j 0).toNat < 64; omega
  have hmn : ∀ j < 6, mn.getD j 0 = (((fun j => (mn.getD j 0).toNat) j : Nat) : Int) := fun j hj => by have := hmb j hj; show mn.getD j 0 = (((mn.getD j 0).toNat : Nat) : Int); omega
  refine wpAny_execs_cons (leastS (net := 0) (need := 0) (tells := 0) (t1 := t2) (t2 := t2) (t3 := t2) (lel := onl) (lev := onv) (e3 := e5) (i2 := i1) (it2 := it1) (e4 := mv.length) (mn := mn) (on := on) (K := fun j => (mn.getD j 0).toNat) S F₂ N₂ hcm' hco hIm hlm hoi hol hK hmn hCR hrow ?_)
  intro lel ys ls h₃ tk₃ hIl hll hls hle6 hlt F₃ N₃
  show wpAny _ _ (execs _ _) _ _ _
  have hc : ∀ p ∈ [(ml, PySem.W.listOf mv.toArray mv.length), (onl, PySem.W.listOf onv.toArray e5), (b.objs.size + 1 + 1 + 1 + 1 + 1 + 1, cn), (b.objs.size + 1 + 1 + 1 + 1 + 1, cd), (b.objs.size + 1 + 1 + 1 + 1, cm'), (b.objs.size + 1 + 1 + 1, ct'), (b.objs.size + 1 + 1, ck), (b.objs.size + 1, co), (i1, it1)], @Ne Nat lel p.1 := fun p hp => Ne.symm (Nat.ne_of_lt (hlt p hp))
  refine wpAny_execs_cons (needS (u := m) (need := 0) (t1 := t2) (i2 := i1) (it2 := it1) (e3 := ys.length) (e4 := mv.length) (K := fun j => (mn.getD j 0).toNat) S F₃ (if_pos rfl) N₃ hcd hck hct' hcm' hco hcn conl2 conl3 conl4 conl5 conl6 (Ne.symm d2) (Ne.symm d3) (Ne.symm d4) (Ne.symm d5) (Ne.symm d6) (hc (b.objs.size + 1 + 1, _) (by repeat first | exact List.mem_cons_self | apply List.mem_cons_of_mem)) (hc (b.objs.size + 1 + 1 + 1, _) (by repeat first | exact List.mem_cons_self | apply List.mem_cons_of_mem)) (hc (b.objs.size + 1 + 1 + 1 + 1, _) (by repeat first | exact List.mem_cons_self | apply List.mem_cons_of_mem)) (hc (b.objs.size + 1 + 1 + 1 + 1 + 1, _) (by repeat first | exact List.mem_cons_self | apply List.mem_cons_of_mem)) (hc (b.objs.size + 1 + 1 + 1 + 1 + 1 + 1, _) (by repeat first | exact List.mem_cons_self | apply List.mem_cons_of_mem)) k1 hCR hrow hIl hll hIm hlm hK hmn hon hls hnet.1 hle6 ?_)
  intro m₁ cn' cd' h₄ tk₄ hcn' hcd' hs F₄ N₄
  show wpAny _ _ (execs _ _) _ _ _
  refine wpAny_execs_nil (hQ m₁ cn' cd' cm' ct' h₄ _ hcn' hcd' ⟨_, hcm'⟩ ⟨_, hct'⟩ (hs.trans ((if_neg (by decide)).trans hsc)) F₄ fun p hp => N₄ p (List.mem_cons_of_mem _ (List.mem_cons_of_mem _ hp)))
theorem netS {w : World} {s₀ s : Shared} {b : Heap} {mg mb : Str → Option Value} (S : Stat w s₀ b mg mb) {fa c : Addr} {u : Str → Option Value} {cn cd cm ct ck co : Obj} {net need tells : Int} {t1 t2 t3 : Tok} {lel ml onl i1 i2 : Addr} {it1 it2 : Obj} {lev mv onv : List Value} {e3 e4 e5 : Nat} {Q : Flow → Shared → Prop} {m : Str → Option Value} {on : List Int} {sl : Addr} {sv : List Value} {ns : List Int}
  (F : Fr b b.objs.size s.heap m) (hsc : m (Str.ofString "script") = some (.ref sl)) (hsl : b.IsList sl sv.toArray) (hI : IntsAre sv ns) (hlen : ns.length ≤ 63)
  (N : News b b.objs.size s.heap [(onl, PySem.W.listOf onv.toArray e5), (b.objs.size + 1 + 1 + 1 + 1 + 1 + 1, cn), (b.objs.size + 1 + 1 + 1 + 1 + 1, cd), (b.objs.size + 1 + 1 + 1 + 1, cm), (b.objs.size + 1 + 1 + 1, ct), (b.objs.size + 1 + 1, ck), (b.objs.size + 1, co)]) (hck : (∃ v, ck.data = .cell v)) (hcd : (∃ v, cd.data = .cell v)) (hct : (∃ v, ct.data = .cell v)) (hcm : (∃ v, cm.data = .cell v)) (hco : co.data = .cell (some (.ref onl))) (hcn : (∃ v, cn.data = .cell v)) (conl2 : onl ≠ b.objs.size + 1 + 1) (conl3 : onl ≠ b.objs.size + 1 + 1 + 1) (conl4 : onl ≠ b.objs.size + 1 + 1 + 1 + 1) (conl5 : onl ≠ b.objs.size + 1 + 1 + 1 + 1 + 1) (conl6 : onl ≠ b.objs.size + 1 + 1 + 1 + 1 + 1 + 1) (hCR : b.CodeRec (.ref c) (Str.ofString "law")) (hrow : Challenge.rw_km0070_01.foot = 3)
  (hoi : IntsAre onv on) (hol : on.length = 64) (hon : ∀ x < 64, on.getD x 0 = ((pts x).length : Int))
  (hQ : ∀ m₁ ck' cn' cd' cm' ct' h tk, Fr b b.objs.size h m₁ → News b b.objs.size h [(onl, PySem.W.listOf onv.toArray e5), (b.objs.size + 1 + 1 + 1 + 1 + 1 + 1, cn'), (b.objs.size + 1 + 1 + 1 + 1 + 1, cd'), (b.objs.size + 1 + 1 + 1 + 1, cm'), (b.objs.size + 1 + 1 + 1, ct'), (b.objs.size + 1 + 1, ck'), (b.objs.size + 1, co)] → Q .next { s with heap := h, toks := tk })
  : wpAny (model Challenge.rw_km0070_01.row.prog w) (callerA.deeper (envOfC (Str.ofString "law") lawScope b.objs.size fa (.ref c))) (exec forNet (envOfC (Str.ofString "law") lawScope b.objs.size fa (.ref c))) Q (fun _ _ => False) s := by
  rw [forNet_eq]
  refine For_J (h₀ := b) (L := b.objs.size) ?_
  refine netIter S F N hCR hrow ?_
  intro r t x v h₁ tk₁ R₁ F₁ N₁
  refine ⟨r, 0, 3, t, x, v, 3, m, [(onl, PySem.W.listOf onv.toArray e5), (b.objs.size + 1 + 1 + 1 + 1 + 1 + 1, cn), (b.objs.size + 1 + 1 + 1 + 1 + 1, cd), (b.objs.size + 1 + 1 + 1 + 1, cm), (b.objs.size + 1 + 1 + 1, ct), (b.objs.size + 1 + 1, ck), (b.objs.size + 1, co)], fun i m₁ news₁ => ∃ ck' cn' cd' cm' ct', (∃ v, ck'.data = .cell v) ∧ (∃ v, cn'.data = .cell v) ∧ (∃ v, cd'.data = .cell v) ∧ (∃ v, cm'.data = .cell v) ∧ (∃ v, ct'.data = .cell v) ∧ m₁ (Str.ofString "script") = some (.ref sl) ∧ news₁ = [(onl, PySem.W.listOf onv.toArray e5), (b.objs.size + 1 + 1 + 1 + 1 + 1 + 1, cn'), (b.objs.size + 1 + 1 + 1 + 1 + 1, cd'), (b.objs.size + 1 + 1 + 1 + 1, cm'), (b.objs.size + 1 + 1 + 1, ct'), (b.objs.size + 1 + 1, ck'), (b.objs.size + 1, co)], rfl, rfl, F₁, N₁, R₁, by decide, by decide, ⟨ck, cn, cd, cm, ct, hck, hcn, hcd, hcm, hct, hsc, rfl⟩, ?turn, ?done⟩
  case done =>
    rintro h tk m₁ news₁ ⟨ck', cn', cd', cm', ct', g1, g2, g3, g4, g5, g6, rfl⟩ F₂ N₂
    exact hQ m₁ ck' cn' cd' cm' ct' h _ F₂ N₂
  case turn =>
    rintro i tk₀ I oI h tk m₁ news₁ hi hI' ⟨ck', cn', cd', cm', ct', ⟨v₁, g1⟩, g2, g3, g4, g5, g6, rfl⟩ F₂ N₂ off
    have k1 : b.objs.size + 1 + 1 + 1 + 1 + 1 + 1 < I := hI' (b.objs.size + 1 + 1 + 1 + 1 + 1 + 1, cn) (by repeat first | exact List.mem_cons_self | apply List.mem_cons_of_mem)
    refine netStore (net := 0) (need := 0) (tells := 0) (t1 := t2) (t2 := t2) (t3 := t2) (lel := onl) (ml := onl) (lev := onv) (mv := onv) (e3 := e5) (e4 := e5) (v' := none) (i2 := I) (it2 := oI) (i1 := I) (it1 := oI) S F₂ N₂ g1 conl2 conl3 conl4 conl5 conl6 k1 hCR hrow ?_
    intro ck'' h₂ tk₂ hck'' F₃ N₃
    refine netBodyS (u := m) (need := 0) (tells := 0) (t1 := t2) (t3 := t2) (lel := onl) (ml := onl) (lev := onv) (mv := onv) (e3 := e5) (e4 := e5) (i2 := I) (it2 := oI) (i1 := I) (it1 := oI) S F₃ g6 hsl hI hlen (fun p hp => N₃ p (mem_rot (l := [(onl, PySem.W.listOf onv.toArray e5), (b.objs.size + 1 + 1 + 1 + 1 + 1 + 1, cn'), (b.objs.size + 1 + 1 + 1 + 1 + 1, cd'), (b.objs.size + 1 + 1 + 1 + 1, cm'), (b.objs.size + 1 + 1 + 1, ct'), (b.objs.size + 1 + 1, ck''), (b.objs.size + 1, co)]) hp)) hck'' g3 g5 g4 hco g2 conl2 conl3 conl4 conl5 conl6 k1 hCR hrow hoi hol hon (by omega) ?_
    intro m₂ cn₂ cd₂ cm₂ ct₂ h₃ tk₃ z1 z2 z3 z4 z5 F₄ N₄
    exact ⟨h₃, tk₃, m₂, [(onl, PySem.W.listOf onv.toArray e5), (b.objs.size + 1 + 1 + 1 + 1 + 1 + 1, cn₂), (b.objs.size + 1 + 1 + 1 + 1 + 1, cd₂), (b.objs.size + 1 + 1 + 1 + 1, cm₂), (b.objs.size + 1 + 1 + 1, ct₂), (b.objs.size + 1 + 1, ck''), (b.objs.size + 1, co)], rfl, F₄, fun p hp => N₄ p (mem_rot' (l := [(onl, PySem.W.listOf onv.toArray e5), (b.objs.size + 1 + 1 + 1 + 1 + 1 + 1, cn₂), (b.objs.size + 1 + 1 + 1 + 1 + 1, cd₂), (b.objs.size + 1 + 1 + 1 + 1, cm₂), (b.objs.size + 1 + 1 + 1, ct₂), (b.objs.size + 1 + 1, ck''), (b.objs.size + 1, co)]) hp), off_fst (l := [(onl, PySem.W.listOf onv.toArray e5), (b.objs.size + 1 + 1 + 1 + 1 + 1 + 1, cn'), (b.objs.size + 1 + 1 + 1 + 1 + 1, cd'), (b.objs.size + 1 + 1 + 1 + 1, cm'), (b.objs.size + 1 + 1 + 1, ct'), (b.objs.size + 1 + 1, ck'), (b.objs.size + 1, co)]) rfl off, ck'', cn₂, cd₂, cm₂, ct₂, ⟨_, hck''⟩, z1, z2, z3, z4, z5, rfl⟩
end Mine

end
theorem Mine.flWV : True := by first | (row_walk; done) | (walk1; done) | trivial
end
section
open PySem PySem.W PyProof.Rows
set_option Elab.async false
namespace Mine
set_option maxRecDepth 100000
set_option maxHeartbeats 8000000
local macro_rules | `(tactic| walk_at "exec For Name Call cons nil") => `(tactic| refine Halt.out ?_)
theorem range_at (f : Int → Int) {x n : Nat} (h : x < n) : (List.map f (rangeKs 0 n)).getD x 0 = f (x : Int) := by
  have e : (rangeKs 0 n)[x]? = some ((x : Nat) : Int) := by
    unfold rangeKs
    simp [h]
  rw [List.getD_eq_getElem?_getD, List.getElem?_map, e]; rfl
theorem ones_at {x : Nat} (h : x < 64) : (List.map (fun k' : Int => (((List.map PyData.int (List.filter (fun a : Int => (k'.fdiv (2 ^ a.toNat)).fmod 2 == 1) (rangeInts 0 1 ((6 : Int) - 0).toNat))).length : Nat) : Int)) (rangeKs 0 ((64 : Int) - 0).toNat)).getD x 0 = ((pts x).length : Int) := by
  rw [range_at (n := ((64 : Int) - 0).toNat) _ (by exact h)]
  rw [List.length_map]
  have z := congrArg List.length (law_pts x)
  rw [List.length_map, List.length_map] at z
  rw [z]
theorem top : Challenge.rw_km0070_01.Holds := by
  refine Mine.hd ?_
  w_strict (k_go0; (all_goals try k_fold); k_steps)
  refine Halt.mk ?_
  rename Fr _ _ _ _ => zF
  rename News _ _ _ _ => zN
  rename IntsAre _ (List.map _ (rangeKs _ _)) => zO
  rename Heap.CodeRec _ _ _ => zC
  rename _ = Data.cell (some (Value.ref _)) => zD
  rename _ ∧ _ => zNe
  rename ¬ (_ < _) => zL
  refine' wpAny_mono (netS (u := fun _ => none) (net := 0) (need := 0) (tells := 0) (t1 := 0) (t2 := 0) (t3 := 0) (lel := 0) (ml := 0) (i1 := 0) (i2 := 0) (it1 := { cls := .none, data := .cell none }) (it2 := { cls := .none, data := .cell none }) (lev := []) (mv := []) (e3 := 0) (e4 := 0) ?zS zF ?zsc ?zsl ?zI ?zlen zN ?zck ?zcd ?zct ?zcm zD ?zcn (Ne.symm zNe.2.2.2.2.1) (Ne.symm zNe.2.2.2.1) (Ne.symm zNe.2.2.1) (Ne.symm zNe.2.1) (Ne.symm zNe.1) zC rfl zO ?zol ?zon ?zQ) (fun _ _ x => x) (fun _ _ e => e.elim)
  case zS => exact ⟨by assumption, by assumption, by assumption, below_caller _⟩
  case zsc => with_unfolding_all exact rfl
  case zsl => assumption
  case zI => assumption
  case zlen => omega
  case zck => exact ⟨_, by assumption⟩
  case zcd => exact ⟨_, by assumption⟩
  case zct => exact ⟨_, by assumption⟩
  case zcm => exact ⟨_, by assumption⟩
  case zcn => exact ⟨_, by assumption⟩
  case zol => rw [List.length_map, rangeKs_length]; rfl
  case zon => exact fun x hx => ones_at hx
  case zQ =>
    intro m₁ ck' cn' cd' cm' ct' h tk F₁ N₁
    show wpAny _ _ (execs _ _) _ _ _
    k_steps
end Mine

end
set_option maxRecDepth 100000 in
set_option maxHeartbeats 8000000 in
theorem PySem.Challenge.cw_km0070_01_holds : PySem.Challenge.rw_km0070_01.Holds := by
  exact Mine.top
