import PyProof.Rows.All
import Wide.All
import OpenK.AllK
import Wide.FinOn
import KE.KLcTest
import KE.KTextTable
import PySem.Challenge.RW_pe0279_01
set_option Elab.async false
set_option linter.all false
set_option rowWalk.seconds 0
section
open PySem PySem.W PyProof.Rows PySem.Calls
set_option Elab.async false
namespace Mine
section
variable (P : Program) (w : World) (n₀ : Nat) (ann : Option Value)

def To {α : Type} (n : Nat) (σ : Shared) (p : Pos) (m : Sem α) (σ' : Shared) (p' : Pos) (a : α) : Prop :=
  ∀ (K : α → Sem Fin) (H : Value → Sem Fin) (gd : Bool → Bool) (lv : List Value → List Value) (c : Code) (B : List Frame) (N : Nat),
    topRun treeTable P w n₀ ann (n + N) σ ⟨m.wrap K H gd lv, c, p, B⟩ = topRun treeTable P w n₀ ann N σ' ⟨K a, c, p', B⟩
end

section
variable {P : Program} {w : World} {n₀ : Nat} {ann : Option Value} {α β : Type} {σ σ' σ₁ : Shared} {p p' p₁ : Pos}

theorem To.pure (a : α) : To P w n₀ ann 0 σ p (pure a) σ p a := by
  intro K H gd lv c B N
  rw [Nat.zero_add]
  rfl
theorem To.pure' (a : α) : To P w n₀ ann 0 σ p (Sem.pure a) σ p a := To.pure a
theorem To.bind {m : Sem α} {f : α → Sem β} {n k : Nat} {a : α} {b : β} (h : To P w n₀ ann n σ p m σ₁ p₁ a) (h' : To P w n₀ ann k σ₁ p₁ (f a) σ' p' b) :
    To P w n₀ ann (n + k) σ p (m >>= f) σ' p' b := by
  intro K H gd lv c B N
  rw [Sem.bind_eq_wrap', Sem.wrap_wrap, Nat.add_assoc, h]
  exact h' K H gd lv c B N
theorem To.keep {m : Sem α} {n : Nat} {a : α} (vs : List Value) (h : To P w n₀ ann n σ p m σ' p' a) : To P w n₀ ann n σ p (m.keep vs) σ' p' a := by
  intro K H gd lv c B N
  rw [Sem.keep_eq_wrap, Sem.wrap_wrap]
  exact h _ _ _ _ c B N
theorem To.holding {m : Sem α} {n : Nat} {a : α} (vs : List Value) (h : To P w n₀ ann n σ p m σ' p' a) : To P w n₀ ann n σ p (holding vs m) σ' p' a := by
  unfold PySem.holding
  split
  · exact h
  · exact h.keep _
theorem To.tryCatch {m : Sem α} {n : Nat} {a : α} (hd : Value → Sem α) (h : To P w n₀ ann n σ p m σ' p' a) : To P w n₀ ann n σ p (m.tryCatch hd) σ' p' a := by
  intro K H gd lv c B N
  rw [Sem.tryCatch_eq_wrap, Sem.wrap_wrap]
  exact h _ _ _ _ c B N
theorem To.onRaise {m : Sem α} {n : Nat} {a : α} (hd : Value → Sem Unit) (h : To P w n₀ ann n σ p m σ' p' a) : To P w n₀ ann n σ p (m.onRaise hd) σ' p' a := by
  intro K H gd lv c B N
  rw [Sem.onRaise_eq_wrap, Sem.wrap_wrap]
  exact h _ _ _ _ c B N
theorem To.of_eq {m m' : Sem α} {n : Nat} {a : α} (e : m = m') (h : To P w n₀ ann n σ p m' σ' p' a) : To P w n₀ ann n σ p m σ' p' a := e ▸ h

theorem To.load {a : Addr} {o : Obj} (q : Option Value) (ho : σ.heap.get? a = some o) : To P w n₀ ann 1 σ p (Sem.load a q .pure) σ p o := by
  intro K H gd lv c B N
  obtain ⟨heap, gens, drawn, toks, os⟩ := σ
  rw [Nat.add_comm 1 N]
  have ho' : heap.get? a = some o := ho
  simp only [Sem.wrap, topRun, through, Bool.and_false, stepOk, Thread.calm, Thread.atCollectorCode, Thread.yieldsInsideHandler, step, ho']
  rfl
theorem To.rule (tag : String) : To P w n₀ ann 1 σ p (PySem.rule tag) σ p () := by
  intro K H gd lv c B N
  obtain ⟨heap, gens, drawn, toks, os⟩ := σ
  rw [Nat.add_comm 1 N]
  simp only [PySem.rule, Sem.wrap, topRun, through, Bool.and_false, stepOk, Thread.calm, Thread.atCollectorCode, Thread.yieldsInsideHandler, step]
  rfl
theorem To.point (l : List Value) : To P w n₀ ann 1 σ p (Sem.point l .pure) σ p () := by
  intro K H gd lv c B N
  obtain ⟨heap, gens, drawn, toks, os⟩ := σ
  rw [Nat.add_comm 1 N]
  simp only [Sem.wrap, topRun, through, Bool.and_false, stepOk, Thread.calm, Thread.atCollectorCode, Thread.yieldsInsideHandler, step]
  rfl
theorem To.at (q : Pos) : To P w n₀ ann 1 σ p (standAt q) σ q () := by
  intro K H gd lv c B N
  obtain ⟨heap, gens, drawn, toks, os⟩ := σ
  rw [Nat.add_comm 1 N]
  simp only [standAt, Sem.wrap, topRun, through, Bool.and_false, stepOk, Thread.calm, Thread.atCollectorCode, Thread.yieldsInsideHandler, step]
  rfl
theorem To.fresh : To P w n₀ ann 1 σ p PySem.fresh { σ with toks := σ.toks + 1 } p σ.toks := by
  intro K H gd lv c B N
  obtain ⟨heap, gens, drawn, toks, os⟩ := σ
  rw [Nat.add_comm 1 N]
  simp only [PySem.fresh, Sem.wrap, topRun, through, Bool.and_false, stepOk, Thread.calm, Thread.atCollectorCode, Thread.yieldsInsideHandler, step]
  rfl
theorem To.ask : To P w n₀ ann 1 σ p PySem.ask σ p ⟨P, w.params⟩ := by
  intro K H gd lv c B N
  obtain ⟨heap, gens, drawn, toks, os⟩ := σ
  rw [Nat.add_comm 1 N]
  simp only [PySem.ask, Sem.wrap, topRun, through, Bool.and_false, stepOk, Thread.calm, Thread.atCollectorCode, Thread.yieldsInsideHandler, step]
  rfl
theorem To.alloc (o : Obj) : To P w n₀ ann 1 σ p (PySem.alloc o) { σ with heap := σ.heap.push o } p σ.heap.objs.size := by
  intro K H gd lv c B N
  obtain ⟨heap, gens, drawn, toks, os⟩ := σ
  rw [Nat.add_comm 1 N]
  simp only [PySem.alloc, Sem.wrap, topRun, through, Bool.and_false, stepOk, Thread.calm, Thread.atCollectorCode, Thread.yieldsInsideHandler, step]
  rfl
theorem To.update {a : Addr} (q : Option Value) (f : Obj → Obj) (ho : (σ.heap.get? a).isSome = true) (ha : n₀ ≤ a ∨ a = mainNs) : To P w n₀ ann 1 σ p (Sem.update a q f .pure) { σ with heap := σ.heap.update a f } p () := by
  intro K H gd lv c B N
  obtain ⟨heap, gens, drawn, toks, os⟩ := σ
  rw [Nat.add_comm 1 N]
  have ho' : (heap.get? a).isSome = true := ho
  have hb : (Nat.ble n₀ a || a == mainNs || a == cStatics || ann == some (.ref a)) = true := by
    rcases ha with h | h
    · rw [Nat.ble_eq_true_of_le h]; rfl
    · rw [h]; simp
  simp only [Sem.wrap, topRun, through, Bool.and_false, stepOk, Thread.calm, Thread.atCollectorCode, Thread.yieldsInsideHandler, step, ho', hb]
  rfl
end
end Mine
theorem Mine.offTop1 : True := by
  w_top off
  trivial
end
section
open PySem PySem.W PyProof.Rows PySem.Calls
set_option Elab.async false
set_option maxRecDepth 100000
namespace Mine
section
variable {P : Program} {w : World} {n₀ : Nat} {ann : Option Value} {α β : Type} {σ σ' σ₁ : Shared} {p p' p₁ : Pos}

theorem check_hash (k : Int) (t : Tok) : checkBuiltinCall "int.__hash__" ⟨[.int k t], []⟩ = pure () := by
  unfold checkBuiltinCall
  kernel_rfl!

theorem entry_hash_tree : entryFor treeTable "int.__hash__" = some Builtin.«int.__hash__» := by
  rw [← table_eq_tree]
  exact entry_int_hash

theorem To.call_hash (k : Int) (t : Tok) : To P w n₀ ann 4 σ p (PySem.call (.builtin "int.__hash__") [.int k t]) { σ with toks := σ.toks + 1 } p (.int (rawHash k) σ.toks) := by
  intro K H gd lv c B N
  obtain ⟨heap, gens, drawn, toks, os⟩ := σ
  have e1 : denote treeTable (.call (.builtin "int.__hash__") ⟨[.int k t], []⟩) = .pure (.again (.builtin "int.__hash__" ⟨[.int k t], []⟩)) := by
    show (checkBuiltinCall "int.__hash__" ⟨[.int k t], []⟩ >>= fun _ => again _) = _
    rw [check_hash]
    rfl
  have e2 : denote treeTable (.builtin "int.__hash__" ⟨[.int k t], []⟩) = .fresh fun u => .pure (.done (.ret (.int (rawHash k) u))) := by
    simp only [denote, entry_hash_tree]
    rfl
  have e3 : ("int.__hash__" : String).startsWith "lifetime." = false := by decide +kernel
  rw [Nat.add_comm 4 N]
  show topRun treeTable P w n₀ ann (N + 3 + 1) ⟨heap, gens, drawn, toks, os⟩ ⟨(Sem.call _ _ _ _ _), c, p, B⟩ = _
  rw [topRun]
  simp only [through, Bool.and_false, stepOk, Thread.calm, Thread.atCollectorCode, Thread.yieldsInsideHandler, step, e1]
  rw [topRun]
  simp only [through, Bool.and_false, stepOk, Thread.calm, Thread.atCollectorCode, Thread.yieldsInsideHandler, step, e2, e3]
  rw [topRun]
  simp only [through, Bool.and_false, stepOk, Thread.calm, Thread.atCollectorCode, Thread.yieldsInsideHandler, step]
  rw [topRun]
  simp only [through, List.isEmpty_cons, Bool.false_and, stepOk, Thread.calm, Thread.atCollectorCode, Thread.yieldsInsideHandler, step]
  rfl
theorem special_hash (k : Int) (t : Tok) : specialOf (.int k t) "__hash__" = pure (some (.builtin "int.__hash__")) := slot_int_hash.lookup

theorem To.slot_hash (k : Int) (t : Tok) (refuse : Sem Value) : To P w n₀ ann 5 σ p (callSpecialIfBoundUnlessNone? (.int k t) "__hash__" refuse) { σ with toks := σ.toks + 1 } p (some (.int (rawHash k) σ.toks)) := by
  unfold callSpecialIfBoundUnlessNone? bindSpecialIfBound?
  refine To.holding _ ?_
  rw [special_hash]
  refine To.bind (n := 1) (k := 4) (σ₁ := σ) (p₁ := p) (a := some (.builtin "int.__hash__", [.int k t])) ?_ ?_
  · show To P w n₀ ann 1 σ p (PySem.ask >>= _) σ p _
    refine To.bind (n := 1) (k := 0) To.ask ?_
    simp only [slot_int_hash.bind]
    split
    · exact To.pure _
    · exact To.tryCatch _ (To.pure _)
  · show To P w n₀ ann 4 σ p (if (Value.builtin "int.__hash__" == Value.none) = true then _ else _) _ _ _
    rw [if_neg (by rw [builtin_beq_none]; exact Bool.false_ne_true)]
    exact To.bind (n := 4) (k := 0) (To.call_hash k t) (To.pure _)
theorem To.pyHash (k : Int) (t : Tok) : To P w n₀ ann 5 σ p (pyHash (.int k t)) { σ with toks := σ.toks + 1 } p (hashInt k) := by
  have hr := rawHash_range k
  show To P w n₀ ann 5 σ p (pyHashByItsType (.int k t)) _ _ _
  unfold pyHashByItsType
  have hv : [Value.int k t].any Value.onHeap = false := rfl
  rw [cRoomFor, if_neg (by rw [hv]; exact Bool.false_ne_true), special_hash]
  refine To.bind (n := 0) (k := 5) (To.pure ()) ?_
  refine To.bind (n := 0) (k := 5) (To.pure (some (Value.builtin "int.__hash__"))) ?_
  dsimp only
  rw [if_neg (by rw [beq_builtin_none]; exact Bool.false_ne_true)]
  refine To.bind (n := 0) (k := 5) (To.pure (some (Value.builtin "int.__hash__"))) ?_
  rw [if_neg (by exact Bool.false_ne_true)]
  refine To.bind (n := 5) (k := 0) (To.slot_hash k t _) ?_
  show To P w n₀ ann 0 _ p (if (decide (-(2 : Int) ^ 63 ≤ rawHash k) && decide (rawHash k < 2 ^ 63)) = true then _ else _) _ _ _
  rw [if_pos (by rw [decide_eq_true hr.1, decide_eq_true hr.2]; rfl)]
  exact To.pure _
end
end Mine
theorem Mine.offTop2 : True := by
  w_top off
  trivial
end
section
open PySem PySem.W PyProof.Rows PySem.Calls
set_option Elab.async false
set_option maxRecDepth 100000
namespace Mine

abbrev dOb (es : List DictEntry) (n : Nat) : Obj := { cls := .type "dict", data := .dict es.toArray n }
def hp (h : Heap) (l : List Obj) : Heap := ⟨h.objs ++ l.toArray, h.life⟩
theorem hp_nil (h : Heap) : hp h [] = h := by
  obtain ⟨objs, life⟩ := h
  simp [hp]
theorem hp_size (h : Heap) (l : List Obj) : (hp h l).objs.size = h.objs.size + l.length := by simp [hp]
theorem hp_push (h : Heap) (l : List Obj) (o : Obj) : (hp h l).push o = hp h (l ++ [o]) := by
  obtain ⟨objs, life⟩ := h
  show Heap.mk ((objs ++ l.toArray).push o) life = Heap.mk (objs ++ (l ++ [o]).toArray) life
  refine congrArg (Heap.mk · life) (Array.toList_inj.mp ?_)
  rw [Array.toList_push, Array.toList_append, Array.toList_append, List.append_assoc]
theorem hp_get (h : Heap) (l : List Obj) (i : Nat) (es : List DictEntry) (n : Nat) (e : l[i]? = some (dOb es n)) : (hp h l).get? (h.objs.size + i) = some (dOb es n) := by
  unfold Heap.get? hp
  rw [Array.getElem?_append_right (Nat.le_add_right _ _), Nat.add_sub_cancel_left, List.getElem?_toArray, e]
theorem hp_update (h : Heap) (l : List Obj) (i : Nat) (f : Obj → Obj) : (hp h l).update (h.objs.size + i) f = hp h (l.modify i f) := by
  obtain ⟨objs, life⟩ := h
  unfold hp Heap.update
  simp only [Heap.mk.injEq, and_true]
  apply Array.ext_getElem?
  intro j
  rw [Array.getElem?_modify]
  by_cases hj : j < objs.size
  · rw [Array.getElem?_append_left hj, Array.getElem?_append_left hj, if_neg (by omega)]
  · rw [Array.getElem?_append_right (by omega), Array.getElem?_append_right (by omega), List.getElem?_toArray, List.getElem?_toArray, List.getElem?_modify]
    by_cases e : objs.size + i = j
    · subst e
      simp
    · have : i ≠ j - objs.size := by omega
      rw [if_neg e]
      simp [this]
theorem modify_mid (pre post : List Obj) (o : Obj) (f : Obj → Obj) : (pre ++ o :: post).modify pre.length f = pre ++ f o :: post := by
  rw [List.modify_eq_take_drop]
  simp
theorem get_mid (pre post : List Obj) (o : Obj) : (pre ++ o :: post)[pre.length]? = some o := by simp

section
variable {P : Program} {w : World} {n₀ : Nat} {ann : Option Value} {α β : Type} {σ σ' σ₁ : Shared} {p p' p₁ : Pos}

theorem To.loadPart {a : Addr} {o : Obj} (q : Option Value) (ho : σ.heap.get? a = some o) : To P w n₀ ann 1 σ p (PySem.loadPart a q) σ p o := To.load q ho
theorem To.mkInt (i : Int) : To P w n₀ ann 1 σ p (PySem.mkInt i) { σ with toks := σ.toks + 1 } p (.int i σ.toks) := To.bind (n := 1) (k := 0) To.fresh (To.pure _)
theorem To.mkText (x : Str) : To P w n₀ ann 1 σ p (PySem.mkText x) { σ with toks := σ.toks + 1 } p (.str x σ.toks) := To.bind (n := 1) (k := 0) To.fresh (To.pure _)

theorem places_none {es : Array DictEntry} {h : Int} (hne : ∀ e ∈ es, e.hash ≠ h) : placesWithHash es.size (fun i => es[i]?.map (·.hash)) h = [] := by
  unfold placesWithHash
  rw [List.filter_eq_nil_iff]
  intro i hi
  rw [List.mem_range] at hi
  show ¬ ((es[i]?.map (·.hash)) == some h) = true
  rw [Array.getElem?_eq_getElem hi]
  simp only [Option.map_some, beq_iff_eq, Option.some.injEq]
  exact hne _ (Array.getElem_mem hi)

theorem To.dictEntries {d : Addr} {es : List DictEntry} {n : Nat} (q : Option Value) (ho : σ.heap.get? d = some (dOb es n)) : To P w n₀ ann 1 σ p (PySem.dictEntries d q) σ p es.toArray :=
  To.bind (n := 1) (k := 0) (To.loadPart q ho) (To.pure _)
theorem To.dictEpoch {d : Addr} {es : List DictEntry} {n : Nat} (q : Option Value) (ho : σ.heap.get? d = some (dOb es n)) : To P w n₀ ann 1 σ p (PySem.dictEpoch d q) σ p n :=
  To.bind (n := 1) (k := 0) (To.loadPart q ho) (To.pure _)

theorem To.dictFind {d : Addr} {es : List DictEntry} {n : Nat} {k : Int} {t : Tok} {h : Int} (ho : σ.heap.get? d = some (dOb es n)) (hne : ∀ e ∈ es, e.hash ≠ h) :
    To P w n₀ ann 1 σ p (PySem.dictFind d (.int k t) h) σ p none := by
  unfold PySem.dictFind
  refine To.holding _ (To.bind (n := 1) (k := 0) (To.dictEntries _ ho) ?_)
  dsimp only
  rw [places_none (by simpa using hne)]
  exact To.pure _

theorem To.updateKeys {d : Addr} {es : List DictEntry} {n : Nat} {e : DictEntry} (q : Option Value) (ho : σ.heap.get? d = some (dOb es n)) (hd : n₀ ≤ d) (hz : es.length ≤ 100000) :
    To P w n₀ ann 3 σ p (PySem.updateDictKeys d (·.push e) q) { σ with heap := σ.heap.update d (Obj.mapDictKeys (·.push e)) } p () := by
  unfold PySem.updateDictKeys
  refine To.bind (n := 1) (k := 2) (To.loadPart q ho) ?_
  dsimp only
  refine To.bind (n := 1) (k := 1) (To.update q _ (by rw [ho]; rfl) (.inl hd)) ?_
  unfold lookBehind
  have e1 : (Heap.update σ.heap d (Obj.mapDictKeys (·.push e))).get? d = some (dOb (es ++ [e]) (n + 1)) := by
    have := Heap.get?_update_self (Obj.mapDictKeys (·.push e)) ho rfl
    rw [this]
    simp [Obj.mapDictKeys, dOb]
  refine To.bind (n := 1) (k := 0) (To.loadPart q e1) ?_
  have e2 : Data.pastItsLine (dOb (es ++ [e]) (n + 1)).data = none := by
    simp only [Data.pastItsLine, dOb]
    rw [if_neg]
    have : sizeLine = 16777216 := rfl
    simp only [List.size_toArray, List.length_append, List.length_singleton]
    omega
  rw [e2]
  exact To.pure _

theorem To.setHashed {d : Addr} {es : List DictEntry} {n : Nat} {k : Int} {t : Tok} {h : Int} {v : Value} (ho : σ.heap.get? d = some (dOb es n)) (hne : ∀ e ∈ es, e.hash ≠ h) (hd : n₀ ≤ d) (hz : es.length ≤ 100000) :
    To P w n₀ ann 5 σ p (PySem.dictSetHashed d (.int k t) h v) { σ with heap := σ.heap.update d (Obj.mapDictKeys (·.push ⟨h, .int k t, v⟩)) } p () := by
  unfold PySem.dictSetHashed
  refine To.holding _ (To.bind (n := 1) (k := 4) (To.dictFind ho hne) ?_)
  exact To.bind (n := 1) (k := 3) (To.rule _) (To.updateKeys _ ho hd hz)
theorem To.dictSet {d : Addr} {es : List DictEntry} {n : Nat} {k : Int} {t : Tok} {v : Value} (ho : σ.heap.get? d = some (dOb es n)) (hne : ∀ e ∈ es, e.hash ≠ hashInt k) (hd : n₀ ≤ d) (hz : es.length ≤ 100000) :
    To P w n₀ ann 10 σ p (PySem.dictSet d (.int k t) v) { σ with toks := σ.toks + 1, heap := σ.heap.update d (Obj.mapDictKeys (·.push ⟨hashInt k, .int k t, v⟩)) } p () := by
  unfold PySem.dictSet
  refine To.holding _ (To.bind (n := 5) (k := 5) (To.pyHash k t) ?_)
  exact To.setHashed (σ := { σ with toks := σ.toks + 1 }) ho hne hd hz
theorem To.dictPut {d : Addr} {es : List DictEntry} {n : Nat} {k : Int} {t : Tok} {h : Int} {v : Value} (ho : σ.heap.get? d = some (dOb es n)) (hne : ∀ e ∈ es, e.hash ≠ h) (hd : n₀ ≤ d) (hz : es.length ≤ 100000) :
    To P w n₀ ann 4 σ p (PySem.dictPut d h (.int k t) v) { σ with heap := σ.heap.update d (Obj.mapDictKeys (·.push ⟨h, .int k t, v⟩)) } p () := by
  unfold PySem.dictPut
  exact To.bind (n := 1) (k := 3) (To.dictFind ho hne) (To.updateKeys _ ho hd hz)
end
end Mine
theorem Mine.offTop3 : True := by
  w_top off
  trivial
end
section
open PySem PySem.W PyProof.Rows PySem.Calls
set_option Elab.async false
set_option maxRecDepth 100000
namespace Mine

/-- hashes ascend, from lo on -/
def Up : Int → List (Int × Str) → Prop
  | _, [] => True
  | lo, (k, _) :: r => lo ≤ hashInt k ∧ Up (hashInt k + 1) r
def Below' (lo : Int) (es : List DictEntry) : Prop := ∀ e ∈ es, e.hash < lo
def IntEs (es : List DictEntry) : Prop := ∀ e ∈ es, ∃ k t, e.key = .int k t
theorem Below'.ne {lo : Int} {es : List DictEntry} {h : Int} (b : Below' lo es) (l : lo ≤ h) : ∀ e ∈ es, e.hash ≠ h := fun e he q => by
  have := b e he
  omega
theorem Below'.snoc {lo : Int} {es : List DictEntry} {e : DictEntry} (b : Below' lo es) (l : lo ≤ e.hash) : Below' (e.hash + 1) (es ++ [e]) := fun x hx => by
  rcases List.mem_append.mp hx with hx | hx
  · have := b x hx; omega
  · rw [List.mem_singleton.mp hx]; omega

/-- the entries of a long display: a key, its value, its hash take a token each -/
def entsL : Nat → List (Int × Str) → List DictEntry
  | _, [] => []
  | T, (k, s) :: r => ⟨hashInt k, .int k T, Value.str s (T + 1)⟩ :: entsL (T + 3) r
def entsS : Nat → List (Int × Str) → List DictEntry
  | _, [] => []
  | T, (k, s) :: r => ⟨hashInt k, .int k T, Value.str s (T + 1)⟩ :: entsS (T + 2) r
theorem entsL_len : ∀ (r : List (Int × Str)) (T : Nat), (entsL T r).length = r.length
  | [], _ => rfl
  | (_, _) :: r, T => by simp [entsL, entsL_len r]
theorem entsS_len : ∀ (r : List (Int × Str)) (T : Nat), (entsS T r).length = r.length
  | [], _ => rfl
  | (_, _) :: r, T => by simp [entsS, entsS_len r]

/-- what a pair of the display is -/
def itm (q : Pos) (x : Int × Str) : Sem Value × Sem Value := (mkInt x.1, (mkText x.2 >>= fun v => standAt q >>= fun _ => pure v))

theorem map_push (e : DictEntry) (es : List DictEntry) (n : Nat) : Obj.mapDictKeys (·.push e) (dOb es n) = dOb (es ++ [e]) (n + 1) := by
  simp [Obj.mapDictKeys, dOb]

section
variable {P : Program} {w : World} {n₀ : Nat} {ann : Option Value} {σ : Shared} {p : Pos} {h : Heap}
def at_ (σ : Shared) (h : Heap) (l : List Obj) (T : Nat) : Shared := { σ with heap := hp h l, toks := T }

theorem toVal (q : Pos) (x : Str) : To P w n₀ ann 2 σ p (mkText x >>= fun v => standAt q >>= fun _ => pure v) { σ with toks := σ.toks + 1 } q (Value.str x σ.toks) :=
  To.bind (n := 1) (k := 1) (To.mkText x) (To.bind (n := 1) (k := 0) (To.at q) (To.pure _))

theorem longLoop (hn : n₀ ≤ h.objs.size) (q : Pos) (pre : List Obj) (lo : Int) : ∀ (r : List (Int × Str)) (lo : Int) (es : List DictEntry) (n T : Nat) (p : Pos), Up lo r → Below' lo es → es.length + r.length ≤ 100000 → (p = q ∨ r ≠ []) →
    To P w n₀ ann (13 * r.length) (at_ σ h (pre ++ [dOb es n]) T) p (forIn (r.map (itm q)) PUnit.unit fun x _ => do
      let kv ← x.1
      let vv ← holding [kv] x.2
      holding [kv, vv] (PySem.dictSet (h.objs.size + pre.length) kv vv)
      pure (ForInStep.yield PUnit.unit)) (at_ σ h (pre ++ [dOb (es ++ entsL T r) (n + r.length)]) (T + 3 * r.length)) q PUnit.unit := by
  intro r
  induction r with
  | nil =>
    intro lo es n T p _ _ _ hp
    rcases hp with rfl | hp
    · simp only [List.map_nil, entsL, List.append_nil, List.length_nil, Nat.mul_zero, Nat.add_zero]
      exact To.pure _
    · exact absurd rfl hp
  | cons x r ih =>
    obtain ⟨k, s⟩ := x
    intro lo es n T p hu hb hz _
    have e : 13 * ((k, s) :: r).length = 13 + 13 * r.length := by rw [List.length_cons]; omega
    rw [e, List.map_cons, List.forIn_cons]
    have hg : ∀ T', (at_ σ h (pre ++ [dOb es n]) T').heap.get? (h.objs.size + pre.length) = some (dOb es n) := fun T' => hp_get h _ _ es n (get_mid pre [] _)
    refine To.bind (n := 13) (σ₁ := at_ σ h (pre ++ [dOb (es ++ [⟨hashInt k, .int k T, Value.str s (T + 1)⟩]) (n + 1)]) (T + 3)) (p₁ := q) (a := ForInStep.yield PUnit.unit) ?_ ?_
    · refine To.bind (n := 1) (k := 12) (To.mkInt k) ?_
      refine To.bind (n := 2) (k := 10) (To.holding _ (toVal q s)) ?_
      refine To.bind (n := 10) (k := 0) (To.holding _ (To.dictSet (es := es) (n := n) (hg _) (hb.ne hu.1) (Nat.le_trans hn (Nat.le_add_right _ _)) (by rw [List.length_cons] at hz; omega))) ?_
      have e2 : ({ at_ σ h (pre ++ [dOb es n]) T with toks := (at_ σ h (pre ++ [dOb es n]) T).toks + 1 + 1 + 1, heap := (at_ σ h (pre ++ [dOb es n]) T).heap.update (h.objs.size + pre.length) (Obj.mapDictKeys (·.push ⟨hashInt k, .int k T, Value.str s (T + 1)⟩)) } : Shared) =
          at_ σ h (pre ++ [dOb (es ++ [⟨hashInt k, .int k T, Value.str s (T + 1)⟩]) (n + 1)]) (T + 3) := by
        unfold at_
        dsimp only
        rw [hp_update, modify_mid, map_push]
      rw [← e2]
      exact To.pure _
    · have := ih (hashInt k + 1) (es ++ [⟨hashInt k, .int k T, Value.str s (T + 1)⟩]) (n + 1) (T + 3) q hu.2 (hb.snoc (e := ⟨hashInt k, .int k T, Value.str s (T + 1)⟩) hu.1) (by rw [List.length_append, List.length_singleton]; rw [List.length_cons] at hz; omega) (.inl rfl)
      rw [List.append_assoc] at this
      have e3 : T + 3 * ((k, s) :: r).length = T + 3 + 3 * r.length := by rw [List.length_cons]; omega
      have e4 : n + ((k, s) :: r).length = n + 1 + r.length := by rw [List.length_cons]; omega
      rw [e3, e4]
      exact this
end
end Mine
theorem Mine.offTop4 : True := by
  w_top off
  trivial
end
section
open PySem PySem.W PyProof.Rows PySem.Calls
set_option Elab.async false
set_option maxRecDepth 100000
namespace Mine
theorem suffix_range {n x : Nat} {rest : List Nat} (h : (x :: rest) <:+ List.range n) : x + rest.length + 1 = n := by
  obtain ⟨pre, e⟩ := h
  have l := congrArg List.length e
  rw [List.length_append, List.length_cons, List.length_range] at l
  have g := congrArg (fun q => q[pre.length]?) e
  simp only [List.getElem?_append_right (Nat.le_refl _), Nat.sub_self, List.getElem?_cons_zero] at g
  rw [List.getElem?_range (by omega)] at g
  have := Option.some.inj g
  omega

section
variable {P : Program} {w : World} {n₀ : Nat} {ann : Option Value} {σ : Shared} {p : Pos} {h : Heap}
theorem toCast {α : Type} {n n' : Nat} {σ₀ σ₁ σ' : Shared} {p' : Pos} {m : Sem α} {a : α} (e0 : σ₀ = σ) (e1 : σ₁ = σ') (e : n = n') (t : To P w n₀ ann n σ₀ p m σ₁ p' a) : To P w n₀ ann n' σ p m σ' p' a := by
  subst e0 e1 e
  exact t
theorem toForIn {γ : Type} {body : γ → PUnit → Sem (ForInStep PUnit)} (c : Nat) (st : List γ → Shared) : ∀ (l : List γ), (∀ x rest, (x :: rest) <:+ l → To P w n₀ ann c (st (x :: rest)) p (body x PUnit.unit) (st rest) p (ForInStep.yield PUnit.unit)) →
    To P w n₀ ann (c * l.length) (st l) p (forIn l PUnit.unit body) (st []) p PUnit.unit
  | [], _ => by
    rw [List.length_nil, Nat.mul_zero]
    exact To.pure _
  | x :: l, hx => by
    rw [List.length_cons, List.forIn_cons, Nat.mul_add, Nat.mul_one, Nat.add_comm]
    refine To.bind (hx x l (List.suffix_refl _)) ?_
    exact toForIn c st l fun y rest hy => hx y rest (hy.trans (List.suffix_cons _ _))

def UpE : Int → List DictEntry → Prop
  | _, [] => True
  | lo, e :: r => lo ≤ e.hash ∧ (∃ k t, e.key = .int k t) ∧ UpE (e.hash + 1) r
theorem up_entsL : ∀ (r : List (Int × Str)) (lo : Int) (T : Nat), Up lo r → UpE lo (entsL T r)
  | [], _, _, _ => trivial
  | (_, _) :: r, _, T, hu => ⟨hu.1, ⟨_, _, rfl⟩, up_entsL r _ _ hu.2⟩
theorem up_entsS : ∀ (r : List (Int × Str)) (lo : Int) (T : Nat), Up lo r → UpE lo (entsS T r)
  | [], _, _, _ => trivial
  | (_, _) :: r, _, T, hu => ⟨hu.1, ⟨_, _, rfl⟩, up_entsS r _ _ hu.2⟩
theorem UpE.at : ∀ (E : List DictEntry) (lo : Int) (M : List DictEntry), UpE lo E → Below' lo M → ∀ (j : Nat) (e : DictEntry), E[j]? = some e → (∃ k t, e.key = .int k t) ∧ ∀ x ∈ M ++ E.take j, x.hash ≠ e.hash
  | [], _, _, _, _, _, _, he => by simp at he
  | e₀ :: E, lo, M, hu, hb, j, e, he => by
    cases j with
    | zero =>
      obtain rfl : e₀ = e := by simpa using he
      refine ⟨hu.2.1, ?_⟩
      simpa using hb.ne hu.1
    | succ j =>
      have := UpE.at E (e₀.hash + 1) (M ++ [e₀]) hu.2.2 (hb.snoc hu.1) j e (by simpa using he)
      rw [List.append_assoc] at this
      exact this

theorem sub_dict : isSubtype (.type "dict") (.type "dict") = pure true := by rw [isSubtype_type]; kernel_rfl!
theorem look_iter : typeLookup (.type "dict") "__iter__" = pure (some (.builtin "dict.__iter__")) := F.slot_dict_iter.lookup

theorem merge (hn : n₀ ≤ h.objs.size) (hs : sysModules < h.objs.size) (M : List DictEntry) (m : Nat) (mid : List Obj) (E : List DictEntry) (e' T : Nat) (lo : Int) (hb : Below' lo M) (hu : UpE lo E) (hM : M ≠ []) (hz : M.length + E.length ≤ 100000) :
    To P w n₀ ann (5 + 6 * E.length) (at_ σ h (dOb M m :: (mid ++ [dOb E e'])) T) p (mergeMapping h.objs.size (.ref (h.objs.size + (mid.length + 1))) false)
      (at_ σ h (dOb (M ++ E) (m + E.length) :: (mid ++ [dOb E e'])) T) p () := by
  have gd : ∀ M m, (at_ σ h (dOb M m :: (mid ++ [dOb E e'])) T).heap.get? h.objs.size = some (dOb M m) := fun M m => hp_get h _ 0 M m rfl
  have ga : ∀ M m, (at_ σ h (dOb M m :: (mid ++ [dOb E e'])) T).heap.get? (h.objs.size + (mid.length + 1)) = some (dOb E e') := fun M m => hp_get h _ _ E e' (by
    rw [List.getElem?_cons_succ]
    exact get_mid mid [] _)
  unfold mergeMapping
  have i1 : To P w n₀ ann 1 (at_ σ h (dOb M m :: (mid ++ [dOb E e'])) T) p (isInstance (.ref (h.objs.size + (mid.length + 1))) (.type "dict")) (at_ σ h (dOb M m :: (mid ++ [dOb E e'])) T) p true := by
    unfold isInstance
    refine To.bind (n := 1) (k := 0) (To.bind (n := 1) (k := 0) (To.loadPart _ (ga _ _)) (To.pure _)) ?_
    show To P w n₀ ann 0 _ p (isSubtype (.type "dict") (.type "dict")) _ _ _
    rw [sub_dict]
    exact To.pure _
  have i2 : To P w n₀ ann 1 (at_ σ h (dOb M m :: (mid ++ [dOb E e'])) T) p (specialOf (.ref (h.objs.size + (mid.length + 1))) "__iter__") (at_ σ h (dOb M m :: (mid ++ [dOb E e'])) T) p (some (.builtin "dict.__iter__")) := by
    unfold specialOf
    refine To.bind (n := 1) (k := 0) (To.bind (n := 1) (k := 0) (To.loadPart _ (ga _ _)) (To.pure _)) ?_
    show To P w n₀ ann 0 _ p (typeLookup (.type "dict") "__iter__") _ _ _
    rw [look_iter]
    exact To.pure _
  have e5 : 5 + 6 * E.length = 1 + (1 + (0 + (1 + (1 + (1 + (6 * E.length + 0)))))) := by omega
  rw [e5]
  refine To.bind i1 ?_
  dsimp only
  rw [if_pos rfl]
  refine To.bind i2 ?_
  refine To.bind (To.pure _) ?_
  have e6 : (some (Value.builtin "dict.__iter__") == some (Value.builtin "dict.__iter__")) = true := by simp
  rw [e6]
  dsimp only
  rw [if_neg (fun q => absurd (eq_of_beq q) (Nat.ne_of_gt (Nat.lt_of_lt_of_le hs (Nat.le_add_right _ _))))]
  refine To.bind (To.dictEntries _ (gd _ _)) ?_
  rw [if_neg (by simp [hM])]
  refine To.bind (To.dictEntries _ (ga _ _)) ?_
  refine To.bind (To.dictEpoch _ (ga _ _)) ?_
  refine To.bind (σ₁ := at_ σ h (dOb (M ++ E) (m + E.length) :: (mid ++ [dOb E e'])) T) (p₁ := p) (a := PUnit.unit) ?_ (To.pure _)
  let st : List Nat → Shared := fun rest => at_ σ h (dOb (M ++ E.take (E.length - rest.length)) (m + (E.length - rest.length)) :: (mid ++ [dOb E e'])) T
  have a0 : st (List.range E.length) = at_ σ h (dOb M m :: (mid ++ [dOb E e'])) T := by
    simp only [st, List.length_range, Nat.sub_self, List.take_zero, List.append_nil, Nat.add_zero]
  have a1 : st [] = at_ σ h (dOb (M ++ E) (m + E.length) :: (mid ++ [dOb E e'])) T := by
    simp only [st, List.length_nil, Nat.sub_zero, List.take_length]
  rw [List.size_toArray]
  refine toCast a0 a1 (by rw [List.length_range]) (toForIn 6 st _ ?_)
  · intro x rest hx
    have l := suffix_range hx
    have lx : x < E.length := by omega
    obtain ⟨⟨k, t, hk⟩, hne⟩ := hu.at E lo M hb x E[x] (List.getElem?_eq_getElem lx)
    have j1 : E.length - (x :: rest).length = x := by rw [List.length_cons]; omega
    have j2 : E.length - rest.length = x + 1 := by omega
    simp only [st]
    rw [j1, j2]
    refine To.bind (n := 1) (k := 5) (To.dictEntries _ (ga _ _)) ?_
    rw [List.getElem?_toArray, List.getElem?_eq_getElem lx]
    dsimp only
    refine To.bind (n := 4) (k := 1) (σ₁ := at_ σ h (dOb (M ++ E.take (x + 1)) (m + (x + 1)) :: (mid ++ [dOb E e'])) T) (p₁ := p) (a := ()) ?_ ?_
    · refine To.holding _ ?_
      rw [if_neg Bool.false_ne_true, hk]
      have := To.dictPut (P := P) (w := w) (n₀ := n₀) (ann := ann) (p := p) (k := k) (t := t) (h := E[x].hash) (v := E[x].val) (gd (M ++ E.take x) (m + x)) hne hn (by rw [List.length_append, List.length_take]; omega)
      have e2 : ({ at_ σ h (dOb (M ++ E.take x) (m + x) :: (mid ++ [dOb E e'])) T with heap := (at_ σ h (dOb (M ++ E.take x) (m + x) :: (mid ++ [dOb E e'])) T).heap.update h.objs.size (Obj.mapDictKeys (·.push ⟨E[x].hash, .int k t, E[x].val⟩)) } : Shared) =
          at_ σ h (dOb (M ++ E.take (x + 1)) (m + (x + 1)) :: (mid ++ [dOb E e'])) T := by
        unfold at_
        dsimp only
        have u := hp_update h (dOb (M ++ E.take x) (m + x) :: (mid ++ [dOb E e'])) 0 (Obj.mapDictKeys (·.push ⟨E[x].hash, .int k t, E[x].val⟩))
        rw [Nat.add_zero] at u
        rw [u]
        have mm := modify_mid [] (mid ++ [dOb E e']) (dOb (M ++ E.take x) (m + x)) (Obj.mapDictKeys (·.push ⟨E[x].hash, .int k t, E[x].val⟩))
        simp only [List.nil_append, List.length_nil] at mm
        rw [mm, map_push]
        have ee : (⟨E[x].hash, .int k t, E[x].val⟩ : DictEntry) = E[x] := by rw [← hk]
        rw [ee, List.append_assoc, ← List.take_succ_eq_append_getElem lx, Nat.add_assoc]
      rw [e2] at this
      exact this
    · refine To.bind (n := 1) (k := 0) (To.dictEpoch _ (ga _ _)) ?_
      rw [if_neg (by simp)]
      exact To.pure _
end
end Mine
theorem Mine.offTop5 : True := by
  w_top off
  trivial
end
section
open PySem PySem.W PyProof.Rows PySem.Calls
set_option Elab.async false
set_option maxRecDepth 100000
set_option linter.all false
namespace Mine
theorem upSplit : ∀ (c rest : List (Int × Str)) (lo : Int) (es : List DictEntry) (T : Nat), Up lo (c ++ rest) → Below' lo es → Up lo c ∧ ∃ lo', Up lo' rest ∧ Below' lo' (es ++ entsL T c)
  | [], rest, lo, es, T, hu, hb => ⟨trivial, lo, hu, by simpa [entsL] using hb⟩
  | (k, s) :: c, rest, lo, es, T, hu, hb => by
    obtain ⟨a, lo', b, d⟩ := upSplit c rest (hashInt k + 1) (es ++ [⟨hashInt k, .int k T, Value.str s (T + 1)⟩]) (T + 3) hu.2 (hb.snoc (e := ⟨hashInt k, .int k T, Value.str s (T + 1)⟩) hu.1)
    refine ⟨⟨hu.1, a⟩, lo', b, ?_⟩
    rw [List.append_assoc] at d
    exact d
/-- what the short display's values are -/
def valsS : Nat → List (Int × Str) → List (Value × Value)
  | _, [] => []
  | T, (k, s) :: r => (.int k T, Value.str s (T + 1)) :: valsS (T + 2) r
/-- an item of the display's loop -/
def ditm (q : Pos) (x : Int × Str) : Option (Sem Value) × Sem Value := (some (itm q x).1, (itm q x).2)

section
variable {P : Program} {w : World} {n₀ : Nat} {ann : Option Value} {σ : Shared} {p : Pos} {h : Heap}
theorem subLong (hn : n₀ ≤ h.objs.size) (q : Pos) (pre : List Obj) (lo : Int) (r : List (Int × Str)) (T : Nat) (hu : Up lo r) (hl : 15 < r.length) (hz : r.length ≤ 100000) :
    To P w n₀ ann (2 + 13 * r.length) (at_ σ h pre T) p (subDict (r.map (itm q))) (at_ σ h (pre ++ [dOb (entsL T r) r.length]) (T + 3 * r.length)) q (h.objs.size + pre.length) := by
  unfold subDict
  have e0 : ({ at_ σ h pre T with heap := (at_ σ h pre T).heap.push { cls := .type "dict", data := .dict #[] } } : Shared) = at_ σ h (pre ++ [dOb [] 0]) T := by
    unfold at_
    dsimp only
    rw [hp_push]
  have e1 : (at_ σ h pre T).heap.objs.size = h.objs.size + pre.length := hp_size h pre
  have al := To.alloc (P := P) (w := w) (n₀ := n₀) (ann := ann) (σ := at_ σ h pre T) (p := p) ({ cls := .type "dict", data := .dict #[] } : Obj)
  rw [e0, e1] at al
  have e2 : 2 + 13 * r.length = 1 + ((1 + (13 * r.length + 0)) + 0) := by omega
  rw [e2]
  refine To.bind al (To.bind (a := ()) (To.holding _ ?_) (To.pure _))
  rw [if_neg (by rw [List.length_map]; omega)]
  refine To.bind (To.rule _) (To.bind (a := PUnit.unit) ?_ (To.pure _))
  have lp := longLoop (P := P) (w := w) (ann := ann) (σ := σ) hn q pre lo r lo [] 0 T p hu (fun _ hx => nomatch hx) (by simpa using hz) (.inr (by intro e; rw [e] at hl; simp at hl))
  rw [List.nil_append, Nat.zero_add] at lp
  exact lp

theorem evalPs (q : Pos) : ∀ (r : List (Int × Str)) (T : Nat) (l : List Obj) (p : Pos), (p = q ∨ r ≠ []) → To P w n₀ ann (3 * r.length) (at_ σ h l T) p (evalPairs (r.map (itm q))) (at_ σ h l (T + 2 * r.length)) q (valsS T r)
  | [], T, l, p, hp => by
    rcases hp with rfl | hp
    · exact To.pure _
    · exact absurd rfl hp
  | (k, s) :: r, T, l, p, _ => by
    have e : 3 * ((k, s) :: r).length = 1 + (2 + (3 * r.length + 0)) := by rw [List.length_cons]; omega
    rw [e]
    have ih := evalPs q r (T + 2) l q (.inl rfl)
    have e2 : T + 2 * ((k, s) :: r).length = T + 2 + 2 * r.length := by rw [List.length_cons]; omega
    rw [e2, List.map_cons]
    unfold evalPairs
    refine To.bind (To.mkInt k) (To.bind (To.holding _ (toVal q s)) (To.bind (To.holding _ ih) (To.pure _)))

theorem shortLoop (hn : n₀ ≤ h.objs.size) (pre : List Obj) : ∀ (r : List (Int × Str)) (lo : Int) (es : List DictEntry) (n T U : Nat), Up lo r → Below' lo es → es.length + r.length ≤ 100000 →
    To P w n₀ ann (10 * r.length) (at_ σ h (pre ++ [dOb es n]) U) p (forIn (valsS T r) PUnit.unit fun x _ => match x with
      | (k, v) => do
        PySem.dictSet (h.objs.size + pre.length) k v
        pure (ForInStep.yield PUnit.unit)) (at_ σ h (pre ++ [dOb (es ++ entsS T r) (n + r.length)]) (U + r.length)) p PUnit.unit
  | [], lo, es, n, T, U, _, _, _ => by
    simp only [valsS, entsS, List.append_nil, List.length_nil, Nat.mul_zero, Nat.add_zero]
    exact To.pure _
  | (k, s) :: r, lo, es, n, T, U, hu, hb, hz => by
    have e : 10 * ((k, s) :: r).length = (10 + 0) + 10 * r.length := by rw [List.length_cons]; omega
    have ih := shortLoop hn pre r (hashInt k + 1) (es ++ [⟨hashInt k, .int k T, Value.str s (T + 1)⟩]) (n + 1) (T + 2) (U + 1) hu.2 (hb.snoc (e := ⟨hashInt k, .int k T, Value.str s (T + 1)⟩) hu.1) (by rw [List.length_append, List.length_singleton]; rw [List.length_cons] at hz; omega)
    rw [List.append_assoc] at ih
    have e3 : U + ((k, s) :: r).length = U + 1 + r.length := by rw [List.length_cons]; omega
    have e4 : n + ((k, s) :: r).length = n + 1 + r.length := by rw [List.length_cons]; omega
    rw [e, e3, e4]
    simp only [valsS, List.forIn_cons]
    refine To.bind (σ₁ := at_ σ h (pre ++ [dOb (es ++ [⟨hashInt k, .int k T, Value.str s (T + 1)⟩]) (n + 1)]) (U + 1)) (p₁ := p) (a := ForInStep.yield PUnit.unit) ?_ ih
    refine To.bind (To.dictSet (es := es) (n := n) (hp_get h _ _ es n (get_mid pre [] _)) (hb.ne hu.1) (Nat.le_trans hn (Nat.le_add_right _ _)) (by rw [List.length_cons] at hz; omega)) ?_
    have e2 : ({ at_ σ h (pre ++ [dOb es n]) U with toks := (at_ σ h (pre ++ [dOb es n]) U).toks + 1, heap := (at_ σ h (pre ++ [dOb es n]) U).heap.update (h.objs.size + pre.length) (Obj.mapDictKeys (·.push ⟨hashInt k, .int k T, Value.str s (T + 1)⟩)) } : Shared) =
        at_ σ h (pre ++ [dOb (es ++ [⟨hashInt k, .int k T, Value.str s (T + 1)⟩]) (n + 1)]) (U + 1) := by
      unfold at_
      dsimp only
      rw [hp_update, modify_mid, map_push]
    rw [← e2]
    exact To.pure _

theorem subShort (hn : n₀ ≤ h.objs.size) (q : Pos) (pre : List Obj) (lo : Int) (r : List (Int × Str)) (T : Nat) (hu : Up lo r) (hl : r.length ≤ 15) (hr : r ≠ []) :
    To P w n₀ ann (1 + 13 * r.length) (at_ σ h pre T) p (subDict (r.map (itm q))) (at_ σ h (pre ++ [dOb (entsS T r) r.length]) (T + 3 * r.length)) q (h.objs.size + pre.length) := by
  unfold subDict
  have e0 : ({ at_ σ h pre T with heap := (at_ σ h pre T).heap.push { cls := .type "dict", data := .dict #[] } } : Shared) = at_ σ h (pre ++ [dOb [] 0]) T := by
    unfold at_
    dsimp only
    rw [hp_push]
  have e1 : (at_ σ h pre T).heap.objs.size = h.objs.size + pre.length := hp_size h pre
  have al := To.alloc (P := P) (w := w) (n₀ := n₀) (ann := ann) (σ := at_ σ h pre T) (p := p) ({ cls := .type "dict", data := .dict #[] } : Obj)
  rw [e0, e1] at al
  have e2 : 1 + 13 * r.length = 1 + ((3 * r.length + (10 * r.length + 0)) + 0) := by omega
  rw [e2]
  refine To.bind al (To.bind (a := ()) (To.holding _ ?_) (To.pure _))
  rw [if_pos (by rw [List.length_map]; exact hl)]
  refine To.bind (evalPs q r T _ p (.inr hr)) (To.holding _ (To.bind (a := PUnit.unit) ?_ (To.pure _)))
  have lp := shortLoop (P := P) (w := w) (ann := ann) (σ := σ) (p := q) hn pre r lo [] 0 T (T + 2 * r.length) hu (fun _ hx => nomatch hx) (by simp; omega)
  have e3 : T + 2 * r.length + r.length = T + 3 * r.length := by omega
  rw [List.nil_append, Nat.zero_add, e3] at lp
  exact lp
end
end Mine
theorem Mine.offTop6 : True := by
  w_top off
  trivial
end
section
open PySem PySem.W PyProof.Rows PySem.Calls
set_option Elab.async false
set_option maxRecDepth 100000
set_option linter.all false
namespace Mine
/-- the main dict's entries and the lesser dicts behind full chunks -/
def runC : List (List (Int × Str)) → Nat → List DictEntry → List Obj → List DictEntry × List Obj × Nat
  | [], T, M, subs => (M, subs, T)
  | c :: cs, T, M, subs => runC cs (T + 3 * c.length) (M ++ entsL T c) (subs ++ [dOb (entsL T c) c.length])
section
variable {P : Program} {w : World} {n₀ : Nat} {ann : Option Value} {σ : Shared} {p : Pos} {h : Heap}

abbrev LoopSt := Option Addr × List (Sem Value × Sem Value)
/-- the loop's body over an item with a key -/
def dbody (fl : List (Sem Value × Sem Value) → Option Addr → Sem (Option Addr)) (k v : Sem Value) (s : LoopSt) : Sem (ForInStep LoopSt) :=
  if ((s.2 ++ [(k, v)]).length == 17) = true then do
    let main ← fl (s.2 ++ [(k, v)]) s.1
    pure (ForInStep.yield (main, []))
  else pure (ForInStep.yield (s.1, s.2 ++ [(k, v)]))

theorem fill {fl : List (Sem Value × Sem Value) → Option Addr → Sem (Option Addr)} {body : Option (Sem Value) × Sem Value → LoopSt → Sem (ForInStep LoopSt)} (q : Pos)
    (hb : ∀ (x : Int × Str) s, body (ditm q x) s = dbody fl (itm q x).1 (itm q x).2 s) : ∀ (c : List (Int × Str)) (L : List (Option (Sem Value) × Sem Value)) (main : Option Addr) (run : List (Sem Value × Sem Value)), run.length + c.length < 17 →
    forIn (c.map (ditm q) ++ L) ((main, run) : LoopSt) body = forIn L ((main, run ++ c.map (itm q)) : LoopSt) body
  | [], L, main, run, _ => by simp
  | x :: c, L, main, run, hl => by
    rw [List.map_cons, List.cons_append, List.forIn_cons, hb]
    unfold dbody
    rw [if_neg (by rw [List.length_cons] at hl; simp only [List.length_append, List.length_singleton, beq_iff_eq]; omega)]
    have := fill q hb c L main (run ++ [itm q x]) (by rw [List.length_cons] at hl; rw [List.length_append, List.length_singleton]; omega)
    rw [List.append_assoc] at this
    exact this
theorem full {fl : List (Sem Value × Sem Value) → Option Addr → Sem (Option Addr)} {body : Option (Sem Value) × Sem Value → LoopSt → Sem (ForInStep LoopSt)} (q : Pos)
    (hb : ∀ (x : Int × Str) s, body (ditm q x) s = dbody fl (itm q x).1 (itm q x).2 s) (c : List (Int × Str)) (hc : c.length = 17) (L : List (Option (Sem Value) × Sem Value)) (main : Option Addr) :
    forIn (c.map (ditm q) ++ L) ((main, []) : LoopSt) body = (fl (c.map (itm q)) main >>= fun m => forIn L ((m, []) : LoopSt) body) := by
  obtain ⟨c', x, rfl⟩ : ∃ c' x, c = c' ++ [x] := by
    rcases List.eq_nil_or_concat c with e | ⟨c', x, e⟩
    · rw [e] at hc; simp at hc
    · exact ⟨c', x, by rw [e, List.concat_eq_append]⟩
  have hl : c'.length = 16 := by rw [List.length_append, List.length_singleton] at hc; omega
  rw [List.map_append, List.append_assoc, fill q hb c' _ main [] (by simp [hl])]
  rw [List.nil_append, List.map_singleton, List.singleton_append, List.forIn_cons, hb]
  unfold dbody
  rw [if_pos (by simp [hl])]
  have assoc : ∀ {α β γ : Type} (m : Sem α) (f : α → Sem β) (g : β → Sem γ), (m >>= f) >>= g = m >>= fun a => f a >>= g := by
    intro α β γ m f g
    show (m.bind f).bind g = m.bind fun a => (f a).bind g
    rw [Sem.bind_eq_wrap, Sem.bind_eq_wrap, Sem.bind_eq_wrap, Sem.wrap_wrap]
    refine Sem.wrap_congr m _ _ (fun a => ?_) fun _ => rfl
    exact (Sem.bind_eq_wrap _ _).symm
  rw [assoc]
  simp only [List.map_append, List.map_cons, List.map_nil]
  rfl

/-- the display's own flush -/
def fl0 (run : List (Sem Value × Sem Value)) (main : Option Addr) : Sem (Option Addr) := do
  if run.isEmpty then return main
  match main with
  | none => return some (← subDict run)
  | some d =>
    let sub ← holding [.ref d] (subDict run)
    (holding [.ref d, .ref sub] (mergeMapping d (.ref sub) false)).onRaise fun x => do let _ ← holding [.ref d, x] (runValue (.builtin "proto.let_go" {}))
    return some d

theorem flFirst (hn : n₀ ≤ h.objs.size) (q : Pos) (lo : Int) (r : List (Int × Str)) (T : Nat) (hu : Up lo r) (hl : r.length = 17) :
    To P w n₀ ann 223 (at_ σ h [] T) p (fl0 (r.map (itm q)) none) (at_ σ h [dOb (entsL T r) 17] (T + 51)) q (some h.objs.size) := by
  unfold fl0
  rw [if_neg (by rw [List.isEmpty_iff]; intro e; have := congrArg List.length e; rw [List.length_map, hl] at this; cases this)]
  have s1 := subLong (P := P) (w := w) (ann := ann) (σ := σ) (p := p) hn q [] lo r T hu (by omega) (by omega)
  rw [hl] at s1
  exact To.bind (n := 223) (k := 0) s1 (To.pure _)
theorem flMore (hn : n₀ ≤ h.objs.size) (hs : sysModules < h.objs.size) (q : Pos) (lo : Int) (r : List (Int × Str)) (T : Nat) (hu : Up lo r) (hl : r.length = 17) (M : List DictEntry) (m : Nat) (subs : List Obj) (hb : Below' lo M) (hM : M ≠ []) (hz : M.length ≤ 1000) :
    To P w n₀ ann 330 (at_ σ h (dOb M m :: subs) T) p (fl0 (r.map (itm q)) (some h.objs.size)) (at_ σ h (dOb (M ++ entsL T r) (m + 17) :: (subs ++ [dOb (entsL T r) 17])) (T + 51)) q (some h.objs.size) := by
  unfold fl0
  rw [if_neg (by rw [List.isEmpty_iff]; intro e; have := congrArg List.length e; rw [List.length_map, hl] at this; cases this)]
  have s1 := subLong (P := P) (w := w) (ann := ann) (σ := σ) (p := p) hn q (dOb M m :: subs) lo r T hu (by omega) (by omega)
  rw [hl] at s1
  have s2 := merge (P := P) (w := w) (ann := ann) (σ := σ) (p := q) hn hs M m subs (entsL T r) 17 (T + 51) lo hb (up_entsL r lo T hu) hM (by rw [entsL_len, hl]; omega)
  rw [entsL_len, hl] at s2
  exact To.bind (n := 223) (k := 107) (To.holding _ s1) (To.bind (n := 107) (k := 0) (To.onRaise _ (To.holding _ s2)) (To.pure _))
theorem flLast (hn : n₀ ≤ h.objs.size) (hs : sysModules < h.objs.size) (q : Pos) (lo : Int) (r : List (Int × Str)) (T : Nat) (hu : Up lo r) (hl : r.length ≤ 15) (hr : r ≠ []) (M : List DictEntry) (m : Nat) (subs : List Obj) (hb : Below' lo M) (hM : M ≠ []) (hz : M.length ≤ 1000) :
    To P w n₀ ann (6 + 19 * r.length) (at_ σ h (dOb M m :: subs) T) p (fl0 (r.map (itm q)) (some h.objs.size)) (at_ σ h (dOb (M ++ entsS T r) (m + r.length) :: (subs ++ [dOb (entsS T r) r.length])) (T + 3 * r.length)) q (some h.objs.size) := by
  unfold fl0
  rw [if_neg (by rw [List.isEmpty_iff]; intro e; exact hr (by simpa using e))]
  have s1 := subShort (P := P) (w := w) (ann := ann) (σ := σ) (p := p) hn q (dOb M m :: subs) lo r T hu hl hr
  have s2 := merge (P := P) (w := w) (ann := ann) (σ := σ) (p := q) hn hs M m subs (entsS T r) r.length (T + 3 * r.length) lo hb (up_entsS r lo T hu) hM (by rw [entsS_len]; omega)
  rw [entsS_len] at s2
  have e : 6 + 19 * r.length = (1 + 13 * r.length) + ((5 + 6 * r.length) + 0) := by omega
  rw [e]
  exact To.bind (To.holding _ s1) (To.bind (To.onRaise _ (To.holding _ s2)) (To.pure _))

theorem chunks {body : Option (Sem Value) × Sem Value → LoopSt → Sem (ForInStep LoopSt)} (hn : n₀ ≤ h.objs.size) (hs : sysModules < h.objs.size) (q : Pos) (hbd : ∀ (x : Int × Str) s, body (ditm q x) s = dbody fl0 (itm q x).1 (itm q x).2 s) (last : List (Int × Str)) (hl : last.length ≤ 15) :
    ∀ (cs : List (List (Int × Str))) (lo : Int) (M : List DictEntry) (m : Nat) (subs : List Obj) (T : Nat) (p : Pos), (∀ c ∈ cs, c.length = 17) → Up lo (cs.flatten ++ last) → Below' lo M → M ≠ [] → M.length = m → M.length + 17 * cs.length ≤ 1000 → (p = q ∨ cs ≠ []) →
    To P w n₀ ann (330 * cs.length) (at_ σ h (dOb M m :: subs) T) p (forIn (cs.flatten.map (ditm q) ++ last.map (ditm q)) ((some h.objs.size, []) : LoopSt) body)
      (at_ σ h (dOb (runC cs T M subs).1 (runC cs T M subs).1.length :: (runC cs T M subs).2.1) (runC cs T M subs).2.2) q ((some h.objs.size, last.map (itm q)) : LoopSt) ∧
    (∃ lo', Up lo' last ∧ Below' lo' (runC cs T M subs).1) ∧ (runC cs T M subs).1.length = M.length + 17 * cs.length
  | [], lo, M, m, subs, T, p, hc, hu, hb, hM, hm, hz, hp => by
    subst hm
    rcases hp with rfl | hp
    · refine ⟨?_, ⟨lo, by simpa using hu, hb⟩, by simp [runC]⟩
      rw [List.flatten_nil, List.map_nil, List.nil_append]
      have f := fill (body := body) p hbd last [] (some h.objs.size) [] (by rw [List.length_nil]; omega)
      rw [List.append_nil, List.nil_append] at f
      rw [f]
      exact To.pure _
    · exact absurd rfl hp
  | c :: cs, lo, M, m, subs, T, p, hc, hu, hb, hM, hm, hz, hp => by
    have hl17 := hc c (.head _)
    rw [List.flatten_cons, List.append_assoc] at hu
    obtain ⟨hu1, lo', hu2, hb2⟩ := upSplit c (cs.flatten ++ last) lo M T hu hb
    have l := List.length_cons (a := c) (as := cs)
    have s1 := flMore (P := P) (w := w) (ann := ann) (σ := σ) (p := p) hn hs q lo c T hu1 hl17 M m subs hb hM (by omega)
    have ih := chunks hn hs q hbd last hl cs lo' (M ++ entsL T c) (m + 17) (subs ++ [dOb (entsL T c) 17]) (T + 51) q (fun c hc' => hc c (.tail _ hc')) hu2 hb2 (by simp [hM]) (by rw [List.length_append, entsL_len, hl17, hm]) (by rw [List.length_append, entsL_len]; omega) (.inl rfl)
    have e51 : T + 3 * c.length = T + 51 := by rw [hl17]
    refine ⟨?_, ?_, ?_⟩
    · have e : 330 * (c :: cs).length = 330 + 330 * cs.length := by omega
      rw [e, List.flatten_cons, List.map_append, List.append_assoc, full q hbd c hl17]
      refine To.bind s1 ?_
      unfold runC
      rw [e51, hl17]
      exact ih.1
    · unfold runC
      rw [e51, hl17]
      exact ih.2.1
    · unfold runC
      rw [e51, hl17, ih.2.2, List.length_append, entsL_len]
      omega

theorem displayForm (q : Pos) (items : List (Option (Sem Value) × Sem Value)) : ∃ body : Option (Sem Value) × Sem Value → LoopSt → Sem (ForInStep LoopSt),
    dictDisplay items = (forIn items ((none, []) : LoopSt) body >>= fun s => fl0 s.2 s.1 >>= fun d => match d with | some d => pure (.ref d) | none => newDict) ∧
    ∀ (x : Int × Str) s, body (ditm q x) s = dbody fl0 (itm q x).1 (itm q x).2 s := ⟨_, rfl, fun x s => rfl⟩

/-- the whole display: full chunks, a short one behind -/
theorem display (hn : n₀ ≤ h.objs.size) (hs : sysModules < h.objs.size) (q : Pos) (c : List (Int × Str)) (cs : List (List (Int × Str))) (last : List (Int × Str)) (T : Nat) (lo : Int) (hc : c.length = 17) (hcs : ∀ c ∈ cs, c.length = 17) (hl : last.length ≤ 15) (hr : last ≠ [])
    (hu : Up lo (c ++ (cs.flatten ++ last))) (hz : cs.length ≤ 50) :
    To P w n₀ ann (223 + (330 * cs.length + (6 + 19 * last.length))) (at_ σ h [] T) p (dictDisplay (c.map (ditm q) ++ (cs.flatten.map (ditm q) ++ last.map (ditm q))))
      (at_ σ h (dOb ((runC cs (T + 51) (entsL T c) []).1 ++ entsS (runC cs (T + 51) (entsL T c) []).2.2 last) ((runC cs (T + 51) (entsL T c) []).1.length + last.length) ::
        ((runC cs (T + 51) (entsL T c) []).2.1 ++ [dOb (entsS (runC cs (T + 51) (entsL T c) []).2.2 last) last.length])) ((runC cs (T + 51) (entsL T c) []).2.2 + 3 * last.length)) q (.ref h.objs.size) := by
  obtain ⟨hu1, lo', hu2, hb2⟩ := upSplit c (cs.flatten ++ last) lo [] T hu (fun _ hx => nomatch hx)
  rw [List.nil_append] at hb2
  have s1 := flFirst (P := P) (w := w) (ann := ann) (σ := σ) (p := p) hn q lo c T hu1 hc
  obtain ⟨body, eb, hbd⟩ := displayForm q (c.map (ditm q) ++ (cs.flatten.map (ditm q) ++ last.map (ditm q)))
  rw [eb, full q hbd c hc]
  have hM : entsL T c ≠ [] := by
    intro e
    have := congrArg List.length e
    rw [entsL_len, hc] at this
    cases this
  obtain ⟨s2, ⟨lo2, hu3, hb3⟩, hlen⟩ := chunks (P := P) (w := w) (ann := ann) (σ := σ) hn hs q hbd last hl cs lo' (entsL T c) 17 [] (T + 51) q hcs hu2 hb2 hM (by rw [entsL_len, hc]) (by rw [entsL_len, hc]; omega) (.inl rfl)
  have hM2 : (runC cs (T + 51) (entsL T c) []).1 ≠ [] := by
    intro e
    rw [e, entsL_len, hc] at hlen
    simp at hlen
    omega
  have s3 := flLast (P := P) (w := w) (ann := ann) (σ := σ) (p := q) hn hs q lo2 last (runC cs (T + 51) (entsL T c) []).2.2 hu3 hl hr (runC cs (T + 51) (entsL T c) []).1 (runC cs (T + 51) (entsL T c) []).1.length (runC cs (T + 51) (entsL T c) []).2.1 hb3 hM2 (by rw [hlen, entsL_len, hc]; omega)
  have b1 : To P w n₀ ann (223 + 330 * cs.length) (at_ σ h [] T) p (fl0 (c.map (itm q)) none >>= fun m => forIn (cs.flatten.map (ditm q) ++ last.map (ditm q)) ((m, []) : LoopSt) body) _ q _ := To.bind s1 s2
  rw [← Nat.add_assoc]
  exact To.bind b1 (To.bind (n := 6 + 19 * last.length) (k := 0) s3 (To.pure _))
end
end Mine
theorem Mine.offTop7 : True := by
  w_top off
  trivial
end
section
open PySem PySem.W PyProof.Rows PySem.Calls
set_option Elab.async false
set_option maxRecDepth 100000
set_option linter.all false
namespace Mine
def constKeys : List (Option Expr) → Option (List Int)
  | [] => some []
  | some (.Constant (.int i) _ _) :: r => (constKeys r).map (i :: ·)
  | _ => none
def constVals : List Expr → Option (List Str)
  | [] => some []
  | .Constant (.str x) _ _ :: r => (constVals r).map (x :: ·)
  | _ => none
theorem zip_items (env : Env) (q : Pos) : ∀ (ks : List (Option Expr)) (vs : List Expr) (is : List Int) (xs : List Str), constKeys ks = some is → constVals vs = some xs →
    (evalEachOpt ks env).zip ((evalEach vs env).map fun v => do let x ← v; standAt q; pure x) = (is.zip xs).map (ditm q)
  | [], vs, is, xs, h1, h2 => by
    obtain rfl : [] = is := by simpa [constKeys] using h1
    rfl
  | k :: ks, [], is, xs, h1, h2 => by
    obtain rfl : [] = xs := by simpa [constVals] using h2
    rw [List.zip_nil_right]
    exact List.zip_nil_right
  | k :: ks, v :: vs, is, xs, h1, h2 => by
    unfold constKeys at h1
    split at h1
    · rename_i e; cases e
    · rename_i i u p r e
      obtain ⟨rfl, rfl⟩ := List.cons.inj e
      obtain ⟨is', e1, rfl⟩ := Option.map_eq_some_iff.mp h1
      unfold constVals at h2
      split at h2
      · rename_i e'; cases e'
      · rename_i x u' p' r' e'
        obtain ⟨rfl, rfl⟩ := List.cons.inj e'
        obtain ⟨xs', e2, rfl⟩ := Option.map_eq_some_iff.mp h2
        have ih := zip_items env q ks vs is' xs' e1 e2
        show (_ :: _) = (_ :: _)
        exact congrArg (List.cons _) ih
      · cases h2
    · cases h1

def chop {α : Type} : Nat → List α → List (List α) × List α
  | 0, l => ([], l)
  | n + 1, l => (l.take 17 :: (chop n (l.drop 17)).1, (chop n (l.drop 17)).2)
theorem chop_all {α : Type} : ∀ (n : Nat) (l : List α), (chop n l).1.flatten ++ (chop n l).2 = l
  | 0, l => rfl
  | n + 1, l => by
    simp only [chop, List.flatten_cons, List.append_assoc, chop_all n, List.take_append_drop]
theorem chop_len {α : Type} : ∀ (n : Nat) (l : List α), 17 * n ≤ l.length → (∀ c ∈ (chop n l).1, c.length = 17) ∧ (chop n l).2.length = l.length - 17 * n ∧ (chop n l).1.length = n
  | 0, l, _ => ⟨fun _ h => (by cases h), rfl, rfl⟩
  | n + 1, l, h => by
    obtain ⟨a, b, c⟩ := chop_len n (l.drop 17) (by rw [List.length_drop]; omega)
    refine ⟨fun c hc => ?_, ?_, ?_⟩
    · rcases List.mem_cons.mp hc with rfl | hc
      · rw [List.length_take]; omega
      · exact a c hc
    · show (chop n (l.drop 17)).2.length = _
      rw [b, List.length_drop]; omega
    · show (_ :: (chop n (l.drop 17)).1).length = _
      rw [List.length_cons, c]

/-- the final objects of a display of pairs, 17 n + 17 of them in full chunks -/
def finalC (n : Nat) (pairs : List (Int × Str)) (T : Nat) : List DictEntry × List Obj × Nat := runC (chop n (pairs.drop 17)).1 (T + 51) (entsL T (pairs.take 17)) []
def lastC (n : Nat) (pairs : List (Int × Str)) : List (Int × Str) := (chop n (pairs.drop 17)).2
def objsC (n : Nat) (pairs : List (Int × Str)) (T : Nat) : List Obj :=
  dOb ((finalC n pairs T).1 ++ entsS (finalC n pairs T).2.2 (lastC n pairs)) ((finalC n pairs T).1.length + (lastC n pairs).length) ::
    ((finalC n pairs T).2.1 ++ [dOb (entsS (finalC n pairs T).2.2 (lastC n pairs)) (lastC n pairs).length])
def toksC (n : Nat) (pairs : List (Int × Str)) (T : Nat) : Nat := (finalC n pairs T).2.2 + 3 * (lastC n pairs).length
def nameHash (w : World) (nm : Str) : Int := if nm.cps.isEmpty then 0 else reduceHash (w.params.strHash nm.cps)
/-- the state behind the statement -/
def S8 (w : World) (nm : Str) (n : Nat) (pairs : List (Int × Str)) (σ : Shared) : Shared :=
  { σ with toks := toksC n pairs σ.toks + 1, heap := (hp σ.heap (objsC n pairs σ.toks)).update mainNs (Obj.putName nm (nameHash w nm) (Value.str nm (toksC n pairs σ.toks)) (.ref σ.heap.objs.size)) }
def nsFits (nm : Str) (σ : Shared) : Bool := match σ.heap.get? mainNs with
  | some ⟨_, _, .dict es _, _⟩ => !aRefKeyMayBeTheName nm es
  | _ => false
section
variable {P : Program} {w : World} {n₀ : Nat} {ann : Option Value} {σ : Shared} {p : Pos} {h : Heap}
theorem at_nil (σ : Shared) : at_ σ σ.heap [] σ.toks = σ := by
  unfold at_
  rw [hp_nil]
theorem hp_old (h : Heap) (l : List Obj) (a : Addr) (ha : a < h.objs.size) : (hp h l).get? a = h.get? a := by
  unfold Heap.get? hp
  rw [Array.getElem?_append_left ha]
theorem strHash_To (nm : Str) : To P w n₀ ann 1 σ p (strHash nm) σ p (nameHash w nm) := To.bind (n := 1) (k := 0) To.ask (To.pure _)

theorem display_To (hn : n₀ ≤ σ.heap.objs.size) (hs : sysModules < σ.heap.objs.size) (q : Pos) (n : Nat) (pairs : List (Int × Str)) (hl : 17 * n + 17 < pairs.length) (hl2 : pairs.length ≤ 17 * n + 17 + 15) (hn50 : n ≤ 50) (hu : Up 0 pairs) :
    To P w n₀ ann (223 + (330 * n + (6 + 19 * (pairs.length - 17 * n - 17)))) σ p (dictDisplay (pairs.map (ditm q))) (at_ σ σ.heap (objsC n pairs σ.toks) (toksC n pairs σ.toks)) q (.ref σ.heap.objs.size) := by
  obtain ⟨c1, c2, c3⟩ := chop_len n (pairs.drop 17) (by rw [List.length_drop]; omega)
  have c2' : (lastC n pairs).length = pairs.length - 17 * n - 17 := by
    unfold lastC
    rw [c2, List.length_drop]; omega
  have e : pairs.take 17 ++ ((chop n (pairs.drop 17)).1.flatten ++ lastC n pairs) = pairs := by
    unfold lastC
    rw [chop_all, List.take_append_drop]
  have d := display (P := P) (w := w) (ann := ann) (σ := σ) (p := p) (h := σ.heap) hn hs q (pairs.take 17) (chop n (pairs.drop 17)).1 (lastC n pairs) σ.toks 0 (by rw [List.length_take]; omega) c1 (by omega)
    (by intro e; rw [e] at c2'; simp at c2'; omega) (by rw [e]; exact hu) (by omega)
  rw [← List.map_append, ← List.map_append, e, at_nil, c3, c2'] at d
  unfold objsC toksC
  rw [c2']
  exact d

theorem assign_To (env : Env) (hk : env.scope.kind = .module) (hl : env.locals = mainNs) (hg : env.globals = mainNs) (nm : Str) (hx : env.kindOf nm = some .local) (np pos spos : Pos) (ks : List (Option Expr)) (vs : List Expr) (is : List Int) (xs : List Str)
    (e1 : constKeys ks = some is) (e2 : constVals vs = some xs) (hn : n₀ ≤ σ.heap.objs.size) (hs : sysModules < σ.heap.objs.size) (hm : mainNs < σ.heap.objs.size) (n : Nat) (hlen : 17 * n + 17 < (is.zip xs).length) (hlen2 : (is.zip xs).length ≤ 17 * n + 17 + 15) (hn50 : n ≤ 50) (hu : Up 0 (is.zip xs)) (hf : nsFits nm σ = true) :
    To P w n₀ ann (2 + (223 + (330 * n + (6 + 19 * ((is.zip xs).length - 17 * n - 17)))) + 7) σ p (exec (.Assign [.Name nm np] (.Dict ks vs pos) spos) env) (S8 w nm n (is.zip xs) σ) np .next := by
  have D := fun p => display_To (P := P) (w := w) (ann := ann) (σ := σ) (p := p) hn hs pos n (is.zip xs) hlen hlen2 hn50 hu
  generalize (223 + (330 * n + (6 + 19 * ((is.zip xs).length - 17 * n - 17)))) = c at D ⊢
  have E : To P w n₀ ann (1 + c) σ spos (eval (.Dict ks vs pos) env) (at_ σ σ.heap (objsC n (is.zip xs) σ.toks) (toksC n (is.zip xs) σ.toks)) pos (.ref σ.heap.objs.size) := by
    show To P w n₀ ann (1 + c) σ spos (standAt pos >>= fun _ => dictDisplay ((evalEachOpt ks env).zip ((evalEach vs env).map fun v => do let x ← v; standAt pos; pure x))) _ _ _
    rw [zip_items env pos ks vs is xs e1 e2]
    exact To.bind (To.at pos) (D pos)
  have ho : ∃ c d es ep sl, σ.heap.get? mainNs = some ⟨c, d, .dict es ep, sl⟩ ∧ aRefKeyMayBeTheName nm es = false := by
    unfold nsFits at hf
    split at hf
    · rename_i c d es ep sl e
      exact ⟨c, d, es, ep, sl, e, by simpa using hf⟩
    · cases hf
  obtain ⟨c₀, d₀, es₀, ep₀, sl₀, ho, hr⟩ := ho
  have ho' : (at_ σ σ.heap (objsC n (is.zip xs) σ.toks) (toksC n (is.zip xs) σ.toks)).heap.get? mainNs = some ⟨c₀, d₀, .dict es₀ ep₀, sl₀⟩ := (hp_old _ _ _ hm).trans ho
  have B : To P w n₀ ann 6 (at_ σ σ.heap (objsC n (is.zip xs) σ.toks) (toksC n (is.zip xs) σ.toks)) np (bindName env nm (.ref σ.heap.objs.size)) (S8 w nm n (is.zip xs) σ) np () := by
    unfold bindName
    refine To.bind (n := 1) (k := 5) (To.holding _ (To.point _)) ?_
    refine To.bind (n := 4) (k := 1) (σ₁ := S8 w nm n (is.zip xs) σ) (p₁ := np) (a := ()) ?_ (To.point _)
    unfold storeName
    have h1 : (env.kindOf nm == some NameKind.globalImplicit && env.blockKind != ScopeKind.function) = false := by rw [hx]; rfl
    have h2 : (env.scope.kind == ScopeKind.class || (env.scope.kind == ScopeKind.module && env.locals != env.globals)) = false := by rw [hk, hl, hg]; simp
    rw [h1, hx]
    dsimp only
    rw [if_neg Bool.false_ne_true]
    dsimp only
    rw [h2, if_neg Bool.false_ne_true, hl]
    unfold nsSet
    refine To.bind (n := 1) (k := 3) (strHash_To nm) (To.bind (n := 1) (k := 2) (To.mkText nm) (To.bind (n := 1) (k := 1) (To.loadPart _ ho') ?_))
    dsimp only
    rw [hr, if_neg Bool.false_ne_true]
    exact To.update (σ := { at_ σ σ.heap (objsC n (is.zip xs) σ.toks) (toksC n (is.zip xs) σ.toks) with toks := toksC n (is.zip xs) σ.toks + 1 }) _ _ (by show (Heap.get? _ _).isSome = true; rw [ho']; rfl) (.inr rfl)
  rw [arm_exec_Assign]
  have e9 : 2 + c + 7 = 1 + (0 + ((1 + c) + (0 + (7 + 0)))) := by omega
  rw [e9]
  refine To.bind (To.at spos) (To.bind (a := false) (To.pure _) ?_)
  rw [if_neg Bool.false_ne_true]
  refine To.bind E (To.bind (a := none) (To.pure _) ?_)
  show To P w n₀ ann (7 + 0) _ pos (assignAll (.ref σ.heap.objs.size) [assign (.Name nm np) env] >>= fun _ => pure Flow.next) _ _ _
  refine To.bind (n := 7) (σ₁ := S8 w nm n (is.zip xs) σ) (p₁ := np) (a := ()) ?_ (To.pure _)
  show To P w n₀ ann 7 _ pos (standAt np >>= fun _ => bindName env nm (.ref σ.heap.objs.size)) _ _ _
  exact To.bind (n := 1) (k := 6) (To.at np) B
end
end Mine
theorem Mine.offTop8 : True := by
  w_top off
  trivial
end
section
open PySem PySem.W PyProof.Rows PySem.Calls
set_option Elab.async false
set_option maxRecDepth 100000
set_option linter.all false
namespace Mine
abbrev pwT : Program := PySem.Challenge.pw_pe0279_01
def envT : Env := { scope := pwT.main.scope, locals := mainNs, globals := mainNs, cells := [], code := .ref 30, frame := some 31 }
def bodyT : List Stmt := behindTheImports pwT
def zT : Pos := default
def npT : Pos := ⟨103, 0, 103, 13⟩
abbrev BT' : List Frame := [topFrame zT]
def dictKs : Stmt → List (Option Expr)
  | .Assign _ (.Dict ks _ _) _ => ks
  | _ => []
def dictVs : Stmt → List Expr
  | .Assign _ (.Dict _ vs _) _ => vs
  | _ => []
def ksT : List (Option Expr) := ((bodyT[7]?).map dictKs).getD []
def vsT : List Expr := ((bodyT[7]?).map dictVs).getD []
def isT : List Int := (constKeys ksT).getD []
def xsT : List Str := (constVals vsT).getD []
def pairsT : List (Int × Str) := isT.zip xsT
def upB : Int → List (Int × Str) → Bool
  | _, [] => true
  | lo, (k, _) :: r => decide (lo ≤ hashInt k) && upB (hashInt k + 1) r
theorem up_of : ∀ (r : List (Int × Str)) (lo : Int), upB lo r = true → Up lo r
  | [], _, _ => trivial
  | (k, s) :: r, lo, h => by
    unfold upB at h
    obtain ⟨a, b⟩ := Bool.and_eq_true_iff.mp h
    exact ⟨of_decide_eq_true a, up_of r _ b⟩
theorem st8_form : bodyT[7]? = some (.Assign [.Name "b3_exceptions" npT] (.Dict ksT vsT ⟨103, 16, 103, 8704⟩) ⟨103, 0, 103, 8704⟩) := by kernel_rfl!
theorem keysT : constKeys ksT = some isT := by kernel_rfl!
theorem valsT : constVals vsT = some xsT := by kernel_rfl!
theorem lenT : pairsT.length = 650 := by kernel_rfl!
theorem upT : Up 0 pairsT := up_of _ _ (by kernel_rfl!)
theorem kindT : envT.kindOf "b3_exceptions" = some .local := by kernel_rfl!
theorem scopeT : envT.scope.kind = .module := by kernel_rfl!

theorem body_parts : bodyT = bodyT.take 7 ++ (.Assign [.Name "b3_exceptions" npT] (.Dict ksT vsT ⟨103, 16, 103, 8704⟩) ⟨103, 0, 103, 8704⟩ :: bodyT.drop 8) := by
  obtain ⟨h, e⟩ := List.getElem?_eq_some_iff.mp st8_form
  rw [← e, ← List.drop_eq_getElem_cons h, List.take_append_drop]

structure Whole where
  ta : Thread
  fb : Flow
  cb : Code
  f7 : Flow
  c7 : Code
  f15 : Flow
  c15 : Code
  s₁ : Shared

def fitsT (n₀ : Nat) (σ : Shared) : Bool := Nat.ble n₀ σ.heap.objs.size && Nat.blt sysModules σ.heap.objs.size && Nat.blt mainNs σ.heap.objs.size && nsFits "b3_exceptions" σ

def whole (w : World) (N : Nat) : Option Whole :=
  (fencedOpening treeTable pwT w N).bind fun s₀ => match s₀.heap.isNs mainGlobals && s₀.gens.size == 0 with
    | false => none
    | true => (topGo treeTable pwT w s₀.heap.objs.size (s₀.heap.nsMap mainGlobals "__annotations__") 12 s₀ (topStub pwT)).bind fun a =>
      (segRun treeTable pwT w s₀.heap.objs.size (s₀.heap.nsMap mainGlobals "__annotations__") 1 2 a.1 (blockOf bodyT envT (.body bodyT envT) zT BT')).bind fun b =>
      (segRun treeTable pwT w s₀.heap.objs.size (s₀.heap.nsMap mainGlobals "__annotations__") 1 1100 b.2.1 (piecesOf (bodyT.take 7) envT (.body bodyT envT) b.2.2.2 BT')).bind fun c =>
      match fitsT s₀.heap.objs.size c.2.1 with
      | false => none
      | true => (segRun treeTable pwT w s₀.heap.objs.size (s₀.heap.nsMap mainGlobals "__annotations__") 1 300 (S8 w "b3_exceptions" 37 pairsT c.2.1) (piecesOf (bodyT.drop 8) envT (.body bodyT envT) npT BT')).bind fun d =>
        (topRun treeTable pwT w s₀.heap.objs.size (s₀.heap.nsMap mainGlobals "__annotations__") 5 d.2.1 ⟨doneF .next, .body bodyT envT, d.2.2.2, BT'⟩).bind fun s₁ =>
        match staticsOk (importedModules pwT.main.body) s₀.heap s₁.heap && namesBound pwT s₁.heap && gensDone s₁ && laidKept s₀.heap s₁.heap with
        | false => none
        | true => some ⟨a.2, b.1, b.2.2.1, c.1, c.2.2.1, d.1, d.2.2.1, s₁⟩

theorem left_of {q : Program} {loose : List Str} {Xt : Shared → Bool} {α : Type} {Yf : Shared → α} {Ya : World → α}
    (e : ∀ w : World, (whole w 20000).map (fun x => (x.ta, (x.fb, x.cb), (x.f7, x.c7), (x.f15, x.c15), openSeen q loose (importedModules pwT.main.body) Xt true x.s₁, Yf x.s₁)) =
      some ((⟨denote treeTable (.body bodyT envT), .body bodyT envT, zT, BT'⟩ : Thread), (Flow.next, Code.body bodyT envT), (Flow.next, Code.body bodyT envT), (Flow.next, Code.body bodyT envT), openGood q loose, Ya w)) :
    LeftO pwT q loose Xt Yf Ya 20000 := fun w => by
  obtain ⟨x, hx, e'⟩ := Option.map_eq_some_iff.mp (e w)
  simp only [Prod.mk.injEq] at e'
  obtain ⟨e1, ⟨e2, e3⟩, ⟨e4, e5⟩, ⟨e6, e7⟩, e8, e9⟩ := e'
  unfold whole at hx
  obtain ⟨s₀, h0, hx⟩ := Option.bind_eq_some_iff.mp hx
  split at hx
  · cases hx
  rename_i g0
  obtain ⟨⟨sa, ta⟩, ha, hx⟩ := Option.bind_eq_some_iff.mp hx
  obtain ⟨⟨fb, sb, cb, pb⟩, hb, hx⟩ := Option.bind_eq_some_iff.mp hx
  obtain ⟨⟨f7, s7, c7, p7⟩, h7, hx⟩ := Option.bind_eq_some_iff.mp hx
  split at hx
  · cases hx
  rename_i gf
  obtain ⟨⟨f15, s15, c15, p15⟩, h15, hx⟩ := Option.bind_eq_some_iff.mp hx
  obtain ⟨s₁, h1, hx⟩ := Option.bind_eq_some_iff.mp hx
  split at hx
  · cases hx
  rename_i gl
  obtain rfl := (Option.some.inj hx).symm
  dsimp only at e1 e2 e3 e4 e5 e6 e7 e8 e9 h7 h15 h1 gf
  subst e1 e2 e3 e4 e5 e6 e7
  unfold fitsT at gf
  simp only [Bool.and_eq_true] at gf
  obtain ⟨⟨⟨f1, f2⟩, f3⟩, f4⟩ := gf
  have hT := lenT
  have r15 := piece_app (l := bodyT.drop 8) (rest := []) h15 (piece_nil h1)
  rw [List.append_nil] at r15
  have t8 := assign_To (P := pwT) (w := w) (n₀ := s₀.heap.objs.size) (ann := s₀.heap.nsMap mainGlobals "__annotations__") (σ := s7) (p := p7) envT scopeT rfl rfl "b3_exceptions" kindT npT ⟨103, 16, 103, 8704⟩ ⟨103, 0, 103, 8704⟩ ksT vsT isT xsT keysT valsT
    (Nat.le_of_ble_eq_true f1) (Nat.le_of_ble_eq_true f2) (Nat.le_of_ble_eq_true f3) 37 (by show _ < pairsT.length; rw [hT]; decide) (by show pairsT.length ≤ _; rw [hT]; decide) (by decide) upT f4
  have r8 : topRun treeTable pwT w s₀.heap.objs.size (s₀.heap.nsMap mainGlobals "__annotations__") (12524 + (300 + 5)) s7 (restOf (.Assign [.Name "b3_exceptions" npT] (.Dict ksT vsT ⟨103, 16, 103, 8704⟩) ⟨103, 0, 103, 8704⟩ :: bodyT.drop 8) envT (.body bodyT envT) p7 BT') = some s₁ := by
    unfold restOf
    rw [execs_cons_wrap]
    have n8 : 2 + (223 + (330 * 37 + (6 + 19 * ((isT.zip xsT).length - 17 * 37 - 17)))) + 7 = 12524 := by
      show 2 + (223 + (330 * 37 + (6 + 19 * (pairsT.length - 17 * 37 - 17)))) + 7 = 12524
      rw [hT]
    rw [n8] at t8
    rw [t8]
    exact r15
  have r7 := piece_app (l := bodyT.take 7) h7 r8
  rw [← body_parts] at r7
  have rb := piece_block hb r7
  have ra := go_top ha rb
  have rN := topRun_mono (20000 - (12 + (2 + (1100 + (12524 + (300 + 5)))))) _ _ _ _ ra
  have eN : 12 + (2 + (1100 + (12524 + (300 + 5)))) + (20000 - (12 + (2 + (1100 + (12524 + (300 + 5)))))) = 20000 := by decide
  rw [eN] at rN
  have t : topFrom treeTable pwT w 20000 s₀ = some s₁ := by
    unfold topFrom
    rw [g0, rN]
    show (match staticsOk (importedModules pwT.main.body) s₀.heap s₁.heap && namesBound pwT s₁.heap && gensDone s₁ && laidKept s₀.heap s₁.heap with | true => some s₁ | false => none) = _
    rw [gl]
  unfold openEnds
  rw [h0]
  show (topFrom treeTable pwT w 20000 s₀).map _ = _
  rw [t]
  exact congrArg some (Prod.ext e8 e9)
end Mine
theorem Mine.offTop9 : True := by
  w_top off
  trivial
end
section
open PySem PySem.W PyProof.Rows
set_option Elab.async false
set_option maxRecDepth 100000
set_option maxHeartbeats 0
namespace Mine
def qT : Program := view pwT [0, 14]
def looseT : List Str := ["__name__", "tspecials", "_name_disallowed_re", "_value_disallowed_re", "_formatparam", "Headers", "b3_exceptions", "map_table_b3", "_law_sign", "_law_learn", "_law_ask"]
local macro_rules | `(tactic| o_head $H) => `(tactic| (
  refine holds_open (q := qT) (loose := looseT) (Xt := fun s => xlAt qT [] s && recOk (RowW.records (OpenRow.toRowW (OpenLaw.row PySem.Challenge.rw_pe0279_01))) s) (XP := XL qT []) (Yf := Hook.obs $H) (Ya := Hook.val $H) (YP := Hook.says $H) (N := 20000) ?hl (Hook.of $H) (Hook.keeps $H)
    (fun s e => xl_of s (Bool.and_eq_true_iff.mp e).1) XL.keeps (by rfl) (by rfl) (by rfl) (fun s e => recFacts_of (Bool.and_eq_true_iff.mp e).2) (by rfl) (by first | assumption | decide +kernel) (by decide +kernel) ⟨rfl, rfl, rfl, rfl, rfl, by decide +kernel⟩ ?hw ?hc
  (case hl => exact left_of (by intro w; kernel_rfl!))))
open_top hd for PySem.Challenge.rw_pe0279_01
end Mine
theorem Mine.offHdC : True := by
  w_top off
  trivial
end
section
set_option maxRecDepth 100000
set_option Elab.async false
namespace Mine
open PySem PySem.W PyProof.Rows PySem.Calls

theorem plainAttrs_pat : PlainAttrs "re.Pattern" :=
  ⟨⟨"object.__getattribute__", by rw [typeLookup_type, builtinLookup_eq_fast]; kernel_rfl, by decide +kernel⟩, by rw [typeLookup_type, builtinLookup_eq_fast]; kernel_rfl⟩
theorem slot_search : Slot "re.Pattern" "search" "re.Pattern.search" :=
  .of (owner := "re.Pattern") (n := "search") (by rw [typeLookup_type, builtinLookup_eq_fast]; kernel_rfl) (by decide +kernel) (by decide +kernel) (by decide +kernel)
    (by first | exact .inl (by decide +kernel) | exact .inr (by decide +kernel)) (by rw [isSubtype_type]; kernel_rfl)
theorem type_search : typeOf (.builtin "re.Pattern.search") = pure (.type "method_descriptor") := by show builtinType _ = _; rw [builtinType_eq_fast]; kernel_rfl
theorem entry_search : entryFor table "re.Pattern.search" = some Builtin.«re.Pattern.search» := entryFor_of_tree (by kernel_rfl)
theorem owner_pat : Manifest.owners.lookup (String.ofList ['n', 'r', 'e', 't', 't', 'a', 'P', '.', 'e', 'r'].reverse) = some Manifest.sig_re_Pattern := by kernel_rfl
theorem args_search (a b : Value) : argsOk "re.Pattern.search" ⟨[a, b], []⟩ := by
  unfold argsOk; rw [signature?_of (id := "re.Pattern.search") (n := ['h', 'c', 'r', 'a', 'e', 's']) (o := ['n', 'r', 'e', 't', 't', 'a', 'P', '.', 'e', 'r']) (by kernel_rfl) owner_pat]; kernel_rfl
theorem match_nobool : typeLookup (.type "re.Match") "__bool__" = pure none := by rw [typeLookup_type, builtinLookup_eq_fast]; kernel_rfl
theorem match_nolen : typeLookup (.type "re.Match") "__len__" = pure none := by rw [typeLookup_type, builtinLookup_eq_fast]; kernel_rfl

def nmC : Array Nat := #[14, 10, 4, 1, 1, 22, 0, 31, 16, 127, 0, 13, 7, 22, 0, 31, 16, 127, 0, 1]
def vlC : Array Nat := #[14, 14, 4, 1, 1, 9, 4294966783, 0, 0, 2147483648, 0, 0, 0, 0, 0, 13, 11, 9, 4294966783, 0, 0, 2147483648, 0, 0, 0, 0, 0, 1]
def start (c : Array Nat) (x : Str) : Sre.M := Sre.forSearch c x.cps 0 0 (min (2 ^ 63 - 1) x.cps.size) false
/-- what the search ends with: some true matched, some false failed -/
def said (m : Sre.M) : Option Bool := match m.outcome with
  | some .matched => some true
  | some .failed => some false
  | _ => none
def found (c : Array Nat) (x : Str) : Option Bool := said ((start c x).runFor 400)

theorem runFor_out {m : Sre.M} (h : m.outcome.isSome = true) : ∀ n, m.runFor n = m
  | 0 => rfl
  | n + 1 => by show (if m.outcome.isSome then m else _) = m; rw [if_pos h]
theorem runFor_add : ∀ (a b : Nat) (m : Sre.M), (m.runFor a).runFor b = m.runFor (a + b)
  | 0, b, m => by rw [Nat.zero_add]; rfl
  | a + 1, b, m => by
    rw [Nat.succ_add]
    show (if m.outcome.isSome then m else Sre.M.runFor a m.step).runFor b = (if m.outcome.isSome then m else Sre.M.runFor (a + b) m.step)
    by_cases h : m.outcome.isSome = true
    · rw [if_pos h, if_pos h]; exact runFor_out h b
    · rw [if_neg h, if_neg h]; exact runFor_add a b m.step

section
variable {prog : Program} {w : World} {M : Model} {A : Around} {E : Value → Shared → Prop} {s : Shared}
open PySem.Builtin.Re
theorem wp_reDrive {Q : Sre.M → Shared → Prop} : ∀ (k n : Nat) (m : Sre.M), (m.runFor (4 * (k + 1))).outcome.isSome = true → Q (m.runFor (4 * (k + 1))) s → wpAny M A (reDrive (n + (k + 1)) m) Q E s
  | 0, n, m, h, q => by
    show wpAny M A (if (m.runFor 4).outcome.isSome then pure (m.runFor 4) else _) Q E s
    rw [if_pos h]
    exact wpAny_pure q
  | k + 1, n, m, h, q => by
    show wpAny M A (if (m.runFor 4).outcome.isSome then pure (m.runFor 4) else (do rule "sre.turn"; reDrive (n + (k + 1)) (m.runFor 4))) Q E s
    by_cases h4 : (m.runFor 4).outcome.isSome = true
    · rw [if_pos h4]
      have e : m.runFor (4 * (k + 1 + 1)) = m.runFor 4 := by
        rw [show 4 * (k + 1 + 1) = 4 + 4 * (k + 1) by omega, ← runFor_add, runFor_out h4]
      rw [e] at q
      exact wpAny_pure q
    · rw [if_neg h4]
      have e : (m.runFor 4).runFor (4 * (k + 1)) = m.runFor (4 * (k + 1 + 1)) := by
        rw [runFor_add]; congr 1; omega
      exact wpAny_bind (wpAny_rule (wp_reDrive k n (m.runFor 4) (by rw [e]; exact h) (by rw [e]; exact q)))
theorem wp_reRun {Q : Option Sre.M → Shared → Prop} {m : Sre.M} {b : Bool} (h : said (m.runFor 400) = some b) (q : Q (if b then some (m.runFor 400) else none) s) : wpAny M A (reRunToEnd m) Q E s := by
  have ho : (m.runFor 400).outcome.isSome = true := by
    unfold said at h
    cases e : (m.runFor 400).outcome with
    | none => rw [e] at h; exact absurd h (by simp)
    | some _ => rfl
  unfold reRunToEnd
  refine wpAny_bind ?_
  rw [show (2 : Nat) ^ 64 = (2 ^ 64 - 100) + (99 + 1) by decide]
  refine wp_reDrive 99 _ m ho ?_
  refine wpAny_bind (wpAny_forIn_list _ (fun _ _ s' => s' = s) _ (fun i _ _ s' e => ?_) (fun _ s' e => ?_) _ _ rfl)
  · subst e
    split
    · exact wpAny_bind (wpAny_rule (wpAny_pure rfl))
    · exact wpAny_pure rfl
  · subst e
    show wpAny M A (match (m.runFor 400).outcome with
      | some .matched => pure (some (m.runFor 400))
      | some .failed => pure none
      | some (.stuck why) => unsupported s!"_sre:{why}"
      | none => unsupported "internal:sre:no-outcome") Q E _
    unfold said at h
    cases e : (m.runFor 400).outcome with
    | none => rw [e] at h; exact absurd h (by simp)
    | some o =>
      rw [e] at h
      cases o with
      | matched => cases h; exact wpAny_pure q
      | failed => cases h; exact wpAny_pure q
      | stuck _ => exact absurd h (by simp)
end
end Mine
theorem Mine.offRx : True := by
  w_top off
  trivial
end
section
set_option maxRecDepth 100000
set_option Elab.async false
namespace Mine
open PySem PySem.W PyProof.Rows PySem.Calls
section
variable {prog : Program} {w : World} {M : Model} {A : Around} {E : Value → Shared → Prop} {s : Shared}
open PySem.Builtin.Re
def patObj (t : Value) (f : Value) (cd : Addr) : Obj := { cls := .type "re.Pattern", data := .fields #[t, f, .int 0 0, .none, .none, .ref cd, .int 0 0] }
def tupObj (its : Array Value) : Obj := { cls := .type "tuple", data := .seq its }
theorem wp_reTarget {p cd : Addr} {x : Str} {t : Tok} {tx fl : Value} {c : Array Nat} {its : Array Value} {Q : ReTarget → Shared → Prop} (hp : s.heap.get? p = some (patObj tx fl cd)) (hc : s.heap.get? cd = some (tupObj its))
    (hcode : (its.map reRawOf).map (·.toNat) = c)
    (q : Q { pattern := .ref p, string := .str x t, code := c, text := x.cps, kind := 0, groups := 0, pos := 0, lim := min (2 ^ 63 - 1) x.cps.size } s) :
    wpAny M A (reTarget "re.Pattern.search" "search" ⟨[.ref p, .str x t], []⟩) Q E s := by
  subst hcode
  unfold reTarget
  dsimp only
  refine wpAny_bind (wpAny_of_eq (show reNamed "re.Pattern.search" "search" ["string", "pos", "endpos"] 1 [Value.str x t] [] = pure [some (Value.str x t), none, none] from rfl) ?_)
  dsimp only
  refine wpAny_bind (wpAny_pure (wpAny_bind (wpAny_pure (wpAny_bind (wpAny_fieldsOf hp rfl (wpAny_bind ?_))))))
  refine wpAny_of_eq (show reTextOf (Value.str x t) = pure (x.cps, 0) from rfl) ?_
  show wpAny M A (if false = true then _ else _) Q E s
  rw [if_neg Bool.false_ne_true]
  show wpAny M A (if false = true then _ else _) Q E s
  rw [if_neg Bool.false_ne_true]
  refine wpAny_bind (wpAny_of_eq (show reNoCollectionInside (Value.str x t) 0 = pure ⟨⟩ from rfl) ?_)
  refine wpAny_bind ?_
  show wpAny M A (reRawItems (.ref cd)) _ E s
  unfold reRawItems
  refine wpAny_bind ?_
  unfold seqItems?
  refine wpAny_bind (wpAny_load hc ?_)
  exact wpAny_pure (wpAny_pure (wpAny_pure (by simpa [tupObj, patObj, reRawNat] using q)))
abbrev mtch (p : Addr) (x : Str) (t : Tok) (m : Sre.M) (T : Addr) : Obj := { cls := .type "re.Match", data := .fields #[.str x t, .ref p, rawInt 0, rawInt (min (2 ^ 63 - 1) x.cps.size : Nat), rawInt m.lastindex, .ref T] }
theorem push2 {h₀ h : Heap} {L : Addr} {m : Str → Option Value} {news : List (Addr × Obj)} (F : Fr h₀ L h m) (N : News h₀ L h news) (o1 o2 : Obj) (f1 : o1.isFreed = false) (f2 : o2.isFreed = false) :
    Fr h₀ L ((h.push o1).push o2) m ∧ News h₀ L ((h.push o1).push o2) (((h.push o1).objs.size, o2) :: news) :=
  ⟨(F.push _).push _, fun a ha => (News.push (F.push o1) (News.push F N o1 f1) o2 f2) a (by
      rcases List.mem_cons.mp ha with rfl | ha
      · exact .head _
      · exact .tail _ (.tail _ ha))⟩
theorem call_search {h₀ : Heap} {L : Addr} {m : Str → Option Value} {news : List (Addr × Obj)} {p cd : Addr} {x : Str} {t : Tok} {tx fl : Value} {c : Array Nat} {its : Array Value} {b : Bool} {Q : Value → Shared → Prop}
    (F : Fr h₀ L s.heap m) (N : News h₀ L s.heap news) (hp : s.heap.get? p = some (patObj tx fl cd)) (hc : s.heap.get? cd = some (tupObj its))
    (hcode : (its.map reRawOf).map (·.toNat) = c) (hf : found c x = some b)
    (q : match b with
      | true => ∀ M h' o, Fr h₀ L h' m → News h₀ L h' ((M, o) :: news) → o.cls = .type "re.Match" → Q (.ref M) { s with heap := h' }
      | false => Q .none s) :
    wpAny (model prog w) A (call (.builtin "re.Pattern.search") [.ref p, .str x t]) Q E s := by
  refine wpAny_call_entry slot_search ⟨_, hp, rfl⟩ entry_search ?_ (args_search _ _)
  show wpAny _ _ (do let t ← reTarget "re.Pattern.search" "search" ⟨[.ref p, .str x t], []⟩; reAnswer t (Sre.forSearch t.code t.text t.groups t.pos t.lim false)) _ _ _
  refine wpAny_bind (wp_reTarget hp hc hcode ?_)
  unfold reAnswer
  refine wpAny_bind (wp_reRun (b := b) hf ?_)
  cases b with
  | false => exact wpAny_pure ⟨_, rfl, q⟩
  | true =>
    show wpAny _ _ (do ret (← reNewMatch (.ref p) (.str x t) 0 0 _ _)) _ _ _
    refine wpAny_bind ?_
    unfold reNewMatch
    show wpAny _ _ (if false = true then _ else _) _ _ _
    rw [if_neg Bool.false_ne_true]
    refine wpAny_bind (wpAny_newTuple ?_ (Nat.le_of_ble_eq_true rfl))
    unfold newFields
    refine wpAny_newObj_type ?_ (Nat.le_of_ble_eq_true rfl)
    refine wpAny_pure ⟨_, rfl, ?_⟩
    have key : ∀ o1 o2 : Obj, o1.isFreed = false → o2.isFreed = false → o2.cls = .type "re.Match" → Q (.ref (s.heap.push o1).objs.size) { s with heap := (s.heap.push o1).push o2 } :=
      fun o1 o2 f1 f2 hc => q _ _ _ (push2 F N o1 o2 f1 f2).1 (push2 F N o1 o2 f1 f2).2 hc
    refine key _ _ ?_ ?_ ?_ <;> rfl
theorem truthy_match {a : Addr} {o : Obj} {Q : Bool → Shared → Prop} (ho : s.heap.get? a = some o) (hc : o.cls = .type "re.Match") (q : Q true s) : wpAny M A (truthy (.ref a)) Q E s := by
  unfold truthy
  dsimp only
  refine wpAny_bind ?_
  unfold callSpecial?
  refine wpAny_bind (wpAny_specialOf ⟨o, ho, hc⟩ match_nobool (wpAny_pure ?_))
  dsimp only
  refine wpAny_bind (wpAny_specialOf ⟨o, ho, hc⟩ match_nolen ?_)
  exact wpAny_pure q
end
end Mine
theorem Mine.offRx2 : True := by
  w_top off
  trivial
end
section
set_option maxRecDepth 100000
set_option Elab.async false
namespace Mine
open PySem PySem.W PyProof.Rows
def st1 (c : Nat) : Str := ⟨#[c]⟩
def stL (l : List Nat) : Str := ⟨l.toArray⟩
def ctl (c : Nat) : Bool := decide (c ≤ 31) || c == 127
theorem inset_nm {c : Nat} (h : ctl c = false) (seen : Sre.Seen) : ∃ s', Sre.inSet nmC c nmC.size 5 true seen = .ok (false, s') := by
  unfold ctl at h
  obtain ⟨h1, h2⟩ := Bool.or_eq_false_iff.mp h
  refine ⟨((seen.add 22).add 16).add 0, ?_⟩
  show (if (decide (0 ≤ c) && decide (c ≤ 31)) = true then (Except.ok (true, seen.add 22) : Except String (Bool × Sre.Seen)) else if (c == 127) = true then .ok (true, (seen.add 22).add 16) else .ok (false, ((seen.add 22).add 16).add 0)) = _
  rw [h1, Bool.and_false, if_neg Bool.false_ne_true, h2, if_neg Bool.false_ne_true]
theorem bits_vl : ∀ c, c < 256 → ctl c = false → (vlC.getD (5 + (1 + c / 32)) 0).testBit (c % 32) = false := by decide +kernel
theorem inset_vl {c : Nat} (h : ctl c = false) (seen : Sre.Seen) : ∃ s', Sre.inSet vlC c vlC.size 5 true seen = .ok (false, s') := by
  refine ⟨(seen.add 9).add 0, ?_⟩
  show (if (decide (c < 256) && (vlC.getD (5 + (1 + c / 32)) 0).testBit (c % 32)) = true then (Except.ok (true, seen.add 9) : Except String (Bool × Sre.Seen)) else .ok (false, (seen.add 9).add 0)) = _
  have : (decide (c < 256) && (vlC.getD (5 + (1 + c / 32)) 0).testBit (c % 32)) = false := by
    by_cases hc : c < 256
    · rw [bits_vl c hc h, Bool.and_false]
    · rw [decide_eq_false hc, Bool.false_and]
  rw [this, if_neg Bool.false_ne_true]
/-- no sign of the text lies in the set: the search fails -/
theorem admitted_none (m : Sre.M) (hin : ∀ s seen, s < m.lim → ∃ s', Sre.inSet m.code (m.text.getD s 0) m.code.size 5 true seen = .ok (false, s')) :
    ∀ fuel s seen, ∃ s', Sre.M.admitted m fuel s seen = .ok (none, s')
  | 0, s, seen => ⟨seen, rfl⟩
  | fuel + 1, s, seen => by
    show ∃ s', (if s ≥ m.lim then (Except.ok (none, seen) : Except String (Option Nat × Sre.Seen)) else _) = _
    by_cases h : s ≥ m.lim
    · rw [if_pos h]; exact ⟨seen, rfl⟩
    · rw [if_neg h]
      obtain ⟨s1, e⟩ := hin s seen (Nat.lt_of_not_le h)
      rw [e]
      exact admitted_none m hin fuel (s + 1) s1
theorem fails (m : Sre.M) (hf : m.hasFirstSet = true) (hfr : m.frames = []) (ho : m.outcome = none)
    (hin : ∀ s seen, s < m.lim → ∃ s', Sre.inSet m.code (m.text.getD s 0) m.code.size 5 true seen = .ok (false, s')) : said ((m.attemptFrom 0 true).runFor 400) = some false := by
  obtain ⟨s', e⟩ := admitted_none m hin (m.lim + 1 - 0) 0 m.seen
  have e1 : m.attemptFrom 0 true = { m with seen := s', answer := some false } := by
    unfold Sre.M.attemptFrom
    rw [hf, Bool.not_true, if_neg Bool.false_ne_true, e]
    rfl
  rw [e1]
  show said (if ({ m with seen := s', answer := some false } : Sre.M).outcome.isSome then _ else Sre.M.runFor 399 (Sre.M.step { m with seen := s', answer := some false })) = some false
  rw [if_neg (by show ¬ m.outcome.isSome = true; rw [ho]; exact Bool.false_ne_true)]
  have e2 : Sre.M.step { m with seen := s', answer := some false } = { m with seen := s', answer := some false, outcome := some .failed } := by
    unfold Sre.M.step
    rw [if_neg (by show ¬ m.outcome.isSome = true; rw [ho]; exact Bool.false_ne_true)]
    show (match some false, m.frames with
      | some yes, [] => ({ m with seen := s', answer := some false, outcome := some (if yes then .matched else .failed) } : Sre.M)
      | some yes, f :: rest => _
      | none, _ => _) = _
    rw [hfr]
    rfl
  rw [e2, runFor_out (by rfl)]
  rfl
theorem found_none {c : Array Nat} {x : Str} (h1 : (Sre.header c).1 = 1) (h2 : ((match Sre.ops[c.getD 0 0]? with | some .INFO => true | _ => false) && c.getD 2 0 == 4) = true) (hne : 0 < x.cps.size) (hfit : x.cps.size ≤ 2 ^ 63 - 1)
    (hin : ∀ s seen, s < x.cps.size → ∃ s', Sre.inSet c (x.cps.getD s 0) c.size 5 true seen = .ok (false, s')) : found c x = some false := by
  have hlim : min (2 ^ 63 - 1) x.cps.size = x.cps.size := Nat.min_eq_right hfit
  unfold found start Sre.forSearch
  rw [hlim, h1]
  have hc : (decide (0 > x.cps.size) || decide (x.cps.size - 0 < 1)) = false := by
    rw [decide_eq_false (by omega), decide_eq_false (by omega)]; rfl
  simp only []
  rw [hc, if_neg Bool.false_ne_true]
  exact fails _ h2 rfl rfl hin
theorem found_list {c : Array Nat} {l : List Nat} (h1 : (Sre.header c).1 = 1) (h2 : ((match Sre.ops[c.getD 0 0]? with | some .INFO => true | _ => false) && c.getD 2 0 == 4) = true) (hne : l ≠ []) (hfit : l.length ≤ 100)
    (hin : ∀ a ∈ l, ∀ seen, ∃ s', Sre.inSet c a c.size 5 true seen = .ok (false, s')) : found c (stL l) = some false := by
  refine found_none h1 h2 ?_ ?_ fun s seen hs => ?_
  · show 0 < l.toArray.size
    rw [List.size_toArray]; exact List.length_pos_iff.mpr hne
  · show l.toArray.size ≤ _
    rw [List.size_toArray]; exact Nat.le_trans hfit (by decide)
  · have hs' : s < l.length := by have h9 : s < l.toArray.size := hs; rw [List.size_toArray] at h9; exact h9
    have e : (stL l).cps.getD s 0 = l[s] := by
      show l.toArray.getD s 0 = _
      simp [Array.getD, hs']
    rw [e]
    exact hin _ (List.getElem_mem hs') seen
theorem miss_nm {l : List Nat} (hne : l ≠ []) (hfit : l.length ≤ 100) (h : ∀ a ∈ l, ctl a = false) : found nmC (stL l) = some false := found_list (by decide +kernel) (by decide +kernel) hne hfit fun a ha seen => inset_nm (h a ha) seen
theorem miss_vl {l : List Nat} (hne : l ≠ []) (hfit : l.length ≤ 100) (h : ∀ a ∈ l, ctl a = false) : found vlC (stL l) = some false := found_list (by decide +kernel) (by decide +kernel) hne hfit fun a ha seen => inset_vl (h a ha) seen
theorem hit_low : ∀ c, c ≤ 31 → found nmC (stL [c]) = some true := by decide +kernel
theorem hit_nm {c : Nat} (h : ctl c = true) : found nmC (stL [c]) = some true := by
  rcases (Bool.or_eq_true ..).mp h with h | h
  · exact hit_low c (of_decide_eq_true h)
  · rw [beq_iff_eq.mp h]; decide +kernel
end Mine
theorem Mine.offRx3 : True := by
  w_top off
  trivial
end
section
set_option maxRecDepth 100000
set_option Elab.async false
set_option maxHeartbeats 0
namespace Mine
open PySem PySem.W PyProof.Rows
structure Row where
  sign : Nat
  small : Nat
  fold : List Nat
deriving DecidableEq
def k0 (c : Nat) : Row := let small := if 65 ≤ c ∧ c ≤ 90 then c + 32 else c; ⟨c, small, [small]⟩
def k1 (r : Nat) : Row := let c := 128 + r; let small := if 192 ≤ c ∧ c ≤ 222 ∧ c ≠ 215 then c + 32 else c
  ⟨c, small, if c = 223 then [115, 115] else if c = 181 then [956] else [small]⟩
def styles : List Nat := [0, 1, 2, 4, 7, 8, 9, 10, 11, 12]
def k2 (i j : Nat) : Row := let c := 119808 + 52 * (styles.getD i 0) + j; ⟨c, c, [97 + j]⟩
def k3 (r : Nat) : Row := let c := 913 + r; let small := if c < 940 ∧ c ≠ 930 then c + 32 else c
  ⟨c, small, if c = 944 then [965, 776, 769] else if c = 962 then [963] else [small]⟩
def k4 (i p : Nat) : Row := let c := 120488 + 58 * i + p; ⟨c, c, [if p = 17 then 952 else 945 + p]⟩
def ligs : List (List Nat) := [[102, 102], [102, 105], [102, 108], [102, 102, 105], [102, 102, 108], [115, 116], [115, 116]]
def k5 (r : Nat) : Row := let c := 64256 + r; ⟨c, c, ligs.getD r []⟩
def k6 (r : Nat) : Row := let c := 1024 + r; let small := c + (if c < 1040 then 80 else if c < 1072 then 32 else 0); ⟨c, small, [small]⟩
/-- the kinds, each with its signs rising -/
def kinds : List (List Row) := [(List.range 128).map k0, (List.range 128).map k1, (List.range 10).flatMap fun i => (List.range 26).map (k2 i), (List.range 62).map k3,
  (List.range 5).flatMap fun i => (List.range 25).map (k4 i), (List.range 7).map k5, (List.range 96).map k6]
def rows : List Row := kinds.flatten
noncomputable def b3es (P : Params) : Array DictEntry := match (Mine.hd.heap_39 P).lookup 180 with
  | some ⟨_, _, .dict es _, _⟩ => es
  | _ => #[]
theorem b3_any (P P' : Params) : b3es P = b3es P' := by rfl
def P0 : Params := { strHash := fun _ => 0, shareClass := fun _ => 0, mergeTok := fun t => t, idOf := fun _ => 0, idOfShared := fun _ _ => 0, followText := fun _ => true, idOfImm := fun _ => 0 }
def keyOf (e : DictEntry) : Nat := match e.key with
  | .int (.ofNat k) _ => k
  | _ => 0
def strOf (e : DictEntry) : Str := match e.val with
  | .str s _ => s
  | _ => ⟨#[]⟩
def goodE (e : DictEntry) : Bool := (match e.key with | .int (.ofNat k) _ => decide (e.hash = hashInt k) | _ => false) && (match e.val with | .str s _ => s.length.ble 100 | _ => false)
/-- both lists rise by key: what stands at the key of each row, and what the row says -/
def pass : List DictEntry → List Row → Nat → Bool
  | _, [], _ => true
  | [], r :: rs, n => (match n with | 0 => false | n + 1 => Txt.lower (st1 r.sign) == stL r.fold && pass [] rs n)
  | e :: es, r :: rs, n => match n with
    | 0 => false
    | n + 1 => if (keyOf e).blt r.sign then pass es (r :: rs) n
      else if (keyOf e).beq r.sign then strOf e == stL r.fold && pass (e :: es) rs n
      else Txt.lower (st1 r.sign) == stL r.fold && pass (e :: es) rs n
def rising : List Nat → Bool
  | a :: b :: r => a.blt b && rising (b :: r)
  | _ => true
theorem rising_pw : ∀ l : List Nat, rising l = true → l.Pairwise (· < ·)
  | [], _ => .nil
  | [a], _ => .cons (fun _ h => nomatch h) .nil
  | a :: b :: r, h => by
    obtain ⟨h1, h2⟩ := (Bool.and_eq_true ..).mp h
    have h1 : a < b := by simpa [Nat.blt_eq] using h1
    have ih := rising_pw _ h2
    refine .cons (fun c hc => ?_) ih
    rcases List.mem_cons.mp hc with rfl | hc
    · exact h1
    · exact Nat.lt_trans h1 (List.rel_of_pairwise_cons ih hc)
def b3v (es : List DictEntry) (c : Nat) : Str := match es.find? fun e => (keyOf e).beq c with
  | some e => strOf e
  | none => Txt.lower (st1 c)
theorem b3v_skip {e : DictEntry} {es : List DictEntry} {c : Nat} (h : keyOf e ≠ c) : b3v (e :: es) c = b3v es c := by
  unfold b3v
  rw [List.find?_cons_of_neg (by rw [Nat.beq_eq]; exact h)]
theorem b3v_none {es : List DictEntry} {c : Nat} (h : ∀ e ∈ es, keyOf e ≠ c) : b3v es c = Txt.lower (st1 c) := by
  unfold b3v
  rw [List.find?_eq_none.mpr fun e he => by rw [Nat.beq_eq]; exact h e he]
theorem pass_sound : ∀ (n : Nat) (es : List DictEntry) (rs : List Row), pass es rs n = true → (es.map keyOf).Pairwise (· < ·) → (rs.map Row.sign).Pairwise (· < ·) → ∀ r ∈ rs, b3v es r.sign = stL r.fold
  | _, _, [], _, _, _, _, hr => nomatch hr
  | 0, [], _ :: _, h, _, _, _, _ => nomatch h
  | 0, _ :: _, _ :: _, h, _, _, _, _ => nomatch h
  | n + 1, [], r :: rs, h, he, hs, q, hq => by
    obtain ⟨h1, h2⟩ := (Bool.and_eq_true ..).mp h
    rcases List.mem_cons.mp hq with rfl | hq
    · rw [b3v_none fun e he => absurd he List.not_mem_nil]; exact beq_iff_eq.mp h1
    · exact pass_sound n [] rs h2 he (List.pairwise_cons.mp hs).2 q hq
  | n + 1, e :: es, r :: rs, h, he, hs, q, hq => by
    have h' : (if (keyOf e).blt r.sign then pass es (r :: rs) n
      else if (keyOf e).beq r.sign then strOf e == stL r.fold && pass (e :: es) rs n
      else Txt.lower (st1 r.sign) == stL r.fold && pass (e :: es) rs n) = true := h
    have hs' := List.pairwise_cons.mp hs
    have he' := List.pairwise_cons.mp he
    split at h'
    · next hlt =>
      rw [Nat.blt_eq] at hlt
      have hge : r.sign ≤ q.sign := by
        rcases List.mem_cons.mp hq with rfl | hq
        · exact Nat.le_refl _
        · exact Nat.le_of_lt (hs'.1 _ (List.mem_map_of_mem hq))
      rw [b3v_skip (by omega)]
      exact pass_sound n es (r :: rs) h' he'.2 hs q hq
    · next hlt =>
      split at h'
      · next heq =>
        obtain ⟨h1, h2⟩ := (Bool.and_eq_true ..).mp h'
        rcases List.mem_cons.mp hq with rfl | hq
        · unfold b3v
          rw [List.find?_cons_of_pos (p := fun e => (keyOf e).beq q.sign) heq]
          exact beq_iff_eq.mp h1
        · exact pass_sound n (e :: es) rs h2 he hs'.2 q hq
      · next heq =>
        obtain ⟨h1, h2⟩ := (Bool.and_eq_true ..).mp h'
        rcases List.mem_cons.mp hq with rfl | hq
        · have hgt : q.sign < keyOf e := by
            rw [Nat.blt_eq] at hlt; rw [Nat.beq_eq] at heq; omega
          rw [b3v_none fun e' hm => by
            rcases List.mem_cons.mp hm with rfl | hm
            · omega
            · have := he'.1 _ (List.mem_map_of_mem hm); omega]
          exact beq_iff_eq.mp h1
        · exact pass_sound n (e :: es) rs h2 he hs'.2 q hq
/-- the small signs that are not the sign itself, as rows of their own -/
def smalls (l : List Row) : List Row := (l.filter fun r => !(r.small.beq r.sign)).map fun r => ⟨r.small, r.small, r.fold⟩
def passes : List (List Row) := kinds ++ [smalls ((List.range 128).map k0), smalls ((List.range 128).map k1), smalls ((List.range 62).map k3), smalls (((List.range 96).take 16).map k6), smalls (((List.range 96).drop 16).map k6)]

theorem good_all : (b3es P0).toList.all goodE = true := by decide +kernel
theorem rise_es : rising ((b3es P0).toList.map keyOf) = true := by decide +kernel
theorem rise_rows : passes.all (fun k => rising (k.map Row.sign)) = true := by decide +kernel

theorem shifted_far {c : Nat} (h1 : 119808 ≤ c) (h2 : c ≤ 120777) : ∀ l : List (Nat × Nat × Nat), l.all (fun x => x.2.1.blt 119808 || (120777).blt x.1) = true → Unicode.shifted l c = none
  | [], _ => rfl
  | (a, b, t) :: r, h => by
    obtain ⟨x, y⟩ := (Bool.and_eq_true ..).mp h
    have ih := shifted_far h1 h2 r y
    unfold Unicode.shifted
    split
    · rfl
    · next ha =>
      rw [if_neg, ih]
      intro hb
      rcases (Bool.or_eq_true ..).mp x with x | x
      · rw [Nat.blt_eq] at x; dsimp only at x; omega
      · rw [Nat.blt_eq] at x; dsimp only at x; omega
theorem far_one : UnicodeData.oneLower.all (fun x => x.2.1.blt 119808 || (120777).blt x.1) = true := by decide +kernel
theorem far_several {c : Nat} (h1 : 119808 ≤ c) : UnicodeData.severalLower.lookup c = none := by
  have : UnicodeData.severalLower.all (fun x => x.1.blt 119808) = true := by decide +kernel
  generalize UnicodeData.severalLower = l at this
  induction l with
  | nil => rfl
  | cons p r ih =>
    obtain ⟨x, y⟩ := (Bool.and_eq_true ..).mp this
    rw [Nat.blt_eq] at x
    rw [List.lookup_cons, show (c == p.1) = false from beq_eq_false_iff_ne.mpr (by omega)]
    exact ih y
theorem pass_all : passes.all (fun k => pass (b3es P0).toList k 2000) = true := by decide +kernel
theorem low_far (c : Nat) (h1 : 119808 ≤ c) (h2 : c ≤ 120777) : Txt.lower (st1 c) = st1 c := by
  have e : Unicode.lowerAt #[c] 0 = [c] := by
    show (if (c == 0x3A3 && Unicode.endsWord #[c] 0) = true then [0x3C2] else Unicode.lowerOf c) = [c]
    rw [show (c == 0x3A3) = false from beq_eq_false_iff_ne.mpr (by omega), Bool.false_and, if_neg Bool.false_ne_true]
    unfold Unicode.lowerOf Unicode.image
    rw [far_several h1, shifted_far h1 h2 _ far_one]
    rfl
  show (⟨#[(Unicode.lowerAt #[c] 0).toArray].flatten⟩ : Str) = ⟨#[c]⟩
  rw [e]
  rfl

theorem lows1 : ((List.range 128).map k0 ++ (List.range 128).map k1 ++ (List.range 62).map k3 ++ (List.range 7).map k5 ++ (List.range 96).map k6).all (fun r => Txt.lower (st1 r.sign) == st1 r.small && Txt.lower (stL r.fold) == stL r.fold) = true := by decide +kernel
theorem lows2 : ((List.range 26).all (fun j => Txt.lower (st1 (97 + j)) == st1 (97 + j)) && (List.range 25).all (fun p => Txt.lower (st1 (945 + p)) == st1 (945 + p))) = true := by decide +kernel
theorem folds : rows.all (fun r => r.fold != [] && r.fold.length.ble 3 && (if ctl r.sign then r.small == r.sign && r.fold == [r.sign] else r.fold.all (fun c => !ctl c) && !ctl r.small)) = true := by decide +kernel

theorem mem_kinds {r : Row} : r ∈ rows ↔ ∃ k ∈ kinds, r ∈ k := List.mem_flatten
theorem passed {k : List Row} (hk : k ∈ passes) {r : Row} (hr : r ∈ k) : b3v (b3es P0).toList r.sign = stL r.fold :=
  pass_sound 2000 _ k (List.all_eq_true.mp pass_all k hk) (rising_pw _ rise_es) (rising_pw _ (List.all_eq_true.mp rise_rows k hk)) r hr
theorem b3_sign {r : Row} (hr : r ∈ rows) : b3v (b3es P0).toList r.sign = stL r.fold := by
  obtain ⟨k, hk, hr⟩ := mem_kinds.mp hr
  exact passed (List.mem_append_left _ hk) hr
theorem b3_smalls {l k : List Row} {r : Row} (hl : smalls l ∈ passes) (hk : k ∈ kinds) (hsub : ∀ r ∈ l, r ∈ k) (hr : r ∈ l) : b3v (b3es P0).toList r.small = stL r.fold := by
  by_cases h : r.small.beq r.sign = true
  · rw [Nat.beq_eq.mp h]; exact b3_sign (mem_kinds.mpr ⟨k, hk, hsub r hr⟩)
  · exact passed (r := ⟨r.small, r.small, r.fold⟩) hl (List.mem_map.mpr ⟨r, List.mem_filter.mpr ⟨hr, by rw [Bool.not_eq_true] at h; rw [h]; rfl⟩, rfl⟩)
theorem b3_small {r : Row} (hr : r ∈ rows) : b3v (b3es P0).toList r.small = stL r.fold := by
  obtain ⟨k, hk, hr'⟩ := mem_kinds.mp hr
  have hk' := hk
  simp only [kinds, List.mem_cons, List.not_mem_nil, or_false] at hk'
  rcases hk' with rfl | rfl | rfl | rfl | rfl | rfl | rfl
  · exact b3_smalls (by simp [passes]) hk (fun _ h => h) hr'
  · exact b3_smalls (by simp [passes]) hk (fun _ h => h) hr'
  · obtain ⟨i, hi, h⟩ := List.mem_flatMap.mp hr'
    obtain ⟨j, hj, rfl⟩ := List.mem_map.mp h
    exact b3_sign hr
  · exact b3_smalls (by simp [passes]) hk (fun _ h => h) hr'
  · obtain ⟨i, hi, h⟩ := List.mem_flatMap.mp hr'
    obtain ⟨j, hj, rfl⟩ := List.mem_map.mp h
    exact b3_sign hr
  · obtain ⟨j, hj, rfl⟩ := List.mem_map.mp hr'
    exact b3_sign hr
  · have : r ∈ ((List.range 96).take 16).map k6 ∨ r ∈ ((List.range 96).drop 16).map k6 := by
      rw [← List.mem_append, ← List.map_append, List.take_append_drop]; exact hr'
    rcases this with h | h
    · exact b3_smalls (by simp [passes]) hk (fun r hr => by obtain ⟨j, hj, rfl⟩ := List.mem_map.mp hr; exact List.mem_map_of_mem (List.mem_of_mem_take hj)) h
    · exact b3_smalls (by simp [passes]) hk (fun r hr => by obtain ⟨j, hj, rfl⟩ := List.mem_map.mp hr; exact List.mem_map_of_mem (List.mem_of_mem_drop hj)) h
theorem stL_inj {a b : List Nat} (h : stL a = stL b) : a = b := by
  have : a.toArray = b.toArray := congrArg Str.cps h
  simpa using this
theorem st1_inj {a b : Nat} (h : st1 a = st1 b) : a = b := by
  have := stL_inj (a := [a]) (b := [b]) h
  simpa using this
theorem fold_of_small {r q : Row} (hr : r ∈ rows) (hq : q ∈ rows) (h : r.small = q.small) : r.fold = q.fold :=
  stL_inj ((b3_small hr).symm.trans (h ▸ b3_small hq))
theorem lower_row {r : Row} (hr : r ∈ rows) : Txt.lower (st1 r.sign) = st1 r.small ∧ Txt.lower (stL r.fold) = stL r.fold := by
  have key : ∀ l, l ∈ kinds → (∀ r ∈ l, (Txt.lower (st1 r.sign) == st1 r.small && Txt.lower (stL r.fold) == stL r.fold) = true) → r ∈ l → Txt.lower (st1 r.sign) = st1 r.small ∧ Txt.lower (stL r.fold) = stL r.fold := fun l _ h hr => by
    obtain ⟨a, b⟩ := (Bool.and_eq_true ..).mp (h r hr)
    exact ⟨beq_iff_eq.mp a, beq_iff_eq.mp b⟩
  have L := List.all_eq_true.mp lows1
  obtain ⟨l2, l3⟩ := (Bool.and_eq_true ..).mp lows2
  obtain ⟨k, hk, hr'⟩ := mem_kinds.mp hr
  have hk' := hk
  simp only [kinds, List.mem_cons, List.not_mem_nil, or_false] at hk'
  rcases hk' with rfl | rfl | rfl | rfl | rfl | rfl | rfl
  · exact key _ hk (fun r hr => L r (by simp only [List.mem_append]; exact .inl (.inl (.inl (.inl hr))))) hr'
  · exact key _ hk (fun r hr => L r (by simp only [List.mem_append]; exact .inl (.inl (.inl (.inr hr))))) hr'
  · obtain ⟨i, hi, h⟩ := List.mem_flatMap.mp hr'
    obtain ⟨j, hj, rfl⟩ := List.mem_map.mp h
    have hi := List.mem_range.mp hi
    have hj := List.mem_range.mp hj
    have hst : ∀ i, i < 10 → styles.getD i 0 ≤ 12 := by decide +kernel
    have := hst i hi
    exact ⟨low_far _ (by show 119808 ≤ 119808 + 52 * _ + j; omega) (by show 119808 + 52 * _ + j ≤ _; omega), beq_iff_eq.mp (List.all_eq_true.mp l2 j (List.mem_range.mpr hj))⟩
  · exact key _ hk (fun r hr => L r (by simp only [List.mem_append]; exact .inl (.inl (.inr hr)))) hr'
  · obtain ⟨i, hi, h⟩ := List.mem_flatMap.mp hr'
    obtain ⟨p, hp, rfl⟩ := List.mem_map.mp h
    have hi := List.mem_range.mp hi
    have hp := List.mem_range.mp hp
    refine ⟨low_far _ (by show 119808 ≤ 120488 + 58 * i + p; omega) (by show 120488 + 58 * i + p ≤ _; omega), ?_⟩
    show Txt.lower (st1 (if p = 17 then 952 else 945 + p)) = st1 (if p = 17 then 952 else 945 + p)
    split
    · exact beq_iff_eq.mp (List.all_eq_true.mp l3 7 (by decide))
    · exact beq_iff_eq.mp (List.all_eq_true.mp l3 p (List.mem_range.mpr hp))
  · exact key _ hk (fun r hr => L r (by simp only [List.mem_append]; exact .inl (.inr hr))) hr'
  · exact key _ hk (fun r hr => L r (by simp only [List.mem_append]; exact .inr hr)) hr'
theorem fold_row {r : Row} (hr : r ∈ rows) : r.fold ≠ [] ∧ r.fold.length ≤ 3 ∧ (ctl r.sign = true → r.small = r.sign ∧ r.fold = [r.sign]) ∧ (ctl r.sign = false → (∀ c ∈ r.fold, ctl c = false) ∧ ctl r.small = false) := by
  have h := List.all_eq_true.mp folds r hr
  simp only [Bool.and_eq_true] at h
  obtain ⟨⟨h1, h2⟩, h3⟩ := h
  refine ⟨by simpa using h1, by simpa [Nat.ble_eq] using h2, fun hc => ?_, fun hc => ?_⟩
  · rw [if_pos hc] at h3
    simpa using h3
  · rw [hc, if_neg Bool.false_ne_true] at h3
    simpa using h3
end Mine
theorem Mine.offPl : True := by
  w_top off
  trivial
end
section
set_option maxRecDepth 100000
set_option Elab.async false
set_option maxHeartbeats 0
namespace Mine
open PySem PySem.W PyProof.Rows PySem.Calls
noncomputable def b3o : Obj := match (Mine.hd.heap_39 P0).lookup 180 with | some o => o | none => { cls := .none, data := .plain }
theorem b3_lookup (P : Params) : (Mine.hd.heap_39 P).lookup 180 = some b3o := by kernel_rfl
theorem b3o_cls : b3o.cls = .type "dict" := by kernel_rfl
theorem b3o_dict : b3o.dict = none := by kernel_rfl
theorem b3o_slots : b3o.slots = #[] := by kernel_rfl
noncomputable def b3n : Nat := match b3o.data with | .dict _ n => n | _ => 0
theorem b3o_data : b3o.data = .dict (b3es P0) b3n := by kernel_rfl
theorem find_ext {α : Type} {p q : α → Bool} : ∀ {l : List α}, (∀ x ∈ l, p x = q x) → l.find? p = l.find? q
  | [], _ => rfl
  | x :: r, h => by
    rw [List.find?_cons, List.find?_cons, h x (.head _), find_ext fun y hy => h y (.tail _ hy)]
noncomputable def b3f (k : Int) : Option Value := findBy Value.isInt (b3es P0) k
theorem goodE_key {e : DictEntry} (h : goodE e = true) : ∃ k t, e.key = .int (Int.ofNat k) t ∧ e.hash = hashInt (Int.ofNat k) ∧ ∃ s t', e.val = .str s t' ∧ s.length ≤ 100 := by
  unfold goodE at h
  obtain ⟨h1, h2⟩ := (Bool.and_eq_true ..).mp h
  split at h1
  · next k t hk =>
    split at h2
    · next s t' hv =>
      exact ⟨k, t, hk, of_decide_eq_true h1, s, t', hv, Nat.le_of_ble_eq_true h2⟩
    · exact absurd h2 Bool.false_ne_true
  · exact absurd h1 Bool.false_ne_true
theorem good_mem {e : DictEntry} (h : e ∈ (b3es P0).toList) : goodE e = true := List.all_eq_true.mp good_all e h
theorem b3_map {h : Heap} (e : h.get? 180 = some b3o) : h.IntMap 180 b3f :=
  ⟨b3o, _, _, e, b3o_cls, b3o_data, fun e he => by
    obtain ⟨k, t, h1, h2, _⟩ := goodE_key (good_mem (Array.mem_def.mp he))
    exact ⟨_, t, h1, h2⟩, fun k => rfl⟩
theorem b3f_some {c : Nat} {v : Value} (h : b3f (Int.ofNat c) = some v) : ∃ t, v = .str (b3v (b3es P0).toList c) t ∧ (b3v (b3es P0).toList c).length ≤ 100 := by
  unfold b3f findBy at h
  rw [← Array.find?_toList] at h
  obtain ⟨e, he, rfl⟩ := Option.map_eq_some_iff.mp h
  have hm := List.mem_of_find?_eq_some he
  obtain ⟨k, t, h1, _, s, t', h3, h4⟩ := goodE_key (good_mem hm)
  have heq : ((b3es P0).toList.find? fun e => (keyOf e).beq c) = some e := by
    rw [← he]
    refine find_ext fun x hx => ?_
    obtain ⟨k, t, h1, _⟩ := goodE_key (good_mem hx)
    unfold keyOf Value.isInt
    rw [h1]
    dsimp only
    by_cases hkc : k = c
    · subst hkc; simp
    · rw [show (k.beq c) = false from by rw [← Bool.not_eq_true, Nat.beq_eq]; exact hkc]
      exact (beq_eq_false_iff_ne.mpr fun q => hkc (Int.ofNat.inj q)).symm
  unfold b3v
  rw [heq]
  have : strOf e = s := by unfold strOf; rw [h3]
  rw [h3]
  dsimp only
  rw [this]
  exact ⟨t', rfl, h4⟩
theorem b3f_none {c : Nat} (h : b3f (Int.ofNat c) = none) : b3v (b3es P0).toList c = Txt.lower (st1 c) := by
  unfold b3f findBy at h
  rw [← Array.find?_toList, Option.map_eq_none_iff, List.find?_eq_none] at h
  refine b3v_none fun e he hk => h e he ?_
  obtain ⟨k, t, h1, _⟩ := goodE_key (good_mem he)
  unfold keyOf at hk
  unfold Value.isInt
  rw [h1] at hk ⊢
  dsimp only at hk ⊢
  rw [hk]
  exact beq_self_eq_true _
section
variable {prog : Program} {w : World} {A : Around} {E : Value → Shared → Prop} {s : Shared} {P : Params}
theorem b3_get {h₀ : Heap} (X : (Mine.hd.heap_39 P).In h₀) (k : ∀ b o, h₀.get? b = some o → s.heap.get? b = some o) : s.heap.get? 180 = some b3o := k _ _ (X _ _ (b3_lookup P))
theorem gm_b3 {pl : Sem Bool} {Q : Value × List Value → Shared → Prop} (e : s.heap.get? 180 = some b3o) (q : Q (.builtin "dict.get", [.ref 180]) s) : wpAny (model prog w) A (getMethod (.ref 180) "get" pl) Q E s :=
  getMethod_builtin ⟨b3o, e, b3o_cls⟩ PySem.F.plainAttrs_dict PySem.F.slot_dict_get PySem.F.type_dict_get (fun b hb => by cases hb; exact ⟨_, e, b3o_dict⟩) q
theorem call_b3 {c : Nat} {t : Tok} {Q : Value → Shared → Prop} (e : s.heap.get? 180 = some b3o)
    (q1 : ∀ t, (b3v (b3es P0).toList c).length ≤ 100 → Q (.str (b3v (b3es P0).toList c) t) { s with toks := s.toks + 1 })
    (q2 : b3v (b3es P0).toList c = Txt.lower (st1 c) → Q .none { s with toks := s.toks + 1 }) : wpAny (model prog w) A (call (.builtin "dict.get") [.ref 180, .int (Int.ofNat c) t]) Q E s := by
  refine call_meetsIn PySem.F.slot_dict_get ⟨b3o, e, b3o_cls⟩ PySem.F.entry_dict_get (PySem.F.args_dict_get_2 _ _) (meets_dict_get (intKind prog w) 180 (k := Int.ofNat c) ?_ (by decide)) ⟨b3f, (b3_map e).mapOf fun o ho => ?_, ?_⟩
  · exact intKind_is prog w _ _
  · rw [e] at ho; cases ho; exact ⟨b3o_dict, b3o_slots⟩
  · cases hf : b3f (Int.ofNat c) with
    | none => exact q2 (b3f_none hf)
    | some v =>
      obtain ⟨t, rfl, hl⟩ := b3f_some hf
      exact q1 t hl
end
end Mine
theorem Mine.offB3 : True := by
  w_top off
  trivial
end
section
set_option maxRecDepth 100000
set_option Elab.async false
set_option maxHeartbeats 0
namespace Mine
open PySem PySem.W PyProof.Rows PySem.Calls
local macro_rules | `(tactic| walk_at "getMethod ref") => `(tactic| ((with_reducible rename Fr _ _ _ _ => kF); refine gm_b3 (b3_get (P := _) (by assumption) kF.keep) ?_))
local macro_rules | `(tactic| walk_at "call builtin:dict.get") => `(tactic| ((with_reducible rename Fr _ _ _ _ => kF); refine call_b3 (b3_get (P := _) (by assumption) kF.keep) ?_ ?_))
theorem st1_short (c : Nat) : (st1 c).length ≤ 5592405 := by show 1 ≤ 5592405; decide
local macro_rules | `(tactic| walk_at "call builtin:str.lower") => `(tactic| (refine SCL.lower (st1_short _) ?_; intro kLow))
theorem c_b3 {w : World} {mean : ExcName → Option Value} {mg mb : Str → Option Value}
  {dp un : Nat} {gd : Option (List Code)} {cn : Str} {cs : Scope} {a : Addr} {ccd : Value} {cl : List (Str × Addr)} {outer : List Env} {A₀ : Around} {base h₀ : Heap} {L : Addr} {m : Str → Option Value} {news : List (Addr × Obj)} {s : Shared}
    {Q E : Value → Shared → Prop} {c : Nat} {t : Tok}
    (B : Below A₀ base outer h₀) (F : Fr h₀ L s.heap m) (X : (Mine.hd.heap_39 w.params).In h₀) (N : News h₀ L s.heap news) (T : Top Mine.qT (looseW Mine.qT Mine.looseT) mean mg mb h₀) (hk : cs.kind = .function) (hd : dp + 1 < recursionLimit) (_hu : un + 8 < cLine)
    (ret : ∀ t' h' tk', Fr h₀ L h' m → News h₀ L h' news → Q (.str (b3v (b3es P0).toList c) t') { s with heap := h', toks := tk' }) :
    wpAny (model PySem.Challenge.rw_pe0279_01.row.prog w) (ktrTop dp un gd cn cs L a ccd cl outer) (call (.ref 225) [.str (st1 c) t]) Q E s := by
  revert X; k_fill; intro X
  refine wpAny_call ?_
  k_dflt ktr_enter
  k_steps
  · exact ret _ _ _ (by k_asm) (by k_asm)
  · rw [← (by assumption : b3v (b3es P0).toList c = Txt.lower (st1 c))]
    exact ret _ _ _ (by k_asm) (by k_asm)
end Mine
theorem Mine.offC1 : True := by
  w_top off
  trivial
end
section
set_option maxRecDepth 100000
set_option Elab.async false
set_option maxHeartbeats 0
namespace Mine
local macro_rules | `(tactic| walk_at "none such") => `(tactic| skip)
open PySem PySem.W PyProof.Rows PySem.Calls

noncomputable def flds (a : Addr) : Array Value := match (Mine.hd.heap_39 P0).lookup a with
  | some ⟨_, _, .fields vs, _⟩ => vs
  | _ => #[]
noncomputable def seqs (a : Addr) : Array Value := match (Mine.hd.heap_39 P0).lookup a with
  | some ⟨_, _, .seq vs _, _⟩ => vs
  | _ => #[]
theorem pat_nm (P : Params) : (Mine.hd.heap_39 P).lookup 41 = some (patObj ((flds 41).getD 0 .none) ((flds 41).getD 1 .none) 40) := by kernel_rfl
theorem cod_nm (P : Params) : (Mine.hd.heap_39 P).lookup 40 = some (tupObj (seqs 40)) := by kernel_rfl
theorem nums_nm : ((seqs 40).map PySem.Builtin.Re.reRawOf).map (·.toNat) = nmC := by kernel_rfl
theorem pat_vl (P : Params) : (Mine.hd.heap_39 P).lookup 46 = some (patObj ((flds 46).getD 0 .none) ((flds 46).getD 1 .none) 45) := by kernel_rfl
theorem cod_vl (P : Params) : (Mine.hd.heap_39 P).lookup 45 = some (tupObj (seqs 45)) := by kernel_rfl
theorem nums_vl : ((seqs 45).map PySem.Builtin.Re.reRawOf).map (·.toNat) = vlC := by kernel_rfl
section
variable {prog : Program} {w : World} {A : Around} {E : Value → Shared → Prop} {s : Shared} {P : Params} {h₀ g : Heap} {L : Addr} {m : Str → Option Value} {news : List (Addr × Obj)} {x : Str} {t : Tok}
theorem gm_nm {pl : Sem Bool} {Q : Value × List Value → Shared → Prop} (F : Fr h₀ L s.heap m) (X : (Mine.hd.heap_39 P).In h₀) (q : Q (.builtin "re.Pattern.search", [.ref 41]) s) : wpAny (model prog w) A (getMethod (.ref 41) "search" pl) Q E s :=
  getMethod_builtin ⟨_, F.keep _ _ (X _ _ (pat_nm P)), rfl⟩ plainAttrs_pat slot_search type_search (fun b hb => by cases hb; exact ⟨_, F.keep _ _ (X _ _ (pat_nm P)), rfl⟩) q
theorem gm_vl {pl : Sem Bool} {Q : Value × List Value → Shared → Prop} (F : Fr h₀ L s.heap m) (X : (Mine.hd.heap_39 P).In h₀) (q : Q (.builtin "re.Pattern.search", [.ref 46]) s) : wpAny (model prog w) A (getMethod (.ref 46) "search" pl) Q E s :=
  getMethod_builtin ⟨_, F.keep _ _ (X _ _ (pat_vl P)), rfl⟩ plainAttrs_pat slot_search type_search (fun b hb => by cases hb; exact ⟨_, F.keep _ _ (X _ _ (pat_vl P)), rfl⟩) q
theorem miss_41 {Q : Value → Shared → Prop} (hf : found nmC x = some false) (F : Fr h₀ L s.heap m) (N : News h₀ L s.heap news) (X : (Mine.hd.heap_39 P).In h₀) (q : Q .none s) : wpAny (model prog w) A (call (.builtin "re.Pattern.search") [.ref 41, .str x t]) Q E s :=
  call_search (b := false) F N (F.keep _ _ (X _ _ (pat_nm P))) (F.keep _ _ (X _ _ (cod_nm P))) nums_nm hf q
theorem hit_41 {Q : Value → Shared → Prop} (hf : found nmC x = some true) (F : Fr h₀ L s.heap m) (N : News h₀ L s.heap news) (X : (Mine.hd.heap_39 P).In h₀) (q : ∀ M h' o, Fr h₀ L h' m → News h₀ L h' ((M, o) :: news) → o.cls = .type "re.Match" → Q (.ref M) { s with heap := h' }) :
    wpAny (model prog w) A (call (.builtin "re.Pattern.search") [.ref 41, .str x t]) Q E s :=
  call_search (b := true) F N (F.keep _ _ (X _ _ (pat_nm P))) (F.keep _ _ (X _ _ (cod_nm P))) nums_nm hf q
theorem miss_46 {Q : Value → Shared → Prop} (hf : found vlC x = some false) (F : Fr h₀ L s.heap m) (N : News h₀ L s.heap news) (X : (Mine.hd.heap_39 P).In h₀) (q : Q .none s) : wpAny (model prog w) A (call (.builtin "re.Pattern.search") [.ref 46, .str x t]) Q E s :=
  call_search (b := false) F N (F.keep _ _ (X _ _ (pat_vl P))) (F.keep _ _ (X _ _ (cod_vl P))) nums_vl hf q
end
local macro_rules | `(tactic| walk_at "getMethod ref") => `(tactic| first | refine gm_nm (by assumption) (by assumption) ?_ | refine gm_vl (by assumption) (by assumption) ?_)
local macro_rules | `(tactic| walk_at "call builtin:re.Pattern.search") => `(tactic| first | refine miss_41 (by assumption) (by assumption) (by assumption) (by assumption) ?_ | refine miss_46 (by assumption) (by assumption) (by assumption) (by assumption) ?_ | (refine hit_41 (by assumption) (by assumption) (by assumption) (by assumption) ?_; intro kM kh ko kF kN kc))
local macro_rules | `(tactic| walk_at "truthy ref") => `(tactic| (refine truthy_match ((by assumption : News _ _ _ _).get (.head _)) (by assumption) ?_))
theorem RaisedS_sub {base G : Heap} {l : List Env} {e : Addr} {cls : Value} {t : Addr} {vs : List Value} {news news' : List (Addr × Obj)} {h : Heap} (R : RaisedS base G l e cls t vs news h) (hs : ∀ p ∈ news', p ∈ news) : RaisedS base G l e cls t vs news' h := by
  obtain ⟨⟨B, h1, h2, h3, h4, h5⟩, h6⟩ := R
  exact ⟨⟨B, h1, h2, fun q hq => h3 q (hs q hq), h4, h5⟩, h6⟩
theorem c_conv {w : World} {mean : ExcName → Option Value} {mg mb : Str → Option Value}
  {dp un : Nat} {gd : Option (List Code)} {cn : Str} {cs : Scope} {a : Addr} {ccd : Value} {cl : List (Str × Addr)} {outer : List Env} {A₀ : Around} {base h₀ : Heap} {L : Addr} {m : Str → Option Value} {news : List (Addr × Obj)} {s : Shared}
    {R : Result → Shared → Prop} {x : Str} {t : Tok} {self : Value} (hx : found nmC x = some false)
    (B : Below A₀ base outer h₀) (F : Fr h₀ L s.heap m) (X : (Mine.hd.heap_39 w.params).In h₀) (N : News h₀ L s.heap news) (T : Top Mine.qT (looseW Mine.qT Mine.looseT) mean mg mb h₀) (hk : cs.kind = .function) (hd : dp + 1 < recursionLimit) (_hu : un + 8 < cLine)
    (ret : ∀ h' tk', Fr h₀ L h' m → News h₀ L h' news → R (.ok (.ret (.str x t))) { s with heap := h', toks := tk' }) :
    codeAny (model PySem.Challenge.rw_pe0279_01.row.prog w) (ktrTop dp un gd cn cs L a ccd cl outer) (.call (.ref 76) ⟨[self, .str x t], [("name", .bool true)]⟩) R s := by
  revert X; k_fill; intro X
  k_dflt ktr_enter
  k_steps
  · exact ret _ _ (by k_asm) (by k_asm)
theorem c_convV {w : World} {mean : ExcName → Option Value} {mg mb : Str → Option Value}
  {dp un : Nat} {gd : Option (List Code)} {cn : Str} {cs : Scope} {a : Addr} {ccd : Value} {cl : List (Str × Addr)} {outer : List Env} {A₀ : Around} {base h₀ : Heap} {L : Addr} {m : Str → Option Value} {news : List (Addr × Obj)} {s : Shared}
    {R : Result → Shared → Prop} {x : Str} {t : Tok} {self : Value} (hx : found vlC x = some false)
    (B : Below A₀ base outer h₀) (F : Fr h₀ L s.heap m) (X : (Mine.hd.heap_39 w.params).In h₀) (N : News h₀ L s.heap news) (T : Top Mine.qT (looseW Mine.qT Mine.looseT) mean mg mb h₀) (hk : cs.kind = .function) (hd : dp + 1 < recursionLimit) (_hu : un + 8 < cLine)
    (ret : ∀ h' tk', Fr h₀ L h' m → News h₀ L h' news → R (.ok (.ret (.str x t))) { s with heap := h', toks := tk' }) :
    codeAny (model PySem.Challenge.rw_pe0279_01.row.prog w) (ktrTop dp un gd cn cs L a ccd cl outer) (.call (.ref 76) ⟨[self, .str x t], [("name", .bool false)]⟩) R s := by
  revert X; k_fill; intro X
  k_dflt ktr_enter
  k_steps
  · exact ret _ _ (by k_asm) (by k_asm)
local macro_rules | `(tactic| walk_at "leaving ref") => `(tactic| (refine leave_raiseS (by assumption) (Heap.MadeExc.of (by assumption)) (by assumption) (by assumption) ?_; intro kh kt kR kR2 kU))
theorem c_convX {w : World} {mean : ExcName → Option Value} {mg mb : Str → Option Value}
  {dp un : Nat} {gd : Option (List Code)} {cn : Str} {cs : Scope} {a : Addr} {ccd : Value} {cl : List (Str × Addr)} {outer : List Env} {A₀ : Around} {base h₀ : Heap} {L : Addr} {m : Str → Option Value} {news : List (Addr × Obj)} {s : Shared}
    {R : Result → Shared → Prop} {x : Str} {t : Tok} {self : Value} (hx : found nmC x = some true)
    (B : Below A₀ base outer h₀) (F : Fr h₀ L s.heap m) (X : (Mine.hd.heap_39 w.params).In h₀) (N : News h₀ L s.heap news) (T : Top Mine.qT (looseW Mine.qT Mine.looseT) mean mg mb h₀) (hk : cs.kind = .function) (hd : dp + 1 < recursionLimit) (_hu : un + 8 < cLine)
    (rai : ∀ e et vs g h' tk', Fr h₀ L g m → RaisedS base g (envX cn cs L a ccd cl :: outer) e (.type "ValueError") et vs news h' → g.UpToSlots h' → R (.error (.ref e)) { s with heap := h', toks := tk' }) :
    codeAny (model PySem.Challenge.rw_pe0279_01.row.prog w) (ktrTop dp un gd cn cs L a ccd cl outer) (.call (.ref 76) ⟨[self, .str x t], [("name", .bool true)]⟩) R s := by
  revert X; k_fill; intro X
  k_dflt ktr_enter
  k_steps
  exact rai _ _ _ _ _ _ (by assumption) (RaisedS_sub (by assumption) fun p hp => .tail _ hp) (by assumption)
end Mine
theorem Mine.offC2 : True := by
  w_top off
  trivial
end
section
set_option maxRecDepth 100000
set_option Elab.async false
namespace Mine
open PySem PySem.W PyProof.Rows PySem.Calls PySem.Spec PyProof.Rows.LCg
section
variable {prog : Program} {w : World} {A : Around} {E : Value → Shared → Prop} {s : Shared} {h₀ : Heap} {env : Env}
def TurnP (h₀ : Heap) (L : Addr) (I : Addr) (oI : Obj) (s₁ : Shared) (J : (Str → Option Value) → List (Addr × Obj) → Prop) (Q : Flow → Shared → Prop) (f : Flow) (s₃ : Shared) : Prop := match f with
  | .next => ∃ h' tk m' news', s₃ = { s₁ with heap := h', toks := tk } ∧ Fr h₀ L h' m' ∧ News h₀ L h' ((I, oI) :: news') ∧ (∀ p ∈ news', p.1 ≠ I) ∧ J m' news'
  | .cont => ∃ h' tk m' news', s₃ = { s₁ with heap := h', toks := tk } ∧ Fr h₀ L h' m' ∧ News h₀ L h' ((I, oI) :: news') ∧ (∀ p ∈ news', p.1 ≠ I) ∧ J m' news'
  | .brk => Q .next s₃
  | .ret v => Q (.ret v) s₃
theorem TurnP.intro {L I : Addr} {oI : Obj} {s₁ : Shared} {J : (Str → Option Value) → List (Addr × Obj) → Prop} {Q : Flow → Shared → Prop} {h' : Heap} {tk : Nat} {m' : Str → Option Value} {news' : List (Addr × Obj)}
    (F : Fr h₀ L h' m') (N : News h₀ L h' ((I, oI) :: news')) (off : ∀ p ∈ news', p.1 ≠ I) (j : J m' news') : TurnP h₀ L I oI s₁ J Q .next { s₁ with heap := h', toks := tk } := ⟨h', tk, m', news', rfl, F, N, off, j⟩
def ForAt (prog : Program) (w : World) (A : Around) (h₀ : Heap) (env : Env) (target : Expr) (body : List Stmt) (Q : Flow → Shared → Prop) (xv : Value) (s₁ : Shared) : Prop :=
  ∃ (ax : Addr) (its : Array Value) (m : Str → Option Value) (news : List (Addr × Obj)) (J : Nat → (Str → Option Value) → List (Addr × Obj) → Prop),
    xv = .ref ax ∧ A.handled = none ∧ Fr h₀ env.locals s₁.heap m ∧ News h₀ env.locals s₁.heap news ∧ SrcAt h₀ ax its news ∧ J 0 m news ∧ (∀ i m news, J i m news → SrcAt h₀ ax its news) ∧ (∀ (i : Nat) v, its[i]? = some v → ∃ T : Addr, v = .ref T) ∧
    (∀ i v m₁ news₁ I oI g tk (E' : Value → Shared → Prop), its[i]? = some v → J i m₁ news₁ → Fr h₀ env.locals g m₁ → News h₀ env.locals g ((I, oI) :: news₁) → (∀ p ∈ news₁, p.1 ≠ I) → oI.cls = .type "list_iterator" →
      wpAny (model prog w) A (assign target env v) (fun _ s₂ => wpAny (model prog w) A (execs body env) (TurnP h₀ env.locals I oI { s₁ with heap := g, toks := tk } (J (i + 1)) Q) E' s₂) E' { s₁ with heap := g, toks := tk }) ∧
    (∀ h' tk m' news', Fr h₀ env.locals h' m' → News h₀ env.locals h' news' → J its.size m' news' → Q .next { s₁ with heap := h', toks := tk })
theorem For_list {elts : List Expr} {x1 : Nat} {tp pos : Pos} {iter : Expr} {body : List Stmt} {Q : Flow → Shared → Prop} {m₀ : Str → Option Value} (_F₀ : Fr h₀ env.locals s.heap m₀)
    (h : wpAny (model prog w) A (eval iter env) (ForAt prog w A h₀ env (.Tuple elts x1 tp) body Q) E s)
    (hs : ∀ x, foldedSetIterable iter env x = pure x := by intro _; rfl) :
    wpAny (model prog w) A (exec (.For (.Tuple elts x1 tp) iter body [] pos) env) Q E s := by
  refine wpAny_For (wpAny_mono h (fun xv s₁ h₁ => ?_) fun _ _ e => e) hs
  obtain ⟨ax, its, m, news, J, rfl, hh, F, N, S, h0, hsrc, hrefs, turn, fin⟩ := h₁
  have hl := S.list F.keep N
  have hlt : ax < s₁.heap.objs.size := by obtain ⟨_, e, _⟩ := hl; exact Heap.lt_size e
  refine wpAny_pyIter_list hl ?_
  generalize hI : s₁.heap.objs.size = I at hlt
  have hIL : env.locals ≠ I := hI ▸ Nat.ne_of_lt F.ns.lt
  have hI₀ : h₀.get? I = none := hI ▸ next_is_new F
  have hne : ax ≠ I := Nat.ne_of_lt hlt
  have up : ∀ b o, s₁.heap.get? b = some o → (s₁.heap.push { cls := .type "list_iterator", data := .fields #[.ref ax, .int 0 0] }).get? b = some o := fun b o e => Heap.get?_push_of_some _ e
  have W := Walks.list (prog := prog) (w := w) hh I ax hne its
  refine codeAny_forLoop_any
    (fun k s' => ∃ h' tk m' news' i, s' = { s₁ with heap := h', toks := tk } ∧ h'.IsListIter I ax i ∧ Fr h₀ env.locals h' m' ∧ News h₀ env.locals h' news' ∧ (∀ p ∈ news', p.1 ≠ I) ∧ J i m' news' ∧ i ≤ its.size ∧ k = its.size + 1 - i) ?_ (its.size + 1)
    ⟨_, _, m, news, 0, rfl, ⟨_, hI ▸ Heap.get?_push_size _ rfl, rfl, rfl⟩, F.keeps up, N.grown up, fun p hp => hI ▸ Nat.ne_of_lt (Heap.lt_size (N p hp).1), h0, Nat.zero_le _, rfl⟩
  rintro k s' ⟨h', tk, m', news', i, rfl, hit', F', N', off', hJ, hi, rfl⟩
  have hl' := (hsrc _ _ _ hJ).list F'.keep N'
  by_cases hlti : i < its.size
  · refine W.item i _ _ _ hlti ⟨hit', hl'⟩ fun v h₁ tk₁ hP hst₁ hk₁ => ?_
    obtain ⟨T, rfl⟩ := hrefs _ _ hP
    refine wpAny_letOwnedTupleGo_listiter (s := { s₁ with heap := h₁, toks := tk₁ }) hst₁.1 ?_
    obtain ⟨oI, heI, hoI⟩ := hst₁.1
    have F₁ : Fr h₀ env.locals h₁ m' := fr_but F' hk₁ hIL hI₀
    have N₁ : News h₀ env.locals h₁ ((I, oI) :: news') := fun p hp => by
      rcases List.mem_cons.mp hp with rfl | hp
      · exact ⟨heI, Ne.symm hIL, hI₀⟩
      · exact news_but N' hk₁ off' p hp
    refine wpAny_mono (turn i _ m' news' I oI h₁ tk₁ _ hP hJ F₁ N₁ off' hoI.1) (fun _ s₂ h₂ => wpAny_mono h₂ (fun f s₃ h₃ => ?_) fun _ _ e => e) fun _ _ e => e
    have nx : (∃ h' tk m' news', s₃ = { ({ s₁ with heap := h₁, toks := tk₁ } : Shared) with heap := h', toks := tk } ∧ Fr h₀ env.locals h' m' ∧ News h₀ env.locals h' ((I, oI) :: news') ∧ (∀ p ∈ news', p.1 ≠ I) ∧ J (i + 1) m' news') →
        ∃ m, m < its.size + 1 - i ∧ ∃ h' tk m' news' i, s₃ = { s₁ with heap := h', toks := tk } ∧ h'.IsListIter I ax i ∧ Fr h₀ env.locals h' m' ∧ News h₀ env.locals h' news' ∧ (∀ p ∈ news', p.1 ≠ I) ∧ J i m' news' ∧ i ≤ its.size ∧ m = its.size + 1 - i := by
      rintro ⟨g₃, tk₃, m₃, news₃, rfl, F₃, N₃, off₃, J₃⟩
      exact ⟨its.size + 1 - (i + 1), by omega, g₃, tk₃, m₃, news₃, i + 1, rfl, ⟨oI, (N₃ (I, oI) (.head _)).1, hoI⟩, F₃, fun p hp => N₃ p (.tail _ hp), off₃, J₃, hlti, rfl⟩
    cases f with
    | next => exact nx h₃
    | cont => exact nx h₃
    | brk => exact h₃
    | ret v => exact h₃
  · obtain rfl : i = its.size := Nat.le_antisymm hi (Nat.not_lt.mp hlti)
    refine W.done _ _ _ ⟨hit', hl'⟩ fun h₂ tk₂ hk₂ => wpAny_execs_nil ?_
    exact fin _ _ _ _ (fr_but F' hk₂ hIL hI₀) (news_but N' hk₂ off') hJ
theorem ForAt.nil {target : Expr} {body : List Stmt} {Q : Flow → Shared → Prop} {ax : Addr} {m : Str → Option Value} {news : List (Addr × Obj)} {s₁ : Shared} {n : Nat} (hh : A.handled = none) (F : Fr h₀ env.locals s₁.heap m) (N : News h₀ env.locals s₁.heap news)
    (hm : (ax, ({ cls := .type "list", data := .seq #[] n } : Obj)) ∈ news) (q : ∀ h' tk, Fr h₀ env.locals h' m → News h₀ env.locals h' news → Q .next { s₁ with heap := h', toks := tk }) : ForAt prog w A h₀ env target body Q (.ref ax) s₁ :=
  ⟨ax, #[], m, news, fun _ m' news' => m' = m ∧ news' = news, rfl, hh, F, N, .inr ⟨_, hm, rfl, _, rfl⟩, ⟨rfl, rfl⟩, (fun _ _ _ j => by rw [j.2]; exact .inr ⟨_, hm, rfl, _, rfl⟩), (fun _ _ e => by simp at e), (fun _ _ _ _ _ _ _ _ _ e => by simp at e),
    fun h' tk m' news' F' N' j => by obtain ⟨rfl, rfl⟩ := j; exact q h' tk F' N'⟩
end
end Mine
theorem Mine.offFl : True := by
  w_top off
  trivial
end
section
set_option maxRecDepth 100000
set_option Elab.async false
set_option maxHeartbeats 0
namespace Mine
open PySem PySem.W PyProof.Rows PySem.Calls

local macro_rules | `(tactic| ktr_enter) => `(tactic| (refine' code_def ?k1 ?k2 ?k3 ?k4 ?k5 ?kA ?kF ?kK ?k6 ?k7 ?k8 ?k9 ?kB ?_ ?c2 ?c3 ?c4 ?c5; (case kA => exact rfl); (case kF => exact rfl); (case kK => assumption); (case k1 => k_asm); (case k2 => k_asm); (case k3 => k_asm); (case k4 => k_asm); (case k5 => k_asm); (case k6 => k_is); (case k7 => k_is); (case k8 => ktr_room); (case k9 => first | exact binds_K (by k_in) rfl (by k_is) rfl rfl rfl | exact BindsTo.of_eq rfl); (case c5 => decide); (case kB => exact locs rfl); (case c2 => exact rfl); (case c3 => exact rfl); (case c4 => exact rfl); k_whole; intro g' L' h' FG' F' N' B' X' T'; (try dsimp only); (try k_fold)))
local macro_rules | `(tactic| k_all) => `(tactic| exact fun (p : Addr × Obj) hp => Nat.ne_of_lt ((by assumption : ∀ p : Addr × Obj, p ∈ _ → @LT.lt Nat _ p.1 _) p hp))
local macro_rules | `(tactic| k_ne) => `(tactic| (refine neN ?_; (try dsimp only); (rename @LT.lt Nat _ _ _ ∧ @LT.lt Nat _ _ _ ∧ AllLt _ _ => kl1); have kl2 := kl1.1; have kl3 := kl1.2.1; omega))
abbrev hdD (P : Params) (l : Addr) (k : Tok) : Obj := dictOf [{ hash := PyData.keyHash P (Str.ofString "_headers"), key := Value.str (Str.ofString "_headers") k, val := Value.ref l }] 1
theorem c_new {w : World} {mean : ExcName → Option Value} {mg mb : Str → Option Value}
  {dp un : Nat} {gd : Option (List Code)} {cn : Str} {cs : Scope} {a : Addr} {ccd : Value} {cl : List (Str × Addr)} {outer : List Env} {A₀ : Around} {base h₀ : Heap} {L : Addr} {m : Str → Option Value} {news : List (Addr × Obj)} {s : Shared}
    {Q E : Value → Shared → Prop}
    (B : Below A₀ base outer h₀) (F : Fr h₀ L s.heap m) (X : (Mine.hd.heap_39 w.params).In h₀) (N : News h₀ L s.heap news) (T : Top Mine.qT (looseW Mine.qT Mine.looseT) mean mg mb h₀) (hk : cs.kind = .function) (hd : dp + 2 < recursionLimit) (_hu : un + 16 < cLine)
    (ret : ∀ (x dx l : Addr) (k : Tok) h' tk', Fr h₀ L h' m → News h₀ L h' ((l, W.listOf #[] 0) :: (x, instObj 175 dx) :: (dx, hdD w.params l k) :: news) → (∀ p ∈ news, p.1 < dx) → @LT.lt Nat _ dx x → @LT.lt Nat _ x l → Q (.ref x) { s with heap := h', toks := tk' }) :
    wpAny (model PySem.Challenge.rw_pe0279_01.row.prog w) (ktrTop dp un gd cn cs L a ccd cl outer) (call (.ref 175) []) Q E s := by
  revert X; k_fill; intro X
  refine wpAny_call (make_K (C := 175) (fI := 69) F N (X.keeps F.keep) (by k_is) (by k_is) (by k_is) ?_)
  intro x dx h1 F1 N1 l1 l2
  k_dflt ktr_enter
  k_steps
  refine' set_dict ?k1 ?k2 ?k3 ?k4 ?k5 ?k6 ?k7 ?k8 ?k9 ?k10 ?k11 ?k12 ?k13 ?_
  (case k1 => k_asm)
  (case k2 => k_asm)
  (case k3 => k_asm)
  (case k4 => k_inst)
  (case k5 => exact rfl)
  (case k6 => k_is)
  (case k7 => k_is)
  (case k8 => k_is)
  (case k9 => k_is)
  (case k10 => k_get)
  (case k11 => k_put)
  (case k12 => exact Upd.tail (Nat.ne_of_gt ((by assumption : @LT.lt Nat _ x _ ∧ @LT.lt Nat _ dx _ ∧ AllLt _ news).2.1)) (Upd.tail (Nat.ne_of_gt l2) (Upd.head fun p hp => Nat.ne_of_lt (l1 p hp))))
  (case k13 => exact Nat.le_of_ble_eq_true rfl)
  intro h6 F6 N6
  k_steps
  refine For_list F6 ?_
  k_steps
  refine ForAt.nil rfl F6 N6 (.head _) ?_
  intro h7 tk7 F7 N7
  dsimp only
  k_steps
  exact ret _ _ _ _ _ _ (by k_asm) (by k_asm) l1 l2 (And.left (by assumption : @LT.lt Nat _ x _ ∧ @LT.lt Nat _ dx _ ∧ AllLt _ news))
end Mine
theorem Mine.offC3 : True := by
  w_top off
  trivial
end
section
set_option maxRecDepth 100000
set_option Elab.async false
set_option maxHeartbeats 0
namespace Mine
open PySem PySem.W PyProof.Rows PySem.Calls

/-- the list's items are tuples of two strings -/
def PairsIn (news : List (Addr × Obj)) : List Value → List (Str × Str) → Prop
  | [], [] => True
  | v :: vs, p :: ps => (∃ T ta tb, v = .ref T ∧ (T, tupObj #[.str p.1 ta, .str p.2 tb]) ∈ news) ∧ PairsIn news vs ps
  | _, _ => False
theorem PairsIn.len {news : List (Addr × Obj)} : ∀ {vs ps}, PairsIn news vs ps → vs.length = ps.length
  | [], [], _ => rfl
  | [], _ :: _, h => h.elim
  | _ :: _, [], h => h.elim
  | _ :: _, _ :: _, h => by rw [List.length_cons, List.length_cons, h.2.len]
theorem PairsIn.at {news : List (Addr × Obj)} : ∀ {vs ps}, PairsIn news vs ps → ∀ {i : Nat} {v : Value}, vs[i]? = some v → ∃ p T ta tb, ps[i]? = some p ∧ v = .ref T ∧ (T, tupObj #[.str p.1 ta, .str p.2 tb]) ∈ news
  | [], _, _, i, v, e => by simp at e
  | _ :: _, [], h, _, _, _ => h.elim
  | u :: vs, p :: ps, h, 0, v, e => by
    obtain ⟨T, ta, tb, rfl, hm⟩ := h.1
    cases e
    exact ⟨p, T, ta, tb, rfl, rfl, hm⟩
  | u :: vs, p :: ps, h, i + 1, v, e => h.2.at (i := i) e
theorem PairsIn.mono {news news' : List (Addr × Obj)} (hs : ∀ p ∈ news, p ∈ news') : ∀ {vs ps}, PairsIn news vs ps → PairsIn news' vs ps
  | [], [], h => h
  | [], _ :: _, h => h.elim
  | _ :: _, [], h => h.elim
  | _ :: _, _ :: _, h => ⟨let ⟨T, ta, tb, e, hm⟩ := h.1; ⟨T, ta, tb, e, hs _ hm⟩, h.2.mono hs⟩
theorem PairsIn.snoc {news : List (Addr × Obj)} {T : Addr} {p : Str × Str} {ta tb : Tok} (hm : (T, tupObj #[.str p.1 ta, .str p.2 tb]) ∈ news) : ∀ {vs ps}, PairsIn news vs ps → PairsIn news (vs ++ [.ref T]) (ps ++ [p])
  | [], [], _ => ⟨⟨T, ta, tb, rfl, hm⟩, trivial⟩
  | [], _ :: _, h => h.elim
  | _ :: _, [], h => h.elim
  | _ :: _, _ :: _, h => ⟨h.1, h.2.snoc hm⟩
def getv (ps : List (Str × Str)) (z : Str) : Option Str := (ps.find? fun p => Txt.lower p.1 == z).map (·.2)
theorem getv_some {z : Str} {p : Str × Str} : ∀ {ps : List (Str × Str)} {i : Nat}, ps[i]? = some p → (∀ j, j < i → ∀ p, ps[j]? = some p → Txt.lower p.1 ≠ z) → Txt.lower p.1 = z → getv ps z = some p.2
  | [], _, e, _, _ => by simp at e
  | q :: ps, 0, e, _, h => by
    cases e
    unfold getv
    rw [List.find?_cons_of_pos (p := fun p : Str × Str => Txt.lower p.1 == z) (beq_iff_eq.mpr h)]
    rfl
  | q :: ps, i + 1, e, hG, h => by
    have := getv_some (ps := ps) (i := i) e (fun j hj p hp => hG (j + 1) (Nat.succ_lt_succ hj) p hp) h
    unfold getv at this ⊢
    rw [List.find?_cons_of_neg (p := fun p : Str × Str => Txt.lower p.1 == z) (by rw [beq_iff_eq]; exact hG 0 (Nat.succ_pos _) q rfl)]
    exact this
theorem getv_none {z : Str} : ∀ {ps : List (Str × Str)}, (∀ j, j < ps.length → ∀ p, ps[j]? = some p → Txt.lower p.1 ≠ z) → getv ps z = none
  | [], _ => rfl
  | q :: ps, hG => by
    have := getv_none (ps := ps) (fun j hj p hp => hG (j + 1) (Nat.succ_lt_succ hj) p hp)
    unfold getv at this ⊢
    rw [List.find?_cons_of_neg (p := fun p : Str × Str => Txt.lower p.1 == z) (by rw [beq_iff_eq]; exact hG 0 (Nat.succ_pos _) q rfl)]
    exact this
theorem getv_next {z : Str} {p : Str × Str} {ps : List (Str × Str)} {i : Nat} (e : ps[i]? = some p) (hG : ∀ j, j < i → ∀ p, ps[j]? = some p → Txt.lower p.1 ≠ z) (h : (Txt.lower p.1 == z) = false) : ∀ j, j < i + 1 → ∀ p, ps[j]? = some p → Txt.lower p.1 ≠ z := by
  intro j hj q hq
  rcases Nat.lt_succ_iff_lt_or_eq.mp hj with hj | rfl
  · exact hG j hj q hq
  · rw [e] at hq; cases hq; exact beq_eq_false_iff_ne.mp h
theorem News_tail {h₀ h : Heap} {L : Addr} {q : Addr × Obj} {news : List (Addr × Obj)} (N : News h₀ L h (q :: news)) : News h₀ L h news := fun p hp => N p (.tail _ hp)
def OptStr (o : Option Str) (v : Value) : Prop := match o with
  | some b => ∃ t, v = .str b t
  | none => v = .none

section
variable {prog : Program} {w : World} {A : Around} {E : Value → Shared → Prop} {s : Shared} {h₀ : Heap} {env : Env}
abbrev two (kn vn : Str) (kv vv : Option Value) (m : Str → Option Value) : Str → Option Value := fun z => if z = vn then vv else if z = kn then kv else m z
theorem two_two {kn vn : Str} {a b c d : Option Value} {m : Str → Option Value} : (fun z => if z = vn then d else if z = kn then c else two kn vn a b m z) = two kn vn c d m := by
  funext z
  unfold two
  split
  · rfl
  · split <;> rfl
theorem two_self (kn vn : Str) (m : Str → Option Value) : two kn vn (m kn) (m vn) m = m := by
  funext z
  unfold two
  split
  · next h => rw [h]
  · split
    · next h => rw [h]
    · rfl
theorem ForAt.pairs {kn vn : Str} {pk pv tp : Pos} {x1 : Nat} {body : List Stmt} {Q : Flow → Shared → Prop} {l : Addr} {vs : List Value} {n : Nat} {ps : List (Str × Str)} {m : Str → Option Value} {news : List (Addr × Obj)} {s₁ : Shared} (G : Nat → Prop)
    (hh : A.handled = none) (F : Fr h₀ env.locals s₁.heap m) (N : News h₀ env.locals s₁.heap news) (hm : (l, W.listOf vs.toArray n) ∈ news) (hp : PairsIn news vs ps)
    (ha : env.kindOf kn = some .local) (hb : env.kindOf vn = some .local) (hcl : (env.scope.kind == .class || (env.scope.kind == .module && env.locals != env.globals)) = false)
    (g0 : G 0)
    (turn : ∀ i p ta tb I oI g tk (E' : Value → Shared → Prop), ps[i]? = some p → G i → Fr h₀ env.locals g (two kn vn (some (.str p.1 ta)) (some (.str p.2 tb)) m) → News h₀ env.locals g ((I, oI) :: news) → (∀ p ∈ news, p.1 ≠ I) →
      wpAny (model prog w) A (execs body env) (TurnP h₀ env.locals I oI { s₁ with heap := g, toks := tk } (fun m' news' => G (i + 1) ∧ news' = news ∧ ∃ kv vv, m' = two kn vn kv vv m) Q) E' { s₁ with heap := g, toks := tk })
    (fin : ∀ h' tk kv vv, Fr h₀ env.locals h' (two kn vn kv vv m) → News h₀ env.locals h' news → G ps.length → Q .next { s₁ with heap := h', toks := tk }) :
    ForAt prog w A h₀ env (.Tuple [.Name kn pk, .Name vn pv] x1 tp) body Q (.ref l) s₁ := by
  refine ⟨l, vs.toArray, m, news, fun i m' news' => G i ∧ news' = news ∧ ∃ kv vv, m' = two kn vn kv vv m, rfl, hh, F, N, .inr ⟨_, hm, rfl, _, rfl⟩, ⟨g0, rfl, _, _, (two_self kn vn m).symm⟩, (fun _ _ _ j => by rw [j.2.1]; exact .inr ⟨_, hm, rfl, _, rfl⟩), (fun i v e => ?_), (fun i v m₁ news₁ I oI g tk E' e j F₁ N₁ off _ => ?_), fun h' tk m' news' F' N' j => ?_⟩
  · rw [List.getElem?_toArray] at e
    obtain ⟨p, T, ta, tb, _, rfl, _⟩ := hp.at e
    exact ⟨T, rfl⟩
  · obtain ⟨gi, rfl, kv, vv, rfl⟩ := j
    rw [List.getElem?_toArray] at e
    obtain ⟨p, T, ta, tb, hpi, rfl, hT⟩ := hp.at e
    have zT := (N₁ _ (.tail _ hT)).1
    refine kcp_assign hh (s := { s₁ with heap := g, toks := tk }) ⟨_, zT, rfl, _, rfl⟩ ha hb hcl F₁.ns fun h₂ tk₂ hn₂ up₂ => ?_
    rw [two_two] at hn₂
    have F₂ : Fr h₀ env.locals h₂ (two kn vn (some (.str p.1 ta)) (some (.str p.2 tb)) m) := ⟨hn₂, fun b o eb => up₂ b o (fun q => by rw [q, kts_self F₁] at eb; cases eb) (F₁.keep b o eb), F₁.above⟩
    have N₂ : News h₀ env.locals h₂ ((I, oI) :: news₁) := fun q hq => ⟨up₂ _ _ (N₁ q hq).2.1 (N₁ q hq).1, (N₁ q hq).2⟩
    exact turn i p ta tb I oI h₂ tk₂ E' hpi gi F₂ N₂ off
  · obtain ⟨gi, rfl, kv, vv, rfl⟩ := j
    refine fin h' tk kv vv F' N' ?_
    have : vs.toArray.size = ps.length := by rw [List.size_toArray]; exact hp.len
    rwa [this] at gi
end
local macro_rules | `(tactic| ktr_enter) => `(tactic| (refine' code_def ?k1 ?k2 ?k3 ?k4 ?k5 ?kA ?kF ?kK ?k6 ?k7 ?k8 ?k9 ?kB ?_ ?c2 ?c3 ?c4 ?c5; (case kA => exact rfl); (case kF => exact rfl); (case kK => assumption); (case k1 => k_asm); (case k2 => k_asm); (case k3 => k_asm); (case k4 => k_asm); (case k5 => k_asm); (case k6 => k_is); (case k7 => k_is); (case k8 => ktr_room); (case k9 => first | exact binds_K (by k_in) rfl (by k_is) rfl rfl rfl | exact BindsTo.of_eq rfl); (case c5 => decide); (case kB => exact locs rfl); (case c2 => exact rfl); (case c3 => exact rfl); (case c4 => exact rfl); k_whole; intro g' L' h' FG' F' N' B' X' T'; (try dsimp only); (try k_fold)))

local macro_rules | `(tactic| walk_at "call builtin:str.lower") => `(tactic| (refine SCL.lower (Nat.le_trans (by assumption : _ ≤ 100) (by decide)) ?_; intro kLow))
local macro_rules | `(tactic| walk_at "call ref") => `(tactic| (k_dflt (refine' wpAny_call (c_conv ?hx ?kB ?kF ?kX ?kN ?kT ?kk ?kd ?ku ?_); (case kB => k_asm); (case kF => k_asm); (case kX => k_asm); (case kN => k_asm); (case kT => k_asm); (case hx => assumption); (case kk => exact rfl); (case kd => ktr_room); (case ku => ktr_units); k_whole); intro h9 tk9 F9 N9; (try dsimp only); (try k_fold)))
theorem c_get {w : World} {mean : ExcName → Option Value} {mg mb : Str → Option Value}
  {dp un : Nat} {gd : Option (List Code)} {cn : Str} {cs : Scope} {a : Addr} {ccd : Value} {cl : List (Str × Addr)} {outer : List Env} {A₀ : Around} {base h₀ : Heap} {L : Addr} {m : Str → Option Value} {news : List (Addr × Obj)} {s : Shared}
    {R : Result → Shared → Prop} {x : Str} {t : Tok} {o d l : Addr} {k : Tok} {vs : List Value} {n : Nat} {ps : List (Str × Str)} (hx : found nmC (Txt.lower x) = some false) (hxl : x.length ≤ 100)
    (ho : (o, instObj 175 d) ∈ news) (hdm : (d, hdD w.params l k) ∈ news) (hlm : (l, W.listOf vs.toArray n) ∈ news) (hp : PairsIn news vs ps) (hps : ∀ p ∈ ps, p.1.length ≤ 100)
    (B : Below A₀ base outer h₀) (F : Fr h₀ L s.heap m) (X : (Mine.hd.heap_39 w.params).In h₀) (N : News h₀ L s.heap news) (T : Top Mine.qT (looseW Mine.qT Mine.looseT) mean mg mb h₀) (hk : cs.kind = .function) (hd : dp + 2 < recursionLimit) (_hu : un + 16 < cLine)
    (ret : ∀ v h' tk', OptStr (getv ps (Txt.lower x)) v → Fr h₀ L h' m → News h₀ L h' news → R (.ok (.ret v)) { s with heap := h', toks := tk' }) :
    codeAny (model PySem.Challenge.rw_pe0279_01.row.prog w) (ktrTop dp un gd cn cs L a ccd cl outer) (.call (.ref 122) ⟨[.ref o, .str x t], []⟩) R s := by
  revert X; k_fill; intro X
  k_dflt ktr_enter
  k_steps
  refine For_list (by assumption) ?_
  k_steps
  refine ForAt.pairs (G := fun i => ∀ j, j < i → ∀ p, ps[j]? = some p → Txt.lower p.1 ≠ Txt.lower x) rfl (by assumption) (by assumption) hlm hp rfl rfl rfl (fun j hj => absurd hj (Nat.not_lt_zero _)) ?_ ?_
  · intro i p ta tb I oI g tk E' hpi hG F1 N1 off
    have hpl := hps p (List.mem_of_getElem? hpi)
    k_steps
    · dsimp only [TurnP]
      k_steps
      refine ret _ _ _ ?_ (by k_asm) (News_tail (q := (I, oI)) (by k_asm))
      rw [getv_some hpi hG (beq_iff_eq.mp (by assumption))]
      exact ⟨_, rfl⟩
    · refine TurnP.intro F1 N1 off ⟨getv_next hpi hG (by assumption), rfl, _, _, rfl⟩
  · intro h2 tk2 kv vv F2 N2 hG
    dsimp only
    k_steps
    refine ret _ _ _ ?_ (by k_asm) (by k_asm)
    rw [getv_none hG]
    rfl
local macro_rules | `(tactic| walk_at "call ref") => `(tactic| (k_dflt (refine' wpAny_call (c_convX ?hx ?kB ?kF ?kX ?kN ?kT ?kk ?kd ?ku ?_); (case kB => k_asm); (case kF => k_asm); (case kX => k_asm); (case kN => k_asm); (case kT => k_asm); (case hx => assumption); (case kk => exact rfl); (case kd => ktr_room); (case ku => ktr_units); k_whole); intro e9 et9 vs9 g9 h9 tk9 F9 R9 U9; (try dsimp only)))
local macro_rules | `(tactic| walk_at "leaving ref") => `(tactic| (refine leave_onS (by assumption) (by assumption) (by assumption) (by assumption) ?_; intro kh kR kR2 kU))
theorem c_getX {w : World} {mean : ExcName → Option Value} {mg mb : Str → Option Value}
  {dp un : Nat} {gd : Option (List Code)} {cn : Str} {cs : Scope} {a : Addr} {ccd : Value} {cl : List (Str × Addr)} {outer : List Env} {A₀ : Around} {base h₀ : Heap} {L : Addr} {m : Str → Option Value} {news : List (Addr × Obj)} {s : Shared}
    {R : Result → Shared → Prop} {x : Str} {t : Tok} {o d : Addr} (hx : found nmC (Txt.lower x) = some true) (hxl : x.length ≤ 100) (ho : (o, instObj 175 d) ∈ news) {l : Addr} {k : Tok} (hdm : (d, hdD w.params l k) ∈ news)
    (B : Below A₀ base outer h₀) (F : Fr h₀ L s.heap m) (X : (Mine.hd.heap_39 w.params).In h₀) (N : News h₀ L s.heap news) (T : Top Mine.qT (looseW Mine.qT Mine.looseT) mean mg mb h₀) (hk : cs.kind = .function) (hd : dp + 2 < recursionLimit) (_hu : un + 16 < cLine)
    (rai : ∀ e et vs g h' tk', Fr h₀ L g m → RaisedS base g (envX cn cs L a ccd cl :: outer) e (.type "ValueError") et vs news h' → g.UpToSlots h' → R (.error (.ref e)) { s with heap := h', toks := tk' }) :
    codeAny (model PySem.Challenge.rw_pe0279_01.row.prog w) (ktrTop dp un gd cn cs L a ccd cl outer) (.call (.ref 122) ⟨[.ref o, .str x t], []⟩) R s := by
  revert X; k_fill; intro X
  k_dflt ktr_enter
  k_steps
  exact rai _ _ _ _ _ _ (by assumption) (by assumption) (by assumption)
end Mine
theorem Mine.offC4 : True := by
  w_top off
  trivial
end
section
set_option maxRecDepth 100000
set_option Elab.async false
set_option maxHeartbeats 0
namespace Mine
open PySem PySem.W PyProof.Rows PySem.Calls
local macro_rules | `(tactic| ktr_enter) => `(tactic| (refine' code_def ?k1 ?k2 ?k3 ?k4 ?k5 ?kA ?kF ?kK ?k6 ?k7 ?k8 ?k9 ?kB ?_ ?c2 ?c3 ?c4 ?c5; (case kA => exact rfl); (case kF => exact rfl); (case kK => assumption); (case k1 => k_asm); (case k2 => k_asm); (case k3 => k_asm); (case k4 => k_asm); (case k5 => k_asm); (case k6 => k_is); (case k7 => k_is); (case k8 => ktr_room); (case k9 => first | exact binds_K (by k_in) rfl (by k_is) rfl rfl rfl | exact BindsTo.of_eq rfl); (case c5 => decide); (case kB => exact locs rfl); (case c2 => exact rfl); (case c3 => exact rfl); (case c4 => exact rfl); k_whole; intro g' L' h' FG' F' N' B' X' T'; (try dsimp only); (try k_fold)))

local macro_rules | `(tactic| walk_at "call ref") => `(tactic| first
  | (k_dflt (refine' wpAny_call (c_get ?hx ?hxl ?ho ?hdm ?hlm ?hp ?hps ?kB ?kF ?kX ?kN ?kT ?kk ?kd ?ku ?_); (case kB => k_asm); (case kF => k_asm); (case kX => k_asm); (case kN => k_asm); (case kT => k_asm); (case hx => assumption); (case hxl => assumption); (case ho => exact .tail _ (by assumption)); (case hdm => exact .tail _ (by assumption)); (case hlm => exact .head _); (case hp => exact PairsIn.mono (fun _ h => .tail _ h) (by assumption)); (case hps => assumption); (case kk => exact rfl); (case kd => ktr_room); (case ku => ktr_units); k_whole); intro v9 h9 tk9 hv9 F9 N9; (try dsimp only); (try k_fold))
  | (k_dflt (refine' wpAny_call (c_conv ?hx ?kB ?kF ?kX ?kN ?kT ?kk ?kd ?ku ?_); (case kB => k_asm); (case kF => k_asm); (case kX => k_asm); (case kN => k_asm); (case kT => k_asm); (case hx => assumption); (case kk => exact rfl); (case kd => ktr_room); (case ku => ktr_units); k_whole); intro h9 tk9 F9 N9; (try dsimp only); (try k_fold))
  | (k_dflt (refine' wpAny_call (c_convV ?hx ?kB ?kF ?kX ?kN ?kT ?kk ?kd ?ku ?_); (case kB => k_asm); (case kF => k_asm); (case kX => k_asm); (case kN => k_asm); (case kT => k_asm); (case hx => assumption); (case kk => exact rfl); (case kd => ktr_room); (case ku => ktr_units); k_whole); intro h9 tk9 F9 N9; (try dsimp only); (try k_fold)))
local macro_rules | `(tactic| k_mem) => `(tactic| first | exact List.Mem.tail _ (by assumption) | exact List.Mem.tail _ (List.Mem.tail _ (by assumption)) | exact List.Mem.tail _ (List.Mem.tail _ (List.Mem.tail _ (by assumption))))
local macro_rules | `(tactic| k_all) => `(tactic| assumption)
theorem c_setd {w : World} {mean : ExcName → Option Value} {mg mb : Str → Option Value}
  {dp un : Nat} {gd : Option (List Code)} {cn : Str} {cs : Scope} {a : Addr} {ccd : Value} {cl : List (Str × Addr)} {outer : List Env} {A₀ : Around} {base h₀ : Heap} {L : Addr} {m : Str → Option Value} {rest : List (Addr × Obj)} {s : Shared}
    {R : Result → Shared → Prop} {x y : Str} {t t2 : Tok} {o d l : Addr} {k : Tok} {vs : List Value} {n : Nat} {ps : List (Str × Str)} (hx : found nmC (Txt.lower x) = some false) (hx2 : found nmC x = some false) (hy : found vlC y = some false) (hxl : x.length ≤ 100)
    (ho : (o, instObj 175 d) ∈ rest) (hdm : (d, hdD w.params l k) ∈ rest) (hap : ∀ p ∈ rest, p.1 ≠ l) (hp : PairsIn rest vs ps) (hps : ∀ p ∈ ps, p.1.length ≤ 100) (hvs : vs.length ≤ 100)
    (B : Below A₀ base outer h₀) (F : Fr h₀ L s.heap m) (X : (Mine.hd.heap_39 w.params).In h₀) (N : News h₀ L s.heap ((l, W.listOf vs.toArray n) :: rest)) (T : Top Mine.qT (looseW Mine.qT Mine.looseT) mean mg mb h₀) (hk : cs.kind = .function) (hd : dp + 3 < recursionLimit) (_hu : un + 24 < cLine)
    (ret1 : getv ps (Txt.lower x) = none → ∀ T h' tk', Fr h₀ L h' m → News h₀ L h' ((T, tupObj #[.str x t, .str y t2]) :: (l, W.listOf (vs ++ [Value.ref T]).toArray (n + 1)) :: rest) → R (.ok (.ret (.str y t2))) { s with heap := h', toks := tk' })
    (ret2 : ∀ b tb h' tk', getv ps (Txt.lower x) = some b → Fr h₀ L h' m → News h₀ L h' ((l, W.listOf vs.toArray n) :: rest) → R (.ok (.ret (.str b tb))) { s with heap := h', toks := tk' }) :
    codeAny (model PySem.Challenge.rw_pe0279_01.row.prog w) (ktrTop dp un gd cn cs L a ccd cl outer) (.call (.ref 165) ⟨[.ref o, .str x t, .str y t2], []⟩) R s := by
  revert X; k_fill; intro X
  k_dflt ktr_enter
  k_steps
  rename OptStr _ _ => hv
  cases hg : getv ps (Txt.lower x) with
  | none =>
    rw [hg] at hv
    obtain rfl : _ = Value.none := hv
    k_steps
    have ret1' : ∀ T h' tk', Fr h₀ L h' m → News h₀ L h' ((T, { cls := Value.type "tuple", data := Data.seq #[.str x t, .str y t2] }) :: (l, W.listOf (vs.toArray.push (Value.ref T)) (n + 1)) :: rest) → R (.ok (.ret (.str y t2))) { s with heap := h', toks := tk' } :=
      fun T h' tk' F N => ret1 hg T h' tk' F (by rw [← List.push_toArray]; exact N)
    exact ret1' _ _ _ (by k_asm) (by k_asm)
  | some b =>
    rw [hg] at hv
    obtain ⟨tb, rfl⟩ := hv
    k_steps
    exact ret2 _ _ _ _ hg (by k_asm) (by k_asm)
local macro_rules | `(tactic| walk_at "call ref") => `(tactic| (k_dflt (refine' wpAny_call (c_getX ?hx ?hxl ?ho ?hdm ?kB ?kF ?kX ?kN ?kT ?kk ?kd ?ku ?_); (case kB => k_asm); (case kF => k_asm); (case kX => k_asm); (case kN => k_asm); (case kT => k_asm); (case hx => assumption); (case hxl => assumption); (case ho => assumption); (case hdm => assumption); (case kk => exact rfl); (case kd => ktr_room); (case ku => ktr_units); k_whole); intro e9 et9 vs9 g9 h9 tk9 F9 R9 U9; (try dsimp only)))
local macro_rules | `(tactic| walk_at "leaving ref") => `(tactic| (refine leave_onS (by assumption) (by assumption) (by assumption) (by assumption) ?_; intro kh kR kR2 kU))
theorem c_setdX {w : World} {mean : ExcName → Option Value} {mg mb : Str → Option Value}
  {dp un : Nat} {gd : Option (List Code)} {cn : Str} {cs : Scope} {a : Addr} {ccd : Value} {cl : List (Str × Addr)} {outer : List Env} {A₀ : Around} {base h₀ : Heap} {L : Addr} {m : Str → Option Value} {news : List (Addr × Obj)} {s : Shared}
    {R : Result → Shared → Prop} {x y : Str} {t t2 : Tok} {o d : Addr} (hx : found nmC (Txt.lower x) = some true) (hxl : x.length ≤ 100) (ho : (o, instObj 175 d) ∈ news) {l : Addr} {k : Tok} (hdm : (d, hdD w.params l k) ∈ news)
    (B : Below A₀ base outer h₀) (F : Fr h₀ L s.heap m) (X : (Mine.hd.heap_39 w.params).In h₀) (N : News h₀ L s.heap news) (T : Top Mine.qT (looseW Mine.qT Mine.looseT) mean mg mb h₀) (hk : cs.kind = .function) (hd : dp + 3 < recursionLimit) (_hu : un + 24 < cLine)
    (rai : ∀ e et vs g h' tk', Fr h₀ L g m → RaisedS base g (envX cn cs L a ccd cl :: outer) e (.type "ValueError") et vs news h' → g.UpToSlots h' → R (.error (.ref e)) { s with heap := h', toks := tk' }) :
    codeAny (model PySem.Challenge.rw_pe0279_01.row.prog w) (ktrTop dp un gd cn cs L a ccd cl outer) (.call (.ref 165) ⟨[.ref o, .str x t, .str y t2], []⟩) R s := by
  revert X; k_fill; intro X
  k_dflt ktr_enter
  k_steps
  exact rai _ _ _ _ _ _ (by assumption) (by assumption) (by assumption)
end Mine
theorem Mine.offC5 : True := by
  w_top off
  trivial
end
section
set_option maxRecDepth 100000
set_option Elab.async false
set_option maxHeartbeats 0
namespace Mine
open PySem PySem.W PyProof.Rows PySem.Calls
local macro_rules | `(tactic| ktr_enter) => `(tactic| (refine' code_def ?k1 ?k2 ?k3 ?k4 ?k5 ?kA ?kF ?kK ?k6 ?k7 ?k8 ?k9 ?kB ?_ ?c2 ?c3 ?c4 ?c5; (case kA => exact rfl); (case kF => exact rfl); (case kK => assumption); (case k1 => k_asm); (case k2 => k_asm); (case k3 => k_asm); (case k4 => k_asm); (case k5 => k_asm); (case k6 => k_is); (case k7 => k_is); (case k8 => ktr_room); (case k9 => first | exact binds_K (by k_in) rfl (by k_is) rfl rfl rfl | exact BindsTo.of_eq rfl); (case c5 => decide); (case kB => exact locs rfl); (case c2 => exact rfl); (case c3 => exact rfl); (case c4 => exact rfl); k_whole; intro g' L' h' FG' F' N' B' X' T'; (try dsimp only); (try k_fold)))

local macro_rules | `(tactic| k_mem) => `(tactic| first | exact List.Mem.tail _ (by assumption) | exact List.Mem.tail _ (List.Mem.tail _ (by assumption)) | exact List.Mem.tail _ (List.Mem.tail _ (List.Mem.tail _ (by assumption))))
local macro_rules | `(tactic| k_all) => `(tactic| assumption)
local macro_rules | `(tactic| walk_at "call ref") => `(tactic| first
  | (k_dflt (refine' wpAny_call (c_conv ?hx ?kB ?kF ?kX ?kN ?kT ?kk ?kd ?ku ?_); (case kB => k_asm); (case kF => k_asm); (case kX => k_asm); (case kN => k_asm); (case kT => k_asm); (case hx => assumption); (case kk => exact rfl); (case kd => ktr_room); (case ku => ktr_units); k_whole); intro h9 tk9 F9 N9; (try dsimp only); (try k_fold))
  | (k_dflt (refine' wpAny_call (c_convV ?hx ?kB ?kF ?kX ?kN ?kT ?kk ?kd ?ku ?_); (case kB => k_asm); (case kF => k_asm); (case kX => k_asm); (case kN => k_asm); (case kT => k_asm); (case hx => assumption); (case kk => exact rfl); (case kd => ktr_room); (case ku => ktr_units); k_whole); intro h9 tk9 F9 N9; (try dsimp only); (try k_fold)))
theorem join_one (sep y : Str) : Txt.join sep [y] = y := by
  obtain ⟨⟨l⟩⟩ := y
  first | rfl | simp [Txt.join] | (unfold Txt.join; simp)
theorem c_add {w : World} {mean : ExcName → Option Value} {mg mb : Str → Option Value}
  {dp un : Nat} {gd : Option (List Code)} {cn : Str} {cs : Scope} {a : Addr} {ccd : Value} {cl : List (Str × Addr)} {outer : List Env} {A₀ : Around} {base h₀ : Heap} {L : Addr} {m : Str → Option Value} {rest : List (Addr × Obj)} {s : Shared}
    {R : Result → Shared → Prop} {x y : Str} {t t2 : Tok} {o d l : Addr} {k : Tok} {vs : List Value} {n : Nat} (hx : found nmC x = some false) (hy : found vlC y = some false) (hxl : x.length ≤ 100) (hyl : y.length ≤ 100)
    (ho : (o, instObj 175 d) ∈ rest) (hdm : (d, hdD w.params l k) ∈ rest) (hap : ∀ p ∈ rest, p.1 ≠ l) (hvs : vs.length ≤ 100)
    (B : Below A₀ base outer h₀) (F : Fr h₀ L s.heap m) (X : (Mine.hd.heap_39 w.params).In h₀) (N : News h₀ L s.heap ((l, W.listOf vs.toArray n) :: rest)) (T : Top Mine.qT (looseW Mine.qT Mine.looseT) mean mg mb h₀) (hk : cs.kind = .function) (hd : dp + 3 < recursionLimit) (_hu : un + 24 < cLine)
    (ret : ∀ T h' tk' tb, Fr h₀ L h' m → News h₀ L h' ((T, tupObj #[.str x t, .str y tb]) :: (l, W.listOf (vs ++ [Value.ref T]).toArray (n + 1)) :: rest) → R (.ok (.ret .none)) { s with heap := h', toks := tk' }) :
    codeAny (model PySem.Challenge.rw_pe0279_01.row.prog w) (ktrTop dp un gd cn cs L a ccd cl outer) (.call (.ref 172) ⟨[.ref o, .str x t, .str y t2], []⟩) R s := by
  revert X; k_fill; intro X
  k_dflt (refine' kp_more ?k1 ?k2 ?k3 ?k4 ?k5 ?kA ?kF ?kK ?k6 ?k7 ?k8 ?kX ?kM ?kN ?kD ?kR ?kP ?kT ?kB ?_ ?c2 ?c3 ?c4 ?c5; (case kA => exact rfl); (case kF => exact rfl); (case kK => assumption); (case k1 => k_asm); (case k2 => k_asm); (case k3 => k_asm); (case k4 => k_asm); (case k5 => k_asm); (case k6 => k_is); (case k7 => k_is); (case k8 => ktr_room); (case kX => kp_lit); (case kM => exact rfl); (case kN => exact rfl); (case kD => kp_flats); (case kR => exact rfl); (case kP => exact rfl); (case kT => exact fun _ => rfl); (case kB => exact fun _ => locs rfl); (case c5 => decide); (case c2 => exact rfl); (case c3 => exact rfl); (case c4 => exact rfl); k_whole)
  intro D' o' g' L' h' tk' l1 lo' hs' fs' FG' F' N' B' X' T'
  (try dsimp only)
  (try k_fold)
  k_steps
  rename_i kF kN kl
  have hN : News g' L' _ (_ :: (l, W.listOf vs.toArray n) :: rest) := fun p hp => kN p (by
    rcases List.mem_cons.mp hp with rfl | hp
    · exact .head _
    · exact .tail _ (.tail _ (.tail _ (.tail _ hp))))
  clear kN
  refine append_K kF hN (Upd.tail (Nat.ne_of_gt kl.2.2.2.1) (Upd.head hap)) ?_ (by rw [List.size_toArray]; exact Nat.le_trans hvs (by decide))
  intro h7 F7 N7
  k_steps
  have retP : ∀ T h' tk' z tb, z = y → Fr h₀ L h' m → News h₀ L h' ((T, { cls := Value.type "tuple", data := Data.seq #[.str x t, .str z tb] }) :: (l, W.listOf (vs.toArray.push (Value.ref T)) (n + 1)) :: rest) → R (.ok (.ret .none)) { s with heap := h', toks := tk' } :=
    fun T h' tk' z tb e F N => ret T h' tk' tb F (by subst e; rw [← List.push_toArray]; exact N)
  refine retP _ _ _ _ _ ?_ (by k_asm) (by k_asm)
  exact join_one _ y
end Mine
theorem Mine.offC6 : True := by
  w_top off
  trivial
end
section
set_option maxRecDepth 100000
set_option Elab.async false
namespace Mine
open PySem PySem.W PyProof.Rows PySem.Calls PySem.Spec PyProof.Rows.LCg PyProof.Rows.LCt
section
variable {prog : Program} {w : World} {A : Around} {s : Shared} {h₀ : Heap} {L : Addr} {m : Str → Option Value} {env : Env}
/-- what one turn of a comprehension leaves behind -/
def Kept (h₀ : Heap) (L : Addr) (m : Str → Option Value) (all : List (Addr × Obj)) (s₁ : Shared) (P : Prop) (s₂ : Shared) : Prop :=
  ∃ h' tk, s₂ = { s₁ with heap := h', toks := tk } ∧ Fr h₀ L h' m ∧ News h₀ L h' all ∧ P
theorem Kept.intro {all : List (Addr × Obj)} {s₁ : Shared} {P : Prop} {h' : Heap} {tk : Nat} (F : Fr h₀ L h' m) (N : News h₀ L h' all) (p : P) : Kept h₀ L m all s₁ P { s₁ with heap := h', toks := tk } := ⟨h', tk, rfl, F, N, p⟩
theorem runT {ct elt : Expr} {x : Str} {scope : Scope} {cl : List (Str × Addr)} {S : List (Addr × Obj) → Prop} {its : Array Value} {Fin : List Value → List (Addr × Obj) → Prop} {news : List (Addr × Obj)} (Acc : Nat → List Value → Prop) (hS : S news)
    (step : ∀ i v ys I oI C oC D m₂ h tk (E' : Value → Shared → Prop), its[i]? = some v → Acc i ys → NsObj oC m₂ → m₂ x = some v → Fr h₀ L h m → News h₀ L h ((I, oI) :: (C, oC) :: (D, lst ys) :: news) →
      wpAny (model prog w) A (isTrue ct (compEnvC scope cl C env) (eval ct (compEnvC scope cl C env))) (fun ok s' => if ok = true then
        wpAny (model prog w) A (eval elt (compEnvC scope cl C env)) (fun y => Kept h₀ L m ((I, oI) :: (C, oC) :: (D, lst ys) :: news) { s with heap := h, toks := tk } (Acc (i + 1) (ys ++ [y]))) E' s'
        else Kept h₀ L m ((I, oI) :: (C, oC) :: (D, lst ys) :: news) { s with heap := h, toks := tk } (Acc (i + 1) ys) s') E' { s with heap := h, toks := tk })
    (fin : ∀ ys, Acc its.size ys → Fin ys news) : ∀ k i ys, i + k = its.size → Acc i ys → CompRestT prog w A h₀ L m env ct elt x scope cl s S (fun i v => its[i]? = some v) Fin k i ys news
  | 0, i, ys, e, a => fin ys (by have : i = its.size := e; rw [← this]; exact a)
  | k + 1, i, ys, e, a => by
    refine CompRestT.succ fun v I oI C oC D m₂ h tk E' hv hC hx F N off ne => ?_
    refine wpAny_mono (step i v ys I oI C oC D m₂ h tk E' hv a hC hx F N) (fun ok s' hs => ?_) fun _ _ e => e
    cases ok with
    | true =>
      rw [if_pos rfl] at hs ⊢
      refine wpAny_mono hs (fun y s'' hk => ?_) fun _ _ e => e
      obtain ⟨h', tk', rfl, F', N', a'⟩ := hk
      exact CompEnd.intro F' N' news (fun _ h => h) off hS (runT Acc hS step fin k (i + 1) _ (by omega) a')
    | false =>
      rw [if_neg Bool.false_ne_true] at hs ⊢
      obtain ⟨h', tk', rfl, F', N', a'⟩ := hs
      exact CompEnd.intro F' N' news (fun _ h => h) off hS (runT Acc hS step fin k (i + 1) _ (by omega) a')
theorem runU {elt : Expr} {x : Str} {scope : Scope} {cl : List (Str × Addr)} {S : List (Addr × Obj) → Prop} {its : Array Value} {Fin : List Value → List (Addr × Obj) → Prop} (Acc : Nat → List Value → List (Addr × Obj) → Prop) (hS : ∀ i ys news, Acc i ys news → S news)
    (step : ∀ i v ys news I oI C oC D m₂ h tk (E' : Value → Shared → Prop), its[i]? = some v → Acc i ys news → NsObj oC m₂ → m₂ x = some v → Fr h₀ L h m → News h₀ L h ((I, oI) :: (C, oC) :: (D, lst ys) :: news) → Off3 I C D news →
      wpAny (model prog w) A (eval elt (compEnvC scope cl C env)) (fun y s₂ => ∃ h' tk' news', s₂ = { s with heap := h', toks := tk' } ∧ Fr h₀ L h' m ∧ News h₀ L h' ((I, oI) :: (C, oC) :: (D, lst ys) :: news') ∧ Off3 I C D news' ∧ Acc (i + 1) (ys ++ [y]) news') E' { s with heap := h, toks := tk })
    (fin : ∀ ys news, Acc its.size ys news → Fin ys news) : ∀ k i ys news, i + k = its.size → Acc i ys news → CompRest prog w A h₀ L m env elt x scope cl s S (fun i v => its[i]? = some v) Fin k i ys news
  | 0, i, ys, news, e, a => fin ys news (by have : i = its.size := e; rw [← this]; exact a)
  | k + 1, i, ys, news, e, a => by
    refine CompRest.succ fun v I oI C oC D m₂ h tk E' hv hC hx F N off ne => ?_
    refine wpAny_mono (step i v ys news I oI C oC D m₂ h tk E' hv a hC hx F N off) (fun y s' hs => ?_) fun _ _ e => e
    obtain ⟨h', tk', news', rfl, F', N', off', a'⟩ := hs
    exact CompEnd.intro F' N' news' (fun _ h => h) off' (hS _ _ _ a') (runU Acc hS step fin k (i + 1) _ _ (by omega) a')
end
end Mine
theorem Mine.offLc : True := by
  w_top off
  trivial
end
section
set_option maxRecDepth 100000
set_option Elab.async false
set_option maxHeartbeats 0
namespace Mine
open PySem PySem.W PyProof.Rows PySem.Calls
local macro_rules | `(tactic| ktr_enter) => `(tactic| (refine' code_defC ?k1 ?k2 ?k3 ?k4 ?k5 ?kA ?kF ?kK ?k6 ?k7 ?k8 ?k9 ?kB ?kD ?_ ?c2 ?c3 ?c4; (case kA => exact rfl); (case kF => exact rfl); (case kK => assumption); (case k1 => k_asm); (case k2 => k_asm); (case k3 => k_asm); (case k4 => k_asm); (case k5 => k_asm); (case k6 => k_is); (case k7 => k_is); (case k8 => ktr_room); (case k9 => first | exact binds_K (by k_in) rfl (by k_is) rfl rfl rfl | exact BindsTo.of_eq rfl); (case kB => exact rfl); (case kD => decide +kernel); (case c2 => exact rfl); (case c3 => exact rfl); (case c4 => exact rfl); k_whole; intro g' L' h' tk' cells' FG' F' N' Y' B' X' T' l1; (try k_lt l1); k_cells Y'; (try simp only [List.cons_append, List.nil_append] at N'); (try dsimp only); (try k_fold)))
local macro_rules | `(tactic| k_mem) => `(tactic| first | exact List.Mem.tail _ (by assumption) | exact List.Mem.tail _ (List.Mem.tail _ (by assumption)) | exact List.Mem.tail _ (List.Mem.tail _ (List.Mem.tail _ (by assumption))) | exact List.Mem.tail _ (List.Mem.tail _ (List.Mem.tail _ (List.Mem.tail _ (by assumption)))))
local macro_rules | `(tactic| k_all) => `(tactic| assumption)

local macro_rules | `(tactic| walk_at "call builtin:str.lower") => `(tactic| (refine SCL.lower (Nat.le_trans (by assumption : _ ≤ 100) (by decide)) ?_; intro kLow))
local macro_rules | `(tactic| walk_at "call ref") => `(tactic| 
  (k_dflt (refine' wpAny_call (c_conv ?hx ?kB ?kF ?kX ?kN ?kT ?kk ?kd ?ku ?_); (case kB => k_asm); (case kF => k_asm); (case kX => k_asm); (case kN => k_asm); (case kT => k_asm); (case hx => assumption); (case kk => exact rfl); (case kd => ktr_room); (case ku => ktr_units); k_whole); intro h9 tk9 F9 N9; (try dsimp only); (try k_fold)))
local macro_rules | `(tactic| k_all) => `(tactic| exact fun (p : Addr × Obj) hp => Nat.ne_of_lt (Nat.lt_succ_of_lt ((by assumption : ∀ p : Addr × Obj, p ∈ _ → @LT.lt Nat _ p.1 _) p hp)))
local macro_rules | `(tactic| walk_at "eval ListComp") => `(tactic| k_dflt (refine LCt.ListComp_T (F₀ := by k_asm) (by with_unfolding_all rfl) (by decide) (by rfl) (by decide) (by rfl) ?_))
theorem News_skip {h₀ h : Heap} {L : Addr} {p q : Addr × Obj} {news : List (Addr × Obj)} (N : News h₀ L h (p :: q :: news)) : News h₀ L h (p :: news) := fun x hx => N x (by
  rcases List.mem_cons.mp hx with rfl | hx
  · exact .head _
  · exact .tail _ (.tail _ hx))
def StrsAre : List Value → List Str → Prop
  | [], [] => True
  | v :: vs, b :: bs => (∃ t, v = .str b t) ∧ StrsAre vs bs
  | _, _ => False
theorem StrsAre.snoc {b : Str} {t : Tok} : ∀ {vs bs}, StrsAre vs bs → StrsAre (vs ++ [.str b t]) (bs ++ [b])
  | [], [], _ => ⟨⟨t, rfl⟩, trivial⟩
  | [], _ :: _, h => h.elim
  | _ :: _, [], h => h.elim
  | _ :: _, _ :: _, h => ⟨h.1, h.2.snoc⟩
def allv (ps : List (Str × Str)) (z : Str) : List Str := (ps.filter fun p => Txt.lower p.1 == z).map (·.2)
theorem allv_take {ps : List (Str × Str)} {z : Str} {i : Nat} {p : Str × Str} (e : ps[i]? = some p) : allv (ps.take (i + 1)) z = allv (ps.take i) z ++ (if Txt.lower p.1 == z then [p.2] else []) := by
  unfold allv
  rw [List.take_succ, e, List.filter_append, List.map_append]
  congr 1
  show List.map _ (List.filter _ [p]) = _
  rw [List.filter_cons]
  split <;> simp_all
theorem c_all {w : World} {mean : ExcName → Option Value} {mg mb : Str → Option Value}
  {dp un : Nat} {gd : Option (List Code)} {cn : Str} {cs : Scope} {a : Addr} {ccd : Value} {cl : List (Str × Addr)} {outer : List Env} {A₀ : Around} {base h₀ : Heap} {L : Addr} {m : Str → Option Value} {news : List (Addr × Obj)} {s : Shared}
    {R : Result → Shared → Prop} {x : Str} {t : Tok} {o d l : Addr} {k : Tok} {vs : List Value} {n : Nat} {ps : List (Str × Str)} (hx : found nmC (Txt.lower x) = some false) (hxl : x.length ≤ 100)
    (ho : (o, instObj 175 d) ∈ news) (hdm : (d, hdD w.params l k) ∈ news) (hlm : (l, W.listOf vs.toArray n) ∈ news) (hp : PairsIn news vs ps) (hps : ∀ p ∈ ps, p.1.length ≤ 100) (hvs : vs.length ≤ 100)
    (B : Below A₀ base outer h₀) (F : Fr h₀ L s.heap m) (X : (Mine.hd.heap_39 w.params).In h₀) (N : News h₀ L s.heap news) (T : Top Mine.qT (looseW Mine.qT Mine.looseT) mean mg mb h₀) (hk : cs.kind = .function) (hd : dp + 2 < recursionLimit) (_hu : un + 16 < cLine)
    (ret : ∀ D ys h' tk', StrsAre ys (allv ps (Txt.lower x)) → Fr h₀ L h' m → News h₀ L h' ((D, LCg.lst ys) :: news) → R (.ok (.ret (.ref D))) { s with heap := h', toks := tk' }) :
    codeAny (model PySem.Challenge.rw_pe0279_01.row.prog w) (ktrTop dp un gd cn cs L a ccd cl outer) (.call (.ref 114) ⟨[.ref o, .str x t], []⟩) R s := by
  revert X; k_fill; intro X
  k_dflt ktr_enter
  k_steps
  have hm2 : ∀ q : Addr × Obj, (l, W.listOf vs.toArray n) ∈ q :: news := fun q => .tail _ hlm
  refine LCt.CompSrcT.ledger rfl (by k_asm) (by k_asm) (hm2 _) (by rw [List.size_toArray]; exact Nat.le_trans hvs (by decide)) ?_
  intro g9
  refine runT (Acc := fun i ys => StrsAre ys (allv (ps.take i) (Txt.lower x))) (.inr ⟨_, hm2 _, rfl, _, rfl⟩) ?_ ?_ _ 0 [] (Nat.zero_add _) trivial
  · intro i v ys I oI C oC D m₂ h tk E' hv ha hC hx2 F2 N2
    rw [List.getElem?_toArray] at hv
    obtain ⟨p, T9, ta, tb, hpi, rfl, hT⟩ := hp.at hv
    have hpl := hps p (List.mem_of_getElem? hpi)
    k_steps
    · refine Kept.intro F2 N2 ?_
      rw [allv_take hpi, (by assumption : (Txt.lower p.1 == Txt.lower x) = true), if_pos rfl]
      exact ha.snoc
    · refine Kept.intro F2 N2 ?_
      rw [allv_take hpi, (by assumption : (Txt.lower p.1 == Txt.lower x) = false), if_neg Bool.false_ne_true, List.append_nil]
      exact ha
  · intro ys hys D h tk F7 N7 off
    have hlen : vs.toArray.size = ps.length := by rw [List.size_toArray]; exact hp.len
    rw [hlen, List.take_length] at hys
    k_steps
    exact ret D ys _ _ hys (by k_asm) (News_skip (by k_asm))
end Mine
theorem Mine.offC7 : True := by
  w_top off
  trivial
end
section
set_option maxRecDepth 100000
set_option Elab.async false
set_option maxHeartbeats 0
namespace Mine
local macro_rules | `(tactic| walk_at "none such") => `(tactic| skip)
open PySem PySem.W PyProof.Rows PySem.Calls

theorem mem_frames {env : Env} {L b : Addr} {outer : List Env} (hf : env.frame = some L) (hm : b ∈ (env :: outer).filterMap (·.frame)) : b = L ∨ b ∈ outer.filterMap (·.frame) := by
  obtain ⟨e, he, h⟩ := List.mem_filterMap.mp hm
  rcases List.mem_cons.mp he with rfl | he
  · exact .inl (by rw [hf] at h; exact (Option.some.inj h).symm)
  · exact .inr (List.mem_filterMap.mpr ⟨e, he, h⟩)
section
variable {M : Model} {A : Around} {E : Value → Shared → Prop} {s' : Shared} {base g g₂ : Heap} {env : Env} {outer : List Env} {L e t : Addr} {m : Str → Option Value} {Q : Unit → Shared → Prop} {news : List (Addr × Obj)}
theorem leave_onG {cls : Value} {vs : List Value} (hf : env.frame = some L) (K : Below A base outer g) (F : Fr g L g₂ m) (R : RaisedS base g₂ (env :: outer) e cls t vs news s'.heap) (hsm : g₂.UpToSlots s'.heap)
    (hQ : ∀ h', RaisedS base g outer e cls t vs news h' → g.UpToSlots h' → Q () { s' with heap := h' }) : wpAny M (A.deeper env) (leaving env (.ref e)) Q E s' := by
  obtain ⟨⟨B, hB, hBG, hl, hfl, hnew⟩, htup⟩ := R
  refine wpAny_leaves_onW (Around.frames_deeper K.stack) hf hfl fun h' x1 x2 => ?_
  refine hQ h' ⟨⟨B, hB, fun b o q nm => hBG b o (F.keep b o q) fun hm => ?_, fun q hq => ⟨(hl q hq).1, kts_none F.keep (hl q hq).2.1, (hl q hq).2.2⟩, x1, hnew⟩, htup.of_slots x2⟩ ((Heap.UpToSlots.of_keeps F.keep).trans (hsm.trans x2))
  rcases mem_frames hf hm with rfl | z
  · rw [kts_self F] at q; cases q
  · exact nm z
end
local macro_rules | `(tactic| ktr_enter) => `(tactic| (refine' code_defC ?k1 ?k2 ?k3 ?k4 ?k5 ?kA ?kF ?kK ?k6 ?k7 ?k8 ?k9 ?kB ?kD ?_ ?c2 ?c3 ?c4; (case kA => exact rfl); (case kF => exact rfl); (case kK => assumption); (case k1 => k_asm); (case k2 => k_asm); (case k3 => k_asm); (case k4 => k_asm); (case k5 => k_asm); (case k6 => k_is); (case k7 => k_is); (case k8 => ktr_room); (case k9 => first | exact binds_K (by k_in) rfl (by k_is) rfl rfl rfl | exact BindsTo.of_eq rfl); (case kB => exact rfl); (case kD => decide +kernel); (case c2 => exact rfl); (case c3 => exact rfl); (case c4 => exact rfl); k_whole; intro g' L' h' tk' cells' FG' F' N' Y' B' X' T' l1; (try k_lt l1); k_cells Y'; (try simp only [List.cons_append, List.nil_append] at N'); (try dsimp only); (try k_fold)))
local macro_rules | `(tactic| k_mem) => `(tactic| first | exact List.Mem.tail _ (by assumption) | exact List.Mem.tail _ (List.Mem.tail _ (by assumption)) | exact List.Mem.tail _ (List.Mem.tail _ (List.Mem.tail _ (by assumption))) | exact List.Mem.tail _ (List.Mem.tail _ (List.Mem.tail _ (List.Mem.tail _ (by assumption)))))
local macro_rules | `(tactic| k_all) => `(tactic| assumption)

local macro_rules | `(tactic| walk_at "call builtin:str.lower") => `(tactic| (refine SCL.lower (Nat.le_trans (by assumption : _ ≤ 100) (by decide)) ?_; intro kLow))
local macro_rules | `(tactic| walk_at "call ref") => `(tactic| (k_dflt (refine' wpAny_call (c_convX ?hx ?kB ?kF ?kX ?kN ?kT ?kk ?kd ?ku ?_); (case kB => k_asm); (case kF => k_asm); (case kX => k_asm); (case kN => k_asm); (case kT => k_asm); (case hx => assumption); (case kk => exact rfl); (case kd => ktr_room); (case ku => ktr_units); k_whole); intro e9 et9 vs9 g9 h9 tk9 F9 R9 U9; (try dsimp only)))
local macro_rules | `(tactic| walk_at "leaving ref") => `(tactic| (k_dflt (refine leave_onG rfl (by assumption) (by assumption) (by assumption) (by assumption) ?_); intro kh kR kU))
theorem c_allX {w : World} {mean : ExcName → Option Value} {mg mb : Str → Option Value}
  {dp un : Nat} {gd : Option (List Code)} {cn : Str} {cs : Scope} {a : Addr} {ccd : Value} {cl : List (Str × Addr)} {outer : List Env} {A₀ : Around} {base h₀ : Heap} {L : Addr} {m : Str → Option Value} {news : List (Addr × Obj)} {s : Shared}
    {R : Result → Shared → Prop} {x : Str} {t : Tok} {o d : Addr} (hx : found nmC (Txt.lower x) = some true) (hxl : x.length ≤ 100) (ho : (o, instObj 175 d) ∈ news) {l : Addr} {k : Tok} (hdm : (d, hdD w.params l k) ∈ news)
    (B : Below A₀ base outer h₀) (F : Fr h₀ L s.heap m) (X : (Mine.hd.heap_39 w.params).In h₀) (N : News h₀ L s.heap news) (T : Top Mine.qT (looseW Mine.qT Mine.looseT) mean mg mb h₀) (hk : cs.kind = .function) (hd : dp + 2 < recursionLimit) (_hu : un + 16 < cLine)
    (rai : ∀ e et vs g h' tk', Fr h₀ L g m → RaisedS base g (envX cn cs L a ccd cl :: outer) e (.type "ValueError") et vs news h' → g.UpToSlots h' → R (.error (.ref e)) { s with heap := h', toks := tk' }) :
    codeAny (model PySem.Challenge.rw_pe0279_01.row.prog w) (ktrTop dp un gd cn cs L a ccd cl outer) (.call (.ref 114) ⟨[.ref o, .str x t], []⟩) R s := by
  revert X; k_fill; intro X
  k_dflt ktr_enter
  k_steps
  exact rai _ _ _ _ _ _ (by assumption) (RaisedS_sub (by assumption) fun p hp => .tail _ hp) (by assumption)
local macro_rules | `(tactic| ktr_enter) => `(tactic| (refine' code_def ?k1 ?k2 ?k3 ?k4 ?k5 ?kA ?kF ?kK ?k6 ?k7 ?k8 ?k9 ?kB ?_ ?c2 ?c3 ?c4 ?c5; (case kA => exact rfl); (case kF => exact rfl); (case kK => assumption); (case k1 => k_asm); (case k2 => k_asm); (case k3 => k_asm); (case k4 => k_asm); (case k5 => k_asm); (case k6 => k_is); (case k7 => k_is); (case k8 => ktr_room); (case k9 => first | exact binds_K (by k_in) rfl (by k_is) rfl rfl rfl | exact BindsTo.of_eq rfl); (case c5 => decide); (case kB => exact locs rfl); (case c2 => exact rfl); (case c3 => exact rfl); (case c4 => exact rfl); k_whole; intro g' L' h' FG' F' N' B' X' T'; (try dsimp only); (try k_fold)))

local macro_rules | `(tactic| walk_at "subscriptTail Name Slice ref ref") => `(tactic| (k_dflt (refine slice_list (by assumption) (by assumption) (News.isList (by assumption) (by assumption)) .none .none ?_ (hsz := by rw [List.size_toArray]; exact Nat.le_trans (by assumption : _ ≤ 100) (by decide))); intro h7 F7 N7; (try dsimp only)))
local macro_rules | `(tactic| walk_at "subscriptTail") => `(tactic| (k_dflt (refine slice_list (by assumption) (by assumption) (News.isList (by assumption) (by assumption)) .none .none ?_ (hsz := by rw [List.size_toArray]; exact Nat.le_trans (by assumption : _ ≤ 100) (by decide))); intro h7 F7 N7; (try dsimp only)))
theorem c_items {w : World} {mean : ExcName → Option Value} {mg mb : Str → Option Value}
  {dp un : Nat} {gd : Option (List Code)} {cn : Str} {cs : Scope} {a : Addr} {ccd : Value} {cl : List (Str × Addr)} {outer : List Env} {A₀ : Around} {base h₀ : Heap} {L : Addr} {m : Str → Option Value} {news : List (Addr × Obj)} {s : Shared}
    {R : Result → Shared → Prop} {o d l : Addr} {k : Tok} {vs : List Value} {n : Nat} (ho : (o, instObj 175 d) ∈ news) (hdm : (d, hdD w.params l k) ∈ news) (hlm : (l, W.listOf vs.toArray n) ∈ news) (hvs : vs.length ≤ 100)
    (B : Below A₀ base outer h₀) (F : Fr h₀ L s.heap m) (X : (Mine.hd.heap_39 w.params).In h₀) (N : News h₀ L s.heap news) (T : Top Mine.qT (looseW Mine.qT Mine.looseT) mean mg mb h₀) (hk : cs.kind = .function) (hd : dp + 2 < recursionLimit) (_hu : un + 16 < cLine)
    (ret : ∀ (D : Addr) h' tk', Fr h₀ L h' m → News h₀ L h' ((D, { cls := .type "list", data := .seq vs.toArray }) :: news) → R (.ok (.ret (.ref D))) { s with heap := h', toks := tk' }) :
    codeAny (model PySem.Challenge.rw_pe0279_01.row.prog w) (ktrTop dp un gd cn cs L a ccd cl outer) (.call (.ref 139) ⟨[.ref o], []⟩) R s := by
  revert X; k_fill; intro X
  k_dflt ktr_enter
  have ret' : ∀ D h' tk', Fr h₀ L h' m → News h₀ L h' ((D, { cls := .type "list", data := .seq (slicePick vs.toArray none none none) }) :: news) → R (.ok (.ret (.ref D))) { s with heap := h', toks := tk' } :=
    fun D h' tk' F N => ret D h' tk' F (by rw [slicePick_all] at N; exact N)
  k_steps
  exact ret' _ _ _ (by k_asm) (by k_asm)
end Mine
theorem Mine.offC8 : True := by
  w_top off
  trivial
end
section
set_option maxRecDepth 100000
set_option Elab.async false
set_option maxHeartbeats 0
namespace Mine
open PySem PySem.W PyProof.Rows PySem.Calls
def IsRow (x1 x2 x3 : Str) : Prop := ∃ r, r ∈ rows ∧ x1 = st1 r.sign ∧ x2 = st1 r.small ∧ x3 = stL r.fold
theorem allLt_mem {d : Addr} : ∀ {l : List (Addr × Obj)}, AllLt d l → ∀ p ∈ l, @LT.lt Nat _ p.1 d
  | [], _, _, h => nomatch h
  | _ :: _, x, p, h => by
    rcases List.mem_cons.mp h with rfl | h
    · exact x.1
    · exact allLt_mem x.2 p h
theorem fm_rng (x : Int) (k : Int) (hk : 0 < k) : 0 ≤ x.fmod k ∧ x.fmod k < k := ⟨Int.fmod_nonneg_of_pos _ hk, Int.fmod_lt_of_pos _ hk⟩
theorem ofNat_of {j k : Int} (h : 0 ≤ j ∧ j < k) : ∃ n : Nat, j = (n : Int) ∧ (n : Int) < k := ⟨j.toNat, (Int.toNat_of_nonneg h.1).symm, by rw [Int.toNat_of_nonneg h.1]; exact h.2⟩
theorem row_of {k : List Row} (hk : k ∈ kinds) {r : Row} (hr : r ∈ k) : r ∈ rows := mem_kinds.mpr ⟨k, hk, hr⟩
theorem isrow0 {x e : Int} (h : e = if 65 ≤ x.fmod 128 ∧ x.fmod 128 ≤ 90 then x.fmod 128 + 32 else x.fmod 128) : IsRow ⟨#[(x.fmod 128).toNat]⟩ ⟨#[e.toNat]⟩ ⟨#[e.toNat]⟩ := by
  obtain ⟨n, hn, hl⟩ := ofNat_of (fm_rng x 128 (by decide))
  rw [hn] at h ⊢
  have hl : n < 128 := by omega
  have he : e.toNat = if 65 ≤ n ∧ n ≤ 90 then n + 32 else n := by
    rw [h]; split <;> split <;> omega
  refine ⟨k0 n, row_of (k := (List.range 128).map k0) (by simp [kinds]) (List.mem_map_of_mem (List.mem_range.mpr hl)), rfl, ?_, ?_⟩
  · rw [he]; rfl
  · rw [he]; rfl
theorem isrow1 {x e : Int} {x3 : Str} (h : e = if 192 ≤ 128 + x.fmod 128 ∧ 128 + x.fmod 128 ≤ 222 ∧ 128 + x.fmod 128 ≠ 215 then 128 + x.fmod 128 + 32 else 128 + x.fmod 128)
    (h3 : (128 + x.fmod 128 = 223 ∧ x3 = Str.ofString "ss") ∨ (128 + x.fmod 128 ≠ 223 ∧ 128 + x.fmod 128 = 181 ∧ x3 = st1 956) ∨ (128 + x.fmod 128 ≠ 223 ∧ 128 + x.fmod 128 ≠ 181 ∧ x3 = ⟨#[e.toNat]⟩)) :
    IsRow ⟨#[(128 + x.fmod 128).toNat]⟩ ⟨#[e.toNat]⟩ x3 := by
  obtain ⟨n, hn, hl⟩ := ofNat_of (fm_rng x 128 (by decide))
  rw [hn] at h h3 ⊢
  have hl : n < 128 := by omega
  have he : e.toNat = if 192 ≤ 128 + n ∧ 128 + n ≤ 222 ∧ 128 + n ≠ 215 then 128 + n + 32 else 128 + n := by
    rw [h]; split <;> split <;> omega
  have hs : (128 + (n : Int)).toNat = 128 + n := by omega
  refine ⟨k1 n, row_of (k := (List.range 128).map k1) (by simp [kinds]) (List.mem_map_of_mem (List.mem_range.mpr hl)), ?_, ?_, ?_⟩
  · rw [hs]; rfl
  · rw [he]; rfl
  · show x3 = stL (if 128 + n = 223 then [115, 115] else if 128 + n = 181 then [956] else [if 192 ≤ 128 + n ∧ 128 + n ≤ 222 ∧ 128 + n ≠ 215 then 128 + n + 32 else 128 + n])
    rcases h3 with ⟨a, rfl⟩ | ⟨a, b, rfl⟩ | ⟨a, b, rfl⟩
    · rw [if_pos (by omega)]; rfl
    · rw [if_neg (by omega), if_pos (by omega)]; rfl
    · rw [if_neg (by omega), if_neg (by omega), he]; rfl
theorem isrow3 {x e : Int} {x3 : Str} (h : e = if 913 + x.fmod 62 < 940 ∧ 913 + x.fmod 62 ≠ 930 then 913 + x.fmod 62 + 32 else 913 + x.fmod 62)
    (h3 : (913 + x.fmod 62 = 944 ∧ x3 = stL [965, 776, 769]) ∨ (913 + x.fmod 62 ≠ 944 ∧ 913 + x.fmod 62 = 962 ∧ x3 = st1 963) ∨ (913 + x.fmod 62 ≠ 944 ∧ 913 + x.fmod 62 ≠ 962 ∧ x3 = ⟨#[e.toNat]⟩)) :
    IsRow ⟨#[(913 + x.fmod 62).toNat]⟩ ⟨#[e.toNat]⟩ x3 := by
  obtain ⟨n, hn, hl⟩ := ofNat_of (fm_rng x 62 (by decide))
  rw [hn] at h h3 ⊢
  have hl : n < 62 := by omega
  have he : e.toNat = if 913 + n < 940 ∧ 913 + n ≠ 930 then 913 + n + 32 else 913 + n := by
    rw [h]; split <;> split <;> omega
  have hs : (913 + (n : Int)).toNat = 913 + n := by omega
  refine ⟨k3 n, row_of (k := (List.range 62).map k3) (by simp [kinds]) (List.mem_map_of_mem (List.mem_range.mpr hl)), ?_, ?_, ?_⟩
  · rw [hs]; rfl
  · rw [he]; rfl
  · show x3 = stL (if 913 + n = 944 then [965, 776, 769] else if 913 + n = 962 then [963] else [if 913 + n < 940 ∧ 913 + n ≠ 930 then 913 + n + 32 else 913 + n])
    rcases h3 with ⟨a, rfl⟩ | ⟨a, b, rfl⟩ | ⟨a, b, rfl⟩
    · rw [if_pos (by omega)]
    · rw [if_neg (by omega), if_pos (by omega)]; rfl
    · rw [if_neg (by omega), if_neg (by omega), he]; rfl
theorem isrow4 {x y : Int} {x3 : Str} (h3 : (x.fmod 25 = 17 ∧ x3 = st1 952) ∨ (x.fmod 25 ≠ 17 ∧ x3 = ⟨#[(945 + x.fmod 25).toNat]⟩)) :
    IsRow ⟨#[(120488 + 58 * y.fmod 5 + x.fmod 25).toNat]⟩ ⟨#[(120488 + 58 * y.fmod 5 + x.fmod 25).toNat]⟩ x3 := by
  obtain ⟨n, hn, hl⟩ := ofNat_of (fm_rng x 25 (by decide))
  obtain ⟨i, hi, hil⟩ := ofNat_of (fm_rng y 5 (by decide))
  rw [hn] at h3 ⊢
  rw [hi]
  have hs : (120488 + 58 * (i : Int) + (n : Int)).toNat = 120488 + 58 * i + n := by omega
  refine ⟨k4 i n, row_of (k := (List.range 5).flatMap fun i => (List.range 25).map (k4 i)) (by simp [kinds]) (List.mem_flatMap.mpr ⟨i, List.mem_range.mpr (by omega), List.mem_map_of_mem (List.mem_range.mpr (by omega))⟩), ?_, ?_, ?_⟩
  · rw [hs]; rfl
  · rw [hs]; rfl
  · show x3 = stL [if n = 17 then 952 else 945 + n]
    rcases h3 with ⟨a, rfl⟩ | ⟨a, rfl⟩
    · rw [if_pos (by omega)]; rfl
    · rw [if_neg (by omega), show (945 + (n : Int)).toNat = 945 + n by omega]; rfl
theorem isrow6 {x e : Int} (h : e = 1024 + x.fmod 96 + if 1024 + x.fmod 96 < 1040 then 80 else if 1024 + x.fmod 96 < 1072 then 32 else 0) : IsRow ⟨#[(1024 + x.fmod 96).toNat]⟩ ⟨#[e.toNat]⟩ ⟨#[e.toNat]⟩ := by
  obtain ⟨n, hn, hl⟩ := ofNat_of (fm_rng x 96 (by decide))
  rw [hn] at h ⊢
  have he : e.toNat = 1024 + n + (if 1024 + n < 1040 then 80 else if 1024 + n < 1072 then 32 else 0) := by
    rw [h]
    by_cases a : 1024 + n < 1040
    · rw [if_pos (by omega), if_pos a]; omega
    · by_cases b : 1024 + n < 1072
      · rw [if_neg (by omega), if_pos (by omega), if_neg a, if_pos b]; omega
      · rw [if_neg (by omega), if_neg (by omega), if_neg a, if_neg b]; omega
  have hs : (1024 + (n : Int)).toNat = 1024 + n := by omega
  refine ⟨k6 n, row_of (k := (List.range 96).map k6) (by simp [kinds]) (List.mem_map_of_mem (List.mem_range.mpr (by omega))), ?_, ?_, ?_⟩
  · rw [hs]; rfl
  · rw [he]; rfl
  · rw [he]; rfl
def stylesI : List Int := [0, 1, 2, 4, 7, 8, 9, 10, 11, 12]
theorem styles_at : ∀ n, n < 10 → stylesI.getD n 0 = ((styles.getD n 0 : Nat) : Int) ∧ styles.getD n 0 ≤ 12 := by decide +kernel
theorem isrow2 {x y : Int} : IsRow ⟨#[(119808 + 52 * [0, 1, 2, 4, 7, 8, 9, 10, 11, 12].getD (y.fmod 10).toNat 0 + x.fmod 26).toNat]⟩ ⟨#[(119808 + 52 * [0, 1, 2, 4, 7, 8, 9, 10, 11, 12].getD (y.fmod 10).toNat 0 + x.fmod 26).toNat]⟩ ⟨#[(97 + x.fmod 26).toNat]⟩ := by
  obtain ⟨n, hn, hl⟩ := ofNat_of (fm_rng x 26 (by decide))
  obtain ⟨i, hi, hil⟩ := ofNat_of (fm_rng y 10 (by decide))
  rw [hn, hi, Int.toNat_natCast]
  obtain ⟨e1, e2⟩ := styles_at i (by omega)
  have e1' : ([0, 1, 2, 4, 7, 8, 9, 10, 11, 12] : List Int).getD i 0 = ((styles.getD i 0 : Nat) : Int) := e1
  rw [e1']
  have hs : (119808 + 52 * ((styles.getD i 0 : Nat) : Int) + (n : Int)).toNat = 119808 + 52 * (styles.getD i 0) + n := by omega
  refine ⟨k2 i n, row_of (k := (List.range 10).flatMap fun i => (List.range 26).map (k2 i)) (by simp [kinds]) (List.mem_flatMap.mpr ⟨i, List.mem_range.mpr (by omega), List.mem_map_of_mem (List.mem_range.mpr (by omega))⟩), ?_, ?_, ?_⟩
  · rw [hs]; rfl
  · rw [hs]; rfl
  · rw [show (97 + (n : Int)).toNat = 97 + n by omega]; rfl
theorem chr_ok {x y : Int} : 0 ≤ 119808 + 52 * ([0, 1, 2, 4, 7, 8, 9, 10, 11, 12] : List Int).getD (y.fmod 10).toNat 0 + x.fmod 26 ∧ 119808 + 52 * ([0, 1, 2, 4, 7, 8, 9, 10, 11, 12] : List Int).getD (y.fmod 10).toNat 0 + x.fmod 26 ≤ 1114111 := by
  have hx := fm_rng x 26 (by decide)
  obtain ⟨i, hi, hil⟩ := ofNat_of (fm_rng y 10 (by decide))
  rw [hi, Int.toNat_natCast]
  obtain ⟨e1, e2⟩ := styles_at i (by omega)
  have e1' : ([0, 1, 2, 4, 7, 8, 9, 10, 11, 12] : List Int).getD i 0 = ((styles.getD i 0 : Nat) : Int) := e1
  rw [e1']
  omega
theorem isrow5 {x : Int} (n : Nat) (hn : n < 7) (h : x.fmod 7 = n) {x3 : Str} (h3 : x3 = stL (ligs.getD n [])) : IsRow ⟨#[(64256 + x.fmod 7).toNat]⟩ ⟨#[(64256 + x.fmod 7).toNat]⟩ x3 := by
  rw [h]
  have hs : (64256 + (n : Int)).toNat = 64256 + n := by omega
  refine ⟨k5 n, row_of (k := (List.range 7).map k5) (by simp [kinds]) (List.mem_map_of_mem (List.mem_range.mpr hn)), ?_, ?_, ?_⟩
  · rw [hs]; rfl
  · rw [hs]; rfl
  · rw [h3]; rfl
end Mine
theorem Mine.offC9a : True := by
  w_top off
  trivial
end
section
set_option maxRecDepth 100000
set_option Elab.async false
set_option maxHeartbeats 0
namespace Mine
open PySem PySem.W PyProof.Rows PySem.Calls

def ligsS : List Str := [Str.ofString "ff", Str.ofString "fi", Str.ofString "fl", Str.ofString "ffi", Str.ofString "ffl", Str.ofString "st", Str.ofString "st"]
theorem ligsS_at : ∀ n, n < 7 → ligsS.getD n Str.empty = stL (ligs.getD n []) := by decide +kernel
theorem isrow5s {x : Int} : IsRow ⟨#[(64256 + x.fmod 7).toNat]⟩ ⟨#[(64256 + x.fmod 7).toNat]⟩ (ligsS.getD (x.fmod 7).toNat Str.empty) := by
  obtain ⟨n, hn, hl⟩ := ofNat_of (fm_rng x 7 (by decide))
  refine isrow5 n (by omega) hn ?_
  rw [hn, Int.toNat_natCast]
  exact ligsS_at n (by omega)
theorem lig_sub {prog : Program} {w : World} {A : Around} {E : Value → Shared → Prop} {s : Shared} {value slice : PySem.Expr} {l : Addr} {x : Int} {u t1 t2 t3 t4 t5 t6 t7 : Tok} {Q : Value → Shared → Prop} {h₀ : Heap} {L : Addr} {news : List (Addr × Obj)}
    (N : News h₀ L s.heap ((l, { cls := .type "tuple", data := .seq #[.str (Str.ofString "ff") t1, .str (Str.ofString "fi") t2, .str (Str.ofString "fl") t3, .str (Str.ofString "ffi") t4, .str (Str.ofString "ffl") t5, .str (Str.ofString "st") t6, .str (Str.ofString "st") t7] }) :: news))
    (h : ∀ t', Q (.str (ligsS.getD (x.fmod 7).toNat Str.empty) t') s)
    (hs : subscripted slice false (.ref l) (.int (x.fmod 7) u) = operate [.ref l, .int (x.fmod 7) u] (getItem (.ref l) (.int (x.fmod 7) u)) := by with_unfolding_all rfl) :
    wpAny (model prog w) A (subscriptTail value slice (.ref l) (.int (x.fmod 7) u)) Q E s := by
  have r := fm_rng x 7 (by decide)
  exact KTb.item_tup (ws := ligsS) (vs := [.str (Str.ofString "ff") t1, .str (Str.ofString "fi") t2, .str (Str.ofString "fl") t3, .str (Str.ofString "ffi") t4, .str (Str.ofString "ffl") t5, .str (Str.ofString "st") t6, .str (Str.ofString "st") t7])
    ⟨_, N.get (.head _), rfl, _, rfl⟩ (.cons _ _ (.cons _ _ (.cons _ _ (.cons _ _ (.cons _ _ (.cons _ _ (.cons _ _ .nil))))))) r.1 (by show _ < (7 : Int); exact r.2) (by omega) (fun t' _ => h t') hs
local macro_rules | `(tactic| ktr_enter) => `(tactic| (refine' code_def ?k1 ?k2 ?k3 ?k4 ?k5 ?kA ?kF ?kK ?k6 ?k7 ?k8 ?k9 ?kB ?_ ?c2 ?c3 ?c4 ?c5; (case kA => exact rfl); (case kF => exact rfl); (case kK => assumption); (case k1 => k_asm); (case k2 => k_asm); (case k3 => k_asm); (case k4 => k_asm); (case k5 => k_asm); (case k6 => k_is); (case k7 => k_is); (case k8 => ktr_room); (case k9 => first | exact binds_K (by k_in) rfl (by k_is) rfl rfl rfl | exact BindsTo.of_eq rfl); (case c5 => decide); (case kB => exact locs rfl); (case c2 => exact rfl); (case c3 => exact rfl); (case c4 => exact rfl); k_whole; intro g' L' h' FG' F' N' B' X' T'; (try dsimp only); (try k_fold)))

local macro_rules | `(tactic| walk_at "call builtin:chr") => `(tactic| with_reducible refine chr_of_range chr_ok.1 chr_ok.2 ?_)
local macro_rules | `(tactic| walk_at "subscriptTail") => `(tactic| ((with_reducible show wpAny _ _ (subscriptTail _ _ (Value.ref _) (Value.int (Int.fmod _ 7) _)) _ _ _); k_dflt (refine lig_sub (by assumption) ?_); intro t9))
theorem c_sign {w : World} {mean : ExcName → Option Value} {mg mb : Str → Option Value}
  {dp un : Nat} {gd : Option (List Code)} {cn : Str} {cs : Scope} {a : Addr} {ccd : Value} {cl : List (Str × Addr)} {outer : List Env} {A₀ : Around} {base h₀ : Heap} {L : Addr} {m : Str → Option Value} {news : List (Addr × Obj)} {s : Shared}
    {Q E : Value → Shared → Prop} {n : Int} {t : Tok}
    (B : Below A₀ base outer h₀) (F : Fr h₀ L s.heap m) (X : (Mine.hd.heap_39 w.params).In h₀) (N : News h₀ L s.heap news) (T : Top Mine.qT (looseW Mine.qT Mine.looseT) mean mg mb h₀) (hk : cs.kind = .function) (hd : dp + 1 < recursionLimit) (_hu : un + 8 < cLine)
    (ret : ∀ (T : Addr) x1 x2 x3 t1 t2 t3 h' tk', (∀ p ∈ news, @LT.lt Nat _ p.1 T) → IsRow x1 x2 x3 → Fr h₀ L h' m → News h₀ L h' ((T, tupObj #[.str x1 t1, .str x2 t2, .str x3 t3]) :: news) → Q (.ref T) { s with heap := h', toks := tk' }) :
    wpAny (model PySem.Challenge.rw_pe0279_01.row.prog w) (ktrTop dp un gd cn cs L a ccd cl outer) (call (.ref 232) [.int n t]) Q E s := by
  revert X; k_fill; intro X
  refine wpAny_call ?_
  k_dflt ktr_enter
  k_steps
  all_goals (
    refine' ret _ _ _ _ _ _ _ _ _ ?hl ?hr ?hF ?hN
    (case hN => first | exact News_skip (by assumption) | exact News_skip (News_skip (by assumption)))
    (case hF => assumption)
    (case hl => first | exact allLt_mem (And.right (by assumption : @LT.lt Nat _ _ _ ∧ AllLt _ news)) | exact allLt_mem (And.right (And.right (by assumption : @LT.lt Nat _ _ _ ∧ @LT.lt Nat _ _ _ ∧ AllLt _ news))))
    (case hr => first
      | (have hk7 : n.fmod 7 = 0 := by with_reducible assumption
         exact isrow0 (by first | exact (if_pos (by omega)).symm | exact (if_neg (by omega)).symm))
      | (have hk7 : n.fmod 7 = 1 := by with_reducible assumption
         exact isrow1 (by first | exact (if_pos (by omega)).symm | exact (if_neg (by omega)).symm) (by first | exact .inl ⟨by omega, rfl⟩ | exact .inr (.inl ⟨by omega, by omega, by kernel_rfl!⟩) | exact .inr (.inr ⟨by omega, by omega, rfl⟩)))
      | (have hk7 : n.fmod 7 = 2 := by with_reducible assumption
         exact isrow2)
      | (have hk7 : n.fmod 7 = 3 := by with_reducible assumption
         exact isrow3 (by first | exact (if_pos (by omega)).symm | exact (if_neg (by omega)).symm) (by first | exact .inl ⟨by omega, by kernel_rfl!⟩ | exact .inr (.inl ⟨by omega, by omega, by kernel_rfl!⟩) | exact .inr (.inr ⟨by omega, by omega, rfl⟩)))
      | (have hk7 : n.fmod 7 = 4 := by with_reducible assumption
         exact isrow4 (by first | exact .inl ⟨by omega, by kernel_rfl!⟩ | exact .inr ⟨by omega, rfl⟩))
      | (have hk7 : n.fmod 7 = 5 := by with_reducible assumption
         exact isrow5s)
      | exact isrow6 (by first | rw [if_pos (by omega)] | rw [if_neg (by omega), if_pos (by omega)] | rw [if_neg (by omega), if_neg (by omega)])))
end Mine
theorem Mine.offC9 : True := by
  w_top off
  trivial
end
section
set_option maxRecDepth 100000
set_option Elab.async false
set_option maxHeartbeats 0
namespace Mine
open PySem PySem.W PyProof.Rows PySem.Calls

section
variable {M : Model} {prog : Program} {w : World} {A A₀ : Around} {E : Value → Shared → Prop} {s s' : Shared} {base g h₀ g₂ G B h₅ : Heap} {env : Env} {outer : List Env} {L e t : Addr} {m : Str → Option Value} {news : List (Addr × Obj)} {K : Frag} {p : Program} {loose : List Str} {mean : ExcName → Option Value} {mg mb : Str → Option Value}
/-- stepping below an env of any cells -/
theorem Below_push (B : Below A base outer g) (F : Fr g L h₀ m) (hf : env.frame = some L) (hk : env.scope.kind ≠ .module) : Below (A.deeper env) base (env :: outer) h₀ := by
  have hnew : base.get? L = none := by
    cases hq : base.get? L with
    | none => rfl
    | some o => exact absurd (Nat.lt_of_lt_of_le (Heap.lt_size (B.stays L o hq)) F.above) (Nat.lt_irrefl _)
  exact ⟨Around.frames_deeper B.stack, fun b o e => F.keep b o (B.stays b o e), .cons hk hf F.ns hnew (B.frames.of_keeps fun b o e _ => ⟨o, F.keep b o e, rfl⟩)⟩
theorem enterG (B : Below A₀ base outer h₀) (F : Fr h₀ L s.heap m) (N : News h₀ L s.heap news) (hA : A.frames = some (env :: outer)) (hf : env.frame = some L) (hk : env.scope.kind ≠ .module) :
    ∃ oL es ep, (hideAll s.heap (news.map (·.1))).get? L = some oL ∧ oL.data = .dict es ep ∧ (∀ (sl : Array (Option Value)) h', h'.get? L = some { oL with slots := sl } → Heap.Ns h' L m) ∧ (hideAll s.heap (news.map (·.1))).Ns L m ∧
      h₀.StaysIn (hideAll s.heap (news.map (·.1))) ∧ Below A base (env :: outer) (hideAll s.heap (news.map (·.1))) := by
  have nm : ∀ b o, h₀.get? b = some o → b ∉ news.map (·.1) := fun b o e q => by
    obtain ⟨p, hp, rfl⟩ := List.mem_map.mp q
    rw [(N p hp).2.2] at e; cases e
  have st : h₀.StaysIn (hideAll s.heap (news.map (·.1))) := fun b o e => hideAll_get _ (F.keep b o e) (nm b o e)
  obtain ⟨oL, es, ep, hL, hLd, hLk, hLf⟩ := F.ns
  have nL : L ∉ news.map (·.1) := fun q => by
    obtain ⟨p, hp, e⟩ := List.mem_map.mp q
    exact (N p hp).2.1 e
  have hLg := hideAll_get (news.map (·.1)) hL nL
  have B₁ := Below_push B F hf hk
  exact ⟨oL, es, ep, hLg, hLd, fun sl h' e => ⟨_, es, ep, e, hLd, hLk, hLf⟩, ⟨oL, es, ep, hLg, hLd, hLk, hLf⟩, st, ⟨hA, fun b o e => st b o (B.stays b o e), funFrames_hideAll B₁.frames fun env' he b hb hfb => by
    cases he with
    | head => rw [hf] at hfb; exact nL ((Option.some.inj hfb) ▸ hb)
    | tail _ he =>
      obtain ⟨L₁, o₁, hf₁, ho₁⟩ := funFrames_in B.frames env' he
      rw [hf₁] at hfb
      exact nm L₁ o₁ ho₁ ((Option.some.inj hfb : L₁ = b) ▸ hb)⟩⟩
/-- a def that may catch, called by the lowest frame (of any cells) -/
theorem code_defG0 {R : Result → Shared → Prop} {name qual : Str} {params : Arguments} {body : List Stmt} {scope : Scope} {dV kV doc pm cdv ct oc : Value} {an od : Option Addr} {osl : Array (Option Value)} {f : Addr} {args : Args} {binds : List (Str × Value)}
    (B : Below A₀ base [] h₀) (F : Fr h₀ L s.heap m) (X₀ : K.In h₀) (N : News h₀ L s.heap news) (T : Top p loose mean mg mb h₀) (hA : A.frames = some [env]) (hf : env.frame = some L) (hk0 : env.scope.kind ≠ .module)
    (ho : K.lookup f = some ⟨oc, od, .func (fnOf name qual params body scope dV kV doc pm an cdv ct), osl⟩) (hcd : codeIn K cdv qual = true) (hroom : A.depth < recursionLimit)
    (hbind : BindsTo s (fnOf name qual params body scope dV kV doc pm an cdv ct) args binds) (hloc : ∀ y ∈ binds, scope.names.lookup y.1 = some .local)
    (h : ∀ g L' h₁, Fr h₀ L g m → Fr g L' h₁ (fun y => binds.reverse.lookup y) → News g L' h₁ news → Below A base [env] g → K.In g → Top p loose mean mg mb g → KtsDicts ([env].filterMap (·.frame)) g →
      wpAny (model prog w) (A.deeper (envOf qual scope L' f cdv)) (execs body (envOf qual scope L' f cdv))
        (fun fl s' => LeaveS0 ([env].filterMap (·.frame)) h₀ L m g R (match fl with | .ret v => v | _ => .none) s')
        (fun e s' => wpAny (model prog w) (A.deeper (envOf qual scope L' f cdv)) (leaving (envOf qual scope L' f cdv) e) (fun _ s'' => R (.error e) s'') (fun e' s'' => R (.error e') s'') s')
        { s with heap := h₁, toks := s.toks + binds.length })
    (hco : scope.isCoroutine = false) (hgen : scope.isGenerator = false) (hk : scope.kind = .function)
    (hcell : ∀ x ∈ scope.names, x.2 ≠ .cell) : codeAny (model prog w) A (.call (.ref f) args) R s := by
  have X := X₀.keeps F.keep
  refine codeAny_call_def (fd := fnOf name qual params body scope dV kV doc pm an cdv ct) (body := body) (binds := binds) hroom (X _ _ ho) rfl (T.nolimit.keeps F.keep) (codeRec_of X hcd) rfl hbind hcell hloc (fun h₁ hns hk₁ => ?_) hco hgen hk
  obtain ⟨oL, es, ep, hLg, hLd, hNs, hN, st, B₂⟩ := enterG B F N hA hf hk0
  refine wpAny_mono (h _ s.heap.objs.size h₁ ⟨hN, st, F.above⟩ ⟨hns, fun b o e => hk₁ b o (of_hideAll _ e), Nat.le_of_eq (hideAll_size _ _)⟩
    (fun p hp => ⟨hk₁ _ _ (N p hp).1, Nat.ne_of_lt (Heap.lt_size (N p hp).1), hideAll_none _ (List.mem_map_of_mem hp)⟩) B₂ (X₀.keeps st) (T.keeps st) (fun b hb => by
      rcases mem_frames hf hb with rfl | z
      · exact ⟨oL, es, ep, hLg, hLd⟩
      · simp at z)) (fun fl s' hl => ?_) fun _ _ y => y
  obtain ⟨g', L', m', news', T', F', N', k⟩ := hl
  have nL₀ : h₀.get? L = none := kts_self F
  obtain ⟨sl, hs⟩ := T'.up hLg
  refine k ⟨hNs sl _ (F'.keep _ _ hs), fun b o e => F'.keep b o (T'.other b o (st b o e) (fun q => by
    rcases mem_frames hf q with z | z
    · rw [z, nL₀] at e; cases e
    · simp at z)), F.above⟩ fun p hp => ⟨(N' p hp).1, fun q => ?_, ?_⟩
  · have := (N' p hp).2.2; rw [q, hs] at this; cases this
  · cases q : h₀.get? p.1 with
    | none => rfl
    | some o =>
      obtain ⟨sl', hs'⟩ := T'.up (st _ _ q)
      have := (N' p hp).2.2
      rw [hs'] at this
      cases this
end
end Mine
theorem Mine.offD1 : True := by
  w_top off
  trivial
end
section
set_option maxRecDepth 100000
set_option Elab.async false
set_option maxHeartbeats 0
namespace Mine
open PySem PySem.W PyProof.Rows PySem.Calls

theorem kind_ne {cs : Scope} (h : cs.kind = .function) : cs.kind ≠ .module := by rw [h]; decide
theorem st1_len (c : Nat) : (st1 c).length ≤ 100 := by show 1 ≤ 100; decide
theorem stL_len {l : List Nat} (h : l.length ≤ 3) : (stL l).length ≤ 100 := by show l.toArray.size ≤ 100; rw [List.size_toArray]; omega
structure RowF (r : Row) : Prop where
  mem : r ∈ rows
  sf : found nmC (st1 r.sign) = some (ctl r.sign)
  lf : found nmC (Txt.lower (st1 r.sign)) = some (ctl r.sign)
  ff : found nmC (stL r.fold) = some (ctl r.sign)
  flf : found nmC (Txt.lower (stL r.fold)) = some (ctl r.sign)
  sv : ctl r.sign = false → found vlC (st1 r.sign) = some false
  fv : ctl r.sign = false → found vlC (stL r.fold) = some false
  sl : (st1 r.sign).length ≤ 100
  fl : (stL r.fold).length ≤ 100
theorem rowF {r : Row} (hr : r ∈ rows) : RowF r := by
  obtain ⟨f1, f2, f3, f4⟩ := fold_row hr
  obtain ⟨l1, l2⟩ := lower_row hr
  have one : ∀ c, ctl c = false → found nmC (st1 c) = some false := fun c h => miss_nm (l := [c]) (by simp) (by show 1 ≤ 100; omega) (by simpa using h)
  have key : (found nmC (st1 r.sign) = some (ctl r.sign)) ∧ found nmC (st1 r.small) = some (ctl r.sign) ∧ found nmC (stL r.fold) = some (ctl r.sign) := by
    cases hc : ctl r.sign with
    | true =>
      obtain ⟨e1, e2⟩ := f3 hc
      rw [e1, e2]
      exact ⟨hit_nm hc, hit_nm hc, hit_nm hc⟩
    | false =>
      obtain ⟨e1, e2⟩ := f4 hc
      exact ⟨one _ hc, one _ e2, miss_nm f1 (Nat.le_trans f2 (by decide)) e1⟩
  exact ⟨hr, key.1, by rw [l1]; exact key.2.1, key.2.2, by rw [l2]; exact key.2.2, fun hc => miss_vl (l := [r.sign]) (by simp) (by show 1 ≤ 100; omega) (by simpa using hc), fun hc => miss_vl f1 (Nat.le_trans f2 (by decide)) (f4 hc).1, st1_len _, stL_len f2⟩
local macro_rules | `(tactic| ktr_enter) => `(tactic| (refine' code_defG0 ?k1 ?k2 ?k3 ?k4 ?k5 ?kA ?kF ?kK ?k6 ?k7 ?k8 ?k9 ?kB ?_ ?c2 ?c3 ?c4 ?c5; (case kA => exact rfl); (case kF => exact rfl); (case kK => exact kind_ne (by assumption)); (case k1 => k_asm); (case k2 => k_asm); (case k3 => k_asm); (case k4 => k_asm); (case k5 => k_asm); (case k6 => k_is); (case k7 => k_is); (case k8 => ktr_room); (case k9 => first | exact binds_K (by k_in) rfl (by k_is) rfl rfl rfl | exact BindsTo.of_eq rfl); (case c5 => decide); (case kB => exact locs rfl); (case c2 => exact rfl); (case c3 => exact rfl); (case c4 => exact rfl); k_whole; intro g' L' h' FG' F' N' B' X' T' D'; (try dsimp only); (try k_fold)))
local macro_rules | `(tactic| k_mem) => `(tactic| first | exact List.Mem.tail _ (by assumption) | exact List.Mem.tail _ (List.Mem.tail _ (by assumption)) | exact List.Mem.tail _ (List.Mem.tail _ (List.Mem.tail _ (by assumption))) | exact List.Mem.tail _ (List.Mem.tail _ (List.Mem.tail _ (List.Mem.tail _ (by assumption)))))
local macro_rules | `(tactic| k_all) => `(tactic| assumption)
local macro_rules | `(tactic| walk_at "call ref") => `(tactic| first
  | (k_dflt (refine' c_b3 ?kB ?kF ?kX ?kN ?kT ?kk ?kd ?ku ?_; (case kB => k_asm); (case kF => k_asm); (case kX => k_asm); (case kN => k_asm); (case kT => k_asm); (case kk => exact rfl); (case kd => ktr_room); (case ku => ktr_units); k_whole); intro t9 h9 tk9 F9 N9; rw [b3_sign (by assumption)]; (try dsimp only); (try k_fold))
  | (k_dflt (refine' wpAny_call (c_setdX ?hx ?hxl ?ho ?hdm ?kB ?kF ?kX ?kN ?kT ?kk ?kd ?ku ?_); (case kB => k_asm); (case kF => k_asm); (case kX => k_asm); (case kN => k_asm); (case kT => k_asm); (case hx => assumption); (case hxl => assumption); (case ho => exact .tail _ (by assumption)); (case hdm => exact .tail _ (by assumption)); (case kk => exact rfl); (case kd => ktr_room); (case ku => ktr_units); k_whole); intro e9 et9 vs9 g9 h9 tk9 F9 R9 U9; (try dsimp only))
  | (k_dflt (refine' wpAny_call (c_setd ?hx ?hx2 ?hy ?hxl ?ho ?hdm ?hap ?hp ?hps ?hvs ?kB ?kF ?kX ?kN ?kT ?kk ?kd ?ku ?_ ?_); (case kB => k_asm); (case kF => k_asm); (case kX => k_asm); (case kN => k_asm); (case kT => k_asm); (case hx => assumption); (case hx2 => assumption); (case hy => assumption); (case hxl => assumption); (case ho => assumption); (case hdm => assumption); (case hap => assumption); (case hp => assumption); (case hps => assumption); (case hvs => assumption); (case kk => exact rfl); (case kd => ktr_room); (case ku => ktr_units)); all_goals (intros; (try dsimp only); (try k_fold))))

theorem c_learn {w : World} {mean : ExcName → Option Value} {mg mb : Str → Option Value}
  {dp un : Nat} {gd : Option (List Code)} {cn : Str} {cs : Scope} {a : Addr} {ccd : Value} {cl : List (Str × Addr)} {A₀ : Around} {base h₀ : Heap} {L : Addr} {m : Str → Option Value} {rest : List (Addr × Obj)} {s : Shared}
    {Q E : Value → Shared → Prop} {r : Row} {t : Tok} {o d l : Addr} {k : Tok} {vs : List Value} {n : Nat} {ps : List (Str × Str)} (hr : RowF r) (hc : ctl r.sign = false)
    (ho : (o, instObj 175 d) ∈ rest) (hdm : (d, hdD w.params l k) ∈ rest) (hap : ∀ p ∈ rest, p.1 ≠ l) (hp : PairsIn rest vs ps) (hps : ∀ p ∈ ps, p.1.length ≤ 100) (hvs : vs.length ≤ 100)
    (B : Below A₀ base [] h₀) (F : Fr h₀ L s.heap m) (X : (Mine.hd.heap_39 w.params).In h₀) (N : News h₀ L s.heap ((l, W.listOf vs.toArray n) :: rest)) (T : Top Mine.qT (looseW Mine.qT Mine.looseT) mean mg mb h₀) (XB : (Mine.hd.heap_39 w.params).In base) (TB : Top Mine.qT (looseW Mine.qT Mine.looseT) mean mg mb base) (hk : cs.kind = .function) (hd : dp + 4 < recursionLimit) (_hu : un + 32 < cLine)
    (ret1 : getv ps (Txt.lower (st1 r.sign)) = none → ∀ T h' tk' t1 t2 t3, Fr h₀ L h' m → News h₀ L h' ((T, tupObj #[.str (st1 r.sign) t1, .str (stL r.fold) t2]) :: (l, W.listOf (vs ++ [Value.ref T]).toArray (n + 1)) :: rest) → Q (.str (stL r.fold) t3) { s with heap := h', toks := tk' })
    (ret2 : ∀ b tb h' tk', getv ps (Txt.lower (st1 r.sign)) = some b → Fr h₀ L h' m → News h₀ L h' ((l, W.listOf vs.toArray n) :: rest) → Q (.str b tb) { s with heap := h', toks := tk' }) :
    wpAny (model PySem.Challenge.rw_pe0279_01.row.prog w) (ktrTop dp un gd cn cs L a ccd cl []) (call (.ref 239) [.ref o, .str (st1 r.sign) t]) Q E s := by
  revert X; k_fill; intro X
  have q0 := hr.mem
  have q1 := hr.sf; rw [hc] at q1
  have q2 := hr.lf; rw [hc] at q2
  have q3 := hr.fv hc
  have q4 := hr.sl
  refine wpAny_call ?_
  k_dflt ktr_enter
  k_steps
  · exact ret1 (by assumption) _ _ _ _ _ _ (by k_asm) (by k_asm)
  · exact ret2 _ _ _ _ (by assumption) (by k_asm) (by k_asm)
end Mine
theorem Mine.offD2 : True := by
  w_top off
  trivial
end
section
set_option maxRecDepth 100000
set_option Elab.async false
set_option maxHeartbeats 0
namespace Mine
local macro_rules | `(tactic| walk_at "none such") => `(tactic| skip)
open PySem PySem.W PyProof.Rows PySem.Calls
local macro_rules | `(tactic| ktr_enter) => `(tactic| (refine' code_defG0 ?k1 ?k2 ?k3 ?k4 ?k5 ?kA ?kF ?kK ?k6 ?k7 ?k8 ?k9 ?kB ?_ ?c2 ?c3 ?c4 ?c5; (case kA => exact rfl); (case kF => exact rfl); (case kK => exact kind_ne (by assumption)); (case k1 => k_asm); (case k2 => k_asm); (case k3 => k_asm); (case k4 => k_asm); (case k5 => k_asm); (case k6 => k_is); (case k7 => k_is); (case k8 => ktr_room); (case k9 => first | exact binds_K (by k_in) rfl (by k_is) rfl rfl rfl | exact BindsTo.of_eq rfl); (case c5 => decide); (case kB => exact locs rfl); (case c2 => exact rfl); (case c3 => exact rfl); (case c4 => exact rfl); k_whole; intro g' L' h' FG' F' N' B' X' T' D'; (try dsimp only); (try k_fold)))
local macro_rules | `(tactic| k_mem) => `(tactic| first | exact List.Mem.tail _ (by assumption) | exact List.Mem.tail _ (List.Mem.tail _ (by assumption)) | exact List.Mem.tail _ (List.Mem.tail _ (List.Mem.tail _ (by assumption))) | exact List.Mem.tail _ (List.Mem.tail _ (List.Mem.tail _ (List.Mem.tail _ (by assumption)))))
local macro_rules | `(tactic| k_all) => `(tactic| assumption)

local macro_rules | `(tactic| walk_at "call ref") => `(tactic| first
  | (k_dflt (refine' c_b3 ?kB ?kF ?kX ?kN ?kT ?kk ?kd ?ku ?_; (case kB => k_asm); (case kF => k_asm); (case kX => k_asm); (case kN => k_asm); (case kT => k_asm); (case kk => exact rfl); (case kd => ktr_room); (case ku => ktr_units); k_whole); intro t9 h9 tk9 F9 N9; rw [b3_sign (by assumption)]; (try dsimp only); (try k_fold))
  | (k_dflt (refine' wpAny_call (c_setdX ?hx ?hxl ?ho ?hdm ?kB ?kF ?kX ?kN ?kT ?kk ?kd ?ku ?_); (case kB => k_asm); (case kF => k_asm); (case kX => k_asm); (case kN => k_asm); (case kT => k_asm); (case hx => assumption); (case hxl => assumption); (case ho => assumption); (case hdm => assumption); (case kk => exact rfl); (case kd => ktr_room); (case ku => ktr_units); k_whole); intro e9 et9 vs9 g9 h9 tk9 F9 R9 U9; (try dsimp only)))
theorem c_learnX {w : World} {mean : ExcName → Option Value} {mg mb : Str → Option Value}
  {dp un : Nat} {gd : Option (List Code)} {cn : Str} {cs : Scope} {a : Addr} {ccd : Value} {cl : List (Str × Addr)} {A₀ : Around} {base h₀ : Heap} {L : Addr} {m : Str → Option Value} {news : List (Addr × Obj)} {s : Shared}
    {Q E : Value → Shared → Prop} {r : Row} {t : Tok} {o d l : Addr} {k : Tok} (hr : RowF r) (hc : ctl r.sign = true)
    (ho : (o, instObj 175 d) ∈ news) (hdm : (d, hdD w.params l k) ∈ news)
    (B : Below A₀ base [] h₀) (F : Fr h₀ L s.heap m) (X : (Mine.hd.heap_39 w.params).In h₀) (N : News h₀ L s.heap news) (T : Top Mine.qT (looseW Mine.qT Mine.looseT) mean mg mb h₀) (XB : (Mine.hd.heap_39 w.params).In base) (TB : Top Mine.qT (looseW Mine.qT Mine.looseT) mean mg mb base) (hk : cs.kind = .function) (hd : dp + 4 < recursionLimit) (_hu : un + 32 < cLine)
    (ret : ∀ h' tk' t', Fr h₀ L h' m → News h₀ L h' news → Q (.str (Str.ofString "refused") t') { s with heap := h', toks := tk' }) :
    wpAny (model PySem.Challenge.rw_pe0279_01.row.prog w) (ktrTop dp un gd cn cs L a ccd cl []) (call (.ref 239) [.ref o, .str (st1 r.sign) t]) Q E s := by
  revert X; k_fill; intro X
  have q0 := hr.mem
  have q2 := hr.lf; rw [hc] at q2
  have q4 := hr.sl
  refine wpAny_call ?_
  k_dflt ktr_enter
  k_steps
  exact ret _ _ _ (by k_asm) (by k_asm)
end Mine
theorem Mine.offD3 : True := by
  w_top off
  trivial
end
section
set_option maxRecDepth 100000
set_option Elab.async false
set_option maxHeartbeats 0
namespace Mine
open PySem PySem.W PyProof.Rows PySem.Calls
local macro_rules | `(tactic| ktr_enter) => `(tactic| (refine' code_defG0 ?k1 ?k2 ?k3 ?k4 ?k5 ?kA ?kF ?kK ?k6 ?k7 ?k8 ?k9 ?kB ?_ ?c2 ?c3 ?c4 ?c5; (case kA => exact rfl); (case kF => exact rfl); (case kK => exact kind_ne (by assumption)); (case k1 => k_asm); (case k2 => k_asm); (case k3 => k_asm); (case k4 => k_asm); (case k5 => k_asm); (case k6 => k_is); (case k7 => k_is); (case k8 => ktr_room); (case k9 => first | exact binds_K (by k_in) rfl (by k_is) rfl rfl rfl | exact BindsTo.of_eq rfl); (case c5 => decide); (case kB => exact locs rfl); (case c2 => exact rfl); (case c3 => exact rfl); (case c4 => exact rfl); k_whole; intro g' L' h' FG' F' N' B' X' T' D'; (try dsimp only); (try k_fold)))
local macro_rules | `(tactic| k_mem) => `(tactic| first | exact List.Mem.tail _ (by assumption) | exact List.Mem.tail _ (List.Mem.tail _ (by assumption)) | exact List.Mem.tail _ (List.Mem.tail _ (List.Mem.tail _ (by assumption))) | exact List.Mem.tail _ (List.Mem.tail _ (List.Mem.tail _ (List.Mem.tail _ (by assumption)))))
local macro_rules | `(tactic| k_all) => `(tactic| assumption)

local macro_rules | `(tactic| walk_at "call ref") => `(tactic| first
  | (k_dflt (refine' c_b3 ?kB ?kF ?kX ?kN ?kT ?kk ?kd ?ku ?_; (case kB => k_asm); (case kF => k_asm); (case kX => k_asm); (case kN => k_asm); (case kT => k_asm); (case kk => exact rfl); (case kd => ktr_room); (case ku => ktr_units); k_whole); intro t9 h9 tk9 F9 N9; rw [b3_sign (by assumption)]; (try dsimp only); (try k_fold))
  | (k_dflt (refine' wpAny_call (c_get ?hx ?hxl ?ho ?hdm ?hlm ?hp ?hps ?kB ?kF ?kX ?kN ?kT ?kk ?kd ?ku ?_); (case kB => k_asm); (case kF => k_asm); (case kX => k_asm); (case kN => k_asm); (case kT => k_asm); (case hx => assumption); (case hxl => assumption); (case ho => assumption); (case hdm => assumption); (case hlm => assumption); (case hp => assumption); (case hps => assumption); (case kk => exact rfl); (case kd => ktr_room); (case ku => ktr_units); k_whole); intro v9 h9 tk9 hv9 F9 N9; (try dsimp only); (try k_fold))
  | (k_dflt (refine' wpAny_call (c_getX ?hx ?hxl ?ho ?hdm ?kB ?kF ?kX ?kN ?kT ?kk ?kd ?ku ?_); (case kB => k_asm); (case kF => k_asm); (case kX => k_asm); (case kN => k_asm); (case kT => k_asm); (case hx => assumption); (case hxl => assumption); (case ho => assumption); (case hdm => assumption); (case kk => exact rfl); (case kd => ktr_room); (case ku => ktr_units); k_whole); intro e9 et9 vs9 g9 h9 tk9 F9 R9 U9; (try dsimp only))
  | (k_dflt (refine' wpAny_call (c_all ?hx ?hxl ?ho ?hdm ?hlm ?hp ?hps ?hvs ?kB ?kF ?kX ?kN ?kT ?kk ?kd ?ku ?_); (case kB => k_asm); (case kF => k_asm); (case kX => k_asm); (case kN => k_asm); (case kT => k_asm); (case hx => assumption); (case hxl => assumption); (case ho => assumption); (case hdm => assumption); (case hlm => assumption); (case hp => assumption); (case hps => assumption); (case hvs => assumption); (case kk => exact rfl); (case kd => ktr_room); (case ku => ktr_units); k_whole); intro D9 ys9 h9 tk9 hy9 F9 N9; (try dsimp only); (try k_fold))
  | (k_dflt (refine' wpAny_call (c_allX ?hx ?hxl ?ho ?hdm ?kB ?kF ?kX ?kN ?kT ?kk ?kd ?ku ?_); (case kB => k_asm); (case kF => k_asm); (case kX => k_asm); (case kN => k_asm); (case kT => k_asm); (case hx => assumption); (case hxl => assumption); (case ho => assumption); (case hdm => assumption); (case kk => exact rfl); (case kd => ktr_room); (case ku => ktr_units); k_whole); intro e9 et9 vs9 g9 h9 tk9 F9 R9 U9; (try dsimp only)))
theorem c_ask {w : World} {mean : ExcName → Option Value} {mg mb : Str → Option Value}
  {dp un : Nat} {gd : Option (List Code)} {cn : Str} {cs : Scope} {a : Addr} {ccd : Value} {cl : List (Str × Addr)} {A₀ : Around} {base h₀ : Heap} {L : Addr} {m : Str → Option Value} {news : List (Addr × Obj)} {s : Shared}
    {Q E : Value → Shared → Prop} {r : Row} {t : Tok} {o d l o2 d2 l2 : Addr} {k k2 : Tok} {vs vs2 : List Value} {n n2 : Nat} {ps ps2 : List (Str × Str)} (hr : RowF r) (hc : ctl r.sign = false)
    (ho : (o, instObj 175 d) ∈ news) (hdm : (d, hdD w.params l k) ∈ news) (hlm : (l, W.listOf vs.toArray n) ∈ news) (hp : PairsIn news vs ps) (hps : ∀ p ∈ ps, p.1.length ≤ 100) (hvs : vs.length ≤ 100)
    (ho2 : (o2, instObj 175 d2) ∈ news) (hdm2 : (d2, hdD w.params l2 k2) ∈ news) (hlm2 : (l2, W.listOf vs2.toArray n2) ∈ news) (hp2 : PairsIn news vs2 ps2) (hps2 : ∀ p ∈ ps2, p.1.length ≤ 100) (hvs2 : vs2.length ≤ 100)
    (B : Below A₀ base [] h₀) (F : Fr h₀ L s.heap m) (X : (Mine.hd.heap_39 w.params).In h₀) (N : News h₀ L s.heap news) (T : Top Mine.qT (looseW Mine.qT Mine.looseT) mean mg mb h₀) (XB : (Mine.hd.heap_39 w.params).In base) (TB : Top Mine.qT (looseW Mine.qT Mine.looseT) mean mg mb base) (hk : cs.kind = .function) (hd : dp + 4 < recursionLimit) (_hu : un + 32 < cLine)
    (ret : ∀ (T D : Addr) v ys h' tk', OptStr (getv ps (Txt.lower (st1 r.sign))) v → StrsAre ys (allv ps2 (Txt.lower (stL r.fold))) → Fr h₀ L h' m → News h₀ L h' ((T, tupObj #[v, Value.ref D]) :: (D, LCg.lst ys) :: news) → Q (.ref T) { s with heap := h', toks := tk' }) :
    wpAny (model PySem.Challenge.rw_pe0279_01.row.prog w) (ktrTop dp un gd cn cs L a ccd cl []) (call (.ref 246) [.ref o, .ref o2, .str (st1 r.sign) t]) Q E s := by
  revert X; k_fill; intro X
  have q0 := hr.mem
  have q2 := hr.lf; rw [hc] at q2
  have q3 := hr.flf; rw [hc] at q3
  have q4 := hr.sl
  have q5 := hr.fl
  refine wpAny_call ?_
  k_dflt ktr_enter
  k_steps
  exact ret _ _ _ _ _ _ (by assumption) (by assumption) (by k_asm) (by k_asm)
theorem c_askX {w : World} {mean : ExcName → Option Value} {mg mb : Str → Option Value}
  {dp un : Nat} {gd : Option (List Code)} {cn : Str} {cs : Scope} {a : Addr} {ccd : Value} {cl : List (Str × Addr)} {A₀ : Around} {base h₀ : Heap} {L : Addr} {m : Str → Option Value} {news : List (Addr × Obj)} {s : Shared}
    {Q E : Value → Shared → Prop} {r : Row} {t : Tok} {o d l o2 d2 l2 : Addr} {k k2 : Tok} {vs vs2 : List Value} {n n2 : Nat} {ps ps2 : List (Str × Str)} (hr : RowF r) (hc : ctl r.sign = true)
    (ho : (o, instObj 175 d) ∈ news) (hdm : (d, hdD w.params l k) ∈ news) (hlm : (l, W.listOf vs.toArray n) ∈ news) (hp : PairsIn news vs ps) (hps : ∀ p ∈ ps, p.1.length ≤ 100) (hvs : vs.length ≤ 100)
    (ho2 : (o2, instObj 175 d2) ∈ news) (hdm2 : (d2, hdD w.params l2 k2) ∈ news) (hlm2 : (l2, W.listOf vs2.toArray n2) ∈ news) (hp2 : PairsIn news vs2 ps2) (hps2 : ∀ p ∈ ps2, p.1.length ≤ 100) (hvs2 : vs2.length ≤ 100)
    (B : Below A₀ base [] h₀) (F : Fr h₀ L s.heap m) (X : (Mine.hd.heap_39 w.params).In h₀) (N : News h₀ L s.heap news) (T : Top Mine.qT (looseW Mine.qT Mine.looseT) mean mg mb h₀) (XB : (Mine.hd.heap_39 w.params).In base) (TB : Top Mine.qT (looseW Mine.qT Mine.looseT) mean mg mb base) (hk : cs.kind = .function) (hd : dp + 4 < recursionLimit) (_hu : un + 32 < cLine)
    (ret : ∀ (T : Addr) t1 t2 h' tk', Fr h₀ L h' m → News h₀ L h' ((T, tupObj #[.str (Str.ofString "refused") t1, .str (Str.ofString "refused") t2]) :: news) → Q (.ref T) { s with heap := h', toks := tk' }) :
    wpAny (model PySem.Challenge.rw_pe0279_01.row.prog w) (ktrTop dp un gd cn cs L a ccd cl []) (call (.ref 246) [.ref o, .ref o2, .str (st1 r.sign) t]) Q E s := by
  revert X; k_fill; intro X
  have q0 := hr.mem
  have q2 := hr.lf; rw [hc] at q2
  have q3 := hr.flf; rw [hc] at q3
  have q4 := hr.sl
  have q5 := hr.fl
  refine wpAny_call ?_
  k_dflt ktr_enter
  k_steps
  exact ret _ _ _ _ _ (by k_asm) (by k_asm)
end Mine
theorem Mine.offD4 : True := by
  w_top off
  trivial
end
section
set_option maxRecDepth 100000
set_option Elab.async false
set_option maxHeartbeats 0
namespace Mine
open PySem PySem.W PyProof.Rows PySem.Calls
def pf (P : List Row) : List (Str × Str) := P.map fun r => (st1 r.sign, stL r.fold)
def pb (P : List Row) : List (Str × Str) := P.map fun r => (stL r.fold, st1 r.sign)
def Pages (P : List Row) : Prop := ∀ r ∈ P, r ∈ rows ∧ ctl r.sign = false
theorem Pages.tail {q : Row} {P : List Row} (h : Pages (q :: P)) : Pages P := fun x hx => h x (.tail _ hx)
theorem getv_pf : ∀ {P : List Row}, Pages P → ∀ {r : Row}, r ∈ rows → getv (pf P) (Txt.lower (st1 r.sign)) = if r.small ∈ P.map Row.small then some (stL r.fold) else none
  | [], _, r, hr => rfl
  | q :: P, h, r, hr => by
    have ih := getv_pf (P := P) h.tail hr
    have hq := (h q (.head _)).1
    have lq := (lower_row hq).1
    rw [(lower_row hr).1] at ih ⊢
    unfold getv pf at ih ⊢
    rw [List.map_cons]
    by_cases e : q.small = r.small
    · rw [List.find?_cons_of_pos (p := fun p : Str × Str => Txt.lower p.1 == st1 r.small) (by show (Txt.lower (st1 q.sign) == st1 r.small) = true; rw [lq, e]; exact beq_iff_eq.mpr rfl)]
      rw [if_pos (by rw [List.map_cons, e]; exact .head _)]
      show some (stL q.fold) = _
      rw [fold_of_small hq hr e]
    · rw [List.find?_cons_of_neg (p := fun p : Str × Str => Txt.lower p.1 == st1 r.small) (by show ¬ (Txt.lower (st1 q.sign) == st1 r.small) = true; rw [lq, beq_iff_eq]; exact fun x => e (st1_inj x))]
      rw [ih, List.map_cons]
      have : (r.small ∈ q.small :: P.map Row.small) ↔ r.small ∈ P.map Row.small := by
        rw [List.mem_cons]; exact ⟨fun x => x.elim (fun y => absurd y.symm e) id, .inr⟩
      by_cases hm : r.small ∈ P.map Row.small
      · rw [if_pos hm, if_pos (this.mpr hm)]
      · rw [if_neg hm, if_neg (fun x => hm (this.mp x))]
def told (P : List Row) (r : Row) : List Str := (P.filter fun q => stL q.fold == stL r.fold).map fun q => st1 q.sign
theorem allv_pb : ∀ {P : List Row}, Pages P → ∀ {r : Row}, r ∈ rows → allv (pb P) (Txt.lower (stL r.fold)) = told P r
  | [], _, r, hr => rfl
  | q :: P, h, r, hr => by
    have ih := allv_pb (P := P) h.tail hr
    have hq := (h q (.head _)).1
    have lq := (lower_row hq).2
    rw [(lower_row hr).2] at ih ⊢
    unfold allv pb told at ih ⊢
    rw [List.map_cons, List.filter_cons, List.filter_cons]
    show (List.map _ (if (Txt.lower (stL q.fold) == stL r.fold) = true then _ else _)) = _
    rw [lq]
    split
    · rw [List.map_cons, List.map_cons, ih]
    · exact ih
theorem pf_len (P : List Row) : ∀ p ∈ pf P, p.1.length ≤ 100 := fun p hp => by
  obtain ⟨r, _, rfl⟩ := List.mem_map.mp hp
  exact st1_len _
theorem pb_len {P : List Row} (h : Pages P) : ∀ p ∈ pb P, p.1.length ≤ 100 := fun p hp => by
  obtain ⟨r, hr, rfl⟩ := List.mem_map.mp hp
  exact (rowF (h r hr).1).fl
theorem pf_snoc (P : List Row) (r : Row) : pf (P ++ [r]) = pf P ++ [(st1 r.sign, stL r.fold)] := List.map_append
theorem pb_snoc (P : List Row) (r : Row) : pb (P ++ [r]) = pb P ++ [(stL r.fold, st1 r.sign)] := List.map_append
theorem Pages.snoc {P : List Row} {r : Row} (h : Pages P) (hr : r ∈ rows) (hc : ctl r.sign = false) : Pages (P ++ [r]) := fun x hx => by
  rcases List.mem_append.mp hx with hx | hx
  · exact h x hx
  · rw [List.mem_singleton.mp hx]; exact ⟨hr, hc⟩
def smallsS (P : List Row) : List Str := P.map fun q => st1 q.small
theorem mem_smallsS {P : List Row} {r : Row} : st1 r.small ∈ smallsS P ↔ r.small ∈ P.map Row.small := by
  unfold smallsS
  rw [List.mem_map, List.mem_map]
  exact ⟨fun ⟨q, hq, e⟩ => ⟨q, hq, st1_inj e⟩, fun ⟨q, hq, e⟩ => ⟨q, hq, by rw [e]⟩⟩
theorem told_take {P : List Row} {r q : Row} {i : Nat} (e : P[i]? = some q) : told (P.take (i + 1)) r = told (P.take i) r ++ (if (stL q.fold == stL r.fold) = true then [st1 q.sign] else []) := by
  unfold told
  rw [List.take_succ, e, List.filter_append, List.map_append]
  congr 1
  show List.map _ (List.filter _ [q]) = _
  rw [List.filter_cons]
  split <;> simp_all
theorem map_take' {α β : Type} (f : α → β) {P : List α} {q : α} {i : Nat} (e : P[i]? = some q) : (P.take (i + 1)).map f = (P.take i).map f ++ [f q] := by
  rw [List.take_succ, e, List.map_append]; rfl
end Mine
theorem Mine.offPf : True := by
  w_top off
  trivial
end
section
set_option maxRecDepth 100000
set_option Elab.async false
namespace Mine
open PySem PySem.W PyProof.Rows PySem.Calls PySem.Spec PyProof.Rows.LCg
section
variable {prog : Program} {w : World} {A : Around} {E : Value → Shared → Prop} {s : Shared} {h₀ : Heap} {L : Addr} {m : Str → Option Value} {env : Env}
/-- CompSrc by a name of its own, that the library's lines pass by -/
def MySrc (prog : Program) (w : World) (A : Around) (h₀ : Heap) (L : Addr) (m : Str → Option Value) (env : Env) (elt : Expr) (x : Str) (scope : Scope) (cl : List (Str × Addr)) (Fin : Shared → List Value → List (Addr × Obj) → Prop) (xv : Value) (s₁ : Shared) : Prop :=
  CompSrc prog w A h₀ L m env elt x scope cl Fin xv s₁
theorem Assign_LC {elt iter : Expr} {x y : Str} {px py : Pos} {scope : Scope} {cl : List (Str × Addr)} {pos spos : Pos} {Q : Flow → Shared → Prop} (F₀ : Fr h₀ L s.heap m) (hLe : env.locals = L)
    (hsw : swapsWith (.ListComp elt [⟨.Name x px, iter, [], 0⟩] scope pos) (some (.Name y py)) spos.line env = pure true)
    (hclos : closureFor scope env = pure cl) (hcell : ∀ z ∈ scope.names, z.2 ≠ .cell) (hkind : scope.kind = .function)
    (hnames : ∀ z ∈ scope.names, z.2 = .local → scope.names.lookup z.1 = some .local) (hx : scope.names.lookup x = some .local)
    (hy : env.kindOf y = some .local) (hp : (env.scope.kind == .class || (env.scope.kind == .module && env.locals != env.globals)) = false)
    (h : wpAny (model prog w) A (eval iter env) (MySrc prog w A h₀ L m env elt x scope cl (fun s₂ => FinA h₀ L m s₂ y Q)) E s)
    (hs : ∀ x, foldedSetIterable iter env x = pure x := by intro _; rfl) :
    wpAny (model prog w) A (exec (.Assign [.Name y py] (.ListComp elt [⟨.Name x px, iter, [], 0⟩] scope pos) spos) env) Q E s :=
  Assign_ListComp_U F₀ hLe hsw hclos hcell hkind hnames hx hy hp h hs
theorem ListComp_L {elt iter : Expr} {x : Str} {px : Pos} {scope : Scope} {cl : List (Str × Addr)} {pos : Pos} {Q : Value → Shared → Prop} (F₀ : Fr h₀ L s.heap m)
    (hclos : closureFor scope env = pure cl) (hcell : ∀ y ∈ scope.names, y.2 ≠ .cell) (hkind : scope.kind = .function)
    (hnames : ∀ y ∈ scope.names, y.2 = .local → scope.names.lookup y.1 = some .local) (hx : scope.names.lookup x = some .local)
    (h : wpAny (model prog w) A (eval iter env) (MySrc prog w A h₀ L m env elt x scope cl (fun s₂ => FinE h₀ L m s₂ Q)) E s)
    (hs : ∀ x, foldedSetIterable iter env x = pure x := by intro _; rfl) :
    wpAny (model prog w) A (eval (.ListComp elt [⟨.Name x px, iter, [], 0⟩] scope pos) env) Q E s :=
  ListComp_U F₀ hclos hcell hkind hnames hx h hs
def KeptU (h₀ : Heap) (L : Addr) (m : Str → Option Value) (s : Shared) (I : Addr) (oI : Obj) (C : Addr) (oC : Obj) (D : Addr) (ys : List Value) (Acc : List Value → List (Addr × Obj) → Prop) (y : Value) (s₂ : Shared) : Prop :=
  ∃ h' tk' news', s₂ = { s with heap := h', toks := tk' } ∧ Fr h₀ L h' m ∧ News h₀ L h' ((I, oI) :: (C, oC) :: (D, lst ys) :: news') ∧ Off3 I C D news' ∧ Acc (ys ++ [y]) news'
theorem runV {elt : Expr} {x : Str} {scope : Scope} {cl : List (Str × Addr)} {S : List (Addr × Obj) → Prop} {its : Array Value} {Fin : List Value → List (Addr × Obj) → Prop} (Acc : Nat → List Value → List (Addr × Obj) → Prop) (hS : ∀ i ys news, Acc i ys news → S news)
    (step : ∀ i v ys news I oI C oC D m₂ h tk (E' : Value → Shared → Prop), its[i]? = some v → Acc i ys news → NsObj oC m₂ → m₂ x = some v → Fr h₀ L h m → News h₀ L h ((I, oI) :: (C, oC) :: (D, lst ys) :: news) → Off3 I C D news →
      wpAny (model prog w) A (eval elt (compEnvC scope cl C env)) (KeptU h₀ L m s I oI C oC D ys (Acc (i + 1))) E' { s with heap := h, toks := tk })
    (fin : ∀ ys news, Acc its.size ys news → Fin ys news) : ∀ k i ys news, i + k = its.size → Acc i ys news → CompRest prog w A h₀ L m env elt x scope cl s S (fun i v => its[i]? = some v) Fin k i ys news :=
  runU Acc hS step fin
end
/-- a goal that the walk passes by -/
def Hold (p : Prop) : Prop := p
theorem hold {p : Prop} (h : Hold p) : p := h
end Mine
theorem Mine.offL0 : True := by
  w_top off
  trivial
end
section
set_option maxRecDepth 100000
set_option Elab.async false
namespace Mine
open PySem PySem.W PyProof.Rows PySem.Calls
def Each {α : Type} (R : Value → α → Prop) : List Value → List α → Prop
  | [], [] => True
  | v :: vs, a :: as => R v a ∧ Each R vs as
  | _, _ => False
theorem Each.len {α : Type} {R : Value → α → Prop} : ∀ {vs as}, Each R vs as → vs.length = as.length
  | [], [], _ => rfl
  | [], _ :: _, h => h.elim
  | _ :: _, [], h => h.elim
  | _ :: _, _ :: _, h => by rw [List.length_cons, List.length_cons, h.2.len]
theorem Each.at {α : Type} {R : Value → α → Prop} : ∀ {vs as}, Each R vs as → ∀ {i : Nat} {v : Value}, vs[i]? = some v → ∃ a, as[i]? = some a ∧ R v a
  | [], _, _, i, v, e => by simp at e
  | _ :: _, [], h, _, _, _ => h.elim
  | u :: vs, p :: ps, h, 0, v, e => by cases e; exact ⟨p, rfl, h.1⟩
  | u :: vs, p :: ps, h, i + 1, v, e => h.2.at (i := i) e
theorem Each.mono {α : Type} {R R' : Value → α → Prop} (hs : ∀ v a, R v a → R' v a) : ∀ {vs as}, Each R vs as → Each R' vs as
  | [], [], h => h
  | [], _ :: _, h => h.elim
  | _ :: _, [], h => h.elim
  | _ :: _, _ :: _, h => ⟨hs _ _ h.1, h.2.mono hs⟩
theorem Each.snoc {α : Type} {R : Value → α → Prop} {v : Value} {a : α} (hm : R v a) : ∀ {vs as}, Each R vs as → Each R (vs ++ [v]) (as ++ [a])
  | [], [], _ => ⟨hm, trivial⟩
  | [], _ :: _, h => h.elim
  | _ :: _, [], h => h.elim
  | _ :: _, _ :: _, h => ⟨h.1, h.2.snoc hm⟩
/-- a tuple of a row's three strings -/
def RowIn (news : List (Addr × Obj)) (v : Value) (r : Row) : Prop := ∃ T t1 t2 t3, v = .ref T ∧ (T, tupObj #[.str (st1 r.sign) t1, .str (st1 r.small) t2, .str (stL r.fold) t3]) ∈ news
theorem RowIn.mono {n n' : List (Addr × Obj)} (hs : ∀ p ∈ n, p ∈ n') {v : Value} {r : Row} : RowIn n v r → RowIn n' v r := fun ⟨T, t1, t2, t3, e, hm⟩ => ⟨T, t1, t2, t3, e, hs _ hm⟩
abbrev RowsIn (news : List (Addr × Obj)) (vs : List Value) (rs : List Row) : Prop := Each (RowIn news) vs rs
theorem RowsIn.up {n n' : List (Addr × Obj)} (hs : ∀ p ∈ n, p ∈ n') {vs : List Value} {rs : List Row} (h : RowsIn n vs rs) : RowsIn n' vs rs := h.mono fun _ _ => RowIn.mono hs
theorem News.sub {h₀ h : Heap} {L : Addr} {n n' : List (Addr × Obj)} (N : News h₀ L h n) (s : ∀ p ∈ n', p ∈ n) : News h₀ L h n' := fun p hp => N p (s p hp)
theorem ints_at : ∀ {vs : List Value} {ns : List Int}, IntsAre vs ns → ∀ {i : Nat} {v : Value}, vs[i]? = some v → ∃ n t, v = .int n t
  | _, _, .cons m t _, 0, v, e => ⟨m, t, (Option.some.inj (by simpa using e)).symm⟩
  | _, _, .cons _ _ h, i + 1, v, e => ints_at h (i := i) (by simpa using e)
  | _, _, .nil, i, v, e => by simp at e
theorem off1_mem {D : Addr} : ∀ {l : List (Addr × Obj)}, LCg.Off1 D l → ∀ p ∈ l, @Ne Nat p.1 D
  | [], _, _, h => nomatch h
  | _ :: _, x, p, h => by
    rcases List.mem_cons.mp h with rfl | h
    · exact x.1
    · exact off1_mem x.2 p h
end Mine
theorem Mine.offLd : True := by
  w_top off
  trivial
end
section
set_option maxRecDepth 100000
set_option Elab.async false
namespace Mine
open PySem PySem.W PyProof.Rows PySem.Calls PySem.Spec
section
variable {prog : Program} {w : World} {A : Around} {E : Value → Shared → Prop} {s : Shared} {h₀ h : Heap} {L : Addr} {m : Str → Option Value} {news : List (Addr × Obj)}
theorem slice3 {value slice : Expr} {l : Addr} {vs : List Value} {n : Nat} {vl vu vk : Value} {lo hi st : Option Int} {ops : List Value} {Q : Value → Shared → Prop} (F : Fr h₀ L s.heap m) (N : News h₀ L s.heap news) (hl : (l, W.listOf vs.toArray n) ∈ news)
    (pl : IsPart vl lo) (pu : IsPart vu hi) (pk : IsPart vk st) (h0 : st ≠ some 0) (hz : vs.length ≤ 100)
    (h : ∀ (D : Addr) (h' : Heap) (zs : List Value), Fr h₀ L h' m → News h₀ L h' ((D, W.listOf zs.toArray 0) :: news) → (∀ p ∈ news, @LT.lt Nat _ p.1 D) → (∀ v ∈ zs, v ∈ vs) → zs.length ≤ vs.length → Q (.ref D) { s with heap := h' })
    (hs : subscripted slice false (.ref l) (.ref s.heap.objs.size) = operate ops (getItem (.ref l) (.ref s.heap.objs.size)) := by with_unfolding_all rfl)
    (ht : ∀ r, letTemporaryGo value (.ref l) r = pure () := by intro _; with_unfolding_all rfl) :
    wpAny (model prog w) A (subscriptTail value slice (.ref l) (.ref s.heap.objs.size)) Q E { s with heap := s.heap.push { cls := .type "slice", data := .fields #[vl, vu, vk] } } := by
  refine kmk_slice3_lit (its := vs.toArray) F N ⟨_, N.get hl, rfl, _, rfl⟩ pl pu pk h0 rfl (fun D h' F' N' lt => h D h' _ F' N' lt ?_ ?_) hs ht (by rw [List.size_toArray]; exact Nat.le_trans hz (by decide))
  · intro v hv
    unfold slicePick at hv
    rw [List.toList_toArray] at hv
    obtain ⟨i, _, e⟩ := List.mem_filterMap.mp hv
    rw [List.getElem?_toArray] at e
    exact List.mem_of_getElem? e
  · have q := slicePick_size_le vs.toArray lo hi st
    rw [List.size_toArray] at q
    rw [Array.length_toList]; exact q
theorem ord_st1 {c : Nat} {t : Tok} {Q : Value → Shared → Prop} (h : Q (.int c s.toks) { s with toks := s.toks + 1 }) : wpAny (model prog w) A (call (.builtin "ord") [.str (st1 c) t]) Q E s := P.ord_of_char h
theorem eq_no {a b : Int} {t u : Tok} {Q : Value → Shared → Prop} (h : ¬ a = b) (q : Q (.bool false) s) : wpAny (model prog w) A (compareOp .Eq (.int a t) (.int b u)) Q E s := eq_int (by rw [beq_eq_false_iff_ne.mpr h]; exact q)
theorem eq_yes {a b : Int} {t u : Tok} {Q : Value → Shared → Prop} (h : a = b) (q : Q (.bool true) s) : wpAny (model prog w) A (compareOp .Eq (.int a t) (.int b u)) Q E s := eq_int (by rw [beq_iff_eq.mpr h]; exact q)
theorem ne_same {x : Str} {t u : Tok} {Q : Value → Shared → Prop} (q : Q (.bool false) s) : wpAny (model prog w) A (compareOp .NotEq (.str x t) (.str x u)) Q E s := ne_str (by rw [show (x != x) = false from bne_self_eq_false x]; exact q)
theorem ne_of_news {a b : Addr} {o p : Obj} (N : News h₀ L h news) (ha : (a, o) ∈ news) (hb : (b, p) ∈ news) (hne : o.cls ≠ p.cls) : @Ne Nat a b := fun e => by
  have e : a = b := e
  have x := (N _ ha).1
  have y := (N _ hb).1
  dsimp only at x y
  rw [e, y] at x
  exact hne (congrArg Obj.cls (Option.some.inj x)).symm
end
/-- the ledger between the turns of the first loop: both tables' lists, the pages, the rest -/
def Led (fix : List (Addr × Obj)) (l1 l2 pg : Addr) (i : Nat) (P : List Row) (news : List (Addr × Obj)) : Prop :=
  ∃ vf nf vb nb vp np rest, news = (l1, W.listOf vf.toArray nf) :: (l2, W.listOf vb.toArray nb) :: (pg, W.listOf vp.toArray np) :: rest ∧ (∀ p ∈ fix, p ∈ rest) ∧ (∀ p ∈ rest, p.1 ≠ l1) ∧ (∀ p ∈ rest, p.1 ≠ l2) ∧ (∀ p ∈ rest, p.1 ≠ pg) ∧
    PairsIn rest vf (pf P) ∧ PairsIn rest vb (pb P) ∧ RowsIn rest vp P ∧ Pages P ∧ P.length ≤ i
abbrev st4 (a b c d : Str) (va vb vc vd : Option Value) (m : Str → Option Value) : Str → Option Value := fun z => if z = a then va else if z = b then vb else if z = c then vc else if z = d then vd else m z
theorem st4_of {a b c d : Str} {m m' : Str → Option Value} (h : ∀ z, z ≠ a → z ≠ b → z ≠ c → z ≠ d → m' z = m z) : m' = st4 a b c d (m' a) (m' b) (m' c) (m' d) m := by
  funext z
  unfold st4
  by_cases h1 : z = a
  · rw [if_pos h1, h1]
  rw [if_neg h1]
  by_cases h2 : z = b
  · rw [if_pos h2, h2]
  rw [if_neg h2]
  by_cases h3 : z = c
  · rw [if_pos h3, h3]
  rw [if_neg h3]
  by_cases h4 : z = d
  · rw [if_pos h4, h4]
  rw [if_neg h4]
  exact h z h1 h2 h3 h4
end Mine
theorem Mine.offLe : True := by
  w_top off
  trivial
end
section
set_option maxRecDepth 100000
set_option Elab.async false
namespace Mine
open PySem PySem.W PyProof.Rows PySem.Calls PySem.Spec
theorem fix_apart {D9 x2 d2 x1 d1 R l1 l2 pg : Addr} {o9 ox2 od2 ox1 od1 oR : Obj} {nw : List (Addr × Obj)} (p1 : ∀ p ∈ (R, oR) :: nw, @LT.lt Nat _ p.1 d1) (q1 : @LT.lt Nat _ d1 x1) (r1 : @LT.lt Nat _ x1 l1) (a : @LT.lt Nat _ l1 d2) (q2 : @LT.lt Nat _ d2 x2) (r2 : @LT.lt Nat _ x2 l2)
    (g : @LT.lt Nat _ l2 pg) (e : @LT.lt Nat _ pg D9) :
    (∀ p ∈ (D9, o9) :: (x2, ox2) :: (d2, od2) :: (x1, ox1) :: (d1, od1) :: (R, oR) :: nw, p.1 ≠ l1) ∧ (∀ p ∈ (D9, o9) :: (x2, ox2) :: (d2, od2) :: (x1, ox1) :: (d1, od1) :: (R, oR) :: nw, p.1 ≠ l2) ∧
    (∀ p ∈ (D9, o9) :: (x2, ox2) :: (d2, od2) :: (x1, ox1) :: (d1, od1) :: (R, oR) :: nw, p.1 ≠ pg) := by
  have key : ∀ p ∈ (D9, o9) :: (x2, ox2) :: (d2, od2) :: (x1, ox1) :: (d1, od1) :: (R, oR) :: nw, @Ne Nat p.1 l1 ∧ @Ne Nat p.1 l2 ∧ @Ne Nat p.1 pg := by
    intro p hp
    rcases List.mem_cons.mp hp with rfl | hp
    · dsimp only; omega
    rcases List.mem_cons.mp hp with rfl | hp
    · dsimp only; omega
    rcases List.mem_cons.mp hp with rfl | hp
    · dsimp only; omega
    rcases List.mem_cons.mp hp with rfl | hp
    · dsimp only; omega
    rcases List.mem_cons.mp hp with rfl | hp
    · dsimp only; omega
    have := p1 p hp
    omega
  exact ⟨fun p hp => (key p hp).1, fun p hp => (key p hp).2.1, fun p hp => (key p hp).2.2⟩
/-- what stands between the turns -/
structure Pg (fix : List (Addr × Obj)) (l1 l2 pg : Addr) (i : Nat) (P : List Row) (vf vb vp : List Value) (rest : List (Addr × Obj)) : Prop where
  sub : ∀ p ∈ fix, p ∈ rest
  a1 : ∀ p ∈ rest, p.1 ≠ l1
  a2 : ∀ p ∈ rest, p.1 ≠ l2
  a3 : ∀ p ∈ rest, p.1 ≠ pg
  pf : PairsIn rest vf (Mine.pf P)
  pb : PairsIn rest vb (Mine.pb P)
  pp : RowsIn rest vp P
  ok : Pages P
  le : P.length ≤ i
theorem Pg.lf {fix : List (Addr × Obj)} {l1 l2 pg : Addr} {i : Nat} {P : List Row} {vf vb vp : List Value} {rest : List (Addr × Obj)} (h : Pg fix l1 l2 pg i P vf vb vp rest) : vf.length = P.length := by rw [h.pf.len]; exact List.length_map ..
theorem Pg.lb {fix : List (Addr × Obj)} {l1 l2 pg : Addr} {i : Nat} {P : List Row} {vf vb vp : List Value} {rest : List (Addr × Obj)} (h : Pg fix l1 l2 pg i P vf vb vp rest) : vb.length = P.length := by rw [h.pb.len]; exact List.length_map ..
theorem Pg.lp {fix : List (Addr × Obj)} {l1 l2 pg : Addr} {i : Nat} {P : List Row} {vf vb vp : List Value} {rest : List (Addr × Obj)} (h : Pg fix l1 l2 pg i P vf vb vp rest) : vp.length = P.length := h.pp.len
def Between (fix : List (Addr × Obj)) (l1 l2 pg : Addr) (m0 : Str → Option Value) (a b c d : Str) (i : Nat) (m' : Str → Option Value) (news : List (Addr × Obj)) : Prop :=
  (∀ z, z ≠ a → z ≠ b → z ≠ c → z ≠ d → m' z = m0 z) ∧ ∃ P vf nf vb nb vp np rest, news = (l1, W.listOf vf.toArray nf) :: (l2, W.listOf vb.toArray nb) :: (pg, W.listOf vp.toArray np) :: rest ∧ Pg fix l1 l2 pg i P vf vb vp rest
section
variable {prog : Program} {w : World} {A : Around} {E : Value → Shared → Prop} {s : Shared} {h₀ : Heap} {env : Env}
theorem ForAt.led {a b c d : Str} {target : Expr} {body : List Stmt} {Q : Flow → Shared → Prop} {D l1 l2 pg : Addr} {zs : List Value} {n : Nat} {m0 : Str → Option Value} {fix : List (Addr × Obj)} {s₁ : Shared}
    (hh : A.handled = none) (F : Fr h₀ env.locals s₁.heap m0) (N : News h₀ env.locals s₁.heap ((l1, W.listOf #[] 0) :: (l2, W.listOf #[] 0) :: (pg, W.listOf #[] 0) :: fix)) (hm : (D, W.listOf zs.toArray n) ∈ fix)
    (ap : (∀ p ∈ fix, p.1 ≠ l1) ∧ (∀ p ∈ fix, p.1 ≠ l2) ∧ (∀ p ∈ fix, p.1 ≠ pg)) (hrow : ∀ v ∈ zs, ∃ r, r ∈ rows ∧ RowIn fix v r)
    (turn : ∀ i (T : Addr) r t1 t2 t3 P vf nf vb nb vp np rest (I : Addr) oI g tk u1 u2 u3 u4 (E' : Value → Shared → Prop), r ∈ rows → i < zs.length → (T, tupObj #[.str (st1 r.sign) t1, .str (st1 r.small) t2, .str (stL r.fold) t3]) ∈ rest → Pg fix l1 l2 pg i P vf vb vp rest →
      Fr h₀ env.locals g (st4 a b c d u1 u2 u3 u4 m0) → News h₀ env.locals g ((l1, W.listOf vf.toArray nf) :: (l2, W.listOf vb.toArray nb) :: (pg, W.listOf vp.toArray np) :: (I, oI) :: rest) → (∀ p ∈ rest, p.1 ≠ I) → l1 ≠ I → l2 ≠ I → pg ≠ I → oI.cls = .type "list_iterator" →
      wpAny (model prog w) A (assign target env (.ref T)) (fun _ s₂ => wpAny (model prog w) A (execs body env) (TurnP h₀ env.locals I oI { s₁ with heap := g, toks := tk } (Between fix l1 l2 pg m0 a b c d (i + 1)) Q) E' s₂) E' { s₁ with heap := g, toks := tk })
    (fin : ∀ h' tk u1 u2 u3 u4 P vf nf vb nb vp np rest, Pg fix l1 l2 pg zs.length P vf vb vp rest → Fr h₀ env.locals h' (st4 a b c d u1 u2 u3 u4 m0) → News h₀ env.locals h' ((l1, W.listOf vf.toArray nf) :: (l2, W.listOf vb.toArray nb) :: (pg, W.listOf vp.toArray np) :: rest) → Q .next { s₁ with heap := h', toks := tk }) :
    ForAt prog w A h₀ env target body Q (.ref D) s₁ := by
  refine ⟨D, zs.toArray, m0, _, Between fix l1 l2 pg m0 a b c d, rfl, hh, F, N, .inr ⟨_, .tail _ (.tail _ (.tail _ hm)), rfl, _, rfl⟩,
    ⟨fun _ _ _ _ _ => rfl, [], [], 0, [], 0, [], 0, fix, rfl, ⟨fun _ h => h, ap.1, ap.2.1, ap.2.2, trivial, trivial, trivial, (fun _ h => nomatch h), Nat.le_refl _⟩⟩, ?_, ?_, ?_, ?_⟩
  · rintro i m news ⟨_, P, vf, nf, vb, nb, vp, np, rest, rfl, g⟩
    exact .inr ⟨_, .tail _ (.tail _ (.tail _ (g.sub _ hm))), rfl, _, rfl⟩
  · intro i v e
    rw [List.getElem?_toArray] at e
    obtain ⟨r, _, T, t1, t2, t3, rfl, _⟩ := hrow v (List.mem_of_getElem? e)
    exact ⟨T, rfl⟩
  · rintro i v m₁ news₁ I oI g tk E' e ⟨hm1, P, vf, nf, vb, nb, vp, np, rest, rfl, pg'⟩ F₁ N₁ off hcl
    rw [List.getElem?_toArray] at e
    obtain ⟨r, hr, T, t1, t2, t3, rfl, hT⟩ := hrow v (List.mem_of_getElem? e)
    rw [st4_of hm1] at F₁
    exact turn i T r t1 t2 t3 P vf nf vb nb vp np rest I oI g tk _ _ _ _ E' hr (List.getElem?_eq_some_iff.mp e).1 (pg'.sub _ hT) pg' F₁ (News.sub N₁ fun p hp => by
        rcases List.mem_cons.mp hp with rfl | hp
        · exact .tail _ (.head _)
        rcases List.mem_cons.mp hp with rfl | hp
        · exact .tail _ (.tail _ (.head _))
        rcases List.mem_cons.mp hp with rfl | hp
        · exact .tail _ (.tail _ (.tail _ (.head _)))
        rcases List.mem_cons.mp hp with rfl | hp
        · exact .head _
        · exact .tail _ (.tail _ (.tail _ (.tail _ hp))))
      (fun p hp => off p (.tail _ (.tail _ (.tail _ hp)))) (off _ (.head _)) (off _ (.tail _ (.head _))) (off _ (.tail _ (.tail _ (.head _)))) hcl
  · rintro h' tk m' news' F' N' ⟨hm1, P, vf, nf, vb, nb, vp, np, rest, rfl, g⟩
    rw [st4_of hm1] at F'
    rw [List.size_toArray] at g
    exact fin h' tk _ _ _ _ P vf nf vb nb vp np rest g F' N'
end
theorem perm4 {h₀ h : Heap} {L : Addr} {a b c d : Addr × Obj} {r : List (Addr × Obj)} (N : News h₀ L h (a :: b :: c :: d :: r)) : News h₀ L h (d :: a :: b :: c :: r) := News.sub N fun p hp => by
  rcases List.mem_cons.mp hp with rfl | hp
  · exact .tail _ (.tail _ (.tail _ (.head _)))
  rcases List.mem_cons.mp hp with rfl | hp
  · exact .head _
  rcases List.mem_cons.mp hp with rfl | hp
  · exact .tail _ (.head _)
  rcases List.mem_cons.mp hp with rfl | hp
  · exact .tail _ (.tail _ (.head _))
  · exact .tail _ (.tail _ (.tail _ (.tail _ hp)))
section
variable {h₀ h' : Heap} {L I l1 l2 pg : Addr} {oI : Obj} {s₁ : Shared} {tk : Nat} {Q : Flow → Shared → Prop} {fix rest : List (Addr × Obj)} {i nf nb np : Nat} {P : List Row} {vf vb vp : List Value} {m0 m' : Str → Option Value} {a b c d : Str}
theorem Pg.same (G : Pg fix l1 l2 pg i P vf vb vp rest) (F : Fr h₀ L h' m') (hm : ∀ z, z ≠ a → z ≠ b → z ≠ c → z ≠ d → m' z = m0 z)
    (N : News h₀ L h' ((l1, W.listOf vf.toArray nf) :: (l2, W.listOf vb.toArray nb) :: (pg, W.listOf vp.toArray np) :: (I, oI) :: rest)) (offI : ∀ p ∈ rest, p.1 ≠ I) (n1 : l1 ≠ I) (n2 : l2 ≠ I) (n3 : pg ≠ I) :
    TurnP h₀ L I oI s₁ (Between fix l1 l2 pg m0 a b c d (i + 1)) Q .next { s₁ with heap := h', toks := tk } :=
  TurnP.intro F (perm4 N) (fun p hp => by
    rcases List.mem_cons.mp hp with rfl | hp
    · exact n1
    rcases List.mem_cons.mp hp with rfl | hp
    · exact n2
    rcases List.mem_cons.mp hp with rfl | hp
    · exact n3
    · exact offI p hp) ⟨hm, P, vf, nf, vb, nb, vp, np, rest, rfl, ⟨G.sub, G.a1, G.a2, G.a3, G.pf, G.pb, G.pp, G.ok, Nat.le_succ_of_le G.le⟩⟩
theorem Pg.grow {T1 T2 T3 : Addr} {r : Row} {ta tb tc td te tf tg : Tok} {nf' nb' np' : Nat} {all : List (Addr × Obj)} (G : Pg fix l1 l2 pg i P vf vb vp rest) (hr : r ∈ rows) (hc : ctl r.sign = false) (F : Fr h₀ L h' m') (hm : ∀ z, z ≠ a → z ≠ b → z ≠ c → z ≠ d → m' z = m0 z)
    (N : News h₀ L h' all) (m1 : (l1, W.listOf (vf ++ [Value.ref T1]).toArray nf') ∈ all) (m2 : (l2, W.listOf (vb ++ [Value.ref T3]).toArray nb') ∈ all) (m3 : (pg, W.listOf (vp ++ [Value.ref T2]).toArray np') ∈ all) (mI : (I, oI) ∈ all)
    (k1 : (T1, tupObj #[.str (st1 r.sign) ta, .str (stL r.fold) tb]) ∈ all) (k2 : (T2, tupObj #[.str (st1 r.sign) tc, .str (st1 r.small) td, .str (stL r.fold) te]) ∈ all) (k3 : (T3, tupObj #[.str (stL r.fold) tf, .str (st1 r.sign) tg]) ∈ all)
    (hrest : ∀ p ∈ rest, p ∈ all) (offI : ∀ p ∈ rest, p.1 ≠ I) (n1 : l1 ≠ I) (n2 : l2 ≠ I) (n3 : pg ≠ I) (hcl : oI.cls = .type "list_iterator") :
    TurnP h₀ L I oI s₁ (Between fix l1 l2 pg m0 a b c d (i + 1)) Q .next { s₁ with heap := h', toks := tk } := by
  have hcl' : ∀ {T : Addr} {vs : Array Value}, (T, tupObj vs) ∈ all → @Ne Nat T I := fun hT => ne_of_news N hT mI (by rw [hcl]; exact fun e => by injection e with e; exact absurd e (by decide))
  have hl : ∀ {T l : Addr} {vs us : Array Value} {n : Nat}, (T, tupObj vs) ∈ all → (l, W.listOf us n) ∈ all → @Ne Nat T l := fun hT h => ne_of_news N hT h (fun e => by injection e with e; exact absurd e (by decide))
  refine TurnP.intro F (news' := (l1, W.listOf (vf ++ [Value.ref T1]).toArray nf') :: (l2, W.listOf (vb ++ [Value.ref T3]).toArray nb') :: (pg, W.listOf (vp ++ [Value.ref T2]).toArray np') :: (T1, tupObj #[.str (st1 r.sign) ta, .str (stL r.fold) tb]) :: (T2, tupObj #[.str (st1 r.sign) tc, .str (st1 r.small) td, .str (stL r.fold) te]) :: (T3, tupObj #[.str (stL r.fold) tf, .str (st1 r.sign) tg]) :: rest) (News.sub N fun p hp => ?_) (fun p hp => ?_)
    ⟨hm, P ++ [r], _, nf', _, nb', _, np', (T1, tupObj #[.str (st1 r.sign) ta, .str (stL r.fold) tb]) :: (T2, tupObj #[.str (st1 r.sign) tc, .str (st1 r.small) td, .str (stL r.fold) te]) :: (T3, tupObj #[.str (stL r.fold) tf, .str (st1 r.sign) tg]) :: rest, rfl, ⟨fun p hp => .tail _ (.tail _ (.tail _ (G.sub p hp))), fun p hp => ?_, fun p hp => ?_, fun p hp => ?_, ?_, ?_, ?_, G.ok.snoc hr hc, by rw [List.length_append]; exact Nat.succ_le_succ G.le⟩⟩
  · rcases List.mem_cons.mp hp with rfl | hp
    · exact mI
    rcases List.mem_cons.mp hp with rfl | hp
    · exact m1
    rcases List.mem_cons.mp hp with rfl | hp
    · exact m2
    rcases List.mem_cons.mp hp with rfl | hp
    · exact m3
    rcases List.mem_cons.mp hp with rfl | hp
    · exact k1
    rcases List.mem_cons.mp hp with rfl | hp
    · exact k2
    rcases List.mem_cons.mp hp with rfl | hp
    · exact k3
    · exact hrest p hp
  · rcases List.mem_cons.mp hp with rfl | hp
    · exact n1
    rcases List.mem_cons.mp hp with rfl | hp
    · exact n2
    rcases List.mem_cons.mp hp with rfl | hp
    · exact n3
    rcases List.mem_cons.mp hp with rfl | hp
    · exact hcl' k1
    rcases List.mem_cons.mp hp with rfl | hp
    · exact hcl' k2
    rcases List.mem_cons.mp hp with rfl | hp
    · exact hcl' k3
    · exact offI p hp
  · rcases List.mem_cons.mp hp with rfl | hp
    · exact hl k1 m1
    rcases List.mem_cons.mp hp with rfl | hp
    · exact hl k2 m1
    rcases List.mem_cons.mp hp with rfl | hp
    · exact hl k3 m1
    · exact G.a1 p hp
  · rcases List.mem_cons.mp hp with rfl | hp
    · exact hl k1 m2
    rcases List.mem_cons.mp hp with rfl | hp
    · exact hl k2 m2
    rcases List.mem_cons.mp hp with rfl | hp
    · exact hl k3 m2
    · exact G.a2 p hp
  · rcases List.mem_cons.mp hp with rfl | hp
    · exact hl k1 m3
    rcases List.mem_cons.mp hp with rfl | hp
    · exact hl k2 m3
    rcases List.mem_cons.mp hp with rfl | hp
    · exact hl k3 m3
    · exact G.a3 p hp
  · rw [pf_snoc]; exact PairsIn.snoc (p := (st1 r.sign, stL r.fold)) (.head _) (PairsIn.mono (fun p hp => .tail _ (.tail _ (.tail _ hp))) G.pf)
  · rw [pb_snoc]; exact PairsIn.snoc (p := (stL r.fold, st1 r.sign)) (.tail _ (.tail _ (.head _))) (PairsIn.mono (fun p hp => .tail _ (.tail _ (.tail _ hp))) G.pb)
  · exact Each.snoc ⟨T2, _, _, _, rfl, .tail _ (.head _)⟩ (RowsIn.up (fun p hp => .tail _ (.tail _ (.tail _ hp))) G.pp)
end
end Mine
theorem Mine.offLf : True := by
  w_top off
  trivial
end
section
set_option maxRecDepth 100000
set_option Elab.async false
namespace Mine
open PySem PySem.W PyProof.Rows PySem.Calls
theorem c_learnN {w : World} {mean : ExcName → Option Value} {mg mb : Str → Option Value}
  {dp un : Nat} {gd : Option (List Code)} {cn : Str} {cs : Scope} {a : Addr} {ccd : Value} {cl : List (Str × Addr)} {A₀ : Around} {base h₀ : Heap} {L : Addr} {m : Str → Option Value} {rest : List (Addr × Obj)} {s : Shared}
    {Q E : Value → Shared → Prop} {r : Row} {t : Tok} {o d l : Addr} {k : Tok} {vs : List Value} {n : Nat} {ps : List (Str × Str)} (hr : RowF r) (hc : ctl r.sign = false)
    (ho : (o, instObj 175 d) ∈ rest) (hdm : (d, hdD w.params l k) ∈ rest) (hap : ∀ p ∈ rest, p.1 ≠ l) (hp : PairsIn rest vs ps) (hps : ∀ p ∈ ps, p.1.length ≤ 100) (hvs : vs.length ≤ 100)
    (B : Below A₀ base [] h₀) (F : Fr h₀ L s.heap m) (X : (Mine.hd.heap_39 w.params).In h₀) (N : News h₀ L s.heap ((l, W.listOf vs.toArray n) :: rest)) (T : Top Mine.qT (looseW Mine.qT Mine.looseT) mean mg mb h₀) (XB : (Mine.hd.heap_39 w.params).In base) (TB : Top Mine.qT (looseW Mine.qT Mine.looseT) mean mg mb base) (hk : cs.kind = .function) (hd : dp + 4 < recursionLimit) (_hu : un + 32 < cLine)
    (hg : getv ps (Txt.lower (st1 r.sign)) = none)
    (ret1 : ∀ T h' tk' t1 t2 t3, Fr h₀ L h' m → News h₀ L h' ((T, tupObj #[.str (st1 r.sign) t1, .str (stL r.fold) t2]) :: (l, W.listOf (vs ++ [Value.ref T]).toArray (n + 1)) :: rest) → Q (.str (stL r.fold) t3) { s with heap := h', toks := tk' }) :
    wpAny (model PySem.Challenge.rw_pe0279_01.row.prog w) (ktrTop dp un gd cn cs L a ccd cl []) (call (.ref 239) [.ref o, .str (st1 r.sign) t]) Q E s :=
  c_learn hr hc ho hdm hap hp hps hvs B F X N T XB TB hk hd _hu (fun _ => ret1) (fun b tb h' tk' e _ _ => by rw [hg] at e; cases e)
theorem c_learnK {w : World} {mean : ExcName → Option Value} {mg mb : Str → Option Value}
  {dp un : Nat} {gd : Option (List Code)} {cn : Str} {cs : Scope} {a : Addr} {ccd : Value} {cl : List (Str × Addr)} {A₀ : Around} {base h₀ : Heap} {L : Addr} {m : Str → Option Value} {rest : List (Addr × Obj)} {s : Shared}
    {Q E : Value → Shared → Prop} {r : Row} {t : Tok} {o d l : Addr} {k : Tok} {vs : List Value} {n : Nat} {ps : List (Str × Str)} (hr : RowF r) (hc : ctl r.sign = false)
    (ho : (o, instObj 175 d) ∈ rest) (hdm : (d, hdD w.params l k) ∈ rest) (hap : ∀ p ∈ rest, p.1 ≠ l) (hp : PairsIn rest vs ps) (hps : ∀ p ∈ ps, p.1.length ≤ 100) (hvs : vs.length ≤ 100)
    (B : Below A₀ base [] h₀) (F : Fr h₀ L s.heap m) (X : (Mine.hd.heap_39 w.params).In h₀) (N : News h₀ L s.heap ((l, W.listOf vs.toArray n) :: rest)) (T : Top Mine.qT (looseW Mine.qT Mine.looseT) mean mg mb h₀) (XB : (Mine.hd.heap_39 w.params).In base) (TB : Top Mine.qT (looseW Mine.qT Mine.looseT) mean mg mb base) (hk : cs.kind = .function) (hd : dp + 4 < recursionLimit) (_hu : un + 32 < cLine)
    (hg : getv ps (Txt.lower (st1 r.sign)) = some (stL r.fold))
    (ret2 : ∀ tb h' tk', Fr h₀ L h' m → News h₀ L h' ((l, W.listOf vs.toArray n) :: rest) → Q (.str (stL r.fold) tb) { s with heap := h', toks := tk' }) :
    wpAny (model PySem.Challenge.rw_pe0279_01.row.prog w) (ktrTop dp un gd cn cs L a ccd cl []) (call (.ref 239) [.ref o, .str (st1 r.sign) t]) Q E s :=
  c_learn hr hc ho hdm hap hp hps hvs B F X N T XB TB hk hd _hu (fun e => by rw [hg] at e; cases e) (fun b tb h' tk' e F N => by rw [hg] at e; cases e; exact ret2 tb h' tk' F N)
end Mine
theorem Mine.offLh : True := by
  w_top off
  trivial
end
section
set_option maxRecDepth 100000
set_option Elab.async false
namespace Mine
open PySem PySem.W PyProof.Rows PySem.Calls PySem.Spec
theorem ok_rows : rows.all (fun r => r.sign.blt 1114112 && r.small.blt 1114112 && r.fold.all (fun c => c.blt 1114112)) = true := by decide +kernel
theorem okL {l : List Nat} (h : l.all (fun c => c.blt 1114112) = true) : PyData.strOk (stL l) = true := by
  show l.toArray.all (· < 0x110000) = true
  rw [List.all_toArray]
  rw [List.all_eq_true] at h ⊢
  intro c hc
  have := h c hc
  rw [Nat.blt_eq] at this
  exact decide_eq_true this
theorem row_ok {r : Row} (hr : r ∈ rows) : PyData.strOk (st1 r.sign) = true ∧ PyData.strOk (st1 r.small) = true ∧ PyData.strOk (stL r.fold) = true := by
  have h := List.all_eq_true.mp ok_rows r hr
  simp only [Bool.and_eq_true] at h
  exact ⟨okL (l := [r.sign]) (by simpa using h.1.1), okL (l := [r.small]) (by simpa using h.1.2), okL h.2⟩
theorem strs_dat {n : List (Addr × Obj)} : ∀ {ys : List Value} {bs : List Str}, StrsAre ys bs → DatAll n ys (bs.map .str)
  | [], [], _ => .nil
  | [], _ :: _, h => h.elim
  | _ :: _, [], h => h.elim
  | _ :: _, b :: _, h => by
    obtain ⟨⟨t, rfl⟩, r⟩ := h
    exact .cons (.str b t) (strs_dat r)
theorem pairs_dat {n : List (Addr × Obj)} : ∀ {ys : List Value} {ps : List (Str × Str)}, PairsIn n ys ps → DatAll n ys (ps.map fun p => .tuple [.str p.1, .str p.2])
  | [], [], _ => .nil
  | [], _ :: _, h => h.elim
  | _ :: _, [], h => h.elim
  | _ :: _, p :: _, h => by
    obtain ⟨⟨T, ta, tb, rfl, hm⟩, r⟩ := h
    exact .cons (.tuple (vs := [.str p.1 ta, .str p.2 tb]) hm (.cons (.str _ _) (.cons (.str _ _) .nil))) (pairs_dat r)
section
variable {prog : Program} {w : World} {A : Around} {E : Value → Shared → Prop} {s : Shared} {h₀ : Heap} {L a b : Addr} {news n₁ n₂ : List (Addr × Obj)} {d : Dat} {Q : Value → Shared → Prop}
theorem dat_same {h : Heap} (N : News h₀ L h news) (Da : DatIn news (.ref a) d) (Db : DatIn news (.ref b) d) (ok : kqdOk 8 d = true) : ∃ as bs, Reads h (.ref a) (kqdP d) as ∧ Reads h (.ref b) (kqdP d) bs ∧ SeqAt.shaped (kqdP d) = true ∧ PyData.eqv (kqdP d) (kqdP d) = true := by
  obtain ⟨as, ra⟩ := kqd_in N 8 Da ok
  obtain ⟨bs, rb⟩ := kqd_in N 8 Db ok
  have l := kqd_lay 8 d ok
  exact ⟨as, bs, ra, rb, by unfold SeqAt.shaped; rw [l.1, Bool.true_and]; exact decide_eq_true (Nat.le_trans l.2 (by decide)), (kqd_eqv 8 d d 8 ok ok).mpr rfl⟩
theorem ne_dat (N : News h₀ L s.heap news) (Da : DatIn news (.ref a) d) (Db : DatIn news (.ref b) d) (ok : kqdOk 8 d = true) (hu : A.units + 64 < cLine) (h : Q (.bool false) s) : wpAny (model prog w) A (compareOp .NotEq (.ref a) (.ref b)) Q E s := by
  obtain ⟨as, bs, ra, rb, sh, e⟩ := dat_same N Da Db ok
  exact ne_dataH ra rb sh sh hu (by rw [e]; exact h)
theorem eq_dat (N : News h₀ L s.heap news) (Da : DatIn news (.ref a) d) (Db : DatIn news (.ref b) d) (ok : kqdOk 8 d = true) (hu : A.units + 64 < cLine) (h : Q (.bool true) s) : wpAny (model prog w) A (compareOp .Eq (.ref a) (.ref b)) Q E s := by
  obtain ⟨as, bs, ra, rb, sh, e⟩ := dat_same N Da Db ok
  exact eq_dataH ra rb sh sh hu (by rw [e]; exact h)
theorem ok_strs {bs : List Str} (h : ∀ b ∈ bs, PyData.strOk b = true) : ∀ d ∈ bs.map Dat.str, kqdOk 8 d = true := fun d hd => by
  obtain ⟨x, hx, rfl⟩ := List.mem_map.mp hd
  exact h x hx
theorem mem_dstr {x : Str} {bs : List Str} : Dat.str x ∈ bs.map Dat.str ↔ x ∈ bs := by
  rw [List.mem_map]
  exact ⟨fun ⟨y, hy, e⟩ => by injection e with e; exact e ▸ hy, fun h => ⟨x, h, rfl⟩⟩
open Classical in
theorem notIn_no {xs : List Value} {bs : List Str} {x : Str} {t : Tok} (N : News h₀ L s.heap news) (ma : (a, LCg.lst xs) ∈ news) (hs : StrsAre xs bs) (hb : ∀ b ∈ bs, PyData.strOk b = true) (hx : PyData.strOk x = true) (hu : A.units + 64 < cLine) (hm : x ∈ bs) (h : Q (.bool false) s) :
    wpAny (model prog w) A (compareOp .NotIn (.str x t) (.ref a)) Q E s :=
  kqd_notIn N ma rfl rfl (strs_dat (n := []) hs) (List.forall_mem_nil _) (DatIn.str (news := []) x t) (List.forall_mem_nil _) (ok_strs hb) hx hu (by rw [decide_eq_true (mem_dstr.mpr hm)]; exact h)
open Classical in
theorem notIn_yes {xs : List Value} {bs : List Str} {x : Str} {t : Tok} (N : News h₀ L s.heap news) (ma : (a, LCg.lst xs) ∈ news) (hs : StrsAre xs bs) (hb : ∀ b ∈ bs, PyData.strOk b = true) (hx : PyData.strOk x = true) (hu : A.units + 64 < cLine) (hm : ¬ x ∈ bs) (h : Q (.bool true) s) :
    wpAny (model prog w) A (compareOp .NotIn (.str x t) (.ref a)) Q E s :=
  kqd_notIn N ma rfl rfl (strs_dat (n := []) hs) (List.forall_mem_nil _) (DatIn.str (news := []) x t) (List.forall_mem_nil _) (ok_strs hb) hx hu (by rw [decide_eq_false (fun e => hm (mem_dstr.mp e))]; exact h)
open Classical in
theorem in_yes {xs : List Value} {bs : List Str} {x : Str} {t : Tok} (N : News h₀ L s.heap news) (ma : (a, LCg.lst xs) ∈ news) (hs : StrsAre xs bs) (hb : ∀ b ∈ bs, PyData.strOk b = true) (hx : PyData.strOk x = true) (hu : A.units + 64 < cLine) (hm : x ∈ bs) (h : Q (.bool true) s) :
    wpAny (model prog w) A (compareOp .In (.str x t) (.ref a)) Q E s :=
  kqd_isIn N ma rfl rfl (strs_dat (n := []) hs) (List.forall_mem_nil _) (DatIn.str (news := []) x t) (List.forall_mem_nil _) (ok_strs hb) hx hu (by rw [decide_eq_true (mem_dstr.mpr hm)]; exact h)
open Classical in
theorem in_no {xs : List Value} {bs : List Str} {x : Str} {t : Tok} (N : News h₀ L s.heap news) (ma : (a, LCg.lst xs) ∈ news) (hs : StrsAre xs bs) (hb : ∀ b ∈ bs, PyData.strOk b = true) (hx : PyData.strOk x = true) (hu : A.units + 64 < cLine) (hm : ¬ x ∈ bs) (h : Q (.bool false) s) :
    wpAny (model prog w) A (compareOp .In (.str x t) (.ref a)) Q E s :=
  kqd_isIn N ma rfl rfl (strs_dat (n := []) hs) (List.forall_mem_nil _) (DatIn.str (news := []) x t) (List.forall_mem_nil _) (ok_strs hb) hx hu (by rw [decide_eq_false (fun e => hm (mem_dstr.mp e))]; exact h)
end
theorem smalls_ok {P : List Row} (h : Pages P) : ∀ b ∈ smallsS P, PyData.strOk b = true := fun b hb => by
  obtain ⟨r, hr, rfl⟩ := List.mem_map.mp hb
  exact (row_ok (h r hr).1).2.1
end Mine
theorem Mine.offLk : True := by
  w_top off
  trivial
end
section
set_option maxRecDepth 100000
set_option Elab.async false
namespace Mine
open PySem PySem.W PyProof.Rows PySem.Calls PySem.Spec
theorem PairsIn.monoT {n n' : List (Addr × Obj)} (hs : ∀ (T : Addr) (vs : Array Value), (T, tupObj vs) ∈ n → (T, tupObj vs) ∈ n') : ∀ {vs ps}, PairsIn n vs ps → PairsIn n' vs ps
  | [], [], h => h
  | [], _ :: _, h => h.elim
  | _ :: _, [], h => h.elim
  | _ :: _, _ :: _, h => ⟨let ⟨T, ta, tb, e, hm⟩ := h.1; ⟨T, ta, tb, e, hs _ _ hm⟩, h.2.monoT hs⟩
theorem RowsIn.upT {n n' : List (Addr × Obj)} (hs : ∀ (T : Addr) (vs : Array Value), (T, tupObj vs) ∈ n → (T, tupObj vs) ∈ n') {vs : List Value} {rs : List Row} (h : RowsIn n vs rs) : RowsIn n' vs rs :=
  h.mono fun _ _ ⟨T, t1, t2, t3, e, hm⟩ => ⟨T, t1, t2, t3, e, hs _ _ hm⟩
/-- the ledger less one address -/
def less (c : Nat) (l : List (Addr × Obj)) : List (Addr × Obj) := l.filter fun p => !Nat.beq p.1 c
theorem less_sub {c : Nat} {l : List (Addr × Obj)} : ∀ p ∈ less c l, p ∈ l := fun p hp => (List.mem_filter.mp hp).1
theorem less_ne {c : Nat} {l : List (Addr × Obj)} : ∀ p ∈ less c l, @Ne Nat p.1 c := fun p hp e => by
  have := (List.mem_filter.mp hp).2
  have e : p.1 = c := e
  rw [e, Nat.beq_refl] at this
  cases this
theorem less_mem {h₀ h : Heap} {L c : Addr} {oc : Obj} {news l : List (Addr × Obj)} (N : News h₀ L h news) (hc : (c, oc) ∈ news) (hl : ∀ p ∈ l, p ∈ news) {a : Addr} {o : Obj} (hm : (a, o) ∈ l) (hne : o ≠ oc) : (a, o) ∈ less c l := by
  refine List.mem_filter.mpr ⟨hm, ?_⟩
  have : ¬ Nat.beq a c = true := fun e => by
    have e : a = c := Nat.eq_of_beq_eq_true e
    have x := (N _ (hl _ hm)).1
    have y := (N _ hc).1
    dsimp only at x y
    rw [e, y] at x
    exact hne (Option.some.inj x).symm
  show (!Nat.beq a c) = true
  rw [Bool.not_eq_true] at this
  rw [this]; rfl
theorem ask_base {h₀ h : Heap} {L c : Addr} {oc : Obj} {v : Option Value} {l : List (Addr × Obj)} (N : News h₀ L h l) (hc : (c, oc) ∈ l) (hoc : oc.data = .cell v) :
    ∃ base : List (Addr × Obj), (∀ p ∈ base, p ∈ l) ∧ (∀ p ∈ base, p.1 ≠ c) ∧ ∀ (a : Addr) (o : Obj), (a, o) ∈ l → (∀ v, o.data ≠ .cell v) → (a, o) ∈ base :=
  ⟨less c l, less_sub, less_ne, fun _ _ hm hne => less_mem N hc (fun _ h => h) hm fun e => hne v (by rw [e]; exact hoc)⟩
theorem ask_news {h₀ h : Heap} {L c : Addr} {oc : Obj} {l base : List (Addr × Obj)} (N : News h₀ L h l) (hc : (c, oc) ∈ l) (hb : ∀ p ∈ base, p ∈ l) : News h₀ L h ((c, oc) :: base) := News.sub N fun p hp => by
  rcases List.mem_cons.mp hp with rfl | hp
  · exact hc
  · exact hb p hp
theorem perm4r {h₀ h : Heap} {L : Addr} {a b c d : Addr × Obj} {r : List (Addr × Obj)} (N : News h₀ L h (a :: b :: c :: d :: r)) : News h₀ L h (b :: c :: d :: a :: r) := perm4 (perm4 (perm4 N))
def AskJ (cell : Addr) (base : List (Addr × Obj)) (m0 : Str → Option Value) (a b c d : Str) (_ : Nat) (m' : Str → Option Value) (news : List (Addr × Obj)) : Prop :=
  (∀ z, z ≠ a → z ≠ b → z ≠ c → z ≠ d → m' z = m0 z) ∧ ∃ oc v, oc.data = .cell v ∧ news = (cell, oc) :: base
section
variable {prog : Program} {w : World} {A : Around} {E : Value → Shared → Prop} {s : Shared} {h₀ : Heap} {env : Env}
theorem swap2 {h : Heap} {L : Addr} {p q : Addr × Obj} {r : List (Addr × Obj)} (N : News h₀ L h (p :: q :: r)) : News h₀ L h (q :: p :: r) := News.sub N fun x hx => by
  rcases List.mem_cons.mp hx with rfl | hx
  · exact .tail _ (.head _)
  rcases List.mem_cons.mp hx with rfl | hx
  · exact .head _
  · exact .tail _ (.tail _ hx)
theorem ForAt.ask {a b c d : Str} {target : Expr} {body : List Stmt} {Q : Flow → Shared → Prop} {R cell : Addr} {oc0 : Obj} {v0 : Option Value} {zs : List Value} {n : Nat} {m0 : Str → Option Value} {base : List (Addr × Obj)} {s₁ : Shared}
    (hh : A.handled = none) (F : Fr h₀ env.locals s₁.heap m0) (N : News h₀ env.locals s₁.heap ((cell, oc0) :: base)) (hoc : oc0.data = .cell v0) (hm : (R, W.listOf zs.toArray n) ∈ base) (hrow : ∀ v ∈ zs, ∃ r, r ∈ rows ∧ RowIn base v r)
    (turn : ∀ (T : Addr) r t1 t2 t3 (I : Addr) oI oc vc g tk u1 u2 u3 u4 (E' : Value → Shared → Prop) i, r ∈ rows → (T, tupObj #[.str (st1 r.sign) t1, .str (st1 r.small) t2, .str (stL r.fold) t3]) ∈ base → oc.data = .cell vc →
      Fr h₀ env.locals g (st4 a b c d u1 u2 u3 u4 m0) → News h₀ env.locals g ((cell, oc) :: (I, oI) :: base) → (∀ p ∈ base, p.1 ≠ I) → cell ≠ I →
      wpAny (model prog w) A (assign target env (.ref T)) (fun _ s₂ => wpAny (model prog w) A (execs body env) (TurnP h₀ env.locals I oI { s₁ with heap := g, toks := tk } (AskJ cell base m0 a b c d i) Q) E' s₂) E' { s₁ with heap := g, toks := tk })
    (fin : ∀ h' tk u1 u2 u3 u4 oc vc, oc.data = .cell vc → Fr h₀ env.locals h' (st4 a b c d u1 u2 u3 u4 m0) → News h₀ env.locals h' ((cell, oc) :: base) → Q .next { s₁ with heap := h', toks := tk }) :
    ForAt prog w A h₀ env target body Q (.ref R) s₁ := by
  refine ⟨R, zs.toArray, m0, _, AskJ cell base m0 a b c d, rfl, hh, F, N, .inr ⟨_, .tail _ hm, rfl, _, rfl⟩, ⟨fun _ _ _ _ _ => rfl, oc0, v0, hoc, rfl⟩, ?_, ?_, ?_, ?_⟩
  · rintro i m news ⟨_, oc, v, _, rfl⟩
    exact .inr ⟨_, .tail _ hm, rfl, _, rfl⟩
  · intro i v e
    rw [List.getElem?_toArray] at e
    obtain ⟨r, _, T, t1, t2, t3, rfl, _⟩ := hrow v (List.mem_of_getElem? e)
    exact ⟨T, rfl⟩
  · rintro i v m₁ news₁ I oI g tk E' e ⟨hm1, oc, vc, hoc, rfl⟩ F₁ N₁ off hcl
    rw [List.getElem?_toArray] at e
    obtain ⟨r, hr, T, t1, t2, t3, rfl, hT⟩ := hrow v (List.mem_of_getElem? e)
    rw [st4_of hm1] at F₁
    exact turn T r t1 t2 t3 I oI oc vc g tk _ _ _ _ E' (i + 1) hr hT hoc F₁ (swap2 N₁) (fun p hp => off p (.tail _ hp)) (off _ (.head _))
  · rintro h' tk m' news' F' N' ⟨hm1, oc, vc, hoc, rfl⟩
    rw [st4_of hm1] at F'
    exact fin h' tk _ _ _ _ oc vc hoc F' N'
theorem AskJ.turnP {a b c d : Str} {Q : Flow → Shared → Prop} {cell I L : Addr} {oI oc : Obj} {vc : Option Value} {m0 m' : Str → Option Value} {base all : List (Addr × Obj)} {s₁ : Shared} {h' : Heap} {tk i : Nat}
    (F : Fr h₀ L h' m') (hm : ∀ z, z ≠ a → z ≠ b → z ≠ c → z ≠ d → m' z = m0 z) (hoc : oc.data = .cell vc) (N : News h₀ L h' all) (h1 : (cell, oc) ∈ all) (h2 : (I, oI) ∈ all) (h3 : ∀ p ∈ base, p ∈ all) (off : ∀ p ∈ base, p.1 ≠ I) (n : cell ≠ I) :
    TurnP h₀ L I oI s₁ (AskJ cell base m0 a b c d i) Q .next { s₁ with heap := h', toks := tk } :=
  TurnP.intro F (news' := (cell, oc) :: base) (News.sub N fun p hp => by
    rcases List.mem_cons.mp hp with rfl | hp
    · exact h2
    rcases List.mem_cons.mp hp with rfl | hp
    · exact h1
    · exact h3 p hp) (fun p hp => by
    rcases List.mem_cons.mp hp with rfl | hp
    · exact n
    · exact off p hp) ⟨hm, oc, vc, hoc, rfl⟩
end
def optD : Option Str → Dat
  | some b => .str b
  | none => .none
theorem opt_dat {n : List (Addr × Obj)} {o : Option Str} {v : Value} (h : OptStr o v) : DatIn n v (optD o) := by
  cases o with
  | none => obtain rfl : v = .none := h; exact .none
  | some b => obtain ⟨t, rfl⟩ := h; exact .str b t
theorem tup2_dat {n : List (Addr × Obj)} {T D : Addr} {v : Value} {ys : List Value} {d : Dat} {bs : List Str} (hT : (T, tupObj #[v, Value.ref D]) ∈ n) (hD : (D, LCg.lst ys) ∈ n) (hv : DatIn n v d) (hy : StrsAre ys bs) : DatIn n (.ref T) (.tuple [d, .list (bs.map .str)]) :=
  .tuple (vs := [v, .ref D]) hT (.cons hv (.cons (.list (vs := ys) hD (strs_dat hy)) .nil))
theorem tup2_ok {o : Option Str} {bs : List Str} (ho : ∀ b, o = some b → PyData.strOk b = true) (hb : ∀ b ∈ bs, PyData.strOk b = true) : kqdOk 8 (.tuple [optD o, .list (bs.map .str)]) = true := by
  have h1 : kqdOk 7 (optD o) = true := by
    cases o with
    | none => rfl
    | some b => exact ho b rfl
  have h2 : ∀ x ∈ bs.map Dat.str, kqdOk 6 x = true := fun d hd => by
    obtain ⟨x, hx, rfl⟩ := List.mem_map.mp hd
    exact hb x hx
  show ([optD o, Dat.list (bs.map .str)].all (kqdOk 7)) = true
  rw [List.all_cons, h1, List.all_cons, List.all_nil]
  show (true && ((bs.map Dat.str).all (kqdOk 6) && true)) = true
  rw [List.all_eq_true.mpr h2]; rfl
theorem told_ok {P : List Row} {r : Row} (h : Pages P) : ∀ b ∈ told P r, PyData.strOk b = true := fun b hb => by
  obtain ⟨q, hq, rfl⟩ := List.mem_map.mp hb
  exact (row_ok (h q (List.mem_filter.mp hq).1).1).1
theorem pairs_ok {ps : List (Str × Str)} (h : ∀ p ∈ ps, PyData.strOk p.1 = true ∧ PyData.strOk p.2 = true) : kqdOk 8 (.list (ps.map fun p => .tuple [.str p.1, .str p.2])) = true := by
  show ((ps.map fun p => Dat.tuple [.str p.1, .str p.2]).all (kqdOk 7)) = true
  rw [List.all_eq_true]
  intro d hd
  obtain ⟨p, hp, rfl⟩ := List.mem_map.mp hd
  show ([Dat.str p.1, Dat.str p.2].all (kqdOk 6)) = true
  rw [List.all_cons, List.all_cons, List.all_nil]
  show (PyData.strOk p.1 && (PyData.strOk p.2 && true)) = true
  rw [(h p hp).1, (h p hp).2]; rfl
theorem pf_ok {P : List Row} (h : Pages P) : ∀ p ∈ pf P, PyData.strOk p.1 = true ∧ PyData.strOk p.2 = true := fun p hp => by
  obtain ⟨r, hr, rfl⟩ := List.mem_map.mp hp
  have := row_ok (h r hr).1
  exact ⟨this.1, this.2.2⟩
theorem pb_ok {P : List Row} (h : Pages P) : ∀ p ∈ pb P, PyData.strOk p.1 = true ∧ PyData.strOk p.2 = true := fun p hp => by
  obtain ⟨r, hr, rfl⟩ := List.mem_map.mp hp
  have := row_ok (h r hr).1
  exact ⟨this.2.2, this.1⟩
end Mine
theorem Mine.offLm : True := by
  w_top off
  trivial
end
section
set_option maxRecDepth 100000
set_option Elab.async false
set_option maxHeartbeats 0
set_option linter.all false
namespace Mine
open PySem PySem.W PyProof.Rows PySem.Calls
local macro_rules | `(tactic| walk_at "exec Assign cons ListComp") => `(tactic| (k_here; k_dflt (refine Assign_LC (F₀ := by k_asm) (by rfl) (by with_unfolding_all rfl) (by with_unfolding_all rfl) (by decide) (by rfl) (by decide) (by rfl) (by rfl) (by rfl) ?_)))
local macro_rules | `(tactic| k_mem) => `(tactic| first | exact List.Mem.tail _ (by assumption) | exact List.Mem.tail _ (List.Mem.tail _ (by assumption)) | exact List.Mem.tail _ (List.Mem.tail _ (List.Mem.tail _ (by assumption))) | exact List.Mem.tail _ (List.Mem.tail _ (List.Mem.tail _ (List.Mem.tail _ (by assumption)))) | exact List.Mem.tail _ (List.Mem.tail _ (List.Mem.tail _ (List.Mem.tail _ (List.Mem.tail _ (by assumption))))) | exact List.Mem.tail _ (List.Mem.tail _ (List.Mem.tail _ (List.Mem.tail _ (List.Mem.tail _ (List.Mem.tail _ (by assumption)))))))
local macro_rules | `(tactic| k_all) => `(tactic| assumption)
local macro_rules | `(tactic| walk_at "call ref") => `(tactic| first
  | ((with_reducible show wpAny _ _ (call (Value.ref 232) _ _) _ _ _); k_dflt (refine' c_sign ?kB ?kF ?kX ?kN ?kT ?kk ?kd ?ku ?_; (case kB => k_asm); (case kF => k_asm); (case kX => k_asm); (case kN => k_asm); (case kT => k_asm); (case kk => exact rfl); (case kd => ktr_room); (case ku => ktr_units); k_whole); intro T9 x1 x2 x3 t1 t2 t3 h9 tk9 hl9 hr9 F9 N9; (try dsimp only); (try k_fold))
  | ((with_reducible show wpAny _ _ (call (Value.ref 175) _ _) _ _ _); k_dflt (refine' c_new ?kB ?kF ?kX ?kN ?kT ?kk ?kd ?ku ?_; (case kB => k_asm); (case kF => k_asm); (case kX => k_asm); (case kN => k_asm); (case kT => k_asm); (case kk => exact rfl); (case kd => ktr_room); (case ku => ktr_units); k_whole); intro x9 d9 l9 k9 h9 tk9 F9 N9 p9 q9 r9; (try dsimp only); (try k_fold))
  | ((with_reducible show wpAny _ _ (call (Value.ref 239) _ _) _ _ _); first
    | (k_dflt (refine' c_learnX ?hr ?hc ?ho ?hdm ?kB ?kF ?kX ?kN ?kT ?kXB ?kTB ?kk ?kd ?ku ?_; (case hc => assumption); (case kB => k_asm); (case kF => k_asm); (case kX => k_asm); (case kN => k_asm); (case kT => k_asm); (case kXB => k_asm); (case kTB => k_asm); (case hr => assumption); (case ho => k_mem); (case hdm => k_mem); (case kk => exact rfl); (case kd => ktr_room); (case ku => ktr_units); k_whole); intro h9 tk9 t9 F9 N9; (try dsimp only); (try k_fold))
    | (k_dflt (refine' c_learnN ?hr ?hc ?ho ?hdm ?hap ?hp ?hps ?hvs ?kB ?kF ?kX ?kN ?kT ?kXB ?kTB ?kk ?kd ?ku ?hg ?_; (case hc => assumption); (case hg => assumption); (case kB => k_asm); (case kF => k_asm); (case kX => k_asm); (case kN => k_asm); (case kT => k_asm); (case kXB => k_asm); (case kTB => k_asm); (case hr => assumption); (case hap => assumption); (case hp => assumption); (case ho => k_mem); (case hdm => k_mem); (case hps => assumption); (case hvs => assumption); (case kk => exact rfl); (case kd => ktr_room); (case ku => ktr_units); k_whole); intro T9 h9 tk9 ta9 tb9 tc9 F9 N9; (try dsimp only); (try k_fold))
    | (k_dflt (refine' c_learnK ?hr ?hc ?ho ?hdm ?hap ?hp ?hps ?hvs ?kB ?kF ?kX ?kN ?kT ?kXB ?kTB ?kk ?kd ?ku ?hg ?_; (case hc => assumption); (case hg => assumption); (case kB => k_asm); (case kF => k_asm); (case kX => k_asm); (case kN => k_asm); (case kT => k_asm); (case kXB => k_asm); (case kTB => k_asm); (case hr => assumption); (case hap => assumption); (case hp => assumption); (case ho => k_mem); (case hdm => k_mem); (case hps => assumption); (case hvs => assumption); (case kk => exact rfl); (case kd => ktr_room); (case ku => ktr_units); k_whole); intro tb9 h9 tk9 F9 N9; (try dsimp only); (try k_fold)))
  | refine hold ?_)
local macro_rules | `(tactic| walk_at "subscriptTail Name Slice ref ref") => `(tactic| (k_dflt (refine slice3 (by assumption) (by assumption) (l := _) (by k_mem) (.int _ _) .none (.int _ _) (by decide) (by assumption) ?_); intro D9 h9 zs9 F9 N9 lt9 sub9 len9; (try dsimp only)))
local macro_rules | `(tactic| walk_at "call builtin:ord") => `(tactic| refine ord_st1 ?_)
local macro_rules | `(tactic| walk_at "compareOp Eq int int") => `(tactic| first | refine eq_no (by assumption) ?_ | refine eq_yes (by assumption) ?_)
local macro_rules | `(tactic| walk_at "compareOp NotEq str str") => `(tactic| with_reducible refine ne_same ?_)
local macro_rules | `(tactic| walk_at "compareOp NotEq ref ref") => `(tactic| refine hold ?_)
local macro_rules | `(tactic| walk_at "compareOp Eq ref ref") => `(tactic| refine hold ?_)
local macro_rules | `(tactic| walk_at "compareOp NotIn str ref") => `(tactic| first
  | k_dflt (refine notIn_no (by assumption) (.head _) (by assumption) (smalls_ok (by assumption)) (by assumption) (by ke_room) (by assumption) ?_)
  | k_dflt (refine notIn_yes (by assumption) (.head _) (by assumption) (smalls_ok (by assumption)) (by assumption) (by ke_room) (by assumption) ?_))
local macro_rules | `(tactic| walk_at "compareOp In str ref") => `(tactic| first
  | k_dflt (refine in_yes (by assumption) (.head _) (by assumption) (smalls_ok (by assumption)) (by assumption) (by ke_room) (by assumption) ?_)
  | k_dflt (refine in_no (by assumption) (.head _) (by assumption) (smalls_ok (by assumption)) (by assumption) (by ke_room) (by assumption) ?_))
local macro_rules | `(tactic| walk_at "eval ListComp") => `(tactic| first
  | ((with_reducible show wpAny _ _ (eval (Expr.ListComp _ [⟨_, _, [], _⟩] _ _) _) _ _ _); k_dflt (refine ListComp_L (F₀ := by k_asm) (by with_unfolding_all rfl) (by decide) (by rfl) (by decide) (by rfl) ?_))
  | ((with_reducible show wpAny _ _ (eval (Expr.ListComp _ [⟨_, _, [_], _⟩] _ _) _) _ _ _); k_dflt (refine LCt.ListComp_T (F₀ := by k_asm) (by with_unfolding_all rfl) (by decide) (by rfl) (by decide) (by rfl) ?_)))
def stg1 (H5a : PLift _) (H5b : PLift _) :=
  (show PySem.Challenge.rw_pe0279_01.Holds from Mine.hd (by
    w_strict (
      k_go0
      all_goals try k_fold
      rename Frag.In _ _ => KX
      k_steps
      rename_i D3 ws3 h3 F3 N3 hI3 l3
      unfold MySrc
      have hlen : ws3.length ≤ 20 := by rw [hI3.length, List.length_append, List.length_take]; show 4 + _ ≤ 20; omega
      refine LCg.CompSrc.ledger rfl F3 N3 (.head _) (by rw [List.size_toArray]; exact Nat.le_trans hlen (by decide)) ?_
      intro g9
      rename Obj => oc
      refine runV (Acc := fun i ys nw => (∃ rs, RowsIn nw ys rs ∧ (∀ r ∈ rs, r ∈ rows) ∧ rs.length = i) ∧ (D3, W.listOf ws3.toArray 0) ∈ nw ∧ (_, oc) ∈ nw) (fun i ys nw a => .inr ⟨_, a.2.1, rfl, _, rfl⟩) ?_ ?_ _ 0 [] _ (Nat.zero_add _) ⟨⟨[], trivial, (fun _ h => nomatch h), rfl⟩, .head _, .tail _ (.tail _ (.tail _ (.head _)))⟩
      · intro i v ys nw I oI C oC D m₂ h tk E' hv ha hC hx2 F2 N2 off
        obtain ⟨⟨rs, hrs, hall, hln⟩, hm1, hm2⟩ := ha
        rw [List.getElem?_toArray] at hv
        obtain ⟨nv, tv, rfl⟩ := ints_at hI3 hv
        k_steps
        rename_i T9 x1 x2 x3 t1 t2 t3 h9 tk9 hl9 hr9 F9 N9
        obtain ⟨r, hr, rfl, rfl, rfl⟩ := hr9
        refine ⟨h9, tk9, (T9, tupObj #[Value.str (st1 r.sign) t1, Value.str (st1 r.small) t2, Value.str (stL r.fold) t3]) :: nw, rfl, F9, News.sub N9 ?_, ⟨⟨Nat.ne_of_gt (hl9 _ (.head _)), Nat.ne_of_gt (hl9 _ (.tail _ (.head _))), Nat.ne_of_gt (hl9 _ (.tail _ (.tail _ (.head _))))⟩, off⟩, ⟨rs ++ [r], Each.snoc ⟨T9, _, _, _, rfl, .head _⟩ (RowsIn.up (fun p hp => .tail _ hp) hrs), ?_, by rw [List.length_append, hln]; rfl⟩, .tail _ hm1, .tail _ hm2⟩
        · intro p hp
          rcases List.mem_cons.mp hp with rfl | hp
          · exact .tail _ (.head _)
          rcases List.mem_cons.mp hp with rfl | hp
          · exact .tail _ (.tail _ (.head _))
          rcases List.mem_cons.mp hp with rfl | hp
          · exact .tail _ (.tail _ (.tail _ (.head _)))
          rcases List.mem_cons.mp hp with rfl | hp
          · exact .head _
          · exact .tail _ (.tail _ (.tail _ (.tail _ hp)))
        · intro x hx
          rcases List.mem_append.mp hx with hx | hx
          · exact hall x hx
          · rw [List.mem_singleton.mp hx]; exact hr
      · intro ys nw hys
        obtain ⟨⟨rs, hrs, hall, hln⟩, hm1, hm2⟩ := hys
        intro R h4 tk4 F4 N4 o4
        k_steps
        rename_i x1 d1 l1 k1 h5 tk5 p1 q1 r1 qk1 ek1 x2 d2 l2 k2 h6 tk6 p2 q2 r2 Dt ht1 lt1 ha hb hc tka pg hp1 lp1 hp2 Fp Np
        have hys : ys.length ≤ 100 := by rw [hrs.len, hln, List.size_toArray]; omega
        refine For_list Fp ?_
        k_steps
        rename World => wd
        rename_i D9 h9 zs9 F9 N9 lt9 sub9 len9
        have ap := fix_apart (D9 := D9) (o9 := W.listOf zs9.toArray 0) (ox2 := instObj 175 d2) (od2 := hdD wd.params l2 k2) (ox1 := instObj 175 d1) (od1 := hdD wd.params l1 k1) p1 q1 r1 (p2 _ (.head _)) q2 r2 lp1.2.1 (lt9 _ (.head _))
        refine ForAt.led (a := Str.ofString "sign") (b := Str.ofString "small") (c := Str.ofString "fold") (d := Str.ofString "steering") (n := 0) (l1 := l1) (l2 := l2) (pg := pg) rfl F9 (News.sub N9 ?_) (.head _) ap ?_ ?_ ?_
        · intro p hp
          rcases List.mem_cons.mp hp with rfl | hp
          · exact .tail _ (.tail _ (.tail _ (.tail _ (.tail _ (.tail _ (.head _))))))
          rcases List.mem_cons.mp hp with rfl | hp
          · exact .tail _ (.tail _ (.tail _ (.head _)))
          rcases List.mem_cons.mp hp with rfl | hp
          · exact .tail _ (.head _)
          rcases List.mem_cons.mp hp with rfl | hp
          · exact .head _
          rcases List.mem_cons.mp hp with rfl | hp
          · exact .tail _ (.tail _ (.tail _ (.tail _ (.head _))))
          rcases List.mem_cons.mp hp with rfl | hp
          · exact .tail _ (.tail _ (.tail _ (.tail _ (.tail _ (.head _)))))
          exact .tail _ (.tail _ (.tail _ (.tail _ (.tail _ (.tail _ (.tail _ hp))))))
        · intro v hv
          obtain ⟨i, hi⟩ := List.mem_iff_getElem?.mp (sub9 v hv)
          obtain ⟨r, hr, hin⟩ := hrs.at hi
          exact ⟨r, hall r (List.mem_of_getElem? hr), hin.mono fun p hp => .tail _ (.tail _ (.tail _ (.tail _ (.tail _ (.tail _ hp)))))⟩
        · intro i T r t1 t2 t3 P vf nf vb nb vp np rest I oI g tk u1 u2 u3 u4 E' hr hi hT G F N offI n1 n2 n3 hcl
          w_strict (repeat (rename_i za; revert za))
          (try revert E'); (try revert hcl); (try revert n3); (try revert n2); (try revert n1); (try revert offI); (try revert N); (try revert F); (try revert G); (try revert hT); (try revert hi); (try revert hr); (try revert u4); (try revert u3); (try revert u2); (try revert u1); (try revert u4'); (try revert u3'); (try revert u2'); (try revert u1'); (try revert tk); (try revert g); (try revert oI); (try revert I); (try revert rest); (try revert np); (try revert vp); (try revert nb); (try revert vb); (try revert nf); (try revert vf); (try revert P); (try revert t3); (try revert t2); (try revert t1); (try revert r); (try revert T); (try revert i); (try revert ap); (try revert len9); (try revert sub9); (try revert lt9); (try revert N9); (try revert F9); (try revert zs9); (try revert h9); (try revert D9); (try revert hys); (try revert Np); (try revert Fp); (try revert hp2); (try revert lp1); (try revert hp1); (try revert pg); (try revert tka); (try revert hc); (try revert hb); (try revert ha); (try revert lt1); (try revert ht1); (try revert Dt); (try revert ek); (try revert qk); (try revert r2); (try revert q2); (try revert p2); (try revert tk6); (try revert h6); (try revert k2); (try revert l2); (try revert d2); (try revert x2); (try revert ek1); (try revert qk1); (try revert r1); (try revert q1); (try revert p1); (try revert tk5); (try revert h5); (try revert k1); (try revert l1); (try revert d1); (try revert x1); (try revert o4); (try revert N4); (try revert F4); (try revert tk4); (try revert h4); (try revert R); (try revert hm2); (try revert hm1); (try revert hln); (try revert hall); (try revert hrs); (try revert rs); (try revert nw); (try revert ys); (try revert g9); (try revert hlen); (try revert l3); (try revert hI3); (try revert N3); (try revert F3); (try revert h3); (try revert ws3); (try revert D3); (try revert oc); (try revert KX); (try revert q3); (try revert q4); (try revert hP1); (try revert hP2); (try revert hlz); (try revert hv1); (try revert hv2); (try revert hv3); (try revert l12); (try revert l1p); (try revert l2p); (try revert HA); (try revert HP); (try revert hk); (try revert hg); (try revert md1); (try revert mx1); (try revert md2); (try revert mx2); (try revert RF); (try revert h8); (try revert q); (try revert tk7); (try revert h7); (try revert hoc); (try revert base); (try revert hbs); (try revert hbc); (try revert hbm); (try revert bx1); (try revert bd1); (try revert bx2); (try revert bd2); (try revert bR); (try revert bl1); (try revert bl2); (try revert bpg); (try revert bpf); (try revert bpb); (try revert bpp); (try revert bys); (try revert hok); (try revert hlp); (try revert oc'); (try revert vc); (try revert hoc'); (try revert HC); (try revert ho2); (try revert ys1); (try revert hys'); (try revert R3); (try revert h10); (try revert tk10); (try revert F10); (try revert N10); (try revert o10); (try revert hkS); (try revert o9); (try revert d9c); (try revert F11); (try revert N11); (try revert sub3); (try revert subn); (try revert tk8); (try revert T9); (try revert ta9); (try revert tb9); (try revert tc9); (try revert tk9); (try revert D7); (try revert h12); (try revert tk12); (try revert F12); (try revert N12); (try revert D6); (try revert g10); (try revert q4); (try revert e1); (try revert e2); (try revert hkS); (try revert ho2); (try revert wd)
          exact PLift.down H5a
        · intro h7 tk7 u1 u2 u3 u4 P vf nf vb nb vp np rest G F N
          w_strict (repeat (rename_i za; revert za))
          (try revert E'); (try revert hcl); (try revert n3); (try revert n2); (try revert n1); (try revert offI); (try revert N); (try revert F); (try revert G); (try revert hT); (try revert hi); (try revert hr); (try revert u4); (try revert u3); (try revert u2); (try revert u1); (try revert u4'); (try revert u3'); (try revert u2'); (try revert u1'); (try revert tk); (try revert g); (try revert oI); (try revert I); (try revert rest); (try revert np); (try revert vp); (try revert nb); (try revert vb); (try revert nf); (try revert vf); (try revert P); (try revert t3); (try revert t2); (try revert t1); (try revert r); (try revert T); (try revert i); (try revert ap); (try revert len9); (try revert sub9); (try revert lt9); (try revert N9); (try revert F9); (try revert zs9); (try revert h9); (try revert D9); (try revert hys); (try revert Np); (try revert Fp); (try revert hp2); (try revert lp1); (try revert hp1); (try revert pg); (try revert tka); (try revert hc); (try revert hb); (try revert ha); (try revert lt1); (try revert ht1); (try revert Dt); (try revert ek); (try revert qk); (try revert r2); (try revert q2); (try revert p2); (try revert tk6); (try revert h6); (try revert k2); (try revert l2); (try revert d2); (try revert x2); (try revert ek1); (try revert qk1); (try revert r1); (try revert q1); (try revert p1); (try revert tk5); (try revert h5); (try revert k1); (try revert l1); (try revert d1); (try revert x1); (try revert o4); (try revert N4); (try revert F4); (try revert tk4); (try revert h4); (try revert R); (try revert hm2); (try revert hm1); (try revert hln); (try revert hall); (try revert hrs); (try revert rs); (try revert nw); (try revert ys); (try revert g9); (try revert hlen); (try revert l3); (try revert hI3); (try revert N3); (try revert F3); (try revert h3); (try revert ws3); (try revert D3); (try revert oc); (try revert KX); (try revert q3); (try revert q4); (try revert hP1); (try revert hP2); (try revert hlz); (try revert hv1); (try revert hv2); (try revert hv3); (try revert l12); (try revert l1p); (try revert l2p); (try revert HA); (try revert HP); (try revert hk); (try revert hg); (try revert md1); (try revert mx1); (try revert md2); (try revert mx2); (try revert RF); (try revert h8); (try revert q); (try revert tk7); (try revert h7); (try revert hoc); (try revert base); (try revert hbs); (try revert hbc); (try revert hbm); (try revert bx1); (try revert bd1); (try revert bx2); (try revert bd2); (try revert bR); (try revert bl1); (try revert bl2); (try revert bpg); (try revert bpf); (try revert bpb); (try revert bpp); (try revert bys); (try revert hok); (try revert hlp); (try revert oc'); (try revert vc); (try revert hoc'); (try revert HC); (try revert ho2); (try revert ys1); (try revert hys'); (try revert R3); (try revert h10); (try revert tk10); (try revert F10); (try revert N10); (try revert o10); (try revert hkS); (try revert o9); (try revert d9c); (try revert F11); (try revert N11); (try revert sub3); (try revert subn); (try revert tk8); (try revert T9); (try revert ta9); (try revert tb9); (try revert tc9); (try revert tk9); (try revert D7); (try revert h12); (try revert tk12); (try revert F12); (try revert N12); (try revert D6); (try revert g10); (try revert q4); (try revert e1); (try revert e2); (try revert hkS); (try revert ho2); (try revert wd)
          exact PLift.down H5b
      )))
def stg2 (H6c : PLift _) (H6d : PLift _) (H5b : PLift _) :=
  stg1 ⟨(by
    set_option tactic.hygienic false in intros
    (rename Frag.In _ _ => KX); revert KX; k_fill; intro KX
    have RF := rowF hr
    refine unpackN_ F N (News.isTup N (.tail _ (.tail _ (.tail _ (.tail _ hT))))) rfl rfl rfl ?_
    clear F N
    intro h8 F N
    have mx1 : (x1, instObj 175 d1) ∈ rest := G.sub _ (.tail _ (.tail _ (.tail _ (.head _))))
    have md1 : (d1, hdD wd.params l1 k1) ∈ rest := G.sub _ (.tail _ (.tail _ (.tail _ (.tail _ (.head _)))))
    have mx2 : (x2, instObj 175 d2) ∈ rest := G.sub _ (.tail _ (.head _))
    have md2 : (d2, hdD wd.params l2 k2) ∈ rest := G.sub _ (.tail _ (.tail _ (.head _)))
    cases hc : ctl r.sign with
    | true =>
      have q1' : (r.sign : Int) < 32 ∨ (r.sign : Int) = 127 := by
        rcases (Bool.or_eq_true ..).mp hc with q | q
        · exact .inl (by have := of_decide_eq_true q; omega)
        · exact .inr (by have := beq_iff_eq.mp q; omega)
      rcases q1' with q | q
      · k_steps
        rename_i F9 N9
        exact Pg.same G F9 (fun z z1 z2 z3 z4 => by simp only [st4, if_neg z1, if_neg z2, if_neg z3, if_neg z4]) N9 offI n1 n2 n3
      · k_steps
        rename_i F9 N9
        exact Pg.same G F9 (fun z z1 z2 z3 z4 => by simp only [st4, if_neg z1, if_neg z2, if_neg z3, if_neg z4]) N9 offI n1 n2 n3
    | false =>
      have q2' : ¬ (r.sign : Int) < 32 ∧ ¬ (r.sign : Int) = 127 := by
        obtain ⟨a, b⟩ := Bool.or_eq_false_iff.mp hc
        have a := of_decide_eq_false a
        have b := beq_eq_false_iff_ne.mp b
        exact ⟨by omega, by omega⟩
      obtain ⟨q3, q4⟩ := q2'
      have hP1 : ∀ p ∈ pf P, p.1.length ≤ 100 := pf_len P
      have hlz : zs9.length ≤ 100 := Nat.le_trans len9 hys
      have hv1 : vf.length ≤ 100 := by rw [G.lf]; exact Nat.le_trans G.le (Nat.le_trans (Nat.le_of_lt hi) hlz)
      have hv2 : vb.length ≤ 100 := by rw [G.lb]; exact Nat.le_trans G.le (Nat.le_trans (Nat.le_of_lt hi) hlz)
      have hv3 : vp.length ≤ 100 := by rw [G.lp]; exact Nat.le_trans G.le (Nat.le_trans (Nat.le_of_lt hi) hlz)
      have l12 : l1 ≠ l2 := Nat.ne_of_lt (Nat.lt_trans (p2 _ (.head _)) (Nat.lt_trans q2 r2))
      have l1p : l1 ≠ pg := Nat.ne_of_lt lp1.2.2.2.2.1
      have l2p : l2 ≠ pg := Nat.ne_of_lt lp1.2.1
      have HA : ∀ p ∈ (l2, W.listOf vb.toArray nb) :: (pg, W.listOf vp.toArray np) :: (I, oI) :: rest, p.1 ≠ l1 := by
        intro p hp
        rcases List.mem_cons.mp hp with rfl | hp
        · exact Ne.symm l12
        rcases List.mem_cons.mp hp with rfl | hp
        · exact Ne.symm l1p
        rcases List.mem_cons.mp hp with rfl | hp
        · exact Ne.symm n1
        · exact G.a1 p hp
      have HP : PairsIn ((l2, W.listOf vb.toArray nb) :: (pg, W.listOf vp.toArray np) :: (I, oI) :: rest) vf (pf P) := PairsIn.mono (fun p hp => .tail _ (.tail _ (.tail _ hp))) G.pf
      by_cases hk : r.small ∈ P.map Row.small
      · have hg : getv (pf P) (Txt.lower (st1 r.sign)) = some (stL r.fold) := by rw [getv_pf G.ok hr, if_pos hk]
        k_steps
        rename_i F9 N9
        w_strict (repeat (rename_i zb; revert zb))
        (try revert E'); (try revert hcl); (try revert n3); (try revert n2); (try revert n1); (try revert offI); (try revert N); (try revert F); (try revert G); (try revert hT); (try revert hi); (try revert hr); (try revert u4); (try revert u3); (try revert u2); (try revert u1); (try revert u4'); (try revert u3'); (try revert u2'); (try revert u1'); (try revert tk); (try revert g); (try revert oI); (try revert I); (try revert rest); (try revert np); (try revert vp); (try revert nb); (try revert vb); (try revert nf); (try revert vf); (try revert P); (try revert t3); (try revert t2); (try revert t1); (try revert r); (try revert T); (try revert i); (try revert ap); (try revert len9); (try revert sub9); (try revert lt9); (try revert N9); (try revert F9); (try revert zs9); (try revert h9); (try revert D9); (try revert hys); (try revert Np); (try revert Fp); (try revert hp2); (try revert lp1); (try revert hp1); (try revert pg); (try revert tka); (try revert hc); (try revert hb); (try revert ha); (try revert lt1); (try revert ht1); (try revert Dt); (try revert ek); (try revert qk); (try revert r2); (try revert q2); (try revert p2); (try revert tk6); (try revert h6); (try revert k2); (try revert l2); (try revert d2); (try revert x2); (try revert ek1); (try revert qk1); (try revert r1); (try revert q1); (try revert p1); (try revert tk5); (try revert h5); (try revert k1); (try revert l1); (try revert d1); (try revert x1); (try revert o4); (try revert N4); (try revert F4); (try revert tk4); (try revert h4); (try revert R); (try revert hm2); (try revert hm1); (try revert hln); (try revert hall); (try revert hrs); (try revert rs); (try revert nw); (try revert ys); (try revert g9); (try revert hlen); (try revert l3); (try revert hI3); (try revert N3); (try revert F3); (try revert h3); (try revert ws3); (try revert D3); (try revert oc); (try revert KX); (try revert q3); (try revert q4); (try revert hP1); (try revert hP2); (try revert hlz); (try revert hv1); (try revert hv2); (try revert hv3); (try revert l12); (try revert l1p); (try revert l2p); (try revert HA); (try revert HP); (try revert hk); (try revert hg); (try revert md1); (try revert mx1); (try revert md2); (try revert mx2); (try revert RF); (try revert h8); (try revert q); (try revert tk7); (try revert h7); (try revert hoc); (try revert base); (try revert hbs); (try revert hbc); (try revert hbm); (try revert bx1); (try revert bd1); (try revert bx2); (try revert bd2); (try revert bR); (try revert bl1); (try revert bl2); (try revert bpg); (try revert bpf); (try revert bpb); (try revert bpp); (try revert bys); (try revert hok); (try revert hlp); (try revert oc'); (try revert vc); (try revert hoc'); (try revert HC); (try revert ho2); (try revert ys1); (try revert hys'); (try revert R3); (try revert h10); (try revert tk10); (try revert F10); (try revert N10); (try revert o10); (try revert hkS); (try revert o9); (try revert d9c); (try revert F11); (try revert N11); (try revert sub3); (try revert subn); (try revert tk8); (try revert T9); (try revert ta9); (try revert tb9); (try revert tc9); (try revert tk9); (try revert D7); (try revert h12); (try revert tk12); (try revert F12); (try revert N12); (try revert D6); (try revert g10); (try revert q4); (try revert e1); (try revert e2); (try revert hkS); (try revert ho2); (try revert wd); (try revert za); (try revert za_1); (try revert za_2); (try revert za_3); (try revert za_4); (try revert za_5); (try revert za_6); (try revert za_7); (try revert za_8); (try revert za_9); (try revert za_10); (try revert za_11); (try revert za_12); (try revert za_13); (try revert za_14); (try revert za_15); (try revert za_16); (try revert za_17); (try revert za_18); (try revert za_19); (try revert za_20); (try revert za_21); (try revert za_22); (try revert za_23); (try revert za_24); (try revert za_25); (try revert za_26); (try revert za_27); (try revert za_28); (try revert za_29); (try revert za_30); (try revert za_31); (try revert za_32); (try revert za_33); (try revert za_34); (try revert za_35); (try revert za_36); (try revert za_37); (try revert za_38); (try revert za_39); (try revert za_40); (try revert za_41); (try revert za_42); (try revert za_43); (try revert za_44); (try revert za_45); (try revert za_46); (try revert za_47); (try revert za_48); (try revert za_49); (try revert za_50); (try revert za_51); (try revert za_52); (try revert za_53); (try revert za_54); (try revert za_55); (try revert za_56); (try revert za_57); (try revert za_58); (try revert za_59); (try revert za_60); (try revert za_61); (try revert za_62); (try revert za_63); (try revert za_64); (try revert za_65); (try revert za_66); (try revert za_67); (try revert za_68); (try revert za_69); (try revert za_70); (try revert za_71); (try revert za_72); (try revert za_73); (try revert za_74); (try revert za_75); (try revert za_76); (try revert za_77); (try revert za_78); (try revert za_79); (try revert za_80); (try revert za_81); (try revert za_82); (try revert za_83); (try revert za_84); (try revert za_85); (try revert za_86); (try revert za_87); (try revert za_88); (try revert za_89)
        exact PLift.down H6c
      · have hg : getv (pf P) (Txt.lower (st1 r.sign)) = none := by rw [getv_pf G.ok hr, if_neg hk]
        k_steps
        rename_i T9 h9 tk9 ta9 tb9 tc9 F9 N9
        w_strict (repeat (rename_i zb; revert zb))
        (try revert E'); (try revert hcl); (try revert n3); (try revert n2); (try revert n1); (try revert offI); (try revert N); (try revert F); (try revert G); (try revert hT); (try revert hi); (try revert hr); (try revert u4); (try revert u3); (try revert u2); (try revert u1); (try revert u4'); (try revert u3'); (try revert u2'); (try revert u1'); (try revert tk); (try revert g); (try revert oI); (try revert I); (try revert rest); (try revert np); (try revert vp); (try revert nb); (try revert vb); (try revert nf); (try revert vf); (try revert P); (try revert t3); (try revert t2); (try revert t1); (try revert r); (try revert T); (try revert i); (try revert ap); (try revert len9); (try revert sub9); (try revert lt9); (try revert N9); (try revert F9); (try revert zs9); (try revert h9); (try revert D9); (try revert hys); (try revert Np); (try revert Fp); (try revert hp2); (try revert lp1); (try revert hp1); (try revert pg); (try revert tka); (try revert hc); (try revert hb); (try revert ha); (try revert lt1); (try revert ht1); (try revert Dt); (try revert ek); (try revert qk); (try revert r2); (try revert q2); (try revert p2); (try revert tk6); (try revert h6); (try revert k2); (try revert l2); (try revert d2); (try revert x2); (try revert ek1); (try revert qk1); (try revert r1); (try revert q1); (try revert p1); (try revert tk5); (try revert h5); (try revert k1); (try revert l1); (try revert d1); (try revert x1); (try revert o4); (try revert N4); (try revert F4); (try revert tk4); (try revert h4); (try revert R); (try revert hm2); (try revert hm1); (try revert hln); (try revert hall); (try revert hrs); (try revert rs); (try revert nw); (try revert ys); (try revert g9); (try revert hlen); (try revert l3); (try revert hI3); (try revert N3); (try revert F3); (try revert h3); (try revert ws3); (try revert D3); (try revert oc); (try revert KX); (try revert q3); (try revert q4); (try revert hP1); (try revert hP2); (try revert hlz); (try revert hv1); (try revert hv2); (try revert hv3); (try revert l12); (try revert l1p); (try revert l2p); (try revert HA); (try revert HP); (try revert hk); (try revert hg); (try revert md1); (try revert mx1); (try revert md2); (try revert mx2); (try revert RF); (try revert h8); (try revert q); (try revert tk7); (try revert h7); (try revert hoc); (try revert base); (try revert hbs); (try revert hbc); (try revert hbm); (try revert bx1); (try revert bd1); (try revert bx2); (try revert bd2); (try revert bR); (try revert bl1); (try revert bl2); (try revert bpg); (try revert bpf); (try revert bpb); (try revert bpp); (try revert bys); (try revert hok); (try revert hlp); (try revert oc'); (try revert vc); (try revert hoc'); (try revert HC); (try revert ho2); (try revert ys1); (try revert hys'); (try revert R3); (try revert h10); (try revert tk10); (try revert F10); (try revert N10); (try revert o10); (try revert hkS); (try revert o9); (try revert d9c); (try revert F11); (try revert N11); (try revert sub3); (try revert subn); (try revert tk8); (try revert T9); (try revert ta9); (try revert tb9); (try revert tc9); (try revert tk9); (try revert D7); (try revert h12); (try revert tk12); (try revert F12); (try revert N12); (try revert D6); (try revert g10); (try revert q4); (try revert e1); (try revert e2); (try revert hkS); (try revert ho2); (try revert wd); (try revert za); (try revert za_1); (try revert za_2); (try revert za_3); (try revert za_4); (try revert za_5); (try revert za_6); (try revert za_7); (try revert za_8); (try revert za_9); (try revert za_10); (try revert za_11); (try revert za_12); (try revert za_13); (try revert za_14); (try revert za_15); (try revert za_16); (try revert za_17); (try revert za_18); (try revert za_19); (try revert za_20); (try revert za_21); (try revert za_22); (try revert za_23); (try revert za_24); (try revert za_25); (try revert za_26); (try revert za_27); (try revert za_28); (try revert za_29); (try revert za_30); (try revert za_31); (try revert za_32); (try revert za_33); (try revert za_34); (try revert za_35); (try revert za_36); (try revert za_37); (try revert za_38); (try revert za_39); (try revert za_40); (try revert za_41); (try revert za_42); (try revert za_43); (try revert za_44); (try revert za_45); (try revert za_46); (try revert za_47); (try revert za_48); (try revert za_49); (try revert za_50); (try revert za_51); (try revert za_52); (try revert za_53); (try revert za_54); (try revert za_55); (try revert za_56); (try revert za_57); (try revert za_58); (try revert za_59); (try revert za_60); (try revert za_61); (try revert za_62); (try revert za_63); (try revert za_64); (try revert za_65); (try revert za_66); (try revert za_67); (try revert za_68); (try revert za_69); (try revert za_70); (try revert za_71); (try revert za_72); (try revert za_73); (try revert za_74); (try revert za_75); (try revert za_76); (try revert za_77); (try revert za_78); (try revert za_79); (try revert za_80); (try revert za_81); (try revert za_82); (try revert za_83); (try revert za_84); (try revert za_85); (try revert za_86); (try revert za_87); (try revert za_88); (try revert za_89)
        exact PLift.down H6d
    )⟩ H5b
def stg3 (H6d : PLift _) (H5b : PLift _) :=
  stg2 ⟨(by
    set_option tactic.hygienic false in intros
    (rename Frag.In _ _ => KX); revert KX; k_fill; intro KX
    unfold MySrc
    have HS : RowsIn ((l1, W.listOf vf.toArray nf) :: (l2, W.listOf vb.toArray nb) :: (pg, W.listOf vp.toArray np) :: (I, oI) :: rest) vp P := RowsIn.up (fun p hp => .tail _ (.tail _ (.tail _ (.tail _ hp)))) G.pp
    have hok := G.ok
    have ho2 := (row_ok hr).2.1
    have hkS : st1 r.small ∈ smallsS P := mem_smallsS.mpr hk
    refine LCg.CompSrc.ledger rfl F9 N9 (.tail _ (.tail _ (.head _))) (by rw [List.size_toArray]; exact Nat.le_trans hv3 (by decide)) ?_
    intro g9
    refine runV (Acc := fun i ys nw => nw = (l1, W.listOf vf.toArray nf) :: (l2, W.listOf vb.toArray nb) :: (pg, W.listOf vp.toArray np) :: (I, oI) :: rest ∧ StrsAre ys (smallsS (P.take i))) (fun i ys nw a => by rw [a.1]; exact .inr ⟨_, .tail _ (.tail _ (.head _)), rfl, _, rfl⟩) ?_ ?_ _ 0 [] _ (Nat.zero_add _) ⟨rfl, trivial⟩
    · rintro j v ys nw I' oI' C oC D m₂ h tk E' hv ⟨rfl, ha⟩ hC hx2 F2 N2 off
      rw [List.getElem?_toArray] at hv
      obtain ⟨q, hq, Tq, s1, s2, s3, rfl, hTq⟩ := HS.at hv
      k_steps
      exact ⟨_, _, _, rfl, by assumption, by assumption, off, rfl, by unfold smallsS at *; rw [map_take' _ hq]; exact ha.snoc⟩
    · rintro ys nw ⟨rfl, hys'⟩
      rw [List.size_toArray, G.lp, List.take_length] at hys'
      intro R3 h10 tk10 F10 N10 o10
      k_steps
      exact Pg.same G F10 (fun z z1 z2 z3 z4 => by simp only [st4, if_neg z1, if_neg z2, if_neg z3, if_neg z4]) (News.sub N10 fun p hp => .tail _ hp) offI n1 n2 n3
    )⟩ H6d H5b
def stg4 (H5b : PLift _) :=
  stg3 ⟨(by
    set_option tactic.hygienic false in intros
    (rename Frag.In _ _ => KX); revert KX; k_fill; intro KX
    unfold MySrc
    have HS : RowsIn ((T9, tupObj #[Value.str (st1 r.sign) ta9, Value.str (stL r.fold) tb9]) :: (l1, W.listOf (vf ++ [Value.ref T9]).toArray (nf + 1)) :: (l2, W.listOf vb.toArray nb) :: (pg, W.listOf vp.toArray np) :: (I, oI) :: rest) vp P := RowsIn.up (fun p hp => .tail _ (.tail _ (.tail _ (.tail _ (.tail _ hp))))) G.pp
    have hok := G.ok
    have ho2 := (row_ok hr).2.1
    have hkS : ¬ st1 r.small ∈ smallsS P := fun e => hk (mem_smallsS.mp e)
    have tl : ∀ {T l : Addr} {vs us : Array Value} {n : Nat}, _ → _ → @Ne Nat T l := fun {T l vs us n} (hT : (T, tupObj vs) ∈ _) (h : (l, W.listOf us n) ∈ _) => ne_of_news N9 hT h (fun e => by injection e with e; exact absurd e (by decide))
    have e1 : @Ne Nat T9 l1 := tl (.head _) (.tail _ (.head _))
    have e2 : @Ne Nat T9 l2 := tl (.head _) (.tail _ (.tail _ (.head _)))
    have e3 : @Ne Nat T9 pg := tl (.head _) (.tail _ (.tail _ (.tail _ (.head _))))
    have a3 := G.a3
    refine LCg.CompSrc.ledger rfl F9 N9 (.tail _ (.tail _ (.tail _ (.head _)))) (by rw [List.size_toArray]; exact Nat.le_trans hv3 (by decide)) ?_
    intro g9
    refine runV (Acc := fun i ys nw => nw = (T9, tupObj #[Value.str (st1 r.sign) ta9, Value.str (stL r.fold) tb9]) :: (l1, W.listOf (vf ++ [Value.ref T9]).toArray (nf + 1)) :: (l2, W.listOf vb.toArray nb) :: (pg, W.listOf vp.toArray np) :: (I, oI) :: rest ∧ StrsAre ys (smallsS (P.take i))) (fun i ys nw a => by rw [a.1]; exact .inr ⟨_, .tail _ (.tail _ (.tail _ (.head _))), rfl, _, rfl⟩) ?_ ?_ _ 0 [] _ (Nat.zero_add _) ⟨rfl, trivial⟩
    · rintro j v ys nw I' oI' C oC D m₂ h tk E' hv ⟨rfl, ha⟩ hC hx2 F2 N2 off
      rw [List.getElem?_toArray] at hv
      obtain ⟨q, hq, Tq, s1, s2, s3, rfl, hTq⟩ := HS.at hv
      k_steps
      exact ⟨_, _, _, rfl, by assumption, by assumption, off, rfl, by unfold smallsS at *; rw [map_take' _ hq]; exact ha.snoc⟩
    · rintro ys nw ⟨rfl, hys'⟩
      rw [List.size_toArray, G.lp, List.take_length] at hys'
      intro R3 h10 tk10 F10 N10 o10
      simp only [LCg.Off1] at o10
      k_steps
      rename_i D5 h11 F11 N11 l11
      have N12 := News.sub (n' := (pg, W.listOf vp.toArray np) :: (D5, tupObj #[Value.str (st1 r.sign) t1, Value.str (st1 r.small) t2, Value.str (stL r.fold) t3]) :: (T9, tupObj #[Value.str (st1 r.sign) ta9, Value.str (stL r.fold) tb9]) :: (l1, W.listOf (vf ++ [Value.ref T9]).toArray (nf + 1)) :: (l2, W.listOf vb.toArray nb) :: (I, oI) :: rest) N11 (fun p hp => by
        rcases List.mem_cons.mp hp with rfl | hp
        · exact .tail _ (.tail _ (.tail _ (.tail _ (.tail _ (.head _)))))
        rcases List.mem_cons.mp hp with rfl | hp
        · exact .head _
        rcases List.mem_cons.mp hp with rfl | hp
        · exact .tail _ (.tail _ (.head _))
        rcases List.mem_cons.mp hp with rfl | hp
        · exact .tail _ (.tail _ (.tail _ (.head _)))
        rcases List.mem_cons.mp hp with rfl | hp
        · exact .tail _ (.tail _ (.tail _ (.tail _ (.head _))))
        rcases List.mem_cons.mp hp with rfl | hp
        · exact .tail _ (.tail _ (.tail _ (.tail _ (.tail _ (.tail _ (.head _))))))
        · exact .tail _ (.tail _ (.tail _ (.tail _ (.tail _ (.tail _ (.tail _ hp)))))))
      clear N11
      have v3 : @Ne Nat D5 pg := Nat.ne_of_gt l11.2.2.2.2.1
      have v2 : @Ne Nat D5 l2 := Nat.ne_of_gt l11.2.2.2.1
      have hapg : ∀ p ∈ (D5, tupObj #[Value.str (st1 r.sign) t1, Value.str (st1 r.small) t2, Value.str (stL r.fold) t3]) :: (T9, tupObj #[Value.str (st1 r.sign) ta9, Value.str (stL r.fold) tb9]) :: (l1, W.listOf (vf ++ [Value.ref T9]).toArray (nf + 1)) :: (l2, W.listOf vb.toArray nb) :: (I, oI) :: rest, p.1 ≠ pg := by
        intro p hp
        rcases List.mem_cons.mp hp with rfl | hp
        · exact v3
        rcases List.mem_cons.mp hp with rfl | hp
        · exact e3
        rcases List.mem_cons.mp hp with rfl | hp
        · exact l1p
        rcases List.mem_cons.mp hp with rfl | hp
        · exact l2p
        rcases List.mem_cons.mp hp with rfl | hp
        · exact Ne.symm n3
        · exact G.a3 p hp
      refine append_K F11 N12 (Upd.head hapg) ?_ (by rw [List.size_toArray]; exact Nat.le_trans hv3 (by decide))
      intro h12 F12 N13
      k_steps
      have N14 := News.sub (n' := (l2, W.listOf vb.toArray nb) :: (pg, W.listOf (vp.toArray.push (Value.ref D5)) (np + 1)) :: (D5, tupObj #[Value.str (st1 r.sign) t1, Value.str (st1 r.small) t2, Value.str (stL r.fold) t3]) :: (T9, tupObj #[Value.str (st1 r.sign) ta9, Value.str (stL r.fold) tb9]) :: (l1, W.listOf (vf ++ [Value.ref T9]).toArray (nf + 1)) :: (I, oI) :: rest) N13 (fun p hp => by
        rcases List.mem_cons.mp hp with rfl | hp
        · exact .tail _ (.tail _ (.tail _ (.tail _ (.head _))))
        rcases List.mem_cons.mp hp with rfl | hp
        · exact .head _
        rcases List.mem_cons.mp hp with rfl | hp
        · exact .tail _ (.head _)
        rcases List.mem_cons.mp hp with rfl | hp
        · exact .tail _ (.tail _ (.head _))
        rcases List.mem_cons.mp hp with rfl | hp
        · exact .tail _ (.tail _ (.tail _ (.head _)))
        · exact .tail _ (.tail _ (.tail _ (.tail _ (.tail _ hp)))))
      have hapb : ∀ p ∈ (pg, W.listOf (vp.toArray.push (Value.ref D5)) (np + 1)) :: (D5, tupObj #[Value.str (st1 r.sign) t1, Value.str (st1 r.small) t2, Value.str (stL r.fold) t3]) :: (T9, tupObj #[Value.str (st1 r.sign) ta9, Value.str (stL r.fold) tb9]) :: (l1, W.listOf (vf ++ [Value.ref T9]).toArray (nf + 1)) :: (I, oI) :: rest, p.1 ≠ l2 := by
        intro p hp
        rcases List.mem_cons.mp hp with rfl | hp
        · exact Ne.symm l2p
        rcases List.mem_cons.mp hp with rfl | hp
        · exact v2
        rcases List.mem_cons.mp hp with rfl | hp
        · exact e2
        rcases List.mem_cons.mp hp with rfl | hp
        · exact l12
        rcases List.mem_cons.mp hp with rfl | hp
        · exact Ne.symm n2
        · exact G.a2 p hp
      have q5 := RF.ff
      rw [hc] at q5
      unfold Hold
      refine wpAny_call (c_add (d := d2) (l := l2) (k := k2) (vs := vb) (n := nb) q5 (RF.sv hc) RF.fl RF.sl (.tail _ (.tail _ (.tail _ (.tail _ (.tail _ mx2))))) (.tail _ (.tail _ (.tail _ (.tail _ (.tail _ md2))))) hapb hv2 (by assumption) F12 (by assumption) N14 (by assumption) rfl (by ktr_room) (by ktr_units) ?_)
      intro T3 h13 tk13 tb13 F13 N15
      dsimp only
      k_steps
      refine Pg.grow G hr hc (by assumption) (fun z z1 z2 z3 z4 => by simp only [st4, if_neg z1, if_neg z2, if_neg z3, if_neg z4]) N15 (T1 := T9) (T2 := D5) (T3 := T3) (nf' := nf + 1) (nb' := nb + 1) (np' := np + 1) (.tail _ (.tail _ (.tail _ (.tail _ (.tail _ (.head _)))))) (.tail _ (.head _)) ?_ (.tail _ (.tail _ (.tail _ (.tail _ (.tail _ (.tail _ (.head _))))))) (.tail _ (.tail _ (.tail _ (.tail _ (.head _))))) (.tail _ (.tail _ (.tail _ (.head _)))) (.head _) (fun p hp => .tail _ (.tail _ (.tail _ (.tail _ (.tail _ (.tail _ (.tail _ hp))))))) offI n1 n2 n3 hcl
      rw [List.push_toArray]
      exact .tail _ (.tail _ (.head _))
    )⟩ H5b
def stg5 (H9a : PLift _) (H9b : PLift _) :=
  stg4 ⟨(by
    set_option tactic.hygienic false in intros
    (rename Frag.In _ _ => KX); revert KX; k_fill; intro KX
    dsimp only
    k_steps
    refine For_list F ?_
    k_steps
    rename Obj.data oc = Data.cell _ => hoc
    have sub3 := fun p hp => List.Mem.tail (l1, W.listOf vf.toArray nf) (.tail (l2, W.listOf vb.toArray nb) (.tail (pg, W.listOf vp.toArray np) (G.sub p hp)))
    have subn := fun p (hp : p ∈ nw) => sub3 p (.tail _ (.tail _ (.tail _ (.tail _ (.tail _ (.tail _ hp))))))
    obtain ⟨base, hbs, hbc, hbm⟩ := ask_base N (subn _ hm2) hoc
    have bx1 : (x1, instObj 175 d1) ∈ base := hbm _ _ (sub3 _ (.tail _ (.tail _ (.tail _ (.head _))))) (fun v e => by cases e)
    have bd1 : (d1, hdD wd.params l1 k1) ∈ base := hbm _ _ (sub3 _ (.tail _ (.tail _ (.tail _ (.tail _ (.head _)))))) (fun v e => by cases e)
    have bx2 : (x2, instObj 175 d2) ∈ base := hbm _ _ (sub3 _ (.tail _ (.head _))) (fun v e => by cases e)
    have bd2 : (d2, hdD wd.params l2 k2) ∈ base := hbm _ _ (sub3 _ (.tail _ (.tail _ (.head _)))) (fun v e => by cases e)
    have bR : (R, LCg.lst ys) ∈ base := hbm _ _ (sub3 _ (.tail _ (.tail _ (.tail _ (.tail _ (.tail _ (.head _))))))) (fun v e => by cases e)
    have bl1 : (l1, W.listOf vf.toArray nf) ∈ base := hbm _ _ (.head _) (fun v e => by cases e)
    have bl2 : (l2, W.listOf vb.toArray nb) ∈ base := hbm _ _ (.tail _ (.head _)) (fun v e => by cases e)
    have bpg : (pg, W.listOf vp.toArray np) ∈ base := hbm _ _ (.tail _ (.tail _ (.head _))) (fun v e => by cases e)
    have bpf : PairsIn base vf (pf P) := PairsIn.monoT (fun T vs hT => hbm _ _ (.tail _ (.tail _ (.tail _ hT))) (fun v e => by cases e)) G.pf
    have bpb : PairsIn base vb (pb P) := PairsIn.monoT (fun T vs hT => hbm _ _ (.tail _ (.tail _ (.tail _ hT))) (fun v e => by cases e)) G.pb
    have bpp : RowsIn base vp P := RowsIn.upT (fun T vs hT => hbm _ _ (.tail _ (.tail _ (.tail _ hT))) (fun v e => by cases e)) G.pp
    have bys : RowsIn base ys rs := RowsIn.upT (fun T vs hT => hbm _ _ (subn _ hT) (fun v e => by cases e)) hrs
    have hok := G.ok
    have hlz : zs9.length ≤ 100 := Nat.le_trans len9 hys
    have hv1 : vf.length ≤ 100 := by rw [G.lf]; exact Nat.le_trans G.le hlz
    have hv2 : vb.length ≤ 100 := by rw [G.lb]; exact Nat.le_trans G.le hlz
    have hv3 : vp.length ≤ 100 := by rw [G.lp]; exact Nat.le_trans G.le hlz
    have hP1 : ∀ p ∈ pf P, p.1.length ≤ 100 := pf_len P
    have hP2 : ∀ p ∈ pb P, p.1.length ≤ 100 := pb_len G.ok
    have hlp : vp.length = P.length := G.lp
    refine ForAt.ask (a := Str.ofString "one") (b := Str.ofString "kind") (c := Str.ofString "answer") (d := Str.ofString "known") (n := ys.length) rfl F (ask_news N (subn _ hm2) hbs) hoc bR ?_ ?_ ?_
    · intro v hv
      obtain ⟨i, hi⟩ := List.mem_iff_getElem?.mp hv
      obtain ⟨r, hr, hin⟩ := bys.at hi
      exact ⟨r, hall r (List.mem_of_getElem? hr), hin⟩
    · clear G N hbs hbm
      intro T r t1 t2 t3 I oI oc' vc g tk u1' u2' u3' u4' E' i hr hT hoc' F N offI n1
      w_strict (repeat (rename_i ze; revert ze))
      (try revert E'); (try revert hcl); (try revert n3); (try revert n2); (try revert n1); (try revert offI); (try revert N); (try revert F); (try revert G); (try revert hT); (try revert hi); (try revert hr); (try revert u4); (try revert u3); (try revert u2); (try revert u1); (try revert u4'); (try revert u3'); (try revert u2'); (try revert u1'); (try revert tk); (try revert g); (try revert oI); (try revert I); (try revert rest); (try revert np); (try revert vp); (try revert nb); (try revert vb); (try revert nf); (try revert vf); (try revert P); (try revert t3); (try revert t2); (try revert t1); (try revert r); (try revert T); (try revert i); (try revert ap); (try revert len9); (try revert sub9); (try revert lt9); (try revert N9); (try revert F9); (try revert zs9); (try revert h9); (try revert D9); (try revert hys); (try revert Np); (try revert Fp); (try revert hp2); (try revert lp1); (try revert hp1); (try revert pg); (try revert tka); (try revert hc); (try revert hb); (try revert ha); (try revert lt1); (try revert ht1); (try revert Dt); (try revert ek); (try revert qk); (try revert r2); (try revert q2); (try revert p2); (try revert tk6); (try revert h6); (try revert k2); (try revert l2); (try revert d2); (try revert x2); (try revert ek1); (try revert qk1); (try revert r1); (try revert q1); (try revert p1); (try revert tk5); (try revert h5); (try revert k1); (try revert l1); (try revert d1); (try revert x1); (try revert o4); (try revert N4); (try revert F4); (try revert tk4); (try revert h4); (try revert R); (try revert hm2); (try revert hm1); (try revert hln); (try revert hall); (try revert hrs); (try revert rs); (try revert nw); (try revert ys); (try revert g9); (try revert hlen); (try revert l3); (try revert hI3); (try revert N3); (try revert F3); (try revert h3); (try revert ws3); (try revert D3); (try revert oc); (try revert KX); (try revert q3); (try revert q4); (try revert hP1); (try revert hP2); (try revert hlz); (try revert hv1); (try revert hv2); (try revert hv3); (try revert l12); (try revert l1p); (try revert l2p); (try revert HA); (try revert HP); (try revert hk); (try revert hg); (try revert md1); (try revert mx1); (try revert md2); (try revert mx2); (try revert RF); (try revert h8); (try revert q); (try revert tk7); (try revert h7); (try revert hoc); (try revert base); (try revert hbs); (try revert hbc); (try revert hbm); (try revert bx1); (try revert bd1); (try revert bx2); (try revert bd2); (try revert bR); (try revert bl1); (try revert bl2); (try revert bpg); (try revert bpf); (try revert bpb); (try revert bpp); (try revert bys); (try revert hok); (try revert hlp); (try revert oc'); (try revert vc); (try revert hoc'); (try revert HC); (try revert ho2); (try revert ys1); (try revert hys'); (try revert R3); (try revert h10); (try revert tk10); (try revert F10); (try revert N10); (try revert o10); (try revert hkS); (try revert o9); (try revert d9c); (try revert F11); (try revert N11); (try revert sub3); (try revert subn); (try revert tk8); (try revert T9); (try revert ta9); (try revert tb9); (try revert tc9); (try revert tk9); (try revert D7); (try revert h12); (try revert tk12); (try revert F12); (try revert N12); (try revert D6); (try revert g10); (try revert q4); (try revert e1); (try revert e2); (try revert hkS); (try revert ho2); (try revert wd); (try revert za); (try revert za_1); (try revert za_2); (try revert za_3); (try revert za_4); (try revert za_5); (try revert za_6); (try revert za_7); (try revert za_8); (try revert za_9); (try revert za_10); (try revert za_11); (try revert za_12); (try revert za_13); (try revert za_14); (try revert za_15); (try revert za_16); (try revert za_17); (try revert za_18); (try revert za_19); (try revert za_20); (try revert za_21); (try revert za_22); (try revert za_23); (try revert za_24); (try revert za_25); (try revert za_26); (try revert za_27); (try revert za_28); (try revert za_29); (try revert za_30); (try revert za_31); (try revert za_32); (try revert za_33); (try revert za_34); (try revert za_35); (try revert za_36); (try revert za_37); (try revert za_38); (try revert za_39); (try revert za_40); (try revert za_41); (try revert za_42); (try revert za_43); (try revert za_44); (try revert za_45); (try revert za_46); (try revert za_47); (try revert za_48); (try revert za_49); (try revert za_50); (try revert za_51); (try revert za_52); (try revert za_53); (try revert za_54); (try revert za_55); (try revert za_56); (try revert za_57); (try revert za_58); (try revert za_59); (try revert za_60); (try revert za_61); (try revert za_62); (try revert za_63); (try revert za_64); (try revert za_65); (try revert za_66); (try revert za_67); (try revert za_68); (try revert za_69); (try revert za_70); (try revert za_71); (try revert za_72); (try revert za_73); (try revert za_74); (try revert za_75); (try revert za_76); (try revert za_77); (try revert za_78); (try revert za_79); (try revert za_80); (try revert za_81); (try revert za_82); (try revert za_83); (try revert za_84); (try revert za_85); (try revert za_86); (try revert za_87); (try revert za_88); (try revert za_89); (try revert zb); (try revert zb_1); (try revert zb_2); (try revert zb_3); (try revert zb_4); (try revert zb_5); (try revert zb_6); (try revert zb_7); (try revert zb_8); (try revert zb_9); (try revert zb_10); (try revert zb_11); (try revert zb_12); (try revert zb_13); (try revert zb_14); (try revert zb_15); (try revert zb_16); (try revert zb_17); (try revert zb_18); (try revert zb_19); (try revert zb_20); (try revert zb_21); (try revert zb_22); (try revert zb_23); (try revert zb_24); (try revert zb_25); (try revert zb_26); (try revert zb_27); (try revert zb_28); (try revert zb_29); (try revert zb_30); (try revert zb_31); (try revert zb_32); (try revert zb_33); (try revert zb_34); (try revert zb_35); (try revert zb_36); (try revert zb_37); (try revert zb_38); (try revert zb_39); (try revert zb_40); (try revert zb_41); (try revert zb_42); (try revert zb_43); (try revert zb_44); (try revert zb_45); (try revert zb_46); (try revert zb_47); (try revert zb_48); (try revert zb_49); (try revert zb_50); (try revert zb_51); (try revert zb_52); (try revert zb_53); (try revert zb_54); (try revert zb_55); (try revert zb_56); (try revert zb_57); (try revert zb_58); (try revert zb_59); (try revert zb_60); (try revert zb_61); (try revert zb_62); (try revert zb_63); (try revert zb_64); (try revert zb_65); (try revert zb_66); (try revert zb_67); (try revert zb_68); (try revert zb_69); (try revert zb_70); (try revert zb_71); (try revert zb_72); (try revert zb_73); (try revert zb_74); (try revert zb_75); (try revert zb_76); (try revert zb_77); (try revert zb_78); (try revert zb_79); (try revert zb_80); (try revert zb_81); (try revert zb_82); (try revert zb_83); (try revert zb_84); (try revert zb_85); (try revert zb_86); (try revert zb_87); (try revert zb_88); (try revert zb_89); (try revert zc); (try revert zc_1); (try revert zc_2); (try revert zc_3); (try revert zc_4); (try revert zc_5); (try revert zc_6); (try revert zc_7); (try revert zc_8); (try revert zc_9); (try revert zc_10); (try revert zc_11); (try revert zc_12); (try revert zc_13); (try revert zc_14); (try revert zc_15); (try revert zc_16); (try revert zc_17); (try revert zc_18); (try revert zc_19); (try revert zc_20); (try revert zc_21); (try revert zc_22); (try revert zc_23); (try revert zc_24); (try revert zc_25); (try revert zc_26); (try revert zc_27); (try revert zc_28); (try revert zc_29); (try revert zc_30); (try revert zc_31); (try revert zc_32); (try revert zc_33); (try revert zc_34); (try revert zc_35); (try revert zc_36); (try revert zc_37); (try revert zc_38); (try revert zc_39); (try revert zc_40); (try revert zc_41); (try revert zc_42); (try revert zc_43); (try revert zc_44); (try revert zc_45); (try revert zc_46); (try revert zc_47); (try revert zc_48); (try revert zc_49); (try revert zc_50); (try revert zc_51); (try revert zc_52); (try revert zc_53); (try revert zc_54); (try revert zc_55); (try revert zc_56); (try revert zc_57); (try revert zc_58); (try revert zc_59); (try revert zc_60); (try revert zc_61); (try revert zc_62); (try revert zc_63); (try revert zc_64); (try revert zc_65); (try revert zc_66); (try revert zc_67); (try revert zc_68); (try revert zc_69); (try revert zc_70); (try revert zc_71); (try revert zc_72); (try revert zc_73); (try revert zc_74); (try revert zc_75); (try revert zc_76); (try revert zc_77); (try revert zc_78); (try revert zc_79); (try revert zc_80); (try revert zc_81); (try revert zc_82); (try revert zc_83); (try revert zc_84); (try revert zc_85); (try revert zc_86); (try revert zc_87); (try revert zc_88); (try revert zc_89); (try revert zd); (try revert zd_1); (try revert zd_2); (try revert zd_3); (try revert zd_4); (try revert zd_5); (try revert zd_6); (try revert zd_7); (try revert zd_8); (try revert zd_9); (try revert zd_10); (try revert zd_11); (try revert zd_12); (try revert zd_13); (try revert zd_14); (try revert zd_15); (try revert zd_16); (try revert zd_17); (try revert zd_18); (try revert zd_19); (try revert zd_20); (try revert zd_21); (try revert zd_22); (try revert zd_23); (try revert zd_24); (try revert zd_25); (try revert zd_26); (try revert zd_27); (try revert zd_28); (try revert zd_29); (try revert zd_30); (try revert zd_31); (try revert zd_32); (try revert zd_33); (try revert zd_34); (try revert zd_35); (try revert zd_36); (try revert zd_37); (try revert zd_38); (try revert zd_39); (try revert zd_40); (try revert zd_41); (try revert zd_42); (try revert zd_43); (try revert zd_44); (try revert zd_45); (try revert zd_46); (try revert zd_47); (try revert zd_48); (try revert zd_49); (try revert zd_50); (try revert zd_51); (try revert zd_52); (try revert zd_53); (try revert zd_54); (try revert zd_55); (try revert zd_56); (try revert zd_57); (try revert zd_58); (try revert zd_59); (try revert zd_60); (try revert zd_61); (try revert zd_62); (try revert zd_63); (try revert zd_64); (try revert zd_65); (try revert zd_66); (try revert zd_67); (try revert zd_68); (try revert zd_69); (try revert zd_70); (try revert zd_71); (try revert zd_72); (try revert zd_73); (try revert zd_74); (try revert zd_75); (try revert zd_76); (try revert zd_77); (try revert zd_78); (try revert zd_79); (try revert zd_80); (try revert zd_81); (try revert zd_82); (try revert zd_83); (try revert zd_84); (try revert zd_85); (try revert zd_86); (try revert zd_87); (try revert zd_88); (try revert zd_89)
      exact PLift.down H9a
    · clear G N hbs hbm
      intro h8 tk8 u1' u2' u3' u4' oc' vc hoc' F N
      w_strict (repeat (rename_i ze; revert ze))
      (try revert E'); (try revert hcl); (try revert n3); (try revert n2); (try revert n1); (try revert offI); (try revert N); (try revert F); (try revert G); (try revert hT); (try revert hi); (try revert hr); (try revert u4); (try revert u3); (try revert u2); (try revert u1); (try revert u4'); (try revert u3'); (try revert u2'); (try revert u1'); (try revert tk); (try revert g); (try revert oI); (try revert I); (try revert rest); (try revert np); (try revert vp); (try revert nb); (try revert vb); (try revert nf); (try revert vf); (try revert P); (try revert t3); (try revert t2); (try revert t1); (try revert r); (try revert T); (try revert i); (try revert ap); (try revert len9); (try revert sub9); (try revert lt9); (try revert N9); (try revert F9); (try revert zs9); (try revert h9); (try revert D9); (try revert hys); (try revert Np); (try revert Fp); (try revert hp2); (try revert lp1); (try revert hp1); (try revert pg); (try revert tka); (try revert hc); (try revert hb); (try revert ha); (try revert lt1); (try revert ht1); (try revert Dt); (try revert ek); (try revert qk); (try revert r2); (try revert q2); (try revert p2); (try revert tk6); (try revert h6); (try revert k2); (try revert l2); (try revert d2); (try revert x2); (try revert ek1); (try revert qk1); (try revert r1); (try revert q1); (try revert p1); (try revert tk5); (try revert h5); (try revert k1); (try revert l1); (try revert d1); (try revert x1); (try revert o4); (try revert N4); (try revert F4); (try revert tk4); (try revert h4); (try revert R); (try revert hm2); (try revert hm1); (try revert hln); (try revert hall); (try revert hrs); (try revert rs); (try revert nw); (try revert ys); (try revert g9); (try revert hlen); (try revert l3); (try revert hI3); (try revert N3); (try revert F3); (try revert h3); (try revert ws3); (try revert D3); (try revert oc); (try revert KX); (try revert q3); (try revert q4); (try revert hP1); (try revert hP2); (try revert hlz); (try revert hv1); (try revert hv2); (try revert hv3); (try revert l12); (try revert l1p); (try revert l2p); (try revert HA); (try revert HP); (try revert hk); (try revert hg); (try revert md1); (try revert mx1); (try revert md2); (try revert mx2); (try revert RF); (try revert h8); (try revert q); (try revert tk7); (try revert h7); (try revert hoc); (try revert base); (try revert hbs); (try revert hbc); (try revert hbm); (try revert bx1); (try revert bd1); (try revert bx2); (try revert bd2); (try revert bR); (try revert bl1); (try revert bl2); (try revert bpg); (try revert bpf); (try revert bpb); (try revert bpp); (try revert bys); (try revert hok); (try revert hlp); (try revert oc'); (try revert vc); (try revert hoc'); (try revert HC); (try revert ho2); (try revert ys1); (try revert hys'); (try revert R3); (try revert h10); (try revert tk10); (try revert F10); (try revert N10); (try revert o10); (try revert hkS); (try revert o9); (try revert d9c); (try revert F11); (try revert N11); (try revert sub3); (try revert subn); (try revert tk8); (try revert T9); (try revert ta9); (try revert tb9); (try revert tc9); (try revert tk9); (try revert D7); (try revert h12); (try revert tk12); (try revert F12); (try revert N12); (try revert D6); (try revert g10); (try revert q4); (try revert e1); (try revert e2); (try revert hkS); (try revert ho2); (try revert wd); (try revert za); (try revert za_1); (try revert za_2); (try revert za_3); (try revert za_4); (try revert za_5); (try revert za_6); (try revert za_7); (try revert za_8); (try revert za_9); (try revert za_10); (try revert za_11); (try revert za_12); (try revert za_13); (try revert za_14); (try revert za_15); (try revert za_16); (try revert za_17); (try revert za_18); (try revert za_19); (try revert za_20); (try revert za_21); (try revert za_22); (try revert za_23); (try revert za_24); (try revert za_25); (try revert za_26); (try revert za_27); (try revert za_28); (try revert za_29); (try revert za_30); (try revert za_31); (try revert za_32); (try revert za_33); (try revert za_34); (try revert za_35); (try revert za_36); (try revert za_37); (try revert za_38); (try revert za_39); (try revert za_40); (try revert za_41); (try revert za_42); (try revert za_43); (try revert za_44); (try revert za_45); (try revert za_46); (try revert za_47); (try revert za_48); (try revert za_49); (try revert za_50); (try revert za_51); (try revert za_52); (try revert za_53); (try revert za_54); (try revert za_55); (try revert za_56); (try revert za_57); (try revert za_58); (try revert za_59); (try revert za_60); (try revert za_61); (try revert za_62); (try revert za_63); (try revert za_64); (try revert za_65); (try revert za_66); (try revert za_67); (try revert za_68); (try revert za_69); (try revert za_70); (try revert za_71); (try revert za_72); (try revert za_73); (try revert za_74); (try revert za_75); (try revert za_76); (try revert za_77); (try revert za_78); (try revert za_79); (try revert za_80); (try revert za_81); (try revert za_82); (try revert za_83); (try revert za_84); (try revert za_85); (try revert za_86); (try revert za_87); (try revert za_88); (try revert za_89); (try revert zb); (try revert zb_1); (try revert zb_2); (try revert zb_3); (try revert zb_4); (try revert zb_5); (try revert zb_6); (try revert zb_7); (try revert zb_8); (try revert zb_9); (try revert zb_10); (try revert zb_11); (try revert zb_12); (try revert zb_13); (try revert zb_14); (try revert zb_15); (try revert zb_16); (try revert zb_17); (try revert zb_18); (try revert zb_19); (try revert zb_20); (try revert zb_21); (try revert zb_22); (try revert zb_23); (try revert zb_24); (try revert zb_25); (try revert zb_26); (try revert zb_27); (try revert zb_28); (try revert zb_29); (try revert zb_30); (try revert zb_31); (try revert zb_32); (try revert zb_33); (try revert zb_34); (try revert zb_35); (try revert zb_36); (try revert zb_37); (try revert zb_38); (try revert zb_39); (try revert zb_40); (try revert zb_41); (try revert zb_42); (try revert zb_43); (try revert zb_44); (try revert zb_45); (try revert zb_46); (try revert zb_47); (try revert zb_48); (try revert zb_49); (try revert zb_50); (try revert zb_51); (try revert zb_52); (try revert zb_53); (try revert zb_54); (try revert zb_55); (try revert zb_56); (try revert zb_57); (try revert zb_58); (try revert zb_59); (try revert zb_60); (try revert zb_61); (try revert zb_62); (try revert zb_63); (try revert zb_64); (try revert zb_65); (try revert zb_66); (try revert zb_67); (try revert zb_68); (try revert zb_69); (try revert zb_70); (try revert zb_71); (try revert zb_72); (try revert zb_73); (try revert zb_74); (try revert zb_75); (try revert zb_76); (try revert zb_77); (try revert zb_78); (try revert zb_79); (try revert zb_80); (try revert zb_81); (try revert zb_82); (try revert zb_83); (try revert zb_84); (try revert zb_85); (try revert zb_86); (try revert zb_87); (try revert zb_88); (try revert zb_89); (try revert zc); (try revert zc_1); (try revert zc_2); (try revert zc_3); (try revert zc_4); (try revert zc_5); (try revert zc_6); (try revert zc_7); (try revert zc_8); (try revert zc_9); (try revert zc_10); (try revert zc_11); (try revert zc_12); (try revert zc_13); (try revert zc_14); (try revert zc_15); (try revert zc_16); (try revert zc_17); (try revert zc_18); (try revert zc_19); (try revert zc_20); (try revert zc_21); (try revert zc_22); (try revert zc_23); (try revert zc_24); (try revert zc_25); (try revert zc_26); (try revert zc_27); (try revert zc_28); (try revert zc_29); (try revert zc_30); (try revert zc_31); (try revert zc_32); (try revert zc_33); (try revert zc_34); (try revert zc_35); (try revert zc_36); (try revert zc_37); (try revert zc_38); (try revert zc_39); (try revert zc_40); (try revert zc_41); (try revert zc_42); (try revert zc_43); (try revert zc_44); (try revert zc_45); (try revert zc_46); (try revert zc_47); (try revert zc_48); (try revert zc_49); (try revert zc_50); (try revert zc_51); (try revert zc_52); (try revert zc_53); (try revert zc_54); (try revert zc_55); (try revert zc_56); (try revert zc_57); (try revert zc_58); (try revert zc_59); (try revert zc_60); (try revert zc_61); (try revert zc_62); (try revert zc_63); (try revert zc_64); (try revert zc_65); (try revert zc_66); (try revert zc_67); (try revert zc_68); (try revert zc_69); (try revert zc_70); (try revert zc_71); (try revert zc_72); (try revert zc_73); (try revert zc_74); (try revert zc_75); (try revert zc_76); (try revert zc_77); (try revert zc_78); (try revert zc_79); (try revert zc_80); (try revert zc_81); (try revert zc_82); (try revert zc_83); (try revert zc_84); (try revert zc_85); (try revert zc_86); (try revert zc_87); (try revert zc_88); (try revert zc_89); (try revert zd); (try revert zd_1); (try revert zd_2); (try revert zd_3); (try revert zd_4); (try revert zd_5); (try revert zd_6); (try revert zd_7); (try revert zd_8); (try revert zd_9); (try revert zd_10); (try revert zd_11); (try revert zd_12); (try revert zd_13); (try revert zd_14); (try revert zd_15); (try revert zd_16); (try revert zd_17); (try revert zd_18); (try revert zd_19); (try revert zd_20); (try revert zd_21); (try revert zd_22); (try revert zd_23); (try revert zd_24); (try revert zd_25); (try revert zd_26); (try revert zd_27); (try revert zd_28); (try revert zd_29); (try revert zd_30); (try revert zd_31); (try revert zd_32); (try revert zd_33); (try revert zd_34); (try revert zd_35); (try revert zd_36); (try revert zd_37); (try revert zd_38); (try revert zd_39); (try revert zd_40); (try revert zd_41); (try revert zd_42); (try revert zd_43); (try revert zd_44); (try revert zd_45); (try revert zd_46); (try revert zd_47); (try revert zd_48); (try revert zd_49); (try revert zd_50); (try revert zd_51); (try revert zd_52); (try revert zd_53); (try revert zd_54); (try revert zd_55); (try revert zd_56); (try revert zd_57); (try revert zd_58); (try revert zd_59); (try revert zd_60); (try revert zd_61); (try revert zd_62); (try revert zd_63); (try revert zd_64); (try revert zd_65); (try revert zd_66); (try revert zd_67); (try revert zd_68); (try revert zd_69); (try revert zd_70); (try revert zd_71); (try revert zd_72); (try revert zd_73); (try revert zd_74); (try revert zd_75); (try revert zd_76); (try revert zd_77); (try revert zd_78); (try revert zd_79); (try revert zd_80); (try revert zd_81); (try revert zd_82); (try revert zd_83); (try revert zd_84); (try revert zd_85); (try revert zd_86); (try revert zd_87); (try revert zd_88); (try revert zd_89)
      exact PLift.down H9b
    )⟩
def stg6 (H10c : PLift _) (H9b : PLift _) :=
  stg5 ⟨(by
    set_option tactic.hygienic false in intros
    (rename Frag.In _ _ => KX); revert KX; k_fill; intro KX
    have RF := rowF hr
    refine unpackN_ F N (News.isTup N (.tail _ (.tail _ hT))) rfl rfl rfl ?_
    clear F N
    intro h8 F N
    have HC : ∀ p ∈ (I, oI) :: base, p.1 ≠ _ := fun p hp => (by
      rcases List.mem_cons.mp hp with rfl | hp
      · exact Ne.symm n1
      · exact hbc p hp)
    cases hc : ctl r.sign with
    | true =>
      have q1' : (r.sign : Int) < 32 ∨ (r.sign : Int) = 127 := by
        rcases (Bool.or_eq_true ..).mp hc with q | q
        · exact .inl (by have := of_decide_eq_true q; omega)
        · exact .inr (by have := beq_iff_eq.mp q; omega)
      rcases q1' with q | q
      · k_steps
        rename_i o9 d9c _ _ D9' _ l9 _ F9 N9
        unfold Hold
        refine c_askX RF hc (.tail _ (.tail _ (.tail _ bx1))) (.tail _ (.tail _ (.tail _ bd1))) (.tail _ (.tail _ (.tail _ bl1))) (PairsIn.mono (fun p hp => .tail _ (.tail _ (.tail _ hp))) bpf) hP1 hv1 (.tail _ (.tail _ (.tail _ bx2))) (.tail _ (.tail _ (.tail _ bd2))) (.tail _ (.tail _ (.tail _ bl2))) (PairsIn.mono (fun p hp => .tail _ (.tail _ (.tail _ hp))) bpb) hP2 hv2 (by assumption) F9 (by assumption) N9 (by assumption) (by assumption) (by assumption) rfl (by ktr_room) (by ktr_units) ?_
        intro T4 s1 s2 h12 tk12 F12 N12
        dsimp only
        k_steps
        unfold Hold
        refine ne_dat (d := .tuple [.str (Str.ofString "refused"), .str (Str.ofString "refused")]) N12 (.tuple (vs := [_, _]) (.head _) (.cons (.str _ _) (.cons (.str _ _) .nil))) (.tuple (vs := [_, _]) (.tail _ (.head _)) (.cons (.str _ _) (.cons (.str _ _) .nil))) (by kernel_rfl!) (by ke_room) ?_
        k_steps
        exact AskJ.turnP F12 (fun z z1 z2 z3 z4 => by simp only [st4, if_neg z1, if_neg z2, if_neg z3, if_neg z4]) d9c N12 (.tail _ (.tail _ (.head _))) (.tail _ (.tail _ (.tail _ (.head _)))) (fun p hp => .tail _ (.tail _ (.tail _ (.tail _ hp)))) offI n1
      · k_steps
        rename_i o9 d9c _ _ D9' _ l9 _ F9 N9
        unfold Hold
        refine c_askX RF hc (.tail _ (.tail _ (.tail _ bx1))) (.tail _ (.tail _ (.tail _ bd1))) (.tail _ (.tail _ (.tail _ bl1))) (PairsIn.mono (fun p hp => .tail _ (.tail _ (.tail _ hp))) bpf) hP1 hv1 (.tail _ (.tail _ (.tail _ bx2))) (.tail _ (.tail _ (.tail _ bd2))) (.tail _ (.tail _ (.tail _ bl2))) (PairsIn.mono (fun p hp => .tail _ (.tail _ (.tail _ hp))) bpb) hP2 hv2 (by assumption) F9 (by assumption) N9 (by assumption) (by assumption) (by assumption) rfl (by ktr_room) (by ktr_units) ?_
        intro T4 s1 s2 h12 tk12 F12 N12
        dsimp only
        k_steps
        unfold Hold
        refine ne_dat (d := .tuple [.str (Str.ofString "refused"), .str (Str.ofString "refused")]) N12 (.tuple (vs := [_, _]) (.head _) (.cons (.str _ _) (.cons (.str _ _) .nil))) (.tuple (vs := [_, _]) (.tail _ (.head _)) (.cons (.str _ _) (.cons (.str _ _) .nil))) (by kernel_rfl!) (by ke_room) ?_
        k_steps
        exact AskJ.turnP F12 (fun z z1 z2 z3 z4 => by simp only [st4, if_neg z1, if_neg z2, if_neg z3, if_neg z4]) d9c N12 (.tail _ (.tail _ (.head _))) (.tail _ (.tail _ (.tail _ (.head _)))) (fun p hp => .tail _ (.tail _ (.tail _ (.tail _ hp)))) offI n1
    | false =>
      have q2' : ¬ (r.sign : Int) < 32 ∧ ¬ (r.sign : Int) = 127 := by
        obtain ⟨a, b⟩ := Bool.or_eq_false_iff.mp hc
        have a := of_decide_eq_false a
        have b := beq_eq_false_iff_ne.mp b
        exact ⟨by omega, by omega⟩
      obtain ⟨q3, q4⟩ := q2'
      k_steps
      rename Fr _ _ _ _ => F9
      rename News _ _ _ _ => N9
      rename Obj => o9
      rename Obj.data o9 = Data.cell _ => d9c
      w_strict (repeat (rename_i zf; revert zf))
      (try revert E'); (try revert hcl); (try revert n3); (try revert n2); (try revert n1); (try revert offI); (try revert N); (try revert F); (try revert G); (try revert hT); (try revert hi); (try revert hr); (try revert u4); (try revert u3); (try revert u2); (try revert u1); (try revert u4'); (try revert u3'); (try revert u2'); (try revert u1'); (try revert tk); (try revert g); (try revert oI); (try revert I); (try revert rest); (try revert np); (try revert vp); (try revert nb); (try revert vb); (try revert nf); (try revert vf); (try revert P); (try revert t3); (try revert t2); (try revert t1); (try revert r); (try revert T); (try revert i); (try revert ap); (try revert len9); (try revert sub9); (try revert lt9); (try revert N9); (try revert F9); (try revert zs9); (try revert h9); (try revert D9); (try revert hys); (try revert Np); (try revert Fp); (try revert hp2); (try revert lp1); (try revert hp1); (try revert pg); (try revert tka); (try revert hc); (try revert hb); (try revert ha); (try revert lt1); (try revert ht1); (try revert Dt); (try revert ek); (try revert qk); (try revert r2); (try revert q2); (try revert p2); (try revert tk6); (try revert h6); (try revert k2); (try revert l2); (try revert d2); (try revert x2); (try revert ek1); (try revert qk1); (try revert r1); (try revert q1); (try revert p1); (try revert tk5); (try revert h5); (try revert k1); (try revert l1); (try revert d1); (try revert x1); (try revert o4); (try revert N4); (try revert F4); (try revert tk4); (try revert h4); (try revert R); (try revert hm2); (try revert hm1); (try revert hln); (try revert hall); (try revert hrs); (try revert rs); (try revert nw); (try revert ys); (try revert g9); (try revert hlen); (try revert l3); (try revert hI3); (try revert N3); (try revert F3); (try revert h3); (try revert ws3); (try revert D3); (try revert oc); (try revert KX); (try revert q3); (try revert q4); (try revert hP1); (try revert hP2); (try revert hlz); (try revert hv1); (try revert hv2); (try revert hv3); (try revert l12); (try revert l1p); (try revert l2p); (try revert HA); (try revert HP); (try revert hk); (try revert hg); (try revert md1); (try revert mx1); (try revert md2); (try revert mx2); (try revert RF); (try revert h8); (try revert q); (try revert tk7); (try revert h7); (try revert hoc); (try revert base); (try revert hbs); (try revert hbc); (try revert hbm); (try revert bx1); (try revert bd1); (try revert bx2); (try revert bd2); (try revert bR); (try revert bl1); (try revert bl2); (try revert bpg); (try revert bpf); (try revert bpb); (try revert bpp); (try revert bys); (try revert hok); (try revert hlp); (try revert oc'); (try revert vc); (try revert hoc'); (try revert HC); (try revert ho2); (try revert ys1); (try revert hys'); (try revert R3); (try revert h10); (try revert tk10); (try revert F10); (try revert N10); (try revert o10); (try revert hkS); (try revert o9); (try revert d9c); (try revert F11); (try revert N11); (try revert sub3); (try revert subn); (try revert tk8); (try revert T9); (try revert ta9); (try revert tb9); (try revert tc9); (try revert tk9); (try revert D7); (try revert h12); (try revert tk12); (try revert F12); (try revert N12); (try revert D6); (try revert g10); (try revert q4); (try revert e1); (try revert e2); (try revert hkS); (try revert ho2); (try revert wd); (try revert za); (try revert za_1); (try revert za_2); (try revert za_3); (try revert za_4); (try revert za_5); (try revert za_6); (try revert za_7); (try revert za_8); (try revert za_9); (try revert za_10); (try revert za_11); (try revert za_12); (try revert za_13); (try revert za_14); (try revert za_15); (try revert za_16); (try revert za_17); (try revert za_18); (try revert za_19); (try revert za_20); (try revert za_21); (try revert za_22); (try revert za_23); (try revert za_24); (try revert za_25); (try revert za_26); (try revert za_27); (try revert za_28); (try revert za_29); (try revert za_30); (try revert za_31); (try revert za_32); (try revert za_33); (try revert za_34); (try revert za_35); (try revert za_36); (try revert za_37); (try revert za_38); (try revert za_39); (try revert za_40); (try revert za_41); (try revert za_42); (try revert za_43); (try revert za_44); (try revert za_45); (try revert za_46); (try revert za_47); (try revert za_48); (try revert za_49); (try revert za_50); (try revert za_51); (try revert za_52); (try revert za_53); (try revert za_54); (try revert za_55); (try revert za_56); (try revert za_57); (try revert za_58); (try revert za_59); (try revert za_60); (try revert za_61); (try revert za_62); (try revert za_63); (try revert za_64); (try revert za_65); (try revert za_66); (try revert za_67); (try revert za_68); (try revert za_69); (try revert za_70); (try revert za_71); (try revert za_72); (try revert za_73); (try revert za_74); (try revert za_75); (try revert za_76); (try revert za_77); (try revert za_78); (try revert za_79); (try revert za_80); (try revert za_81); (try revert za_82); (try revert za_83); (try revert za_84); (try revert za_85); (try revert za_86); (try revert za_87); (try revert za_88); (try revert za_89); (try revert zb); (try revert zb_1); (try revert zb_2); (try revert zb_3); (try revert zb_4); (try revert zb_5); (try revert zb_6); (try revert zb_7); (try revert zb_8); (try revert zb_9); (try revert zb_10); (try revert zb_11); (try revert zb_12); (try revert zb_13); (try revert zb_14); (try revert zb_15); (try revert zb_16); (try revert zb_17); (try revert zb_18); (try revert zb_19); (try revert zb_20); (try revert zb_21); (try revert zb_22); (try revert zb_23); (try revert zb_24); (try revert zb_25); (try revert zb_26); (try revert zb_27); (try revert zb_28); (try revert zb_29); (try revert zb_30); (try revert zb_31); (try revert zb_32); (try revert zb_33); (try revert zb_34); (try revert zb_35); (try revert zb_36); (try revert zb_37); (try revert zb_38); (try revert zb_39); (try revert zb_40); (try revert zb_41); (try revert zb_42); (try revert zb_43); (try revert zb_44); (try revert zb_45); (try revert zb_46); (try revert zb_47); (try revert zb_48); (try revert zb_49); (try revert zb_50); (try revert zb_51); (try revert zb_52); (try revert zb_53); (try revert zb_54); (try revert zb_55); (try revert zb_56); (try revert zb_57); (try revert zb_58); (try revert zb_59); (try revert zb_60); (try revert zb_61); (try revert zb_62); (try revert zb_63); (try revert zb_64); (try revert zb_65); (try revert zb_66); (try revert zb_67); (try revert zb_68); (try revert zb_69); (try revert zb_70); (try revert zb_71); (try revert zb_72); (try revert zb_73); (try revert zb_74); (try revert zb_75); (try revert zb_76); (try revert zb_77); (try revert zb_78); (try revert zb_79); (try revert zb_80); (try revert zb_81); (try revert zb_82); (try revert zb_83); (try revert zb_84); (try revert zb_85); (try revert zb_86); (try revert zb_87); (try revert zb_88); (try revert zb_89); (try revert zc); (try revert zc_1); (try revert zc_2); (try revert zc_3); (try revert zc_4); (try revert zc_5); (try revert zc_6); (try revert zc_7); (try revert zc_8); (try revert zc_9); (try revert zc_10); (try revert zc_11); (try revert zc_12); (try revert zc_13); (try revert zc_14); (try revert zc_15); (try revert zc_16); (try revert zc_17); (try revert zc_18); (try revert zc_19); (try revert zc_20); (try revert zc_21); (try revert zc_22); (try revert zc_23); (try revert zc_24); (try revert zc_25); (try revert zc_26); (try revert zc_27); (try revert zc_28); (try revert zc_29); (try revert zc_30); (try revert zc_31); (try revert zc_32); (try revert zc_33); (try revert zc_34); (try revert zc_35); (try revert zc_36); (try revert zc_37); (try revert zc_38); (try revert zc_39); (try revert zc_40); (try revert zc_41); (try revert zc_42); (try revert zc_43); (try revert zc_44); (try revert zc_45); (try revert zc_46); (try revert zc_47); (try revert zc_48); (try revert zc_49); (try revert zc_50); (try revert zc_51); (try revert zc_52); (try revert zc_53); (try revert zc_54); (try revert zc_55); (try revert zc_56); (try revert zc_57); (try revert zc_58); (try revert zc_59); (try revert zc_60); (try revert zc_61); (try revert zc_62); (try revert zc_63); (try revert zc_64); (try revert zc_65); (try revert zc_66); (try revert zc_67); (try revert zc_68); (try revert zc_69); (try revert zc_70); (try revert zc_71); (try revert zc_72); (try revert zc_73); (try revert zc_74); (try revert zc_75); (try revert zc_76); (try revert zc_77); (try revert zc_78); (try revert zc_79); (try revert zc_80); (try revert zc_81); (try revert zc_82); (try revert zc_83); (try revert zc_84); (try revert zc_85); (try revert zc_86); (try revert zc_87); (try revert zc_88); (try revert zc_89); (try revert zd); (try revert zd_1); (try revert zd_2); (try revert zd_3); (try revert zd_4); (try revert zd_5); (try revert zd_6); (try revert zd_7); (try revert zd_8); (try revert zd_9); (try revert zd_10); (try revert zd_11); (try revert zd_12); (try revert zd_13); (try revert zd_14); (try revert zd_15); (try revert zd_16); (try revert zd_17); (try revert zd_18); (try revert zd_19); (try revert zd_20); (try revert zd_21); (try revert zd_22); (try revert zd_23); (try revert zd_24); (try revert zd_25); (try revert zd_26); (try revert zd_27); (try revert zd_28); (try revert zd_29); (try revert zd_30); (try revert zd_31); (try revert zd_32); (try revert zd_33); (try revert zd_34); (try revert zd_35); (try revert zd_36); (try revert zd_37); (try revert zd_38); (try revert zd_39); (try revert zd_40); (try revert zd_41); (try revert zd_42); (try revert zd_43); (try revert zd_44); (try revert zd_45); (try revert zd_46); (try revert zd_47); (try revert zd_48); (try revert zd_49); (try revert zd_50); (try revert zd_51); (try revert zd_52); (try revert zd_53); (try revert zd_54); (try revert zd_55); (try revert zd_56); (try revert zd_57); (try revert zd_58); (try revert zd_59); (try revert zd_60); (try revert zd_61); (try revert zd_62); (try revert zd_63); (try revert zd_64); (try revert zd_65); (try revert zd_66); (try revert zd_67); (try revert zd_68); (try revert zd_69); (try revert zd_70); (try revert zd_71); (try revert zd_72); (try revert zd_73); (try revert zd_74); (try revert zd_75); (try revert zd_76); (try revert zd_77); (try revert zd_78); (try revert zd_79); (try revert zd_80); (try revert zd_81); (try revert zd_82); (try revert zd_83); (try revert zd_84); (try revert zd_85); (try revert zd_86); (try revert zd_87); (try revert zd_88); (try revert zd_89); (try revert ze); (try revert ze_1); (try revert ze_2); (try revert ze_3); (try revert ze_4); (try revert ze_5); (try revert ze_6); (try revert ze_7); (try revert ze_8); (try revert ze_9); (try revert ze_10); (try revert ze_11); (try revert ze_12); (try revert ze_13); (try revert ze_14); (try revert ze_15); (try revert ze_16); (try revert ze_17); (try revert ze_18); (try revert ze_19); (try revert ze_20); (try revert ze_21); (try revert ze_22); (try revert ze_23); (try revert ze_24); (try revert ze_25); (try revert ze_26); (try revert ze_27); (try revert ze_28); (try revert ze_29); (try revert ze_30); (try revert ze_31); (try revert ze_32); (try revert ze_33); (try revert ze_34); (try revert ze_35); (try revert ze_36); (try revert ze_37); (try revert ze_38); (try revert ze_39); (try revert ze_40); (try revert ze_41); (try revert ze_42); (try revert ze_43); (try revert ze_44); (try revert ze_45); (try revert ze_46); (try revert ze_47); (try revert ze_48); (try revert ze_49); (try revert ze_50); (try revert ze_51); (try revert ze_52); (try revert ze_53); (try revert ze_54); (try revert ze_55); (try revert ze_56); (try revert ze_57); (try revert ze_58); (try revert ze_59); (try revert ze_60); (try revert ze_61); (try revert ze_62); (try revert ze_63); (try revert ze_64); (try revert ze_65); (try revert ze_66); (try revert ze_67); (try revert ze_68); (try revert ze_69); (try revert ze_70); (try revert ze_71); (try revert ze_72); (try revert ze_73); (try revert ze_74); (try revert ze_75); (try revert ze_76); (try revert ze_77); (try revert ze_78); (try revert ze_79); (try revert ze_80); (try revert ze_81); (try revert ze_82); (try revert ze_83); (try revert ze_84); (try revert ze_85); (try revert ze_86); (try revert ze_87); (try revert ze_88); (try revert ze_89)
      exact PLift.down H10c
    )⟩ H9b
def stg7 (H12a : PLift _) (H12b : PLift _) (H9b : PLift _) :=
  stg6 ⟨(by
    set_option tactic.hygienic false in intros
    (rename Frag.In _ _ => KX); revert KX; k_fill; intro KX
    unfold MySrc
    have ho2 := (row_ok hr).2.1
    refine LCg.CompSrc.ledger rfl F9 N9 (.tail _ (.tail _ bpg)) (by rw [List.size_toArray]; exact Nat.le_trans hv3 (by decide)) ?_
    intro g9
    refine runV (Acc := fun i ys nw => nw = (_, o9) :: (I, oI) :: base ∧ StrsAre ys (smallsS (P.take i))) (fun i ys nw a => by rw [a.1]; exact .inr ⟨_, .tail _ (.tail _ bpg), rfl, _, rfl⟩) ?_ ?_ _ 0 [] _ (Nat.zero_add _) ⟨rfl, trivial⟩
    · rintro j v ys nw I' oI' C oC D m₂ h tk E' hv ⟨rfl, ha⟩ hC hx2 F2 N2 off
      rw [List.getElem?_toArray] at hv
      obtain ⟨q, hq, Tq, s1, s2, s3, rfl, hTq⟩ := bpp.at hv
      k_steps
      exact ⟨_, _, _, rfl, by assumption, by assumption, off, rfl, by unfold smallsS at *; rw [map_take' _ hq]; exact ha.snoc⟩
    · rintro ys1 nw ⟨rfl, hys'⟩
      rw [List.size_toArray, hlp, List.take_length] at hys'
      intro R3 h10 tk10 F10 N10 o10
      by_cases hk : r.small ∈ P.map Row.small
      · have hkS : st1 r.small ∈ smallsS P := mem_smallsS.mpr hk
        k_steps
        rename Fr _ _ _ _ => F11
        rename News _ _ _ _ => N11
        w_strict (repeat (rename_i zg; revert zg))
        (try revert E'); (try revert hcl); (try revert n3); (try revert n2); (try revert n1); (try revert offI); (try revert N); (try revert F); (try revert G); (try revert hT); (try revert hi); (try revert hr); (try revert u4); (try revert u3); (try revert u2); (try revert u1); (try revert u4'); (try revert u3'); (try revert u2'); (try revert u1'); (try revert tk); (try revert g); (try revert oI); (try revert I); (try revert rest); (try revert np); (try revert vp); (try revert nb); (try revert vb); (try revert nf); (try revert vf); (try revert P); (try revert t3); (try revert t2); (try revert t1); (try revert r); (try revert T); (try revert i); (try revert ap); (try revert len9); (try revert sub9); (try revert lt9); (try revert N9); (try revert F9); (try revert zs9); (try revert h9); (try revert D9); (try revert hys); (try revert Np); (try revert Fp); (try revert hp2); (try revert lp1); (try revert hp1); (try revert pg); (try revert tka); (try revert hc); (try revert hb); (try revert ha); (try revert lt1); (try revert ht1); (try revert Dt); (try revert ek); (try revert qk); (try revert r2); (try revert q2); (try revert p2); (try revert tk6); (try revert h6); (try revert k2); (try revert l2); (try revert d2); (try revert x2); (try revert ek1); (try revert qk1); (try revert r1); (try revert q1); (try revert p1); (try revert tk5); (try revert h5); (try revert k1); (try revert l1); (try revert d1); (try revert x1); (try revert o4); (try revert N4); (try revert F4); (try revert tk4); (try revert h4); (try revert R); (try revert hm2); (try revert hm1); (try revert hln); (try revert hall); (try revert hrs); (try revert rs); (try revert nw); (try revert ys); (try revert g9); (try revert hlen); (try revert l3); (try revert hI3); (try revert N3); (try revert F3); (try revert h3); (try revert ws3); (try revert D3); (try revert oc); (try revert KX); (try revert q3); (try revert q4); (try revert hP1); (try revert hP2); (try revert hlz); (try revert hv1); (try revert hv2); (try revert hv3); (try revert l12); (try revert l1p); (try revert l2p); (try revert HA); (try revert HP); (try revert hk); (try revert hg); (try revert md1); (try revert mx1); (try revert md2); (try revert mx2); (try revert RF); (try revert h8); (try revert q); (try revert tk7); (try revert h7); (try revert hoc); (try revert base); (try revert hbs); (try revert hbc); (try revert hbm); (try revert bx1); (try revert bd1); (try revert bx2); (try revert bd2); (try revert bR); (try revert bl1); (try revert bl2); (try revert bpg); (try revert bpf); (try revert bpb); (try revert bpp); (try revert bys); (try revert hok); (try revert hlp); (try revert oc'); (try revert vc); (try revert hoc'); (try revert HC); (try revert ho2); (try revert ys1); (try revert hys'); (try revert R3); (try revert h10); (try revert tk10); (try revert F10); (try revert N10); (try revert o10); (try revert hkS); (try revert o9); (try revert d9c); (try revert F11); (try revert N11); (try revert sub3); (try revert subn); (try revert tk8); (try revert T9); (try revert ta9); (try revert tb9); (try revert tc9); (try revert tk9); (try revert D7); (try revert h12); (try revert tk12); (try revert F12); (try revert N12); (try revert D6); (try revert g10); (try revert q4); (try revert e1); (try revert e2); (try revert hkS); (try revert ho2); (try revert wd); (try revert za); (try revert za_1); (try revert za_2); (try revert za_3); (try revert za_4); (try revert za_5); (try revert za_6); (try revert za_7); (try revert za_8); (try revert za_9); (try revert za_10); (try revert za_11); (try revert za_12); (try revert za_13); (try revert za_14); (try revert za_15); (try revert za_16); (try revert za_17); (try revert za_18); (try revert za_19); (try revert za_20); (try revert za_21); (try revert za_22); (try revert za_23); (try revert za_24); (try revert za_25); (try revert za_26); (try revert za_27); (try revert za_28); (try revert za_29); (try revert za_30); (try revert za_31); (try revert za_32); (try revert za_33); (try revert za_34); (try revert za_35); (try revert za_36); (try revert za_37); (try revert za_38); (try revert za_39); (try revert za_40); (try revert za_41); (try revert za_42); (try revert za_43); (try revert za_44); (try revert za_45); (try revert za_46); (try revert za_47); (try revert za_48); (try revert za_49); (try revert za_50); (try revert za_51); (try revert za_52); (try revert za_53); (try revert za_54); (try revert za_55); (try revert za_56); (try revert za_57); (try revert za_58); (try revert za_59); (try revert za_60); (try revert za_61); (try revert za_62); (try revert za_63); (try revert za_64); (try revert za_65); (try revert za_66); (try revert za_67); (try revert za_68); (try revert za_69); (try revert za_70); (try revert za_71); (try revert za_72); (try revert za_73); (try revert za_74); (try revert za_75); (try revert za_76); (try revert za_77); (try revert za_78); (try revert za_79); (try revert za_80); (try revert za_81); (try revert za_82); (try revert za_83); (try revert za_84); (try revert za_85); (try revert za_86); (try revert za_87); (try revert za_88); (try revert za_89); (try revert zb); (try revert zb_1); (try revert zb_2); (try revert zb_3); (try revert zb_4); (try revert zb_5); (try revert zb_6); (try revert zb_7); (try revert zb_8); (try revert zb_9); (try revert zb_10); (try revert zb_11); (try revert zb_12); (try revert zb_13); (try revert zb_14); (try revert zb_15); (try revert zb_16); (try revert zb_17); (try revert zb_18); (try revert zb_19); (try revert zb_20); (try revert zb_21); (try revert zb_22); (try revert zb_23); (try revert zb_24); (try revert zb_25); (try revert zb_26); (try revert zb_27); (try revert zb_28); (try revert zb_29); (try revert zb_30); (try revert zb_31); (try revert zb_32); (try revert zb_33); (try revert zb_34); (try revert zb_35); (try revert zb_36); (try revert zb_37); (try revert zb_38); (try revert zb_39); (try revert zb_40); (try revert zb_41); (try revert zb_42); (try revert zb_43); (try revert zb_44); (try revert zb_45); (try revert zb_46); (try revert zb_47); (try revert zb_48); (try revert zb_49); (try revert zb_50); (try revert zb_51); (try revert zb_52); (try revert zb_53); (try revert zb_54); (try revert zb_55); (try revert zb_56); (try revert zb_57); (try revert zb_58); (try revert zb_59); (try revert zb_60); (try revert zb_61); (try revert zb_62); (try revert zb_63); (try revert zb_64); (try revert zb_65); (try revert zb_66); (try revert zb_67); (try revert zb_68); (try revert zb_69); (try revert zb_70); (try revert zb_71); (try revert zb_72); (try revert zb_73); (try revert zb_74); (try revert zb_75); (try revert zb_76); (try revert zb_77); (try revert zb_78); (try revert zb_79); (try revert zb_80); (try revert zb_81); (try revert zb_82); (try revert zb_83); (try revert zb_84); (try revert zb_85); (try revert zb_86); (try revert zb_87); (try revert zb_88); (try revert zb_89); (try revert zc); (try revert zc_1); (try revert zc_2); (try revert zc_3); (try revert zc_4); (try revert zc_5); (try revert zc_6); (try revert zc_7); (try revert zc_8); (try revert zc_9); (try revert zc_10); (try revert zc_11); (try revert zc_12); (try revert zc_13); (try revert zc_14); (try revert zc_15); (try revert zc_16); (try revert zc_17); (try revert zc_18); (try revert zc_19); (try revert zc_20); (try revert zc_21); (try revert zc_22); (try revert zc_23); (try revert zc_24); (try revert zc_25); (try revert zc_26); (try revert zc_27); (try revert zc_28); (try revert zc_29); (try revert zc_30); (try revert zc_31); (try revert zc_32); (try revert zc_33); (try revert zc_34); (try revert zc_35); (try revert zc_36); (try revert zc_37); (try revert zc_38); (try revert zc_39); (try revert zc_40); (try revert zc_41); (try revert zc_42); (try revert zc_43); (try revert zc_44); (try revert zc_45); (try revert zc_46); (try revert zc_47); (try revert zc_48); (try revert zc_49); (try revert zc_50); (try revert zc_51); (try revert zc_52); (try revert zc_53); (try revert zc_54); (try revert zc_55); (try revert zc_56); (try revert zc_57); (try revert zc_58); (try revert zc_59); (try revert zc_60); (try revert zc_61); (try revert zc_62); (try revert zc_63); (try revert zc_64); (try revert zc_65); (try revert zc_66); (try revert zc_67); (try revert zc_68); (try revert zc_69); (try revert zc_70); (try revert zc_71); (try revert zc_72); (try revert zc_73); (try revert zc_74); (try revert zc_75); (try revert zc_76); (try revert zc_77); (try revert zc_78); (try revert zc_79); (try revert zc_80); (try revert zc_81); (try revert zc_82); (try revert zc_83); (try revert zc_84); (try revert zc_85); (try revert zc_86); (try revert zc_87); (try revert zc_88); (try revert zc_89); (try revert zd); (try revert zd_1); (try revert zd_2); (try revert zd_3); (try revert zd_4); (try revert zd_5); (try revert zd_6); (try revert zd_7); (try revert zd_8); (try revert zd_9); (try revert zd_10); (try revert zd_11); (try revert zd_12); (try revert zd_13); (try revert zd_14); (try revert zd_15); (try revert zd_16); (try revert zd_17); (try revert zd_18); (try revert zd_19); (try revert zd_20); (try revert zd_21); (try revert zd_22); (try revert zd_23); (try revert zd_24); (try revert zd_25); (try revert zd_26); (try revert zd_27); (try revert zd_28); (try revert zd_29); (try revert zd_30); (try revert zd_31); (try revert zd_32); (try revert zd_33); (try revert zd_34); (try revert zd_35); (try revert zd_36); (try revert zd_37); (try revert zd_38); (try revert zd_39); (try revert zd_40); (try revert zd_41); (try revert zd_42); (try revert zd_43); (try revert zd_44); (try revert zd_45); (try revert zd_46); (try revert zd_47); (try revert zd_48); (try revert zd_49); (try revert zd_50); (try revert zd_51); (try revert zd_52); (try revert zd_53); (try revert zd_54); (try revert zd_55); (try revert zd_56); (try revert zd_57); (try revert zd_58); (try revert zd_59); (try revert zd_60); (try revert zd_61); (try revert zd_62); (try revert zd_63); (try revert zd_64); (try revert zd_65); (try revert zd_66); (try revert zd_67); (try revert zd_68); (try revert zd_69); (try revert zd_70); (try revert zd_71); (try revert zd_72); (try revert zd_73); (try revert zd_74); (try revert zd_75); (try revert zd_76); (try revert zd_77); (try revert zd_78); (try revert zd_79); (try revert zd_80); (try revert zd_81); (try revert zd_82); (try revert zd_83); (try revert zd_84); (try revert zd_85); (try revert zd_86); (try revert zd_87); (try revert zd_88); (try revert zd_89); (try revert ze); (try revert ze_1); (try revert ze_2); (try revert ze_3); (try revert ze_4); (try revert ze_5); (try revert ze_6); (try revert ze_7); (try revert ze_8); (try revert ze_9); (try revert ze_10); (try revert ze_11); (try revert ze_12); (try revert ze_13); (try revert ze_14); (try revert ze_15); (try revert ze_16); (try revert ze_17); (try revert ze_18); (try revert ze_19); (try revert ze_20); (try revert ze_21); (try revert ze_22); (try revert ze_23); (try revert ze_24); (try revert ze_25); (try revert ze_26); (try revert ze_27); (try revert ze_28); (try revert ze_29); (try revert ze_30); (try revert ze_31); (try revert ze_32); (try revert ze_33); (try revert ze_34); (try revert ze_35); (try revert ze_36); (try revert ze_37); (try revert ze_38); (try revert ze_39); (try revert ze_40); (try revert ze_41); (try revert ze_42); (try revert ze_43); (try revert ze_44); (try revert ze_45); (try revert ze_46); (try revert ze_47); (try revert ze_48); (try revert ze_49); (try revert ze_50); (try revert ze_51); (try revert ze_52); (try revert ze_53); (try revert ze_54); (try revert ze_55); (try revert ze_56); (try revert ze_57); (try revert ze_58); (try revert ze_59); (try revert ze_60); (try revert ze_61); (try revert ze_62); (try revert ze_63); (try revert ze_64); (try revert ze_65); (try revert ze_66); (try revert ze_67); (try revert ze_68); (try revert ze_69); (try revert ze_70); (try revert ze_71); (try revert ze_72); (try revert ze_73); (try revert ze_74); (try revert ze_75); (try revert ze_76); (try revert ze_77); (try revert ze_78); (try revert ze_79); (try revert ze_80); (try revert ze_81); (try revert ze_82); (try revert ze_83); (try revert ze_84); (try revert ze_85); (try revert ze_86); (try revert ze_87); (try revert ze_88); (try revert ze_89); (try revert zf); (try revert zf_1); (try revert zf_2); (try revert zf_3); (try revert zf_4); (try revert zf_5); (try revert zf_6); (try revert zf_7); (try revert zf_8); (try revert zf_9); (try revert zf_10); (try revert zf_11); (try revert zf_12); (try revert zf_13); (try revert zf_14); (try revert zf_15); (try revert zf_16); (try revert zf_17); (try revert zf_18); (try revert zf_19); (try revert zf_20); (try revert zf_21); (try revert zf_22); (try revert zf_23); (try revert zf_24); (try revert zf_25); (try revert zf_26); (try revert zf_27); (try revert zf_28); (try revert zf_29); (try revert zf_30); (try revert zf_31); (try revert zf_32); (try revert zf_33); (try revert zf_34); (try revert zf_35); (try revert zf_36); (try revert zf_37); (try revert zf_38); (try revert zf_39); (try revert zf_40); (try revert zf_41); (try revert zf_42); (try revert zf_43); (try revert zf_44); (try revert zf_45); (try revert zf_46); (try revert zf_47); (try revert zf_48); (try revert zf_49); (try revert zf_50); (try revert zf_51); (try revert zf_52); (try revert zf_53); (try revert zf_54); (try revert zf_55); (try revert zf_56); (try revert zf_57); (try revert zf_58); (try revert zf_59); (try revert zf_60); (try revert zf_61); (try revert zf_62); (try revert zf_63); (try revert zf_64); (try revert zf_65); (try revert zf_66); (try revert zf_67); (try revert zf_68); (try revert zf_69); (try revert zf_70); (try revert zf_71); (try revert zf_72); (try revert zf_73); (try revert zf_74); (try revert zf_75); (try revert zf_76); (try revert zf_77); (try revert zf_78); (try revert zf_79); (try revert zf_80); (try revert zf_81); (try revert zf_82); (try revert zf_83); (try revert zf_84); (try revert zf_85); (try revert zf_86); (try revert zf_87); (try revert zf_88); (try revert zf_89)
        exact PLift.down H12a
      · have hkS : ¬ st1 r.small ∈ smallsS P := fun e => hk (mem_smallsS.mp e)
        k_steps
        rename Fr _ _ _ _ => F11
        rename News _ _ _ _ => N11
        w_strict (repeat (rename_i zg; revert zg))
        (try revert E'); (try revert hcl); (try revert n3); (try revert n2); (try revert n1); (try revert offI); (try revert N); (try revert F); (try revert G); (try revert hT); (try revert hi); (try revert hr); (try revert u4); (try revert u3); (try revert u2); (try revert u1); (try revert u4'); (try revert u3'); (try revert u2'); (try revert u1'); (try revert tk); (try revert g); (try revert oI); (try revert I); (try revert rest); (try revert np); (try revert vp); (try revert nb); (try revert vb); (try revert nf); (try revert vf); (try revert P); (try revert t3); (try revert t2); (try revert t1); (try revert r); (try revert T); (try revert i); (try revert ap); (try revert len9); (try revert sub9); (try revert lt9); (try revert N9); (try revert F9); (try revert zs9); (try revert h9); (try revert D9); (try revert hys); (try revert Np); (try revert Fp); (try revert hp2); (try revert lp1); (try revert hp1); (try revert pg); (try revert tka); (try revert hc); (try revert hb); (try revert ha); (try revert lt1); (try revert ht1); (try revert Dt); (try revert ek); (try revert qk); (try revert r2); (try revert q2); (try revert p2); (try revert tk6); (try revert h6); (try revert k2); (try revert l2); (try revert d2); (try revert x2); (try revert ek1); (try revert qk1); (try revert r1); (try revert q1); (try revert p1); (try revert tk5); (try revert h5); (try revert k1); (try revert l1); (try revert d1); (try revert x1); (try revert o4); (try revert N4); (try revert F4); (try revert tk4); (try revert h4); (try revert R); (try revert hm2); (try revert hm1); (try revert hln); (try revert hall); (try revert hrs); (try revert rs); (try revert nw); (try revert ys); (try revert g9); (try revert hlen); (try revert l3); (try revert hI3); (try revert N3); (try revert F3); (try revert h3); (try revert ws3); (try revert D3); (try revert oc); (try revert KX); (try revert q3); (try revert q4); (try revert hP1); (try revert hP2); (try revert hlz); (try revert hv1); (try revert hv2); (try revert hv3); (try revert l12); (try revert l1p); (try revert l2p); (try revert HA); (try revert HP); (try revert hk); (try revert hg); (try revert md1); (try revert mx1); (try revert md2); (try revert mx2); (try revert RF); (try revert h8); (try revert q); (try revert tk7); (try revert h7); (try revert hoc); (try revert base); (try revert hbs); (try revert hbc); (try revert hbm); (try revert bx1); (try revert bd1); (try revert bx2); (try revert bd2); (try revert bR); (try revert bl1); (try revert bl2); (try revert bpg); (try revert bpf); (try revert bpb); (try revert bpp); (try revert bys); (try revert hok); (try revert hlp); (try revert oc'); (try revert vc); (try revert hoc'); (try revert HC); (try revert ho2); (try revert ys1); (try revert hys'); (try revert R3); (try revert h10); (try revert tk10); (try revert F10); (try revert N10); (try revert o10); (try revert hkS); (try revert o9); (try revert d9c); (try revert F11); (try revert N11); (try revert sub3); (try revert subn); (try revert tk8); (try revert T9); (try revert ta9); (try revert tb9); (try revert tc9); (try revert tk9); (try revert D7); (try revert h12); (try revert tk12); (try revert F12); (try revert N12); (try revert D6); (try revert g10); (try revert q4); (try revert e1); (try revert e2); (try revert hkS); (try revert ho2); (try revert wd); (try revert za); (try revert za_1); (try revert za_2); (try revert za_3); (try revert za_4); (try revert za_5); (try revert za_6); (try revert za_7); (try revert za_8); (try revert za_9); (try revert za_10); (try revert za_11); (try revert za_12); (try revert za_13); (try revert za_14); (try revert za_15); (try revert za_16); (try revert za_17); (try revert za_18); (try revert za_19); (try revert za_20); (try revert za_21); (try revert za_22); (try revert za_23); (try revert za_24); (try revert za_25); (try revert za_26); (try revert za_27); (try revert za_28); (try revert za_29); (try revert za_30); (try revert za_31); (try revert za_32); (try revert za_33); (try revert za_34); (try revert za_35); (try revert za_36); (try revert za_37); (try revert za_38); (try revert za_39); (try revert za_40); (try revert za_41); (try revert za_42); (try revert za_43); (try revert za_44); (try revert za_45); (try revert za_46); (try revert za_47); (try revert za_48); (try revert za_49); (try revert za_50); (try revert za_51); (try revert za_52); (try revert za_53); (try revert za_54); (try revert za_55); (try revert za_56); (try revert za_57); (try revert za_58); (try revert za_59); (try revert za_60); (try revert za_61); (try revert za_62); (try revert za_63); (try revert za_64); (try revert za_65); (try revert za_66); (try revert za_67); (try revert za_68); (try revert za_69); (try revert za_70); (try revert za_71); (try revert za_72); (try revert za_73); (try revert za_74); (try revert za_75); (try revert za_76); (try revert za_77); (try revert za_78); (try revert za_79); (try revert za_80); (try revert za_81); (try revert za_82); (try revert za_83); (try revert za_84); (try revert za_85); (try revert za_86); (try revert za_87); (try revert za_88); (try revert za_89); (try revert zb); (try revert zb_1); (try revert zb_2); (try revert zb_3); (try revert zb_4); (try revert zb_5); (try revert zb_6); (try revert zb_7); (try revert zb_8); (try revert zb_9); (try revert zb_10); (try revert zb_11); (try revert zb_12); (try revert zb_13); (try revert zb_14); (try revert zb_15); (try revert zb_16); (try revert zb_17); (try revert zb_18); (try revert zb_19); (try revert zb_20); (try revert zb_21); (try revert zb_22); (try revert zb_23); (try revert zb_24); (try revert zb_25); (try revert zb_26); (try revert zb_27); (try revert zb_28); (try revert zb_29); (try revert zb_30); (try revert zb_31); (try revert zb_32); (try revert zb_33); (try revert zb_34); (try revert zb_35); (try revert zb_36); (try revert zb_37); (try revert zb_38); (try revert zb_39); (try revert zb_40); (try revert zb_41); (try revert zb_42); (try revert zb_43); (try revert zb_44); (try revert zb_45); (try revert zb_46); (try revert zb_47); (try revert zb_48); (try revert zb_49); (try revert zb_50); (try revert zb_51); (try revert zb_52); (try revert zb_53); (try revert zb_54); (try revert zb_55); (try revert zb_56); (try revert zb_57); (try revert zb_58); (try revert zb_59); (try revert zb_60); (try revert zb_61); (try revert zb_62); (try revert zb_63); (try revert zb_64); (try revert zb_65); (try revert zb_66); (try revert zb_67); (try revert zb_68); (try revert zb_69); (try revert zb_70); (try revert zb_71); (try revert zb_72); (try revert zb_73); (try revert zb_74); (try revert zb_75); (try revert zb_76); (try revert zb_77); (try revert zb_78); (try revert zb_79); (try revert zb_80); (try revert zb_81); (try revert zb_82); (try revert zb_83); (try revert zb_84); (try revert zb_85); (try revert zb_86); (try revert zb_87); (try revert zb_88); (try revert zb_89); (try revert zc); (try revert zc_1); (try revert zc_2); (try revert zc_3); (try revert zc_4); (try revert zc_5); (try revert zc_6); (try revert zc_7); (try revert zc_8); (try revert zc_9); (try revert zc_10); (try revert zc_11); (try revert zc_12); (try revert zc_13); (try revert zc_14); (try revert zc_15); (try revert zc_16); (try revert zc_17); (try revert zc_18); (try revert zc_19); (try revert zc_20); (try revert zc_21); (try revert zc_22); (try revert zc_23); (try revert zc_24); (try revert zc_25); (try revert zc_26); (try revert zc_27); (try revert zc_28); (try revert zc_29); (try revert zc_30); (try revert zc_31); (try revert zc_32); (try revert zc_33); (try revert zc_34); (try revert zc_35); (try revert zc_36); (try revert zc_37); (try revert zc_38); (try revert zc_39); (try revert zc_40); (try revert zc_41); (try revert zc_42); (try revert zc_43); (try revert zc_44); (try revert zc_45); (try revert zc_46); (try revert zc_47); (try revert zc_48); (try revert zc_49); (try revert zc_50); (try revert zc_51); (try revert zc_52); (try revert zc_53); (try revert zc_54); (try revert zc_55); (try revert zc_56); (try revert zc_57); (try revert zc_58); (try revert zc_59); (try revert zc_60); (try revert zc_61); (try revert zc_62); (try revert zc_63); (try revert zc_64); (try revert zc_65); (try revert zc_66); (try revert zc_67); (try revert zc_68); (try revert zc_69); (try revert zc_70); (try revert zc_71); (try revert zc_72); (try revert zc_73); (try revert zc_74); (try revert zc_75); (try revert zc_76); (try revert zc_77); (try revert zc_78); (try revert zc_79); (try revert zc_80); (try revert zc_81); (try revert zc_82); (try revert zc_83); (try revert zc_84); (try revert zc_85); (try revert zc_86); (try revert zc_87); (try revert zc_88); (try revert zc_89); (try revert zd); (try revert zd_1); (try revert zd_2); (try revert zd_3); (try revert zd_4); (try revert zd_5); (try revert zd_6); (try revert zd_7); (try revert zd_8); (try revert zd_9); (try revert zd_10); (try revert zd_11); (try revert zd_12); (try revert zd_13); (try revert zd_14); (try revert zd_15); (try revert zd_16); (try revert zd_17); (try revert zd_18); (try revert zd_19); (try revert zd_20); (try revert zd_21); (try revert zd_22); (try revert zd_23); (try revert zd_24); (try revert zd_25); (try revert zd_26); (try revert zd_27); (try revert zd_28); (try revert zd_29); (try revert zd_30); (try revert zd_31); (try revert zd_32); (try revert zd_33); (try revert zd_34); (try revert zd_35); (try revert zd_36); (try revert zd_37); (try revert zd_38); (try revert zd_39); (try revert zd_40); (try revert zd_41); (try revert zd_42); (try revert zd_43); (try revert zd_44); (try revert zd_45); (try revert zd_46); (try revert zd_47); (try revert zd_48); (try revert zd_49); (try revert zd_50); (try revert zd_51); (try revert zd_52); (try revert zd_53); (try revert zd_54); (try revert zd_55); (try revert zd_56); (try revert zd_57); (try revert zd_58); (try revert zd_59); (try revert zd_60); (try revert zd_61); (try revert zd_62); (try revert zd_63); (try revert zd_64); (try revert zd_65); (try revert zd_66); (try revert zd_67); (try revert zd_68); (try revert zd_69); (try revert zd_70); (try revert zd_71); (try revert zd_72); (try revert zd_73); (try revert zd_74); (try revert zd_75); (try revert zd_76); (try revert zd_77); (try revert zd_78); (try revert zd_79); (try revert zd_80); (try revert zd_81); (try revert zd_82); (try revert zd_83); (try revert zd_84); (try revert zd_85); (try revert zd_86); (try revert zd_87); (try revert zd_88); (try revert zd_89); (try revert ze); (try revert ze_1); (try revert ze_2); (try revert ze_3); (try revert ze_4); (try revert ze_5); (try revert ze_6); (try revert ze_7); (try revert ze_8); (try revert ze_9); (try revert ze_10); (try revert ze_11); (try revert ze_12); (try revert ze_13); (try revert ze_14); (try revert ze_15); (try revert ze_16); (try revert ze_17); (try revert ze_18); (try revert ze_19); (try revert ze_20); (try revert ze_21); (try revert ze_22); (try revert ze_23); (try revert ze_24); (try revert ze_25); (try revert ze_26); (try revert ze_27); (try revert ze_28); (try revert ze_29); (try revert ze_30); (try revert ze_31); (try revert ze_32); (try revert ze_33); (try revert ze_34); (try revert ze_35); (try revert ze_36); (try revert ze_37); (try revert ze_38); (try revert ze_39); (try revert ze_40); (try revert ze_41); (try revert ze_42); (try revert ze_43); (try revert ze_44); (try revert ze_45); (try revert ze_46); (try revert ze_47); (try revert ze_48); (try revert ze_49); (try revert ze_50); (try revert ze_51); (try revert ze_52); (try revert ze_53); (try revert ze_54); (try revert ze_55); (try revert ze_56); (try revert ze_57); (try revert ze_58); (try revert ze_59); (try revert ze_60); (try revert ze_61); (try revert ze_62); (try revert ze_63); (try revert ze_64); (try revert ze_65); (try revert ze_66); (try revert ze_67); (try revert ze_68); (try revert ze_69); (try revert ze_70); (try revert ze_71); (try revert ze_72); (try revert ze_73); (try revert ze_74); (try revert ze_75); (try revert ze_76); (try revert ze_77); (try revert ze_78); (try revert ze_79); (try revert ze_80); (try revert ze_81); (try revert ze_82); (try revert ze_83); (try revert ze_84); (try revert ze_85); (try revert ze_86); (try revert ze_87); (try revert ze_88); (try revert ze_89); (try revert zf); (try revert zf_1); (try revert zf_2); (try revert zf_3); (try revert zf_4); (try revert zf_5); (try revert zf_6); (try revert zf_7); (try revert zf_8); (try revert zf_9); (try revert zf_10); (try revert zf_11); (try revert zf_12); (try revert zf_13); (try revert zf_14); (try revert zf_15); (try revert zf_16); (try revert zf_17); (try revert zf_18); (try revert zf_19); (try revert zf_20); (try revert zf_21); (try revert zf_22); (try revert zf_23); (try revert zf_24); (try revert zf_25); (try revert zf_26); (try revert zf_27); (try revert zf_28); (try revert zf_29); (try revert zf_30); (try revert zf_31); (try revert zf_32); (try revert zf_33); (try revert zf_34); (try revert zf_35); (try revert zf_36); (try revert zf_37); (try revert zf_38); (try revert zf_39); (try revert zf_40); (try revert zf_41); (try revert zf_42); (try revert zf_43); (try revert zf_44); (try revert zf_45); (try revert zf_46); (try revert zf_47); (try revert zf_48); (try revert zf_49); (try revert zf_50); (try revert zf_51); (try revert zf_52); (try revert zf_53); (try revert zf_54); (try revert zf_55); (try revert zf_56); (try revert zf_57); (try revert zf_58); (try revert zf_59); (try revert zf_60); (try revert zf_61); (try revert zf_62); (try revert zf_63); (try revert zf_64); (try revert zf_65); (try revert zf_66); (try revert zf_67); (try revert zf_68); (try revert zf_69); (try revert zf_70); (try revert zf_71); (try revert zf_72); (try revert zf_73); (try revert zf_74); (try revert zf_75); (try revert zf_76); (try revert zf_77); (try revert zf_78); (try revert zf_79); (try revert zf_80); (try revert zf_81); (try revert zf_82); (try revert zf_83); (try revert zf_84); (try revert zf_85); (try revert zf_86); (try revert zf_87); (try revert zf_88); (try revert zf_89)
        exact PLift.down H12b
    )⟩ H9b
def stg8 (H12b : PLift _) (H9b : PLift _) :=
  stg7 ⟨(by
    set_option tactic.hygienic false in intros
    (rename Frag.In _ _ => KX); revert KX; k_fill; intro KX
    refine LCt.CompSrcT.ledger rfl F11 N11 (.tail _ (.tail _ (.tail _ bpg))) (by rw [List.size_toArray]; exact Nat.le_trans hv3 (by decide)) ?_
    intro g10
    refine runT (Acc := fun i zs => StrsAre zs (told (P.take i) r)) (.inr ⟨_, .tail _ (.tail _ (.tail _ bpg)), rfl, _, rfl⟩) ?_ ?_ _ 0 [] (Nat.zero_add _) trivial
    · intro j v zs I' oI' C oC D m₂ h tk E' hv ha hC hx2 F2 N2
      rw [List.getElem?_toArray] at hv
      obtain ⟨q, hq, Tq, s1, s2, s3, rfl, hTq⟩ := bpp.at hv
      k_steps
      · refine Kept.intro (by assumption) (by assumption) ?_
        rw [told_take hq, (by assumption : (stL q.fold == stL r.fold) = true), if_pos rfl]
        exact ha.snoc
      · refine Kept.intro (by assumption) (by assumption) ?_
        rw [told_take hq, (by assumption : (stL q.fold == stL r.fold) = false), if_neg Bool.false_ne_true, List.append_nil]
        exact ha
    · intro zs hzs D6 h14 tk14 F14 N14 off14
      rw [List.size_toArray, hlp, List.take_length] at hzs
      k_steps
      rename Fr _ _ _ _ => F15
      rename News _ _ _ _ => N15
      unfold Hold
      have e1 : getv (pf P) (Txt.lower (st1 r.sign)) = some (stL r.fold) := by rw [getv_pf hok hr, if_pos hk]
      have e2 : allv (pb P) (Txt.lower (stL r.fold)) = told P r := allv_pb hok hr
      refine c_ask RF hc (.tail _ (.tail _ (.tail _ (.tail _ (.tail _ bx1))))) (.tail _ (.tail _ (.tail _ (.tail _ (.tail _ bd1))))) (.tail _ (.tail _ (.tail _ (.tail _ (.tail _ bl1))))) (PairsIn.mono (fun p hp => .tail _ (.tail _ (.tail _ (.tail _ (.tail _ hp))))) bpf) hP1 hv1 (.tail _ (.tail _ (.tail _ (.tail _ (.tail _ bx2))))) (.tail _ (.tail _ (.tail _ (.tail _ (.tail _ bd2))))) (.tail _ (.tail _ (.tail _ (.tail _ (.tail _ bl2))))) (PairsIn.mono (fun p hp => .tail _ (.tail _ (.tail _ (.tail _ (.tail _ hp))))) bpb) hP2 hv2 (by assumption) F15 (by assumption) N15 (by assumption) (by assumption) (by assumption) rfl (by ktr_room) (by ktr_units) ?_
      intro T4 D4 v4 ys4 h12 tk12 hv4 hy4 F12 N12
      rw [e1] at hv4
      rw [e2] at hy4
      dsimp only
      k_steps
      unfold Hold
      refine ne_dat (d := .tuple [optD (some (stL r.fold)), .list ((told P r).map .str)]) N12 (tup2_dat (.head _) (.tail _ (.head _)) (opt_dat hv4) hy4) (tup2_dat (.tail _ (.tail _ (.head _))) (.tail _ (.tail _ (.tail _ (.head _)))) (opt_dat ⟨_, rfl⟩) hzs) (tup2_ok (fun b e => by cases e; exact (row_ok hr).2.2) (told_ok hok)) (by ke_room) ?_
      k_steps
      exact AskJ.turnP F12 (fun z z1 z2 z3 z4 => by simp only [st4, if_neg z1, if_neg z2, if_neg z3, if_neg z4]) d9c N12 (.tail _ (.tail _ (.tail _ (.tail _ (.tail _ (.head _)))))) (.tail _ (.tail _ (.tail _ (.tail _ (.tail _ (.tail _ (.head _))))))) (fun p hp => .tail _ (.tail _ (.tail _ (.tail _ (.tail _ (.tail _ (.tail _ hp))))))) offI n1
    )⟩ H12b H9b
def stg9 (H9b : PLift _) :=
  stg8 ⟨(by
    set_option tactic.hygienic false in intros
    (rename Frag.In _ _ => KX); revert KX; k_fill; intro KX
    refine LCt.CompSrcT.ledger rfl F11 N11 (.tail _ (.tail _ (.tail _ bpg))) (by rw [List.size_toArray]; exact Nat.le_trans hv3 (by decide)) ?_
    intro g10
    refine runT (Acc := fun i zs => StrsAre zs (told (P.take i) r)) (.inr ⟨_, .tail _ (.tail _ (.tail _ bpg)), rfl, _, rfl⟩) ?_ ?_ _ 0 [] (Nat.zero_add _) trivial
    · intro j v zs I' oI' C oC D m₂ h tk E' hv ha hC hx2 F2 N2
      rw [List.getElem?_toArray] at hv
      obtain ⟨q, hq, Tq, s1, s2, s3, rfl, hTq⟩ := bpp.at hv
      k_steps
      · refine Kept.intro (by assumption) (by assumption) ?_
        rw [told_take hq, (by assumption : (stL q.fold == stL r.fold) = true), if_pos rfl]
        exact ha.snoc
      · refine Kept.intro (by assumption) (by assumption) ?_
        rw [told_take hq, (by assumption : (stL q.fold == stL r.fold) = false), if_neg Bool.false_ne_true, List.append_nil]
        exact ha
    · intro zs hzs D6 h14 tk14 F14 N14 off14
      rw [List.size_toArray, hlp, List.take_length] at hzs
      k_steps
      rename Fr _ _ _ _ => F15
      rename News _ _ _ _ => N15
      unfold Hold
      have e1 : getv (pf P) (Txt.lower (st1 r.sign)) = none := by rw [getv_pf hok hr, if_neg hk]
      have e2 : allv (pb P) (Txt.lower (stL r.fold)) = told P r := allv_pb hok hr
      refine c_ask RF hc (.tail _ (.tail _ (.tail _ (.tail _ (.tail _ bx1))))) (.tail _ (.tail _ (.tail _ (.tail _ (.tail _ bd1))))) (.tail _ (.tail _ (.tail _ (.tail _ (.tail _ bl1))))) (PairsIn.mono (fun p hp => .tail _ (.tail _ (.tail _ (.tail _ (.tail _ hp))))) bpf) hP1 hv1 (.tail _ (.tail _ (.tail _ (.tail _ (.tail _ bx2))))) (.tail _ (.tail _ (.tail _ (.tail _ (.tail _ bd2))))) (.tail _ (.tail _ (.tail _ (.tail _ (.tail _ bl2))))) (PairsIn.mono (fun p hp => .tail _ (.tail _ (.tail _ (.tail _ (.tail _ hp))))) bpb) hP2 hv2 (by assumption) F15 (by assumption) N15 (by assumption) (by assumption) (by assumption) rfl (by ktr_room) (by ktr_units) ?_
      intro T4 D4 v4 ys4 h12 tk12 hv4 hy4 F12 N12
      rw [e1] at hv4
      rw [e2] at hy4
      dsimp only
      k_steps
      unfold Hold
      refine ne_dat (d := .tuple [optD (none), .list ((told P r).map .str)]) N12 (tup2_dat (.head _) (.tail _ (.head _)) (opt_dat hv4) hy4) (tup2_dat (.tail _ (.tail _ (.head _))) (.tail _ (.tail _ (.tail _ (.head _)))) (opt_dat rfl) hzs) (tup2_ok (fun b e => by cases e) (told_ok hok)) (by ke_room) ?_
      k_steps
      exact AskJ.turnP F12 (fun z z1 z2 z3 z4 => by simp only [st4, if_neg z1, if_neg z2, if_neg z3, if_neg z4]) d9c N12 (.tail _ (.tail _ (.tail _ (.tail _ (.tail _ (.head _)))))) (.tail _ (.tail _ (.tail _ (.tail _ (.tail _ (.tail _ (.head _))))))) (fun p hp => .tail _ (.tail _ (.tail _ (.tail _ (.tail _ (.tail _ (.tail _ hp))))))) offI n1
    )⟩ H9b
def stg10 (H14b : PLift _) :=
  stg9 ⟨(by
    set_option tactic.hygienic false in intros
    (rename Frag.In _ _ => KX); revert KX; k_fill; intro KX
    dsimp only
    k_steps
    unfold Hold
    refine wpAny_call (c_items (.tail _ bx1) (.tail _ bd1) (.tail _ bl1) hv1 (by assumption) F (by assumption) N (by assumption) rfl (by ktr_room) (by ktr_units) ?_)
    intro D6 h9 tk9 F9 N9
    dsimp only
    k_steps
    unfold MySrc
    refine LCg.CompSrc.ledger rfl F9 N9 (.tail _ (.tail _ bpg)) (by rw [List.size_toArray]; exact Nat.le_trans hv3 (by decide)) ?_
    intro g9
    refine runV (Acc := fun i zs nw => ((pg, W.listOf vp.toArray np) ∈ nw ∧ ∀ p ∈ (D6, { cls := .type "list", data := .seq vf.toArray }) :: (_, oc') :: base, p ∈ nw) ∧ PairsIn nw zs (pf (P.take i))) (fun i ys nw a => .inr ⟨_, a.1.1, rfl, _, rfl⟩) ?_ ?_ _ 0 [] _ (Nat.zero_add _) ⟨⟨.tail _ (.tail _ bpg), fun _ h => h⟩, trivial⟩
    · rintro j v zs nw I' oI' C oC D m₂ h tk E' hv ⟨⟨hm, hsub⟩, ha⟩ hC hx2 F2 N2 off
      rw [List.getElem?_toArray] at hv
      obtain ⟨q, hq, Tq, s1, s2, s3, rfl, hTq⟩ := bpp.at hv
      have hTq' := hsub _ (.tail _ (.tail _ hTq))
      k_steps
      rename_i T5 h5' F5 N5 l5
      refine ⟨_, _, (T5, tupObj #[.str (st1 q.sign) s1, .str (stL q.fold) s3]) :: nw, rfl, F5, perm4r N5, ⟨⟨Nat.ne_of_gt l5.1, Nat.ne_of_gt l5.2.1, Nat.ne_of_gt l5.2.2.1⟩, off⟩, ⟨.tail _ hm, fun p hp => .tail _ (hsub p hp)⟩, ?_⟩
      unfold pf at *
      rw [map_take' _ hq]
      exact PairsIn.snoc (p := (st1 q.sign, stL q.fold)) (.head _) (PairsIn.mono (fun p hp => .tail _ hp) ha)
    · rintro zs nw ⟨⟨hm, hsub⟩, ha⟩
      rw [List.size_toArray, hlp, List.take_length] at ha
      intro R3 h10 tk10 F10 N10 o10
      k_steps
      unfold Hold
      refine ne_dat (d := .list ((pf P).map fun p => .tuple [.str p.1, .str p.2])) N10 (.list (vs := vf) (n := 0) (.tail _ (hsub _ (.head _))) (pairs_dat (PairsIn.mono (fun p hp => .tail _ (hsub _ (.tail _ (.tail _ hp)))) bpf))) (.list (vs := zs) (.head _) (pairs_dat (PairsIn.mono (fun p hp => .tail _ hp) ha))) (pairs_ok (pf_ok hok)) (by ke_room) ?_
      have N11 := News.sub (n' := base) N10 (fun p hp => .tail _ (hsub _ (.tail _ (.tail _ hp))))
      clear N10 N9 N o10 hm hsub ha
      k_steps
      unfold Hold
      refine wpAny_call (c_items bx2 bd2 bl2 hv2 (by assumption) F10 (by assumption) N11 (by assumption) rfl (by ktr_room) (by ktr_units) ?_)
      intro D7 h12 tk12 F12 N12
      dsimp only
      k_steps
      unfold MySrc
      w_strict (repeat (rename_i zj; revert zj))
      (try revert E'); (try revert hcl); (try revert n3); (try revert n2); (try revert n1); (try revert offI); (try revert N); (try revert F); (try revert G); (try revert hT); (try revert hi); (try revert hr); (try revert u4); (try revert u3); (try revert u2); (try revert u1); (try revert u4'); (try revert u3'); (try revert u2'); (try revert u1'); (try revert tk); (try revert g); (try revert oI); (try revert I); (try revert rest); (try revert np); (try revert vp); (try revert nb); (try revert vb); (try revert nf); (try revert vf); (try revert P); (try revert t3); (try revert t2); (try revert t1); (try revert r); (try revert T); (try revert i); (try revert ap); (try revert len9); (try revert sub9); (try revert lt9); (try revert N9); (try revert F9); (try revert zs9); (try revert h9); (try revert D9); (try revert hys); (try revert Np); (try revert Fp); (try revert hp2); (try revert lp1); (try revert hp1); (try revert pg); (try revert tka); (try revert hc); (try revert hb); (try revert ha); (try revert lt1); (try revert ht1); (try revert Dt); (try revert ek); (try revert qk); (try revert r2); (try revert q2); (try revert p2); (try revert tk6); (try revert h6); (try revert k2); (try revert l2); (try revert d2); (try revert x2); (try revert ek1); (try revert qk1); (try revert r1); (try revert q1); (try revert p1); (try revert tk5); (try revert h5); (try revert k1); (try revert l1); (try revert d1); (try revert x1); (try revert o4); (try revert N4); (try revert F4); (try revert tk4); (try revert h4); (try revert R); (try revert hm2); (try revert hm1); (try revert hln); (try revert hall); (try revert hrs); (try revert rs); (try revert nw); (try revert ys); (try revert g9); (try revert hlen); (try revert l3); (try revert hI3); (try revert N3); (try revert F3); (try revert h3); (try revert ws3); (try revert D3); (try revert oc); (try revert KX); (try revert q3); (try revert q4); (try revert hP1); (try revert hP2); (try revert hlz); (try revert hv1); (try revert hv2); (try revert hv3); (try revert l12); (try revert l1p); (try revert l2p); (try revert HA); (try revert HP); (try revert hk); (try revert hg); (try revert md1); (try revert mx1); (try revert md2); (try revert mx2); (try revert RF); (try revert h8); (try revert q); (try revert tk7); (try revert h7); (try revert hoc); (try revert base); (try revert hbs); (try revert hbc); (try revert hbm); (try revert bx1); (try revert bd1); (try revert bx2); (try revert bd2); (try revert bR); (try revert bl1); (try revert bl2); (try revert bpg); (try revert bpf); (try revert bpb); (try revert bpp); (try revert bys); (try revert hok); (try revert hlp); (try revert oc'); (try revert vc); (try revert hoc'); (try revert HC); (try revert ho2); (try revert ys1); (try revert hys'); (try revert R3); (try revert h10); (try revert tk10); (try revert F10); (try revert N10); (try revert o10); (try revert hkS); (try revert o9); (try revert d9c); (try revert F11); (try revert N11); (try revert sub3); (try revert subn); (try revert tk8); (try revert T9); (try revert ta9); (try revert tb9); (try revert tc9); (try revert tk9); (try revert D7); (try revert h12); (try revert tk12); (try revert F12); (try revert N12); (try revert D6); (try revert g10); (try revert q4); (try revert e1); (try revert e2); (try revert hkS); (try revert ho2); (try revert wd); (try revert za); (try revert za_1); (try revert za_2); (try revert za_3); (try revert za_4); (try revert za_5); (try revert za_6); (try revert za_7); (try revert za_8); (try revert za_9); (try revert za_10); (try revert za_11); (try revert za_12); (try revert za_13); (try revert za_14); (try revert za_15); (try revert za_16); (try revert za_17); (try revert za_18); (try revert za_19); (try revert za_20); (try revert za_21); (try revert za_22); (try revert za_23); (try revert za_24); (try revert za_25); (try revert za_26); (try revert za_27); (try revert za_28); (try revert za_29); (try revert za_30); (try revert za_31); (try revert za_32); (try revert za_33); (try revert za_34); (try revert za_35); (try revert za_36); (try revert za_37); (try revert za_38); (try revert za_39); (try revert za_40); (try revert za_41); (try revert za_42); (try revert za_43); (try revert za_44); (try revert za_45); (try revert za_46); (try revert za_47); (try revert za_48); (try revert za_49); (try revert za_50); (try revert za_51); (try revert za_52); (try revert za_53); (try revert za_54); (try revert za_55); (try revert za_56); (try revert za_57); (try revert za_58); (try revert za_59); (try revert za_60); (try revert za_61); (try revert za_62); (try revert za_63); (try revert za_64); (try revert za_65); (try revert za_66); (try revert za_67); (try revert za_68); (try revert za_69); (try revert za_70); (try revert za_71); (try revert za_72); (try revert za_73); (try revert za_74); (try revert za_75); (try revert za_76); (try revert za_77); (try revert za_78); (try revert za_79); (try revert za_80); (try revert za_81); (try revert za_82); (try revert za_83); (try revert za_84); (try revert za_85); (try revert za_86); (try revert za_87); (try revert za_88); (try revert za_89); (try revert zb); (try revert zb_1); (try revert zb_2); (try revert zb_3); (try revert zb_4); (try revert zb_5); (try revert zb_6); (try revert zb_7); (try revert zb_8); (try revert zb_9); (try revert zb_10); (try revert zb_11); (try revert zb_12); (try revert zb_13); (try revert zb_14); (try revert zb_15); (try revert zb_16); (try revert zb_17); (try revert zb_18); (try revert zb_19); (try revert zb_20); (try revert zb_21); (try revert zb_22); (try revert zb_23); (try revert zb_24); (try revert zb_25); (try revert zb_26); (try revert zb_27); (try revert zb_28); (try revert zb_29); (try revert zb_30); (try revert zb_31); (try revert zb_32); (try revert zb_33); (try revert zb_34); (try revert zb_35); (try revert zb_36); (try revert zb_37); (try revert zb_38); (try revert zb_39); (try revert zb_40); (try revert zb_41); (try revert zb_42); (try revert zb_43); (try revert zb_44); (try revert zb_45); (try revert zb_46); (try revert zb_47); (try revert zb_48); (try revert zb_49); (try revert zb_50); (try revert zb_51); (try revert zb_52); (try revert zb_53); (try revert zb_54); (try revert zb_55); (try revert zb_56); (try revert zb_57); (try revert zb_58); (try revert zb_59); (try revert zb_60); (try revert zb_61); (try revert zb_62); (try revert zb_63); (try revert zb_64); (try revert zb_65); (try revert zb_66); (try revert zb_67); (try revert zb_68); (try revert zb_69); (try revert zb_70); (try revert zb_71); (try revert zb_72); (try revert zb_73); (try revert zb_74); (try revert zb_75); (try revert zb_76); (try revert zb_77); (try revert zb_78); (try revert zb_79); (try revert zb_80); (try revert zb_81); (try revert zb_82); (try revert zb_83); (try revert zb_84); (try revert zb_85); (try revert zb_86); (try revert zb_87); (try revert zb_88); (try revert zb_89); (try revert zc); (try revert zc_1); (try revert zc_2); (try revert zc_3); (try revert zc_4); (try revert zc_5); (try revert zc_6); (try revert zc_7); (try revert zc_8); (try revert zc_9); (try revert zc_10); (try revert zc_11); (try revert zc_12); (try revert zc_13); (try revert zc_14); (try revert zc_15); (try revert zc_16); (try revert zc_17); (try revert zc_18); (try revert zc_19); (try revert zc_20); (try revert zc_21); (try revert zc_22); (try revert zc_23); (try revert zc_24); (try revert zc_25); (try revert zc_26); (try revert zc_27); (try revert zc_28); (try revert zc_29); (try revert zc_30); (try revert zc_31); (try revert zc_32); (try revert zc_33); (try revert zc_34); (try revert zc_35); (try revert zc_36); (try revert zc_37); (try revert zc_38); (try revert zc_39); (try revert zc_40); (try revert zc_41); (try revert zc_42); (try revert zc_43); (try revert zc_44); (try revert zc_45); (try revert zc_46); (try revert zc_47); (try revert zc_48); (try revert zc_49); (try revert zc_50); (try revert zc_51); (try revert zc_52); (try revert zc_53); (try revert zc_54); (try revert zc_55); (try revert zc_56); (try revert zc_57); (try revert zc_58); (try revert zc_59); (try revert zc_60); (try revert zc_61); (try revert zc_62); (try revert zc_63); (try revert zc_64); (try revert zc_65); (try revert zc_66); (try revert zc_67); (try revert zc_68); (try revert zc_69); (try revert zc_70); (try revert zc_71); (try revert zc_72); (try revert zc_73); (try revert zc_74); (try revert zc_75); (try revert zc_76); (try revert zc_77); (try revert zc_78); (try revert zc_79); (try revert zc_80); (try revert zc_81); (try revert zc_82); (try revert zc_83); (try revert zc_84); (try revert zc_85); (try revert zc_86); (try revert zc_87); (try revert zc_88); (try revert zc_89); (try revert zd); (try revert zd_1); (try revert zd_2); (try revert zd_3); (try revert zd_4); (try revert zd_5); (try revert zd_6); (try revert zd_7); (try revert zd_8); (try revert zd_9); (try revert zd_10); (try revert zd_11); (try revert zd_12); (try revert zd_13); (try revert zd_14); (try revert zd_15); (try revert zd_16); (try revert zd_17); (try revert zd_18); (try revert zd_19); (try revert zd_20); (try revert zd_21); (try revert zd_22); (try revert zd_23); (try revert zd_24); (try revert zd_25); (try revert zd_26); (try revert zd_27); (try revert zd_28); (try revert zd_29); (try revert zd_30); (try revert zd_31); (try revert zd_32); (try revert zd_33); (try revert zd_34); (try revert zd_35); (try revert zd_36); (try revert zd_37); (try revert zd_38); (try revert zd_39); (try revert zd_40); (try revert zd_41); (try revert zd_42); (try revert zd_43); (try revert zd_44); (try revert zd_45); (try revert zd_46); (try revert zd_47); (try revert zd_48); (try revert zd_49); (try revert zd_50); (try revert zd_51); (try revert zd_52); (try revert zd_53); (try revert zd_54); (try revert zd_55); (try revert zd_56); (try revert zd_57); (try revert zd_58); (try revert zd_59); (try revert zd_60); (try revert zd_61); (try revert zd_62); (try revert zd_63); (try revert zd_64); (try revert zd_65); (try revert zd_66); (try revert zd_67); (try revert zd_68); (try revert zd_69); (try revert zd_70); (try revert zd_71); (try revert zd_72); (try revert zd_73); (try revert zd_74); (try revert zd_75); (try revert zd_76); (try revert zd_77); (try revert zd_78); (try revert zd_79); (try revert zd_80); (try revert zd_81); (try revert zd_82); (try revert zd_83); (try revert zd_84); (try revert zd_85); (try revert zd_86); (try revert zd_87); (try revert zd_88); (try revert zd_89); (try revert ze); (try revert ze_1); (try revert ze_2); (try revert ze_3); (try revert ze_4); (try revert ze_5); (try revert ze_6); (try revert ze_7); (try revert ze_8); (try revert ze_9); (try revert ze_10); (try revert ze_11); (try revert ze_12); (try revert ze_13); (try revert ze_14); (try revert ze_15); (try revert ze_16); (try revert ze_17); (try revert ze_18); (try revert ze_19); (try revert ze_20); (try revert ze_21); (try revert ze_22); (try revert ze_23); (try revert ze_24); (try revert ze_25); (try revert ze_26); (try revert ze_27); (try revert ze_28); (try revert ze_29); (try revert ze_30); (try revert ze_31); (try revert ze_32); (try revert ze_33); (try revert ze_34); (try revert ze_35); (try revert ze_36); (try revert ze_37); (try revert ze_38); (try revert ze_39); (try revert ze_40); (try revert ze_41); (try revert ze_42); (try revert ze_43); (try revert ze_44); (try revert ze_45); (try revert ze_46); (try revert ze_47); (try revert ze_48); (try revert ze_49); (try revert ze_50); (try revert ze_51); (try revert ze_52); (try revert ze_53); (try revert ze_54); (try revert ze_55); (try revert ze_56); (try revert ze_57); (try revert ze_58); (try revert ze_59); (try revert ze_60); (try revert ze_61); (try revert ze_62); (try revert ze_63); (try revert ze_64); (try revert ze_65); (try revert ze_66); (try revert ze_67); (try revert ze_68); (try revert ze_69); (try revert ze_70); (try revert ze_71); (try revert ze_72); (try revert ze_73); (try revert ze_74); (try revert ze_75); (try revert ze_76); (try revert ze_77); (try revert ze_78); (try revert ze_79); (try revert ze_80); (try revert ze_81); (try revert ze_82); (try revert ze_83); (try revert ze_84); (try revert ze_85); (try revert ze_86); (try revert ze_87); (try revert ze_88); (try revert ze_89); (try revert zf); (try revert zf_1); (try revert zf_2); (try revert zf_3); (try revert zf_4); (try revert zf_5); (try revert zf_6); (try revert zf_7); (try revert zf_8); (try revert zf_9); (try revert zf_10); (try revert zf_11); (try revert zf_12); (try revert zf_13); (try revert zf_14); (try revert zf_15); (try revert zf_16); (try revert zf_17); (try revert zf_18); (try revert zf_19); (try revert zf_20); (try revert zf_21); (try revert zf_22); (try revert zf_23); (try revert zf_24); (try revert zf_25); (try revert zf_26); (try revert zf_27); (try revert zf_28); (try revert zf_29); (try revert zf_30); (try revert zf_31); (try revert zf_32); (try revert zf_33); (try revert zf_34); (try revert zf_35); (try revert zf_36); (try revert zf_37); (try revert zf_38); (try revert zf_39); (try revert zf_40); (try revert zf_41); (try revert zf_42); (try revert zf_43); (try revert zf_44); (try revert zf_45); (try revert zf_46); (try revert zf_47); (try revert zf_48); (try revert zf_49); (try revert zf_50); (try revert zf_51); (try revert zf_52); (try revert zf_53); (try revert zf_54); (try revert zf_55); (try revert zf_56); (try revert zf_57); (try revert zf_58); (try revert zf_59); (try revert zf_60); (try revert zf_61); (try revert zf_62); (try revert zf_63); (try revert zf_64); (try revert zf_65); (try revert zf_66); (try revert zf_67); (try revert zf_68); (try revert zf_69); (try revert zf_70); (try revert zf_71); (try revert zf_72); (try revert zf_73); (try revert zf_74); (try revert zf_75); (try revert zf_76); (try revert zf_77); (try revert zf_78); (try revert zf_79); (try revert zf_80); (try revert zf_81); (try revert zf_82); (try revert zf_83); (try revert zf_84); (try revert zf_85); (try revert zf_86); (try revert zf_87); (try revert zf_88); (try revert zf_89); (try revert zg); (try revert zg_1); (try revert zg_2); (try revert zg_3); (try revert zg_4); (try revert zg_5); (try revert zg_6); (try revert zg_7); (try revert zg_8); (try revert zg_9); (try revert zg_10); (try revert zg_11); (try revert zg_12); (try revert zg_13); (try revert zg_14); (try revert zg_15); (try revert zg_16); (try revert zg_17); (try revert zg_18); (try revert zg_19); (try revert zg_20); (try revert zg_21); (try revert zg_22); (try revert zg_23); (try revert zg_24); (try revert zg_25); (try revert zg_26); (try revert zg_27); (try revert zg_28); (try revert zg_29); (try revert zg_30); (try revert zg_31); (try revert zg_32); (try revert zg_33); (try revert zg_34); (try revert zg_35); (try revert zg_36); (try revert zg_37); (try revert zg_38); (try revert zg_39); (try revert zg_40); (try revert zg_41); (try revert zg_42); (try revert zg_43); (try revert zg_44); (try revert zg_45); (try revert zg_46); (try revert zg_47); (try revert zg_48); (try revert zg_49); (try revert zg_50); (try revert zg_51); (try revert zg_52); (try revert zg_53); (try revert zg_54); (try revert zg_55); (try revert zg_56); (try revert zg_57); (try revert zg_58); (try revert zg_59); (try revert zg_60); (try revert zg_61); (try revert zg_62); (try revert zg_63); (try revert zg_64); (try revert zg_65); (try revert zg_66); (try revert zg_67); (try revert zg_68); (try revert zg_69); (try revert zg_70); (try revert zg_71); (try revert zg_72); (try revert zg_73); (try revert zg_74); (try revert zg_75); (try revert zg_76); (try revert zg_77); (try revert zg_78); (try revert zg_79); (try revert zg_80); (try revert zg_81); (try revert zg_82); (try revert zg_83); (try revert zg_84); (try revert zg_85); (try revert zg_86); (try revert zg_87); (try revert zg_88); (try revert zg_89); (try revert zh); (try revert zh_1); (try revert zh_2); (try revert zh_3); (try revert zh_4); (try revert zh_5); (try revert zh_6); (try revert zh_7); (try revert zh_8); (try revert zh_9); (try revert zh_10); (try revert zh_11); (try revert zh_12); (try revert zh_13); (try revert zh_14); (try revert zh_15); (try revert zh_16); (try revert zh_17); (try revert zh_18); (try revert zh_19); (try revert zh_20); (try revert zh_21); (try revert zh_22); (try revert zh_23); (try revert zh_24); (try revert zh_25); (try revert zh_26); (try revert zh_27); (try revert zh_28); (try revert zh_29); (try revert zh_30); (try revert zh_31); (try revert zh_32); (try revert zh_33); (try revert zh_34); (try revert zh_35); (try revert zh_36); (try revert zh_37); (try revert zh_38); (try revert zh_39); (try revert zh_40); (try revert zh_41); (try revert zh_42); (try revert zh_43); (try revert zh_44); (try revert zh_45); (try revert zh_46); (try revert zh_47); (try revert zh_48); (try revert zh_49); (try revert zh_50); (try revert zh_51); (try revert zh_52); (try revert zh_53); (try revert zh_54); (try revert zh_55); (try revert zh_56); (try revert zh_57); (try revert zh_58); (try revert zh_59); (try revert zh_60); (try revert zh_61); (try revert zh_62); (try revert zh_63); (try revert zh_64); (try revert zh_65); (try revert zh_66); (try revert zh_67); (try revert zh_68); (try revert zh_69); (try revert zh_70); (try revert zh_71); (try revert zh_72); (try revert zh_73); (try revert zh_74); (try revert zh_75); (try revert zh_76); (try revert zh_77); (try revert zh_78); (try revert zh_79); (try revert zh_80); (try revert zh_81); (try revert zh_82); (try revert zh_83); (try revert zh_84); (try revert zh_85); (try revert zh_86); (try revert zh_87); (try revert zh_88); (try revert zh_89); (try revert zi); (try revert zi_1); (try revert zi_2); (try revert zi_3); (try revert zi_4); (try revert zi_5); (try revert zi_6); (try revert zi_7); (try revert zi_8); (try revert zi_9); (try revert zi_10); (try revert zi_11); (try revert zi_12); (try revert zi_13); (try revert zi_14); (try revert zi_15); (try revert zi_16); (try revert zi_17); (try revert zi_18); (try revert zi_19); (try revert zi_20); (try revert zi_21); (try revert zi_22); (try revert zi_23); (try revert zi_24); (try revert zi_25); (try revert zi_26); (try revert zi_27); (try revert zi_28); (try revert zi_29); (try revert zi_30); (try revert zi_31); (try revert zi_32); (try revert zi_33); (try revert zi_34); (try revert zi_35); (try revert zi_36); (try revert zi_37); (try revert zi_38); (try revert zi_39); (try revert zi_40); (try revert zi_41); (try revert zi_42); (try revert zi_43); (try revert zi_44); (try revert zi_45); (try revert zi_46); (try revert zi_47); (try revert zi_48); (try revert zi_49); (try revert zi_50); (try revert zi_51); (try revert zi_52); (try revert zi_53); (try revert zi_54); (try revert zi_55); (try revert zi_56); (try revert zi_57); (try revert zi_58); (try revert zi_59); (try revert zi_60); (try revert zi_61); (try revert zi_62); (try revert zi_63); (try revert zi_64); (try revert zi_65); (try revert zi_66); (try revert zi_67); (try revert zi_68); (try revert zi_69); (try revert zi_70); (try revert zi_71); (try revert zi_72); (try revert zi_73); (try revert zi_74); (try revert zi_75); (try revert zi_76); (try revert zi_77); (try revert zi_78); (try revert zi_79); (try revert zi_80); (try revert zi_81); (try revert zi_82); (try revert zi_83); (try revert zi_84); (try revert zi_85); (try revert zi_86); (try revert zi_87); (try revert zi_88); (try revert zi_89)
      exact PLift.down H14b
    )⟩
theorem law_holds : PySem.Challenge.rw_pe0279_01.Holds :=
  stg10 ⟨(by
    set_option tactic.hygienic false in intros
    (rename Frag.In _ _ => KX); revert KX; k_fill; intro KX
    refine LCg.CompSrc.ledger rfl F12 N12 (.tail _ bpg) (by rw [List.size_toArray]; exact Nat.le_trans hv3 (by decide)) ?_
    intro g12
    refine runV (Acc := fun i zs nw => ((pg, W.listOf vp.toArray np) ∈ nw ∧ ∀ p ∈ (D7, { cls := .type "list", data := .seq vb.toArray }) :: base, p ∈ nw) ∧ PairsIn nw zs (pb (P.take i))) (fun i ys nw a => .inr ⟨_, a.1.1, rfl, _, rfl⟩) ?_ ?_ _ 0 [] _ (Nat.zero_add _) ⟨⟨.tail _ bpg, fun _ h => h⟩, trivial⟩
    · rintro j v zs nw I' oI' C oC D m₂ h tk E' hv ⟨⟨hm, hsub⟩, ha⟩ hC hx2 F2 N2 off
      rw [List.getElem?_toArray] at hv
      obtain ⟨q, hq, Tq, s1, s2, s3, rfl, hTq⟩ := bpp.at hv
      have hTq' := hsub _ (.tail _ hTq)
      k_steps
      rename_i T5 h5' F5 N5 l5
      refine ⟨_, _, (T5, tupObj #[.str (stL q.fold) s3, .str (st1 q.sign) s1]) :: nw, rfl, F5, perm4r N5, ⟨⟨Nat.ne_of_gt l5.1, Nat.ne_of_gt l5.2.1, Nat.ne_of_gt l5.2.2.1⟩, off⟩, ⟨.tail _ hm, fun p hp => .tail _ (hsub p hp)⟩, ?_⟩
      unfold pb at *
      rw [map_take' _ hq]
      exact PairsIn.snoc (p := (stL q.fold, st1 q.sign)) (.head _) (PairsIn.mono (fun p hp => .tail _ hp) ha)
    · rintro zs nw ⟨⟨hm, hsub⟩, ha⟩
      rw [List.size_toArray, hlp, List.take_length] at ha
      intro R3 h14 tk14 F14 N14 o14
      k_steps
      unfold Hold
      refine eq_dat (d := .list ((pb P).map fun p => .tuple [.str p.1, .str p.2])) N14 (.list (vs := vb) (n := 0) (.tail _ (hsub _ (.head _))) (pairs_dat (PairsIn.mono (fun p hp => .tail _ (hsub _ (.tail _ hp))) bpb))) (.list (vs := zs) (.head _) (pairs_dat (PairsIn.mono (fun p hp => .tail _ hp) ha))) (pairs_ok (pb_ok hok)) (by ke_room) ?_
      have N15 := News.sub (n' := []) N14 (fun p hp => nomatch hp)
      clear N14 N12 o14 hm hsub ha
      k_steps
      all_goals (try w_report)
    )⟩
end Mine
theorem Mine.offSt : True := by
  w_top off
  trivial
end
theorem PySem.Challenge.cw_pe0279_01_holds : PySem.Challenge.rw_pe0279_01.Holds := by
  exact Mine.law_holds
