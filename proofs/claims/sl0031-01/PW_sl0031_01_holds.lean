import PyProof.Rows.All
import Wide.All
import OpenK.AllK
import Wide.FinOn
import PyProof.ListMulAny
import PyProof.NoPylong
import PyProof.StrWalks
import PyProof.SetRoads
import KE.KTab
import PyProof.AssignAttr
import PyProof.GenQ
import PyProof.Draws
import PyProof.EnumMake
import PyProof.GenObj
import PySem.Challenge.RW_sl0031_01
set_option maxRecDepth 100000
set_option Elab.async false
set_option linter.unusedVariables false
namespace SL
open PySem PySem.W PySem.Calls PyProof.Rows

/-- what stands around a straight piece of the top: program, world, code, frames -/
structure Site where
 p : Program
 w : World
 n₀ : Nat
 ann : Option Value
 c : Code
 F : Frame
 B : List Frame

def Site.run (Z : Site) (N : Nat) (s : Shared) (pos : Pos) (t : Sem Fin) : Option Shared :=
 topRun treeTable Z.p Z.w Z.n₀ Z.ann N s ⟨t, Z.c, pos, Z.F :: Z.B⟩

/-- the tree m, run from s, comes to the value a in at most n steps -/
def Tr {α : Type} (Z : Site) (n : Nat) (m : Sem α) (s : Shared) (pos : Pos) (a : α) (s' : Shared) (pos' : Pos) : Prop :=
 ∀ (K : α → Sem Fin) (H : Value → Sem Fin) (gd : Bool → Bool) (lv : List Value → List Value) (N : Nat) (r : Shared),
  Z.run N s' pos' (K a) = some r → Z.run (n + N) s pos (m.wrap K H gd lv) = some r

section
variable {α β : Type} {Z : Site} {s s₁ s₂ : Shared} {pos pos₁ pos₂ : Pos} {a : α} {b : β} {n n₁ n₂ : Nat}

theorem run_step {n : Nat} {s s' : Shared} {pos pos' : Pos} {t t' : Sem Fin} {r : Shared} (ok : stepOk Z.n₀ Z.ann ⟨t, Z.c, pos, Z.F :: Z.B⟩ = true)
  (st : step (denote treeTable) Z.p Z.w s ⟨t, Z.c, pos, Z.F :: Z.B⟩ = .go s' ⟨t', Z.c, pos', Z.F :: Z.B⟩) (h : Z.run n s' pos' t' = some r) : Z.run (n + 1) s pos t = some r := by
 unfold Site.run topRun
 have hth : through ⟨t, Z.c, pos, Z.F :: Z.B⟩ = false := rfl
 rw [hth, ok, st]
 exact h

theorem Tr.pure : Tr Z 0 (Pure.pure a : Sem α) s pos a s pos := fun K H gd lv N r h => by
 rw [Nat.zero_add]; exact h
theorem Tr.mono {m : Sem α} (h : Tr Z n m s pos a s₁ pos₁) (hn : n ≤ n₁) : Tr Z n₁ m s pos a s₁ pos₁ := fun K H gd lv N r k => by
 have := topRun_mono (n₁ - n) _ _ _ _ (h K H gd lv N r k)
 rw [show n + N + (n₁ - n) = n₁ + N by omega] at this
 exact this
theorem Tr.bind {m : Sem α} {f : α → Sem β} (h : Tr Z n₁ m s pos a s₁ pos₁) (k : Tr Z n₂ (f a) s₁ pos₁ b s₂ pos₂) : Tr Z (n₁ + n₂) (m >>= f) s pos b s₂ pos₂ := fun K H gd lv N r q => by
 rw [Sem.bind_eq_wrap', Sem.wrap_wrap, Nat.add_assoc]
 exact h _ _ _ _ _ _ (k K H gd lv N r q)
theorem Tr.keep {vs : List Value} {m : Sem α} (h : Tr Z n m s pos a s₁ pos₁) : Tr Z n (m.keep vs) s pos a s₁ pos₁ := fun K H gd lv N r q => by
 rw [Sem.keep_eq_wrap, Sem.wrap_wrap]
 exact h _ _ _ _ _ _ q
theorem Tr.holding {vs : List Value} {m : Sem α} (h : Tr Z n m s pos a s₁ pos₁) : Tr Z n (holding vs m) s pos a s₁ pos₁ := by
 unfold PySem.holding
 split
 ·exact h
 ·exact h.keep
theorem Tr.onRaise {m : Sem α} {k : Value → Sem Unit} (h : Tr Z n m s pos a s₁ pos₁) : Tr Z n (m.onRaise k) s pos a s₁ pos₁ := fun K H gd lv N r q => by
 rw [Sem.onRaise_eq_wrap, Sem.wrap_wrap]
 exact h _ _ _ _ _ _ q
theorem Tr.tryCatch {m : Sem α} {k : Value → Sem α} (h : Tr Z n m s pos a s₁ pos₁) : Tr Z n (m.tryCatch k) s pos a s₁ pos₁ := fun K H gd lv N r q => by
 rw [Sem.tryCatch_eq_wrap, Sem.wrap_wrap]
 exact h _ _ _ _ _ _ q
theorem Tr.rule {tag : String} : Tr Z 1 (rule tag) s pos () s pos := fun K H gd lv N r q => by
 rw [Nat.add_comm]; exact run_step rfl rfl q
theorem Tr.standAt {q : Pos} : Tr Z 1 (standAt q) s pos () s q := fun K H gd lv N r q => by
 rw [Nat.add_comm]; exact run_step rfl rfl q
theorem Tr.point : Tr Z 1 point s pos () s pos := fun K H gd lv N r q => by
 rw [Nat.add_comm]; exact run_step rfl rfl q
theorem Tr.fresh : Tr Z 1 fresh s pos s.toks { s with toks := s.toks + 1 } pos := fun K H gd lv N r q => by
 rw [Nat.add_comm]; exact run_step rfl rfl q
theorem Tr.ask : Tr Z 1 ask s pos ⟨Z.p, Z.w.params⟩ s pos := fun K H gd lv N r q => by
 rw [Nat.add_comm]; exact run_step rfl rfl q
theorem Tr.alloc {o : Obj} : Tr Z 1 (alloc o) s pos s.heap.objs.size { s with heap := s.heap.push o } pos := fun K H gd lv N r q => by
 rw [Nat.add_comm]; exact run_step rfl rfl q
theorem Tr.loadPart {x : Addr} {part : Option Value} {o : Obj} (e : s.heap.get? x = some o) : Tr Z 1 (loadPart x part) s pos o s pos := fun K H gd lv N r q => by
 rw [Nat.add_comm]
 refine run_step rfl ?_ q
 show step _ _ _ s ⟨.load x part _, _, _, _⟩ = _
 obtain ⟨h, g, d, t, os⟩ := s
 simp only [step]
 have e' : h.get? x = some o := e
 rw [e']
 rfl
theorem Tr.load {x : Addr} {o : Obj} (e : s.heap.get? x = some o) : Tr Z 1 (load x) s pos o s pos := Tr.loadPart (part := none) e
theorem Tr.updatePart {x : Addr} {part : Option Value} {f : Obj → Obj} {o : Obj} (e : s.heap.get? x = some o) (hx : Z.n₀ ≤ x ∨ x = mainNs) : Tr Z 1 (updatePart x part f) s pos () { s with heap := s.heap.update x f } pos := fun K H gd lv N r q => by
 rw [Nat.add_comm]
 refine run_step ?_ ?_ q
 ·show stepOk _ _ ⟨.update x part f _, _, _, _⟩ = true
  have : (Nat.ble Z.n₀ x || x == mainNs || x == cStatics || Z.ann == some (Value.ref x)) = true := by
   rcases hx with h | h
   ·rw [Nat.ble_eq_true_of_le h]; rfl
   ·subst h; simp
  show (Thread.calm _ && _) = true
  rw [show Thread.calm ⟨.update x part f _, Z.c, pos, Z.F :: Z.B⟩ = true from rfl]
  exact this
 ·show step _ _ _ s ⟨.update x part f _, _, _, _⟩ = _
  obtain ⟨h, g, d, t, os⟩ := s
  simp only [step]
  have e' : h.get? x = some o := e
  rw [e']
  rfl
theorem Tr.update {x : Addr} {f : Obj → Obj} {o : Obj} (e : s.heap.get? x = some o) (hx : Z.n₀ ≤ x ∨ x = mainNs) : Tr Z 1 (update x f) s pos () { s with heap := s.heap.update x f } pos := Tr.updatePart (part := none) e hx
end

theorem top_step {p : Program} {w : World} {n₀ : Nat} {ann : Option Value} {n : Nat} {s s' : Shared} {t t' : Thread} {r : Shared} (hth : through t = false) (ok : stepOk n₀ ann t = true)
  (st : step (denote treeTable) p w s t = .go s' t') (h : topRun treeTable p w n₀ ann n s' t' = some r) : topRun treeTable p w n₀ ann (n + 1) s t = some r := by
 unfold topRun
 rw [hth, ok, st]
 exact h

theorem check_hash (x : Value) (k : Int) (t : Tok) (e : x = .int k t) : checkBuiltinCall "int.__hash__" ⟨[x], []⟩ = pure () := by subst e; kernel_rfl
theorem entry_hash : entryFor treeTable "int.__hash__" = some Builtin.«int.__hash__» := by rw [← table_eq_tree]; exact entry_int_hash
theorem hash_text (k : Int) (t : Tok) : Builtin.«int.__hash__» ⟨[.int k t], []⟩ = (do ret (← mkInt (rawHash k))) := rfl

theorem denote_call_builtin (id : String) (args : Args) : denote treeTable (.call (.builtin id) args) = (do checkBuiltinCall id args; again (.builtin id args)) := rfl
theorem denote_builtin (id : String) (args : Args) : denote treeTable (.builtin id args) = (match entryFor treeTable id with | some b => b args | none => unsupported ((withoutEnding? id "#data").getD id)) := rfl

/-- a call of a built-in whose text is one fresh number -/
theorem tr_callHash {Z : Site} {k : Int} {t : Tok} {s : Shared} {pos : Pos} :
  Tr Z 4 (call (.builtin "int.__hash__") [.int k t]) s pos (.int (rawHash k) s.toks) { s with toks := s.toks + 1 } pos := fun K H gd lv N r q => by
 rw [show 4 + N = N + 1 + 1 + 1 + 1 by omega]
 have c0 : denote treeTable (.call (.builtin "int.__hash__") ⟨[.int k t], []⟩) = .pure (.again (.builtin "int.__hash__" ⟨[.int k t], []⟩)) := by
  rw [denote_call_builtin, check_hash _ k t rfl]; rfl
 have c1 : denote treeTable (.builtin "int.__hash__" ⟨[.int k t], []⟩) = .fresh fun x => .pure (.done (.ret (.int (rawHash k) x))) := by
  rw [denote_builtin, entry_hash]; exact hash_text k t
 have st : ("int.__hash__" : String).startsWith "lifetime." = false := by decide +kernel
 have ok1 : ∀ (c : Code) (B : List Frame), stepOk Z.n₀ Z.ann ⟨.pure (.again (.builtin "int.__hash__" ⟨[.int k t], []⟩)), c, pos, B⟩ = true := fun c B => by
  simp only [stepOk, Thread.calm, Thread.atCollectorCode, Thread.yieldsInsideHandler, st]
  rfl
 obtain ⟨h, g, d, tk, os⟩ := s
 unfold Site.run
 refine top_step rfl rfl rfl ?_
 rw [c0]
 refine top_step rfl (ok1 _ _) rfl ?_
 rw [c1]
 refine top_step rfl rfl rfl ?_
 refine top_step rfl rfl rfl ?_
 exact q

theorem reduced_is {k : Nat} (hk : k < 2 ^ 61 - 1) : pyHashByItsType.reduced (rawHash (k : Int)) = pure (k : Int) := by
 have hr : rawHash (k : Int) = (k : Int) := by
  unfold rawHash
  have h3 : (((k : Int).natAbs : Int) % ((2 ^ 61 - 1 : Nat) : Int)) = (k : Int) := by
   rw [Int.natAbs_natCast]; exact Int.emod_eq_of_lt (by omega) (by omega)
  have h2 : ¬ ((k : Int) < 0) := by omega
  have h4 : ((k : Int) == -1) = false := by rw [beq_eq_false_iff_ne]; omega
  simp only [h3, if_neg h2, h4]
  rfl
 unfold pyHashByItsType.reduced
 rw [hr]
 have h1 : (decide (-(2 ^ 63 : Int) ≤ (k : Int)) && decide ((k : Int) < 2 ^ 63)) = true := by
  rw [Bool.and_eq_true, decide_eq_true_eq, decide_eq_true_eq]
  omega
 have h4 : ((k : Int) == -1) = false := by
  rw [beq_eq_false_iff_ne]; omega
 rw [if_pos h1, h4]; rfl

theorem tr_hash {Z : Site} {k : Nat} {t : Tok} {s : Shared} {pos : Pos} (hk : k < 2 ^ 61 - 1) : Tr Z 5 (pyHash (.int (k : Int) t)) s pos (k : Int) { s with toks := s.toks + 1 } pos := by
 unfold pyHash pyHashByItsType
 have hl : specialOf (.int (k : Int) t) "__hash__" = pure (some (.builtin "int.__hash__")) := slot_int_hash.lookup
 have hb : bindSpecialIfBound? (.int (k : Int) t) "__hash__" = (do if (← ask).params.followText "special-get-raises" then pure (some (.builtin "int.__hash__", [.int (k : Int) t])) else pure (some (.builtin "int.__hash__", [.int (k : Int) t]))) := by
  unfold bindSpecialIfBound?
  rw [hl]
  simp only [pure_bind, slot_int_hash.bind]
  congr 1
 have hv : cRoomFor "hash" [Value.int (k : Int) t] = pure () := rfl
 dsimp only
 simp only [hl, hv, pure_bind]
 rw [if_neg (by rw [beq_builtin_none]; exact Bool.false_ne_true), if_neg (by exact Bool.false_ne_true)]
 unfold callSpecialIfBoundUnlessNone?
 rw [hb]
 refine Tr.bind (n₁ := 5) (n₂ := 0) (a := some (.int (rawHash k) s.toks)) (Tr.holding ?_) (by dsimp only; rw [reduced_is hk]; exact .pure)
 refine Tr.bind (n₁ := 1) (n₂ := 4) (a := some (.builtin "int.__hash__", [.int (k : Int) t])) (Tr.bind (n₁ := 1) (n₂ := 0) .ask (by split <;> exact .pure)) ?_
 dsimp only
 rw [if_neg (by exact Bool.false_ne_true)]
 exact Tr.bind (n₁ := 4) (n₂ := 0) tr_callHash .pure

abbrev dobj (es : List DictEntry) (ep : Nat) : Obj := { cls := .type "dict", data := .dict es.toArray ep }

theorem places_none {es : List DictEntry} {h : Int} (hn : ∀ e ∈ es, e.hash ≠ h) : placesWithHash es.toArray.size (fun i => es.toArray[i]?.map (·.hash)) h = [] := by
 unfold placesWithHash
 rw [List.filter_eq_nil_iff]
 intro i hi
 intro c
 rw [beq_iff_eq] at c
 obtain ⟨e, q, hh⟩ := Option.map_eq_some_iff.mp c
 rw [List.getElem?_toArray] at q
 exact hn e (List.mem_of_getElem? q) hh

section
variable {Z : Site} {s : Shared} {pos : Pos}

theorem tr_dictFind {d : Addr} {es : List DictEntry} {ep : Nat} {k : Int} {t : Tok} (e : s.heap.get? d = some (dobj es ep)) (hn : ∀ e ∈ es, e.hash ≠ k) :
  Tr Z 1 (dictFind d (.int k t) k) s pos none s pos := by
 unfold dictFind
 refine Tr.holding (Tr.bind (n₁ := 1) (n₂ := 0) (a := es.toArray) (Tr.bind (n₁ := 1) (n₂ := 0) (Tr.loadPart e) .pure) ?_)
 dsimp only
 rw [places_none hn]
 exact .pure

theorem tr_addKey {d : Addr} {es : List DictEntry} {ep : Nat} {x : DictEntry} {part : Option Value} (e : s.heap.get? d = some (dobj es ep)) (hd : Z.n₀ ≤ d) (hz : es.length ≤ 100000) :
  Tr Z 3 (updateDictKeys d (·.push x) part) s pos () { s with heap := s.heap.update d (Obj.mapDictKeys (·.push x)) } pos := by
 unfold updateDictKeys
 refine Tr.bind (n₁ := 1) (n₂ := 2) (Tr.loadPart e) ?_
 dsimp only
 refine Tr.bind (n₁ := 1) (n₂ := 1) (Tr.updatePart e (.inl hd)) ?_
 unfold lookBehind
 have e' : (s.heap.update d (Obj.mapDictKeys (·.push x))).get? d = some (dobj (es ++ [x]) (ep + 1)) := by
  have := Heap.get?_update_self (Obj.mapDictKeys (·.push x)) e rfl
  rw [this]
  simp [dobj, Obj.mapDictKeys]
 refine Tr.bind (n₁ := 1) (n₂ := 0) (Tr.loadPart (s := { s with heap := s.heap.update d (Obj.mapDictKeys (·.push x)) }) e') ?_
 have : (dobj (es ++ [x]) (ep + 1)).data.pastItsLine = none := by
  show (if (es ++ [x]).toArray.size > sizeLine + 1 then some "dict:memory" else none) = none
  rw [if_neg]
  rw [sizeLine_eq]
  simp
  omega
 rw [this]
 exact .pure

theorem tr_dictSet {d : Addr} {es : List DictEntry} {ep : Nat} {k : Nat} {t : Tok} {v : Value} (e : s.heap.get? d = some (dobj es ep)) (hd : Z.n₀ ≤ d) (hz : es.length ≤ 100000) (hk : k < 2 ^ 61 - 1)
  (hn : ∀ e ∈ es, e.hash ≠ k) : Tr Z 10 (dictSet d (.int k t) v) s pos () { s with heap := s.heap.update d (Obj.mapDictKeys (·.push ⟨k, .int k t, v⟩)), toks := s.toks + 1 } pos := by
 unfold dictSet
 refine Tr.holding (Tr.bind (n₁ := 5) (n₂ := 5) (tr_hash hk) ?_)
 unfold dictSetHashed
 refine Tr.holding (Tr.bind (n₁ := 1) (n₂ := 4) (tr_dictFind (s := { s with toks := s.toks + 1 }) e hn) ?_)
 dsimp only
 exact Tr.bind (n₁ := 1) (n₂ := 3) .rule (tr_addKey (s := { s with toks := s.toks + 1 }) e hd hz)

theorem tr_dictPut {d : Addr} {es : List DictEntry} {ep : Nat} {k : Int} {t : Tok} {v : Value} (e : s.heap.get? d = some (dobj es ep)) (hd : Z.n₀ ≤ d) (hz : es.length ≤ 100000)
  (hn : ∀ e ∈ es, e.hash ≠ k) : Tr Z 4 (dictPut d k (.int k t) v) s pos () { s with heap := s.heap.update d (Obj.mapDictKeys (·.push ⟨k, .int k t, v⟩)) } pos := by
 unfold dictPut
 refine Tr.bind (n₁ := 1) (n₂ := 3) (tr_dictFind e hn) ?_
 dsimp only
 exact tr_addKey e hd hz
end

/-! a heap with more objects behind it -/
def ext (h : Heap) (l : List Obj) : Heap := ⟨h.objs ++ l.toArray, h.life⟩
theorem ext_nil (h : Heap) : ext h [] = h := by obtain ⟨o, l⟩ := h; simp [ext]
theorem ext_size (h : Heap) (l : List Obj) : (ext h l).objs.size = h.objs.size + l.length := by simp [ext]
theorem ext_push (h : Heap) (l : List Obj) (o : Obj) : (ext h l).push o = ext h (l ++ [o]) := by
 simp [ext, Heap.push]
theorem ext_get (h : Heap) {l : List Obj} {i : Nat} {o : Obj} (e : l[i]? = some o) (hf : o.isFreed = false) : (ext h l).get? (h.objs.size + i) = some o := by
 rw [Heap.get?_some_iff]
 refine ⟨?_, hf⟩
 simp only [ext]
 rw [Array.getElem?_append_right (by omega)]
 simpa using e
theorem ext_update (h : Heap) (l : List Obj) (i : Nat) (f : Obj → Obj) : (ext h l).update (h.objs.size + i) f = ext h (l.modify i f) := by
 simp only [ext, Heap.update]
 congr 1
 apply Array.ext_getElem?
 intro j
 rw [Array.getElem?_modify]
 by_cases hj : j < h.objs.size
 ·rw [Array.getElem?_append_left hj, Array.getElem?_append_left hj, if_neg (by omega)]
 ·rw [Array.getElem?_append_right (by omega), Array.getElem?_append_right (by omega)]
  simp only [List.getElem?_toArray, List.getElem?_modify]
  by_cases q : i = j - h.objs.size
  ·rw [if_pos (by omega)]; simp [q]
  ·rw [if_neg (by omega)]; simp [q]

/-- one written pair of a display: a number, a text -/
def cpair (P : Pos) (x : Nat × Str) : Sem Value × Sem Value := (mkInt (x.1 : Int), do let v ← mkText x.2; standAt P; pure v)

def entsL : Nat → List (Nat × Str) → List DictEntry
 | _, [] => []
 | T, (k, x) :: l => ⟨k, .int k T, .str x (T + 1)⟩ :: entsL (T + 3) l
def entsS : Nat → List (Nat × Str) → List DictEntry
 | _, [] => []
 | T, (k, x) :: l => ⟨k, .int k T, .str x (T + 1)⟩ :: entsS (T + 2) l
theorem entsL_length : ∀ (l : List (Nat × Str)) (T : Nat), (entsL T l).length = l.length
 | [], _ => rfl
 | (k, x) :: l, T => by simp [entsL, entsL_length l]
theorem entsS_length : ∀ (l : List (Nat × Str)) (T : Nat), (entsS T l).length = l.length
 | [], _ => rfl
 | (k, x) :: l, T => by simp [entsS, entsS_length l]
theorem entsL_hash : ∀ (l : List (Nat × Str)) (T : Nat), (entsL T l).map (·.hash) = l.map fun x => (x.1 : Int)
 | [], _ => rfl
 | (k, x) :: l, T => by simp [entsL, entsL_hash l]
theorem entsS_hash : ∀ (l : List (Nat × Str)) (T : Nat), (entsS T l).map (·.hash) = l.map fun x => (x.1 : Int)
 | [], _ => rfl
 | (k, x) :: l, T => by simp [entsS, entsS_hash l]

section
variable {Z : Site} {P : Pos}

theorem tr_mkInt {s : Shared} {pos : Pos} {i : Int} : Tr Z 1 (mkInt i) s pos (.int i s.toks) { s with toks := s.toks + 1 } pos := by
 unfold mkInt
 exact Tr.bind (n₁ := 1) (n₂ := 0) .fresh .pure
theorem tr_mkText {s : Shared} {pos : Pos} {x : Str} : Tr Z 1 (mkText x) s pos (.str x s.toks) { s with toks := s.toks + 1 } pos := by
 unfold mkText
 exact Tr.bind (n₁ := 1) (n₂ := 0) .fresh .pure
theorem tr_val {s : Shared} {pos : Pos} {x : Str} : Tr Z 2 (do let v ← mkText x; standAt P; pure v) s pos (.str x s.toks) { s with toks := s.toks + 1 } P :=
 Tr.bind (n₁ := 1) (n₂ := 1) tr_mkText (Tr.bind (n₁ := 1) (n₂ := 0) .standAt .pure)

/-- the keys of a list of written pairs rise, and none is met in es -/
def Rises (es : List DictEntry) (l : List (Nat × Str)) : Prop := ((es.map (·.hash)) ++ l.map fun x => (x.1 : Int)).Pairwise (· < ·) ∧ ∀ x ∈ l, x.1 < 2 ^ 61 - 1
theorem Rises.head {es : List DictEntry} {x : Nat × Str} {l : List (Nat × Str)} (h : Rises es (x :: l)) : ∀ e ∈ es, e.hash ≠ x.1 := fun e he => by
 have := (List.pairwise_append.mp h.1).2.2 e.hash (List.mem_map_of_mem he) (x.1 : Int) (by simp)
 omega
theorem Rises.push {es : List DictEntry} {x : Nat × Str} {l : List (Nat × Str)} {t : Tok} {v : Value} (h : Rises es (x :: l)) : Rises (es ++ [⟨x.1, .int x.1 t, v⟩]) l := by
 refine ⟨?_, fun y hy => h.2 y (List.mem_cons_of_mem _ hy)⟩
 simpa [Rises] using h.1

theorem mod_last (L : List Obj) (o : Obj) (f : Obj → Obj) : (L ++ [o]).modify L.length f = L ++ [f o] := by
 apply List.ext_getElem?
 intro j
 rw [List.getElem?_modify]
 by_cases h : L.length = j
 ·subst h; simp
 ·simp only [if_neg h]
  by_cases q : j < L.length
  ·rw [List.getElem?_append_left q, List.getElem?_append_left q]; simp
  ·rw [List.getElem?_append_right (by omega), List.getElem?_append_right (by omega)]
   have : ∃ m, j - L.length = m + 1 := ⟨j - L.length - 1, by omega⟩
   obtain ⟨m, hm⟩ := this
   rw [hm]; simp

theorem dobj_push (es : List DictEntry) (n : Nat) (x : DictEntry) : Obj.mapDictKeys (·.push x) (dobj es n) = dobj (es ++ [x]) (n + 1) := by
 simp [Obj.mapDictKeys]
abbrev dob (es : List DictEntry) : Obj := dobj es es.length
theorem dob_push (es : List DictEntry) (x : DictEntry) : Obj.mapDictKeys (·.push x) (dob es) = dob (es ++ [x]) := by
 simp [Obj.mapDictKeys]

theorem tr_setLast {h : Heap} {L : List Obj} {es : List DictEntry} {g : Array GenState} {d : Drawn} {os : OsState} {T k : Nat} {t : Tok} {v : Value} {pos : Pos} (hn₀ : Z.n₀ ≤ h.objs.size) (hz : es.length ≤ 100000) (hk : k < 2 ^ 61 - 1) (hn : ∀ e ∈ es, e.hash ≠ k) :
  Tr Z 10 (dictSet (h.objs.size + L.length) (.int k t) v) ⟨ext h (L ++ [dob es]), g, d, T, os⟩ pos () ⟨ext h (L ++ [dob (es ++ [⟨k, .int k t, v⟩])]), g, d, T + 1, os⟩ pos := by
 have e : (ext h (L ++ [dob es])).get? (h.objs.size + L.length) = some (dob es) := ext_get h (by simp) rfl
 have z := tr_dictSet (Z := Z) (s := ⟨ext h (L ++ [dob es]), g, d, T, os⟩) (pos := pos) (t := t) (v := v) e (by omega) hz hk hn
 rw [ext_update, mod_last, dob_push] at z
 exact z

theorem tr_forSet {h : Heap} {L : List Obj} {g : Array GenState} {d : Drawn} {os : OsState} (hn₀ : Z.n₀ ≤ h.objs.size) : ∀ (l : List (Nat × Str)) (es : List DictEntry) (T : Nat), Rises es l → es.length + l.length ≤ 100000 →
  Tr Z (13 * l.length) (forIn (l.map (cpair P)) PUnit.unit fun x _ => do
    let kv ← x.1
    let vv ← holding [kv] x.2
    holding [kv, vv] (dictSet (h.objs.size + L.length) kv vv)
    pure (ForInStep.yield PUnit.unit)) ⟨ext h (L ++ [dob es]), g, d, T, os⟩ P PUnit.unit ⟨ext h (L ++ [dob (es ++ entsL T l)]), g, d, T + 3 * l.length, os⟩ P
 | [], es, T, _, _ => by
  simp only [List.map_nil, List.forIn_nil, entsL, List.append_nil, List.length_nil, Nat.mul_zero, Nat.add_zero]
  exact .pure
 | (k, x) :: l, es, T, hr, hz => by
  rw [List.map_cons, List.forIn_cons]
  simp only [List.length_cons] at hz ⊢
  rw [show 13 * (l.length + 1) = 13 + 13 * l.length by omega]
  refine Tr.bind (n₁ := 13) (a := ForInStep.yield PUnit.unit) (pos₁ := P) (s₁ := ⟨ext h (L ++ [dob (es ++ [⟨k, .int k T, .str x (T + 1)⟩])]), g, d, T + 3, os⟩) ?_ ?_
  ·refine Tr.bind (n₁ := 1) (n₂ := 12) tr_mkInt ?_
   refine Tr.bind (n₁ := 2) (n₂ := 10) (Tr.holding tr_val) ?_
   exact Tr.bind (n₁ := 10) (n₂ := 0) (Tr.holding (tr_setLast hn₀ (by omega) (hr.2 (k, x) (by simp)) hr.head)) .pure
  ·dsimp only
   have := tr_forSet (L := L) (g := g) (d := d) (os := os) hn₀ l (es ++ [⟨k, .int k T, .str x (T + 1)⟩]) (T + 3) hr.push (by simp; omega)
   rw [List.append_assoc, show T + 3 + 3 * l.length = T + 3 * (l.length + 1) by omega] at this
   exact this

theorem tr_pairs {h : Heap} {g : Array GenState} {d : Drawn} {os : OsState} : ∀ (l : List (Nat × Str)) (T : Nat),
  Tr Z (3 * l.length) (evalPairs (l.map (cpair P))) ⟨h, g, d, T, os⟩ P ((entsS T l).map fun e => (e.key, e.val)) ⟨h, g, d, T + 2 * l.length, os⟩ P
 | [], T => by
  simp only [List.map_nil, evalPairs, entsS, List.length_nil, Nat.mul_zero, Nat.add_zero]
  exact .pure
 | (k, x) :: l, T => by
  simp only [List.map_cons, evalPairs, List.length_cons, entsS]
  rw [show 3 * (l.length + 1) = 1 + (2 + (3 * l.length + 0)) by omega]
  refine Tr.bind (n₁ := 1) tr_mkInt ?_
  refine Tr.bind (n₁ := 2) (Tr.holding tr_val) ?_
  have := tr_pairs (h := h) (g := g) (d := d) (os := os) l (T + 2)
  rw [show T + 2 + 2 * l.length = T + 2 * (l.length + 1) by omega] at this
  exact Tr.bind (Tr.holding this) .pure

theorem tr_forSetS {h : Heap} {L : List Obj} {g : Array GenState} {d : Drawn} {os : OsState} (hn₀ : Z.n₀ ≤ h.objs.size) : ∀ (l : List (Nat × Str)) (es : List DictEntry) (T U : Nat), Rises es l → es.length + l.length ≤ 100000 →
  Tr Z (10 * l.length) (forIn ((entsS U l).map fun e => (e.key, e.val)) PUnit.unit fun x _ => do
    dictSet (h.objs.size + L.length) x.1 x.2
    pure (ForInStep.yield PUnit.unit)) ⟨ext h (L ++ [dob es]), g, d, T, os⟩ P PUnit.unit ⟨ext h (L ++ [dob (es ++ entsS U l)]), g, d, T + l.length, os⟩ P
 | [], es, T, U, _, _ => by
  simp only [entsS, List.map_nil, List.forIn_nil, List.append_nil, List.length_nil, Nat.mul_zero, Nat.add_zero]
  exact .pure
 | (k, x) :: l, es, T, U, hr, hz => by
  simp only [entsS, List.map_cons, List.forIn_cons]
  simp only [List.length_cons] at hz ⊢
  rw [show 10 * (l.length + 1) = 10 + 10 * l.length by omega]
  refine Tr.bind (n₁ := 10) (a := ForInStep.yield PUnit.unit) (pos₁ := P) (s₁ := ⟨ext h (L ++ [dob (es ++ [⟨k, .int k U, .str x (U + 1)⟩])]), g, d, T + 1, os⟩) ?_ ?_
  ·exact Tr.bind (n₁ := 10) (n₂ := 0) (tr_setLast hn₀ (by omega) (hr.2 (k, x) (by simp)) hr.head) .pure
  ·dsimp only
   have := tr_forSetS (L := L) (g := g) (d := d) (os := os) hn₀ l (es ++ [⟨k, .int k U, .str x (U + 1)⟩]) (T + 1) (U + 2) hr.push (by simp; omega)
   rw [List.append_assoc, show T + 1 + l.length = T + (l.length + 1) by omega] at this
   exact this

/-- the entries of a display's part -/
def subE (T : Nat) (l : List (Nat × Str)) : List DictEntry := if l.length ≤ 15 then entsS T l else entsL T l
theorem subE_length (T : Nat) (l : List (Nat × Str)) : (subE T l).length = l.length := by
 unfold subE; split
 ·exact entsS_length ..
 ·exact entsL_length ..
theorem subE_hash (T : Nat) (l : List (Nat × Str)) : (subE T l).map (·.hash) = l.map fun x => (x.1 : Int) := by
 unfold subE; split
 ·exact entsS_hash ..
 ·exact entsL_hash ..

theorem tr_subDict {h : Heap} {L : List Obj} {g : Array GenState} {d : Drawn} {os : OsState} (hn₀ : Z.n₀ ≤ h.objs.size) (l : List (Nat × Str)) (T : Nat) (hr : Rises [] l) (hz : l.length ≤ 1000) :
  Tr Z (13 * l.length + 2) (subDict (l.map (cpair P))) ⟨ext h L, g, d, T, os⟩ P (h.objs.size + L.length) ⟨ext h (L ++ [dob (subE T l)]), g, d, T + 3 * l.length, os⟩ P := by
 unfold subDict
 rw [show 13 * l.length + 2 = 1 + (13 * l.length + 1) by omega]
 have hal : Tr Z 1 (alloc { cls := .type "dict", data := .dict #[] }) ⟨ext h L, g, d, T, os⟩ P (h.objs.size + L.length) ⟨ext h (L ++ [dob []]), g, d, T, os⟩ P := by
  have := Tr.alloc (Z := Z) (o := { cls := .type "dict", data := .dict #[] }) (s := ⟨ext h L, g, d, T, os⟩) (pos := P)
  rw [ext_push, ext_size] at this
  exact this
 refine Tr.bind (n₁ := 1) hal ?_
 refine Tr.bind (n₁ := 13 * l.length + 1) (n₂ := 0) (a := ()) (Tr.holding ?_) .pure
 rw [List.length_map]
 unfold subE
 by_cases q : l.length ≤ 15
 ·rw [if_pos q, if_pos q]
  refine (Tr.bind (n₁ := 3 * l.length) (n₂ := 10 * l.length) (tr_pairs l T) ?_).mono (by omega)
  refine Tr.holding ?_
  have z := tr_forSetS (P := P) (L := L) (g := g) (d := d) (os := os) hn₀ l [] (T + 2 * l.length) T hr (by simp; omega)
  rw [show T + 2 * l.length + l.length = T + 3 * l.length by omega, List.nil_append] at z
  exact Tr.bind (n₁ := 10 * l.length) (n₂ := 0) z .pure
 ·rw [if_neg q, if_neg q]
  refine (Tr.bind (n₁ := 1) (n₂ := 13 * l.length) .rule ?_).mono (by omega)
  have z := tr_forSet (P := P) (L := L) (g := g) (d := d) (os := os) hn₀ l [] T hr (by simp; omega)
  rw [List.nil_append] at z
  exact Tr.bind (n₁ := 13 * l.length) (n₂ := 0) z .pure
end

section
variable {Z : Site} {P : Pos}

theorem sub_dict : isSubtype (.type "dict") (.type "dict") = pure true := by rw [isSubtype_type]; kernel_rfl
theorem iter_dict : typeLookup (.type "dict") "__iter__" = pure (some (.builtin "dict.__iter__")) := by rw [typeLookup_type, builtinLookup_eq_fast]; kernel_rfl

def KeyedInt (S : List DictEntry) : Prop := ∀ e ∈ S, ∃ t, e.key = .int e.hash t

theorem tr_forMerge {h : Heap} {M : List Obj} {S : List DictEntry} {g : Array GenState} {d : Drawn} {os : OsState} {T : Nat} {pos : Pos} (hn₀ : Z.n₀ ≤ h.objs.size) (hS : KeyedInt S) :
  ∀ (m i : Nat) (E : List DictEntry), S.length = i + m → (((E.map (·.hash)) ++ (S.drop i).map (·.hash)).Pairwise (· < ·)) → E.length + m ≤ 100000 →
  Tr Z (6 * m) (forIn (List.range' i m) PUnit.unit fun i _ => do
    let x ← dictEntries (h.objs.size + (M.length + 1))
    match x[i]? with
    | some e => do
     holding [e.key, e.val] (dictPut (h.objs.size + 0) e.hash e.key e.val)
     let y ← dictEpoch (h.objs.size + (M.length + 1))
     if (y != S.length) = true then do
      let _ ← (unsupported "dict.changed-during-merge" : Sem PUnit)
      pure (ForInStep.yield PUnit.unit)
     else pure (ForInStep.yield PUnit.unit)
    | _ => do
     let _ ← (unsupported "dict.changed-during-merge" : Sem PUnit)
     pure (ForInStep.yield PUnit.unit)) ⟨ext h (dob E :: M ++ [dob S]), g, d, T, os⟩ pos PUnit.unit ⟨ext h (dob (E ++ S.drop i) :: M ++ [dob S]), g, d, T, os⟩ pos
 | 0, i, E, hl, _, _ => by
  simp only [List.range'_zero, List.forIn_nil, Nat.mul_zero]
  rw [List.drop_of_length_le (by omega), List.append_nil]
  exact .pure
 | m + 1, i, E, hl, hr, hz => by
  rw [List.range'_succ, List.forIn_cons]
  have hi : i < S.length := by omega
  have hd : S.drop i = S[i] :: S.drop (i + 1) := List.drop_eq_getElem_cons hi
  obtain ⟨t, ht⟩ := hS S[i] (List.getElem_mem hi)
  have gS : ∀ E, (ext h (dob E :: M ++ [dob S])).get? (h.objs.size + (M.length + 1)) = some (dob S) := fun E => ext_get h (by simp) rfl
  have gE : (ext h (dob E :: M ++ [dob S])).get? (h.objs.size + 0) = some (dob E) := ext_get h (by simp) rfl
  rw [show 6 * (m + 1) = 6 + 6 * m by omega]
  refine Tr.bind (n₁ := 6) (a := ForInStep.yield PUnit.unit) (pos₁ := pos) (s₁ := ⟨ext h (dob (E ++ [S[i]]) :: M ++ [dob S]), g, d, T, os⟩) ?_ ?_
  ·refine Tr.bind (n₁ := 1) (n₂ := 5) (a := S.toArray) (Tr.bind (n₁ := 1) (n₂ := 0) (Tr.loadPart (s := ⟨ext h (dob E :: M ++ [dob S]), g, d, T, os⟩) (gS E)) .pure) ?_
   have hx : S.toArray[i]? = some S[i] := by simp [hi]
   rw [hx]
   dsimp only
   refine Tr.bind (n₁ := 4) (n₂ := 1) (a := ()) (s₁ := ⟨ext h (dob (E ++ [S[i]]) :: M ++ [dob S]), g, d, T, os⟩) (pos₁ := pos) (Tr.holding ?_) ?_
   ·have hk : ∀ e ∈ E, e.hash ≠ S[i].hash := fun e he => by
     have := (List.pairwise_append.mp hr).2.2 e.hash (List.mem_map_of_mem he) S[i].hash (by rw [hd, List.map_cons]; exact List.mem_cons_self)
     omega
    have z := tr_dictPut (Z := Z) (s := ⟨ext h (dob E :: M ++ [dob S]), g, d, T, os⟩) (pos := pos) (t := t) (v := S[i].val) gE (by omega) (by omega) hk
    rw [ext_update] at z
    have hm : (dob E :: M ++ [dob S]).modify 0 (Obj.mapDictKeys (·.push ⟨S[i].hash, .int S[i].hash t, S[i].val⟩)) = dob (E ++ [S[i]]) :: M ++ [dob S] := by
     rw [List.cons_append, List.modify_zero_cons, dob_push, List.cons_append]
     congr 3
     rw [← ht]
    rw [hm, ← ht] at z
    exact z
   ·refine Tr.bind (n₁ := 1) (n₂ := 0) (a := S.length) (Tr.bind (n₁ := 1) (n₂ := 0) (Tr.loadPart (s := ⟨ext h (dob (E ++ [S[i]]) :: M ++ [dob S]), g, d, T, os⟩) (gS _)) .pure) ?_
    rw [if_neg (by simp)]
    exact .pure
  ·dsimp only
   have := tr_forMerge (g := g) (d := d) (T := T) (os := os) (pos := pos) (M := M) hn₀ hS m (i + 1) (E ++ [S[i]]) (by omega) (by rw [hd, List.map_cons] at hr; rw [List.map_append, List.append_assoc]; exact hr) (by simp; omega)
   rw [List.append_assoc, List.singleton_append, ← hd] at this
   exact this

theorem tr_merge {h : Heap} {M : List Obj} {E S : List DictEntry} {g : Array GenState} {d : Drawn} {os : OsState} {T : Nat} {pos : Pos} (hn₀ : Z.n₀ ≤ h.objs.size) (hS : KeyedInt S) (hne : E ≠ []) (hsys : (h.objs.size + (M.length + 1) == sysModules) = false)
  (hr : ((E.map (·.hash)) ++ S.map (·.hash)).Pairwise (· < ·)) (hz : E.length + S.length ≤ 100000) :
  Tr Z (6 * S.length + 5) (mergeMapping (h.objs.size + 0) (.ref (h.objs.size + (M.length + 1))) false) ⟨ext h (dob E :: M ++ [dob S]), g, d, T, os⟩ pos () ⟨ext h (dob (E ++ S) :: M ++ [dob S]), g, d, T, os⟩ pos := by
 have gS : ∀ E, (ext h (dob E :: M ++ [dob S])).get? (h.objs.size + (M.length + 1)) = some (dob S) := fun E => ext_get h (by simp) rfl
 have gE : (ext h (dob E :: M ++ [dob S])).get? (h.objs.size + 0) = some (dob E) := ext_get h (by simp) rfl
 unfold mergeMapping
 have hty : Tr Z 1 (typeOf (.ref (h.objs.size + (M.length + 1)))) ⟨ext h (dob E :: M ++ [dob S]), g, d, T, os⟩ pos (.type "dict") ⟨ext h (dob E :: M ++ [dob S]), g, d, T, os⟩ pos := by
  show Tr Z 1 (do return (← loadPart _ _).cls) _ _ _ _ _
  exact Tr.bind (n₁ := 1) (n₂ := 0) (Tr.loadPart (gS E)) .pure
 have hin : Tr Z 1 (isInstance (.ref (h.objs.size + (M.length + 1))) (.type "dict")) ⟨ext h (dob E :: M ++ [dob S]), g, d, T, os⟩ pos true ⟨ext h (dob E :: M ++ [dob S]), g, d, T, os⟩ pos := by
  unfold isInstance
  exact Tr.bind (n₁ := 1) (n₂ := 0) hty (by rw [sub_dict]; exact .pure)
 have hsp : Tr Z 1 (specialOf (.ref (h.objs.size + (M.length + 1))) "__iter__") ⟨ext h (dob E :: M ++ [dob S]), g, d, T, os⟩ pos (some (.builtin "dict.__iter__")) ⟨ext h (dob E :: M ++ [dob S]), g, d, T, os⟩ pos := by
  unfold specialOf
  exact Tr.bind (n₁ := 1) (n₂ := 0) hty (by rw [iter_dict]; exact .pure)
 rw [show 6 * S.length + 5 = 1 + (1 + (1 + (1 + (1 + 6 * S.length)))) by omega]
 refine Tr.bind (n₁ := 1) hin ?_
 try dsimp only
 rw [if_pos rfl]
 refine Tr.bind (n₁ := 1) hsp ?_
 rw [beq_self_eq_true, pure_bind]
 try dsimp only
 rw [hsys, if_neg Bool.false_ne_true]
 refine Tr.bind (n₁ := 1) (a := E.toArray) (Tr.bind (n₁ := 1) (n₂ := 0) (Tr.loadPart (s := ⟨ext h (dob E :: M ++ [dob S]), g, d, T, os⟩) gE) .pure) ?_
 try dsimp only
 rw [if_neg (by simpa using hne)]
 refine Tr.bind (n₁ := 1) (a := S.toArray) (Tr.bind (n₁ := 1) (n₂ := 0) (Tr.loadPart (s := ⟨ext h (dob E :: M ++ [dob S]), g, d, T, os⟩) (gS E)) .pure) ?_
 try dsimp only
 refine Tr.bind (n₁ := 1) (a := S.length) (Tr.bind (n₁ := 1) (n₂ := 0) (Tr.loadPart (s := ⟨ext h (dob E :: M ++ [dob S]), g, d, T, os⟩) (gS E)) .pure) ?_
 have z := tr_forMerge (Z := Z) (g := g) (d := d) (T := T) (os := os) (pos := pos) (M := M) hn₀ hS S.length 0 E (by omega) (by simpa using hr) (by omega)
 rw [List.drop_zero] at z
 rw [List.size_toArray, List.range_eq_range']
 exact Tr.bind (n₁ := 6 * S.length) (n₂ := 0) z .pure
end

theorem subE_keyed (T : Nat) (l : List (Nat × Str)) : KeyedInt (subE T l) := by
 have hL : ∀ (l : List (Nat × Str)) (T : Nat), KeyedInt (entsL T l) := by
  intro l
  induction l with
  | nil => intro T e he; cases he
  | cons x l ih =>
   obtain ⟨k, y⟩ := x
   intro T e he
   rcases List.mem_cons.mp he with rfl | he
   ·exact ⟨T, rfl⟩
   ·exact ih _ e he
 have hS : ∀ (l : List (Nat × Str)) (T : Nat), KeyedInt (entsS T l) := by
  intro l
  induction l with
  | nil => intro T e he; cases he
  | cons x l ih =>
   obtain ⟨k, y⟩ := x
   intro T e he
   rcases List.mem_cons.mp he with rfl | he
   ·exact ⟨T, rfl⟩
   ·exact ih _ e he
 unfold subE
 split
 ·exact hS _ _
 ·exact hL _ _

/-- the dicts that a display has made so far, its first the whole -/
def flush1 (objs : List (List DictEntry)) (r : List (Nat × Str)) (T : Nat) : List (List DictEntry) := match objs with
 | [] => [subE T r]
 | E :: M => (E ++ subE T r) :: M ++ [subE T r]
def mainOf (h : Heap) (objs : List (List DictEntry)) : Option Addr := match objs with
 | [] => none
 | _ :: _ => some (h.objs.size + 0)
structure Good (objs : List (List DictEntry)) (run l : List (Nat × Str)) : Prop where
 rises : Rises (objs.headD []) (run ++ l)
 ne : objs ≠ [] → objs.headD [] ≠ []
 size : (objs.headD []).length + run.length + l.length ≤ 1000

theorem Rises.append {es : List DictEntry} {r l : List (Nat × Str)} {S : List DictEntry} (h : Rises es (r ++ l)) (hS : S.map (·.hash) = r.map fun x => (x.1 : Int)) : Rises (es ++ S) l := by
 refine ⟨?_, fun x hx => h.2 x (by simp [hx])⟩
 have := h.1
 rw [List.map_append, ← List.append_assoc] at this
 rw [List.map_append, hS]
 exact this
theorem Rises.left {es : List DictEntry} {r l : List (Nat × Str)} (h : Rises es (r ++ l)) : Rises es r := by
 refine ⟨?_, fun x hx => h.2 x (by simp [hx])⟩
 have := h.1
 rw [List.map_append, ← List.append_assoc] at this
 exact (List.pairwise_append.mp this).1
theorem Rises.alone {es : List DictEntry} {r : List (Nat × Str)} (h : Rises es r) : Rises [] r :=
 ⟨by simpa using (List.pairwise_append.mp h.1).2.1, h.2⟩

section
variable {Z : Site} {P : Pos} {h : Heap} {g : Array GenState} {d : Drawn} {os : OsState}

/-- the state with these dicts made -/
def dst (h : Heap) (g : Array GenState) (d : Drawn) (os : OsState) (objs : List (List DictEntry)) (T : Nat) : Shared := ⟨ext h (objs.map dob), g, d, T, os⟩

theorem tr_flush {objs : List (List DictEntry)} {r l : List (Nat × Str)} {T : Nat} (hn₀ : Z.n₀ ≤ h.objs.size) (hs : 1 < h.objs.size) (G : Good objs r l) (hr : r ≠ []) :
  Tr Z (19 * r.length + 7) (match mainOf h objs with
   | none => do return some (← subDict (r.map (cpair P)))
   | some d => do
    let sub ← holding [.ref d] (subDict (r.map (cpair P)))
    (holding [.ref d, .ref sub] (mergeMapping d (.ref sub) false)).onRaise fun x => do let _ ← holding [.ref d, x] (runValue (.builtin "proto.let_go" {}))
    return some d) (dst h g d os objs T) P (mainOf h (flush1 objs r T)) (dst h g d os (flush1 objs r T) (T + 3 * r.length)) P := by
 have hsz := G.size
 cases objs with
 | nil =>
  have z := tr_subDict (Z := Z) (P := P) (h := h) (L := []) (g := g) (d := d) (os := os) hn₀ r T G.rises.left.alone (by simp at hsz; omega)
  exact Tr.mono (n := 13 * r.length + 2 + 0) (Tr.bind z .pure) (by omega)
 | cons E M =>
  have z := tr_subDict (Z := Z) (P := P) (h := h) (L := (E :: M).map dob) (g := g) (d := d) (os := os) hn₀ r T G.rises.left.alone (by simp at hsz; omega)
  have hp := G.rises.left.1
  simp only [List.headD_cons] at hp
  have y := tr_merge (Z := Z) (h := h) (M := M.map dob) (E := E) (S := subE T r) (g := g) (d := d) (os := os) (T := T + 3 * r.length) (pos := P) hn₀ (subE_keyed _ _) (by simpa using G.ne (by simp))
   (by rw [beq_eq_false_iff_ne]; intro q; have q' : h.objs.size + (M.map dob).length + 1 = 1 := q; omega) (by rw [subE_hash]; exact hp) (by rw [subE_length]; simp at hsz; omega)
  rw [subE_length] at y
  have e1 : ((E :: M).map dob).length = (M.map dob).length + 1 := by simp
  rw [e1] at z
  have e2 : dst h g d os (flush1 (E :: M) r T) (T + 3 * r.length) = ⟨ext h (dob (E ++ subE T r) :: (M.map dob) ++ [dob (subE T r)]), g, d, T + 3 * r.length, os⟩ := by
   simp [dst, flush1]
  rw [e2]
  refine (Tr.bind (n₁ := 13 * r.length + 2) (n₂ := 6 * r.length + 5) (Tr.holding z) ?_).mono (by omega)
  exact Tr.bind (n₁ := 6 * r.length + 5) (n₂ := 0) (Tr.onRaise (Tr.holding y)) .pure

theorem Good.flushed {objs : List (List DictEntry)} {r l : List (Nat × Str)} {T : Nat} (G : Good objs r l) (hr : r ≠ []) : Good (flush1 objs r T) [] l := by
 have hl := subE_length T r
 have hsz := G.size
 have hrl : 0 < r.length := List.length_pos_iff.mpr hr
 have e : (flush1 objs r T).headD [] = objs.headD [] ++ subE T r := by
  cases objs with
  | nil => simp [flush1]
  | cons E M => simp [flush1]
 refine ⟨?_, fun _ => ?_, ?_⟩
 ·rw [e, List.nil_append]; exact G.rises.append (subE_hash T r)
 ·rw [e]; intro q; have := congrArg List.length q; simp at this; have h2 := this.2; rw [h2] at hl; simp at hl; omega
 ·rw [e]; simp only [List.length_append, hl, List.length_nil]; omega

def item (P : Pos) (x : Nat × Str) : Option (Sem Value) × Sem Value := (some (cpair P x).1, (cpair P x).2)

def sim : List (Nat × Str) → List (Nat × Str) → List (List DictEntry) → Nat → List (List DictEntry) × List (Nat × Str) × Nat
 | [], run, objs, T => (objs, run, T)
 | x :: l, run, objs, T => if ((run ++ [x]).length == 17) = true then sim l [] (flush1 objs (run ++ [x]) T) (T + 3 * (run ++ [x]).length) else sim l (run ++ [x]) objs T

theorem sim_good : ∀ (l run : List (Nat × Str)) (objs : List (List DictEntry)) (T : Nat), Good objs run l → run.length < 17 → Good (sim l run objs T).1 (sim l run objs T).2.1 [] ∧ (sim l run objs T).2.1.length < 17
 | [], run, objs, T, G, hr => ⟨G, hr⟩
 | x :: l, run, objs, T, G, hr => by
  have G' : Good objs (run ++ [x]) l := ⟨by have := G.rises; rw [List.append_assoc]; exact this, G.ne, by have := G.size; simp at this ⊢; omega⟩
  unfold sim
  split
  ·exact sim_good l [] _ _ (G'.flushed (by simp)) (by simp)
  ·rename_i q
   refine sim_good l _ _ _ G' ?_
   have : ¬ (run ++ [x]).length = 17 := by simpa using q
   simp at this ⊢; omega

/-- the display's own flush -/
def flushM (run : List (Sem Value × Sem Value)) (main : Option Addr) : Sem (Option Addr) :=
 if run.isEmpty = true then pure main
 else
  match main with
  | none => do
   let x ← subDict run
   pure (some x)
  | some d => do
   let sub ← holding [Value.ref d] (subDict run)
   (holding [Value.ref d, Value.ref sub] (mergeMapping d (Value.ref sub) false)).onRaise fun x => do
     let _ ← holding [Value.ref d, x] (runValue (Code.builtin "proto.let_go" { }))
     pure ()
   pure (some d)

theorem tr_flushM {objs : List (List DictEntry)} {r l : List (Nat × Str)} {T : Nat} (hn₀ : Z.n₀ ≤ h.objs.size) (hs : 1 < h.objs.size) (G : Good objs r l) (hr : r ≠ []) :
  Tr Z (19 * r.length + 7) (flushM (r.map (cpair P)) (mainOf h objs)) (dst h g d os objs T) P (mainOf h (flush1 objs r T)) (dst h g d os (flush1 objs r T) (T + 3 * r.length)) P := by
 have z := tr_flush (P := P) (g := g) (d := d) (os := os) (T := T) hn₀ hs G hr
 unfold flushM
 rw [if_neg (by simpa using hr)]
 exact z

theorem tr_forItems {f : Option (Sem Value) × Sem Value → Option Addr × List (Sem Value × Sem Value) → Sem (ForInStep (Option Addr × List (Sem Value × Sem Value)))}
  (hf : ∀ x m r, f (item P x) (m, r) = if ((r ++ [cpair P x]).length == 17) = true then (do let m ← flushM (r ++ [cpair P x]) m; pure (ForInStep.yield (m, []))) else pure (ForInStep.yield (m, r ++ [cpair P x])))
  (hn₀ : Z.n₀ ≤ h.objs.size) (hs : 1 < h.objs.size) : ∀ (l run : List (Nat × Str)) (objs : List (List DictEntry)) (T : Nat), Good objs run l → run.length < 17 →
  Tr Z (330 * l.length) (forIn (l.map (item P)) (mainOf h objs, run.map (cpair P)) f) (dst h g d os objs T) P (mainOf h (sim l run objs T).1, (sim l run objs T).2.1.map (cpair P))
   (dst h g d os (sim l run objs T).1 (sim l run objs T).2.2) P
 | [], run, objs, T, _, _ => by
  simp only [List.map_nil, List.forIn_nil, sim, List.length_nil, Nat.mul_zero]
  exact .pure
 | x :: l, run, objs, T, G, hr => by
  have G' : Good objs (run ++ [x]) l := ⟨by have := G.rises; rw [List.append_assoc]; exact this, G.ne, by have := G.size; simp at this ⊢; omega⟩
  rw [List.map_cons, List.forIn_cons, hf]
  have hl : (run.map (cpair P) ++ [cpair P x]) = (run ++ [x]).map (cpair P) := by simp
  rw [hl, List.length_map]
  unfold sim
  rw [List.length_cons, show 330 * (l.length + 1) = 330 + 330 * l.length by omega]
  by_cases q : ((run ++ [x]).length == 17) = true
  ·have q' : (run ++ [x]).length = 17 := by simpa using q
   rw [if_pos q, if_pos q]
   have z := tr_flushM (Z := Z) (P := P) (g := g) (d := d) (os := os) (T := T) hn₀ hs G' (by simp)
   rw [q'] at z ⊢
   refine Tr.bind (n₁ := 330) (a := ForInStep.yield (mainOf h (flush1 objs (run ++ [x]) T), [])) (Tr.bind (n₁ := 330) (n₂ := 0) z .pure) ?_
   exact tr_forItems hf hn₀ hs l [] _ _ (G'.flushed (by simp)) (by simp)
  ·rw [if_neg q, if_neg q]
   refine Tr.bind (n₁ := 330) (a := ForInStep.yield (mainOf h objs, (run ++ [x]).map (cpair P))) (Tr.mono (n := 0) .pure (by omega)) ?_
   have : ¬ (run ++ [x]).length = 17 := by simpa using q
   exact tr_forItems hf hn₀ hs l (run ++ [x]) objs T G' (by simp at this ⊢; omega)

theorem tr_display {l : List (Nat × Str)} {T : Nat} (hn₀ : Z.n₀ ≤ h.objs.size) (hs : 1 < h.objs.size) (G : Good [] [] l) (hne : (sim l [] [] T).2.1 ≠ []) :
  Tr Z (330 * l.length + 330) (dictDisplay (l.map (item P))) ⟨h, g, d, T, os⟩ P (.ref (h.objs.size + 0))
   (dst h g d os (flush1 (sim l [] [] T).1 (sim l [] [] T).2.1 (sim l [] [] T).2.2) ((sim l [] [] T).2.2 + 3 * (sim l [] [] T).2.1.length)) P := by
 have e0 : (⟨h, g, d, T, os⟩ : Shared) = dst h g d os [] T := by simp [dst, ext_nil]
 obtain ⟨G2, hl2⟩ := sim_good l [] [] T G (by simp)
 rw [e0]
 unfold dictDisplay
 refine Tr.bind (n₁ := 330 * l.length) (n₂ := 330) (tr_forItems (fun x m r => rfl) hn₀ hs l [] [] T G (by simp)) ?_
 dsimp only
 have z := tr_flushM (Z := Z) (P := P) (g := g) (d := d) (os := os) (T := (sim l [] [] T).2.2) hn₀ hs G2 hne
 refine (Tr.bind (n₁ := 19 * (sim l [] [] T).2.1.length + 7) (n₂ := 0) z ?_).mono (by omega)
 have : mainOf h (flush1 (sim l [] [] T).1 (sim l [] [] T).2.1 (sim l [] [] T).2.2) = some (h.objs.size + 0) := by
  cases (sim l [] [] T).1 <;> rfl
 rw [this]
 exact .pure
end

/-! the text's statements, by their place -/
def st1 (i : Nat) : Stmt := (PySem.Challenge.pw_sl0031_01.main.body[i]?).getD default
def st2 (i j : Nat) : Stmt := match st1 i with
 | .ClassDef _ _ _ b _ _ _ _ _ _ _ => (b[j]?).getD default
 | _ => default
def stq (i n : Nat) : List Stmt := (PySem.Challenge.pw_sl0031_01.main.body.drop i).take n
def fnOfSt (s : Stmt) (qual : Str) (globals : Addr) (pm code : Value) (b : Addr) : FuncData := match s with
 | .FunctionDef n a body _ _ _ sc _ _ _ => { name := n, qualname := qual, params := a, body := .stmts body, scope := sc, globals := globals, closure := [], defaults := .none, kwdefaults := .none, pyModule := pm, code := code, builtins := b }
 | _ => default

/-! the long table -/
def pairsOf : List (Option Expr) → List Expr → List (Nat × Str)
 | some (.Constant (.int (.ofNat k)) _ _) :: ks, .Constant (.str x) _ _ :: vs => (k, x) :: pairsOf ks vs
 | _, _ => []
def pairsOk : List (Option Expr) → List Expr → Bool
 | some (.Constant (.int (.ofNat _)) _ _) :: ks, .Constant (.str _) _ _ :: vs => pairsOk ks vs
 | [], [] => true
 | _, _ => false
def b3ks : List (Option Expr) := match st1 9 with | .Assign _ (.Dict ks _ _) _ => ks | _ => []
def b3vs : List Expr := match st1 9 with | .Assign _ (.Dict _ vs _) _ => vs | _ => []
def b3P : Pos := match st1 9 with | .Assign _ (.Dict _ _ q) _ => q | _ => default
def b3p0 : Pos := match st1 9 with | .Assign _ _ q => q | _ => default
def b3p1 : Pos := match st1 9 with | .Assign [.Name _ q] _ _ => q | _ => default
def b3L : List (Nat × Str) := pairsOf b3ks b3vs
def b3Dicts : List (List DictEntry) := flush1 (sim b3L [] [] 381).1 (sim b3L [] [] 381).2.1 (sim b3L [] [] 381).2.2
def b3Obj (i : Nat) : Obj := dob ((b3Dicts[i]?).getD [])

abbrev en (P : Params) (k : Str) (t : Nat) (v : Value) : DictEntry := ⟨PyData.keyHash P k, .str k t, v⟩
abbrev lf (o : Obj) : BT := .node o .nil .nil
abbrev ot0 : Obj := ⟨(.type "tuple"), none, (.seq #[] 0), #[]⟩
abbrev of0 : Obj := ⟨.none, none, (.fields #[]), #[]⟩

def oA_11 (P : Params) : Obj := ot0
def oA_12 (P : Params) : Obj := of0
def oA_13 (P : Params) : Obj := ⟨(.type "code"), none, (.fields #[(.str "<module>" 182), (.str "<module>" 183), (.str "/claim/cut.py" 184), (.int 1 0), (.int 0 0), (.int 0 0), (.int 0 0), (.int 0 0), (.ref 11), (.bool false), (.int 181 0), (.ref 12), .none, .none, .none, .none, (.int 185 0), (.int 1 0), (.str "/claim/cut.py" 186)]), #[]⟩
def oA_14 (P : Params) : Obj := ⟨(.type "frame"), none, .plain, #[(some (.ref 13)), (some (.ref 3)), (some (.ref 3)), none, (some (.str "__main__" 164)), none, (some (.ref 0))]⟩
noncomputable def trA (P : Params) : BT := (.node (boot_o_0 P) (.node (boot_o_1 P) (.node (boot_o_3 P) (lf (boot_o_7 P)) (lf (oA_11 P))) (.node (boot_o_5 P) (lf (boot_o_9 P)) (lf (oA_13 P)))) (.node (boot_o_2 P) (.node (boot_o_4 P) (lf (boot_o_8 P)) (lf (oA_12 P))) (.node (boot_o_6 P) (lf (boot_o_10 P)) (lf (oA_14 P)))))
noncomputable def SA (w : World) (os : OsState) : SharedT := ⟨trA w.params, 15, {}, #[], {}, 187, os⟩
def posA : Pos := ⟨0, 0, 0, 0⟩
def posB : Pos := ⟨0, 0, 0, 0⟩
-- pre steps 12 block 0 ann (some (.ref 6)) frame 14 code (.ref 13) framePos ⟨0, 0, 0, 0⟩ fin 1
def o3_3 (P : Params) : Obj := ⟨(.type "dict"), none, (.dict (List.toArray [en P "__name__" 165 (.str "cpy313.tabnanny" 194), en P "__doc__" 166 .none, en P "__package__" 167 .none, en P "__loader__" 168 (.builtin "__main__.__loader__#opaque"), en P "__spec__" 169 .none, en P "__annotations__" 170 (.ref 6), en P "__builtins__" 171 (.ref 4), en P "__file__" 173 (.str "/claim/cut.py" 172), en P "__cached__" 174 .none, en P "_wall" 193 (.ref 21), en P "Whitespace" 287 (.ref 83)]) 11), #[]⟩
def o3_12 (P : Params) : Obj := ⟨.none, none, (.fields #[(.int 1 0), (.int 0 0), (.ref 20), (.int 5 0), (.int 0 0), (.ref 27)]), #[]⟩
def o3_15 (P : Params) : Obj := ot0
def o3_16 (P : Params) : Obj := of0
def o3_17 (P : Params) : Obj := ⟨(.type "tuple"), none, (.seq #[(.str "k" 190)] 0), #[]⟩
def o3_18 (P : Params) : Obj := ot0
def o3_19 (P : Params) : Obj := ⟨.none, none, (.func (fnOfSt (st1 0) "_wall" 0 .none .none 0)), #[]⟩
def o3_20 (P : Params) : Obj := ⟨(.type "code"), none, (.fields #[(.str "_wall" 187), (.str "_wall" 188), (.str "/claim/cut.py" 189), (.int 1 0), (.int 1 0), (.int 0 0), (.int 0 0), (.int 3 0), (.ref 15), (.bool true), (.int 181 0), (.ref 16), .none, (.ref 17), (.ref 18), (.ref 19), (.int 191 0), (.int 1 0), (.str "/claim/cut.py" 192)]), #[]⟩
def o3_21 (P : Params) : Obj := ⟨(.type "function"), none, (.func (fnOfSt (st1 0) "_wall" 3 (.str "__main__" 164) (.ref 20) 0)), #[]⟩
def o3_22 (P : Params) : Obj := ot0
def o3_23 (P : Params) : Obj := ⟨(.type "builtin_function_or_method"), none, (.fields #[(.builtin "type.__prepare__"), (.type "type")]), #[]⟩
def o3_24 (P : Params) : Obj := ⟨(.type "dict"), none, (.dict (List.toArray [en P "__module__" 203 (.str "cpy313.tabnanny" 194), en P "__qualname__" 205 (.str "Whitespace" 204), en P "__firstlineno__" 207 (.int 5 206), en P "S" 211 (.str " " 209), en P "T" 212 (.str "\t" 210), en P "__init__" 227 (.ref 38), en P "longest_run_of_spaces" 234 (.ref 45), en P "indent_level" 242 (.ref 52), en P "equal" 250 (.ref 59), en P "not_equal_witness" 258 (.ref 66), en P "less" 266 (.ref 73), en P "not_less_witness" 274 (.ref 80), en P "__static_attributes__" 280 (.ref 81)]) 13), #[]⟩
def o3_25 (P : Params) : Obj := ot0
def o3_26 (P : Params) : Obj := ⟨.none, none, (.fields #[(.int 8 0), (.int 4 0), (.ref 37), (.int 31 0), (.int 4 0), (.ref 44), (.int 34 0), (.int 4 0), (.ref 51), (.int 37 0), (.int 4 0), (.ref 58), (.int 40 0), (.int 4 0), (.ref 65), (.int 43 0), (.int 4 0), (.ref 72), (.int 46 0), (.int 4 0), (.ref 79)]), #[]⟩
def o3_27 (P : Params) : Obj := ⟨(.type "code"), none, (.fields #[(.str "Whitespace" 198), (.str "Whitespace" 199), (.str "/claim/cut.py" 200), (.int 5 0), (.int 0 0), (.int 0 0), (.int 0 0), (.int 0 0), (.ref 25), (.bool false), (.int 181 0), (.ref 26), .none, .none, .none, .none, (.int 201 0), (.int 5 0), (.str "/claim/cut.py" 202)]), #[]⟩
def o3_28 (P : Params) : Obj := ⟨(.type "frame"), none, .plain, #[(some (.ref 27)), (some (.ref 3)), (some (.ref 24)), none, (some (.str "cpy313.tabnanny" 194)), none, (some (.ref 0))]⟩
def o3_29 (P : Params) : Obj := ⟨(.type "str_ascii_iterator"), none, (.fields #[.none, (.int 2 0)]), #[]⟩
def o3_30 (P : Params) : Obj := ot0
def o3_31 (P : Params) : Obj := ⟨(.type "StopIteration"), none, (.fields #[(.ref 30), .none, .none, .none, (.bool false), .none]), #[]⟩
def o3_32 (P : Params) : Obj := ot0
def o3_33 (P : Params) : Obj := of0
def o3_34 (P : Params) : Obj := ⟨(.type "tuple"), none, (.seq #[(.str "self" 216), (.str "ws" 217), (.str "S" 218), (.str "T" 219), (.str "count" 220), (.str "b" 221), (.str "n" 222), (.str "nt" 223), (.str "ch" 224)] 0), #[]⟩
def o3_35 (P : Params) : Obj := ot0
def o3_36 (P : Params) : Obj := ⟨.none, none, (.func (fnOfSt (st2 2 1) "Whitespace.__init__" 0 .none .none 0)), #[]⟩
def o3_37 (P : Params) : Obj := ⟨(.type "code"), none, (.fields #[(.str "__init__" 213), (.str "Whitespace.__init__" 214), (.str "/claim/cut.py" 215), (.int 8 0), (.int 2 0), (.int 0 0), (.int 0 0), (.int 3 0), (.ref 32), (.bool true), (.int 181 0), (.ref 33), .none, (.ref 34), (.ref 35), (.ref 36), (.int 225 0), (.int 8 0), (.str "/claim/cut.py" 226)]), #[]⟩
def o3_38 (P : Params) : Obj := ⟨(.type "function"), none, (.func (fnOfSt (st2 2 1) "Whitespace.__init__" 3 (.str "cpy313.tabnanny" 194) (.ref 37) 0)), #[]⟩
def o3_39 (P : Params) : Obj := ot0
def o3_40 (P : Params) : Obj := of0
def o3_41 (P : Params) : Obj := ⟨(.type "tuple"), none, (.seq #[(.str "self" 231)] 0), #[]⟩
def o3_42 (P : Params) : Obj := ot0
def o3_43 (P : Params) : Obj := ⟨.none, none, (.func (fnOfSt (st2 2 2) "Whitespace.longest_run_of_spaces" 0 .none .none 0)), #[]⟩
def o3_44 (P : Params) : Obj := ⟨(.type "code"), none, (.fields #[(.str "longest_run_of_spaces" 228), (.str "Whitespace.longest_run_of_spaces" 229), (.str "/claim/cut.py" 230), (.int 31 0), (.int 1 0), (.int 0 0), (.int 0 0), (.int 3 0), (.ref 39), (.bool true), (.int 181 0), (.ref 40), .none, (.ref 41), (.ref 42), (.ref 43), (.int 232 0), (.int 31 0), (.str "/claim/cut.py" 233)]), #[]⟩
def o3_45 (P : Params) : Obj := ⟨(.type "function"), none, (.func (fnOfSt (st2 2 2) "Whitespace.longest_run_of_spaces" 3 (.str "cpy313.tabnanny" 194) (.ref 44) 0)), #[]⟩
def o3_46 (P : Params) : Obj := ot0
def o3_47 (P : Params) : Obj := of0
def o3_48 (P : Params) : Obj := ⟨(.type "tuple"), none, (.seq #[(.str "self" 238), (.str "tabsize" 239)] 0), #[]⟩
def o3_49 (P : Params) : Obj := ot0
def o3_50 (P : Params) : Obj := ⟨.none, none, (.func (fnOfSt (st2 2 3) "Whitespace.indent_level" 0 .none .none 0)), #[]⟩
def o3_51 (P : Params) : Obj := ⟨(.type "code"), none, (.fields #[(.str "indent_level" 235), (.str "Whitespace.indent_level" 236), (.str "/claim/cut.py" 237), (.int 34 0), (.int 2 0), (.int 0 0), (.int 0 0), (.int 3 0), (.ref 46), (.bool true), (.int 181 0), (.ref 47), .none, (.ref 48), (.ref 49), (.ref 50), (.int 240 0), (.int 34 0), (.str "/claim/cut.py" 241)]), #[]⟩
def o3_52 (P : Params) : Obj := ⟨(.type "function"), none, (.func (fnOfSt (st2 2 3) "Whitespace.indent_level" 3 (.str "cpy313.tabnanny" 194) (.ref 51) 0)), #[]⟩
def o3_53 (P : Params) : Obj := ot0
def o3_54 (P : Params) : Obj := of0
def o3_55 (P : Params) : Obj := ⟨(.type "tuple"), none, (.seq #[(.str "self" 246), (.str "other" 247)] 0), #[]⟩
def o3_56 (P : Params) : Obj := ot0
def o3_57 (P : Params) : Obj := ⟨.none, none, (.func (fnOfSt (st2 2 4) "Whitespace.equal" 0 .none .none 0)), #[]⟩
def o3_58 (P : Params) : Obj := ⟨(.type "code"), none, (.fields #[(.str "equal" 243), (.str "Whitespace.equal" 244), (.str "/claim/cut.py" 245), (.int 37 0), (.int 2 0), (.int 0 0), (.int 0 0), (.int 3 0), (.ref 53), (.bool true), (.int 181 0), (.ref 54), .none, (.ref 55), (.ref 56), (.ref 57), (.int 248 0), (.int 37 0), (.str "/claim/cut.py" 249)]), #[]⟩
def o3_59 (P : Params) : Obj := ⟨(.type "function"), none, (.func (fnOfSt (st2 2 4) "Whitespace.equal" 3 (.str "cpy313.tabnanny" 194) (.ref 58) 0)), #[]⟩
def o3_60 (P : Params) : Obj := ot0
def o3_61 (P : Params) : Obj := of0
def o3_62 (P : Params) : Obj := ⟨(.type "tuple"), none, (.seq #[(.str "self" 254), (.str "other" 255)] 0), #[]⟩
def o3_63 (P : Params) : Obj := ot0
def o3_64 (P : Params) : Obj := ⟨.none, none, (.func (fnOfSt (st2 2 5) "Whitespace.not_equal_witness" 0 .none .none 0)), #[]⟩
def o3_65 (P : Params) : Obj := ⟨(.type "code"), none, (.fields #[(.str "not_equal_witness" 251), (.str "Whitespace.not_equal_witness" 252), (.str "/claim/cut.py" 253), (.int 40 0), (.int 2 0), (.int 0 0), (.int 0 0), (.int 3 0), (.ref 60), (.bool true), (.int 181 0), (.ref 61), .none, (.ref 62), (.ref 63), (.ref 64), (.int 256 0), (.int 40 0), (.str "/claim/cut.py" 257)]), #[]⟩
def o3_66 (P : Params) : Obj := ⟨(.type "function"), none, (.func (fnOfSt (st2 2 5) "Whitespace.not_equal_witness" 3 (.str "cpy313.tabnanny" 194) (.ref 65) 0)), #[]⟩
def o3_67 (P : Params) : Obj := ot0
def o3_68 (P : Params) : Obj := of0
def o3_69 (P : Params) : Obj := ⟨(.type "tuple"), none, (.seq #[(.str "self" 262), (.str "other" 263)] 0), #[]⟩
def o3_70 (P : Params) : Obj := ot0
def o3_71 (P : Params) : Obj := ⟨.none, none, (.func (fnOfSt (st2 2 6) "Whitespace.less" 0 .none .none 0)), #[]⟩
def o3_72 (P : Params) : Obj := ⟨(.type "code"), none, (.fields #[(.str "less" 259), (.str "Whitespace.less" 260), (.str "/claim/cut.py" 261), (.int 43 0), (.int 2 0), (.int 0 0), (.int 0 0), (.int 3 0), (.ref 67), (.bool true), (.int 181 0), (.ref 68), .none, (.ref 69), (.ref 70), (.ref 71), (.int 264 0), (.int 43 0), (.str "/claim/cut.py" 265)]), #[]⟩
def o3_73 (P : Params) : Obj := ⟨(.type "function"), none, (.func (fnOfSt (st2 2 6) "Whitespace.less" 3 (.str "cpy313.tabnanny" 194) (.ref 72) 0)), #[]⟩
def o3_74 (P : Params) : Obj := ot0
def o3_75 (P : Params) : Obj := of0
def o3_76 (P : Params) : Obj := ⟨(.type "tuple"), none, (.seq #[(.str "self" 270), (.str "other" 271)] 0), #[]⟩
def o3_77 (P : Params) : Obj := ot0
def o3_78 (P : Params) : Obj := ⟨.none, none, (.func (fnOfSt (st2 2 7) "Whitespace.not_less_witness" 0 .none .none 0)), #[]⟩
def o3_79 (P : Params) : Obj := ⟨(.type "code"), none, (.fields #[(.str "not_less_witness" 267), (.str "Whitespace.not_less_witness" 268), (.str "/claim/cut.py" 269), (.int 46 0), (.int 2 0), (.int 0 0), (.int 0 0), (.int 3 0), (.ref 74), (.bool true), (.int 181 0), (.ref 75), .none, (.ref 76), (.ref 77), (.ref 78), (.int 272 0), (.int 46 0), (.str "/claim/cut.py" 273)]), #[]⟩
def o3_80 (P : Params) : Obj := ⟨(.type "function"), none, (.func (fnOfSt (st2 2 7) "Whitespace.not_less_witness" 3 (.str "cpy313.tabnanny" 194) (.ref 79) 0)), #[]⟩
def o3_81 (P : Params) : Obj := ⟨(.type "tuple"), none, (.seq #[(.str "is_simple" 275), (.str "n" 276), (.str "norm" 277), (.str "nt" 278), (.str "raw" 279)] 0), #[]⟩
def o3_82 (P : Params) : Obj := ⟨(.type "dict"), none, (.dict (List.toArray [en P "__module__" 203 (.str "cpy313.tabnanny" 194), en P "__firstlineno__" 207 (.int 5 206), en P "S" 211 (.str " " 209), en P "T" 212 (.str "\t" 210), en P "__init__" 227 (.ref 38), en P "longest_run_of_spaces" 234 (.ref 45), en P "indent_level" 242 (.ref 52), en P "equal" 250 (.ref 59), en P "not_equal_witness" 258 (.ref 66), en P "less" 266 (.ref 73), en P "not_less_witness" 274 (.ref 80), en P "__static_attributes__" 280 (.ref 81), en P "__dict__" 282 (.ref 84), en P "__weakref__" 284 (.ref 85), en P "__doc__" 285 .none]) 4), #[]⟩
def o3_83 (P : Params) : Obj := ⟨(.type "type"), none, (.cls { name := "Whitespace", bases := [(.type "object")], mro := [(.ref 83), (.type "object")], ns := 82, qualname := "Whitespace", hasDict := true, slotNames := [], subclasses := [], abstract := false, collection := none, hasDel := false }), #[none, none, (some (.str "Whitespace" 196)), (some (.str "Whitespace" 204)), (some (.builtin "object.__new__")), (some (.bool true))]⟩
def o3_84 (P : Params) : Obj := ⟨(.type "getset_descriptor"), none, (.fields #[(.str "__dict__" 281), (.ref 83), (.builtin "function.__dict__"), (.builtin "function.__dict__#set")]), #[]⟩
def o3_85 (P : Params) : Obj := ⟨(.type "getset_descriptor"), none, (.fields #[(.str "__weakref__" 283), (.ref 83), (.builtin "ExceptionGroup.__weakref__"), .none]), #[]⟩
def o3_86 (P : Params) : Obj := ⟨(.type "super"), none, (.fields #[(.ref 83), (.ref 83), (.ref 83)]), #[]⟩
def o3_87 (P : Params) : Obj := ⟨(.type "builtin_function_or_method"), none, (.fields #[(.builtin "object.__init_subclass__"), (.ref 83)]), #[]⟩
noncomputable def tr3 (P : Params) : BT := (.node (boot_o_0 P) (.node (boot_o_1 P) (.node (o3_3 P) (.node (boot_o_7 P) (.node (o3_15 P) (.node (o3_31 P) (lf (o3_63 P)) .nil) (.node (o3_47 P) (lf (o3_79 P)) .nil)) (.node (o3_23 P) (.node (o3_39 P) (lf (o3_71 P)) .nil) (.node (o3_55 P) (lf (o3_87 P)) .nil))) (.node (oA_11 P) (.node (o3_19 P) (.node (o3_35 P) (lf (o3_67 P)) .nil) (.node (o3_51 P) (lf (o3_83 P)) .nil)) (.node (o3_27 P) (.node (o3_43 P) (lf (o3_75 P)) .nil) (lf (o3_59 P))))) (.node (boot_o_5 P) (.node (boot_o_9 P) (.node (o3_17 P) (.node (o3_33 P) (lf (o3_65 P)) .nil) (.node (o3_49 P) (lf (o3_81 P)) .nil)) (.node (o3_25 P) (.node (o3_41 P) (lf (o3_73 P)) .nil) (lf (o3_57 P)))) (.node (oA_13 P) (.node (o3_21 P) (.node (o3_37 P) (lf (o3_69 P)) .nil) (.node (o3_53 P) (lf (o3_85 P)) .nil)) (.node (o3_29 P) (.node (o3_45 P) (lf (o3_77 P)) .nil) (lf (o3_61 P)))))) (.node (boot_o_2 P) (.node (boot_o_4 P) (.node (boot_o_8 P) (.node (o3_16 P) (.node (o3_32 P) (lf (o3_64 P)) .nil) (.node (o3_48 P) (lf (o3_80 P)) .nil)) (.node (o3_24 P) (.node (o3_40 P) (lf (o3_72 P)) .nil) (lf (o3_56 P)))) (.node (o3_12 P) (.node (o3_20 P) (.node (o3_36 P) (lf (o3_68 P)) .nil) (.node (o3_52 P) (lf (o3_84 P)) .nil)) (.node (o3_28 P) (.node (o3_44 P) (lf (o3_76 P)) .nil) (lf (o3_60 P))))) (.node (boot_o_6 P) (.node (boot_o_10 P) (.node (o3_18 P) (.node (o3_34 P) (lf (o3_66 P)) .nil) (.node (o3_50 P) (lf (o3_82 P)) .nil)) (.node (o3_26 P) (.node (o3_42 P) (lf (o3_74 P)) .nil) (lf (o3_58 P)))) (.node (oA_14 P) (.node (o3_22 P) (.node (o3_38 P) (lf (o3_70 P)) .nil) (.node (o3_54 P) (lf (o3_86 P)) .nil)) (.node (o3_30 P) (.node (o3_46 P) (lf (o3_78 P)) .nil) (lf (o3_62 P)))))))
noncomputable def S3 (w : World) (os : OsState) : SharedT := ⟨tr3 w.params, 88, {}, #[], {}, 288, os⟩
def pos3 : Pos := ⟨5, 0, 47, 16⟩
-- 0..3: steps 522 rows [special-get-raises]
def o7_3 (P : Params) : Obj := ⟨(.type "dict"), none, (.dict (List.toArray [en P "__name__" 165 (.str "cpy313.stringprep" 312), en P "__doc__" 166 .none, en P "__package__" 167 .none, en P "__loader__" 168 (.builtin "__main__.__loader__#opaque"), en P "__spec__" 169 .none, en P "__annotations__" 170 (.ref 6), en P "__builtins__" 171 (.ref 4), en P "__file__" 173 (.str "/claim/cut.py" 172), en P "__cached__" 174 .none, en P "_wall" 193 (.ref 21), en P "Whitespace" 287 (.ref 83), en P "_iter_escaped_chars" 299 (.ref 94), en P "_strip_quoted_realnames" 311 (.ref 101)]) 13), #[]⟩
def o7_12 (P : Params) : Obj := ⟨.none, none, (.fields #[(.int 1 0), (.int 0 0), (.ref 20), (.int 5 0), (.int 0 0), (.ref 27), (.int 49 0), (.int 0 0), (.ref 93), (.int 62 0), (.int 0 0), (.ref 100)]), #[]⟩
def o7_88 (P : Params) : Obj := ot0
def o7_89 (P : Params) : Obj := of0
def o7_90 (P : Params) : Obj := ⟨(.type "tuple"), none, (.seq #[(.str "addr" 293), (.str "pos" 294), (.str "escape" 295), (.str "ch" 296)] 0), #[]⟩
def o7_91 (P : Params) : Obj := ot0
def o7_92 (P : Params) : Obj := ⟨.none, none, (.func (fnOfSt (st1 4) "_iter_escaped_chars" 0 .none .none 0)), #[]⟩
def o7_93 (P : Params) : Obj := ⟨(.type "code"), none, (.fields #[(.str "_iter_escaped_chars" 290), (.str "_iter_escaped_chars" 291), (.str "/claim/cut.py" 292), (.int 49 0), (.int 1 0), (.int 0 0), (.int 0 0), (.int 35 0), (.ref 88), (.bool true), (.int 181 0), (.ref 89), .none, (.ref 90), (.ref 91), (.ref 92), (.int 297 0), (.int 49 0), (.str "/claim/cut.py" 298)]), #[]⟩
def o7_94 (P : Params) : Obj := ⟨(.type "function"), none, (.func (fnOfSt (st1 4) "_iter_escaped_chars" 3 (.str "cpy313.email.utils" 288) (.ref 93) 0)), #[]⟩
def o7_95 (P : Params) : Obj := ot0
def o7_96 (P : Params) : Obj := of0
def o7_97 (P : Params) : Obj := ⟨(.type "tuple"), none, (.seq #[(.str "addr" 303), (.str "start" 304), (.str "open_pos" 305), (.str "result" 306), (.str "pos" 307), (.str "ch" 308)] 0), #[]⟩
def o7_98 (P : Params) : Obj := ot0
def o7_99 (P : Params) : Obj := ⟨.none, none, (.func (fnOfSt (st1 5) "_strip_quoted_realnames" 0 .none .none 0)), #[]⟩
def o7_100 (P : Params) : Obj := ⟨(.type "code"), none, (.fields #[(.str "_strip_quoted_realnames" 300), (.str "_strip_quoted_realnames" 301), (.str "/claim/cut.py" 302), (.int 62 0), (.int 1 0), (.int 0 0), (.int 0 0), (.int 3 0), (.ref 95), (.bool true), (.int 181 0), (.ref 96), .none, (.ref 97), (.ref 98), (.ref 99), (.int 309 0), (.int 62 0), (.str "/claim/cut.py" 310)]), #[]⟩
def o7_101 (P : Params) : Obj := ⟨(.type "function"), none, (.func (fnOfSt (st1 5) "_strip_quoted_realnames" 3 (.str "cpy313.email.utils" 288) (.ref 100) 0)), #[]⟩
noncomputable def tr7 (P : Params) : BT := (.node (boot_o_0 P) (.node (boot_o_1 P) (.node (o7_3 P) (.node (boot_o_7 P) (.node (o3_15 P) (.node (o3_31 P) (lf (o3_63 P)) (lf (o7_95 P))) (.node (o3_47 P) (lf (o3_79 P)) .nil)) (.node (o3_23 P) (.node (o3_39 P) (lf (o3_71 P)) .nil) (.node (o3_55 P) (lf (o3_87 P)) .nil))) (.node (oA_11 P) (.node (o3_19 P) (.node (o3_35 P) (lf (o3_67 P)) (lf (o7_99 P))) (.node (o3_51 P) (lf (o3_83 P)) .nil)) (.node (o3_27 P) (.node (o3_43 P) (lf (o3_75 P)) .nil) (.node (o3_59 P) (lf (o7_91 P)) .nil)))) (.node (boot_o_5 P) (.node (boot_o_9 P) (.node (o3_17 P) (.node (o3_33 P) (lf (o3_65 P)) (lf (o7_97 P))) (.node (o3_49 P) (lf (o3_81 P)) .nil)) (.node (o3_25 P) (.node (o3_41 P) (lf (o3_73 P)) .nil) (.node (o3_57 P) (lf (o7_89 P)) .nil))) (.node (oA_13 P) (.node (o3_21 P) (.node (o3_37 P) (lf (o3_69 P)) (lf (o7_101 P))) (.node (o3_53 P) (lf (o3_85 P)) .nil)) (.node (o3_29 P) (.node (o3_45 P) (lf (o3_77 P)) .nil) (.node (o3_61 P) (lf (o7_93 P)) .nil))))) (.node (boot_o_2 P) (.node (boot_o_4 P) (.node (boot_o_8 P) (.node (o3_16 P) (.node (o3_32 P) (lf (o3_64 P)) (lf (o7_96 P))) (.node (o3_48 P) (lf (o3_80 P)) .nil)) (.node (o3_24 P) (.node (o3_40 P) (lf (o3_72 P)) .nil) (.node (o3_56 P) (lf (o7_88 P)) .nil))) (.node (o7_12 P) (.node (o3_20 P) (.node (o3_36 P) (lf (o3_68 P)) (lf (o7_100 P))) (.node (o3_52 P) (lf (o3_84 P)) .nil)) (.node (o3_28 P) (.node (o3_44 P) (lf (o3_76 P)) .nil) (.node (o3_60 P) (lf (o7_92 P)) .nil)))) (.node (boot_o_6 P) (.node (boot_o_10 P) (.node (o3_18 P) (.node (o3_34 P) (lf (o3_66 P)) (lf (o7_98 P))) (.node (o3_50 P) (lf (o3_82 P)) .nil)) (.node (o3_26 P) (.node (o3_42 P) (lf (o3_74 P)) .nil) (.node (o3_58 P) (lf (o7_90 P)) .nil))) (.node (oA_14 P) (.node (o3_22 P) (.node (o3_38 P) (lf (o3_70 P)) .nil) (.node (o3_54 P) (lf (o3_86 P)) .nil)) (.node (o3_30 P) (.node (o3_46 P) (lf (o3_78 P)) .nil) (.node (o3_62 P) (lf (o7_94 P)) .nil))))))
noncomputable def S7 (w : World) (os : OsState) : SharedT := ⟨tr7 w.params, 102, {}, #[], {}, 314, os⟩
def pos7 : Pos := ⟨80, 0, 80, 8⟩
-- 3..7: steps 84 rows []
def o8_3 (P : Params) : Obj := ⟨(.type "dict"), none, (.dict (List.toArray [en P "__name__" 165 (.str "cpy313.stringprep" 312), en P "__doc__" 166 .none, en P "__package__" 167 .none, en P "__loader__" 168 (.builtin "__main__.__loader__#opaque"), en P "__spec__" 169 .none, en P "__annotations__" 170 (.ref 6), en P "__builtins__" 171 (.ref 4), en P "__file__" 173 (.str "/claim/cut.py" 172), en P "__cached__" 174 .none, en P "_wall" 193 (.ref 21), en P "Whitespace" 287 (.ref 83), en P "_iter_escaped_chars" 299 (.ref 94), en P "_strip_quoted_realnames" 311 (.ref 101), en P "b1_set" 373 (.ref 109)]) 14), #[]⟩
def o8_102 (P : Params) : Obj := ⟨(.type "list"), none, (.seq #[(.int 173 314), (.int 847 315), (.int 6150 316), (.int 6155 317), (.int 6156 318), (.int 6157 319), (.int 8203 320), (.int 8204 321), (.int 8205 322), (.int 8288 323), (.int 65279 324)] 0), #[]⟩
def o8_103 (P : Params) : Obj := ⟨(.type "range"), none, (.fields #[(.int 65024 325), (.int 65040 326), (.int 1 327)]), #[]⟩
def o8_104 (P : Params) : Obj := ⟨(.type "list"), none, (.seq #[(.int 65024 330), (.int 65025 331), (.int 65026 332), (.int 65027 333), (.int 65028 334), (.int 65029 335), (.int 65030 336), (.int 65031 337), (.int 65032 338), (.int 65033 339), (.int 65034 340), (.int 65035 341), (.int 65036 342), (.int 65037 343), (.int 65038 344), (.int 65039 345)] 18), #[]⟩
def o8_105 (P : Params) : Obj := ⟨(.type "range_iterator"), none, (.fields #[(.int 65040 0), (.int 0 0), (.int 1 0)]), #[]⟩
def o8_106 (P : Params) : Obj := ot0
def o8_107 (P : Params) : Obj := ⟨(.type "StopIteration"), none, (.fields #[(.ref 106), .none, .none, .none, (.bool false), .none]), #[]⟩
def o8_108 (P : Params) : Obj := ⟨(.type "list"), none, (.seq #[(.int 173 314), (.int 847 315), (.int 6150 316), (.int 6155 317), (.int 6156 318), (.int 6157 319), (.int 8203 320), (.int 8204 321), (.int 8205 322), (.int 8288 323), (.int 65279 324), (.int 65024 330), (.int 65025 331), (.int 65026 332), (.int 65027 333), (.int 65028 334), (.int 65029 335), (.int 65030 336), (.int 65031 337), (.int 65032 338), (.int 65033 339), (.int 65034 340), (.int 65035 341), (.int 65036 342), (.int 65037 343), (.int 65038 344), (.int 65039 345)] 0), #[]⟩
def o8_109 (P : Params) : Obj := ⟨(.type "set"), none, (.set #[(65024, (.int 65024 330)), (65025, (.int 65025 331)), (65026, (.int 65026 332)), (65027, (.int 65027 333)), (65028, (.int 65028 334)), (65029, (.int 65029 335)), (6150, (.int 6150 316)), (65030, (.int 65030 336)), (65031, (.int 65031 337)), (65032, (.int 65032 338)), (65033, (.int 65033 339)), (6155, (.int 6155 317)), (6156, (.int 6156 318)), (6157, (.int 6157 319)), (8203, (.int 8203 320)), (8204, (.int 8204 321)), (8205, (.int 8205 322)), (65034, (.int 65034 340)), (65035, (.int 65035 341)), (65036, (.int 65036 342)), (65037, (.int 65037 343)), (65038, (.int 65038 344)), (65039, (.int 65039 345)), (173, (.int 173 314)), (847, (.int 847 315)), (8288, (.int 8288 323)), (65279, (.int 65279 324))] 29 { mask := 127, place := #[0, 1, 2, 3, 4, 5, 6, 7, 8, 9, 10, 11, 12, 13, 14, 15, 16, 17, 18, 19, 20, 21, 22, 45, 79, 96, 127], dummies := #[], finger := 0, led := !P.followText "set-order", moves := 2, plain := true }), #[]⟩
def o8_110 (P : Params) : Obj := ⟨(.type "list_iterator"), none, (.fields #[.none, (.int 27 0)]), #[]⟩
def o8_111 (P : Params) : Obj := ot0
def o8_112 (P : Params) : Obj := ⟨(.type "StopIteration"), none, (.fields #[(.ref 111), .none, .none, .none, (.bool false), .none]), #[]⟩
noncomputable def tr8 (P : Params) : BT := (.node (boot_o_0 P) (.node (boot_o_1 P) (.node (o8_3 P) (.node (boot_o_7 P) (.node (o3_15 P) (.node (o3_31 P) (lf (o3_63 P)) (lf (o7_95 P))) (.node (o3_47 P) (lf (o3_79 P)) (lf (o8_111 P)))) (.node (o3_23 P) (.node (o3_39 P) (lf (o3_71 P)) (lf (o8_103 P))) (.node (o3_55 P) (lf (o3_87 P)) .nil))) (.node (oA_11 P) (.node (o3_19 P) (.node (o3_35 P) (lf (o3_67 P)) (lf (o7_99 P))) (.node (o3_51 P) (lf (o3_83 P)) .nil)) (.node (o3_27 P) (.node (o3_43 P) (lf (o3_75 P)) (lf (o8_107 P))) (.node (o3_59 P) (lf (o7_91 P)) .nil)))) (.node (boot_o_5 P) (.node (boot_o_9 P) (.node (o3_17 P) (.node (o3_33 P) (lf (o3_65 P)) (lf (o7_97 P))) (.node (o3_49 P) (lf (o3_81 P)) .nil)) (.node (o3_25 P) (.node (o3_41 P) (lf (o3_73 P)) (lf (o8_105 P))) (.node (o3_57 P) (lf (o7_89 P)) .nil))) (.node (oA_13 P) (.node (o3_21 P) (.node (o3_37 P) (lf (o3_69 P)) (lf (o7_101 P))) (.node (o3_53 P) (lf (o3_85 P)) .nil)) (.node (o3_29 P) (.node (o3_45 P) (lf (o3_77 P)) (lf (o8_109 P))) (.node (o3_61 P) (lf (o7_93 P)) .nil))))) (.node (boot_o_2 P) (.node (boot_o_4 P) (.node (boot_o_8 P) (.node (o3_16 P) (.node (o3_32 P) (lf (o3_64 P)) (lf (o7_96 P))) (.node (o3_48 P) (lf (o3_80 P)) (lf (o8_112 P)))) (.node (o3_24 P) (.node (o3_40 P) (lf (o3_72 P)) (lf (o8_104 P))) (.node (o3_56 P) (lf (o7_88 P)) .nil))) (.node (o7_12 P) (.node (o3_20 P) (.node (o3_36 P) (lf (o3_68 P)) (lf (o7_100 P))) (.node (o3_52 P) (lf (o3_84 P)) .nil)) (.node (o3_28 P) (.node (o3_44 P) (lf (o3_76 P)) (lf (o8_108 P))) (.node (o3_60 P) (lf (o7_92 P)) .nil)))) (.node (boot_o_6 P) (.node (boot_o_10 P) (.node (o3_18 P) (.node (o3_34 P) (lf (o3_66 P)) (lf (o7_98 P))) (.node (o3_50 P) (lf (o3_82 P)) .nil)) (.node (o3_26 P) (.node (o3_42 P) (lf (o3_74 P)) (lf (o8_106 P))) (.node (o3_58 P) (lf (o7_90 P)) .nil))) (.node (oA_14 P) (.node (o3_22 P) (.node (o3_38 P) (lf (o3_70 P)) (lf (o8_102 P))) (.node (o3_54 P) (lf (o3_86 P)) .nil)) (.node (o3_30 P) (.node (o3_46 P) (lf (o3_78 P)) (lf (o8_110 P))) (.node (o3_62 P) (lf (o7_94 P)) .nil))))))
noncomputable def S8 (w : World) (os : OsState) : SharedT := ⟨tr8 w.params, 113, {}, #[], {}, 374, os⟩
def pos8 : Pos := ⟨81, 0, 81, 6⟩
-- 7..8: steps 998 rows [set-order, special-get-raises]
def o9_3 (P : Params) : Obj := ⟨(.type "dict"), none, (.dict (List.toArray [en P "__name__" 165 (.str "cpy313.stringprep" 312), en P "__doc__" 166 .none, en P "__package__" 167 .none, en P "__loader__" 168 (.builtin "__main__.__loader__#opaque"), en P "__spec__" 169 .none, en P "__annotations__" 170 (.ref 6), en P "__builtins__" 171 (.ref 4), en P "__file__" 173 (.str "/claim/cut.py" 172), en P "__cached__" 174 .none, en P "_wall" 193 (.ref 21), en P "Whitespace" 287 (.ref 83), en P "_iter_escaped_chars" 299 (.ref 94), en P "_strip_quoted_realnames" 311 (.ref 101), en P "b1_set" 373 (.ref 109), en P "in_table_b1" 380 (.ref 119)]) 15), #[]⟩
def o9_12 (P : Params) : Obj := ⟨.none, none, (.fields #[(.int 1 0), (.int 0 0), (.ref 20), (.int 5 0), (.int 0 0), (.ref 27), (.int 49 0), (.int 0 0), (.ref 93), (.int 62 0), (.int 0 0), (.ref 100), (.int 82 0), (.int 0 0), (.ref 118)]), #[]⟩
def o9_113 (P : Params) : Obj := ot0
def o9_114 (P : Params) : Obj := of0
def o9_115 (P : Params) : Obj := ⟨(.type "tuple"), none, (.seq #[(.str "code" 377)] 0), #[]⟩
def o9_116 (P : Params) : Obj := ot0
def o9_117 (P : Params) : Obj := ⟨.none, none, (.func (fnOfSt (st1 8) "in_table_b1" 0 .none .none 0)), #[]⟩
def o9_118 (P : Params) : Obj := ⟨(.type "code"), none, (.fields #[(.str "in_table_b1" 374), (.str "in_table_b1" 375), (.str "/claim/cut.py" 376), (.int 82 0), (.int 1 0), (.int 0 0), (.int 0 0), (.int 3 0), (.ref 113), (.bool true), (.int 181 0), (.ref 114), .none, (.ref 115), (.ref 116), (.ref 117), (.int 378 0), (.int 82 0), (.str "/claim/cut.py" 379)]), #[]⟩
def o9_119 (P : Params) : Obj := ⟨(.type "function"), none, (.func (fnOfSt (st1 8) "in_table_b1" 3 (.str "cpy313.stringprep" 312) (.ref 118) 0)), #[]⟩
noncomputable def tr9 (P : Params) : BT := (.node (boot_o_0 P) (.node (boot_o_1 P) (.node (o9_3 P) (.node (boot_o_7 P) (.node (o3_15 P) (.node (o3_31 P) (lf (o3_63 P)) (lf (o7_95 P))) (.node (o3_47 P) (lf (o3_79 P)) (lf (o8_111 P)))) (.node (o3_23 P) (.node (o3_39 P) (lf (o3_71 P)) (lf (o8_103 P))) (.node (o3_55 P) (lf (o3_87 P)) (lf (o9_119 P))))) (.node (oA_11 P) (.node (o3_19 P) (.node (o3_35 P) (lf (o3_67 P)) (lf (o7_99 P))) (.node (o3_51 P) (lf (o3_83 P)) (lf (o9_115 P)))) (.node (o3_27 P) (.node (o3_43 P) (lf (o3_75 P)) (lf (o8_107 P))) (.node (o3_59 P) (lf (o7_91 P)) .nil)))) (.node (boot_o_5 P) (.node (boot_o_9 P) (.node (o3_17 P) (.node (o3_33 P) (lf (o3_65 P)) (lf (o7_97 P))) (.node (o3_49 P) (lf (o3_81 P)) (lf (o9_113 P)))) (.node (o3_25 P) (.node (o3_41 P) (lf (o3_73 P)) (lf (o8_105 P))) (.node (o3_57 P) (lf (o7_89 P)) .nil))) (.node (oA_13 P) (.node (o3_21 P) (.node (o3_37 P) (lf (o3_69 P)) (lf (o7_101 P))) (.node (o3_53 P) (lf (o3_85 P)) (lf (o9_117 P)))) (.node (o3_29 P) (.node (o3_45 P) (lf (o3_77 P)) (lf (o8_109 P))) (.node (o3_61 P) (lf (o7_93 P)) .nil))))) (.node (boot_o_2 P) (.node (boot_o_4 P) (.node (boot_o_8 P) (.node (o3_16 P) (.node (o3_32 P) (lf (o3_64 P)) (lf (o7_96 P))) (.node (o3_48 P) (lf (o3_80 P)) (lf (o8_112 P)))) (.node (o3_24 P) (.node (o3_40 P) (lf (o3_72 P)) (lf (o8_104 P))) (.node (o3_56 P) (lf (o7_88 P)) .nil))) (.node (o9_12 P) (.node (o3_20 P) (.node (o3_36 P) (lf (o3_68 P)) (lf (o7_100 P))) (.node (o3_52 P) (lf (o3_84 P)) (lf (o9_116 P)))) (.node (o3_28 P) (.node (o3_44 P) (lf (o3_76 P)) (lf (o8_108 P))) (.node (o3_60 P) (lf (o7_92 P)) .nil)))) (.node (boot_o_6 P) (.node (boot_o_10 P) (.node (o3_18 P) (.node (o3_34 P) (lf (o3_66 P)) (lf (o7_98 P))) (.node (o3_50 P) (lf (o3_82 P)) (lf (o9_114 P)))) (.node (o3_26 P) (.node (o3_42 P) (lf (o3_74 P)) (lf (o8_106 P))) (.node (o3_58 P) (lf (o7_90 P)) .nil))) (.node (oA_14 P) (.node (o3_22 P) (.node (o3_38 P) (lf (o3_70 P)) (lf (o8_102 P))) (.node (o3_54 P) (lf (o3_86 P)) (lf (o9_118 P)))) (.node (o3_30 P) (.node (o3_46 P) (lf (o3_78 P)) (lf (o8_110 P))) (.node (o3_62 P) (lf (o7_94 P)) .nil))))))
noncomputable def S9 (w : World) (os : OsState) : SharedT := ⟨tr9 w.params, 120, {}, #[], {}, 381, os⟩
def pos9 : Pos := ⟨82, 0, 83, 30⟩
-- 8..9: steps 29 rows []
def o10_3 (P : Params) : Obj := ⟨(.type "dict"), none, (.dict (List.toArray [en P "__name__" 165 (.str "cpy313.stringprep" 312), en P "__doc__" 166 .none, en P "__package__" 167 .none, en P "__loader__" 168 (.builtin "__main__.__loader__#opaque"), en P "__spec__" 169 .none, en P "__annotations__" 170 (.ref 6), en P "__builtins__" 171 (.ref 4), en P "__file__" 173 (.str "/claim/cut.py" 172), en P "__cached__" 174 .none, en P "_wall" 193 (.ref 21), en P "Whitespace" 287 (.ref 83), en P "_iter_escaped_chars" 299 (.ref 94), en P "_strip_quoted_realnames" 311 (.ref 101), en P "b1_set" 373 (.ref 109), en P "in_table_b1" 380 (.ref 119), en P "b3_exceptions" 2331 (.ref 120)]) 16), #[]⟩
def o10_120 (_ : Params) : Obj := b3Obj 0
def o10_121 (_ : Params) : Obj := b3Obj 1
def o10_122 (_ : Params) : Obj := b3Obj 2
def o10_123 (_ : Params) : Obj := b3Obj 3
def o10_124 (_ : Params) : Obj := b3Obj 4
def o10_125 (_ : Params) : Obj := b3Obj 5
def o10_126 (_ : Params) : Obj := b3Obj 6
def o10_127 (_ : Params) : Obj := b3Obj 7
def o10_128 (_ : Params) : Obj := b3Obj 8
def o10_129 (_ : Params) : Obj := b3Obj 9
def o10_130 (_ : Params) : Obj := b3Obj 10
def o10_131 (_ : Params) : Obj := b3Obj 11
def o10_132 (_ : Params) : Obj := b3Obj 12
def o10_133 (_ : Params) : Obj := b3Obj 13
def o10_134 (_ : Params) : Obj := b3Obj 14
def o10_135 (_ : Params) : Obj := b3Obj 15
def o10_136 (_ : Params) : Obj := b3Obj 16
def o10_137 (_ : Params) : Obj := b3Obj 17
def o10_138 (_ : Params) : Obj := b3Obj 18
def o10_139 (_ : Params) : Obj := b3Obj 19
def o10_140 (_ : Params) : Obj := b3Obj 20
def o10_141 (_ : Params) : Obj := b3Obj 21
def o10_142 (_ : Params) : Obj := b3Obj 22
def o10_143 (_ : Params) : Obj := b3Obj 23
def o10_144 (_ : Params) : Obj := b3Obj 24
def o10_145 (_ : Params) : Obj := b3Obj 25
def o10_146 (_ : Params) : Obj := b3Obj 26
def o10_147 (_ : Params) : Obj := b3Obj 27
def o10_148 (_ : Params) : Obj := b3Obj 28
def o10_149 (_ : Params) : Obj := b3Obj 29
def o10_150 (_ : Params) : Obj := b3Obj 30
def o10_151 (_ : Params) : Obj := b3Obj 31
def o10_152 (_ : Params) : Obj := b3Obj 32
def o10_153 (_ : Params) : Obj := b3Obj 33
def o10_154 (_ : Params) : Obj := b3Obj 34
def o10_155 (_ : Params) : Obj := b3Obj 35
def o10_156 (_ : Params) : Obj := b3Obj 36
def o10_157 (_ : Params) : Obj := b3Obj 37
def o10_158 (_ : Params) : Obj := b3Obj 38
noncomputable def tr10 (P : Params) : BT := (.node (boot_o_0 P) (.node (boot_o_1 P) (.node (o10_3 P) (.node (boot_o_7 P) (.node (o3_15 P) (.node (o3_31 P) (.node (o3_63 P) (lf (o10_127 P)) .nil) (lf (o7_95 P))) (.node (o3_47 P) (.node (o3_79 P) (lf (o10_143 P)) .nil) (lf (o8_111 P)))) (.node (o3_23 P) (.node (o3_39 P) (.node (o3_71 P) (lf (o10_135 P)) .nil) (lf (o8_103 P))) (.node (o3_55 P) (.node (o3_87 P) (lf (o10_151 P)) .nil) (lf (o9_119 P))))) (.node (oA_11 P) (.node (o3_19 P) (.node (o3_35 P) (.node (o3_67 P) (lf (o10_131 P)) .nil) (lf (o7_99 P))) (.node (o3_51 P) (.node (o3_83 P) (lf (o10_147 P)) .nil) (lf (o9_115 P)))) (.node (o3_27 P) (.node (o3_43 P) (.node (o3_75 P) (lf (o10_139 P)) .nil) (lf (o8_107 P))) (.node (o3_59 P) (.node (o7_91 P) (lf (o10_155 P)) .nil) (lf (o10_123 P)))))) (.node (boot_o_5 P) (.node (boot_o_9 P) (.node (o3_17 P) (.node (o3_33 P) (.node (o3_65 P) (lf (o10_129 P)) .nil) (lf (o7_97 P))) (.node (o3_49 P) (.node (o3_81 P) (lf (o10_145 P)) .nil) (lf (o9_113 P)))) (.node (o3_25 P) (.node (o3_41 P) (.node (o3_73 P) (lf (o10_137 P)) .nil) (lf (o8_105 P))) (.node (o3_57 P) (.node (o7_89 P) (lf (o10_153 P)) .nil) (lf (o10_121 P))))) (.node (oA_13 P) (.node (o3_21 P) (.node (o3_37 P) (.node (o3_69 P) (lf (o10_133 P)) .nil) (lf (o7_101 P))) (.node (o3_53 P) (.node (o3_85 P) (lf (o10_149 P)) .nil) (lf (o9_117 P)))) (.node (o3_29 P) (.node (o3_45 P) (.node (o3_77 P) (lf (o10_141 P)) .nil) (lf (o8_109 P))) (.node (o3_61 P) (.node (o7_93 P) (lf (o10_157 P)) .nil) (lf (o10_125 P))))))) (.node (boot_o_2 P) (.node (boot_o_4 P) (.node (boot_o_8 P) (.node (o3_16 P) (.node (o3_32 P) (.node (o3_64 P) (lf (o10_128 P)) .nil) (lf (o7_96 P))) (.node (o3_48 P) (.node (o3_80 P) (lf (o10_144 P)) .nil) (lf (o8_112 P)))) (.node (o3_24 P) (.node (o3_40 P) (.node (o3_72 P) (lf (o10_136 P)) .nil) (lf (o8_104 P))) (.node (o3_56 P) (.node (o7_88 P) (lf (o10_152 P)) .nil) (lf (o10_120 P))))) (.node (o9_12 P) (.node (o3_20 P) (.node (o3_36 P) (.node (o3_68 P) (lf (o10_132 P)) .nil) (lf (o7_100 P))) (.node (o3_52 P) (.node (o3_84 P) (lf (o10_148 P)) .nil) (lf (o9_116 P)))) (.node (o3_28 P) (.node (o3_44 P) (.node (o3_76 P) (lf (o10_140 P)) .nil) (lf (o8_108 P))) (.node (o3_60 P) (.node (o7_92 P) (lf (o10_156 P)) .nil) (lf (o10_124 P)))))) (.node (boot_o_6 P) (.node (boot_o_10 P) (.node (o3_18 P) (.node (o3_34 P) (.node (o3_66 P) (lf (o10_130 P)) .nil) (lf (o7_98 P))) (.node (o3_50 P) (.node (o3_82 P) (lf (o10_146 P)) .nil) (lf (o9_114 P)))) (.node (o3_26 P) (.node (o3_42 P) (.node (o3_74 P) (lf (o10_138 P)) .nil) (lf (o8_106 P))) (.node (o3_58 P) (.node (o7_90 P) (lf (o10_154 P)) .nil) (lf (o10_122 P))))) (.node (oA_14 P) (.node (o3_22 P) (.node (o3_38 P) (.node (o3_70 P) (lf (o10_134 P)) .nil) (lf (o8_102 P))) (.node (o3_54 P) (.node (o3_86 P) (lf (o10_150 P)) .nil) (lf (o9_118 P)))) (.node (o3_30 P) (.node (o3_46 P) (.node (o3_78 P) (lf (o10_142 P)) .nil) (lf (o8_110 P))) (.node (o3_62 P) (.node (o7_94 P) (lf (o10_158 P)) .nil) (lf (o10_126 P))))))))
noncomputable def S10 (w : World) (os : OsState) : SharedT := ⟨tr10 w.params, 159, {}, #[], {}, 2332, os⟩
def pos10 : Pos := ⟨84, 0, 84, 13⟩
-- 9..10: steps 12524 rows [special-get-raises]
def o59_3 (P : Params) : Obj := ⟨(.type "dict"), none, (.dict (List.toArray [en P "__name__" 165 (.str "cpy313.stringprep" 312), en P "__doc__" 166 .none, en P "__package__" 167 .none, en P "__loader__" 168 (.builtin "__main__.__loader__#opaque"), en P "__spec__" 169 .none, en P "__annotations__" 170 (.ref 6), en P "__builtins__" 171 (.ref 4), en P "__file__" 173 (.str "/claim/cut.py" 172), en P "__cached__" 174 .none, en P "_wall" 193 (.ref 21), en P "Whitespace" 287 (.ref 83), en P "_iter_escaped_chars" 299 (.ref 94), en P "_strip_quoted_realnames" 311 (.ref 101), en P "b1_set" 373 (.ref 109), en P "in_table_b1" 380 (.ref 119), en P "b3_exceptions" 2331 (.ref 120), en P "map_table_b3" 2339 (.ref 165), en P "LPAR" 2341 (.int 7 2340), en P "RPAR" 2343 (.int 8 2342), en P "LSQB" 2345 (.int 9 2344), en P "RSQB" 2347 (.int 10 2346), en P "COLON" 2349 (.int 11 2348), en P "COMMA" 2351 (.int 12 2350), en P "SEMI" 2353 (.int 13 2352), en P "PLUS" 2355 (.int 14 2354), en P "MINUS" 2357 (.int 15 2356), en P "STAR" 2359 (.int 16 2358), en P "SLASH" 2361 (.int 17 2360), en P "VBAR" 2363 (.int 18 2362), en P "AMPER" 2365 (.int 19 2364), en P "LESS" 2367 (.int 20 2366), en P "GREATER" 2369 (.int 21 2368), en P "EQUAL" 2371 (.int 22 2370), en P "DOT" 2373 (.int 23 2372), en P "PERCENT" 2375 (.int 24 2374), en P "LBRACE" 2377 (.int 25 2376), en P "RBRACE" 2379 (.int 26 2378), en P "EQEQUAL" 2381 (.int 27 2380), en P "NOTEQUAL" 2383 (.int 28 2382), en P "LESSEQUAL" 2385 (.int 29 2384), en P "GREATEREQUAL" 2387 (.int 30 2386), en P "TILDE" 2389 (.int 31 2388), en P "CIRCUMFLEX" 2391 (.int 32 2390), en P "LEFTSHIFT" 2393 (.int 33 2392), en P "RIGHTSHIFT" 2395 (.int 34 2394), en P "DOUBLESTAR" 2397 (.int 35 2396), en P "PLUSEQUAL" 2399 (.int 36 2398), en P "MINEQUAL" 2401 (.int 37 2400), en P "STAREQUAL" 2403 (.int 38 2402), en P "SLASHEQUAL" 2405 (.int 39 2404), en P "PERCENTEQUAL" 2407 (.int 40 2406), en P "AMPEREQUAL" 2409 (.int 41 2408), en P "VBAREQUAL" 2411 (.int 42 2410), en P "CIRCUMFLEXEQUAL" 2413 (.int 43 2412), en P "LEFTSHIFTEQUAL" 2415 (.int 44 2414), en P "RIGHTSHIFTEQUAL" 2417 (.int 45 2416), en P "DOUBLESTAREQUAL" 2419 (.int 46 2418), en P "DOUBLESLASH" 2421 (.int 47 2420), en P "DOUBLESLASHEQUAL" 2423 (.int 48 2422), en P "AT" 2425 (.int 49 2424), en P "ATEQUAL" 2427 (.int 50 2426), en P "RARROW" 2429 (.int 51 2428), en P "ELLIPSIS" 2431 (.int 52 2430), en P "COLONEQUAL" 2433 (.int 53 2432), en P "EXCLAMATION" 2435 (.int 54 2434)]) 65), #[]⟩
def o59_12 (P : Params) : Obj := ⟨.none, none, (.fields #[(.int 1 0), (.int 0 0), (.ref 20), (.int 5 0), (.int 0 0), (.ref 27), (.int 49 0), (.int 0 0), (.ref 93), (.int 62 0), (.int 0 0), (.ref 100), (.int 82 0), (.int 0 0), (.ref 118), (.int 85 0), (.int 0 0), (.ref 164)]), #[]⟩
def o59_159 (P : Params) : Obj := ot0
def o59_160 (P : Params) : Obj := of0
def o59_161 (P : Params) : Obj := ⟨(.type "tuple"), none, (.seq #[(.str "code" 2335), (.str "r" 2336)] 0), #[]⟩
def o59_162 (P : Params) : Obj := ot0
def o59_163 (P : Params) : Obj := ⟨.none, none, (.func (fnOfSt (st1 10) "map_table_b3" 0 .none .none 0)), #[]⟩
def o59_164 (P : Params) : Obj := ⟨(.type "code"), none, (.fields #[(.str "map_table_b3" 2332), (.str "map_table_b3" 2333), (.str "/claim/cut.py" 2334), (.int 85 0), (.int 1 0), (.int 0 0), (.int 0 0), (.int 3 0), (.ref 159), (.bool true), (.int 181 0), (.ref 160), .none, (.ref 161), (.ref 162), (.ref 163), (.int 2337 0), (.int 85 0), (.str "/claim/cut.py" 2338)]), #[]⟩
def o59_165 (P : Params) : Obj := ⟨(.type "function"), none, (.func (fnOfSt (st1 10) "map_table_b3" 3 (.str "cpy313.stringprep" 312) (.ref 164) 0)), #[]⟩
noncomputable def tr59 (P : Params) : BT := (.node (boot_o_0 P) (.node (boot_o_1 P) (.node (o59_3 P) (.node (boot_o_7 P) (.node (o3_15 P) (.node (o3_31 P) (.node (o3_63 P) (lf (o10_127 P)) .nil) (.node (o7_95 P) (lf (o59_159 P)) .nil)) (.node (o3_47 P) (.node (o3_79 P) (lf (o10_143 P)) .nil) (lf (o8_111 P)))) (.node (o3_23 P) (.node (o3_39 P) (.node (o3_71 P) (lf (o10_135 P)) .nil) (lf (o8_103 P))) (.node (o3_55 P) (.node (o3_87 P) (lf (o10_151 P)) .nil) (lf (o9_119 P))))) (.node (oA_11 P) (.node (o3_19 P) (.node (o3_35 P) (.node (o3_67 P) (lf (o10_131 P)) .nil) (.node (o7_99 P) (lf (o59_163 P)) .nil)) (.node (o3_51 P) (.node (o3_83 P) (lf (o10_147 P)) .nil) (lf (o9_115 P)))) (.node (o3_27 P) (.node (o3_43 P) (.node (o3_75 P) (lf (o10_139 P)) .nil) (lf (o8_107 P))) (.node (o3_59 P) (.node (o7_91 P) (lf (o10_155 P)) .nil) (lf (o10_123 P)))))) (.node (boot_o_5 P) (.node (boot_o_9 P) (.node (o3_17 P) (.node (o3_33 P) (.node (o3_65 P) (lf (o10_129 P)) .nil) (.node (o7_97 P) (lf (o59_161 P)) .nil)) (.node (o3_49 P) (.node (o3_81 P) (lf (o10_145 P)) .nil) (lf (o9_113 P)))) (.node (o3_25 P) (.node (o3_41 P) (.node (o3_73 P) (lf (o10_137 P)) .nil) (lf (o8_105 P))) (.node (o3_57 P) (.node (o7_89 P) (lf (o10_153 P)) .nil) (lf (o10_121 P))))) (.node (oA_13 P) (.node (o3_21 P) (.node (o3_37 P) (.node (o3_69 P) (lf (o10_133 P)) .nil) (.node (o7_101 P) (lf (o59_165 P)) .nil)) (.node (o3_53 P) (.node (o3_85 P) (lf (o10_149 P)) .nil) (lf (o9_117 P)))) (.node (o3_29 P) (.node (o3_45 P) (.node (o3_77 P) (lf (o10_141 P)) .nil) (lf (o8_109 P))) (.node (o3_61 P) (.node (o7_93 P) (lf (o10_157 P)) .nil) (lf (o10_125 P))))))) (.node (boot_o_2 P) (.node (boot_o_4 P) (.node (boot_o_8 P) (.node (o3_16 P) (.node (o3_32 P) (.node (o3_64 P) (lf (o10_128 P)) .nil) (.node (o7_96 P) (lf (o59_160 P)) .nil)) (.node (o3_48 P) (.node (o3_80 P) (lf (o10_144 P)) .nil) (lf (o8_112 P)))) (.node (o3_24 P) (.node (o3_40 P) (.node (o3_72 P) (lf (o10_136 P)) .nil) (lf (o8_104 P))) (.node (o3_56 P) (.node (o7_88 P) (lf (o10_152 P)) .nil) (lf (o10_120 P))))) (.node (o59_12 P) (.node (o3_20 P) (.node (o3_36 P) (.node (o3_68 P) (lf (o10_132 P)) .nil) (.node (o7_100 P) (lf (o59_164 P)) .nil)) (.node (o3_52 P) (.node (o3_84 P) (lf (o10_148 P)) .nil) (lf (o9_116 P)))) (.node (o3_28 P) (.node (o3_44 P) (.node (o3_76 P) (lf (o10_140 P)) .nil) (lf (o8_108 P))) (.node (o3_60 P) (.node (o7_92 P) (lf (o10_156 P)) .nil) (lf (o10_124 P)))))) (.node (boot_o_6 P) (.node (boot_o_10 P) (.node (o3_18 P) (.node (o3_34 P) (.node (o3_66 P) (lf (o10_130 P)) .nil) (.node (o7_98 P) (lf (o59_162 P)) .nil)) (.node (o3_50 P) (.node (o3_82 P) (lf (o10_146 P)) .nil) (lf (o9_114 P)))) (.node (o3_26 P) (.node (o3_42 P) (.node (o3_74 P) (lf (o10_138 P)) .nil) (lf (o8_106 P))) (.node (o3_58 P) (.node (o7_90 P) (lf (o10_154 P)) .nil) (lf (o10_122 P))))) (.node (oA_14 P) (.node (o3_22 P) (.node (o3_38 P) (.node (o3_70 P) (lf (o10_134 P)) .nil) (lf (o8_102 P))) (.node (o3_54 P) (.node (o3_86 P) (lf (o10_150 P)) .nil) (lf (o9_118 P)))) (.node (o3_30 P) (.node (o3_46 P) (.node (o3_78 P) (lf (o10_142 P)) .nil) (lf (o8_110 P))) (.node (o3_62 P) (.node (o7_94 P) (lf (o10_158 P)) .nil) (lf (o10_126 P))))))))
noncomputable def S59 (w : World) (os : OsState) : SharedT := ⟨tr59 w.params, 166, {}, #[], {}, 2436, os⟩
def pos59 : Pos := ⟨137, 0, 137, 11⟩
-- 10..59: steps 462 rows []
def o60_3 (P : Params) : Obj := ⟨(.type "dict"), none, (.dict (List.toArray [en P "__name__" 165 (.str "cpy313.stringprep" 312), en P "__doc__" 166 .none, en P "__package__" 167 .none, en P "__loader__" 168 (.builtin "__main__.__loader__#opaque"), en P "__spec__" 169 .none, en P "__annotations__" 170 (.ref 6), en P "__builtins__" 171 (.ref 4), en P "__file__" 173 (.str "/claim/cut.py" 172), en P "__cached__" 174 .none, en P "_wall" 193 (.ref 21), en P "Whitespace" 287 (.ref 83), en P "_iter_escaped_chars" 299 (.ref 94), en P "_strip_quoted_realnames" 311 (.ref 101), en P "b1_set" 373 (.ref 109), en P "in_table_b1" 380 (.ref 119), en P "b3_exceptions" 2331 (.ref 120), en P "map_table_b3" 2339 (.ref 165), en P "LPAR" 2341 (.int 7 2340), en P "RPAR" 2343 (.int 8 2342), en P "LSQB" 2345 (.int 9 2344), en P "RSQB" 2347 (.int 10 2346), en P "COLON" 2349 (.int 11 2348), en P "COMMA" 2351 (.int 12 2350), en P "SEMI" 2353 (.int 13 2352), en P "PLUS" 2355 (.int 14 2354), en P "MINUS" 2357 (.int 15 2356), en P "STAR" 2359 (.int 16 2358), en P "SLASH" 2361 (.int 17 2360), en P "VBAR" 2363 (.int 18 2362), en P "AMPER" 2365 (.int 19 2364), en P "LESS" 2367 (.int 20 2366), en P "GREATER" 2369 (.int 21 2368), en P "EQUAL" 2371 (.int 22 2370), en P "DOT" 2373 (.int 23 2372), en P "PERCENT" 2375 (.int 24 2374), en P "LBRACE" 2377 (.int 25 2376), en P "RBRACE" 2379 (.int 26 2378), en P "EQEQUAL" 2381 (.int 27 2380), en P "NOTEQUAL" 2383 (.int 28 2382), en P "LESSEQUAL" 2385 (.int 29 2384), en P "GREATEREQUAL" 2387 (.int 30 2386), en P "TILDE" 2389 (.int 31 2388), en P "CIRCUMFLEX" 2391 (.int 32 2390), en P "LEFTSHIFT" 2393 (.int 33 2392), en P "RIGHTSHIFT" 2395 (.int 34 2394), en P "DOUBLESTAR" 2397 (.int 35 2396), en P "PLUSEQUAL" 2399 (.int 36 2398), en P "MINEQUAL" 2401 (.int 37 2400), en P "STAREQUAL" 2403 (.int 38 2402), en P "SLASHEQUAL" 2405 (.int 39 2404), en P "PERCENTEQUAL" 2407 (.int 40 2406), en P "AMPEREQUAL" 2409 (.int 41 2408), en P "VBAREQUAL" 2411 (.int 42 2410), en P "CIRCUMFLEXEQUAL" 2413 (.int 43 2412), en P "LEFTSHIFTEQUAL" 2415 (.int 44 2414), en P "RIGHTSHIFTEQUAL" 2417 (.int 45 2416), en P "DOUBLESTAREQUAL" 2419 (.int 46 2418), en P "DOUBLESLASH" 2421 (.int 47 2420), en P "DOUBLESLASHEQUAL" 2423 (.int 48 2422), en P "AT" 2425 (.int 49 2424), en P "ATEQUAL" 2427 (.int 50 2426), en P "RARROW" 2429 (.int 51 2428), en P "ELLIPSIS" 2431 (.int 52 2430), en P "COLONEQUAL" 2433 (.int 53 2432), en P "EXCLAMATION" 2435 (.int 54 2434), en P "EXACT_TOKEN_TYPES" 2532 (.ref 166)]) 66), #[]⟩
def o60_166 (P : Params) : Obj := ⟨(.type "dict"), none, (.dict (List.toArray [en P "!" 2436 (.int 54 2434), en P "!=" 2438 (.int 28 2382), en P "%" 2440 (.int 24 2374), en P "%=" 2442 (.int 40 2406), en P "&" 2444 (.int 19 2364), en P "&=" 2446 (.int 41 2408), en P "(" 2448 (.int 7 2340), en P ")" 2450 (.int 8 2342), en P "*" 2452 (.int 16 2358), en P "**" 2454 (.int 35 2396), en P "**=" 2456 (.int 46 2418), en P "*=" 2458 (.int 38 2402), en P "+" 2460 (.int 14 2354), en P "+=" 2462 (.int 36 2398), en P "," 2464 (.int 12 2350), en P "-" 2466 (.int 15 2356), en P "-=" 2468 (.int 37 2400), en P "->" 2470 (.int 51 2428), en P "." 2472 (.int 23 2372), en P "..." 2474 (.int 52 2430), en P "/" 2476 (.int 17 2360), en P "//" 2478 (.int 47 2420), en P "//=" 2480 (.int 48 2422), en P "/=" 2482 (.int 39 2404), en P ":" 2484 (.int 11 2348), en P ":=" 2486 (.int 53 2432), en P ";" 2488 (.int 13 2352), en P "<" 2490 (.int 20 2366), en P "<<" 2492 (.int 33 2392), en P "<<=" 2494 (.int 44 2414), en P "<=" 2496 (.int 29 2384), en P "=" 2498 (.int 22 2370), en P "==" 2500 (.int 27 2380), en P ">" 2502 (.int 21 2368), en P ">=" 2504 (.int 30 2386), en P ">>" 2505 (.int 34 2394), en P ">>=" 2506 (.int 45 2416), en P "@" 2507 (.int 49 2424), en P "@=" 2508 (.int 50 2426), en P "[" 2509 (.int 9 2344), en P "]" 2510 (.int 10 2346), en P "^" 2511 (.int 32 2390), en P "^=" 2512 (.int 43 2412), en P "{" 2513 (.int 25 2376), en P "|" 2514 (.int 18 2362), en P "|=" 2515 (.int 42 2410), en P "}" 2516 (.int 26 2378), en P "~" 2517 (.int 31 2388)]) 48), #[]⟩
def o60_167 (P : Params) : Obj := ⟨(.type "dict"), none, (.dict (List.toArray [en P "->" 2470 (.int 51 2428), en P "." 2472 (.int 23 2372), en P "..." 2474 (.int 52 2430), en P "/" 2476 (.int 17 2360), en P "//" 2478 (.int 47 2420), en P "//=" 2480 (.int 48 2422), en P "/=" 2482 (.int 39 2404), en P ":" 2484 (.int 11 2348), en P ":=" 2486 (.int 53 2432), en P ";" 2488 (.int 13 2352), en P "<" 2490 (.int 20 2366), en P "<<" 2492 (.int 33 2392), en P "<<=" 2494 (.int 44 2414), en P "<=" 2496 (.int 29 2384), en P "=" 2498 (.int 22 2370), en P "==" 2500 (.int 27 2380), en P ">" 2502 (.int 21 2368)]) 17), #[]⟩
def o60_168 (P : Params) : Obj := ⟨(.type "dict"), none, (.dict (List.toArray [en P ">=" 2504 (.int 30 2386), en P ">>" 2505 (.int 34 2394), en P ">>=" 2506 (.int 45 2416), en P "@" 2507 (.int 49 2424), en P "@=" 2508 (.int 50 2426), en P "[" 2509 (.int 9 2344), en P "]" 2510 (.int 10 2346), en P "^" 2511 (.int 32 2390), en P "^=" 2512 (.int 43 2412), en P "{" 2513 (.int 25 2376), en P "|" 2514 (.int 18 2362), en P "|=" 2515 (.int 42 2410), en P "}" 2516 (.int 26 2378), en P "~" 2517 (.int 31 2388)]) 14), #[]⟩
noncomputable def tr60 (P : Params) : BT := (.node (boot_o_0 P) (.node (boot_o_1 P) (.node (o60_3 P) (.node (boot_o_7 P) (.node (o3_15 P) (.node (o3_31 P) (.node (o3_63 P) (lf (o10_127 P)) .nil) (.node (o7_95 P) (lf (o59_159 P)) .nil)) (.node (o3_47 P) (.node (o3_79 P) (lf (o10_143 P)) .nil) (lf (o8_111 P)))) (.node (o3_23 P) (.node (o3_39 P) (.node (o3_71 P) (lf (o10_135 P)) .nil) (.node (o8_103 P) (lf (o60_167 P)) .nil)) (.node (o3_55 P) (.node (o3_87 P) (lf (o10_151 P)) .nil) (lf (o9_119 P))))) (.node (oA_11 P) (.node (o3_19 P) (.node (o3_35 P) (.node (o3_67 P) (lf (o10_131 P)) .nil) (.node (o7_99 P) (lf (o59_163 P)) .nil)) (.node (o3_51 P) (.node (o3_83 P) (lf (o10_147 P)) .nil) (lf (o9_115 P)))) (.node (o3_27 P) (.node (o3_43 P) (.node (o3_75 P) (lf (o10_139 P)) .nil) (lf (o8_107 P))) (.node (o3_59 P) (.node (o7_91 P) (lf (o10_155 P)) .nil) (lf (o10_123 P)))))) (.node (boot_o_5 P) (.node (boot_o_9 P) (.node (o3_17 P) (.node (o3_33 P) (.node (o3_65 P) (lf (o10_129 P)) .nil) (.node (o7_97 P) (lf (o59_161 P)) .nil)) (.node (o3_49 P) (.node (o3_81 P) (lf (o10_145 P)) .nil) (lf (o9_113 P)))) (.node (o3_25 P) (.node (o3_41 P) (.node (o3_73 P) (lf (o10_137 P)) .nil) (lf (o8_105 P))) (.node (o3_57 P) (.node (o7_89 P) (lf (o10_153 P)) .nil) (lf (o10_121 P))))) (.node (oA_13 P) (.node (o3_21 P) (.node (o3_37 P) (.node (o3_69 P) (lf (o10_133 P)) .nil) (.node (o7_101 P) (lf (o59_165 P)) .nil)) (.node (o3_53 P) (.node (o3_85 P) (lf (o10_149 P)) .nil) (lf (o9_117 P)))) (.node (o3_29 P) (.node (o3_45 P) (.node (o3_77 P) (lf (o10_141 P)) .nil) (lf (o8_109 P))) (.node (o3_61 P) (.node (o7_93 P) (lf (o10_157 P)) .nil) (lf (o10_125 P))))))) (.node (boot_o_2 P) (.node (boot_o_4 P) (.node (boot_o_8 P) (.node (o3_16 P) (.node (o3_32 P) (.node (o3_64 P) (lf (o10_128 P)) .nil) (.node (o7_96 P) (lf (o59_160 P)) .nil)) (.node (o3_48 P) (.node (o3_80 P) (lf (o10_144 P)) .nil) (lf (o8_112 P)))) (.node (o3_24 P) (.node (o3_40 P) (.node (o3_72 P) (lf (o10_136 P)) .nil) (.node (o8_104 P) (lf (o60_168 P)) .nil)) (.node (o3_56 P) (.node (o7_88 P) (lf (o10_152 P)) .nil) (lf (o10_120 P))))) (.node (o59_12 P) (.node (o3_20 P) (.node (o3_36 P) (.node (o3_68 P) (lf (o10_132 P)) .nil) (.node (o7_100 P) (lf (o59_164 P)) .nil)) (.node (o3_52 P) (.node (o3_84 P) (lf (o10_148 P)) .nil) (lf (o9_116 P)))) (.node (o3_28 P) (.node (o3_44 P) (.node (o3_76 P) (lf (o10_140 P)) .nil) (lf (o8_108 P))) (.node (o3_60 P) (.node (o7_92 P) (lf (o10_156 P)) .nil) (lf (o10_124 P)))))) (.node (boot_o_6 P) (.node (boot_o_10 P) (.node (o3_18 P) (.node (o3_34 P) (.node (o3_66 P) (lf (o10_130 P)) .nil) (.node (o7_98 P) (lf (o59_162 P)) .nil)) (.node (o3_50 P) (.node (o3_82 P) (lf (o10_146 P)) .nil) (lf (o9_114 P)))) (.node (o3_26 P) (.node (o3_42 P) (.node (o3_74 P) (lf (o10_138 P)) .nil) (lf (o8_106 P))) (.node (o3_58 P) (.node (o7_90 P) (lf (o10_154 P)) .nil) (lf (o10_122 P))))) (.node (oA_14 P) (.node (o3_22 P) (.node (o3_38 P) (.node (o3_70 P) (lf (o10_134 P)) .nil) (.node (o8_102 P) (lf (o60_166 P)) .nil)) (.node (o3_54 P) (.node (o3_86 P) (lf (o10_150 P)) .nil) (lf (o9_118 P)))) (.node (o3_30 P) (.node (o3_46 P) (.node (o3_78 P) (lf (o10_142 P)) .nil) (lf (o8_110 P))) (.node (o3_62 P) (.node (o7_94 P) (lf (o10_158 P)) .nil) (lf (o10_126 P))))))))
noncomputable def S60 (w : World) (os : OsState) : SharedT := ⟨tr60 w.params, 169, {}, #[], {}, 2533, os⟩
def pos60 : Pos := ⟨138, 0, 138, 17⟩
-- 59..60: steps 978 rows [special-get-raises]
def o70_3 (P : Params) : Obj := ⟨(.type "dict"), none, (.dict (List.toArray [en P "__name__" 165 (.str "law_sl0031_01" 2533), en P "__doc__" 166 .none, en P "__package__" 167 .none, en P "__loader__" 168 (.builtin "__main__.__loader__#opaque"), en P "__spec__" 169 .none, en P "__annotations__" 170 (.ref 6), en P "__builtins__" 171 (.ref 4), en P "__file__" 173 (.str "/claim/cut.py" 172), en P "__cached__" 174 .none, en P "_wall" 193 (.ref 21), en P "Whitespace" 287 (.ref 83), en P "_iter_escaped_chars" 299 (.ref 94), en P "_strip_quoted_realnames" 311 (.ref 101), en P "b1_set" 373 (.ref 109), en P "in_table_b1" 380 (.ref 119), en P "b3_exceptions" 2331 (.ref 120), en P "map_table_b3" 2339 (.ref 165), en P "LPAR" 2341 (.int 7 2340), en P "RPAR" 2343 (.int 8 2342), en P "LSQB" 2345 (.int 9 2344), en P "RSQB" 2347 (.int 10 2346), en P "COLON" 2349 (.int 11 2348), en P "COMMA" 2351 (.int 12 2350), en P "SEMI" 2353 (.int 13 2352), en P "PLUS" 2355 (.int 14 2354), en P "MINUS" 2357 (.int 15 2356), en P "STAR" 2359 (.int 16 2358), en P "SLASH" 2361 (.int 17 2360), en P "VBAR" 2363 (.int 18 2362), en P "AMPER" 2365 (.int 19 2364), en P "LESS" 2367 (.int 20 2366), en P "GREATER" 2369 (.int 21 2368), en P "EQUAL" 2371 (.int 22 2370), en P "DOT" 2373 (.int 23 2372), en P "PERCENT" 2375 (.int 24 2374), en P "LBRACE" 2377 (.int 25 2376), en P "RBRACE" 2379 (.int 26 2378), en P "EQEQUAL" 2381 (.int 27 2380), en P "NOTEQUAL" 2383 (.int 28 2382), en P "LESSEQUAL" 2385 (.int 29 2384), en P "GREATEREQUAL" 2387 (.int 30 2386), en P "TILDE" 2389 (.int 31 2388), en P "CIRCUMFLEX" 2391 (.int 32 2390), en P "LEFTSHIFT" 2393 (.int 33 2392), en P "RIGHTSHIFT" 2395 (.int 34 2394), en P "DOUBLESTAR" 2397 (.int 35 2396), en P "PLUSEQUAL" 2399 (.int 36 2398), en P "MINEQUAL" 2401 (.int 37 2400), en P "STAREQUAL" 2403 (.int 38 2402), en P "SLASHEQUAL" 2405 (.int 39 2404), en P "PERCENTEQUAL" 2407 (.int 40 2406), en P "AMPEREQUAL" 2409 (.int 41 2408), en P "VBAREQUAL" 2411 (.int 42 2410), en P "CIRCUMFLEXEQUAL" 2413 (.int 43 2412), en P "LEFTSHIFTEQUAL" 2415 (.int 44 2414), en P "RIGHTSHIFTEQUAL" 2417 (.int 45 2416), en P "DOUBLESTAREQUAL" 2419 (.int 46 2418), en P "DOUBLESLASH" 2421 (.int 47 2420), en P "DOUBLESLASHEQUAL" 2423 (.int 48 2422), en P "AT" 2425 (.int 49 2424), en P "ATEQUAL" 2427 (.int 50 2426), en P "RARROW" 2429 (.int 51 2428), en P "ELLIPSIS" 2431 (.int 52 2430), en P "COLONEQUAL" 2433 (.int 53 2432), en P "EXCLAMATION" 2435 (.int 54 2434), en P "EXACT_TOKEN_TYPES" 2532 (.ref 166), en P "_law_signs" 2540 (.ref 175), en P "_law_unseen" 2546 (.ref 180), en P "_law_name" 2561 (.ref 187), en P "_law_drawn" 2567 (.ref 192), en P "_law_lines" 2573 (.ref 197), en P "_law_indent" 2579 (.ref 202), en P "_law_other" 2585 (.ref 207), en P "_law_fold" 2591 (.ref 212), en P "law" 2597 (.ref 217)]) 75), #[]⟩
def o70_12 (P : Params) : Obj := ⟨.none, none, (.fields #[(.int 1 0), (.int 0 0), (.ref 20), (.int 5 0), (.int 0 0), (.ref 27), (.int 49 0), (.int 0 0), (.ref 93), (.int 62 0), (.int 0 0), (.ref 100), (.int 82 0), (.int 0 0), (.ref 118), (.int 85 0), (.int 0 0), (.ref 164), (.int 140 0), (.int 0 0), (.ref 174), (.int 142 0), (.int 0 0), (.ref 179), (.int 145 0), (.int 0 0), (.ref 186), (.int 164 0), (.int 0 0), (.ref 191), (.int 175 0), (.int 0 0), (.ref 196), (.int 202 0), (.int 0 0), (.ref 201), (.int 207 0), (.int 0 0), (.ref 206), (.int 219 0), (.int 0 0), (.ref 211), (.int 229 0), (.int 0 0), (.ref 216)]), #[]⟩
def o70_169 (P : Params) : Obj := ot0
def o70_170 (P : Params) : Obj := of0
def o70_171 (P : Params) : Obj := ot0
def o70_172 (P : Params) : Obj := ot0
def o70_173 (P : Params) : Obj := ⟨.none, none, (.func (fnOfSt (st1 61) "_law_signs" 0 .none .none 0)), #[]⟩
def o70_174 (P : Params) : Obj := ⟨(.type "code"), none, (.fields #[(.str "_law_signs" 2535), (.str "_law_signs" 2536), (.str "/claim/cut.py" 2537), (.int 140 0), (.int 0 0), (.int 0 0), (.int 0 0), (.int 3 0), (.ref 169), (.bool true), (.int 181 0), (.ref 170), .none, (.ref 171), (.ref 172), (.ref 173), (.int 2538 0), (.int 140 0), (.str "/claim/cut.py" 2539)]), #[]⟩
def o70_175 (P : Params) : Obj := ⟨(.type "function"), none, (.func (fnOfSt (st1 61) "_law_signs" 3 (.str "law_sl0031_01" 2533) (.ref 174) 0)), #[]⟩
def o70_176 (P : Params) : Obj := ot0
def o70_177 (P : Params) : Obj := of0
def o70_178 (P : Params) : Obj := ⟨.none, none, (.func (fnOfSt (st1 62) "_law_unseen" 0 .none .none 0)), #[]⟩
def o70_179 (P : Params) : Obj := ⟨(.type "code"), none, (.fields #[(.str "_law_unseen" 2541), (.str "_law_unseen" 2542), (.str "/claim/cut.py" 2543), (.int 142 0), (.int 2 0), (.int 0 0), (.int 0 0), (.int 3 0), (.ref 176), (.bool true), (.int 181 0), (.ref 177), .none, .none, .none, (.ref 178), (.int 2544 0), (.int 142 0), (.str "/claim/cut.py" 2545)]), #[]⟩
def o70_180 (P : Params) : Obj := ⟨(.type "function"), none, (.func (fnOfSt (st1 62) "_law_unseen" 3 (.str "law_sl0031_01" 2533) (.ref 179) 0)), #[]⟩
def o70_181 (P : Params) : Obj := ot0
def o70_182 (P : Params) : Obj := of0
def o70_183 (P : Params) : Obj := ⟨(.type "tuple"), none, (.seq #[(.str "x" 2550), (.str "draw" 2551), (.str "letter" 2552), (.str "bases" 2553), (.str "edges" 2554), (.str "rare" 2555), (.str "name" 2556), (.str "seen" 2557), (.str "remark" 2558)] 0), #[]⟩
def o70_184 (P : Params) : Obj := ot0
def o70_185 (P : Params) : Obj := ⟨.none, none, (.func (fnOfSt (st1 63) "_law_name" 0 .none .none 0)), #[]⟩
def o70_186 (P : Params) : Obj := ⟨(.type "code"), none, (.fields #[(.str "_law_name" 2547), (.str "_law_name" 2548), (.str "/claim/cut.py" 2549), (.int 145 0), (.int 1 0), (.int 0 0), (.int 0 0), (.int 3 0), (.ref 181), (.bool true), (.int 181 0), (.ref 182), .none, (.ref 183), (.ref 184), (.ref 185), (.int 2559 0), (.int 145 0), (.str "/claim/cut.py" 2560)]), #[]⟩
def o70_187 (P : Params) : Obj := ⟨(.type "function"), none, (.func (fnOfSt (st1 63) "_law_name" 3 (.str "law_sl0031_01" 2533) (.ref 186) 0)), #[]⟩
def o70_188 (P : Params) : Obj := ot0
def o70_189 (P : Params) : Obj := of0
def o70_190 (P : Params) : Obj := ⟨.none, none, (.func (fnOfSt (st1 64) "_law_drawn" 0 .none .none 0)), #[]⟩
def o70_191 (P : Params) : Obj := ⟨(.type "code"), none, (.fields #[(.str "_law_drawn" 2562), (.str "_law_drawn" 2563), (.str "/claim/cut.py" 2564), (.int 164 0), (.int 1 0), (.int 0 0), (.int 0 0), (.int 3 0), (.ref 188), (.bool true), (.int 181 0), (.ref 189), .none, .none, .none, (.ref 190), (.int 2565 0), (.int 164 0), (.str "/claim/cut.py" 2566)]), #[]⟩
def o70_192 (P : Params) : Obj := ⟨(.type "function"), none, (.func (fnOfSt (st1 64) "_law_drawn" 3 (.str "law_sl0031_01" 2533) (.ref 191) 0)), #[]⟩
def o70_193 (P : Params) : Obj := ot0
def o70_194 (P : Params) : Obj := of0
def o70_195 (P : Params) : Obj := ⟨.none, none, (.func (fnOfSt (st1 65) "_law_lines" 0 .none .none 0)), #[]⟩
def o70_196 (P : Params) : Obj := ⟨(.type "code"), none, (.fields #[(.str "_law_lines" 2568), (.str "_law_lines" 2569), (.str "/claim/cut.py" 2570), (.int 175 0), (.int 1 0), (.int 0 0), (.int 0 0), (.int 3 0), (.ref 193), (.bool true), (.int 181 0), (.ref 194), .none, .none, .none, (.ref 195), (.int 2571 0), (.int 175 0), (.str "/claim/cut.py" 2572)]), #[]⟩
def o70_197 (P : Params) : Obj := ⟨(.type "function"), none, (.func (fnOfSt (st1 65) "_law_lines" 3 (.str "law_sl0031_01" 2533) (.ref 196) 0)), #[]⟩
def o70_198 (P : Params) : Obj := ot0
def o70_199 (P : Params) : Obj := of0
def o70_200 (P : Params) : Obj := ⟨.none, none, (.func (fnOfSt (st1 66) "_law_indent" 0 .none .none 0)), #[]⟩
def o70_201 (P : Params) : Obj := ⟨(.type "code"), none, (.fields #[(.str "_law_indent" 2574), (.str "_law_indent" 2575), (.str "/claim/cut.py" 2576), (.int 202 0), (.int 3 0), (.int 0 0), (.int 0 0), (.int 3 0), (.ref 198), (.bool true), (.int 181 0), (.ref 199), .none, .none, .none, (.ref 200), (.int 2577 0), (.int 202 0), (.str "/claim/cut.py" 2578)]), #[]⟩
def o70_202 (P : Params) : Obj := ⟨(.type "function"), none, (.func (fnOfSt (st1 66) "_law_indent" 3 (.str "law_sl0031_01" 2533) (.ref 201) 0)), #[]⟩
def o70_203 (P : Params) : Obj := ot0
def o70_204 (P : Params) : Obj := of0
def o70_205 (P : Params) : Obj := ⟨.none, none, (.func (fnOfSt (st1 67) "_law_other" 0 .none .none 0)), #[]⟩
def o70_206 (P : Params) : Obj := ⟨(.type "code"), none, (.fields #[(.str "_law_other" 2580), (.str "_law_other" 2581), (.str "/claim/cut.py" 2582), (.int 207 0), (.int 1 0), (.int 0 0), (.int 0 0), (.int 3 0), (.ref 203), (.bool true), (.int 181 0), (.ref 204), .none, .none, .none, (.ref 205), (.int 2583 0), (.int 207 0), (.str "/claim/cut.py" 2584)]), #[]⟩
def o70_207 (P : Params) : Obj := ⟨(.type "function"), none, (.func (fnOfSt (st1 67) "_law_other" 3 (.str "law_sl0031_01" 2533) (.ref 206) 0)), #[]⟩
def o70_208 (P : Params) : Obj := ot0
def o70_209 (P : Params) : Obj := of0
def o70_210 (P : Params) : Obj := ⟨.none, none, (.func (fnOfSt (st1 68) "_law_fold" 0 .none .none 0)), #[]⟩
def o70_211 (P : Params) : Obj := ⟨(.type "code"), none, (.fields #[(.str "_law_fold" 2586), (.str "_law_fold" 2587), (.str "/claim/cut.py" 2588), (.int 219 0), (.int 3 0), (.int 0 0), (.int 0 0), (.int 3 0), (.ref 208), (.bool true), (.int 181 0), (.ref 209), .none, .none, .none, (.ref 210), (.int 2589 0), (.int 219 0), (.str "/claim/cut.py" 2590)]), #[]⟩
def o70_212 (P : Params) : Obj := ⟨(.type "function"), none, (.func (fnOfSt (st1 68) "_law_fold" 3 (.str "law_sl0031_01" 2533) (.ref 211) 0)), #[]⟩
def o70_213 (P : Params) : Obj := ot0
def o70_214 (P : Params) : Obj := of0
def o70_215 (P : Params) : Obj := ⟨.none, none, (.func (fnOfSt (st1 69) "law" 0 .none .none 0)), #[]⟩
def o70_216 (P : Params) : Obj := ⟨(.type "code"), none, (.fields #[(.str "law" 2592), (.str "law" 2593), (.str "/claim/cut.py" 2594), (.int 229 0), (.int 1 0), (.int 0 0), (.int 0 0), (.int 3 0), (.ref 213), (.bool true), (.int 181 0), (.ref 214), .none, .none, .none, (.ref 215), (.int 2595 0), (.int 229 0), (.str "/claim/cut.py" 2596)]), #[]⟩
def o70_217 (P : Params) : Obj := ⟨(.type "function"), none, (.func (fnOfSt (st1 69) "law" 3 (.str "law_sl0031_01" 2533) (.ref 216) 0)), #[]⟩
noncomputable def tr70 (P : Params) : BT := (.node (boot_o_0 P) (.node (boot_o_1 P) (.node (o70_3 P) (.node (boot_o_7 P) (.node (o3_15 P) (.node (o3_31 P) (.node (o3_63 P) (lf (o10_127 P)) (lf (o70_191 P))) (.node (o7_95 P) (lf (o59_159 P)) .nil)) (.node (o3_47 P) (.node (o3_79 P) (lf (o10_143 P)) (lf (o70_207 P))) (.node (o8_111 P) (lf (o70_175 P)) .nil))) (.node (o3_23 P) (.node (o3_39 P) (.node (o3_71 P) (lf (o10_135 P)) (lf (o70_199 P))) (.node (o8_103 P) (lf (o60_167 P)) .nil)) (.node (o3_55 P) (.node (o3_87 P) (lf (o10_151 P)) (lf (o70_215 P))) (.node (o9_119 P) (lf (o70_183 P)) .nil)))) (.node (oA_11 P) (.node (o3_19 P) (.node (o3_35 P) (.node (o3_67 P) (lf (o10_131 P)) (lf (o70_195 P))) (.node (o7_99 P) (lf (o59_163 P)) .nil)) (.node (o3_51 P) (.node (o3_83 P) (lf (o10_147 P)) (lf (o70_211 P))) (.node (o9_115 P) (lf (o70_179 P)) .nil))) (.node (o3_27 P) (.node (o3_43 P) (.node (o3_75 P) (lf (o10_139 P)) (lf (o70_203 P))) (.node (o8_107 P) (lf (o70_171 P)) .nil)) (.node (o3_59 P) (.node (o7_91 P) (lf (o10_155 P)) .nil) (.node (o10_123 P) (lf (o70_187 P)) .nil))))) (.node (boot_o_5 P) (.node (boot_o_9 P) (.node (o3_17 P) (.node (o3_33 P) (.node (o3_65 P) (lf (o10_129 P)) (lf (o70_193 P))) (.node (o7_97 P) (lf (o59_161 P)) .nil)) (.node (o3_49 P) (.node (o3_81 P) (lf (o10_145 P)) (lf (o70_209 P))) (.node (o9_113 P) (lf (o70_177 P)) .nil))) (.node (o3_25 P) (.node (o3_41 P) (.node (o3_73 P) (lf (o10_137 P)) (lf (o70_201 P))) (.node (o8_105 P) (lf (o70_169 P)) .nil)) (.node (o3_57 P) (.node (o7_89 P) (lf (o10_153 P)) (lf (o70_217 P))) (.node (o10_121 P) (lf (o70_185 P)) .nil)))) (.node (oA_13 P) (.node (o3_21 P) (.node (o3_37 P) (.node (o3_69 P) (lf (o10_133 P)) (lf (o70_197 P))) (.node (o7_101 P) (lf (o59_165 P)) .nil)) (.node (o3_53 P) (.node (o3_85 P) (lf (o10_149 P)) (lf (o70_213 P))) (.node (o9_117 P) (lf (o70_181 P)) .nil))) (.node (o3_29 P) (.node (o3_45 P) (.node (o3_77 P) (lf (o10_141 P)) (lf (o70_205 P))) (.node (o8_109 P) (lf (o70_173 P)) .nil)) (.node (o3_61 P) (.node (o7_93 P) (lf (o10_157 P)) .nil) (.node (o10_125 P) (lf (o70_189 P)) .nil)))))) (.node (boot_o_2 P) (.node (boot_o_4 P) (.node (boot_o_8 P) (.node (o3_16 P) (.node (o3_32 P) (.node (o3_64 P) (lf (o10_128 P)) (lf (o70_192 P))) (.node (o7_96 P) (lf (o59_160 P)) .nil)) (.node (o3_48 P) (.node (o3_80 P) (lf (o10_144 P)) (lf (o70_208 P))) (.node (o8_112 P) (lf (o70_176 P)) .nil))) (.node (o3_24 P) (.node (o3_40 P) (.node (o3_72 P) (lf (o10_136 P)) (lf (o70_200 P))) (.node (o8_104 P) (lf (o60_168 P)) .nil)) (.node (o3_56 P) (.node (o7_88 P) (lf (o10_152 P)) (lf (o70_216 P))) (.node (o10_120 P) (lf (o70_184 P)) .nil)))) (.node (o70_12 P) (.node (o3_20 P) (.node (o3_36 P) (.node (o3_68 P) (lf (o10_132 P)) (lf (o70_196 P))) (.node (o7_100 P) (lf (o59_164 P)) .nil)) (.node (o3_52 P) (.node (o3_84 P) (lf (o10_148 P)) (lf (o70_212 P))) (.node (o9_116 P) (lf (o70_180 P)) .nil))) (.node (o3_28 P) (.node (o3_44 P) (.node (o3_76 P) (lf (o10_140 P)) (lf (o70_204 P))) (.node (o8_108 P) (lf (o70_172 P)) .nil)) (.node (o3_60 P) (.node (o7_92 P) (lf (o10_156 P)) .nil) (.node (o10_124 P) (lf (o70_188 P)) .nil))))) (.node (boot_o_6 P) (.node (boot_o_10 P) (.node (o3_18 P) (.node (o3_34 P) (.node (o3_66 P) (lf (o10_130 P)) (lf (o70_194 P))) (.node (o7_98 P) (lf (o59_162 P)) .nil)) (.node (o3_50 P) (.node (o3_82 P) (lf (o10_146 P)) (lf (o70_210 P))) (.node (o9_114 P) (lf (o70_178 P)) .nil))) (.node (o3_26 P) (.node (o3_42 P) (.node (o3_74 P) (lf (o10_138 P)) (lf (o70_202 P))) (.node (o8_106 P) (lf (o70_170 P)) .nil)) (.node (o3_58 P) (.node (o7_90 P) (lf (o10_154 P)) .nil) (.node (o10_122 P) (lf (o70_186 P)) .nil)))) (.node (oA_14 P) (.node (o3_22 P) (.node (o3_38 P) (.node (o3_70 P) (lf (o10_134 P)) (lf (o70_198 P))) (.node (o8_102 P) (lf (o60_166 P)) .nil)) (.node (o3_54 P) (.node (o3_86 P) (lf (o10_150 P)) (lf (o70_214 P))) (.node (o9_118 P) (lf (o70_182 P)) .nil))) (.node (o3_30 P) (.node (o3_46 P) (.node (o3_78 P) (lf (o10_142 P)) (lf (o70_206 P))) (.node (o8_110 P) (lf (o70_174 P)) .nil)) (.node (o3_62 P) (.node (o7_94 P) (lf (o10_158 P)) .nil) (.node (o10_126 P) (lf (o70_190 P)) .nil)))))))
noncomputable def S70 (w : World) (os : OsState) : SharedT := ⟨tr70 w.params, 218, {}, #[], {}, 2598, os⟩
def pos70 : Pos := ⟨229, 0, 247, 15⟩
-- 60..70: steps 256 rows []
noncomputable def H1 (P : Params) : Heap := ⟨Array.mk [boot_o_0 P, boot_o_1 P, boot_o_2 P, o70_3 P, boot_o_4 P, boot_o_5 P, boot_o_6 P, boot_o_7 P, boot_o_8 P, boot_o_9 P, boot_o_10 P, oA_11 P, o70_12 P, oA_13 P, oA_14 P, o3_15 P, o3_16 P, o3_17 P, o3_18 P, o3_19 P, o3_20 P, o3_21 P, o3_22 P, o3_23 P, o3_24 P, o3_25 P, o3_26 P, o3_27 P, o3_28 P, o3_29 P, o3_30 P, o3_31 P, o3_32 P, o3_33 P, o3_34 P, o3_35 P, o3_36 P, o3_37 P, o3_38 P, o3_39 P, o3_40 P, o3_41 P, o3_42 P, o3_43 P, o3_44 P, o3_45 P, o3_46 P, o3_47 P, o3_48 P, o3_49 P, o3_50 P, o3_51 P, o3_52 P, o3_53 P, o3_54 P, o3_55 P, o3_56 P, o3_57 P, o3_58 P, o3_59 P, o3_60 P, o3_61 P, o3_62 P, o3_63 P, o3_64 P, o3_65 P, o3_66 P, o3_67 P, o3_68 P, o3_69 P, o3_70 P, o3_71 P, o3_72 P, o3_73 P, o3_74 P, o3_75 P, o3_76 P, o3_77 P, o3_78 P, o3_79 P, o3_80 P, o3_81 P, o3_82 P, o3_83 P, o3_84 P, o3_85 P, o3_86 P, o3_87 P, o7_88 P, o7_89 P, o7_90 P, o7_91 P, o7_92 P, o7_93 P, o7_94 P, o7_95 P, o7_96 P, o7_97 P, o7_98 P, o7_99 P, o7_100 P, o7_101 P, o8_102 P, o8_103 P, o8_104 P, o8_105 P, o8_106 P, o8_107 P, o8_108 P, o8_109 P, o8_110 P, o8_111 P, o8_112 P, o9_113 P, o9_114 P, o9_115 P, o9_116 P, o9_117 P, o9_118 P, o9_119 P, o10_120 P, o10_121 P, o10_122 P, o10_123 P, o10_124 P, o10_125 P, o10_126 P, o10_127 P, o10_128 P, o10_129 P, o10_130 P, o10_131 P, o10_132 P, o10_133 P, o10_134 P, o10_135 P, o10_136 P, o10_137 P, o10_138 P, o10_139 P, o10_140 P, o10_141 P, o10_142 P, o10_143 P, o10_144 P, o10_145 P, o10_146 P, o10_147 P, o10_148 P, o10_149 P, o10_150 P, o10_151 P, o10_152 P, o10_153 P, o10_154 P, o10_155 P, o10_156 P, o10_157 P, o10_158 P, o59_159 P, o59_160 P, o59_161 P, o59_162 P, o59_163 P, o59_164 P, o59_165 P, o60_166 P, o60_167 P, o60_168 P, o70_169 P, o70_170 P, o70_171 P, o70_172 P, o70_173 P, o70_174 P, o70_175 P, o70_176 P, o70_177 P, o70_178 P, o70_179 P, o70_180 P, o70_181 P, o70_182 P, o70_183 P, o70_184 P, o70_185 P, o70_186 P, o70_187 P, o70_188 P, o70_189 P, o70_190 P, o70_191 P, o70_192 P, o70_193 P, o70_194 P, o70_195 P, o70_196 P, o70_197 P, o70_198 P, o70_199 P, o70_200 P, o70_201 P, o70_202 P, o70_203 P, o70_204 P, o70_205 P, o70_206 P, o70_207 P, o70_208 P, o70_209 P, o70_210 P, o70_211 P, o70_212 P, o70_213 P, o70_214 P, o70_215 P, o70_216 P, o70_217 P], {}⟩
noncomputable def K (P : Params) : Frag := [(nat_lit 0, boot_o_0 P), (nat_lit 1, boot_o_1 P), (nat_lit 2, boot_o_2 P), (nat_lit 3, o70_3 P), (nat_lit 4, boot_o_4 P), (nat_lit 5, boot_o_5 P), (nat_lit 6, boot_o_6 P), (nat_lit 7, boot_o_7 P), (nat_lit 8, boot_o_8 P), (nat_lit 9, boot_o_9 P), (nat_lit 10, boot_o_10 P), (nat_lit 11, oA_11 P), (nat_lit 12, o70_12 P), (nat_lit 13, oA_13 P), (nat_lit 14, oA_14 P), (nat_lit 15, o3_15 P), (nat_lit 16, o3_16 P), (nat_lit 17, o3_17 P), (nat_lit 18, o3_18 P), (nat_lit 19, o3_19 P), (nat_lit 20, o3_20 P), (nat_lit 21, o3_21 P), (nat_lit 22, o3_22 P), (nat_lit 23, o3_23 P), (nat_lit 24, o3_24 P), (nat_lit 25, o3_25 P), (nat_lit 26, o3_26 P), (nat_lit 27, o3_27 P), (nat_lit 28, o3_28 P), (nat_lit 29, o3_29 P), (nat_lit 30, o3_30 P), (nat_lit 31, o3_31 P), (nat_lit 32, o3_32 P), (nat_lit 33, o3_33 P), (nat_lit 34, o3_34 P), (nat_lit 35, o3_35 P), (nat_lit 36, o3_36 P), (nat_lit 37, o3_37 P), (nat_lit 38, o3_38 P), (nat_lit 39, o3_39 P), (nat_lit 40, o3_40 P), (nat_lit 41, o3_41 P), (nat_lit 42, o3_42 P), (nat_lit 43, o3_43 P), (nat_lit 44, o3_44 P), (nat_lit 45, o3_45 P), (nat_lit 46, o3_46 P), (nat_lit 47, o3_47 P), (nat_lit 48, o3_48 P), (nat_lit 49, o3_49 P), (nat_lit 50, o3_50 P), (nat_lit 51, o3_51 P), (nat_lit 52, o3_52 P), (nat_lit 53, o3_53 P), (nat_lit 54, o3_54 P), (nat_lit 55, o3_55 P), (nat_lit 56, o3_56 P), (nat_lit 57, o3_57 P), (nat_lit 58, o3_58 P), (nat_lit 59, o3_59 P), (nat_lit 60, o3_60 P), (nat_lit 61, o3_61 P), (nat_lit 62, o3_62 P), (nat_lit 63, o3_63 P), (nat_lit 64, o3_64 P), (nat_lit 65, o3_65 P), (nat_lit 66, o3_66 P), (nat_lit 67, o3_67 P), (nat_lit 68, o3_68 P), (nat_lit 69, o3_69 P), (nat_lit 70, o3_70 P), (nat_lit 71, o3_71 P), (nat_lit 72, o3_72 P), (nat_lit 73, o3_73 P), (nat_lit 74, o3_74 P), (nat_lit 75, o3_75 P), (nat_lit 76, o3_76 P), (nat_lit 77, o3_77 P), (nat_lit 78, o3_78 P), (nat_lit 79, o3_79 P), (nat_lit 80, o3_80 P), (nat_lit 81, o3_81 P), (nat_lit 82, o3_82 P), (nat_lit 83, o3_83 P), (nat_lit 84, o3_84 P), (nat_lit 85, o3_85 P), (nat_lit 86, o3_86 P), (nat_lit 87, o3_87 P), (nat_lit 88, o7_88 P), (nat_lit 89, o7_89 P), (nat_lit 90, o7_90 P), (nat_lit 91, o7_91 P), (nat_lit 92, o7_92 P), (nat_lit 93, o7_93 P), (nat_lit 94, o7_94 P), (nat_lit 95, o7_95 P), (nat_lit 96, o7_96 P), (nat_lit 97, o7_97 P), (nat_lit 98, o7_98 P), (nat_lit 99, o7_99 P), (nat_lit 100, o7_100 P), (nat_lit 101, o7_101 P), (nat_lit 102, o8_102 P), (nat_lit 103, o8_103 P), (nat_lit 104, o8_104 P), (nat_lit 105, o8_105 P), (nat_lit 106, o8_106 P), (nat_lit 107, o8_107 P), (nat_lit 108, o8_108 P), (nat_lit 109, o8_109 P), (nat_lit 110, o8_110 P), (nat_lit 111, o8_111 P), (nat_lit 112, o8_112 P), (nat_lit 113, o9_113 P), (nat_lit 114, o9_114 P), (nat_lit 115, o9_115 P), (nat_lit 116, o9_116 P), (nat_lit 117, o9_117 P), (nat_lit 118, o9_118 P), (nat_lit 119, o9_119 P), (nat_lit 120, o10_120 P), (nat_lit 159, o59_159 P), (nat_lit 160, o59_160 P), (nat_lit 161, o59_161 P), (nat_lit 162, o59_162 P), (nat_lit 163, o59_163 P), (nat_lit 164, o59_164 P), (nat_lit 165, o59_165 P), (nat_lit 166, o60_166 P), (nat_lit 167, o60_167 P), (nat_lit 168, o60_168 P), (nat_lit 169, o70_169 P), (nat_lit 170, o70_170 P), (nat_lit 171, o70_171 P), (nat_lit 172, o70_172 P), (nat_lit 173, o70_173 P), (nat_lit 174, o70_174 P), (nat_lit 175, o70_175 P), (nat_lit 176, o70_176 P), (nat_lit 177, o70_177 P), (nat_lit 178, o70_178 P), (nat_lit 179, o70_179 P), (nat_lit 180, o70_180 P), (nat_lit 181, o70_181 P), (nat_lit 182, o70_182 P), (nat_lit 183, o70_183 P), (nat_lit 184, o70_184 P), (nat_lit 185, o70_185 P), (nat_lit 186, o70_186 P), (nat_lit 187, o70_187 P), (nat_lit 188, o70_188 P), (nat_lit 189, o70_189 P), (nat_lit 190, o70_190 P), (nat_lit 191, o70_191 P), (nat_lit 192, o70_192 P), (nat_lit 193, o70_193 P), (nat_lit 194, o70_194 P), (nat_lit 195, o70_195 P), (nat_lit 196, o70_196 P), (nat_lit 197, o70_197 P), (nat_lit 198, o70_198 P), (nat_lit 199, o70_199 P), (nat_lit 200, o70_200 P), (nat_lit 201, o70_201 P), (nat_lit 202, o70_202 P), (nat_lit 203, o70_203 P), (nat_lit 204, o70_204 P), (nat_lit 205, o70_205 P), (nat_lit 206, o70_206 P), (nat_lit 207, o70_207 P), (nat_lit 208, o70_208 P), (nat_lit 209, o70_209 P), (nat_lit 210, o70_210 P), (nat_lit 211, o70_211 P), (nat_lit 212, o70_212 P), (nat_lit 213, o70_213 P), (nat_lit 214, o70_214 P), (nat_lit 215, o70_215 P), (nat_lit 216, o70_216 P), (nat_lit 217, o70_217 P)]
abbrev pw : Program := PySem.Challenge.pw_sl0031_01
def tEnv : Env := { scope := PySem.Challenge.pw_sl0031_01.main.scope, locals := mainNs, globals := mainNs, cells := [], code := .ref 13, frame := some 14 }
abbrev tCode : Code := .body (behindTheImports PySem.Challenge.pw_sl0031_01) tEnv
abbrev tFr : Frame := topFrame ⟨0, 0, 0, 0⟩

theorem seg_quick {w : World} {n : Nat} {s : SharedT} {t : Thread} {r : Option (Flow × SharedT × Code × Pos)} (h : Fast.tw10110043849684766642 Fast.tw14364793385576792824 pw w 11 (some (.ref 6)) 1 n s t = r) :
  segRunT treeTable pw w 11 (some (.ref 6)) 1 n s t = r := by
 rw [Fast.te10110043849684766642, Fast.te14364793385576792824]; exact h

abbrev Piece (n i k : Nat) (S S' : World → OsState → SharedT) (pos pos' : Pos) : Prop := ∀ (w : World) (os : OsState), segRunT treeTable pw w 11 (some (.ref 6)) 1 n (S w os) (piecesOf (stq i k) tEnv tCode pos [tFr]) = some (.next, S' w os, tCode, pos')



theorem piece70 : Piece 257 60 10 S60 S70 pos60 pos70 := fun w os => seg_quick (by kernel_rfl)
theorem piece7 : Piece 85 3 4 S3 S7 pos3 pos7 := fun w os => seg_quick (by kernel_rfl)
theorem piece9 : Piece 30 8 1 S8 S9 pos8 pos9 := fun w os => seg_quick (by kernel_rfl)
theorem piece59 : Piece 463 10 49 S10 S59 pos10 pos59 := fun w os => seg_quick (by kernel_rfl)

theorem piece_rows {n i k : Nat} {S S' : World → OsState → SharedT} {pos pos' : Pos}
  (hf : ∀ (w : World) (os : OsState), segRunT treeTable pw (w.withFollow "special-get-raises" false) 11 (some (.ref 6)) 1 n (S (w.withFollow "special-get-raises" false) os) (piecesOf (stq i k) tEnv tCode pos [tFr]) = some (.next, S' (w.withFollow "special-get-raises" false) os, tCode, pos'))
  (ht : ∀ (w : World) (os : OsState), segRunT treeTable pw (w.withFollow "special-get-raises" true) 11 (some (.ref 6)) 1 n (S (w.withFollow "special-get-raises" true) os) (piecesOf (stq i k) tEnv tCode pos [tFr]) = some (.next, S' (w.withFollow "special-get-raises" true) os, tCode, pos')) :
  Piece n i k S S' pos pos' := fun w => byRow2 "special-get-raises" (P := fun w => ∀ os : OsState, segRunT treeTable pw w 11 (some (.ref 6)) 1 n (S w os) (piecesOf (stq i k) tEnv tCode pos [tFr]) = some (.next, S' w os, tCode, pos')) hf ht w

theorem piece3 : Piece 523 0 3 SA S3 posA pos3 := piece_rows (fun w os => seg_quick (by kernel_rfl)) (fun w os => seg_quick (by kernel_rfl))
theorem piece8 : Piece 999 7 1 S7 S8 pos7 pos8 := piece_rows (fun w os => seg_quick (by kernel_rfl)) (fun w os => seg_quick (by kernel_rfl))
theorem piece60 : Piece 979 59 1 S59 S60 pos59 pos60 := piece_rows (fun w os => seg_quick (by kernel_rfl)) (fun w os => seg_quick (by kernel_rfl))

theorem items_eq {env : Env} {P : Pos} : ∀ (ks : List (Option Expr)) (vs : List Expr), pairsOk ks vs = true →
  (evalEachOpt ks env).zip ((evalEach vs env).map fun v => do let x ← v; standAt P; pure x) = (pairsOf ks vs).map (item P)
 | [], [], _ => rfl
 | some (.Constant (.int (.ofNat k)) a b) :: ks, .Constant (.str x) c d :: vs, h => by
  have h' : pairsOk ks vs = true := h
  have ih := items_eq (env := env) (P := P) ks vs h'
  show (evalOpt (some (.Constant (.int (.ofNat k)) a b)) env, _) :: ((evalEachOpt ks env).zip ((evalEach vs env).map fun v => do let x ← v; standAt P; pure x)) = _
  rw [ih]
  rfl

/-- a rising list of numbers -/
def rising : List Nat → Bool
 | a :: b :: l => Nat.blt a b && rising (b :: l)
 | _ => true
theorem rising_pairwise : ∀ (l : List Nat), rising l = true → l.Pairwise (· < ·)
 | [], _ => .nil
 | [a], _ => by simp
 | a :: b :: l, h => by
  obtain ⟨h1, h2⟩ := Bool.and_eq_true_iff.mp h
  have hab : a < b := Nat.le_of_ble_eq_true h1
  have ih := rising_pairwise (b :: l) h2
  refine List.pairwise_cons.mpr ⟨fun c hc => ?_, ih⟩
  rcases List.mem_cons.mp hc with rfl | hc
  ·exact hab
  ·exact Nat.lt_trans hab ((List.pairwise_cons.mp ih).1 c hc)

theorem b3_ok : pairsOk b3ks b3vs = true := by kernel_rfl
theorem b3_rising : rising (b3L.map (·.1)) = true := by kernel_rfl
theorem b3_small : b3L.all (fun x => Nat.blt x.1 200000) = true := by kernel_rfl
theorem b3_length : b3L.length = 650 := by kernel_rfl
theorem b3_rises : Rises [] b3L := by
 refine ⟨?_, fun x hx => ?_⟩
 ·simp only [List.map_nil, List.nil_append]
  have := rising_pairwise _ b3_rising
  have h2 : List.Pairwise (α := Nat) (fun a b => (a : Int) < (b : Int)) (b3L.map (fun x => x.1)) := List.Pairwise.imp (fun h => Int.ofNat_lt.mpr h) this
  have e : b3L.map (fun x => (x.1 : Int)) = (b3L.map (fun x => x.1)).map (fun (n : Nat) => (n : Int)) := by simp
  rw [e, List.pairwise_map]
  exact h2
 ·have := List.all_eq_true.mp b3_small x hx
  have : x.1 < 200000 := Nat.le_of_ble_eq_true this
  omega
theorem b3_good : Good [] [] b3L := ⟨b3_rises, fun h => absurd rfl h, by rw [b3_length]; simp⟩
theorem b3_last : ((sim b3L [] [] 381).2.1.length, (sim b3L [] [] 381).2.2, (flush1 (sim b3L [] [] 381).1 (sim b3L [] [] 381).2.1 (sim b3L [] [] 381).2.2).length) = (4, 2319, 39) := by kernel_rfl

abbrev tSite (w : World) : Site := ⟨pw, w, 11, some (.ref 6), tCode, tFr, []⟩

theorem store_eq (v : Value) : storeName tEnv "b3_exceptions" v = nsSet 3 "b3_exceptions" v := by kernel_rfl
theorem kind_ok : swapsWith (.Dict b3ks b3vs b3P) (some (.Name "b3_exceptions" b3p1)) b3p0.line tEnv = pure false := rfl
theorem st9_eq : st1 9 = .Assign [.Name "b3_exceptions" b3p1] (.Dict b3ks b3vs b3P) b3p0 := by kernel_rfl

theorem tr_at {Z : Site} {α : Type} {s s' : Shared} {pos pos' q : Pos} {n : Nat} {m : Sem α} {a : α} (h : Tr Z n m s q a s' pos') : Tr Z (1 + n) (do standAt q; m) s pos a s' pos' :=
 Tr.bind (n₁ := 1) (n₂ := n) .standAt h

theorem tr_nsSet {Z : Site} {s : Shared} {pos : Pos} {name : Str} {v : Value} {o : Obj} {es : Array DictEntry} {ep : Nat} (e : s.heap.get? 3 = some o) (hd : o.data = .dict es ep) (hr : aRefKeyMayBeTheName name es = false) :
  Tr Z 4 (nsSet 3 name v) s pos () { s with heap := s.heap.update 3 (Obj.putName name (PyData.keyHash Z.w.params name) (.str name s.toks) v), toks := s.toks + 1 } pos := by
 unfold nsSet
 refine Tr.bind (n₁ := 1) (n₂ := 3) (a := PyData.keyHash Z.w.params name) (Tr.bind (n₁ := 1) (n₂ := 0) .ask .pure) ?_
 refine Tr.bind (n₁ := 1) (n₂ := 2) tr_mkText ?_
 refine Tr.bind (n₁ := 1) (n₂ := 1) (Tr.loadPart (s := { s with toks := s.toks + 1 }) e) ?_
 rw [hd]
 dsimp only
 rw [hr, if_neg Bool.false_ne_true]
 exact Tr.updatePart (s := { s with toks := s.toks + 1 }) e (.inr rfl)

theorem ext_get_old {h : Heap} {l : List Obj} {a : Addr} {o : Obj} (e : h.get? a = some o) : (ext h l).get? a = some o := by
 obtain ⟨e1, e2⟩ := Heap.get?_some_iff.mp e
 refine Heap.get?_some_iff.mpr ⟨?_, e2⟩
 have lt := Heap.lt_size e
 simp only [ext]
 rw [Array.getElem?_append_left lt]
 exact e1

theorem S9_size (w : World) (os : OsState) : (S9 w os).abs.heap.objs.size = 120 := absHeap_size ..
noncomputable def o9main (P : Params) : Obj := ((tr9 P).get 3).getD default
theorem S9_main (w : World) (os : OsState) : (S9 w os).abs.heap.get? 3 = some (o9main w.params) := by
 have : (absHeap (tr9 w.params) 120 {}).get? 3 = alive (o9main w.params) := abs_get (by omega) (by kernel_rfl)
 exact this.trans (by kernel_rfl)
def esOf (o : Obj) : Array DictEntry := match o.data with | .dict es _ => es | _ => #[]
def epOf (o : Obj) : Nat := match o.data with | .dict _ n => n | _ => 0
theorem S9_main_data (P : Params) : (o9main P).data = .dict (esOf (o9main P)) (epOf (o9main P)) ∧ aRefKeyMayBeTheName "b3_exceptions" (esOf (o9main P)) = false := ⟨by kernel_rfl, by kernel_rfl⟩

theorem run9 (w : World) (os : OsState) : Tr (tSite w) 214855 (exec (st1 9) tEnv) (S9 w os).abs pos9 .next
  ⟨(ext (S9 w os).abs.heap (b3Dicts.map dob)).update 3 (Obj.putName "b3_exceptions" (PyData.keyHash w.params "b3_exceptions") (.str "b3_exceptions" 2331) (.ref 120)), #[], {}, 2332, os⟩ b3p1 := by
 obtain ⟨hd, hr⟩ := S9_main_data w.params
 have hl := Prod.mk.inj b3_last
 have hl2 := Prod.mk.inj hl.2
 have hsz : 1 < (S9 w os).abs.heap.objs.size := by rw [S9_size]; omega
 have D := tr_display (Z := tSite w) (P := b3P) (h := (S9 w os).abs.heap) (g := #[]) (d := {}) (os := os) (l := b3L) (T := 381) (by rw [S9_size]; show 11 ≤ 120; omega) hsz b3_good (by
  intro q; rw [q] at hl; cases hl.1)
 have e2 : (sim b3L [] [] 381).2.2 + 3 * (sim b3L [] [] 381).2.1.length = 2331 := by rw [hl2.1, hl.1]
 rw [e2, S9_size, b3_length] at D
 rw [st9_eq, exec_Assign_Name tEnv "b3_exceptions" b3p1 (.Dict b3ks b3vs b3P) b3p0 kind_ok]
 refine Tr.mono (n := 1 + (214831 + (1 + (6 + 0)))) ?_ (by omega)
 refine tr_at (Tr.bind (n₁ := 214831) (a := Value.ref 120) (s₁ := dst (S9 w os).abs.heap #[] {} os b3Dicts 2331) (pos₁ := b3P) ?_ (tr_at ?_))
 ·show Tr (tSite w) (1 + (330 * 650 + 330)) (do standAt b3P; dictDisplay ((evalEachOpt b3ks tEnv).zip ((evalEach b3vs tEnv).map fun v => do let x ← v; standAt b3P; pure x))) _ _ _ _ _
  rw [items_eq _ _ b3_ok]
  exact tr_at D
 ·refine Tr.bind (n₁ := 6) (n₂ := 0) (a := ()) ?_ .pure
  unfold bindName
  refine Tr.bind (n₁ := 1) (n₂ := 5) (a := ()) (Tr.holding .point) ?_
  refine Tr.bind (n₁ := 4) (n₂ := 1) (a := ()) ?_ .point
  rw [store_eq]
  exact tr_nsSet (s := dst (S9 w os).abs.heap #[] {} os b3Dicts 2331) (ext_get_old (S9_main w os)) hd hr

theorem heap10 (w : World) (os : OsState) : (⟨(ext (S9 w os).abs.heap (b3Dicts.map dob)).update 3 (Obj.putName "b3_exceptions" (PyData.keyHash w.params "b3_exceptions") (.str "b3_exceptions" 2331) (.ref 120)), #[], {}, 2332, os⟩ : Shared) = (S10 w os).abs := by
 kernel_rfl
theorem pos10_is : b3p1 = pos10 := by kernel_rfl

theorem step10 {w : World} {os : OsState} {rest : List Stmt} {N : Nat} {r : Shared} (h : topRun treeTable pw w 11 (some (.ref 6)) N (S10 w os).abs (restOf rest tEnv tCode pos10 [tFr]) = some r) :
  topRun treeTable pw w 11 (some (.ref 6)) (214855 + N) (S9 w os).abs (restOf (st1 9 :: rest) tEnv tCode pos9 [tFr]) = some r := by
 unfold restOf
 rw [PySem.execs_cons_wrap]
 refine run9 w os _ _ _ _ _ _ ?_
 rw [heap10, pos10_is]
 exact h

theorem body_is : behindTheImports pw = stq 0 3 ++ (stq 3 4 ++ (stq 7 1 ++ (stq 8 1 ++ (st1 9 :: (stq 10 49 ++ (stq 59 1 ++ (stq 60 10 ++ []))))))) := by kernel_rfl

theorem pre_run (w : World) (os : OsState) : topGo treeTable pw w 11 (some (.ref 6)) 12 ⟨boot_heap w.params, Array.mk [], boot_drawn, boot_toks, os⟩ (topStub pw) =
  some ((SA w os).abs, ⟨denote treeTable tCode, tCode, posA, [tFr]⟩) := by
 rw [Fast.te15667345088766844465, Fast.te14364793385576792824, Fast.te11892475500146522536]
 kernel_rfl
theorem block_run (w : World) (os : OsState) : segRun treeTable pw w 11 (some (.ref 6)) 1 1 (SA w os).abs (blockOf (behindTheImports pw) tEnv tCode posA [tFr]) = some (.next, (SA w os).abs, tCode, posA) := by
 kernel_rfl
theorem fin_run (w : World) (os : OsState) : topRun treeTable pw w 11 (some (.ref 6)) 2 (S70 w os).abs ⟨doneF .next, tCode, pos70, [tFr]⟩ = some ⟨H1 w.params, Array.mk [], {}, 2598, os⟩ := by
 kernel_rfl

def topN : Nat := 12 + (1 + (523 + (85 + (999 + (30 + (214855 + (463 + (979 + (257 + 2)))))))))
theorem top_run (w : World) (os : OsState) : topRun treeTable pw w 11 (some (.ref 6)) topN ⟨boot_heap w.params, Array.mk [], boot_drawn, boot_toks, os⟩ (topStub pw) = some ⟨H1 w.params, Array.mk [], {}, 2598, os⟩ := by
 refine go_top (pre_run w os) ?_
 refine piece_block (block_run w os) ?_
 rw [body_is]
 refine piece_app (segRun_of (piece3 w os)) ?_
 refine piece_app (segRun_of (piece7 w os)) ?_
 refine piece_app (segRun_of (piece8 w os)) ?_
 refine piece_app (segRun_of (piece9 w os)) ?_
 refine step10 ?_
 refine piece_app (segRun_of (piece59 w os)) ?_
 refine piece_app (segRun_of (piece60 w os)) ?_
 refine piece_app (segRun_of (piece70 w os)) ?_
 exact piece_nil (fin_run w os)

def qv : Program := { PySem.Challenge.pw_sl0031_01 with main := { PySem.Challenge.pw_sl0031_01.main with body := [st1 69] } }
def loose : List Str := (pw.boundNames.filter fun n => n != ("law" : Str)).eraseDups
def asK : List Addr := List.range 121 ++ List.range' 159 59
theorem asK_is (P : Params) : asK = (K P).map (·.1) := by kernel_rfl
noncomputable abbrev hK : Hook := kHook K asK asK_is
abbrev lw : OpenLaw := PySem.Challenge.rw_sl0031_01
def topXt (s : Shared) : Bool := xlAt qv [] s && recOk (RowW.records lw.row.toRowW) s

theorem looks1 (w : World) (os : OsState) : (staticsOk (importedModules pw.main.body) (boot_heap w.params) (H1 w.params) && namesBound pw (H1 w.params) && gensDone ⟨H1 w.params, Array.mk [], {}, 2598, os⟩ && laidKept (boot_heap w.params) (H1 w.params)) = true := by kernel_rfl
theorem looks3 (w : World) (os : OsState) : hK.obs ⟨H1 w.params, Array.mk [], {}, 2598, os⟩ = hK.val w := by kernel_rfl
theorem size0 (w : World) : ((boot_heap w.params).isNs mainGlobals && (Array.mk [] : Array GenState).size == 0, (boot_heap w.params).objs.size, (boot_heap w.params).nsMap mainGlobals "__annotations__") = (true, 11, some (.ref 6)) := by kernel_rfl
theorem open0 : ∀ w : World, (fencedOpening treeTable pw w 500000).map (fun s => (s.heap, s.gens, s.drawn, s.toks)) = some (boot_heap w.params, Array.mk [], boot_drawn, boot_toks) :=
 boot_open (by kernel_rfl) (by rfl) (fun s => by kernel_rfl)

theorem looks2 (w : World) (os : OsState) : openSeen qv loose (importedModules pw.main.body) topXt true ⟨H1 w.params, Array.mk [], {}, 2598, os⟩ = openGood qv loose := by
 rw [Fast.te4187177175401517315]
 kernel_rfl

theorem left0 : LeftO pw qv loose topXt hK.obs hK.val 500000 :=
 LeftO.of_pieces open0 size0 top_run (by kernel_rfl) (fun w => funext fun os => looks_pair (looks1 w os) (looks_pair (looks2 w os) (looks3 w os)))

/-! ## plain values, and how a heap bears them -/
inductive PV where
 | none
 | bool (b : Bool)
 | int (i : Int)
 | str (s : Str)
 | tup (vs : List PV)
 | lst (vs : List PV)
 | ws (cnt : List Int) (b : Int)
 | arg (vs : List PV)

abbrev lobj (xs : Array Value) (n : Nat) : Obj := { cls := .type "list", data := .seq xs n }
abbrev tobj (xs : Array Value) (n : Nat) : Obj := { cls := .type "tuple", data := .seq xs n }

mutual
inductive Rep (V : List Addr) (h : Heap) : PV → Value → Prop
 | none : Rep V h .none .none
 | bool {b : Bool} : Rep V h (.bool b) (.bool b)
 | int {i : Int} {t : Tok} : Rep V h (.int i) (.int i t)
 | str {s : Str} {t : Tok} : Rep V h (.str s) (.str s t)
 | tup {vs : List PV} {a : Addr} {xs : List Value} {n : Nat} : a ∉ V → h.get? a = some (tobj xs.toArray n) → Reps V h vs xs → Rep V h (.tup vs) (.ref a)
 | lst {vs : List PV} {a : Addr} {xs : List Value} {n : Nat} : a ∉ V → h.get? a = some (lobj xs.toArray n) → Reps V h vs xs → Rep V h (.lst vs) (.ref a)
 | ws {cnt : List Int} {b : Int} {a d : Addr} {es : List DictEntry} {n : Nat} {nv : Value} : a ∉ V → d ∉ V → h.get? a = some (instObj 83 d) → h.get? d = some (dictOf es n) →
   getL "norm" es = some (some nv) → getL "equal" es = some Option.none → Rep V h (.tup [.tup (cnt.map .int), .int b]) nv → Rep V h (.ws cnt b) (.ref a)
 | arg {vs : List PV} {a : Addr} {o : Obj} {xs : Array Value} {n : Nat} : a ∉ V → h.get? a = some o → o.cls = .type "list" → o.data = .seq xs n → Reps V h vs xs.toList → Rep V h (.arg vs) (.ref a)
inductive Reps (V : List Addr) (h : Heap) : List PV → List Value → Prop
 | nil : Reps V h [] []
 | cons {v : PV} {x : Value} {vs : List PV} {xs : List Value} : Rep V h v x → Reps V h vs xs → Reps V h (v :: vs) (x :: xs)
end

mutual
theorem Rep.mono {V V' : List Addr} {h h' : Heap} (hk : ∀ x o, x ∉ V → h.get? x = some o → h'.get? x = some o) (hv : ∀ x ∈ V', x ∈ V ∨ h.get? x = Option.none) : ∀ {v : PV} {val : Value}, Rep V h v val → Rep V' h' v val
 | _, _, .none => .none
 | _, _, .bool => .bool
 | _, _, .int => .int
 | _, _, .str => .str
 | _, _, .tup ha e r => .tup (fun hm => by rcases hv _ hm with q | q; exact ha q; rw [e] at q; cases q) (hk _ _ ha e) (Reps.mono hk hv r)
 | _, _, .lst ha e r => .lst (fun hm => by rcases hv _ hm with q | q; exact ha q; rw [e] at q; cases q) (hk _ _ ha e) (Reps.mono hk hv r)
 | _, _, .ws ha hd e ed e1 e2 r => .ws (fun hm => by rcases hv _ hm with q | q; exact ha q; rw [e] at q; cases q) (fun hm => by rcases hv _ hm with q | q; exact hd q; rw [ed] at q; cases q)
   (hk _ _ ha e) (hk _ _ hd ed) e1 e2 (Rep.mono hk hv r)
 | _, _, .arg ha e c dd r => .arg (fun hm => by rcases hv _ hm with q | q; exact ha q; rw [e] at q; cases q) (hk _ _ ha e) c dd (Reps.mono hk hv r)
theorem Reps.mono {V V' : List Addr} {h h' : Heap} (hk : ∀ x o, x ∉ V → h.get? x = some o → h'.get? x = some o) (hv : ∀ x ∈ V', x ∈ V ∨ h.get? x = Option.none) : ∀ {vs : List PV} {xs : List Value}, Reps V h vs xs → Reps V' h' vs xs
 | _, _, .nil => .nil
 | _, _, .cons r rs => .cons (Rep.mono hk hv r) (Reps.mono hk hv rs)
end

theorem Rep.keeps {V : List Addr} {h h' : Heap} {v : PV} {val : Value} (r : Rep V h v val) (hk : ∀ x o, h.get? x = some o → h'.get? x = some o) : Rep V h' v val := r.mono (fun x o _ e => hk x o e) fun x hx => .inl hx
theorem Reps.keeps {V : List Addr} {h h' : Heap} {vs : List PV} {xs : List Value} (r : Reps V h vs xs) (hk : ∀ x o, h.get? x = some o → h'.get? x = some o) : Reps V h' vs xs := r.mono (fun x o _ e => hk x o e) fun x hx => .inl hx

section
variable {V : List Addr} {h : Heap}
theorem Rep.int_inv {i : Int} {val : Value} (r : Rep V h (.int i) val) : ∃ t, val = .int i t := by cases r; exact ⟨_, rfl⟩
theorem Rep.str_inv {x : Str} {val : Value} (r : Rep V h (.str x) val) : ∃ t, val = .str x t := by cases r; exact ⟨_, rfl⟩
theorem Rep.bool_inv {b : Bool} {val : Value} (r : Rep V h (.bool b) val) : val = .bool b := by cases r; rfl
theorem Rep.none_inv {val : Value} (r : Rep V h .none val) : val = .none := by cases r; rfl
theorem Rep.tup_inv {vs : List PV} {val : Value} (r : Rep V h (.tup vs) val) : ∃ a xs n, val = .ref a ∧ a ∉ V ∧ h.get? a = some (tobj xs.toArray n) ∧ Reps V h vs xs := by
 cases r with | tup a b c => exact ⟨_, _, _, rfl, a, b, c⟩
theorem Rep.lst_inv {vs : List PV} {val : Value} (r : Rep V h (.lst vs) val) : ∃ a xs n, val = .ref a ∧ a ∉ V ∧ h.get? a = some (lobj xs.toArray n) ∧ Reps V h vs xs := by
 cases r with | lst a b c => exact ⟨_, _, _, rfl, a, b, c⟩
theorem Reps.length {vs : List PV} {xs : List Value} (r : Reps V h vs xs) : xs.length = vs.length := by
 induction vs generalizing xs with
 | nil => cases r; rfl
 | cons v vs ih => cases r with | cons _ r => simp [ih r]
theorem Reps.get {vs : List PV} {xs : List Value} (r : Reps V h vs xs) {i : Nat} {v : PV} (e : vs[i]? = some v) : ∃ x, xs[i]? = some x ∧ Rep V h v x := by
 induction vs generalizing xs i with
 | nil => simp at e
 | cons u vs ih =>
  cases r with
  | cons r rs =>
   cases i with
   | zero => simp at e; subst e; exact ⟨_, by simp, r⟩
   | succ i => simp at e; simpa using ih rs e
theorem Reps.append {vs ws : List PV} {xs ys : List Value} (r : Reps V h vs xs) (q : Reps V h ws ys) : Reps V h (vs ++ ws) (xs ++ ys) := by
 induction vs generalizing xs with
 | nil => cases r; exact q
 | cons v vs ih => cases r with | cons r rs => exact .cons r (ih rs)
theorem Reps.drop {vs : List PV} {xs : List Value} (r : Reps V h vs xs) : ∀ k, Reps V h (vs.drop k) (xs.drop k) := by
 intro k
 induction k generalizing vs xs with
 | zero => simpa using r
 | succ k ih => cases r with
  | nil => simp; exact .nil
  | cons r rs => simpa using ih rs
theorem Reps.take {vs : List PV} {xs : List Value} (r : Reps V h vs xs) : ∀ k, Reps V h (vs.take k) (xs.take k) := by
 intro k
 induction k generalizing vs xs with
 | zero => simp; exact .nil
 | succ k ih => cases r with
  | nil => simp; exact .nil
  | cons r rs => simpa using Reps.cons r (ih rs)
theorem Reps.reverse {vs : List PV} {xs : List Value} (r : Reps V h vs xs) : Reps V h vs.reverse xs.reverse := by
 induction vs generalizing xs with
 | nil => cases r; exact .nil
 | cons v vs ih => cases r with
  | cons r rs => simp only [List.reverse_cons]; exact (ih rs).append (.cons r .nil)
end

/-! ## what the top left -/
def KIn (w : World) (h : Heap) : Prop := (K w.params).In h
theorem KIn.keeps {w : World} {h h' : Heap} (x : KIn w h) (k : ∀ b o, h.get? b = some o → h'.get? b = some o) : KIn w h' := Frag.In.keeps x k

noncomputable def kObj (P : Params) (a : Addr) : Obj := ((K P).lookup a).getD default
theorem KIn.get {w : World} {h : Heap} (x : KIn w h) {a : Addr} {o : Obj} (e : (K w.params).lookup a = some o) : h.get? a = some o := x a o e
def strKeysB (es : Array DictEntry) : Bool := es.toList.all fun e => match e.key with | .str _ _ => true | _ => false
theorem strKeys_of {es : Array DictEntry} (h : strKeysB es = true) : StrKeys es := fun e he => by
 have := List.all_eq_true.mp h e (Array.mem_toList_iff.mpr he)
 revert this
 cases e.key <;> simp

noncomputable def nsK (P : Params) (a : Addr) (x : Str) : Option Value := nsFind (esOf (kObj P a)) x
theorem KIn.ns {w : World} {h : Heap} (x : KIn w h) (a : Addr) (e : (K w.params).lookup a = some (kObj w.params a)) (hd : (kObj w.params a).data = .dict (esOf (kObj w.params a)) (epOf (kObj w.params a))) (hs : strKeysB (esOf (kObj w.params a)) = true) :
  h.Ns a (nsK w.params a) := ⟨_, _, _, x a _ e, hd, strKeys_of hs, fun _ => rfl⟩
theorem KIn.main {w : World} {h : Heap} (x : KIn w h) : h.Ns 3 (nsK w.params 3) := x.ns 3 (by kernel_rfl) (by kernel_rfl) (by kernel_rfl)
theorem KIn.blt {w : World} {h : Heap} (x : KIn w h) : h.Ns 0 (nsK w.params 0) := x.ns 0 (by kernel_rfl) (by kernel_rfl) (by kernel_rfl)
theorem KIn.nolimit {w : World} {h : Heap} (x : KIn w h) : h.NoLimit := ⟨_, x.ns 2 (by kernel_rfl) (by kernel_rfl) (by kernel_rfl), by kernel_rfl⟩
end SL
namespace SL
open PySem PySem.W PySem.Calls PyProof.Rows
open PySem.Builtin PySem.Builtin.Str PySem.Builtin.Int

/-! ## a small reading of the language: names hold trees, or lists that are the frame's own -/
inductive Slot where
 | u
 | v (x : PV)
 | o (vs : List PV)
 | oo (rows : List (List PV))
 | inst (a : Addr)

abbrev Rho := List (Str × Slot)
abbrev Sc := List (Str × NameKind)

def Rho.put (x : Str) (sl : Slot) : Rho → Rho
 | [] => [(x, sl)]
 | (y, t) :: r => if x == y then (y, sl) :: r else (y, t) :: Rho.put x sl r

theorem Rho.put_look (x : Str) (sl : Slot) (y : Str) : ∀ (ρ : Rho), (ρ.put x sl).lookup y = if y == x then some sl else ρ.lookup y
 | [] => by
  show List.lookup y [(x, sl)] = _
  rw [List.lookup_cons]
  cases y == x <;> simp
 | (z, t) :: r => by
  unfold Rho.put
  by_cases h : (x == z) = true
  ·rw [if_pos h]
   have := beq_iff_eq.mp h
   subst this
   rw [List.lookup_cons, List.lookup_cons]
   cases y == x <;> simp
  ·rw [if_neg h, List.lookup_cons, List.lookup_cons, Rho.put_look x sl y r]
   cases e : y == z with
   | false => simp
   | true =>
    have := beq_iff_eq.mp e
    subst this
    have : (y == x) = false := by
     cases q : y == x with
     | false => rfl
     | true => rw [beq_iff_eq.mp q] at h; simp at h
    rw [this]; simp

inductive Md where
 | v | l | f
 deriving DecidableEq

/-- what the text's own names mean -/
structure G where
 fn : Str → List PV → Option PV
 gen : Str → List PV → Option (List PV)
 get : Str → List PV → Option PV
 has : Str → PV → Option Bool

def sizeOk (n : Nat) : Bool := Nat.ble n 16000000
/-- tests of ints against written numbers, so made that they do not unfold on an int that is not written -/
def natLe (i : Int) (m : Nat) : Bool := match i with
 | .ofNat k => Nat.ble k m
 | .negSucc _ => false
def intOk (i : Int) : Bool := Nat.ble i.natAbs 4000000000000000000
theorem natLe_iff {i : Int} {m : Nat} : natLe i m = true ↔ 0 ≤ i ∧ i ≤ m := by
 cases i with
 | ofNat k =>
  show Nat.ble k m = true ↔ _
  rw [Nat.ble_eq]
  constructor
  ·intro h; exact ⟨Int.natCast_nonneg k, Int.ofNat_le.mpr h⟩
  ·intro h; exact Int.ofNat_le.mp h.2
 | negSucc k => exact ⟨fun h => (nomatch h), fun h => absurd h.1 (by simp)⟩
theorem intOk_iff {i : Int} : intOk i = true ↔ i.natAbs ≤ 4000000000000000000 := by unfold intOk; rw [Nat.ble_eq]

def binop : Operator → PV → PV → Option PV
 | .Add, .int a, .int b => some (.int (a + b))
 | .Add, .str a, .str b => if sizeOk (a.length + b.length) then some (.str (a ++ b)) else none
 | .Add, .lst a, .lst b => if sizeOk (a.length + b.length) then some (.lst (a ++ b)) else none
 | .Sub, .int a, .int b => some (.int (a - b))
 | .Mult, .int a, .int b => if intOk a && intOk b then some (.int (a * b)) else none
 | .Mult, .int n, .str x => if natLe n 1000 && Nat.ble x.length 1000 then some (.str (Txt.mul x n)) else none
 | .Mult, .str x, .int n => if natLe n 1000 && Nat.ble x.length 1000 then some (.str (Txt.mul x n)) else none
 | .Mult, .lst [x], .int n => if natLe n 1000 then some (.lst (List.replicate n.toNat x)) else none
 | .Mod, .int a, .int b => if decide (0 < b) then some (.int (a.fmod b)) else none
 | .FloorDiv, .int a, .int b => if decide (0 < b) && decide (b < 1000000) then some (.int (a.fdiv b)) else none
 | .Pow, .int a, .int b => if decide (0 ≤ a) && decide (a ≤ 10) && decide (0 ≤ b) && decide (b ≤ 6) then some (.int (a ^ b.toNat)) else none
 | _, _, _ => none

mutual
def PV.data : PV → Option PyData
 | .none => some .none
 | .bool b => some (.bool b)
 | .int i => some (.int i)
 | .str x => some (.str x)
 | .lst vs => (PV.datas vs).map .list
 | .tup vs => (PV.datas vs).map .tuple
 | .ws _ _ => Option.none
 | .arg _ => Option.none
def PV.datas : List PV → Option (List PyData)
 | [] => some []
 | v :: r => match PV.data v, PV.datas r with
  | some d, some ds => some (d :: ds)
  | _, _ => Option.none
end
def dataEq (a b : PV) : Option Bool := match a.data, b.data with
 | some x, some y => if PySem.SeqAt.shaped x && PySem.SeqAt.shaped y then some (PyData.eqv x y) else none
 | _, _ => none

def cmp : CmpOp → PV → PV → Option Bool
 | .Eq, .int a, .int b => some (a == b)
 | .Eq, .str a, .str b => some (a.cps.toList == b.cps.toList)
 | .Eq, .lst a, .lst b => dataEq (.lst a) (.lst b)
 | .Eq, .tup a, .tup b => dataEq (.tup a) (.tup b)
 | .NotEq, .int a, .int b => some (a != b)
 | .NotEq, .str a, .str b => some (a.cps.toList != b.cps.toList)
 | .NotEq, .lst a, .lst b => (dataEq (.lst a) (.lst b)).map (!·)
 | .NotEq, .tup a, .tup b => (dataEq (.tup a) (.tup b)).map (!·)
 | .Lt, .int a, .int b => some (decide (a < b))
 | .LtE, .int a, .int b => some (decide (a ≤ b))
 | .Gt, .int a, .int b => some (decide (a > b))
 | .GtE, .int a, .int b => some (decide (a ≥ b))
 | .In, .int a, .tup [.int b, .int c] => some (b == a || c == a)
 | .NotIn, .str a, .str b => if sizeOk b.length then some (!Txt.contains b a) else none
 | .Is, .none, .none => some true
 | .Is, .int _, .none => some false
 | .Is, .str _, .none => some false
 | .IsNot, .none, .none => some false
 | .IsNot, .int _, .none => some true
 | .IsNot, .str _, .none => some true
 | _, _, _ => none

def strOf (c : Nat) : Str := ⟨#[c]⟩

def idx : PV → PV → Option PV
 | .lst vs, .int i => if intOk i then (seqIndex? i vs.length).bind (vs[·]?) else none
 | .tup vs, .int i => if intOk i then (seqIndex? i vs.length).bind (vs[·]?) else none
 | .str x, .int i => if intOk i then (Txt.charAt x i).map fun c => .str (strOf c) else none
 | _, _ => none

def cutL {α : Type} (xs : List α) (lo hi : Option Int) : List α :=
 (xs.drop (lo.elim 0 (clipAt xs.length))).take (hi.elim xs.length (clipAt xs.length) - lo.elim 0 (clipAt xs.length))
def cutS (x : Str) (lo hi : Option Int) : Str := ⟨(cutL x.cps.toList lo hi).toArray⟩

def partOf : PV → Option (Option Int)
 | .none => some none
 | .int i => some (some i)
 | _ => none

def cut : PV → Option Int → Option Int → Option Int → Option PV
 | .lst vs, none, none, some (-1) => if sizeOk vs.length then some (.lst vs.reverse) else none
 | .lst vs, lo, hi, none => if sizeOk vs.length then some (.lst (cutL vs lo hi)) else none
 | .str x, lo, hi, none => if sizeOk x.length then some (.str (cutS x lo hi)) else none
 | .arg vs, lo, hi, none => if sizeOk vs.length then some (.lst (cutL vs lo hi)) else none
 | _, _, _, _ => none

def allStr : List PV → Option (List Str)
 | [] => some []
 | .str x :: r => (allStr r).map (x :: ·)
 | _ :: _ => none
def allInt : List PV → Option (List Int)
 | [] => some []
 | .int x :: r => (allInt r).map (x :: ·)
 | _ :: _ => none

def leList : List Nat → List Nat → Bool
 | a, b => !(decide (b < a))
def insS (x : Str) : List Str → List Str
 | [] => [x]
 | y :: r => if leList x.cps.toList y.cps.toList then x :: y :: r else y :: insS x r
def sortS : List Str → List Str
 | [] => []
 | x :: r => insS x (sortS r)

def meth (m : Str) (o : PV) (args : List PV) : Option PV :=
 match o, args with
 | .str x, [] => if m == "lower" then (if Nat.ble x.length 1000 then some (.str (Txt.lower x)) else none) else none
 | .str x, [.str y] =>
  if m == "split" then (if !(y.length == 0) && sizeOk x.length && sizeOk (partsBetween x (occurrences x y 0 x.length (x.length + 1)) y.length).length then some (.lst ((Txt.split x y).map .str)) else none)
  else if m == "count" then (if sizeOk x.length then some (.int (Txt.count x y)) else none)
  else if m == "rstrip" then (if sizeOk x.length then some (.str (Txt.rstripChars x y)) else none)
  else none
 | .str x, [.lst vs] =>
  if m == "join" then (match allStr vs with
   | some xs => if JoinOk x xs then some (.str (Txt.join x xs)) else none
   | none => none) else none
 | .lst vs, [.int k] => if m == "count" then (match allInt vs with
   | some xs => some (.int (xs.countP (· == k)))
   | none => none) else none
 | _, _ => none

def blt (f : Str) (args : List PV) : Option PV :=
 match args with
 | [.lst vs] =>
  if f == "len" then (if sizeOk vs.length then some (.int vs.length) else none)
  else if f == "tuple" then (if sizeOk vs.length then some (.tup vs) else none)
  else if f == "sum" then (match allInt vs with
   | some xs => some (.int xs.sum)
   | none => none)
  else if f == "sorted" then (match allStr vs with
   | some xs => if decide (xs.length ≤ 60) then some (.lst ((sortS xs).map .str)) else none
   | none => none)
  else none
 | [.str x] => if f == "len" then (if sizeOk x.length then some (.int x.length) else none)
  else if f == "ord" then (match x.cps.toList with
   | [c] => some (.int c)
   | _ => none) else none
 | [.arg vs] => if f == "len" then (if sizeOk vs.length then some (.int vs.length) else none) else none
 | [.int i] => if f == "chr" then (if natLe i 1114111 then some (.str (strOf i.toNat)) else none) else none
 | _ => none

def rangeL (a b : Int) : List PV := (List.range (b - a).toNat).map fun (k : Nat) => .int (a + (k : Int))
def rangeOf : List PV → Option (List PV)
 | [.int b] => if intOk b && Nat.ble b.toNat 1000 then some (rangeL 0 b) else none
 | [.int a, .int b] => if intOk a && intOk b && Nat.ble (b - a).toNat 1000 then some (rangeL a b) else none
 | _ => none

def glob (sc : Sc) (x : Str) : Bool := sc.lookup x == some .globalImplicit

def relab (sc names : Sc) : Sc := names.map fun (n, k) => if (k == NameKind.free && sc.lookup n == some .cell) then (n, NameKind.cell) else (n, k)

def itemsOf : PV → Option (List PV)
 | .lst vs => if sizeOk vs.length then some vs else none
 | .tup vs => if sizeOk vs.length then some vs else none
 | .str x => if sizeOk x.length then some (x.cps.toList.map fun c => .str (strOf c)) else none
 | _ => none

def compOk (sc : Sc) (scope : Scope) (x : Str) : Bool :=
 scope.names.all (fun y => !(y.2 == .free) || sc.lookup y.1 == some .cell) && scope.names.all (fun y => decide (y.2 ≠ .cell)) && (scope.kind == .function) && scope.names.all (fun y => decide (y.2 = .local → scope.names.lookup y.1 = some .local)) && (scope.names.lookup x == some .local) && !scope.isGenerator && !scope.isCoroutine

def frees (scope : Scope) : List Str := (scope.names.filter fun x => x.2 == .free).map (·.1)

def rangeArgs (sc : Sc) : Expr → Option (List Expr)
 | .Call (.Name f _) args [] _ => if f == "range" && glob sc f then some args else none
 | _ => none
def recvOk : Expr → Bool
 | .Name _ _ => true
 | .Constant _ _ _ => true
 | .Subscript _ _ _ => true
 | _ => false
def tblOf (sc : Sc) : Expr → Option Str
 | .Name t _ => if glob sc t then some t else none
 | _ => none
def flat : PV → Bool
 | .lst _ => false
 | .tup _ => false
 | .ws _ _ => false
 | .arg _ => false
 | _ => true

def turnOf (f : Expr → Option PV) (ifs : List Expr) (elt : Expr) : Option (List PV) :=
 match ifs with
 | [] => (f elt).map ([·])
 | [c] => (match f c with
  | some (.bool true) => (f elt).map ([·])
  | some (.bool false) => some []
  | _ => none)
 | _ => none

def boolGo (f : Expr → Option PV) (op : BoolOp) : List Expr → Option PV
 | [] => none
 | [a] => match f a with
  | some (.bool x) => some (.bool x)
  | _ => none
 | a :: b :: r => match f a with
  | some (.bool x) => (match op, x with
   | .And, false => some (.bool false)
   | .Or, true => some (.bool true)
   | _, _ => boolGo f op (b :: r))
  | _ => none

def ev (Γ : G) : Nat → Md → Sc → Rho → Expr → Option PV
 | 0, _, _, _, _ => none
 | n + 1, md, sc, ρ, e =>
  match e with
  | .List es _ => do
   let vs ← es.mapM (ev Γ n .v sc ρ)
   if sizeOk vs.length then some (.lst vs) else none
  | .ListComp elt [⟨.Name x px, iter, ifs, 0⟩] scope _ =>
   if compOk sc scope x then
    match (match rangeArgs sc iter with
     | some args => (args.mapM (ev Γ n .v sc ρ)).bind rangeOf
     | none => (ev Γ n .l sc ρ iter).bind itemsOf) with
    | some vs => if sizeOk vs.length then
      match vs.mapM (fun v => turnOf (ev Γ n .v (relab sc scope.names) ((x, .v v) :: ρ.filter fun p => scope.names.lookup p.1 == some .free && sc.lookup p.1 == some .cell)) ifs elt) with
      | some ws => some (.lst ws.flatten)
      | none => none
     else none
    | none => none
   else none
  | .BinOp l op r _ => do
   let a ← ev Γ n .l sc ρ l
   let b ← ev Γ n .l sc ρ r
   let c ← binop op a b
   match md, c with
   | .f, .lst _ => some c
   | .f, _ => none
   | _, _ => some c
  | _ => if md == .f then none else match e with
   | .Constant (.int i) _ _ => some (.int i)
   | .Constant (.str x) _ _ => some (.str x)
   | .Constant (.bool b) _ _ => some (.bool b)
   | .Constant .none _ _ => some .none
   | .Name x _ => if x == "__debug__" then none else match ρ.lookup x with
    | some (.v v) => some v
    | some (.o vs) => if md == .l then some (.lst vs) else none
    | _ => none
   | .UnaryOp .USub e _ => do
    match ← ev Γ n .v sc ρ e with
    | .int i => if intOk i then some (.int (-i)) else none
    | _ => none
   | .UnaryOp .Not e _ => do
    match ← ev Γ n .v sc ρ e with
    | .bool b => some (.bool (!b))
    | _ => none
   | .Tuple es _ _ => do
    let vs ← es.mapM (ev Γ n .v sc ρ)
    if sizeOk vs.length then some (.tup vs) else none
   | .IfExp c a b _ => do
    match ← ev Γ n .v sc ρ c with
    | .bool true => ev Γ n .v sc ρ a
    | .bool false => ev Γ n .v sc ρ b
    | _ => none
   | .BoolOp op es _ => boolGo (ev Γ n .v sc ρ) op es
   | .Compare l [op] [r] _ => do
    let a ← ev Γ n .l sc ρ l
    match op, r with
    | .In, .Name t _ => if glob sc t then do some (.bool (← Γ.has t a)) else none
    | _, _ => do
     let b ← ev Γ n .l sc ρ r
     some (.bool (← cmp op a b))
   | .Subscript o (.Slice lo hi st _) _ => do
    let a ← ev Γ n .l sc ρ o
    let l ← (match lo with
     | none => some none
     | some e => do partOf (← ev Γ n .v sc ρ e))
    let h ← (match hi with
     | none => some none
     | some e => do partOf (← ev Γ n .v sc ρ e))
    let s ← (match st with
     | none => some none
     | some e => do partOf (← ev Γ n .v sc ρ e))
    cut a l h s
   | .Subscript o i _ => do
    let a ← ev Γ n .l sc ρ o
    let k ← ev Γ n .v sc ρ i
    idx a k
   | .Call (.Name f _) args [] _ =>
    if !glob sc f || f == "equal" then none else
    if f == "list" then (match args with
     | [e] => (match rangeArgs sc e with
      | some as => do some (.lst (← rangeOf (← as.mapM (ev Γ n .v sc ρ))))
      | none => none)
     | _ => none)
    else if f == "len" || f == "ord" || f == "chr" || f == "sum" || f == "sorted" || f == "tuple" then do
     match args with
     | [a] => blt f [← ev Γ n .l sc ρ a]
     | _ => none
    else match args.mapM (ev Γ n .v sc ρ) with
     | some vs => Γ.fn f vs
     | none => do
      let r ← Γ.fn f (← args.mapM (ev Γ n .l sc ρ))
      if flat r then some r else none
   | .Call (.Attribute o m apos) args [] pos =>
    if !(apos.endLine == pos.line) || !recvOk o then none else
    match tblOf sc o with
    | some t => if m == "get" then (match args with
     | [e] => do Γ.get t [← ev Γ n .v sc ρ e]
     | [e, e'] => do Γ.get t [← ev Γ n .v sc ρ e, ← ev Γ n .v sc ρ e']
     | _ => none) else none
    | none => do
     let a ← ev Γ n .l sc ρ o
     match args with
     | [] => meth m a []
     | [e] => do
      let b ← ev Γ n .l sc ρ e
      if m == "equal" then Γ.fn m [a, b] else meth m a [b]
     | _ => none
   | _ => none
end SL
namespace SL
open PySem PySem.W PySem.Calls PyProof.Rows

inductive Fl where
 | next | brk | cont
 | ret (v : PV)

def storable (sc : Sc) (x : Str) : Bool := sc.lookup x == some .local || sc.lookup x == some .cell

def bindN (sc : Sc) (own : List (Str × Bool)) (x : Str) (v : PV) (ρ : Rho) : Option Rho :=
 if storable sc x && (own.lookup x).isNone then some (ρ.put x (.v v)) else none

mutual
def bindT (sc : Sc) (own : List (Str × Bool)) : Expr → PV → Rho → Option Rho
 | .Name x _, v, ρ => bindN sc own x v ρ
 | .Tuple ts _ _, .tup vs, ρ => bindTs sc own ts vs ρ
 | .Tuple ts _ _, .lst vs, ρ => bindTs sc own ts vs ρ
 | _, _, _ => none
def bindTs (sc : Sc) (own : List (Str × Bool)) : List Expr → List PV → Rho → Option Rho
 | [], [], ρ => some ρ
 | t :: ts, v :: vs, ρ => (bindT sc own t v ρ).bind (bindTs sc own ts vs)
 | _, _, _ => none
end

def namesOnly : List Expr → Option (List Str)
 | [] => some []
 | .Name x _ :: r => (namesOnly r).map (x :: ·)
 | _ => none

/-- what a store into a frame's own list makes of it -/
def isM1 : Expr → Bool
 | .UnaryOp .USub (.Constant (.int 1) _ _) _ => true
 | .Constant (.int (-1)) _ _ => true
 | _ => false

def flowOf : Option Fl → Option Fl := id

def forGo (body : Rho → Option (Fl × Rho)) (bnd : PV → Rho → Option Rho) : List PV → Rho → Option (Fl × Rho)
 | [], ρ => some (.next, ρ)
 | v :: vs, ρ => do
  let ρ₁ ← bnd v ρ
  match ← body ρ₁ with
  | (.brk, ρ₂) => some (.next, ρ₂)
  | (.ret r, ρ₂) => some (.ret r, ρ₂)
  | (_, ρ₂) => forGo body bnd vs ρ₂

def whileGo (test : Rho → Option PV) (body : Rho → Option (Fl × Rho)) : Nat → Rho → Option (Fl × Rho)
 | 0, _ => none
 | k + 1, ρ => do
  match ← test ρ with
  | .bool false => some (.next, ρ)
  | .bool true => match ← body ρ with
   | (.brk, ρ₂) => some (.next, ρ₂)
   | (.ret r, ρ₂) => some (.ret r, ρ₂)
   | (_, ρ₂) => whileGo test body k ρ₂
  | _ => none

def lastRow (rows : List (List PV)) (f : List PV → Option (List PV)) : Option (List (List PV)) :=
 match rows.reverse with
 | [] => none
 | r :: rs => (f r).map fun r' => rs.reverse ++ [r']

def setAt (vs : List PV) (i : Int) (v : PV) : Option (List PV) :=
 if intOk i && decide (0 ≤ i) then (seqIndex? i vs.length).map fun k => vs.set k v else none


/-- `[p.pop(a), p.pop()]` -/
def popPair : Expr → Option (Str × Expr)
 | .List [.Call (.Attribute (.Name p _) m ap) [a] [] cp, .Call (.Attribute (.Name p' _) m' ap') [] [] cp'] _ =>
  if m == "pop" && m' == "pop" && p == p' && ap.endLine == cp.line && ap'.endLine == cp'.line && !(p == "__debug__") then some (p, a) else none
 | _ => none

/-- is a block's value stored before its names are let go -/
def swapQ (sc : Sc) (value : Expr) (t : Str) (tp : Pos) : Bool :=
 match value with
 | .ListComp _ _ scope p => sc.lookup t == some .local && tp.line == p.line && !(scope.names.any fun (n, k) => n == t && (k == .local || k == .cell))
 | _ => false

section
variable (own : List (Str × Bool)) (sc : Sc) (E : Md → Expr → Option PV) (ρ : Rho)

def asgPop (x p : Str) (a : Expr) : Option (Fl × Rho) :=
 if storable sc x && (own.lookup x).isNone && !(x == p) then
  match ρ.lookup p, E .v a with
  | some (.o vs), some (.int (-2)) => if !sizeOk vs.length then none else (match vs.reverse with
   | b :: a :: r => some (.next, (ρ.put p (.o r.reverse)).put x (.v (.lst [a, b])))
   | _ => none)
  | _, _ => none
 else none

def asgName (x : Str) (e : Expr) : Option (Fl × Rho) :=
 if storable sc x then (match own.lookup x with
  | some false => (match E .f e with
   | some (.lst vs) => some (.next, ρ.put x (.o vs))
   | _ => none)
  | some true => none
  | none => (match E .v e with
   | some v => some (.next, ρ.put x (.v v))
   | none => none))
 else none

/-- `xs, a, b = ([], e, f)`, where xs is to be the frame's own list of own rows -/
def deepTup : List Expr → Expr → Option (Str × List Expr × List Expr)
 | .Name x _ :: ts, .Tuple (.List [] _ :: es) _ _ => if own.lookup x == some true && ts.length == 3 then some (x, ts, es) else none
 | _, _ => none

/-- the order of the stores of `a, b = (e, f)` -/
def swapOf (ts : List Expr) (value : Expr) : Option (Option (List Str)) :=
 match value with
 | .Tuple vs _ _ =>
  if !(ts.length == 2 || ts.length == 3) || vs.length != ts.length then some none
  else if vs.any (fun | .Starred .. => true | _ => false) then some none
  else
   let line := (ts.head?.map (·.pos.line)).getD 0
   let names := ts.filterMap fun
    | .Name id pos => if sc.lookup id == some .local && pos.line == line then some id else none
    | _ => none
   if names.length != ts.length || names.eraseDups.length != names.length then some none
   else if vs.all (foldedForSure 8) then some none
   else if vs.all (constantsAlone 8) then none
   else some (some names)
 | _ => some none
def bindNs : List Str → List PV → Rho → Option Rho
 | [], [], ρ => some ρ
 | x :: xs, v :: vs, ρ => (bindN sc own x v ρ).bind (bindNs xs vs)
 | _, _, _ => none

def asgTup (ts : List Expr) (k : Nat) (p : Pos) (e : Expr) : Option (Fl × Rho) :=
 match deepTup own ts e with
 | some (x, ts', es) => if storable sc x then (match es.mapM (E .v), namesOnly ts' with
  | some vs, some xs => if xs.contains x || !sizeOk (vs.length + 1) then none else (bindTs sc own ts' vs (ρ.put x (.oo []))).map fun ρ' => (.next, ρ')
  | _, _ => none) else none
 | none => (match E .v e with
  | some v => (match swapOf sc ts e with
   | some none => (bindT sc own (.Tuple ts k p) v ρ).map fun ρ' => (.next, ρ')
   | some (some names) => (match v with
    | .tup vs => if vs.length == names.length then (bindNs own sc names.reverse vs.reverse ρ).map fun ρ' => (.next, ρ') else none
    | _ => none)
   | none => none)
  | none => none)

/-- `x[-1][k]` -/
def lastAt : Expr → Expr → Option Str
 | .Subscript (.Name x _) m _, k => if isM1 m && !(x == "__debug__") then some x else none
 | _, _ => none
def nameOf : Expr → Option Str
 | .Name x _ => if x == "__debug__" then none else some x
 | _ => none
def sliceOf : Expr → Option (Expr × Expr)
 | .Slice (some lo) (some hi) none _ => some (lo, hi)
 | _ => none

def asgSlice (x : Str) (lo hi e : Expr) : Option (Fl × Rho) :=
 match ρ.lookup x, E .v e, E .v lo, E .v hi with
 | some (.o vs), some (.lst ws), some (.int l), some (.int h) =>
  if decide (0 ≤ l) && decide (l ≤ h) && decide (h ≤ vs.length) && sizeOk (vs.length + ws.length) then some (.next, ρ.put x (.o (vs.take l.toNat ++ ws ++ vs.drop h.toNat))) else none
 | _, _, _, _ => none
def asgItem (x : Str) (k e : Expr) : Option (Fl × Rho) :=
 match ρ.lookup x, E .v e, E .v k with
 | some (.o vs), some v, some (.int i) => (setAt vs i v).map fun vs' => (.next, ρ.put x (.o vs'))
 | _, _, _ => none
def asgLast (x : Str) (k e : Expr) : Option (Fl × Rho) :=
 match ρ.lookup x, E .v e, E .v k with
 | some (.oo rows), some v, some (.int i) => (lastRow rows fun r => setAt r i v).map fun rows' => (.next, ρ.put x (.oo rows'))
 | _, _, _ => none

def asgSub (o i e : Expr) : Option (Fl × Rho) :=
 match nameOf o with
 | some x => (match sliceOf i with
  | some (lo, hi) => asgSlice E ρ x lo hi e
  | none => asgItem E ρ x i e)
 | none => (match lastAt o i with
  | some x => asgLast E ρ x i e
  | none => none)

def asg1 (t e : Expr) : Option (Fl × Rho) :=
 match t with
 | .Name x _ => (match popPair e with
  | some (p, a) => asgPop own sc E ρ x p a
  | none => asgName own sc E ρ x e)
 | .Tuple ts k p => asgTup own sc E ρ ts k p e
 | .Subscript o i _ => asgSub E ρ o i e
 | _ => none

def asg3 (x y z : Str) (e : Expr) : Option (Fl × Rho) :=
 match E .v e with
 | some v => ((bindN sc own z v ρ).bind fun ρ => (bindN sc own y v ρ).bind fun ρ => bindN sc own x v ρ).map fun ρ' => (.next, ρ')
 | none => none

def plusOf : PV → PV → Option PV
 | .int a, .int b => binop .Add (.int a) (.int b)
 | .str a, .str b => binop .Add (.str a) (.str b)
 | _, _ => none

def augName (x : Str) (px : Pos) (e : Expr) : Option (Fl × Rho) :=
 match E .v (.Name x px), E .v e with
 | some a, some b => (match plusOf a b with
  | some c => (bindN sc own x c ρ).map fun ρ' => (.next, ρ')
  | none => none)
 | _, _ => none
def augLast (x : Str) (k e : Expr) : Option (Fl × Rho) :=
 match ρ.lookup x, E .v k, E .v e with
 | some (.oo rows), some (.int i), some b => (lastRow rows fun r => (idx (.lst r) (.int i)).bind fun a => (plusOf a b).bind fun c => setAt r i c).map fun rows' => (.next, ρ.put x (.oo rows'))
 | _, _, _ => none
def aug (t : Expr) (e : Expr) : Option (Fl × Rho) :=
 match t with
 | .Name x px => augName own sc E ρ x px e
 | .Subscript o k _ => (match lastAt o k with
  | some x => augLast E ρ x k e
  | none => none)
 | _ => none

def appendOf : Expr → Option (Str × Expr)
 | .Call (.Attribute (.Name x _) m ap) [e] [] cp => if m == "append" && ap.endLine == cp.line && !(x == "__debug__") then some (x, e) else none
 | _ => none
def exprS (e : Expr) : Option (Fl × Rho) :=
 match appendOf e with
 | some (x, e) => (match ρ.lookup x with
  | some (.o vs) => (match E .v e with
   | some v => if sizeOk vs.length then some (.next, ρ.put x (.o (vs ++ [v]))) else none
   | none => none)
  | some (.oo rows) => (match E .f e with
   | some (.lst r) => if sizeOk rows.length then some (.next, ρ.put x (.oo (rows ++ [r]))) else none
   | _ => none)
  | _ => none)
 | none => none

def retS (e : Expr) : Option (Fl × Rho) :=
 match nameOf e with
 | some x => (match ρ.lookup x with
  | some (.v v) => some (.ret v, ρ)
  | some (.o vs) => some (.ret (.lst vs), ρ)
  | some (.oo rows) => some (.ret (.lst (rows.map .lst)), ρ)
  | _ => none)
 | none => (E .v e).map fun v => (.ret v, ρ)

def genOf (Γ : G) : Expr → Option (Option (List PV))
 | .Call (.Name f _) args [] _ => if glob sc f then (match args.mapM (E .v) with
   | some vs => (Γ.gen f vs).map some
   | none => none) else none
 | _ => none

end

/-- one statement -/
def run1 (Γ : G) (own : List (Str × Bool)) (sc : Sc) (rec : Rho → List Stmt → Option (Fl × Rho)) (ρ : Rho) (st : Stmt) : Option (Fl × Rho) :=
 match st with
 | .Assign [t] e _ => asg1 own sc (ev Γ 40 · sc ρ ·) ρ t e
 | .Assign [.Name x _, .Name y _, .Name z _] e _ => asg3 own sc (ev Γ 40 · sc ρ ·) ρ z y x e
 | .AugAssign t .Add e _ => aug own sc (ev Γ 40 · sc ρ ·) ρ t e
 | .Expr e _ => exprS (ev Γ 40 · sc ρ ·) ρ e
 | .If c a b _ => (match ev Γ 40 .v sc ρ c with
  | some (.bool true) => rec ρ a
  | some (.bool false) => rec ρ b
  | _ => none)
 | .While c a [] _ => whileGo (ev Γ 40 .v sc · c) (rec · a) 100000 ρ
 | .For t it body [] _ => (match genOf sc (ev Γ 40 · sc ρ ·) Γ it with
  | some (some items) => forGo (rec · body) (bindT sc own t) items ρ
  | _ => (match ev Γ 40 .v sc ρ it with
   | some v => (match itemsOf v with
    | some vs => forGo (rec · body) (bindT sc own t) vs ρ
    | none => none)
   | none => none))
 | .Return (some e) _ => retS (ev Γ 40 · sc ρ ·) ρ e
 | .Break _ => some (.brk, ρ)
 | _ => none

def seqGo (one : Rho → Stmt → Option (Fl × Rho)) : Rho → List Stmt → Option (Fl × Rho)
 | ρ, [] => some (.next, ρ)
 | ρ, st :: r => do
  match ← one ρ st with
  | (.next, ρ') => seqGo one ρ' r
  | x => some x

def run (Γ : G) (own : List (Str × Bool)) (sc : Sc) : Nat → Rho → List Stmt → Option (Fl × Rho)
 | 0, _, _ => none
 | n + 1, ρ, sts => seqGo (run1 Γ own sc (run Γ own sc n)) ρ sts

/-- a function's call -/
def rho0 (names : Sc) : Rho := (names.filter fun x => x.2 == .local || x.2 == .cell).map fun x => (x.1, Slot.u)
def putAll : List (Str × PV) → Rho → Rho
 | [], ρ => ρ
 | (x, v) :: r, ρ => putAll r (ρ.put x (.v v))
def callF (Γ : G) (own : List (Str × Bool)) (n : Nat) (fd : FuncData) (args : List PV) : Option PV := do
 let ps := fd.params.args.map (·.arg)
 if ps.length != args.length then none
 match fd.body with
 | .stmts body => match run Γ own fd.scope.names n (putAll (ps.zip args) (rho0 fd.scope.names)) body with
  | some (.ret v, _) => some v
  | some (.next, _) => some .none
  | _ => none
 | _ => none

/-! ## the reading, turned: what must hold for a run to come to an end that K likes -/
def Br (t : Bool) (X Y : Prop) : Prop := match t with
 | true => X
 | false => Y
theorem Br.mk {t : Bool} {X Y : Prop} (hx : t = true → X) (hy : t = false → Y) : Br t X Y := by cases t; exact hy rfl; exact hx rfl
theorem Br.t {t : Bool} {X Y : Prop} (h : t = true) (hx : X) : Br t X Y := by subst h; exact hx
theorem Br.f {t : Bool} {X Y : Prop} (h : t = false) (hx : Y) : Br t X Y := by subst h; exact hx
def Nd (t : Bool) (X : Prop) : Prop := Br t X False
theorem Nd.mk {t : Bool} {X : Prop} (h : t = true) (hx : X) : Nd t X := Br.t h hx
theorem Nd.out {t : Bool} {X : Prop} (h : Nd t X) : t = true ∧ X := by
 cases t
 ·exact h.elim
 ·exact ⟨rfl, h⟩
def wopt {α : Type} (o : Option α) (k : α → Prop) : Prop := match o with
 | some v => k v
 | none => False
theorem wopt.mk {α : Type} {o : Option α} {k : α → Prop} {v : α} (h : o = some v) (hk : k v) : wopt o k := by subst h; exact hk
theorem wopt.out {α : Type} {o : Option α} {k : α → Prop} (h : wopt o k) : ∃ v, o = some v ∧ k v := by
 cases o with
 | none => exact h.elim
 | some v => exact ⟨v, rfl, h⟩

abbrev KV := PV → Prop
def wevs (f : Expr → KV → Prop) : List Expr → (List PV → Prop) → Prop
 | [], k => k []
 | e :: r, k => f e fun v => wevs f r fun vs => k (v :: vs)
def wmap (f : PV → (List PV → Prop) → Prop) : List PV → (List (List PV) → Prop) → Prop
 | [], k => k []
 | v :: r, k => f v fun w => wmap f r fun ws => k (w :: ws)
def wturn (f : Expr → KV → Prop) (ifs : List Expr) (elt : Expr) (k : List PV → Prop) : Prop :=
 match ifs with
 | [] => f elt fun v => k [v]
 | [c] => f c fun t => match t with
  | .bool b => Br b (f elt fun v => k [v]) (k [])
  | _ => False
 | _ => False
def wbool (f : Expr → KV → Prop) (op : BoolOp) : List Expr → KV → Prop
 | [], _ => False
 | [a], k => f a fun t => match t with
  | .bool x => k (.bool x)
  | _ => False
 | a :: b :: r, k => f a fun t => match t with
  | .bool x => (match op with
   | .And => Br x (wbool f op (b :: r) k) (k (.bool false))
   | .Or => Br x (k (.bool true)) (wbool f op (b :: r) k))
  | _ => False

def ownName (ρ : Rho) : Expr → Bool
 | .Name x _ => match ρ.lookup x with
  | some (.o _) => true
  | _ => false
 | _ => false

def wev (Γ : G) : Nat → Md → Sc → Rho → Expr → KV → Prop
 | 0, _, _, _, _, _ => False
 | n + 1, md, sc, ρ, e, k =>
  match e with
  | .List es _ => wevs (wev Γ n .v sc ρ) es fun vs => Nd (sizeOk vs.length) (k (.lst vs))
  | .ListComp elt [⟨.Name x px, iter, ifs, 0⟩] scope _ => Nd (compOk sc scope x) <|
    (match rangeArgs sc iter with
     | some args => fun (k' : List PV → Prop) => wevs (wev Γ n .v sc ρ) args fun as => wopt (rangeOf as) k'
     | none => fun k' => wev Γ n .l sc ρ iter fun a => wopt (itemsOf a) k') fun vs => Nd (sizeOk vs.length) <|
      wmap (fun v => wturn (wev Γ n .v (relab sc scope.names) ((x, .v v) :: ρ.filter fun p => scope.names.lookup p.1 == some NameKind.free && sc.lookup p.1 == some NameKind.cell)) ifs elt) vs fun ws => k (.lst ws.flatten)
  | .BinOp l op r _ => wev Γ n .l sc ρ l fun a => wev Γ n .l sc ρ r fun b => wopt (binop op a b) fun c => match md, c with
   | .f, .lst _ => k c
   | .f, _ => False
   | _, _ => k c
  | _ => if md == .f then False else match e with
   | .Constant (.int i) _ _ => k (.int i)
   | .Constant (.str x) _ _ => k (.str x)
   | .Constant (.bool b) _ _ => k (.bool b)
   | .Constant .none _ _ => k .none
   | .Name x _ => if x == "__debug__" then False else match ρ.lookup x with
    | some (.v v) => k v
    | some (.o vs) => if md == .l then k (.lst vs) else False
    | _ => False
   | .UnaryOp .USub e _ => wev Γ n .v sc ρ e fun v => match v with
    | .int i => Nd (intOk i) (k (.int (-i)))
    | _ => False
   | .UnaryOp .Not e _ => wev Γ n .v sc ρ e fun v => match v with
    | .bool b => k (.bool (!b))
    | _ => False
   | .Tuple es _ _ => wevs (wev Γ n .v sc ρ) es fun vs => Nd (sizeOk vs.length) (k (.tup vs))
   | .IfExp c a b _ => wev Γ n .v sc ρ c fun v => match v with
    | .bool t => Br t (wev Γ n .v sc ρ a k) (wev Γ n .v sc ρ b k)
    | _ => False
   | .BoolOp op es _ => wbool (wev Γ n .v sc ρ) op es k
   | .Compare l [op] [r] _ => wev Γ n .l sc ρ l fun a => match op, r with
    | .In, .Name t _ => if glob sc t then wopt (Γ.has t a) fun b => k (.bool b) else False
    | _, _ => wev Γ n .l sc ρ r fun b => wopt (cmp op a b) fun c => k (.bool c)
   | .Subscript o (.Slice lo hi st _) _ => wev Γ n .l sc ρ o fun a =>
     (match lo with
      | none => fun (k' : Option Int → Prop) => k' none
      | some e => fun k' => wev Γ n .v sc ρ e fun v => wopt (partOf v) k') fun l =>
     (match hi with
      | none => fun (k' : Option Int → Prop) => k' none
      | some e => fun k' => wev Γ n .v sc ρ e fun v => wopt (partOf v) k') fun h =>
     (match st with
      | none => fun (k' : Option Int → Prop) => k' none
      | some e => fun k' => wev Γ n .v sc ρ e fun v => wopt (partOf v) k') fun s => wopt (cut a l h s) k
   | .Subscript o i _ => wev Γ n .l sc ρ o fun a => wev Γ n .v sc ρ i fun j => wopt (idx a j) k
   | .Call (.Name f _) args [] _ =>
    if !glob sc f || f == "equal" then False else
    if f == "list" then (match args with
     | [e] => (match rangeArgs sc e with
      | some as => wevs (wev Γ n .v sc ρ) as fun vs => wopt (rangeOf vs) fun r => k (.lst r)
      | none => False)
     | _ => False)
    else if f == "len" || f == "ord" || f == "chr" || f == "sum" || f == "sorted" || f == "tuple" then
     (match args with
     | [a] => wev Γ n .l sc ρ a fun v => wopt (blt f [v]) k
     | _ => False)
    else if args.any (ownName ρ) then wevs (wev Γ n .l sc ρ) args fun vs => wopt (Γ.fn f vs) fun r => Nd (flat r) (k r)
    else wevs (wev Γ n .v sc ρ) args fun vs => wopt (Γ.fn f vs) k
   | .Call (.Attribute o m apos) args [] pos =>
    if !(apos.endLine == pos.line) || !recvOk o then False else
    match tblOf sc o with
    | some t => if m == "get" then (match args with
     | [e] => wev Γ n .v sc ρ e fun v => wopt (Γ.get t [v]) k
     | [e, e'] => wev Γ n .v sc ρ e fun v => wev Γ n .v sc ρ e' fun v' => wopt (Γ.get t [v, v']) k
     | _ => False) else False
    | none => wev Γ n .l sc ρ o fun a => match args with
     | [] => wopt (meth m a []) k
     | [e] => wev Γ n .l sc ρ e fun b => if m == "equal" then wopt (Γ.fn m [a, b]) k else wopt (meth m a [b]) k
     | _ => False
   | _ => False

section
variable {Γ : G} {n : Nat} {sc : Sc} {ρ : Rho}
/-- what `wev` says of one expression's reading -/
def Wok (g : Expr → Option PV) (f : Expr → KV → Prop) : Prop := ∀ e k, f e k → ∃ v, g e = some v ∧ k v
theorem wevs_ok {g : Expr → Option PV} {f : Expr → KV → Prop} (h : Wok g f) : ∀ (es : List Expr) (k : List PV → Prop), wevs f es k → ∃ vs, es.mapM g = some vs ∧ k vs
 | [], k, hk => ⟨[], by simp, hk⟩
 | e :: r, k, hk => by
  obtain ⟨v, h1, h2⟩ := h e _ hk
  obtain ⟨vs, h3, h4⟩ := wevs_ok h r _ h2
  exact ⟨v :: vs, by rw [List.mapM_cons, h1, h3]; rfl, h4⟩
theorem wturn_ok {g : Expr → Option PV} {f : Expr → KV → Prop} (h : Wok g f) {ifs : List Expr} {elt : Expr} {k : List PV → Prop} (hk : wturn f ifs elt k) : ∃ w, turnOf g ifs elt = some w ∧ k w := by
 unfold wturn at hk
 unfold turnOf
 split at hk
 ·obtain ⟨v, h1, h2⟩ := h _ _ hk
  exact ⟨[v], by rw [h1]; rfl, h2⟩
 ·obtain ⟨t, h1, h2⟩ := h _ _ hk
  try dsimp only
  rw [h1]
  cases t with
  | bool b =>
   cases b with
   | true =>
    obtain ⟨v, h3, h4⟩ := h _ _ h2
    exact ⟨[v], by dsimp only; rw [h3]; rfl, h4⟩
   | false => exact ⟨[], rfl, h2⟩
  | _ => exact h2.elim
 ·exact hk.elim
theorem wmap_ok {g : PV → Option (List PV)} {f : PV → (List PV → Prop) → Prop} (h : ∀ v k, f v k → ∃ w, g v = some w ∧ k w) : ∀ (vs : List PV) (k : List (List PV) → Prop), wmap f vs k → ∃ ws, vs.mapM g = some ws ∧ k ws
 | [], k, hk => ⟨[], by simp, hk⟩
 | v :: r, k, hk => by
  obtain ⟨w, h1, h2⟩ := h v _ hk
  obtain ⟨ws, h3, h4⟩ := wmap_ok h r _ h2
  exact ⟨w :: ws, by rw [List.mapM_cons, h1, h3]; rfl, h4⟩
theorem wbool_ok {g : Expr → Option PV} {f : Expr → KV → Prop} (h : Wok g f) {op : BoolOp} : ∀ (es : List Expr) (k : KV), wbool f op es k → ∃ v, boolGo g op es = some v ∧ k v
 | [], k, hk => hk.elim
 | [a], k, hk => by
  obtain ⟨t, h1, h2⟩ := h _ _ hk
  unfold boolGo
  rw [h1]
  cases t with
  | bool b => exact ⟨_, rfl, h2⟩
  | _ => exact h2.elim
 | a :: b :: r, k, hk => by
  obtain ⟨t, h1, h2⟩ := h _ _ hk
  unfold boolGo
  rw [h1]
  cases t with
  | bool x =>
   cases op <;> cases x
   ·exact ⟨_, rfl, h2⟩
   ·exact wbool_ok h (b :: r) k h2
   ·exact wbool_ok h (b :: r) k h2
   ·exact ⟨_, rfl, h2⟩
  | _ => exact h2.elim

theorem ownName_none {e : Expr} (h : ownName ρ e = true) : ∀ n, ev Γ n .v sc ρ e = none := fun n => by
 unfold ownName at h
 split at h
 ·split at h
  ·rename_i hx
   cases n with
   | zero => rfl
   | succ n =>
    unfold ev
    simp only
    rw [if_neg (by decide)]
    split
    ·rfl
    ·rw [hx]; rfl
  ·cases h
 ·cases h
theorem own_mapM {g : Expr → Option PV} {p : Expr → Bool} (hp : ∀ e, p e = true → g e = none) : ∀ {es : List Expr}, es.any p = true → es.mapM g = none
 | [], h => by cases h
 | e :: r, h => by
  rw [List.mapM_cons]
  rw [List.any_cons, Bool.or_eq_true] at h
  rcases h with h | h
  ·rw [hp e h]; rfl
  ·rw [own_mapM hp h]; cases g e <;> rfl

theorem wpart_ok {oe : Option Expr} {k : Option Int → Prop} (ih : Wok (ev Γ n .v sc ρ) (wev Γ n .v sc ρ))
  (h : (match oe with
      | none => fun (k' : Option Int → Prop) => k' none
      | some e => fun k' => wev Γ n .v sc ρ e fun v => wopt (partOf v) k') k) :
  ∃ l, (match (generalizing := false) oe with
     | none => some none
     | some e => do partOf (← ev Γ n .v sc ρ e)) = some l ∧ k l := by
 cases oe with
 | none => exact ⟨none, rfl, h⟩
 | some e =>
  obtain ⟨v, h1, h2⟩ := ih e _ h
  obtain ⟨l, h3, h4⟩ := h2.out
  exact ⟨l, by dsimp only; rw [h1]; exact h3, h4⟩
end

theorem evSlice0 {Γ : G} {n : Nat} {md : Md} {sc : Sc} {ρ : Rho} {l u st : Option Expr} {p : Pos} : ev Γ n md sc ρ (.Slice l u st p) = none := by
 cases n with
 | zero => rfl
 | succ n => unfold ev; simp only; split <;> rfl
theorem ev_ListComp {Γ : G} {n : Nat} {md : Md} {sc : Sc} {ρ : Rho} {elt : Expr} {x : Str} {px : Pos} {iter : Expr} {ifs : List Expr} {scope : Scope} {p : Pos} : ev Γ (n + 1) md sc ρ (.ListComp elt [⟨.Name x px, iter, ifs, 0⟩] scope p) =
  if compOk sc scope x then
    match (match rangeArgs sc iter with
     | some args => (args.mapM (ev Γ n .v sc ρ)).bind rangeOf
     | none => (ev Γ n .l sc ρ iter).bind itemsOf) with
    | some vs => if sizeOk vs.length then
      match vs.mapM (fun v => turnOf (ev Γ n .v (relab sc scope.names) ((x, .v v) :: ρ.filter fun p => scope.names.lookup p.1 == some NameKind.free && sc.lookup p.1 == some NameKind.cell)) ifs elt) with
      | some ws => some (.lst ws.flatten)
      | none => none
     else none
    | none => none
   else none := rfl

theorem wev_ok {Γ : G} : ∀ (n : Nat) (md : Md) (sc : Sc) (ρ : Rho) (e : Expr) (k : KV), wev Γ n md sc ρ e k → ∃ v, ev Γ n md sc ρ e = some v ∧ k v
 | 0, _, _, _, _, _, h => h.elim
 | n + 1, md, sc, ρ, e, k, h => by
  have ih : ∀ md sc ρ, Wok (ev Γ n md sc ρ) (wev Γ n md sc ρ) := fun md sc ρ e k h => wev_ok n md sc ρ e k h
  unfold wev at h
  split at h
  ·-- List
   unfold ev
   obtain ⟨vs, h1, h2⟩ := wevs_ok (ih _ _ _) _ _ h
   obtain ⟨h3, h4⟩ := h2.out
   refine ⟨_, ?_, h4⟩
   try dsimp only
   rw [h1]
   simp only [Option.bind_eq_bind, Option.bind_some]
   rw [if_pos h3]
  ·-- ListComp
   rename_i elt x px iter ifs scope p
   obtain ⟨hc, h⟩ := h.out
   rw [ev_ListComp, if_pos hc]
   have key : ∃ vs, (match rangeArgs sc iter with
     | some args => (args.mapM (ev Γ n .v sc ρ)).bind rangeOf
     | none => (ev Γ n .l sc ρ iter).bind itemsOf) = some vs ∧ Nd (sizeOk vs.length)
      (wmap (fun v => wturn (wev Γ n .v (relab sc scope.names) ((x, .v v) :: ρ.filter fun p => scope.names.lookup p.1 == some NameKind.free && sc.lookup p.1 == some NameKind.cell)) ifs elt) vs fun ws => k (.lst ws.flatten)) := by
    revert h
    cases rangeArgs sc iter with
    | some args =>
     intro h
     obtain ⟨as, h1, h2⟩ := wevs_ok (ih _ _ _) _ _ h
     obtain ⟨vs, h3, h4⟩ := wopt.out h2
     exact ⟨vs, by dsimp only; rw [h1]; exact h3, h4⟩
    | none =>
     intro h
     obtain ⟨a, h1, h2⟩ := ih _ _ _ _ _ h
     obtain ⟨vs, h3, h4⟩ := wopt.out h2
     exact ⟨vs, by dsimp only; rw [h1]; exact h3, h4⟩
   obtain ⟨vs, h1, h2⟩ := key
   obtain ⟨h3, h4⟩ := h2.out
   obtain ⟨ws, h5, h6⟩ := wmap_ok (g := fun v => turnOf (ev Γ n .v (relab sc scope.names) ((x, .v v) :: ρ.filter fun p => scope.names.lookup p.1 == some NameKind.free && sc.lookup p.1 == some NameKind.cell)) ifs elt) (fun v k' hk => wturn_ok (ih _ _ _) hk) _ _ h4
   refine ⟨_, ?_, h6⟩
   rw [h1]
   try dsimp only
   rw [if_pos h3, h5]
  ·-- BinOp
   obtain ⟨a, h1, h2⟩ := ih _ _ _ _ _ h
   obtain ⟨b, h3, h4⟩ := ih _ _ _ _ _ h2
   obtain ⟨c, h5, h6⟩ := wopt.out h4
   unfold ev
   refine ⟨c, ?_, ?_⟩
   ·try dsimp only
    rw [h1]; simp only [Option.bind_eq_bind, Option.bind_some]
    rw [h3]; simp only [Option.bind_some]
    rw [h5]; simp only [Option.bind_some]
    cases md <;> first | rfl | (cases c <;> first | rfl | exact h6.elim)
   ·cases md <;> first | exact h6 | (cases c <;> first | exact h6 | exact h6.elim)
  ·unfold ev
   split at h
   ·exact h.elim
   ·rename_i hmd
    simp only
    rw [if_neg hmd]
    split at h
    ·exact ⟨_, rfl, h⟩
    ·exact ⟨_, rfl, h⟩
    ·exact ⟨_, rfl, h⟩
    ·exact ⟨_, rfl, h⟩
    ·-- Name
     try dsimp only
     split at h
     ·exact h.elim
     ·rename_i hd
      rw [if_neg hd]
      split at h
      ·rename_i v hv; (try rw [hv]); exact ⟨_, rfl, h⟩
      ·rename_i vs hv
       (try rw [hv])
       split at h
       ·rename_i hm; exact ⟨.lst vs, by (try dsimp only); rw [if_pos hm], h⟩
       ·exact h.elim
      ·exact h.elim
    ·obtain ⟨v, h1, h2⟩ := ih _ _ _ _ _ h
     try dsimp only
     rw [h1]; simp only [Option.bind_eq_bind, Option.bind_some]
     cases v with
     | int i =>
      obtain ⟨h3, h4⟩ := Nd.out h2
      exact ⟨_, if_pos h3, h4⟩
     | _ => exact h2.elim
    ·obtain ⟨v, h1, h2⟩ := ih _ _ _ _ _ h
     try dsimp only
     rw [h1]; simp only [Option.bind_eq_bind, Option.bind_some]
     cases v with
     | bool b => exact ⟨_, rfl, h2⟩
     | _ => exact h2.elim
    ·obtain ⟨vs, h1, h2⟩ := wevs_ok (ih _ _ _) _ _ h
     obtain ⟨h3, h4⟩ := h2.out
     refine ⟨_, ?_, h4⟩
     try dsimp only
     rw [h1]; simp only [Option.bind_eq_bind, Option.bind_some]
     rw [if_pos h3]
    ·obtain ⟨v, h1, h2⟩ := ih _ _ _ _ _ h
     try dsimp only
     rw [h1]; simp only [Option.bind_eq_bind, Option.bind_some]
     cases v with
     | bool b =>
      cases b with
      | true => exact ih _ _ _ _ _ h2
      | false => exact ih _ _ _ _ _ h2
     | _ => exact h2.elim
    ·exact wbool_ok (ih _ _ _) _ _ h
    ·-- Compare
     obtain ⟨a, h1, h2⟩ := ih _ _ _ _ _ h
     try dsimp only
     rw [h1]; simp only [Option.bind_eq_bind, Option.bind_some]
     split at h2
     ·split at h2
      ·rename_i hg
       obtain ⟨b, h3, h4⟩ := wopt.out h2
       refine ⟨_, ?_, h4⟩; (try dsimp only); rw [if_pos hg, h3]; rfl
      ·exact h2.elim
     ·obtain ⟨b, h3, h4⟩ := ih _ _ _ _ _ h2
      obtain ⟨c, h5, h6⟩ := wopt.out h4
      exact ⟨_, by rw [h3]; simp only [Option.bind_some]; rw [h5]; rfl, h6⟩
    ·-- Slice
     rename_i o lo hi st p1 p2 x1 x2 x3
     obtain ⟨a, h1, h2⟩ := ih _ _ _ _ _ h
     obtain ⟨l, h3, h4⟩ := wpart_ok (ih _ _ _) h2
     obtain ⟨u, h5, h6⟩ := wpart_ok (ih _ _ _) h4
     obtain ⟨t, h7, h8⟩ := wpart_ok (ih _ _ _) h6
     obtain ⟨v, h9, h10⟩ := wopt.out h8
     refine ⟨v, ?_, h10⟩
     try dsimp only
     rw [h1]; simp only [Option.bind_eq_bind, Option.bind_some]
     refine Option.bind_eq_some_iff.mpr ⟨l, ?_, Option.bind_eq_some_iff.mpr ⟨u, ?_, Option.bind_eq_some_iff.mpr ⟨t, ?_, h9⟩⟩⟩
     ·rw [← h3]; cases lo <;> rfl
     ·rw [← h5]; cases hi <;> rfl
     ·rw [← h7]; cases st <;> rfl
    ·obtain ⟨a, h1, h2⟩ := ih _ _ _ _ _ h
     obtain ⟨j, h3, h4⟩ := ih _ _ _ _ _ h2
     obtain ⟨v, h5, h6⟩ := wopt.out h4
     refine ⟨v, ?_, h6⟩
     have goal : ∀ i : Expr, ev Γ n .v sc ρ i = some j → (match (generalizing := false) i with
       | .Slice _ _ _ _ => False
       | _ => True) := fun i hi => by
      cases i <;> first | trivial | (rw [evSlice0] at hi; cases hi)
     have h3' := h3
     have hi := goal _ h3
     rename_i o i p x1 x2 x3 x4
     cases i <;> first
      | exact hi.elim
      | (try dsimp only); rw [h1]; simp only [Option.bind_eq_bind, Option.bind_some]; rw [h3']; simp only [Option.bind_some]; exact h5
    ·-- Call of a name
     try dsimp only
     split at h
     ·exact h.elim
     ·rename_i hc
      rw [if_neg hc]
      split at h
      ·rename_i hf
       rw [if_pos hf]
       split at h
       ·split at h
        ·rename_i as ha
         obtain ⟨vs, h1, h2⟩ := wevs_ok (ih _ _ _) _ _ h
         obtain ⟨r, h3, h4⟩ := wopt.out h2
         exact ⟨_, by (try dsimp only); (try rw [ha]); simp only [Option.bind_eq_bind]; rw [h1]; simp only [Option.bind_some]; rw [h3]; rfl, h4⟩
        ·exact h.elim
       ·exact h.elim
      ·rename_i hf
       rw [if_neg hf]
       split at h
       ·rename_i hb
        rw [if_pos hb]
        split at h
        ·obtain ⟨a, h1, h2⟩ := ih _ _ _ _ _ h
         obtain ⟨v, h3, h4⟩ := wopt.out h2
         exact ⟨v, by simp only [Option.bind_eq_bind]; rw [h1]; exact h3, h4⟩
        ·exact h.elim
       ·rename_i hb
        rw [if_neg hb]
        split at h
        ·rename_i ho
         obtain ⟨vs, h1, h2⟩ := wevs_ok (ih _ _ _) _ _ h
         obtain ⟨r, h3, h4⟩ := wopt.out h2
         obtain ⟨h5, h6⟩ := Nd.out h4
         rw [own_mapM (fun e he => ownName_none he n) ho]
         refine ⟨r, ?_, h6⟩
         simp only [Option.bind_eq_bind]
         rw [h1]; simp only [Option.bind_some]
         rw [h3]; simp only [Option.bind_some]
         rw [if_pos h5]
        ·obtain ⟨vs, h1, h2⟩ := wevs_ok (ih _ _ _) _ _ h
         obtain ⟨r, h3, h4⟩ := wopt.out h2
         rw [h1]
         exact ⟨r, h3, h4⟩
    ·-- a method
     try dsimp only
     split at h
     ·exact h.elim
     ·rename_i hc
      rw [if_neg hc]
      split at h
      ·rename_i t ht
       (try rw [ht])
       try dsimp only
       split at h
       ·rename_i hg
        rw [if_pos hg]
        split at h
        ·obtain ⟨a, h1, h2⟩ := ih _ _ _ _ _ h
         obtain ⟨v, h3, h4⟩ := wopt.out h2
         exact ⟨v, by simp only [Option.bind_eq_bind]; rw [h1]; exact h3, h4⟩
        ·obtain ⟨a, h1, h2⟩ := ih _ _ _ _ _ h
         obtain ⟨b, h3, h4⟩ := ih _ _ _ _ _ h2
         obtain ⟨v, h5, h6⟩ := wopt.out h4
         exact ⟨v, by simp only [Option.bind_eq_bind]; rw [h1]; simp only [Option.bind_some]; rw [h3]; exact h5, h6⟩
        ·exact h.elim
       ·exact h.elim
      ·rename_i ht
       (try rw [ht])
       obtain ⟨a, h1, h2⟩ := ih _ _ _ _ _ h
       simp only [Option.bind_eq_bind]
       rw [h1]; simp only [Option.bind_some]
       split at h2
       ·obtain ⟨v, h3, h4⟩ := wopt.out h2
        exact ⟨v, h3, h4⟩
       ·obtain ⟨b, h3, h4⟩ := ih _ _ _ _ _ h2
        try simp only
        rw [h3]; simp only [Option.bind_some]
        split at h4
        ·rename_i hm
         obtain ⟨v, h5, h6⟩ := wopt.out h4
         exact ⟨v, by rw [if_pos hm]; exact h5, h6⟩
        ·rename_i hm
         obtain ⟨v, h5, h6⟩ := wopt.out h4
         exact ⟨v, by rw [if_neg hm]; exact h5, h6⟩
       ·exact h2.elim
    ·exact h.elim

abbrev KF := Fl → Rho → Prop
def wfor (body : Rho → KF → Prop) (bnd : PV → Rho → Option Rho) : List PV → Rho → KF → Prop
 | [], ρ, K => K .next ρ
 | v :: vs, ρ, K => wopt (bnd v ρ) fun ρ₁ => body ρ₁ fun fl ρ₂ => match fl with
  | .brk => K .next ρ₂
  | .ret r => K (.ret r) ρ₂
  | .next => wfor body bnd vs ρ₂ K
  | .cont => wfor body bnd vs ρ₂ K
def wwhile (test : Rho → KV → Prop) (body : Rho → KF → Prop) : Nat → Rho → KF → Prop
 | 0, _, _ => False
 | k + 1, ρ, K => test ρ fun t => match t with
  | .bool t => Br t (body ρ fun fl ρ₂ => match fl with
   | .brk => K .next ρ₂
   | .ret r => K (.ret r) ρ₂
   | .next => wwhile test body k ρ₂ K
   | .cont => wwhile test body k ρ₂ K) (K .next ρ)
  | _ => False

section
variable (own : List (Str × Bool)) (sc : Sc) (E : Md → Expr → Option PV) (W : Md → Expr → KV → Prop) (ρ : Rho)
def wasgName (x : Str) (e : Expr) (K : KF) : Prop :=
 Nd (storable sc x) <| match own.lookup x with
  | some false => W .f e fun v => match v with
   | .lst vs => K .next (ρ.put x (.o vs))
   | _ => False
  | some true => False
  | none => W .v e fun v => K .next (ρ.put x (.v v))
def wasgTup (ts : List Expr) (k : Nat) (p : Pos) (e : Expr) (K : KF) : Prop :=
 match deepTup own ts e with
 | some (x, ts', es) => Nd (storable sc x) <| match namesOnly ts' with
  | some xs => wevs (W .v) es fun vs => if xs.contains x || !sizeOk (vs.length + 1) then False else wopt (bindTs sc own ts' vs (ρ.put x (.oo []))) (K .next)
  | none => False
 | none => W .v e fun v => match swapOf sc ts e with
  | some none => wopt (bindT sc own (.Tuple ts k p) v ρ) (K .next)
  | some (some names) => (match v with
   | .tup vs => if vs.length == names.length then wopt (bindNs own sc names.reverse vs.reverse ρ) (K .next) else False
   | _ => False)
  | none => False
def wasgSlice (x : Str) (lo hi e : Expr) (K : KF) : Prop :=
 match ρ.lookup x with
 | some (.o vs) => W .v e fun w => W .v lo fun l => W .v hi fun h => match w, l, h with
  | .lst ws, .int l, .int h => Nd (decide (0 ≤ l) && decide (l ≤ h) && decide (h ≤ vs.length) && sizeOk (vs.length + ws.length)) (K .next (ρ.put x (.o (vs.take l.toNat ++ ws ++ vs.drop h.toNat))))
  | _, _, _ => False
 | _ => False
def wasgItem (x : Str) (k e : Expr) (K : KF) : Prop :=
 match ρ.lookup x with
 | some (.o vs) => W .v e fun v => W .v k fun i => match i with
  | .int i => wopt (setAt vs i v) fun vs' => K .next (ρ.put x (.o vs'))
  | _ => False
 | _ => False
def wasgLast (x : Str) (k e : Expr) (K : KF) : Prop :=
 match ρ.lookup x with
 | some (.oo rows) => W .v e fun v => W .v k fun i => match i with
  | .int i => wopt (lastRow rows fun r => setAt r i v) fun rows' => K .next (ρ.put x (.oo rows'))
  | _ => False
 | _ => False
def wasgSub (o i e : Expr) (K : KF) : Prop :=
 match nameOf o with
 | some x => (match sliceOf i with
  | some (lo, hi) => wasgSlice W ρ x lo hi e K
  | none => wasgItem W ρ x i e K)
 | none => (match lastAt o i with
  | some x => wasgLast W ρ x i e K
  | none => False)
def wasg1 (t e : Expr) (K : KF) : Prop :=
 match t with
 | .Name x _ => (match popPair e with
  | some (p, a) => wopt (asgPop own sc E ρ x p a) fun r => K r.1 r.2
  | none => wasgName own sc W ρ x e K)
 | .Tuple ts k p => wasgTup own sc W ρ ts k p e K
 | .Subscript o i _ => wasgSub W ρ o i e K
 | _ => False
def wasg3 (x y z : Str) (e : Expr) (K : KF) : Prop :=
 W .v e fun v => wopt ((bindN sc own z v ρ).bind fun ρ => (bindN sc own y v ρ).bind fun ρ => bindN sc own x v ρ) (K .next)
def waugName (x : Str) (px : Pos) (e : Expr) (K : KF) : Prop :=
 W .v (.Name x px) fun a => W .v e fun b => wopt (plusOf a b) fun c => wopt (bindN sc own x c ρ) (K .next)
def waugLast (x : Str) (k e : Expr) (K : KF) : Prop :=
 match ρ.lookup x with
 | some (.oo rows) => W .v k fun i => W .v e fun b => match i with
  | .int i => wopt (lastRow rows fun r => (idx (.lst r) (.int i)).bind fun a => (plusOf a b).bind fun c => setAt r i c) fun rows' => K .next (ρ.put x (.oo rows'))
  | _ => False
 | _ => False
def waug (t : Expr) (e : Expr) (K : KF) : Prop :=
 match t with
 | .Name x px => waugName own sc W ρ x px e K
 | .Subscript o k _ => (match lastAt o k with
  | some x => waugLast W ρ x k e K
  | none => False)
 | _ => False
def wexprS (e : Expr) (K : KF) : Prop :=
 match appendOf e with
 | some (x, e) => (match ρ.lookup x with
  | some (.o vs) => W .v e fun v => Nd (sizeOk vs.length) (K .next (ρ.put x (.o (vs ++ [v]))))
  | some (.oo rows) => W .f e fun v => match v with
   | .lst r => Nd (sizeOk rows.length) (K .next (ρ.put x (.oo (rows ++ [r]))))
   | _ => False
  | _ => False)
 | none => False
def wretS (e : Expr) (K : KF) : Prop :=
 match nameOf e with
 | some x => (match ρ.lookup x with
  | some (.v v) => K (.ret v) ρ
  | some (.o vs) => K (.ret (.lst vs)) ρ
  | some (.oo rows) => K (.ret (.lst (rows.map .lst))) ρ
  | _ => False)
 | none => W .v e fun v => K (.ret v) ρ
end

def wrun1 (Γ : G) (own : List (Str × Bool)) (sc : Sc) (rec : Rho → List Stmt → KF → Prop) (ρ : Rho) (st : Stmt) (K : KF) : Prop :=
 match st with
 | .Assign [t] e _ => wasg1 own sc (ev Γ 40 · sc ρ ·) (wev Γ 40 · sc ρ ·) ρ t e K
 | .Assign [.Name x _, .Name y _, .Name z _] e _ => wasg3 own sc (wev Γ 40 · sc ρ ·) ρ z y x e K
 | .AugAssign t .Add e _ => waug own sc (wev Γ 40 · sc ρ ·) ρ t e K
 | .Expr e _ => wexprS (wev Γ 40 · sc ρ ·) ρ e K
 | .If c a b _ => wev Γ 40 .v sc ρ c fun t => match t with
  | .bool t => Br t (rec ρ a K) (rec ρ b K)
  | _ => False
 | .While c a [] _ => wwhile (fun ρ => wev Γ 40 .v sc ρ c) (fun ρ => rec ρ a) 100000 ρ K
 | .For t it body [] _ => (match it with
  | .Call (.Name f _) args [] _ => Nd (glob sc f) (wevs (wev Γ 40 .v sc ρ) args fun vs => wopt (Γ.gen f vs) fun items => wfor (fun ρ => rec ρ body) (bindT sc own t) items ρ K)
  | .Call _ _ _ _ => False
  | it => wev Γ 40 .v sc ρ it fun v => wopt (itemsOf v) fun vs => wfor (fun ρ => rec ρ body) (bindT sc own t) vs ρ K)
 | .Return (some e) _ => wretS (wev Γ 40 · sc ρ ·) ρ e K
 | .Break _ => K .brk ρ
 | _ => False
def wseq (one : Rho → Stmt → KF → Prop) : Rho → List Stmt → KF → Prop
 | ρ, [], K => K .next ρ
 | ρ, st :: r, K => one ρ st fun fl ρ' => match fl with
  | .next => wseq one ρ' r K
  | .brk => K .brk ρ'
  | .cont => K .cont ρ'
  | .ret v => K (.ret v) ρ'
def wrun (Γ : G) (own : List (Str × Bool)) (sc : Sc) : Nat → Rho → List Stmt → KF → Prop
 | 0, _, _, _ => False
 | n + 1, ρ, sts, K => wseq (wrun1 Γ own sc (wrun Γ own sc n)) ρ sts K
def wcall (Γ : G) (own : List (Str × Bool)) (n : Nat) (fd : FuncData) (args : List PV) (k : KV) : Prop :=
 if (fd.params.args.map (·.arg)).length != args.length then False else
 match fd.body with
 | .stmts body => wrun Γ own fd.scope.names n (putAll ((fd.params.args.map (·.arg)).zip args) (rho0 fd.scope.names)) body fun fl _ => match fl with
  | .ret v => k v
  | .next => k .none
  | _ => False
 | _ => False

section
variable {Γ : G} {own : List (Str × Bool)} {sc : Sc} {ρ : Rho}
def Fok (o : Option (Fl × Rho)) (K : KF) : Prop := ∃ fl ρ', o = some (fl, ρ') ∧ K fl ρ'
theorem wfor_ok {g : Rho → Option (Fl × Rho)} {f : Rho → KF → Prop} (h : ∀ ρ K, f ρ K → Fok (g ρ) K) {bnd : PV → Rho → Option Rho} : ∀ (vs : List PV) (ρ : Rho) (K : KF), wfor f bnd vs ρ K → Fok (forGo g bnd vs ρ) K
 | [], ρ, K, hk => ⟨_, _, rfl, hk⟩
 | v :: vs, ρ, K, hk => by
  obtain ⟨ρ₁, h1, h2⟩ := wopt.out hk
  obtain ⟨fl, ρ₂, h3, h4⟩ := h _ _ h2
  unfold forGo
  simp only [Option.bind_eq_bind]
  rw [h1]; simp only [Option.bind_some]
  rw [h3]; simp only [Option.bind_some]
  cases fl with
  | next => exact wfor_ok h vs ρ₂ K h4
  | cont => exact wfor_ok h vs ρ₂ K h4
  | brk => exact ⟨_, _, rfl, h4⟩
  | ret r => exact ⟨_, _, rfl, h4⟩
theorem wwhile_ok {t : Rho → Option PV} {wt : Rho → KV → Prop} (ht : ∀ ρ k, wt ρ k → ∃ v, t ρ = some v ∧ k v) {g : Rho → Option (Fl × Rho)} {f : Rho → KF → Prop} (h : ∀ ρ K, f ρ K → Fok (g ρ) K) : ∀ (n : Nat) (ρ : Rho) (K : KF), wwhile wt f n ρ K → Fok (whileGo t g n ρ) K
 | 0, ρ, K, hk => hk.elim
 | n + 1, ρ, K, hk => by
  obtain ⟨v, h1, h2⟩ := ht _ _ hk
  unfold whileGo
  simp only [Option.bind_eq_bind]
  rw [h1]; simp only [Option.bind_some]
  cases v with
  | bool b =>
   cases b with
   | false => exact ⟨_, _, rfl, h2⟩
   | true =>
    obtain ⟨fl, ρ₂, h3, h4⟩ := h _ _ h2
    simp only
    rw [h3]; simp only [Option.bind_some]
    cases fl with
    | next => exact wwhile_ok ht h n ρ₂ K h4
    | cont => exact wwhile_ok ht h n ρ₂ K h4
    | brk => exact ⟨_, _, rfl, h4⟩
    | ret r => exact ⟨_, _, rfl, h4⟩
  | _ => exact h2.elim

theorem wseq_ok {g : Rho → Stmt → Option (Fl × Rho)} {f : Rho → Stmt → KF → Prop} (h : ∀ ρ st K, f ρ st K → Fok (g ρ st) K) : ∀ (sts : List Stmt) (ρ : Rho) (K : KF), wseq f ρ sts K → Fok (seqGo g ρ sts) K
 | [], ρ, K, hk => ⟨_, _, rfl, hk⟩
 | st :: r, ρ, K, hk => by
  obtain ⟨fl, ρ₂, h3, h4⟩ := h _ _ _ hk
  unfold seqGo
  simp only [Option.bind_eq_bind]
  rw [h3]; simp only [Option.bind_some]
  cases fl with
  | next => exact wseq_ok h r ρ₂ K h4
  | cont => exact ⟨_, _, rfl, h4⟩
  | brk => exact ⟨_, _, rfl, h4⟩
  | ret r => exact ⟨_, _, rfl, h4⟩

theorem wasg1_ok {n : Nat} {t e : Expr} {K : KF} (h : wasg1 own sc (ev Γ n · sc ρ ·) (wev Γ n · sc ρ ·) ρ t e K) : Fok (asg1 own sc (ev Γ n · sc ρ ·) ρ t e) K := by
 have ih : ∀ md e k, wev Γ n md sc ρ e k → ∃ v, ev Γ n md sc ρ e = some v ∧ k v := fun md e k h => wev_ok n md sc ρ e k h
 unfold wasg1 at h
 unfold asg1
 split at h
 ·try dsimp only
  split at h
  ·rename_i p a hp
   (try rw [hp])
   obtain ⟨⟨fl, ρ'⟩, h1, h2⟩ := wopt.out h
   exact ⟨fl, ρ', h1, h2⟩
  ·rename_i hp
   (try rw [hp])
   try dsimp only
   obtain ⟨hs, h⟩ := Nd.out h
   unfold asgName
   rw [if_pos hs]
   split at h
   ·rename_i ho
    (try rw [ho])
    obtain ⟨v, h1, h2⟩ := ih _ _ _ h
    try dsimp only
    rw [h1]
    cases v with
    | lst vs => exact ⟨_, _, rfl, h2⟩
    | _ => exact h2.elim
   ·exact h.elim
   ·rename_i ho
    (try rw [ho])
    obtain ⟨v, h1, h2⟩ := ih _ _ _ h
    try dsimp only
    rw [h1]
    exact ⟨_, _, rfl, h2⟩
 ·try dsimp only
  unfold wasgTup at h
  unfold asgTup
  split at h
  ·rename_i x ts' es hd
   (try rw [hd])
   try dsimp only
   obtain ⟨hs, h⟩ := Nd.out h
   rw [if_pos hs]
   split at h
   ·rename_i xs hn
    rw [hn]
    obtain ⟨vs, h1, h2⟩ := wevs_ok (g := ev Γ n .v sc ρ) (fun e k h => ih _ e k h) _ _ h
    have h1 : List.mapM (fun x => ev Γ n .v sc ρ x) es = some vs := h1
    rw [h1]
    try dsimp only
    split at h2
    ·exact h2.elim
    ·rename_i hc
     rw [if_neg hc]
     obtain ⟨ρ₁, h3, h4⟩ := wopt.out h2
     rw [h3]
     exact ⟨_, _, rfl, h4⟩
   ·exact h.elim
  ·rename_i hd
   (try rw [hd])
   obtain ⟨v, h1, h2⟩ := ih _ _ _ h
   try dsimp only
   rw [h1]
   try dsimp only
   split at h2
   ·rename_i hs
    (try rw [hs])
    obtain ⟨ρ₁, h3, h4⟩ := wopt.out h2
    try dsimp only
    rw [h3]
    exact ⟨_, _, rfl, h4⟩
   ·rename_i names hs
    (try rw [hs])
    cases v with
    | tup vs =>
     dsimp only at h2 ⊢
     split at h2
     ·rename_i hl
      rw [if_pos hl]
      obtain ⟨ρ₁, h3, h4⟩ := wopt.out h2
      rw [h3]
      exact ⟨_, _, rfl, h4⟩
     ·exact h2.elim
    | _ => exact h2.elim
   ·exact h2.elim
 ·try dsimp only
  unfold wasgSub at h
  unfold asgSub
  split at h
  ·rename_i x hn
   (try rw [hn])
   try dsimp only
   split at h
   ·rename_i lo hi hs
    (try rw [hs])
    try dsimp only
    unfold wasgSlice at h
    unfold asgSlice
    split at h
    ·rename_i vs hl
     rw [hl]
     obtain ⟨w, h1, h2⟩ := ih _ _ _ h
     obtain ⟨l, h3, h4⟩ := ih _ _ _ h2
     obtain ⟨u, h5, h6⟩ := ih _ _ _ h4
     try dsimp only
     rw [h1, h3, h5]
     split at h6
     ·obtain ⟨h7, h8⟩ := Nd.out h6
      try dsimp only
      rw [if_pos h7]
      exact ⟨_, _, rfl, h8⟩
     ·exact h6.elim
    ·exact h.elim
   ·rename_i hs
    (try rw [hs])
    try dsimp only
    unfold wasgItem at h
    unfold asgItem
    split at h
    ·rename_i vs hl
     rw [hl]
     obtain ⟨v, h1, h2⟩ := ih _ _ _ h
     obtain ⟨j, h3, h4⟩ := ih _ _ _ h2
     try dsimp only
     rw [h1, h3]
     cases j with
     | int i =>
      obtain ⟨vs', h5, h6⟩ := wopt.out h4
      try dsimp only
      rw [h5]
      exact ⟨_, _, rfl, h6⟩
     | _ => exact h4.elim
    ·exact h.elim
  ·rename_i hn
   (try rw [hn])
   try dsimp only
   split at h
   ·rename_i x hl
    (try rw [hl])
    try dsimp only
    unfold wasgLast at h
    unfold asgLast
    split at h
    ·rename_i rows hl
     rw [hl]
     obtain ⟨v, h1, h2⟩ := ih _ _ _ h
     obtain ⟨j, h3, h4⟩ := ih _ _ _ h2
     try dsimp only
     rw [h1, h3]
     cases j with
     | int i =>
      obtain ⟨vs', h5, h6⟩ := wopt.out h4
      try dsimp only
      rw [h5]
      exact ⟨_, _, rfl, h6⟩
     | _ => exact h4.elim
    ·exact h.elim
   ·exact h.elim
 ·exact h.elim

theorem wrun1_ok {rec : Rho → List Stmt → Option (Fl × Rho)} {wrec : Rho → List Stmt → KF → Prop} (hr : ∀ ρ sts K, wrec ρ sts K → Fok (rec ρ sts) K) {st : Stmt} {K : KF} (h : wrun1 Γ own sc wrec ρ st K) : Fok (run1 Γ own sc rec ρ st) K := by
 have ih : ∀ md e k, wev Γ 40 md sc ρ e k → ∃ v, ev Γ 40 md sc ρ e = some v ∧ k v := fun md e k h => wev_ok 40 md sc ρ e k h
 unfold wrun1 at h
 split at h
 ·exact wasg1_ok h
 ·rename_i x px y py z pz e p
  show Fok (asg3 own sc (ev Γ 40 · sc ρ ·) ρ z y x e) K
  unfold asg3
  unfold wasg3 at h
  obtain ⟨v, h1, h2⟩ := ih _ _ _ h
  obtain ⟨ρ₁, h3, h4⟩ := wopt.out h2
  try dsimp only
  rw [h1]
  try dsimp only
  rw [h3]
  exact ⟨_, _, rfl, h4⟩
 ·rename_i t e p
  show Fok (aug own sc (ev Γ 40 · sc ρ ·) ρ t e) K
  unfold waug at h
  unfold aug
  split at h
  ·try dsimp only
   unfold waugName at h
   unfold augName
   obtain ⟨a, h1, h2⟩ := ih _ _ _ h
   obtain ⟨b, h3, h4⟩ := ih _ _ _ h2
   obtain ⟨c, h5, h6⟩ := wopt.out h4
   obtain ⟨ρ₁, h7, h8⟩ := wopt.out h6
   try dsimp only
   rw [h1, h3]
   try dsimp only
   rw [h5]
   try dsimp only
   rw [h7]
   exact ⟨_, _, rfl, h8⟩
  ·try dsimp only
   split at h
   ·rename_i x hl
    (try rw [hl])
    try dsimp only
    unfold waugLast at h
    unfold augLast
    split at h
    ·rename_i rows hx
     rw [hx]
     obtain ⟨i, h1, h2⟩ := ih _ _ _ h
     obtain ⟨b, h3, h4⟩ := ih _ _ _ h2
     try dsimp only
     rw [h1, h3]
     cases i with
     | int i =>
      obtain ⟨rows', h5, h6⟩ := wopt.out h4
      try dsimp only
      rw [h5]
      exact ⟨_, _, rfl, h6⟩
     | _ => exact h4.elim
    ·exact h.elim
   ·exact h.elim
  ·exact h.elim
 ·rename_i e p
  show Fok (exprS (ev Γ 40 · sc ρ ·) ρ e) K
  unfold wexprS at h
  unfold exprS
  split at h
  ·rename_i x e' ha
   try rw [ha]
   try dsimp only
   split at h
   ·rename_i vs hx
    (try rw [hx])
    obtain ⟨v, h1, h2⟩ := ih _ _ _ h
    obtain ⟨h3, h4⟩ := Nd.out h2
    try dsimp only
    rw [h1]
    try dsimp only
    rw [if_pos h3]
    exact ⟨_, _, rfl, h4⟩
   ·rename_i rows hx
    (try rw [hx])
    obtain ⟨v, h1, h2⟩ := ih _ _ _ h
    try dsimp only
    rw [h1]
    cases v with
    | lst r =>
     obtain ⟨h3, h4⟩ := Nd.out h2
     try dsimp only
     rw [if_pos h3]
     exact ⟨_, _, rfl, h4⟩
    | _ => exact h2.elim
   ·exact h.elim
  ·exact h.elim
 ·rename_i c a b p
  obtain ⟨v, h1, h2⟩ := ih _ _ _ h
  show Fok (match ev Γ 40 .v sc ρ c with
   | some (.bool true) => rec ρ a
   | some (.bool false) => rec ρ b
   | _ => none) K
  rw [h1]
  cases v with
  | bool t => cases t <;> exact hr _ _ _ h2
  | _ => exact h2.elim
 ·exact wwhile_ok (fun ρ k h => wev_ok 40 .v sc ρ _ k h) (fun ρ K h => hr _ _ _ h) _ _ _ h
 ·rename_i t it body p
  show Fok (match genOf sc (ev Γ 40 · sc ρ ·) Γ it with
   | some (some items) => forGo (rec · body) (bindT sc own t) items ρ
   | _ => (match ev Γ 40 .v sc ρ it with
    | some v => (match itemsOf v with
     | some vs => forGo (rec · body) (bindT sc own t) vs ρ
     | none => none)
    | none => none)) K
  split at h
  ·rename_i f pf args pc
   obtain ⟨hg, h⟩ := Nd.out h
   obtain ⟨vs, h1, h2⟩ := wevs_ok (g := ev Γ 40 .v sc ρ) (fun e k h => ih _ e k h) _ _ h
   obtain ⟨items, h3, h4⟩ := wopt.out h2
   have hgen : genOf sc (ev Γ 40 · sc ρ ·) Γ (.Call (.Name f pf) args [] pc) = some (some items) := by
    unfold genOf
    try dsimp only
    rw [if_pos hg]
    have h1 : List.mapM (fun x => ev Γ 40 .v sc ρ x) args = some vs := h1
    rw [h1]
    try dsimp only
    rw [h3]
    rfl
   rw [hgen]
   exact wfor_ok (fun ρ K h => hr _ _ _ h) _ _ _ h4
  ·exact h.elim
  ·rename_i hn1 hn2
   have hgen : genOf sc (ev Γ 40 · sc ρ ·) Γ it = none := by
    unfold genOf
    split
    ·exact absurd rfl (hn1 _ _ _ _)
    ·rfl
   rw [hgen]
   obtain ⟨v, h1, h2⟩ := ih _ _ _ h
   obtain ⟨vs, h3, h4⟩ := wopt.out h2
   try dsimp only
   rw [h1]
   try dsimp only
   rw [h3]
   exact wfor_ok (fun ρ K h => hr _ _ _ h) _ _ _ h4
 ·rename_i e p
  show Fok (retS (ev Γ 40 · sc ρ ·) ρ e) K
  unfold wretS at h
  unfold retS
  split at h
  ·rename_i x hn
   try rw [hn]
   try dsimp only
   split at h
   ·rename_i v hx; (try rw [hx]); exact ⟨_, _, rfl, h⟩
   ·rename_i v hx; (try rw [hx]); exact ⟨_, _, rfl, h⟩
   ·rename_i v hx; (try rw [hx]); exact ⟨_, _, rfl, h⟩
   ·exact h.elim
  ·rename_i hn
   try rw [hn]
   obtain ⟨v, h1, h2⟩ := ih _ _ _ h
   try dsimp only
   rw [h1]
   exact ⟨_, _, rfl, h2⟩
 ·exact ⟨_, _, rfl, h⟩
 ·exact h.elim

theorem wrun_ok : ∀ (n : Nat) (ρ : Rho) (sts : List Stmt) (K : KF), wrun Γ own sc n ρ sts K → Fok (run Γ own sc n ρ sts) K
 | 0, _, _, _, h => h.elim
 | n + 1, ρ, sts, K, h => by
  unfold wrun at h
  unfold run
  exact wseq_ok (fun ρ st K h => wrun1_ok (fun ρ sts K h => wrun_ok n ρ sts K h) h) _ _ _ h

theorem wcall_ok {n : Nat} {fd : FuncData} {args : List PV} {k : KV} (h : wcall Γ own n fd args k) : ∃ v, callF Γ own n fd args = some v ∧ k v := by
 unfold wcall at h
 unfold callF
 split at h
 ·exact h.elim
 ·rename_i hl
  try dsimp only
  rw [if_neg hl]
  split at h
  ·rename_i body hb
   obtain ⟨fl, ρ', h1, h2⟩ := wrun_ok _ _ _ _ h
   try rw [hb]
   try dsimp only
   rw [h1]
   cases fl with
   | ret v => exact ⟨_, rfl, h2⟩
   | next => exact ⟨_, rfl, h2⟩
   | _ => exact h2.elim
  ·exact h.elim
theorem wcall_eq {n : Nat} {fd : FuncData} {args : List PV} {v : PV} (h : wcall Γ own n fd args (· = v)) : callF Γ own n fd args = some v := by
 obtain ⟨u, h1, rfl⟩ := wcall_ok h
 exact h1
end

structure GExt (g g' : Array GenState) : Prop where
 ext : ∀ (i : Nat) (x : GenState), g[i]? = some x → g'[i]? = some x
 bare : AllBare g → AllBare g'
theorem GExt.refl (g : Array GenState) : GExt g g := ⟨fun _ _ e => e, id⟩
theorem GExt.trans {g g' g'' : Array GenState} (x : GExt g g') (y : GExt g' g'') : GExt g g'' := ⟨fun i a e => y.ext i a (x.ext i a e), fun b => y.bare (x.bare b)⟩

/-- the growth of a run that stores into nothing that stood -/
structure Kp (s s' : Shared) : Prop where
 same : ∃ h tk g, s' = { s with heap := h, toks := tk, gens := g } ∧ GExt s.gens g
 keep : ∀ b o, s.heap.get? b = some o → s'.heap.get? b = some o
theorem Kp.refl (s : Shared) : Kp s s := ⟨⟨s.heap, s.toks, s.gens, rfl, .refl _⟩, fun _ _ e => e⟩
theorem Kp.trans {s s' s'' : Shared} (x : Kp s s') (y : Kp s' s'') : Kp s s'' := by
 obtain ⟨⟨h, t, g, rfl, hg⟩, k⟩ := x
 obtain ⟨⟨h', t', g', rfl, hg'⟩, k'⟩ := y
 exact ⟨⟨h', t', g', rfl, hg.trans hg'⟩, fun b o e => k' b o (k b o e)⟩
theorem Kp.heap {s : Shared} {h : Heap} {t : Nat} (k : ∀ b o, s.heap.get? b = some o → h.get? b = some o) : Kp s { s with heap := h, toks := t } := ⟨⟨h, t, s.gens, rfl, .refl _⟩, k⟩
theorem Kp.tok {s : Shared} {t : Nat} : Kp s { s with toks := t } := Kp.heap (fun _ _ e => e)
theorem Kp.push {s : Shared} {o : Obj} {t : Nat} : Kp s { s with heap := s.heap.push o, toks := t } := Kp.heap (fun _ _ e => Heap.get?_push_of_some _ e)
theorem Kp.rep {V : List Addr} {s s' : Shared} {v : PV} {val : Value} (k : Kp s s') (r : Rep V s.heap v val) : Rep V s'.heap v val := Rep.keeps r k.keep
theorem Kp.reps {V : List Addr} {s s' : Shared} {v : List PV} {val : List Value} (k : Kp s s') (r : Reps V s.heap v val) : Reps V s'.heap v val := r.keeps k.keep

/-- what stands -/
def Live (h : Heap) (V : List Addr) : Prop := ∀ a ∈ V, ∃ o, h.get? a = some o
theorem Live.keeps {h h' : Heap} {V : List Addr} (l : Live h V) (k : ∀ b o, h.get? b = some o → h'.get? b = some o) : Live h' V := fun a ha => let ⟨o, e⟩ := l a ha; ⟨o, k _ _ e⟩
theorem get?_size (h : Heap) : h.get? h.objs.size = none := by
 cases e : h.get? h.objs.size with
 | none => rfl
 | some o => exact absurd (Heap.lt_size e) (Nat.lt_irrefl _)
theorem new_of {h h' : Heap} (k : ∀ b o, h.get? b = some o → h'.get? b = some o) {a : Addr} (e : h'.get? a = none) : h.get? a = none := by
 cases q : h.get? a with
 | none => rfl
 | some o => rw [k _ _ q] at e; cases e
theorem Live.not_mem {h : Heap} {V : List Addr} (l : Live h V) {a : Addr} (e : h.get? a = none) : a ∉ V := fun hm => by obtain ⟨o, q⟩ := l a hm; rw [e] at q; cases q

/-- room for d calls more, nothing being handled -/
structure Room (d : Nat) (A : Around) : Prop where
 h : A.handled = none
 depth : A.depth + d < 900
 units : A.units + 10 * d < 5000
theorem Room.mono {d d' : Nat} {A : Around} (r : Room d A) (h : d' ≤ d) : Room d' A := ⟨r.h, by have := r.depth; omega, by have := r.units; omega⟩
theorem Room.deeper {d : Nat} {A : Around} {env : Env} (r : Room (d + 1) A) : Room d (A.deeper env) :=
 ⟨r.h, by have := r.depth; show A.depth + 1 + d < 900; omega, by have := r.units; show A.units + 3 + 10 * d < 5000; omega⟩
theorem Room.line {d : Nat} {A : Around} (r : Room d A) : A.units < cLine := by have := r.units; show A.units < 9900; omega

/-- a name's value where it stands -/
def VarAt (env : Env) (h : Heap) (x : Str) (val : Value) : Prop :=
 (env.kindOf x = some .local ∧ ∃ m, h.Ns env.locals m ∧ m x = some val) ∨ (env.kindOf x = some .cell ∧ ∃ c, env.cells.lookup x = some c ∧ h.IsCell c (some val))
theorem VarAt.keeps {env : Env} {h h' : Heap} {x : Str} {val : Value} (v : VarAt env h x val) (k : ∀ b o, h.get? b = some o → h'.get? b = some o) : VarAt env h' x val := by
 rcases v with ⟨a, m, n, e⟩ | ⟨a, c, e, q⟩
 ·exact .inl ⟨a, m, n.keeps k, e⟩
 ·exact .inr ⟨a, c, e, q.keeps k⟩

def RowsAt (V : List Addr) (h : Heap) : List (List PV) → List Addr → Prop
 | [], [] => True
 | r :: rs, a :: as => (∃ ys m, h.get? a = some (lobj ys m) ∧ Reps V h r ys.toList) ∧ RowsAt V h rs as
 | _, _ => False

theorem RowsAt.mono {V V' : List Addr} {h h' : Heap} (hv : ∀ x o, x ∉ V → h.get? x = some o → h'.get? x = some o) (hv' : ∀ x ∈ V', x ∈ V ∨ h.get? x = none) :
  ∀ {rows : List (List PV)} {as : List Addr}, (∀ a ∈ as, ∀ o, h.get? a = some o → h'.get? a = some o) → RowsAt V h rows as → RowsAt V' h' rows as
 | [], [], _, _ => trivial
 | r :: rs, a :: as, ha, ⟨⟨ys, m, g, q⟩, t⟩ => ⟨⟨ys, m, ha a List.mem_cons_self _ g, q.mono hv hv'⟩, RowsAt.mono hv hv' (fun b hb => ha b (List.mem_cons_of_mem _ hb)) t⟩

def SlotRep (V : List Addr) (h : Heap) (A : List Addr) : Slot → Value → Prop
 | .u, _ => True
 | .v x, val => Rep V h x val
 | .o vs, val => ∃ a xs n, A = [a] ∧ val = .ref a ∧ h.get? a = some (lobj xs n) ∧ Reps V h vs xs.toList
 | .oo rows, val => ∃ a as n, A = a :: as ∧ val = .ref a ∧ h.get? a = some (lobj (as.map Value.ref).toArray n) ∧ RowsAt V h rows as
 | .inst a, val => val = .ref a
def Slot.own : Slot → Bool
 | .o _ => true
 | .oo _ => true
 | _ => false
/-- what a slot stands on is untouched -/
theorem SlotRep.mono {V V' : List Addr} {h h' : Heap} {A : List Addr} {sl : Slot} {val : Value} (r : SlotRep V h A sl val) (hv : ∀ x o, x ∉ V → h.get? x = some o → h'.get? x = some o) (hv' : ∀ x ∈ V', x ∈ V ∨ h.get? x = none)
  (ha : sl.own = true → ∀ a ∈ A, ∀ o, h.get? a = some o → h'.get? a = some o) : SlotRep V' h' A sl val := by
 cases sl with
 | u => trivial
 | v x => exact Rep.mono hv hv' r
 | o vs => obtain ⟨a, xs, n, rfl, e, g, rs⟩ := r; exact ⟨a, xs, n, rfl, e, ha rfl a (by simp) _ g, rs.mono hv hv'⟩
 | oo rows => obtain ⟨a, as, n, rfl, e, g, rs⟩ := r; exact ⟨a, as, n, rfl, e, ha rfl a (by simp) _ g, RowsAt.mono hv hv' (fun b hb => ha rfl b (List.mem_cons_of_mem _ hb)) rs⟩
 | inst a => exact r
theorem SlotRep.keeps {V : List Addr} {h h' : Heap} {A : List Addr} {sl : Slot} {val : Value} (r : SlotRep V h A sl val) (k : ∀ b o, h.get? b = some o → h'.get? b = some o) : SlotRep V h' A sl val :=
 r.mono (fun x o _ e => k x o e) (fun x hx => .inl hx) fun _ a _ o e => k a o e

def SlotAt (env : Env) (V : List Addr) (h : Heap) (A : List Addr) (x : Str) (sl : Slot) : Prop :=
 match sl with
 | .u => True
 | sl => ∃ val, VarAt env h x val ∧ SlotRep V h A sl val
theorem SlotAt.of {env : Env} {V : List Addr} {h : Heap} {A : List Addr} {x : Str} {sl : Slot} {val : Value} (a : VarAt env h x val) (b : SlotRep V h A sl val) : SlotAt env V h A x sl := by
 cases sl <;> first | trivial | exact ⟨val, a, b⟩
theorem SlotAt.get {env : Env} {V : List Addr} {h : Heap} {A : List Addr} {x : Str} {sl : Slot} (r : SlotAt env V h A x sl) : sl = .u ∨ ∃ val, VarAt env h x val ∧ SlotRep V h A sl val := by
 cases sl <;> first | exact .inl rfl | exact .inr r
theorem SlotAt.map {env env' : Env} {V V' : List Addr} {h h' : Heap} {A A' : List Addr} {x : Str} {sl : Slot} (r : SlotAt env V h A x sl) (f : ∀ val, VarAt env h x val → SlotRep V h A sl val → VarAt env' h' x val ∧ SlotRep V' h' A' sl val) : SlotAt env' V' h' A' x sl := by
 rcases r.get with rfl | ⟨val, a, b⟩
 ·trivial
 ·exact .of (f val a b).1 (f val a b).2

/-- the names that can be read, and the ground -/
structure Rd (w : World) (env : Env) (sc : Sc) (V : List Addr) (ad : Str → List Addr) (ρ : Rho) (s : Shared) : Prop where
 kin : KIn w s.heap
 fn : env.scope.kind = .function
 nm : env.scope.names = sc
 cl : ∀ x, sc.lookup x = some .cell → (env.cells.lookup x).isSome = true
 gl : env.globals = 3
 bl : env.builtins = 0
 low : Live s.heap V
 vars : ∀ x sl, ρ.lookup x = some sl → SlotAt env V s.heap (ad x) x sl

theorem Rd.kp {w : World} {env : Env} {sc : Sc} {V : List Addr} {ad : Str → List Addr} {ρ : Rho} {s s' : Shared} (r : Rd w env sc V ad ρ s) (k : Kp s s') : Rd w env sc V ad ρ s' :=
 ⟨r.kin.keeps k.keep, r.fn, r.nm, r.cl, r.gl, r.bl, r.low.keeps k.keep, fun x sl e => (r.vars x sl e).map fun val a b => ⟨a.keeps k.keep, b.keeps k.keep⟩⟩

/-- what an expression's value is, by the way it is asked for: a value; one to be read at once; a list just made -/
def RepM (md : Md) (V : List Addr) (z : Heap) (h : Heap) (v : PV) (val : Value) : Prop :=
 match md with
 | .v => Rep V h v val
 | .l => Rep V h v val ∨ ∃ vs a xs n, v = .lst vs ∧ val = .ref a ∧ h.get? a = some (lobj xs n) ∧ Reps V h vs xs.toList
 | .f => ∃ vs a xs n, v = .lst vs ∧ val = .ref a ∧ z.get? a = none ∧ h.get? a = some (lobj xs n) ∧ Reps (a :: V) h vs xs.toList
theorem RepM.of {md : Md} {V : List Addr} {z : Heap} {h : Heap} {v : PV} {val : Value} (hm : md ≠ .f) (r : Rep V h v val) : RepM md V z h v val := by
 cases md with
 | v => exact r
 | l => exact .inl r
 | f => exact absurd rfl hm
theorem RepM.ofF {md : Md} {V : List Addr} {z : Heap} {h : Heap} {v : PV} {val : Value} (hV : Live z V) (r : RepM .f V z h v val) : RepM md V z h v val := by
 obtain ⟨vs, a, xs, n, rfl, rfl, hz, g, rs⟩ := r
 have ha : a ∉ V := hV.not_mem hz
 have rs' : Reps V h vs xs.toList := rs.mono (fun x o _ e => e) fun x hx => .inl (List.mem_cons_of_mem _ hx)
 have q : Rep V h (.lst vs) (.ref a) := .lst ha (by simpa using g) rs'
 cases md with
 | v => exact q
 | l => exact .inl q
 | f => exact ⟨vs, a, xs, n, rfl, rfl, hz, g, rs⟩
theorem RepM.keeps {md : Md} {V : List Addr} {z : Heap} {h h' : Heap} {v : PV} {val : Value} (r : RepM md V z h v val) (k : ∀ b o, h.get? b = some o → h'.get? b = some o) : RepM md V z h' v val := by
 cases md with
 | v => exact Rep.keeps r k
 | l =>
  rcases r with r | ⟨vs, a, xs, n, e, e', g, rs⟩
  ·exact .inl (Rep.keeps r k)
  ·exact .inr ⟨vs, a, xs, n, e, e', k _ _ g, rs.keeps k⟩
 | f => obtain ⟨vs, a, xs, n, e, e', hz, g, rs⟩ := r; exact ⟨vs, a, xs, n, e, e', hz, k _ _ g, rs.keeps k⟩
/-- a thing to be read at once -/
abbrev RepL (V : List Addr) (h : Heap) (v : PV) (val : Value) : Prop := RepM .l V h h v val
section
variable {V : List Addr} {h : Heap}
theorem RepL.lst {vs : List PV} {val : Value} (r : RepL V h (.lst vs) val) : ∃ a xs n, val = .ref a ∧ h.get? a = some (lobj xs n) ∧ Reps V h vs xs.toList := by
 rcases r with r | ⟨vs', a, xs, n, e, rfl, g, rs⟩
 ·obtain ⟨a, xs, n, rfl, _, g, rs⟩ := r.lst_inv
  exact ⟨a, _, n, rfl, g, by simpa using rs⟩
 ·cases e; exact ⟨a, xs, n, rfl, g, rs⟩
theorem RepL.rep {v : PV} {val : Value} (r : RepL V h v val) (hv : ∀ vs, v ≠ .lst vs) : Rep V h v val := by
 rcases r with r | ⟨vs, a, xs, n, rfl, _⟩
 ·exact r
 ·exact absurd rfl (hv vs)
theorem RepL.int {i : Int} {val : Value} (r : RepL V h (.int i) val) : ∃ t, val = .int i t := (RepL.rep r (by intro _ e; cases e)).int_inv
theorem RepL.str {x : Str} {val : Value} (r : RepL V h (.str x) val) : ∃ t, val = .str x t := (RepL.rep r (by intro _ e; cases e)).str_inv
/-- with nothing kept to oneself it is a value -/
theorem RepL.bare {v : PV} {val : Value} (r : RepL V h v val) : Rep [] h v val := by
 rcases r with r | ⟨vs, a, xs, n, rfl, rfl, g, rs⟩
 ·exact r.mono (fun _ _ _ e => e) (fun x hx => by cases hx)
 ·exact .lst (by simp) (by simpa using g) (rs.mono (fun _ _ _ e => e) (fun x hx => by cases hx))
end

/-- the expression e comes to v -/
def Ev (w : World) (d : Nat) (sc : Sc) (md : Md) (env : Env) (ρ : Rho) (e : Expr) (v : PV) : Prop :=
 ∀ (A : Around) (s : Shared) (V : List Addr) (ad : Str → List Addr) (Q : Value → Shared → Prop) (E : Value → Shared → Prop), Room d A → Rd w env sc V ad ρ s →
  (∀ val s', Kp s s' → RepM md V s.heap s'.heap v val → Q val s') → wpAny (model pw w) A (eval e env) Q E s

section
variable {w : World} {d : Nat} {sc : Sc} {md : Md} {env : Env} {ρ : Rho} {e : Expr} {pos : Pos}

theorem Ev.plain {v : PV} (hm : md ≠ .f) (h : Ev w d sc .v env ρ e v) : Ev w d sc md env ρ e v := fun A s V ad Q E R r k => h A s V ad Q E R r fun val s' kp rp => k val s' kp (.of hm rp)
theorem Ev.made {v : PV} (h : Ev w d sc .f env ρ e v) : Ev w d sc md env ρ e v := fun A s V ad Q E R r k => h A s V ad Q E R r fun val s' kp rp => k val s' kp (.ofF r.low rp)

theorem Ev.int {i : Int} {k : Nat} : Ev w d sc .v env ρ (.Constant (.int i) k pos) (.int i) := fun A s V ad Q E R r h => wpAny_Constant_int (h _ _ .tok .int)
theorem Ev.str {x : Str} {k : Nat} : Ev w d sc .v env ρ (.Constant (.str x) k pos) (.str x) := fun A s V ad Q E R r h => Constant_str (h _ _ .tok .str)
theorem Ev.bool {b : Bool} {k : Nat} : Ev w d sc .v env ρ (.Constant (.bool b) k pos) (.bool b) := fun A s V ad Q E R r h => wpAny_pure (h _ _ (.refl s) .bool)
theorem Ev.none {k : Nat} : Ev w d sc .v env ρ (.Constant .none k pos) .none := fun A s V ad Q E R r h => wpAny_pure (h _ _ (.refl s) .none)

theorem wp_name {A : Around} {E : Value → Shared → Prop} {s : Shared} {x : Str} {val : Value} {Q : Value → Shared → Prop} (hk : env.scope.kind = .function) (hv : VarAt env s.heap x val) (h : Q val s)
  (hd : (x == ("__debug__" : Str)) = false) : wpAny (model pw w) A (eval (.Name x pos) env) Q E s := by
 refine wpAny_Name ?_ hd
 rcases hv with ⟨a, m, n, e⟩ | ⟨a, c, e, q⟩
 ·exact wpAny_loadName_local hk a n e h
 ·exact wpAny_loadName_cell hk a e q h
theorem Ev.name {x : Str} {v : PV} (e : ρ.lookup x = some (.v v)) (hd : (x == ("__debug__" : Str)) = false) : Ev w d sc .v env ρ (.Name x pos) v := fun A s V ad Q E R r h => by
 obtain ⟨val, hv, hr⟩ := r.vars x _ e
 exact wp_name r.fn hv (h _ _ (.refl s) hr) hd
theorem Ev.nameO {x : Str} {vs : List PV} (e : ρ.lookup x = some (.o vs)) (hd : (x == ("__debug__" : Str)) = false) : Ev w d sc .l env ρ (.Name x pos) (.lst vs) := fun A s V ad Q E R r h => by
 obtain ⟨val, hv, a, xs, n, _, rfl, g, rs⟩ := r.vars x _ e
 exact wp_name r.fn hv (h _ _ (.refl s) (.inr ⟨vs, a, xs, n, rfl, rfl, g, rs⟩)) hd

/-- a global name -/
theorem Rd.glob {V : List Addr} {ad : Str → List Addr} {s : Shared} {x : Str} (r : Rd w env sc V ad ρ s) (h : SL.glob sc x = true) : env.kindOf x = some .globalImplicit := by
 show env.scope.names.lookup x = _
 rw [r.nm]; simpa [SL.glob] using h
theorem wp_global {A : Around} {E : Value → Shared → Prop} {s : Shared} {V : List Addr} {ad : Str → List Addr} {x : Str} {val : Value} {Q : Value → Shared → Prop} (r : Rd w env sc V ad ρ s) (hx : SL.glob sc x = true)
  (hm : nsK w.params 3 x = some val) (h : Q val s) (hd : (x == ("__debug__" : Str)) = false) : wpAny (model pw w) A (eval (.Name x pos) env) Q E s :=
 Name_function_global r.fn (r.glob hx) (loadGlobal_global (mg := nsK w.params 3) (by rw [r.gl]; exact r.kin.main) hm h) hd
theorem wp_builtin {A : Around} {E : Value → Shared → Prop} {s : Shared} {V : List Addr} {ad : Str → List Addr} {x : Str} {val : Value} {Q : Value → Shared → Prop} (r : Rd w env sc V ad ρ s) (hx : SL.glob sc x = true)
  (hm : nsK w.params 3 x = Option.none) (hb : nsK w.params 0 x = some val) (h : Q val s) (hd : (x == ("__debug__" : Str)) = false) : wpAny (model pw w) A (eval (.Name x pos) env) Q E s :=
 Name_function_global r.fn (r.glob hx) (loadGlobal_builtin (mg := nsK w.params 3) (mb := nsK w.params 0) (by rw [r.gl]; exact r.kin.main) hm (by rw [r.bl]; exact r.kin.blt) hb h) hd

/-! operators: one rule for the tree, one word for what the values do -/
def Op2 (w : World) (f : Value → Value → Sem Value) (a b v : PV) : Prop := ∀ (A : Around) (d : Nat) (s : Shared) (V : List Addr) (x y : Value) (Q : Value → Shared → Prop) (E : Value → Shared → Prop), Room d A → Live s.heap V → RepL V s.heap a x → RepL V s.heap b y →
 (∀ val s', Kp s s' → ((∃ vs, v = .lst vs) → RepM .f V s.heap s'.heap v val) → ((∀ vs, v ≠ .lst vs) → Rep V s'.heap v val) → Q val s') → wpAny (model pw w) A (f x y) Q E s
end
end SL
namespace SL
open PySem PySem.W PySem.Calls PyProof.Rows
open PySem.Builtin PySem.Builtin.Str PySem.Builtin.Int

theorem sizeOk_le {n : Nat} (h : sizeOk n = true) : n ≤ sizeLine := by
 have : n ≤ 16000000 := Nat.le_of_ble_eq_true h
 rw [sizeLine_eq]; omega
theorem intOk_lt {i : Int} (h : intOk i = true) : -(2 ^ 62 : Int) < i ∧ i < 2 ^ 62 := by
 have := intOk_iff.mp h
 omega

theorem mulOk_of {x : Str} {n : Int} (h0 : 0 ≤ n) (h1 : n ≤ 1000) (h2 : x.length ≤ 1000) : MulOk x n := by
 refine ⟨by simp; omega, fun a b => ?_, fun a b => ?_⟩
 ·intro hc
  have hn : (1 : Int) ≤ n := by omega
  have h4 : (x.length : Int) ≤ 1000 := by exact_mod_cast h2
  have h5 : (x.length : Int) ≤ (2 ^ 63 - 1) / n := by
   rw [Int.le_ediv_iff_mul_le (by omega)]
   have : (x.length : Int) * n ≤ 1000 * 1000 := Int.mul_le_mul h4 h1 h0 (by decide)
   omega
  omega
 ·have : x.length * n.toNat ≤ 1000 * 1000 := Nat.mul_le_mul h2 (by omega)
  simp only [Builtin.Str.tooLong, decide_eq_false_iff_not]
  rw [sizeLine_eq]
  omega

section
variable {w : World} {d : Nat} {sc : Sc} {md : Md} {env : Env} {ρ : Rho} {e : Expr} {pos : Pos}

theorem op2_val {w : World} {f : Value → Value → Sem Value} {a b v : PV} (hv : ∀ vs, v ≠ .lst vs)
  (h : ∀ (A : Around) (d : Nat) (s : Shared) (V : List Addr) (x y : Value) (Q : Value → Shared → Prop) (E : Value → Shared → Prop), Room d A → RepL V s.heap a x → RepL V s.heap b y →
   (∀ val s', Kp s s' → Rep V s'.heap v val → Q val s') → wpAny (model pw w) A (f x y) Q E s) : Op2 w f a b v := fun A d s V x y Q E R lo ra rb k =>
 h A d s V x y Q E R ra rb fun val s' kp rp => k val s' kp (fun ⟨vs, e⟩ => absurd e (hv vs)) fun _ => rp

theorem bits_le {i : Int} (h : intOk i = true) : Builtin.Int.intBits i ≤ 64 := by
 obtain ⟨h1, h2⟩ := intOk_lt h
 unfold Builtin.Int.intBits
 split
 ·omega
 ·have h3 : i.natAbs < 2 ^ 62 := by omega
  have : i.natAbs.log2 < 62 := (Nat.log2_lt (by rename_i h0; simp at h0; omega)).mpr h3
  omega
theorem mul_int_str {A : Around} {s : Shared} {n : Int} {x : Str} {t u : Tok} {Q : Value → Shared → Prop} {E : Value → Shared → Prop} (hok : MulOk x n) (h : ∀ t' k, Q (.str (Txt.mul x n) t') { s with toks := k }) :
  wpAny (model pw w) A (binaryOp .Mult (.int n u) (.str x t)) Q E s := by
 refine lm_binaryOp_repeat_right (T := "str") (U := "int") (by decide) (fun s' => typeIs_int s' n u) (typeIs_str s x t) PySem.F.fills_int_mul noFill_str_mul PySem.F.slot_int_mul lm_noRepeat_int repeat_str PySem.F.slot_int_index.lookup
  (call_gives PySem.F.slot_int_mul (typeIs_int s n u) PySem.F.entry_int_mul (PySem.F.args_int_mul_2 _ _) (AutoIntG3.int___mul___int_str_0 n u x t) ⟨rfl, typeIs_str s x t,
   call_gives PySem.F.slot_str_mul (typeIs_str s x t) PySem.F.entry_str_mul (PySem.F.args_str_mul_2 _ _) (gives_str_mul x n t u hok.1 hok.2.1 hok.2.2) ?_⟩)
 unfold Txt.mul at h
 by_cases h1 : n < 1
 ·rw [if_pos h1]; have h' := h s.toks (s.toks + 1); rw [if_pos h1] at h'; exact ⟨by decide, h'⟩
 ·rw [if_neg h1]; refine post_val_or_made (fun hc => fits_reps (hok.2.2 h1 (by simpa using hc))) fun t' k => ?_
  have h' := h t' k; rw [if_neg h1] at h'; exact h'
theorem reps_rep {V : List Addr} {h : Heap} {v : PV} {x : Value} (r : Rep V h v x) : ∀ k : Nat, Reps V h (List.replicate k v) (List.replicate k [x]).flatten
 | 0 => .nil
 | k + 1 => by
  rw [List.replicate_succ, List.replicate_succ, List.flatten_cons]
  exact .cons r (reps_rep r k)
theorem list_push {V : List Addr} {s : Shared} {vs : List PV} {xs : Array Value} {o : Obj} (ho : o = lobj xs 0) (lo : Live s.heap V) (r : Reps V s.heap vs xs.toList) :
  RepM .f V s.heap (s.heap.push o) (.lst vs) (.ref s.heap.objs.size) := by
 subst ho
 refine ⟨vs, _, xs, 0, rfl, rfl, get?_size _, Heap.get?_push_size _ rfl, r.mono (fun x o _ e => Heap.get?_push_of_some _ e) fun x hx => ?_⟩
 rcases List.mem_cons.mp hx with rfl | hx
 ·exact .inr (get?_size _)
 ·exact .inl hx

theorem binop_ok {op : Operator} {a b c : PV} (h : binop op a b = some c) : Op2 w (binaryOp op) a b c := by
 unfold binop at h
 split at h
 ·cases h; exact op2_val (by intro _ e; cases e) fun A d s V x y Q E R ra rb k => by
   obtain ⟨t, rfl⟩ := ra.int; obtain ⟨u, rfl⟩ := rb.int
   exact add_int (k _ _ .tok .int)
 ·split at h
  ·rename_i hz; cases h; exact op2_val (by intro _ e; cases e) fun A d s V x y Q E R ra rb k => by
    obtain ⟨t, rfl⟩ := ra.str; obtain ⟨u, rfl⟩ := rb.str
    exact SB.add (fun t' tk => k _ _ .tok .str) (sizeOk_le hz)
  ·cases h
 ·split at h
  ·rename_i hz; cases h
   intro A d s V x y Q E R lo ra rb k
   obtain ⟨l1, xs, n, rfl, g1, r1⟩ := ra.lst
   obtain ⟨l2, ys, n2, rfl, g2, r2⟩ := rb.lst
   have e1 := r1.length; have e2 := r2.length
   simp only [Array.length_toList] at e1 e2
   refine P.add_list (n := n) (n2 := n2) g1 g2 (k _ _ .push (fun _ => ?_) (fun h => absurd rfl (h _))) (by rw [e1, e2]; exact sizeOk_le hz)
   exact list_push (xs := xs ++ ys) rfl lo (by simpa using r1.append r2)
  ·cases h
 ·cases h; exact op2_val (by intro _ e; cases e) fun A d s V x y Q E R ra rb k => by
   obtain ⟨t, rfl⟩ := ra.int; obtain ⟨u, rfl⟩ := rb.int
   exact sub_int (k _ _ .tok .int)
 ·split at h
  ·rename_i hz; cases h; exact op2_val (by intro _ e; cases e) fun A d s V x y Q E R ra rb k => by
    obtain ⟨t, rfl⟩ := ra.int; obtain ⟨u, rfl⟩ := rb.int
    simp only [Bool.and_eq_true] at hz
    exact mul_int (k _ _ .tok .int) (.of_left (bits_le hz.1))
  ·cases h
 ·split at h
  ·rename_i hz; cases h; exact op2_val (by intro _ e; cases e) fun A d s V x y Q E R ra rb k => by
    obtain ⟨t, rfl⟩ := ra.int; obtain ⟨u, rfl⟩ := rb.str
    simp only [Bool.and_eq_true, natLe_iff, Nat.ble_eq] at hz
    exact mul_int_str (mulOk_of hz.1.1 hz.1.2 hz.2) fun t' tk => k _ _ .tok .str
  ·cases h
 ·split at h
  ·rename_i hz; cases h; exact op2_val (by intro _ e; cases e) fun A d s V x y Q E R ra rb k => by
    obtain ⟨t, rfl⟩ := ra.str; obtain ⟨u, rfl⟩ := rb.int
    simp only [Bool.and_eq_true, natLe_iff, Nat.ble_eq] at hz
    exact SB.mul (mulOk_of hz.1.1 hz.1.2 hz.2) fun t' tk => k _ _ .tok .str
  ·cases h
 ·split at h
  ·rename_i hz; cases h
   intro A d s V x y Q E R lo ra rb k
   obtain ⟨l1, xs, n, rfl, g1, r1⟩ := ra.lst
   obtain ⟨u, rfl⟩ := rb.int
   simp only [natLe_iff] at hz
   have e1 := r1.length
   simp only [Array.length_toList] at e1
   have e1 : xs.size = 1 := by simpa using e1
   refine wpAny_binaryOp_repeat_ref (T := "list") (U := "int") (by decide) ⟨_, g1, rfl⟩ (fun s' => typeIs_int s' _ u) noFill_list_mul PySem.F.fills_int_mul PySem.F.slot_int_rmul repeat_list PySem.F.slot_int_index.lookup
    (call_meets PySem.F.slot_int_rmul (typeIs_int s _ u) PySem.F.entry_int_rmul (PySem.F.args_int_rmul_2 _ _) (lm_int_rmul_list_any _ u l1 xs n none #[])
     ⟨g1, rfl, ⟨_, g1, rfl⟩, call_meets PySem.F.slot_list_mul ⟨_, g1, rfl⟩ PySem.F.entry_list_mul (PySem.F.args_list_mul_2 _ _)
      (lm_list_mul_any l1 xs n none #[] _ u (by simp [Builtin.List.listFitsIndex]; omega) (by rw [e1]; omega) (by rw [e1]; simp [Builtin.List.listTooLong, sizeLine]; omega))
      ⟨g1, ?_⟩⟩)
   refine k _ _ .push (fun _ => ?_) (fun h => absurd rfl (h _))
   refine list_push (xs := _) rfl lo ?_
   obtain ⟨ys, rfl⟩ : ∃ ys : List Value, xs = ys.toArray := ⟨xs.toList, by simp⟩
   rw [listMul_foldl_if]
   cases r1 with
   | cons r q => cases q; exact reps_rep r _
  ·cases h
 ·split at h
  ·rename_i hz; cases h; exact op2_val (by intro _ e; cases e) fun A d s V x y Q E R ra rb k => by
    obtain ⟨t, rfl⟩ := ra.int; obtain ⟨u, rfl⟩ := rb.int
    simp only [Bool.and_eq_true, decide_eq_true_eq] at hz
    exact mod_int (by omega) (k _ _ .tok .int)
  ·cases h
 ·split at h
  ·rename_i hz; cases h; exact op2_val (by intro _ e; cases e) fun A d s V x y Q E R ra rb k => by
    obtain ⟨t, rfl⟩ := ra.int; obtain ⟨u, rfl⟩ := rb.int
    simp only [Bool.and_eq_true, decide_eq_true_eq] at hz
    exact floordiv_int (by omega) (k _ _ .tok .int) (.inl (PyProof.noPylong_small (by omega)))
  ·cases h
 ·split at h
  ·rename_i a₀ b₀ hz; cases h; exact op2_val (by intro _ e; cases e) fun A d s V x y Q E R ra rb k => by
    obtain ⟨t, rfl⟩ := ra.int; obtain ⟨u, rfl⟩ := rb.int
    simp only [Bool.and_eq_true, decide_eq_true_eq] at hz
    refine pow_int hz.1.2 ?_ (k _ _ .tok .int)
    have hb : Builtin.Int.intBits a₀ ≤ 64 := bits_le (intOk_iff.mpr (by omega))
    have : (Builtin.Int.intBits a₀ : Int) * b₀ ≤ 64 * 6 := Int.mul_le_mul (by exact_mod_cast hb) hz.2 hz.1.2 (by decide)
    omega
  ·cases h
 ·cases h
end

mutual
theorem reads_of {V : List Addr} {h : Heap} : ∀ {v : PV} {x : Value} {d : PyData}, v.data = some d → Rep V h v x → ∃ as, Reads h x d as
 | .none, _, _, e, .none => by cases e; exact ⟨_, .none⟩
 | .bool _, _, _, e, .bool => by cases e; exact ⟨_, .bool _⟩
 | .int _, _, _, e, .int => by cases e; exact ⟨_, .int _ _⟩
 | .str _, _, _, e, .str => by cases e; exact ⟨_, .str _ _⟩
 | .tup vs, _, _, e, .tup _ g r => by
  simp only [PV.data, Option.map_eq_some_iff] at e
  obtain ⟨ds, e, rfl⟩ := e
  obtain ⟨as, q⟩ := readsAll_of e r
  exact ⟨_, .tuple g rfl rfl (by simpa using q)⟩
 | .lst vs, _, _, e, .lst _ g r => by
  simp only [PV.data, Option.map_eq_some_iff] at e
  obtain ⟨ds, e, rfl⟩ := e
  obtain ⟨as, q⟩ := readsAll_of e r
  exact ⟨_, .list g rfl rfl (by simpa using q)⟩
theorem readsAll_of {V : List Addr} {h : Heap} : ∀ {vs : List PV} {xs : List Value} {ds : List PyData}, PV.datas vs = some ds → Reps V h vs xs → ∃ as, ReadsAll h xs ds as
 | [], _, _, e, .nil => by cases e; exact ⟨_, .nil⟩
 | v :: vs, _, _, e, .cons r rs => by
  unfold PV.datas at e
  split at e
  ·rename_i d ds e1 e2
   cases e
   obtain ⟨as, q⟩ := reads_of e1 r
   obtain ⟨bs, p⟩ := readsAll_of e2 rs
   exact ⟨_, .cons q p⟩
  ·cases e
end

section
variable {w : World} {d : Nat} {sc : Sc} {md : Md} {env : Env} {ρ : Rho} {e : Expr} {pos : Pos}

theorem op2_bool {f : Value → Value → Sem Value} {a b : PV} {r : Bool}
  (h : ∀ (A : Around) (d : Nat) (s : Shared) (V : List Addr) (x y : Value) (Q : Value → Shared → Prop) (E : Value → Shared → Prop), Room d A → RepL V s.heap a x → RepL V s.heap b y →
   Q (.bool r) s → wpAny (model pw w) A (f x y) Q E s) : Op2 w f a b (.bool r) :=
 op2_val (by intro _ e; cases e) fun A d s V x y Q E R ra rb k => h A d s V x y Q E R ra rb (k _ _ (.refl s) .bool)

theorem reps_two {V : List Addr} {h : Heap} {a b : PV} {xs : List Value} (r : Reps V h [a, b] xs) : ∃ x y, xs = [x, y] ∧ Rep V h a x ∧ Rep V h b y := by
 cases r with
 | cons r1 rs => cases rs with
  | cons r2 rs => cases rs; exact ⟨_, _, rfl, r1, r2⟩
theorem repL_bare {V : List Addr} {h : Heap} {v : PV} {val : Value} (r : RepL V h v val) : Rep [] h v val := RepL.bare r

theorem dataEq_ok {a b : PV} {r : Bool} (h : dataEq a b = some r) : Op2 w (compareOp .Eq) a b (.bool r) ∧ Op2 w (compareOp .NotEq) a b (.bool (!r)) := by
 unfold dataEq at h
 split at h
 ·rename_i x y e1 e2
  split at h
  ·rename_i hs
   cases h
   rw [Bool.and_eq_true] at hs
   refine ⟨op2_bool fun A d s V x y Q E R ra rb k => ?_, op2_bool fun A d s V x y Q E R ra rb k => ?_⟩
   ·obtain ⟨as, q1⟩ := reads_of e1 ra.bare
    obtain ⟨bs, q2⟩ := reads_of e2 rb.bare
    exact eq_dataH q1 q2 hs.1 hs.2 (by have := R.units; show A.units + 64 < 9900; omega) k
   ·obtain ⟨as, q1⟩ := reads_of e1 ra.bare
    obtain ⟨bs, q2⟩ := reads_of e2 rb.bare
    exact ne_dataH q1 q2 hs.1 hs.2 (by have := R.units; show A.units + 64 < 9900; omega) k
  ·cases h
 ·cases h

theorem in_two {a0 b0 c0 : Int} : Op2 w (compareOp .In) (.int a0) (.tup [.int b0, .int c0]) (.bool (b0 == a0 || c0 == a0)) := op2_bool fun A d s V x y Q E R ra rb k => by
 obtain ⟨t, rfl⟩ := ra.int
 obtain ⟨l, xs, n, rfl, _, g, rs⟩ := (RepL.rep rb (by intro _ e; cases e)).tup_inv
 obtain ⟨x1, x2, rfl, r1, r2⟩ := reps_two rs
 obtain ⟨t1, rfl⟩ := r1.int_inv; obtain ⟨t2, rfl⟩ := r2.int_inv
 refine PySem.SeqAt.in_tupleAt (fun v => match v with | .int i _ => i == a0 | _ => false) ⟨_, g, rfl, n, rfl⟩ (fun y hy => ?_) ?_
 ·simp at hy
  rcases hy with rfl | rfl
  ·exact PySem.SeqAt.EqAt.int_int _ _ _ _
  ·exact PySem.SeqAt.EqAt.int_int _ _ _ _
 ·simpa using k
theorem cmp_ok {op : CmpOp} {a b : PV} {r : Bool} (h : cmp op a b = some r) : Op2 w (compareOp op) a b (.bool r) := by
 unfold cmp at h
 split at h
 ·cases h; exact op2_bool fun A d s V x y Q E R ra rb k => by
   obtain ⟨t, rfl⟩ := ra.int; obtain ⟨u, rfl⟩ := rb.int
   exact eq_int k
 ·cases h; exact op2_bool fun A d s V x y Q E R ra rb k => by
   obtain ⟨t, rfl⟩ := ra.str; obtain ⟨u, rfl⟩ := rb.str
   exact P.eq_str k
 ·exact (dataEq_ok h).1
 ·exact (dataEq_ok h).1
 ·cases h; exact op2_bool fun A d s V x y Q E R ra rb k => by
   obtain ⟨t, rfl⟩ := ra.int; obtain ⟨u, rfl⟩ := rb.int
   exact ne_int k
 ·cases h; exact op2_bool fun A d s V x y Q E R ra rb k => by
   obtain ⟨t, rfl⟩ := ra.str; obtain ⟨u, rfl⟩ := rb.str
   exact P.ne_str k
 ·rw [Option.map_eq_some_iff] at h; obtain ⟨r', h, rfl⟩ := h; exact (dataEq_ok h).2
 ·rw [Option.map_eq_some_iff] at h; obtain ⟨r', h, rfl⟩ := h; exact (dataEq_ok h).2
 ·cases h; exact op2_bool fun A d s V x y Q E R ra rb k => by
   obtain ⟨t, rfl⟩ := ra.int; obtain ⟨u, rfl⟩ := rb.int
   exact P.lt_int k
 ·cases h; exact op2_bool fun A d s V x y Q E R ra rb k => by
   obtain ⟨t, rfl⟩ := ra.int; obtain ⟨u, rfl⟩ := rb.int
   exact P.le_int k
 ·cases h; exact op2_bool fun A d s V x y Q E R ra rb k => by
   obtain ⟨t, rfl⟩ := ra.int; obtain ⟨u, rfl⟩ := rb.int
   exact P.gt_int k
 ·cases h; exact op2_bool fun A d s V x y Q E R ra rb k => by
   obtain ⟨t, rfl⟩ := ra.int; obtain ⟨u, rfl⟩ := rb.int
   exact P.ge_int k
 ·cases h; exact in_two
 ·split at h
  ·rename_i hz; cases h; exact op2_bool fun A d s V x y Q E R ra rb k => by
    obtain ⟨t, rfl⟩ := ra.str; obtain ⟨u, rfl⟩ := rb.str
    exact SB.notContains k
  ·cases h
 ·cases h; exact op2_bool fun A d s V x y Q E R ra rb k => by
   cases (ra.rep (by intro _ e; cases e)).none_inv; cases (rb.rep (by intro _ e; cases e)).none_inv
   exact wpAny_is_plain rfl k
 ·cases h; exact op2_bool fun A d s V x y Q E R ra rb k => by
   obtain ⟨t, rfl⟩ := ra.int; cases (rb.rep (by intro _ e; cases e)).none_inv
   exact wpAny_is_other rfl (by intro e; cases e) k
 ·cases h; exact op2_bool fun A d s V x y Q E R ra rb k => by
   obtain ⟨t, rfl⟩ := ra.str; cases (rb.rep (by intro _ e; cases e)).none_inv
   exact wpAny_is_other rfl (by intro e; cases e) k
 ·cases h; exact op2_bool fun A d s V x y Q E R ra rb k => by
   cases (ra.rep (by intro _ e; cases e)).none_inv; cases (rb.rep (by intro _ e; cases e)).none_inv
   exact wpAny_isNot_plain rfl k
 ·cases h; exact op2_bool fun A d s V x y Q E R ra rb k => by
   obtain ⟨t, rfl⟩ := ra.int; cases (rb.rep (by intro _ e; cases e)).none_inv
   exact wpAny_isNot_other rfl (by intro e; cases e) k
 ·cases h; exact op2_bool fun A d s V x y Q E R ra rb k => by
   obtain ⟨t, rfl⟩ := ra.str; cases (rb.rep (by intro _ e; cases e)).none_inv
   exact wpAny_isNot_other rfl (by intro e; cases e) k
 ·cases h
end

theorem subscripted_ops (slice : Expr) (o i : Value) : ∃ ops, subscripted slice false o i = operate ops (getItem o i) := by
 unfold subscripted
 split
 ·exact ⟨_, rfl⟩
 ·simp at *
 ·exact ⟨_, rfl⟩

/-- what an object's `__getitem__` makes of an index -/
def ItemAt (w : World) (A : Around) (o i : Value) (Q : Value → Shared → Prop) (E : Value → Shared → Prop) (s : Shared) : Prop :=
 ∃ T id, s.TypeIs o T ∧ typeLookup (.type T) "__getitem__" = pure (some (.builtin id)) ∧ wpAny (model pw w) A (getItem o i) Q E s

theorem wp_sub {w : World} {A : Around} {E : Value → Shared → Prop} {s : Shared} {env : Env} {value slice : Expr} {pos : Pos} {Q : Value → Shared → Prop}
  (h : wpAny (model pw w) A (eval value env) (fun o s₁ => wpAny (model pw w) A (eval slice env) (fun i s₂ => ItemAt w A o i Q E s₂) E s₁) E s) :
  wpAny (model pw w) A (eval (.Subscript value slice pos) env) Q E s := by
 refine Subscript_ (wpAny_mono h (fun o s₁ h₁ => wpAny_mono h₁ (fun i s₂ h₂ => ?_) fun _ _ e => e) fun _ _ e => e)
 obtain ⟨T, id, hT, hl, hg⟩ := h₂
 obtain ⟨ops, e⟩ := subscripted_ops slice o i
 exact tail_any hT hl hg e

theorem seqIndex_neg' {i : Int} {n k : Nat} (h0 : i < 0) (h : seqIndex? i n = some k) : -(n : Int) ≤ i ∧ k = (i + n).toNat := by
 unfold seqIndex? at h
 simp only [h0, if_true] at h
 split at h
 ·rename_i hc; simp at hc; cases h; omega
 ·cases h
theorem seqIndex_pos' {i : Int} {n k : Nat} (h0 : ¬ i < 0) (h : seqIndex? i n = some k) : i < n ∧ k = i.toNat := by
 unfold seqIndex? at h
 simp only [h0, if_false] at h
 split at h
 ·rename_i hc; simp at hc; cases h; omega
 ·cases h

theorem getItem_lst {w : World} {A : Around} {E : Value → Shared → Prop} {s : Shared} {l : Addr} {items : Array Value} {n k : Nat} {i : Int} {t : Tok} {x : Value} {Q : Value → Shared → Prop}
  (g : s.heap.get? l = some (lobj items n)) (hi : intOk i = true) (hk : seqIndex? i items.size = some k) (hx : items[k]? = some x) (h : Q x s) : ItemAt w A (.ref l) (.int i t) Q E s := by
 have hb := intOk_lt hi
 refine ⟨"list", _, ⟨_, g, rfl⟩, list_getitem_lookup, ?_⟩
 by_cases h0 : i < 0
 ·obtain ⟨h1, rfl⟩ := seqIndex_neg' h0 hk
  exact wpAny_getItem_list_neg ⟨_, g, rfl, n, rfl⟩ h0 h1 (by omega) hx h
 ·obtain ⟨h1, rfl⟩ := seqIndex_pos' h0 hk
  exact wpAny_getItem_list ⟨_, g, rfl, n, rfl⟩ (by omega) (by omega) hx h

theorem idx_ok {w : World} {A : Around} {E : Value → Shared → Prop} {s : Shared} {V : List Addr} {o i v : PV} {x y : Value} {Q : Value → Shared → Prop} (h : idx o i = some v) (ro : RepL V s.heap o x) (ri : Rep V s.heap i y)
  (k : ∀ val s', Kp s s' → Rep V s'.heap v val → Q val s') : ItemAt w A x y Q E s := by
 unfold idx at h
 split at h
 ·split at h
  ·rename_i hi
   obtain ⟨t, rfl⟩ := ri.int_inv
   obtain ⟨l, xs, n, rfl, g, rs⟩ := ro.lst
   rw [Option.bind_eq_some_iff] at h
   obtain ⟨j, hj, hv⟩ := h
   have e1 := rs.length
   simp only [Array.length_toList] at e1
   obtain ⟨val, hx, hr⟩ := rs.get hv
   exact getItem_lst g hi (by rw [e1]; exact hj) (by simpa using hx) (k _ _ (.refl s) hr)
  ·cases h
 ·split at h
  ·rename_i hi
   obtain ⟨t, rfl⟩ := ri.int_inv
   obtain ⟨l, xs, n, rfl, _, g, rs⟩ := (RepL.rep ro (by intro _ e; cases e)).tup_inv
   rw [Option.bind_eq_some_iff] at h
   obtain ⟨j, hj, hv⟩ := h
   have e1 := rs.length
   obtain ⟨val, hx, hr⟩ := rs.get hv
   have hb := intOk_lt hi
   exact ⟨"tuple", _, ⟨_, g, rfl⟩, PySem.F.slot_tuple_getitem.lookup, P.getItem_tuple (n := n) g (by omega) (by omega) (by simpa [e1] using hj) (by simpa using hx) (k _ _ (.refl s) hr)⟩
  ·cases h
 ·split at h
  ·rename_i hi
   obtain ⟨t, rfl⟩ := ri.int_inv
   obtain ⟨u, rfl⟩ := ro.str
   rw [Option.map_eq_some_iff] at h
   obtain ⟨c, hc, rfl⟩ := h
   have hb := intOk_lt hi
   exact ⟨"str", _, typeIs_str s _ _, PySem.F.slot_str_getitem.lookup, P.getItem_str (by simp; omega) hc (k _ _ .tok .str)⟩
  ·cases h
 ·cases h

/-! slices -/
theorem isPart_of {V : List Addr} {h : Heap} {v : PV} {x : Value} {p : Option Int} (e : partOf v = some p) (r : Rep V h v x) : IsPart x p ∧ ∃ q : Option (Int × Tok), x = partValue q ∧ q.map (·.1) = p := by
 unfold partOf at e
 split at e
 ·cases e; cases r.none_inv; exact ⟨.none, none, rfl, rfl⟩
 ·cases e; obtain ⟨t, rfl⟩ := r.int_inv; exact ⟨.int _ _, some (_, t), rfl, rfl⟩
 ·cases e

theorem reps_cut {V : List Addr} {h : Heap} {vs : List PV} {xs : List Value} (r : Reps V h vs xs) (lo hi : Option Int) : Reps V h (cutL vs lo hi) (cutL xs lo hi) := by
 unfold cutL
 rw [r.length]
 exact (r.drop _).take _

theorem pick_rev : ∀ (n : Nat) (items : Array Value), items.size = n → sliceBounds none none (some (-1)) n = ((n : Int) - 1, -1, -1) := by
 intro n items _; simp [sliceBounds]
theorem sliceRange_rev (n : Nat) : sliceRange ((n : Int) - 1) (-1) (-1) = (List.range n).map fun k => n - 1 - k := by
 unfold sliceRange
 rw [if_neg (by decide)]
 by_cases h : n = 0
 ·subst h; simp
 ·rw [if_pos (by omega)]
  have e : (((n : Int) - 1 - -1 - -1 - 1) / (- -1)).toNat = n := by
   have : ((n : Int) - 1 - -1 - -1 - 1) / (- -1) = n := by rw [show (- -1 : Int) = 1 from rfl, Int.ediv_one]; omega
   omega
  show List.map _ (List.range (((n : Int) - 1 - -1 - -1 - 1) / (- -1)).toNat) = _
  rw [e]
  refine List.map_congr_left fun k hk => ?_
  have := List.mem_range.mp hk
  omega
theorem filterMap_rev {α : Type} (xs : Array α) : ((List.range xs.size).map fun k => xs.size - 1 - k).filterMap (xs[·]?) = xs.toList.reverse := by
 apply List.ext_getElem?
 intro i
 rw [List.filterMap_map]
 have : (List.range xs.size).filterMap ((fun k => xs[k]?) ∘ fun k => xs.size - 1 - k) = (List.range xs.size).pmap (fun k (hk : k < xs.size) => xs[xs.size - 1 - k]'(by omega)) (fun k hk => List.mem_range.mp hk) := by
  have gen : ∀ (l : List Nat) (hl : ∀ k ∈ l, k < xs.size), l.filterMap ((fun k => xs[k]?) ∘ fun k => xs.size - 1 - k) = l.pmap (fun k (hk : k < xs.size) => xs[xs.size - 1 - k]'(by omega)) hl := by
   intro l
   induction l with
   | nil => intro _; rfl
   | cons a l ih =>
    intro hl
    have ha := hl a List.mem_cons_self
    rw [List.filterMap_cons]
    simp only [Function.comp]
    rw [Array.getElem?_eq_getElem (by omega)]
    simp only [List.pmap_cons]
    rw [← ih fun k hk => hl k (List.mem_cons_of_mem _ hk)]
  exact gen _ _
 rw [this]
 by_cases hi : i < xs.size
 ·rw [List.getElem?_eq_getElem (by simpa using hi), List.getElem?_eq_getElem (by simpa using hi)]
  simp [List.getElem_pmap, List.getElem_reverse]
 ·rw [List.getElem?_eq_none (by simpa using hi), List.getElem?_eq_none (by simpa using hi)]

theorem slicePick_rev (items : Array Value) : slicePick items none none (some (-1)) = items.toList.reverse.toArray := by
 unfold slicePick
 rw [pick_rev _ items rfl]
 simp only
 rw [sliceRange_rev, filterMap_rev]

theorem sliceMade_post {x : Str} {t : Tok} {l u : Option (Int × Tok)} {s : Shared} {Q : Value → Shared → Prop} (hz : x.length ≤ sizeLine) (k : ∀ t' tk, Q (.str (cutS x (l.map (·.1)) (u.map (·.1))) t') { s with toks := tk }) : (sliceMade x t l u none).post Q s := by
 have e0 : slicePicked x l u none = (List.range ((u.map (·.1)).elim x.length (clipAt x.length) - (l.map (·.1)).elim 0 (clipAt x.length))).map ((l.map (·.1)).elim 0 (clipAt x.length) + ·) := by
  have e1 : slicePicked x l u none = sliceRange (sliceBounds (l.map (·.1)) (u.map (·.1)) none x.length).1 (sliceBounds (l.map (·.1)) (u.map (·.1)) none x.length).2.1 1 := by
   unfold slicePicked strSliceIndices sliceBounds
   cases l <;> cases u <;> simp
  rw [e1, sliceBounds_plain]
  exact sliceRange_one _ _
 have e2 : (⟨((slicePicked x l u none).filterMap (x.cps[·]?)).toArray⟩ : Str) = cutS x (l.map (·.1)) (u.map (·.1)) := by
  rw [e0, pick_run]
  unfold cutS cutL
  have : x.cps.toList.length = x.length := by simp [Str.length]
  rw [this]
 have hlen : (cutS x (l.map (·.1)) (u.map (·.1))).length ≤ x.length := by
  unfold cutS cutL
  simp only [Str.length, List.size_toArray, List.length_take, List.length_drop, Array.length_toList]
  omega
 unfold sliceMade
 split
 ·rename_i hc
  have hx : cutS x (l.map (·.1)) (u.map (·.1)) = x := by
   simp only [Option.map_none, Option.getD_none, beq_self_eq_true, Bool.true_and, beq_iff_eq] at hc
   rw [e0, List.length_map, List.length_range] at hc
   unfold cutS cutL
   have hl : x.cps.toList.length = x.length := by simp [Str.length]
   rw [hl]
   generalize hA : (l.map (·.1)).elim 0 (clipAt x.length) = a at hc ⊢
   generalize hB : (u.map (·.1)).elim x.length (clipAt x.length) = b at hc ⊢
   have hb : b ≤ x.length := by
    rw [← hB]
    cases u with
    | none => simp
    | some q =>
     have := clipAt_cast x.length q.1
     simp only [Option.map_some, Option.elim_some]
     omega
   by_cases hxl : x.length = 0
   ·obtain ⟨c⟩ := x
    have : c = #[] := Array.eq_empty_of_size_eq_zero hxl
    subst this; simp
   ·have ha : a = 0 := by omega
    subst ha
    have hb' : b = x.length := by omega
    subst hb'
    rw [List.drop_zero, Nat.sub_zero, List.take_of_length_le (by rw [hl]; exact Nat.le_refl _)]
  have := k t s.toks
  rw [hx] at this
  exact this
 ·rw [e2]
  exact ⟨Nat.le_trans hlen hz, k _ _⟩

/-- the test e comes to b -/
def Et (w : World) (d : Nat) (sc : Sc) (env : Env) (ρ : Rho) (e : Expr) (b : Bool) : Prop :=
 ∀ (A : Around) (s : Shared) (V : List Addr) (ad : Str → List Addr) (Q : Bool → Shared → Prop) (E : Value → Shared → Prop), Room d A → Rd w env sc V ad ρ s →
  (∀ s', Kp s s' → Q b s') → wpAny (model pw w) A (isTrue e env (eval e env)) Q E s

theorem RepM.z {md : Md} {V : List Addr} {z z' : Heap} {h : Heap} {v : PV} {val : Value} (hm : md ≠ .f) (r : RepM md V z h v val) : RepM md V z' h v val := by
 cases md with
 | v => exact r
 | l => exact r
 | f => exact absurd rfl hm

inductive RepsM (md : Md) (V : List Addr) (h : Heap) : List PV → List Value → Prop
 | nil : RepsM md V h [] []
 | cons {v : PV} {x : Value} {vs : List PV} {xs : List Value} : RepM md V h h v x → RepsM md V h vs xs → RepsM md V h (v :: vs) (x :: xs)
theorem RepsM.keeps {md : Md} {V : List Addr} {h h' : Heap} (hm : md ≠ .f) (k : ∀ b o, h.get? b = some o → h'.get? b = some o) : ∀ {vs : List PV} {xs : List Value}, RepsM md V h vs xs → RepsM md V h' vs xs
 | _, _, .nil => .nil
 | _, _, .cons r rs => .cons ((RepM.keeps r k).z hm) (RepsM.keeps hm k rs)
theorem RepsM.reps {V : List Addr} {h : Heap} : ∀ {vs : List PV} {xs : List Value}, RepsM .v V h vs xs → Reps V h vs xs
 | _, _, .nil => .nil
 | _, _, .cons r rs => .cons r (RepsM.reps rs)
theorem RepsM.bare {V : List Addr} {h : Heap} : ∀ {vs : List PV} {xs : List Value}, RepsM .l V h vs xs → Reps [] h vs xs
 | _, _, .nil => .nil
 | _, _, .cons r rs => .cons (RepL.bare r) (RepsM.bare rs)
theorem RepsM.length {md : Md} {V : List Addr} {h : Heap} : ∀ {vs : List PV} {xs : List Value}, RepsM md V h vs xs → xs.length = vs.length
 | _, _, .nil => rfl
 | _, _, .cons _ rs => by simp [RepsM.length rs]

/-- several expressions, in their order -/
def Evs (w : World) (d : Nat) (sc : Sc) (md : Md) (env : Env) (ρ : Rho) (es : List Expr) (vs : List PV) : Prop :=
 ∀ (pos : Pos) (A : Around) (s : Shared) (V : List Addr) (ad : Str → List Addr) (Q : List Value → Shared → Prop) (E : Value → Shared → Prop), Room d A → Rd w env sc V ad ρ s →
  (∀ xs s', Kp s s' → RepsM md V s'.heap vs xs → Q xs s') → wpAny (model pw w) A (spliced (backTo pos (starEach es env))) Q E s

section
variable {w : World} {d : Nat} {sc : Sc} {md : Md} {env : Env} {ρ : Rho} {e : Expr} {pos : Pos}

theorem Evs.nil : Evs w d sc md env ρ [] [] := fun pos A s V ad Q E R r k => spliced_nil (k _ _ (.refl s) .nil)
theorem Evs.cons {v : PV} {es : List Expr} {vs : List PV} (hm : md ≠ .f) (hs : ∀ x p, e ≠ .Starred x p) (h : Ev w d sc md env ρ e v) (hr : Evs w d sc md env ρ es vs) : Evs w d sc md env ρ (e :: es) (v :: vs) := fun pos A s V ad Q E R r k => by
 have e1 : backTo pos (starEach (e :: es) env) = (false, eval e env) :: backTo pos (starEach es env) := by
  have : starEach (e :: es) env = (false, eval e env) :: starEach es env := by
   cases e <;> first | rfl | exact absurd rfl (hs _ _)
  rw [this]; rfl
 rw [e1]
 refine spliced_cons (h A s V ad _ E R r fun x s₁ k₁ r₁ => hr pos A s₁ V ad _ E R (r.kp k₁) fun xs s₂ k₂ r₂ => k _ _ (k₁.trans k₂) (.cons ((r₁.keeps k₂.keep).z hm) r₂))

theorem Ev.bin {md' : Md} {l r : Expr} {op : Operator} {a b v : PV} (hl : Ev w d sc .l env ρ l a) (hr : Ev w d sc .l env ρ r b) (ho : Op2 w (binaryOp op) a b v) (hv : md' = .f → ∃ vs, v = .lst vs) : Ev w d sc md' env ρ (.BinOp l op r pos) v := fun A s V ad Q E R rd h => by
 refine wpAny_BinOp (hl A s V ad _ E R rd fun x s₁ k₁ r₁ => hr A s₁ V ad _ E R (rd.kp k₁) fun y s₂ k₂ r₂ => ?_)
 refine ho A d s₂ V x y Q E R ((rd.kp k₁).kp k₂).low (r₁.keeps k₂.keep) r₂ fun val s' k rf rv => h val s' ((k₁.trans k₂).trans k) ?_
 by_cases hvl : ∃ vs, v = .lst vs
 ·have q := rf hvl
  obtain ⟨vs, a', xs, n, e1, e2, hz', g, rs⟩ := q
  exact RepM.ofF (z := s.heap) rd.low ⟨vs, a', xs, n, e1, e2, new_of (k₁.trans k₂).keep hz', g, rs⟩
 ·have q := rv fun vs e => hvl ⟨vs, e⟩
  exact RepM.of (fun hm => hvl (hv hm)) q

theorem Ev.cmp {l r : Expr} {op : CmpOp} {a b : PV} {c : Bool} (hl : Ev w d sc .l env ρ l a) (hr : Ev w d sc .l env ρ r b) (ho : Op2 w (compareOp op) a b (.bool c)) (hm : behindInMarks op r = false) :
  Ev w d sc .v env ρ (.Compare l [op] [r] pos) (.bool c) ∧ Et w d sc env ρ (.Compare l [op] [r] pos) c := by
 refine ⟨fun A s V ad Q E R rd h => wpAny_Compare1 (hm := hm) (hl A s V ad _ E R rd fun x s₁ k₁ r₁ => hr A s₁ V ad _ E R (rd.kp k₁) fun y s₂ k₂ r₂ => ?_), fun A s V ad Q E R rd h => wpAny_isTrue_Compare1 (hm := hm) (hl A s V ad _ E R rd fun x s₁ k₁ r₁ => hr A s₁ V ad _ E R (rd.kp k₁) fun y s₂ k₂ r₂ => ?_)⟩
 ·exact ho A d s₂ V x y Q E R ((rd.kp k₁).kp k₂).low (r₁.keeps k₂.keep) r₂ fun val s' k _ rv => h val s' ((k₁.trans k₂).trans k) (rv (by intro _ e; cases e))
 ·refine ho A d s₂ V x y _ E R ((rd.kp k₁).kp k₂).low (r₁.keeps k₂.keep) r₂ fun val s' k _ rv => ?_
  cases (rv (by intro _ e; cases e)).bool_inv
  exact wpAny_truthy_bool (h s' ((k₁.trans k₂).trans k))

theorem Ev.neg {i : Int} (h : Ev w d sc .v env ρ e (.int i)) : Ev w d sc .v env ρ (.UnaryOp .USub e pos) (.int (-i)) := fun A s V ad Q E R rd k =>
 wpAny_UnaryOp (h A s V ad _ E R rd fun x s₁ k₁ r₁ => by
  obtain ⟨t, rfl⟩ := (r₁ : Rep V _ _ _).int_inv
  exact P.neg_int (k _ _ (k₁.trans .tok) .int))
theorem Ev.not {b : Bool} (h : Ev w d sc .v env ρ e (.bool b)) (ht : Et w d sc env ρ e b) : Ev w d sc .v env ρ (.UnaryOp .Not e pos) (.bool (!b)) ∧ Et w d sc env ρ (.UnaryOp .Not e pos) (!b) :=
 ⟨fun A s V ad Q E R rd k => wpAny_UnaryOp (h A s V ad _ E R rd fun x s₁ k₁ r₁ => by
  cases (r₁ : Rep V _ _ _).bool_inv
  exact not_of (wpAny_truthy_bool (k _ _ k₁ .bool))),
  fun A s V ad Q E R rd k => isTrue_not (ht A s V ad _ E R rd fun s' k' => k s' k')⟩

theorem Et.value {b : Bool} (h : Ev w d sc .v env ρ e (.bool b)) (he : ∀ whole, isTrue e env whole = (do let v ← whole; standAt e.pos; holding [v] (truthy v))) : Et w d sc env ρ e b := fun A s V ad Q E R rd k =>
 wpAny_isTrue_value (h A s V ad _ E R rd fun x s₁ k₁ r₁ => by
  cases (r₁ : Rep V _ _ _).bool_inv
  exact wpAny_truthy_bool (k _ k₁)) (he _)

theorem Ev.ifexp {c a b : Expr} {t : Bool} {v : PV} (hc : Et w d sc env ρ c t) (h : Ev w d sc .v env ρ (if t then a else b) v) : Ev w d sc .v env ρ (.IfExp c a b pos) v := fun A s V ad Q E R rd k =>
 wpAny_IfExp (hc A s V ad _ E R rd fun s₁ k₁ => by
  have h' := h A s₁ V ad Q E R (rd.kp k₁) fun x s₂ k₂ r₂ => k x s₂ (k₁.trans k₂) r₂
  cases t <;> simpa using h')
theorem Et.ifexp {c a b : Expr} {t u : Bool} (hc : Et w d sc env ρ c t) (h : Et w d sc env ρ (if t then a else b) u) : Et w d sc env ρ (.IfExp c a b pos) u := fun A s V ad Q E R rd k => by
 show wpAny (model pw w) A (do if ← isTrue c env (eval c env) then isTrue a env (eval a env) else isTrue b env (eval b env)) Q E s
 refine wpAny_bind (hc A s V ad _ E R rd fun s₁ k₁ => ?_)
 have h' := h A s₁ V ad Q E R (rd.kp k₁) fun s₂ k₂ => k s₂ (k₁.trans k₂)
 cases t <;> simpa using h'

/-- and, or: their words of truth -/
theorem boolGo_ok {f : Expr → Option PV} {op : BoolOp} (hf : ∀ e b, f e = some (.bool b) → Ev w d sc .v env ρ e (.bool b) ∧ Et w d sc env ρ e b) :
  ∀ {es : List Expr} {v : PV}, boolGo f op es = some v → ∃ b, v = .bool b ∧ Ev w d sc .v env ρ (.BoolOp op es pos) (.bool b) ∧ (∀ A s V ad Q E, Room d A → Rd w env sc V ad ρ s → (∀ s', Kp s s' → Q b s') → wpAny (model pw w) A (allTrue op es env) Q E s)
 | [], v, h => by simp [boolGo] at h
 | [a], v, h => by
  unfold boolGo at h
  split at h
  ·rename_i x hx
   cases h
   obtain ⟨h1, h2⟩ := hf a x hx
   refine ⟨x, rfl, fun A s V ad Q E R rd k => BoolOp_one (h1 A s V ad Q E R rd k), fun A s V ad Q E R rd k => ?_⟩
   show wpAny (model pw w) A (do match op, ← isTrue a env (eval a env) with | .And, false => pure false | .Or, true => pure true | _, _ => allTrue op [] env) Q E s
   refine wpAny_bind (h2 A s V ad _ E R rd fun s₁ k₁ => ?_)
   have := k s₁ k₁
   cases op <;> cases x <;> exact wpAny_pure this
  ·cases h
 | a :: b :: r, v, h => by
  unfold boolGo at h
  split at h
  ·rename_i x hx
   obtain ⟨h1, h2⟩ := hf a x hx
   have tail : ∀ {y : PV}, boolGo f op (b :: r) = some y → _ := fun {y} hy => boolGo_ok hf (es := b :: r) (v := y) hy
   cases op with
   | And =>
    cases x with
    | false =>
     cases h
     refine ⟨false, rfl, fun A s V ad Q E R rd k => BoolOp_and (h1 A s V ad _ E R rd fun x s₁ k₁ r₁ => ?_), fun A s V ad Q E R rd k => ?_⟩
     ·cases (r₁ : Rep V _ _ _).bool_inv
      exact wpAny_truthy_bool (by simpa using k _ s₁ k₁ .bool)
     ·exact wpAny_bind (h2 A s V ad _ E R rd fun s₁ k₁ => wpAny_pure (k s₁ k₁))
    | true =>
     obtain ⟨c, rfl, h3, h4⟩ := tail h
     refine ⟨c, rfl, fun A s V ad Q E R rd k => BoolOp_and (h1 A s V ad _ E R rd fun x s₁ k₁ r₁ => ?_), fun A s V ad Q E R rd k => ?_⟩
     ·cases (r₁ : Rep V _ _ _).bool_inv
      exact wpAny_truthy_bool (by simpa using h3 A s₁ V ad Q E R (rd.kp k₁) fun y s₂ k₂ r₂ => k y s₂ (k₁.trans k₂) r₂)
     ·exact wpAny_bind (h2 A s V ad _ E R rd fun s₁ k₁ => h4 A s₁ V ad Q E R (rd.kp k₁) fun s₂ k₂ => k s₂ (k₁.trans k₂))
   | Or =>
    cases x with
    | true =>
     cases h
     refine ⟨true, rfl, fun A s V ad Q E R rd k => BoolOp_or (h1 A s V ad _ E R rd fun x s₁ k₁ r₁ => ?_), fun A s V ad Q E R rd k => ?_⟩
     ·cases (r₁ : Rep V _ _ _).bool_inv
      exact wpAny_truthy_bool (by simpa using k _ s₁ k₁ .bool)
     ·exact wpAny_bind (h2 A s V ad _ E R rd fun s₁ k₁ => wpAny_pure (k s₁ k₁))
    | false =>
     obtain ⟨c, rfl, h3, h4⟩ := tail h
     refine ⟨c, rfl, fun A s V ad Q E R rd k => BoolOp_or (h1 A s V ad _ E R rd fun x s₁ k₁ r₁ => ?_), fun A s V ad Q E R rd k => ?_⟩
     ·cases (r₁ : Rep V _ _ _).bool_inv
      exact wpAny_truthy_bool (by simpa using h3 A s₁ V ad Q E R (rd.kp k₁) fun y s₂ k₂ r₂ => k y s₂ (k₁.trans k₂) r₂)
     ·exact wpAny_bind (h2 A s V ad _ E R rd fun s₁ k₁ => h4 A s₁ V ad Q E R (rd.kp k₁) fun s₂ k₂ => k s₂ (k₁.trans k₂))
  ·cases h

theorem Ev.list {es : List Expr} {vs : List PV} (hs : sizeOk vs.length = true) (h : Evs w d sc .v env ρ es vs) : Ev w d sc .f env ρ (.List es pos) (.lst vs) := fun A s V ad Q E R rd k =>
 wpAny_List (h pos A s V ad _ E R rd fun xs s₁ k₁ rs => ⟨by rw [rs.length]; exact sizeOk_le hs, by
  refine k _ _ (k₁.trans .push) ?_
  obtain ⟨vs', a, ys, n, e1, e2, hz, g, r⟩ := list_push (xs := xs.toArray) rfl (rd.kp k₁).low (by simpa using rs.reps)
  exact ⟨vs', a, ys, n, e1, e2, new_of k₁.keep hz, g, r⟩⟩)
theorem Ev.tuple {es : List Expr} {vs : List PV} {kk : Nat} (hs : sizeOk vs.length = true) (h : Evs w d sc .v env ρ es vs) : Ev w d sc .v env ρ (.Tuple es kk pos) (.tup vs) := fun A s V ad Q E R rd k =>
 wpAny_Tuple (h pos A s V ad _ E R rd fun xs s₁ k₁ rs => ⟨by rw [rs.length]; exact sizeOk_le hs, by
  refine k _ _ (k₁.trans .push) (.tup ((rd.kp k₁).low.not_mem (get?_size _)) (n := 0) (Heap.get?_push_size _ rfl) (rs.reps.keeps fun b o e => Heap.get?_push_of_some _ e))⟩)

theorem Ev.idx {o i : Expr} {a b v : PV} (hi : ∀ l u st p, i ≠ .Slice l u st p) (ho : Ev w d sc .l env ρ o a) (hk : Ev w d sc .v env ρ i b) (h : SL.idx a b = some v) : Ev w d sc .v env ρ (.Subscript o i pos) v := fun A s V ad Q E R rd k =>
 wp_sub (ho A s V ad _ E R rd fun x s₁ k₁ r₁ => hk A s₁ V ad _ E R (rd.kp k₁) fun y s₂ k₂ r₂ =>
  idx_ok h (r₁.keeps k₂.keep) r₂ fun val s' k' r' => k val s' ((k₁.trans k₂).trans k') r')

/-- a part of a slice -/
def EvP (w : World) (d : Nat) (sc : Sc) (env : Env) (ρ : Rho) (e : Option Expr) (p : Option Int) : Prop :=
 ∀ (A : Around) (s : Shared) (V : List Addr) (ad : Str → List Addr) (Q : Value → Shared → Prop) (E : Value → Shared → Prop), Room d A → Rd w env sc V ad ρ s →
  (∀ val s', Kp s s' → IsPart val p → (∃ q : Option (Int × Tok), val = partValue q ∧ q.map (·.1) = p) → Q val s') → wpAny (model pw w) A (evalPart e env) Q E s
theorem EvP.none : EvP w d sc env ρ Option.none Option.none := fun A s V ad Q E R rd k => by
 rw [evalPart_none]; exact wpAny_pure (k _ _ (.refl s) .none ⟨Option.none, rfl, rfl⟩)
theorem EvP.some {v : PV} {p : Option Int} (h : Ev w d sc .v env ρ e v) (hp : partOf v = some p) : EvP w d sc env ρ (some e) p := fun A s V ad Q E R rd k => by
 rw [evalPart_some]
 exact h A s V ad _ E R rd fun x s₁ k₁ r₁ => k x s₁ k₁ (isPart_of hp r₁).1 (isPart_of hp r₁).2

theorem cut_ok {A : Around} {E : Value → Shared → Prop} {s : Shared} {V : List Addr} {o v : PV} {x vl vu vs : Value} {sl : Addr} {lo hi st : Option Int} {Q : Value → Shared → Prop} (h : cut o lo hi st = some v) (low : Live s.heap V) (ro : RepL V s.heap o x)
  (hs : s.heap.get? sl = some { cls := .type "slice", data := .fields #[vl, vu, vs] }) (pl : IsPart vl lo ∧ ∃ q : Option (Int × Tok), vl = partValue q ∧ q.map (·.1) = lo) (pu : IsPart vu hi ∧ ∃ q : Option (Int × Tok), vu = partValue q ∧ q.map (·.1) = hi) (ps : IsPart vs st ∧ ∃ q : Option (Int × Tok), vs = partValue q ∧ q.map (·.1) = st)
  (k : ∀ val s', Kp s s' → Rep V s'.heap v val → Q val s') : ItemAt w A x (.ref sl) Q E s := by
 unfold cut at h
 split at h
 ·split at h
  ·rename_i hz; cases h
   obtain ⟨l, xs, n, rfl, g, rs⟩ := ro.lst
   have e1 := rs.length
   simp only [Array.length_toList] at e1
   refine ⟨"list", _, ⟨_, g, rfl⟩, list_getitem_lookup, wpAny_getItem_list_slice ⟨_, g, rfl, n, rfl⟩ ⟨_, hs, rfl, rfl⟩ pl.1 pu.1 ps.1 (by simp) ?_ (by rw [e1]; exact sizeOk_le hz)⟩
   rw [slicePick_rev]
   refine k _ _ .push (RepM.ofF (md := .v) low (list_push (xs := xs.toList.reverse.toArray) rfl low ?_))
   simpa using rs.reverse
  ·cases h
 ·split at h
  ·rename_i hz; cases h
   obtain ⟨l, xs, n, rfl, g, rs⟩ := ro.lst
   have e1 := rs.length
   simp only [Array.length_toList] at e1
   refine ⟨"list", _, ⟨_, g, rfl⟩, list_getitem_lookup, wpAny_getItem_list_slice ⟨_, g, rfl, n, rfl⟩ ⟨_, hs, rfl, rfl⟩ pl.1 pu.1 ps.1 (by simp) ?_ (by rw [e1]; exact sizeOk_le hz)⟩
   rw [slicePick_plain]
   refine k _ _ .push (RepM.ofF (md := .v) low (list_push (xs := (cutL xs.toList lo hi).toArray) (by unfold cutL; simp) low ?_))
   simpa using reps_cut rs lo hi
  ·cases h
 ·split at h
  ·rename_i hz; cases h
   obtain ⟨t, rfl⟩ := ro.str
   obtain ⟨ql, rfl, el⟩ := pl.2; obtain ⟨qu, rfl, eu⟩ := pu.2; obtain ⟨qs, rfl, es⟩ := ps.2
   have : qs = Option.none := by cases qs <;> simp_all
   subst this
   refine ⟨"str", _, typeIs_str s _ _, PySem.F.slot_str_getitem.lookup, wpAny_getItem_str_slice (l := ql) (u := qu) (st := Option.none) ⟨_, hs, rfl, rfl⟩ rfl (sliceMade_post (sizeOk_le hz) fun t' tk => ?_)⟩
   rw [el, eu]
   exact k _ _ .tok .str
  ·cases h
 ·split at h
  ·rename_i hz; cases h
   have ro := RepL.rep ro (by intro _ e; cases e)
   cases ro with
   | arg hV g hc hd rs =>
    rename_i l o xs n
    have e1 := rs.length
    simp only [Array.length_toList] at e1
    refine ⟨"list", _, ⟨_, g, hc⟩, list_getitem_lookup, wpAny_getItem_list_slice ⟨_, g, hc, n, hd⟩ ⟨_, hs, rfl, rfl⟩ pl.1 pu.1 ps.1 (by simp) ?_ (by rw [e1]; exact sizeOk_le hz)⟩
    rw [slicePick_plain]
    refine k _ _ .push (RepM.ofF (md := .v) low (list_push (xs := (cutL xs.toList lo hi).toArray) (by unfold cutL; simp) low ?_))
    simpa using reps_cut rs lo hi
  ·cases h
 ·cases h

theorem Ev.cut {o : Expr} {lo hi st : Option Expr} {l h p : Option Int} {a v : PV} {pp : Pos} (ho : Ev w d sc .l env ρ o a) (hl : EvP w d sc env ρ lo l) (hh : EvP w d sc env ρ hi h) (hst : EvP w d sc env ρ st p) (hc : SL.cut a l h p = some v) :
  Ev w d sc .v env ρ (.Subscript o (.Slice lo hi st pp) pos) v := fun A s V ad Q E R rd k =>
 wp_sub (ho A s V ad _ E R rd fun x s₁ k₁ r₁ => wpAny_Slice (hl A s₁ V ad _ E R (rd.kp k₁) fun vl s₂ k₂ p₂ q₂ => hh A s₂ V ad _ E R ((rd.kp k₁).kp k₂) fun vu s₃ k₃ p₃ q₃ => hst A s₃ V ad _ E R (((rd.kp k₁).kp k₂).kp k₃) fun vs s₄ k₄ p₄ q₄ => by
  have K : Kp s₁ { s₄ with heap := s₄.heap.push { cls := .type "slice", data := .fields #[vl, vu, vs] } } := ((k₂.trans k₃).trans k₄).trans .push
  exact cut_ok hc ((rd.kp k₁).kp K).low (r₁.keeps K.keep) (Heap.get?_push_size _ rfl) ⟨p₂, q₂⟩ ⟨p₃, q₃⟩ ⟨p₄, q₄⟩ fun val s' k' r' => k val s' ((k₁.trans K).trans k') r'))
end

theorem b_len (P : Params) : nsK P 3 "len" = none ∧ nsK P 0 "len" = some (.builtin "len") := ⟨by kernel_rfl, by kernel_rfl⟩
theorem b_ord (P : Params) : nsK P 3 "ord" = none ∧ nsK P 0 "ord" = some (.builtin "ord") := ⟨by kernel_rfl, by kernel_rfl⟩
theorem b_chr (P : Params) : nsK P 3 "chr" = none ∧ nsK P 0 "chr" = some (.builtin "chr") := ⟨by kernel_rfl, by kernel_rfl⟩
theorem b_sum (P : Params) : nsK P 3 "sum" = none ∧ nsK P 0 "sum" = some (.builtin "sum") := ⟨by kernel_rfl, by kernel_rfl⟩
theorem b_sorted (P : Params) : nsK P 3 "sorted" = none ∧ nsK P 0 "sorted" = some (.builtin "sorted") := ⟨by kernel_rfl, by kernel_rfl⟩
theorem b_tuple (P : Params) : nsK P 3 "tuple" = none ∧ nsK P 0 "tuple" = some (.type "tuple") := ⟨by kernel_rfl, by kernel_rfl⟩
theorem b_list (P : Params) : nsK P 3 "list" = none ∧ nsK P 0 "list" = some (.type "list") := ⟨by kernel_rfl, by kernel_rfl⟩
theorem b_range (P : Params) : nsK P 3 "range" = none ∧ nsK P 0 "range" = some (.type "range") := ⟨by kernel_rfl, by kernel_rfl⟩

theorem Kp.grow {s : Shared} {h : Heap} {t : Nat} (k : ∀ b o, s.heap.get? b = some o → h.get? b = some o) : Kp s { s with heap := h, toks := t } := Kp.heap k

def CallOk (w : World) (fv : Value) (a v : PV) : Prop := ∀ (A : Around) (d : Nat) (s : Shared) (V : List Addr) (x : Value) (Q : Value → Shared → Prop) (E : Value → Shared → Prop), Room d A → Live s.heap V → RepL V s.heap a x →
 (∀ val s', Kp s s' → Rep V s'.heap v val → Q val s') → wpAny (model pw w) A (call fv [x]) Q E s

theorem ints_of {V : List Addr} {h : Heap} : ∀ {vs : List PV} {xs : List Int} {ys : List Value}, allInt vs = some xs → Reps V h vs ys → ∃ zs : List (Int × Tok), ys = zs.map (fun p => Value.int p.1 p.2) ∧ zs.map (·.1) = xs
 | [], _, _, e, .nil => by cases e; exact ⟨[], rfl, rfl⟩
 | .int i :: vs, _, _, e, .cons r rs => by
  simp only [allInt, Option.map_eq_some_iff] at e
  obtain ⟨xs, e, rfl⟩ := e
  obtain ⟨t, rfl⟩ := r.int_inv
  obtain ⟨zs, rfl, rfl⟩ := ints_of e rs
  exact ⟨(i, t) :: zs, rfl, rfl⟩
theorem strs_of {V : List Addr} {h : Heap} : ∀ {vs : List PV} {xs : List Str} {ys : List Value}, allStr vs = some xs → Reps V h vs ys → ∃ zs : List (Str × Tok), ys = zs.map (fun p => Value.str p.1 p.2) ∧ zs.map (·.1) = xs
 | [], _, _, e, .nil => by cases e; exact ⟨[], rfl, rfl⟩
 | .str i :: vs, _, _, e, .cons r rs => by
  simp only [allStr, Option.map_eq_some_iff] at e
  obtain ⟨xs, e, rfl⟩ := e
  obtain ⟨t, rfl⟩ := r.str_inv
  obtain ⟨zs, rfl, rfl⟩ := strs_of e rs
  exact ⟨(i, t) :: zs, rfl, rfl⟩
theorem strsAre_of : ∀ (zs : List (Str × Tok)), StrsAre (zs.map (fun p => Value.str p.1 p.2)) (zs.map (·.1))
 | [] => .nil
 | (x, t) :: zs => .cons x t (strsAre_of zs)
theorem reps_strs {V : List Addr} {h : Heap} : ∀ {ys : List Value} {ss : List Str}, StrsAre ys ss → Reps V h (ss.map .str) ys
 | _, _, .nil => .nil
 | _, _, .cons y t r => .cons .str (reps_strs r)

/-! sorting is told by what it gives -/
theorem leList_total (a b : List Nat) : leList a b = true ∨ leList b a = true := by
 unfold leList
 by_cases h : b < a
 ·right
  have : ¬ a < b := fun h' => List.lt_irrefl _ (List.lt_trans h h')
  simp [this]
 ·left; simp [h]
theorem ins_perm (x : Str) : ∀ l, (insS x l).Perm (x :: l)
 | [] => .refl _
 | y :: r => by
  unfold insS
  split
  ·exact .refl _
  ·exact ((ins_perm x r).cons y).trans (.swap x y r)
theorem sort_perm : ∀ l, (sortS l).Perm l
 | [] => .refl _
 | x :: r => (ins_perm x (sortS r)).trans ((sort_perm r).cons x)
theorem leList_trans {a b c : List Nat} (h : leList a b = true) (h' : leList b c = true) : leList a c = true := by
 simp only [leList, Bool.not_eq_true', decide_eq_false_iff_not] at *
 exact fun q => by
  exact h (List.lt_of_le_of_lt (List.not_lt.mp h') q)
theorem ins_sorted (x : Str) : ∀ {l : List Str}, l.Pairwise (fun a b => leList a.cps.toList b.cps.toList = true) → (insS x l).Pairwise (fun a b => leList a.cps.toList b.cps.toList = true)
 | [], _ => List.pairwise_singleton _ _
 | y :: r, h => by
  unfold insS
  split
  ·rename_i hc
   refine List.pairwise_cons.mpr ⟨fun z hz => ?_, h⟩
   rcases List.mem_cons.mp hz with rfl | hz
   ·exact hc
   ·exact leList_trans hc ((List.pairwise_cons.mp h).1 z hz)
  ·rename_i hc
   refine List.pairwise_cons.mpr ⟨fun z hz => ?_, ins_sorted x (List.pairwise_cons.mp h).2⟩
   rcases List.mem_cons.mp ((ins_perm x r).mem_iff.mp hz) with rfl | hz
   ·rcases leList_total z.cps.toList y.cps.toList with q | q
    ·exact absurd q hc
    ·exact q
   ·exact (List.pairwise_cons.mp h).1 z hz
theorem sort_sorted : ∀ (l : List Str), (sortS l).Pairwise (fun a b => leList a.cps.toList b.cps.toList = true)
 | [] => .nil
 | x :: r => ins_sorted x (sort_sorted r)
theorem rising_sorted : ∀ (p : Str) (l : List Str), risingS p l = true → (p :: l).Pairwise (fun a b => leList a.cps.toList b.cps.toList = true)
 | p, [], _ => List.pairwise_singleton _ _
 | p, x :: r, h => by
  unfold risingS at h
  rw [Bool.and_eq_true] at h
  have h1 : leList p.cps.toList x.cps.toList = true := by
   have := h.1
   rw [ltCps_eq] at this
   simpa [leList] using this
  have ih := rising_sorted x r h.2
  refine List.pairwise_cons.mpr ⟨fun z hz => ?_, ih⟩
  rcases List.mem_cons.mp hz with rfl | hz
  ·exact h1
  ·exact leList_trans h1 ((List.pairwise_cons.mp ih).1 z hz)
theorem str_eq {a b : Str} (h : a.cps.toList = b.cps.toList) : a = b := by
 obtain ⟨a⟩ := a; obtain ⟨b⟩ := b
 congr 1
 exact Array.toList_inj.mp h
theorem sorted_eq {l l' : List Str} (hp : l'.Perm l) (hs : sortedS l' = true) : l' = sortS l := by
 have h1 : l'.Pairwise (fun a b => leList a.cps.toList b.cps.toList = true) := by
  cases l' with
  | nil => exact .nil
  | cons p r => exact rising_sorted p r hs
 refine List.Perm.eq_of_pairwise (fun a b _ _ ha hb => ?_) h1 (sort_sorted l) (hp.trans (sort_perm l).symm)
 simp only [leList, Bool.not_eq_true', decide_eq_false_iff_not] at ha hb
 exact str_eq (List.le_antisymm (List.not_lt.mp ha) (List.not_lt.mp hb))

theorem get?_size1 (h : Heap) : h.get? (h.objs.size + 1) = none := by
 cases e : h.get? (h.objs.size + 1) with
 | none => rfl
 | some o => exact absurd (Heap.lt_size e) (Nat.not_lt.mpr (Nat.le_succ _))
theorem blt_ok {w : World} {f : Str} {a v : PV} (h : blt f [a] = some v) : ∃ fv, (∀ P, nsK P 3 f = none ∧ nsK P 0 f = some fv) ∧ ((∃ id, fv = .builtin id) ∨ ∃ T, fv = .type T) ∧ CallOk w fv a v := by
 unfold blt at h
 split at h
 ·rename_i vs e
  cases e
  split at h
  ·rename_i hf
   have hf := beq_iff_eq.mp hf; subst hf
   split at h
   ·rename_i hz; cases h
    refine ⟨_, b_len, .inl ⟨_, rfl⟩, fun A d s V x Q E R lo ra k => ?_⟩
    obtain ⟨l, xs, n, rfl, g, rs⟩ := ra.lst
    have e1 := rs.length
    simp only [Array.length_toList] at e1
    have hz' : vs.length ≤ 16000000 := Nat.le_of_ble_eq_true hz
    refine call_len_list ⟨_, g, rfl, n, rfl⟩ (by rw [e1]; omega) (k _ _ .tok ?_)
    rw [e1]; exact .int
   ·cases h
  ·split at h
   ·rename_i hf
    have hf := beq_iff_eq.mp hf; subst hf
    split at h
    ·rename_i hz; cases h
     refine ⟨_, b_tuple, .inr ⟨_, rfl⟩, fun A d s V x Q E R lo ra k => ?_⟩
     obtain ⟨l, xs, n, rfl, g, rs⟩ := ra.lst
     have e1 := rs.length
     simp only [Array.length_toList] at e1
     refine call_tuple_list ⟨_, g, rfl, n, rfl⟩ (fun h' hk => ?_) (by rw [e1]; exact sizeOk_le hz)
     have hk' : ∀ b o, s.heap.get? b = some o → (h'.push { cls := .type "tuple", data := .seq xs }).get? b = some o := fun b o e => Heap.get?_push_of_some _ (hk b o e)
     refine k _ _ (Kp.grow hk') (.tup ((lo.keeps hk).not_mem (get?_size _)) (n := 0) (xs := xs.toList) (by simpa using Heap.get?_push_size _ rfl) (rs.keeps hk'))
    ·cases h
   ·split at h
    ·rename_i hf
     have hf := beq_iff_eq.mp hf; subst hf
     split at h
     ·rename_i xs hx; cases h
      refine ⟨_, b_sum, .inl ⟨_, rfl⟩, fun A d s V x Q E R lo ra k => ?_⟩
      obtain ⟨l, ys, n, rfl, g, rs⟩ := ra.lst
      obtain ⟨zs, e, rfl⟩ := ints_of hx rs
      have e' : ys = intItems zs.toArray := by
       apply Array.toList_inj.mp
       rw [e]; simp [intItems]
      subst e'
      refine sum_intListG R.h ⟨_, g, rfl, n, rfl⟩ fun h' tk t' hk => ?_
      rw [preSum_eq, List.take_of_length_le (by simp)]
      exact k _ _ (Kp.grow hk) .int
     ·cases h
    ·split at h
     ·rename_i hf
      have hf := beq_iff_eq.mp hf; subst hf
      split at h
      ·rename_i xs hx
       split at h
       ·rename_i hz; cases h
        refine ⟨_, b_sorted, .inl ⟨_, rfl⟩, fun A d s V x Q E R lo ra k => ?_⟩
        obtain ⟨l, ys, n, rfl, g, rs⟩ := ra.lst
        obtain ⟨zs, e, rfl⟩ := strs_of hx rs
        have hz' : zs.length ≤ 60 := by simpa using hz
        have e2 : ys = (zs.map (fun p => Value.str p.1 p.2)).toArray := by rw [← e]
        refine sorted_strs (vs := zs.map (fun p => Value.str p.1 p.2)) ⟨_, g, rfl, n, by rw [e2]⟩ (strsAre_of zs) (by rw [List.length_map]; omega) fun out ss' hS hp hs => ?_
        have hk : ∀ b o, s.heap.get? b = some o → (sortedAll s.heap (zs.map (fun p => Value.str p.1 p.2)) out).get? b = some o := fun b o e => sortedAll_old e
        obtain ⟨m, hm⟩ := sortedAll_at s.heap (zs.map (fun p => Value.str p.1 p.2)) out
        refine k _ _ (Kp.grow (t := s.toks) hk) (.lst (lo.not_mem (get?_size1 _)) (xs := out.toList) (n := m) (by simpa using hm) ?_)
        rw [← sorted_eq hp hs]
        exact reps_strs hS
       ·cases h
      ·cases h
     ·cases h
 ·rename_i x e
  cases e
  split at h
  ·rename_i hf
   have hf := beq_iff_eq.mp hf; subst hf
   split at h
   ·rename_i hz; cases h
    refine ⟨_, b_len, .inl ⟨_, rfl⟩, fun A d s V x Q E R lo ra k => ?_⟩
    obtain ⟨t, rfl⟩ := ra.str
    have hz' := hz
    have hz' := Nat.le_of_ble_eq_true hz'
    exact P.len_str (by omega) (k _ _ .tok .int)
   ·cases h
  ·split at h
   ·rename_i hf
    have hf := beq_iff_eq.mp hf; subst hf
    split at h
    ·rename_i c hc; cases h
     refine ⟨_, b_ord, .inl ⟨_, rfl⟩, fun A d s V x Q E R lo ra k => ?_⟩
     obtain ⟨t, rfl⟩ := ra.str
     have := str_eq (b := ⟨#[c]⟩) hc
     subst this
     exact P.ord_of_char (k _ _ .tok .int)
    ·cases h
   ·cases h
 ·rename_i vs e
  cases e
  split at h
  ·rename_i hf
   have hf := beq_iff_eq.mp hf; subst hf
   split at h
   ·rename_i hz; cases h
    refine ⟨_, b_len, .inl ⟨_, rfl⟩, fun A d s V x Q E R lo ra k => ?_⟩
    have ra := RepL.rep ra (by intro _ e; cases e)
    cases ra with
    | arg hV g hc hd rs =>
     rename_i l o xs n
     have e1 := rs.length
     simp only [Array.length_toList] at e1
     have hz' : vs.length ≤ 16000000 := Nat.le_of_ble_eq_true hz
     refine call_len_list ⟨_, g, hc, n, hd⟩ (by rw [e1]; omega) (k _ _ .tok ?_)
     rw [e1]; exact .int
   ·cases h
  ·cases h
 ·rename_i i e
  cases e
  split at h
  ·rename_i hf
   have hf := beq_iff_eq.mp hf; subst hf
   split at h
   ·rename_i hz; cases h
    refine ⟨_, b_chr, .inl ⟨_, rfl⟩, fun A d s V x Q E R lo ra k => ?_⟩
    obtain ⟨t, rfl⟩ := ra.int
    simp only [natLe_iff] at hz
    exact P.chr_of_int (by simp; omega) (k _ _ .tok .str)
   ·cases h
  ·cases h
 ·cases h

/-- an object's method, called with nothing; with one thing -/
def MethOk0 (w : World) (m : Str) (o v : PV) : Prop :=
 ∀ (A : Around) (d : Nat) (s : Shared) (V : List Addr) (x : Value) (pos : Pos) (Q : Value → Shared → Prop) (E : Value → Shared → Prop), Room d A → RepL V s.heap o x →
  (∀ val s', Kp s s' → Rep V s'.heap v val → Q val s') → MethodOnS pw w A E m x pos [] Q s
def MethOk1 (w : World) (m : Str) (o b v : PV) : Prop :=
 ∀ (A : Around) (d : Nat) (s : Shared) (V : List Addr) (x : Value) (pos : Pos) (t : Sem Value) (Q : Value → Shared → Prop) (E : Value → Shared → Prop), Room d A → RepL V s.heap o x →
  wpAny (model pw w) A t (fun y s₁ => Kp s s₁ ∧ Live s₁.heap V ∧ RepL V s₁.heap b y ∧ ∀ val s', Kp s₁ s' → Rep V s'.heap v val → Q val s') E s → MethodOnS pw w A E m x pos [(false, t)] Q s

theorem split_push {V : List Addr} {s : Shared} {tk : Nat} {ss : List Str} {xs : List Value} (lo : Live s.heap V) (h : StrsAre xs ss) :
  Rep V (s.heap.push { cls := .type "list", data := .seq xs.toArray }) (.lst (ss.map .str)) (.ref s.heap.objs.size) :=
 RepM.ofF (md := .v) lo (list_push (xs := xs.toArray) rfl lo (by simpa using reps_strs h))
theorem strsFrom_are : ∀ (k : Nat) (l : List Str), StrsAre (strsFrom k l) l
 | _, [] => .nil
 | k, x :: r => .cons x k (strsFrom_are (k + 1) r)

theorem split_ok {w : World} {x y : Str} (hy : (y.length == 0) = false) (hx : x.length ≤ sizeLine) (hn : (partsBetween x (occurrences x y 0 x.length (x.length + 1)) y.length).length ≤ sizeLine) :
  MethOk1 w "split" (.str x) (.str y) (.lst ((Txt.split x y).map .str)) := fun A d s V x' pos t Q E R ro h => by
 obtain ⟨tx, rfl⟩ := ro.str
 refine ⟨"str", _, PySem.F.plainAttrs_str, PySem.F.slot_str_split, PySem.F.type_str_split, typeIs_str _ _ _, (fun _ e => nomatch e),
  method1_meets PySem.F.slot_str_split PySem.F.entry_str_split (wpAny_mono h (fun v s₁ h₁ => ?_) fun _ _ e => e)⟩
 obtain ⟨k₁, lo, rb, k⟩ := h₁
 obtain ⟨u, rfl⟩ := rb.str
 refine ⟨typeIs_str _ _ _, PySem.F.args_str_split_2 _ _, ?_⟩
 cases h1 : (decide (x.length < y.length) || decide (strKind x < strKind y))
 ·cases hf : (occurrences x y 0 x.length (x.length + 1)).isEmpty
  ·refine ⟨_, meets_str_split_sep x y tx u h1 hy hf hx hn, ?_⟩
   have e : Txt.split x y = partsBetween x (occurrences x y 0 x.length (x.length + 1)) y.length := (if_neg (ne_true_of_eq_false h1)).trans (if_neg (ne_true_of_eq_false hf))
   show wants Q E _ { s₁ with toks := _, heap := s₁.heap.push { cls := .type "list", data := .seq (strsFrom s₁.toks (partsBetween x (occurrences x y 0 x.length (x.length + 1)) y.length)).toArray } }
   exact k _ _ .push (e ▸ split_push (tk := 0) lo (strsFrom_are _ _))
  ·have e : Txt.split x y = [x] := (if_neg (ne_true_of_eq_false h1)).trans (if_pos hf)
   exact ⟨_, meets_str_split_not_found x y tx u h1 hy hf, k _ _ .push (e ▸ split_push (tk := 0) lo (.cons x tx .nil))⟩
 ·have e : Txt.split x y = [x] := if_pos h1
  exact ⟨_, meets_str_split_cannot_occur x y tx u h1, k _ _ .push (e ▸ split_push (tk := 0) lo (.cons x tx .nil))⟩

theorem strValues_of (zs : List (Str × Tok)) : strValues zs = zs.map (fun p => Value.str p.1 p.2) := by
 induction zs with
 | nil => rfl
 | cons p r ih => first | rfl | (show _ :: _ = _; rw [List.map_cons]; congr 1)

theorem meth0_ok {w : World} {m : Str} {o v : PV} (h : meth m o [] = some v) : MethOk0 w m o v := by
 unfold meth at h
 split at h
 ·split at h
  ·rename_i hm
   have hm := beq_iff_eq.mp hm; subst hm
   split at h
   ·rename_i hz; cases h
    intro A d s V x pos Q E R ro k
    obtain ⟨t, rfl⟩ := ro.str
    simp only [Nat.ble_eq] at hz
    exact SBL.lower (by omega) (fun _ => k _ _ .tok .str)
   ·cases h
  ·cases h
 ·rename_i e; cases e
 ·rename_i e; cases e
 ·rename_i e; cases e
 ·cases h

theorem meth1_ok {w : World} {m : Str} {o b v : PV} (h : meth m o [b] = some v) : MethOk1 w m o b v := by
 unfold meth at h
 split at h
 ·rename_i e; cases e
 ·rename_i x y e
  cases e
  split at h
  ·rename_i hm
   have hm := beq_iff_eq.mp hm; subst hm
   split at h
   ·rename_i hz; cases h
    simp only [Bool.and_eq_true, Bool.not_eq_true'] at hz
    exact split_ok hz.1.1 (sizeOk_le hz.1.2) (sizeOk_le hz.2)
   ·cases h
  ·split at h
   ·rename_i hm
    have hm := beq_iff_eq.mp hm; subst hm
    split at h
    ·rename_i hz; cases h
     intro A d s V x' pos t Q E R ro k
     obtain ⟨tx, rfl⟩ := ro.str
     exact SB.count (wpAny_mono k (fun v s₁ ⟨k₁, lo, rb, k⟩ => by obtain ⟨u, rfl⟩ := rb.str; exact ⟨_, u, rfl, k _ _ .tok .int⟩) fun _ _ e => e)
    ·cases h
   ·split at h
    ·rename_i hm
     have hm := beq_iff_eq.mp hm; subst hm
     split at h
     ·rename_i hz; cases h
      intro A d s V x' pos t Q E R ro k
      obtain ⟨tx, rfl⟩ := ro.str
      exact SB.rstripChars (wpAny_mono k (fun v s₁ ⟨k₁, lo, rb, k⟩ => by obtain ⟨u, rfl⟩ := rb.str; exact ⟨_, u, rfl, fun t' tk => k _ _ .tok .str⟩) fun _ _ e => e) (sizeOk_le hz)
     ·cases h
    ·cases h
 ·rename_i x vs e
  cases e
  split at h
  ·rename_i hm
   have hm := beq_iff_eq.mp hm; subst hm
   split at h
   ·rename_i xs hx
    split at h
    ·rename_i hz; cases h
     intro A d s V x' pos t Q E R ro k
     obtain ⟨tx, rfl⟩ := ro.str
     refine SB.join (wpAny_mono k (fun v s₁ ⟨k₁, lo, rb, k⟩ => ?_) fun _ _ e => e)
     obtain ⟨l, ys, n, rfl, g, rs⟩ := rb.lst
     obtain ⟨zs, e, rfl⟩ := strs_of hx rs
     refine ⟨l, zs, rfl, ⟨_, g, rfl, n, ?_⟩, _, rfl, hz, fun t' tk => k _ _ .tok .str⟩
     rw [strValues_of, ← e]
    ·cases h
   ·cases h
  ·cases h
 ·rename_i vs k0 e
  cases e
  split at h
  ·rename_i hm
   have hm := beq_iff_eq.mp hm; subst hm
   split at h
   ·rename_i xs hx; cases h
    intro A d s V x' pos t Q E R ro k
    obtain ⟨l, ys, n, rfl, g, rs⟩ := ro.lst
    refine ⟨"list", _, PySem.F.plainAttrs_list, PySem.F.slot_list_count, PySem.F.type_list_count, ⟨_, g, rfl⟩, (fun a e => by cases e; exact ⟨_, g, rfl⟩),
     P.count_list (wpAny_mono k (fun v s₁ ⟨k₁, lo, rb, k⟩ => ?_) fun _ _ e => e)⟩
    obtain ⟨u, rfl⟩ := rb.int
    obtain ⟨zs, e, rfl⟩ := ints_of hx rs
    refine ⟨ys, n, fun v => match v with | .int i _ => i == k0 | _ => false, k₁.keep _ _ g, fun y hy => ?_, ?_⟩
    ·have : y ∈ ys.toList := by simpa using hy
     rw [e] at this
     obtain ⟨p, _, rfl⟩ := List.mem_map.mp this
     exact MeetsSeq.EqGives.int _ _ _ _
    ·rw [e]
     have : (zs.map (fun p => Value.int p.1 p.2)).countP (fun v => match v with | .int i _ => i == k0 | _ => false) = (zs.map (·.1)).countP (· == k0) := by
      rw [List.countP_map, List.countP_map]; rfl
     rw [this]
     exact k _ _ .tok .int
   ·cases h
  ·cases h
 ·cases h

theorem go_of {w : World} {A : Around} {s : Shared} {E : Value → Shared → Prop} {I T : Addr} {o : Obj} {X : String} {vs : Array Value} {elts : List Expr} {k : Nat} {p : Pos} {Q : Unit → Shared → Prop} (ho : s.heap.get? I = some o) (hc : o.cls = .type X) (hd : o.data = .fields vs)
  (hX : (["enumerate", "zip", "dict_itemiterator", "dict_reverseitemiterator", "odict_iterator", "itertools.zip_longest", "itertools.pairwise"].contains X) = false) (hQ : Q () s) :
  wpAny (model pw w) A (letOwnedTupleGo (.Tuple elts k p) (.ref I) (.ref T)) Q E s := by
 unfold letOwnedTupleGo
 refine wpAny_bind (wpAny_load ho ?_)
 rw [hc, hd]
 show wpAny _ A (if (["enumerate", "zip", "dict_itemiterator", "dict_reverseitemiterator", "odict_iterator", "itertools.zip_longest", "itertools.pairwise"].contains X && vs[0]? == some (rawInt T)) = true then _ else _) Q E s
 rw [hX, Bool.false_and, if_neg (by decide)]
 exact wpAny_pure hQ

/-- an iterator that has all its items before it -/
structure ItW (w : World) (V : List Addr) (h₁ : Heap) (I : Addr) (vs : List PV) (s₂ : Shared) (fp : List Addr) (P : Nat → Value → Prop) (St : Nat → Heap → Prop) (x : Value) : Prop where
 walks : ∀ A : Around, A.handled = none → Walks pw w A I fp [I] vs.length P St
 st : St 0 s₂.heap
 items : ∀ i v, i < vs.length → P i v → ∃ pv, vs[i]? = some pv ∧ Rep V h₁ pv v
 fresh : h₁.get? I = none
 alive : ∀ b ∈ fp, ∃ o, s₂.heap.get? b = some o
 lives : ∀ i h, St i h → ∃ o, h.get? I = some o
 src : ∀ b ∈ fp, b = I ∨ x = .ref b
 go : ∀ (i : Nat) (s : Shared) (A : Around) (elts : List Expr) (k : Nat) (p : Pos) (T : Addr) (Q : Unit → Shared → Prop) (E : Value → Shared → Prop), St i s.heap → Q () s → wpAny (model pw w) A (letOwnedTupleGo (.Tuple elts k p) (.ref I) (.ref T)) Q E s

def IterOk (w : World) (A : Around) (V : List Addr) (x : Value) (vs : List PV) (s₁ : Shared) : Prop :=
 ∀ (Q : Value → Shared → Prop) (E : Value → Shared → Prop), (∀ I fp P St s₂, Kp s₁ s₂ → ItW w V s₁.heap I vs s₂ fp P St x → Q (.ref I) s₂) → wpAny (model pw w) A (pyIter x) Q E s₁

theorem items_ok {w : World} {A : Around} {V : List Addr} {v : PV} {x : Value} {vs : List PV} {s : Shared} (h : itemsOf v = some vs) (r : RepL V s.heap v x) : IterOk w A V x vs s := fun Q E k => by
 unfold itemsOf at h
 split at h
 ·split at h
  ·rename_i hz; cases h
   obtain ⟨l, xs, n, rfl, g, rs⟩ := r.lst
   have hne : l ≠ s.heap.objs.size := fun e => by rw [e, get?_size] at g; cases g
   have e1 := rs.length
   simp only [Array.length_toList] at e1
   refine wpAny_pyIter_list ⟨_, g, rfl, n, rfl⟩ (k _ [s.heap.objs.size, l] _ _ _ .push ⟨fun A' hA => e1 ▸ Walks.list hA _ l hne xs, ⟨⟨_, Heap.get?_push_size _ rfl, rfl, rfl⟩, (Heap.IsList.push ⟨_, g, rfl, n, rfl⟩ _)⟩, fun i v hi hp => ?_, get?_size _, fun b hb => ?_, fun i h st => let ⟨o, e, _⟩ := st.1; ⟨o, e⟩, fun b hb => by (simp at hb; rcases hb with rfl | rfl; exact .inl rfl; exact .inr rfl), fun i s A elts k p T Q E st hq => let ⟨o, e, c, dd⟩ := st.1; go_of e c dd (by decide) hq⟩)
   ·obtain ⟨pv, hpv⟩ : ∃ pv, vs[i]? = some pv := ⟨_, List.getElem?_eq_getElem hi⟩
    obtain ⟨y, hy, hr⟩ := rs.get hpv
    have : y = v := by
     have : xs[i]? = some y := by simpa using hy
     rw [this] at hp; cases hp; rfl
    subst this
    exact ⟨pv, hpv, hr⟩
   ·simp at hb
    rcases hb with rfl | rfl
    ·exact ⟨_, Heap.get?_push_size _ rfl⟩
    ·exact ⟨_, Heap.get?_push_of_some _ g⟩
  ·cases h
 ·split at h
  ·rename_i hz; cases h
   obtain ⟨l, xs, n, rfl, _, g, rs⟩ := (RepL.rep r (by intro _ e; cases e)).tup_inv
   have hne : l ≠ s.heap.objs.size := fun e => by rw [e, get?_size] at g; cases g
   have e1 := rs.length
   have e1' : xs.toArray.size = vs.length := by simpa using e1
   refine wpAny_pyIter_tuple ⟨_, g, rfl, n, rfl⟩ (k _ [s.heap.objs.size, l] _ _ _ .push ⟨fun A' hA => e1' ▸ Walks.tuple hA _ l hne xs.toArray, ⟨⟨_, Heap.get?_push_size _ rfl, rfl, rfl⟩, ⟨_, Heap.get?_push_of_some _ g, rfl, n, rfl⟩⟩, fun i v hi hp => ?_, get?_size _, fun b hb => ?_, fun i h st => let ⟨o, e, _⟩ := st.1; ⟨o, e⟩, fun b hb => by (simp at hb; rcases hb with rfl | rfl; exact .inl rfl; exact .inr rfl), fun i s A elts k p T Q E st hq => let ⟨o, e, c, dd⟩ := st.1; go_of e c dd (by decide) hq⟩)
   ·obtain ⟨pv, hpv⟩ : ∃ pv, vs[i]? = some pv := ⟨_, List.getElem?_eq_getElem hi⟩
    obtain ⟨y, hy, hr⟩ := rs.get hpv
    have : y = v := by
     have : xs.toArray[i]? = some y := by simpa using hy
     rw [this] at hp; cases hp; rfl
    subst this
    exact ⟨pv, hpv, hr⟩
   ·simp at hb
    rcases hb with rfl | rfl
    ·exact ⟨_, Heap.get?_push_size _ rfl⟩
    ·exact ⟨_, Heap.get?_push_of_some _ g⟩
  ·cases h
 ·split at h
  ·rename_i x₀ hz; cases h
   obtain ⟨t, rfl⟩ := r.str
   have fin : ∀ i v, i < (x₀.cps.toList.map fun c => PV.str (strOf c)).length → SignAt x₀ i v → ∀ H, ∃ pv, (x₀.cps.toList.map fun c => PV.str (strOf c))[i]? = some pv ∧ Rep V H pv v := fun i v hi hp H => by
    obtain ⟨c, u, hc, rfl⟩ := hp
    refine ⟨.str (strOf c), ?_, .str⟩
    rw [List.getElem?_map]
    have : x₀.cps.toList[i]? = some c := by simpa using hc
    rw [this]; rfl
   have hl : (x₀.cps.toList.map fun c => PV.str (strOf c)).length = x₀.cps.size := by simp
   cases ha : x₀.cps.all (· < 128)
   ·refine wpAny_pyIter_wide ha (k _ [s.heap.objs.size] (SignAt x₀) _ _ .push ⟨fun A' hA => hl ▸ Walks.strWide hA _ x₀ t, ⟨_, Heap.get?_push_size _ rfl, rfl, rfl⟩, fun i v hi hp => fin i v hi hp _, get?_size _, fun b hb => ?_, fun i h st => let ⟨o, e, _⟩ := st; ⟨o, e⟩, fun b hb => .inl (by simpa using hb), fun i s A elts k p T Q E st hq => let ⟨o, e, c, dd⟩ := st; go_of e c dd (by decide) hq⟩)
    simp at hb; subst hb
    exact ⟨_, Heap.get?_push_size _ rfl⟩
   ·refine wpAny_pyIter_ascii ha (k _ [s.heap.objs.size] (SignAt x₀) _ _ .push ⟨fun A' hA => hl ▸ Walks.strAscii hA _ x₀ t, ⟨_, Heap.get?_push_size _ rfl, rfl, rfl⟩, fun i v hi hp => fin i v hi hp _, get?_size _, fun b hb => ?_, fun i h st => let ⟨o, e, _⟩ := st; ⟨o, e⟩, fun b hb => .inl (by simpa using hb), fun i s A elts k p T Q E st hq => let ⟨o, e, c, dd⟩ := st; go_of e c dd (by decide) hq⟩)
    simp at hb; subst hb
    exact ⟨_, Heap.get?_push_size _ rfl⟩
  ·cases h
 ·cases h

theorem range_small {a b : Int} (ha : -(2 ^ 62) < a ∧ a < 2 ^ 62) (hb : -(2 ^ 62) < b ∧ b < 2 ^ 62) : Builtin.Range.rangeSize a b 1 = ((b - a).toNat : Nat) ∧ Builtin.Range.small a b 1 = true := by
 have e : Builtin.Range.rangeSize a b 1 = ((b - a).toNat : Nat) := by
  unfold Builtin.Range.rangeSize
  rw [if_pos (by decide)]
  split
  ·rw [Int.ediv_one]; omega
  ·omega
 refine ⟨e, ?_⟩
 unfold Builtin.Range.small
 rw [e]
 simp only [Builtin.Range.rangeFitsLong, Bool.and_eq_true, decide_eq_true_eq, Bool.or_eq_true, beq_iff_eq]
 refine ⟨⟨⟨⟨by omega, by omega⟩, by decide⟩, by omega⟩, .inr ?_⟩
 rw [if_pos (by decide)]
 simp only [Bool.and_eq_true, decide_eq_true_eq]
 omega

/-- a range, made and walked, or listed -/
theorem range_ok {w : World} {A : Around} {d : Nat} {V : List Addr} {args : List PV} {xs : List Value} {vs : List PV} {s : Shared} {Q : Value → Shared → Prop} {E : Value → Shared → Prop} (R : Room d A) (h : rangeOf args = some vs) (r : Reps V s.heap args xs)
  (k : ∀ x s₁, Kp s s₁ → IterOk w A V x vs s₁ → (∀ Q' E', (Live s₁.heap V → ∀ val s₂, Kp s₁ s₂ → Rep V s₂.heap (.lst vs) val → Q' val s₂) → Live s₁.heap V → wpAny (model pw w) A (call (.type "list") [x]) Q' E' s₁) → Q x s₁) : wpAny (model pw w) A (call (.type "range") xs) Q E s := by
 have fin : ∀ (a b : Int) (r : Addr) (t u v : Tok) (s₁ : Shared), intOk a = true → intOk b = true → b - a ≤ 1000 → IsRange s₁.heap r a b 1 t u v → IterOk w A V (.ref r) (rangeL a b) s₁ ∧
   (∀ Q' E', (Live s₁.heap V → ∀ val s₂, Kp s₁ s₂ → Rep V s₂.heap (.lst (rangeL a b)) val → Q' val s₂) → Live s₁.heap V → wpAny (model pw w) A (call (.type "list") [.ref r]) Q' E' s₁) := by
  intro a b r t u v s₁ ha hb hab hr
  obtain ⟨e, hs⟩ := range_small (intOk_lt ha) (intOk_lt hb)
  have hlen : (rangeL a b).length = (b - a).toNat := by simp [rangeL]
  have hat : ∀ i, i < (b - a).toNat → (rangeL a b)[i]? = some (.int (a + (i : Int))) := fun i hi => by
   unfold rangeL
   rw [List.getElem?_map, List.getElem?_range hi]; rfl
  refine ⟨fun Q' E' k' => ?_, fun Q' E' k' lo => ?_⟩
  ·refine wpAny_pyIter_range hr hs (k' _ [s₁.heap.objs.size] _ _ _ .push ⟨fun A' hA => hlen ▸ Walks.range hA _ a 1 (b - a).toNat, ?_, fun i v hi hp => ?_, get?_size _, fun b hb => ?_, fun i h st => ⟨_, st⟩, fun b hb => .inl (by simpa using hb), fun i s A elts k p T Q E st hq => go_of st rfl rfl (by decide) hq⟩)
   ·show IsRangeIter _ _ (a + ((0 : Nat) : Int) * 1) (((rangeL a b).length : Int) - ((0 : Nat) : Int)) 1
    rw [hlen]
    have e1 : a + ((0 : Nat) : Int) * 1 = a := by simp
    have e2 : (((b - a).toNat : Nat) : Int) - ((0 : Nat) : Int) = Builtin.Range.rangeSize a b 1 := by rw [e]; simp
    rw [e1, e2]
    exact Heap.get?_push_size _ rfl
   ·obtain ⟨t', rfl⟩ := hp
    rw [hlen] at hi
    refine ⟨_, hat i hi, ?_⟩
    rw [Int.mul_one]; exact .int
   ·simp at hb; subst hb; exact ⟨_, Heap.get?_push_size _ rfl⟩
  ·refine call_list_range R.h hr hs e (by omega) fun h' tk acc c hk hg hi => k' lo _ _ (Kp.grow hk) (.lst (lo.not_mem (get?_size _)) (xs := acc.toList) (n := c) (by simpa using hg) ?_)
   have gen : ∀ (vs : List PV) (ys : List Value), ys.length = vs.length → (∀ (i : Nat) (v : PV), vs[i]? = some v → ∃ y, ys[i]? = some y ∧ Rep V h' v y) → Reps V h' vs ys := by
    intro vs
    induction vs with
    | nil => intro ys hl _; cases ys with
     | nil => exact .nil
     | cons _ _ => simp at hl
    | cons v vs ih =>
     intro ys hl hr
     cases ys with
     | nil => simp at hl
     | cons y ys =>
      obtain ⟨y', e1, r1⟩ := hr 0 v (by simp)
      simp at e1; subst e1
      exact .cons r1 (ih ys (by simpa using hl) fun i v' hv => by simpa using hr (i + 1) v' (by simpa using hv))
   refine gen _ _ (by rw [hlen]; simpa using hi.1) fun i v hv => ?_
   have hi' : i < (b - a).toNat := by
    have := (List.getElem?_eq_some_iff.mp hv).1
    rwa [hlen] at this
   rw [hat i hi'] at hv
   cases hv
   have hsz : i < acc.size := by rw [hi.1]; exact hi'
   have hy : acc[i]? = some acc[i] := Array.getElem?_eq_getElem hsz
   obtain ⟨t', e'⟩ := hi.2 i _ hy
   refine ⟨acc[i], by simpa using hy, ?_⟩
   rw [e', Int.mul_one]; exact .int
 unfold rangeOf at h
 split at h
 ·split at h
  ·rename_i b₀ hz; cases h
   simp only [Bool.and_eq_true, Nat.ble_eq] at hz
   cases r with
   | cons r1 rs =>
    cases rs
    obtain ⟨t, rfl⟩ := r1.int_inv
    obtain ⟨f1, f2⟩ := fin 0 b₀ s.heap.objs.size s.toks t (s.toks + 1) { s with heap := s.heap.push { cls := .type "range", data := .fields #[.int 0 s.toks, .int b₀ t, .int 1 (s.toks + 1)] }, toks := s.toks + 1 + 1 } (by decide) hz.1 (by omega) (Heap.get?_push_size _ rfl)
    exact call_range_1 (k _ _ .push f1 f2)
  ·cases h
 ·split at h
  ·rename_i a₀ b₀ hz; cases h
   simp only [Bool.and_eq_true, Nat.ble_eq] at hz
   obtain ⟨x1, x2, rfl, r1, r2⟩ := reps_two r
   obtain ⟨t, rfl⟩ := r1.int_inv; obtain ⟨u, rfl⟩ := r2.int_inv
   obtain ⟨f1, f2⟩ := fin a₀ b₀ s.heap.objs.size t u s.toks { s with heap := s.heap.push { cls := .type "range", data := .fields #[.int a₀ t, .int b₀ u, .int 1 s.toks] }, toks := s.toks + 1 } hz.1.1 hz.1.2 (by omega) (Heap.get?_push_size _ rfl)
   exact call_range_2 (k _ _ .push f1 f2)
  ·cases h
 ·cases h

def clsOf (scope : Scope) (env : Env) : List (Str × Addr) := ((scope.names.filter fun x => x.2 == .free).map fun x => (x.1, (env.cells.lookup x.1).getD 0)).reverse

theorem closure_of {scope : Scope} {env : Env} (h : ∀ x ∈ scope.names, x.2 = .free → (env.cells.lookup x.1).isSome = true) : closureFor scope env = pure (clsOf scope env) := by
 have gen : ∀ (l : List (Str × NameKind)) (cs : List (Str × Addr)), (∀ x ∈ l, x.2 = .free → (env.cells.lookup x.1).isSome = true) →
   (forIn l cs fun (x : Str × NameKind) (cs : List (Str × Addr)) => (if (x.2 == NameKind.free) = true then do let c ← cellOf env x.1; pure (ForInStep.yield ((x.1, c) :: cs)) else pure (ForInStep.yield cs) : Sem (ForInStep (List (Str × Addr))))) =
    pure (((l.filter fun x => x.2 == .free).map fun x => (x.1, (env.cells.lookup x.1).getD 0)).reverse ++ cs) := by
  intro l
  induction l with
  | nil => intro cs _; simp
  | cons x l ih =>
   intro cs hl
   rw [List.forIn_cons]
   cases hx : x.2 == NameKind.free with
   | false =>
    simp only [Bool.false_eq_true, if_false, pure_bind]
    rw [ih cs fun y hy => hl y (List.mem_cons_of_mem _ hy)]
    simp [hx]
   | true =>
    obtain ⟨c, hc⟩ := Option.isSome_iff_exists.mp (hl x List.mem_cons_self (beq_iff_eq.mp hx))
    have e : cellOf env x.1 = pure c := by unfold cellOf; rw [hc]
    simp only [if_true, e, pure_bind]
    rw [ih _ fun y hy => hl y (List.mem_cons_of_mem _ hy)]
    simp [hx, hc]
 unfold closureFor clsOf
 have := gen scope.names [] h
 simp only [List.append_nil] at this
 refine Eq.trans ?_ this
 simp only [pure_bind, bind_pure]

theorem cls_look {scope : Scope} {env : Env} {y : Str} {c : Addr} (hf : scope.names.lookup y = some .free) (hc : env.cells.lookup y = some c) : (clsOf scope env).lookup y = some c := by
 have gen : ∀ (l : List (Str × Addr)), (∀ p ∈ l, p.1 = y → p.2 = c) → (∃ p ∈ l, p.1 = y) → l.lookup y = some c := by
  intro l
  induction l with
  | nil => intro _ h; obtain ⟨p, hp, _⟩ := h; cases hp
  | cons q l ih =>
   intro h1 h2
   rw [List.lookup_cons]
   cases e : y == q.1 with
   | true => rw [h1 q List.mem_cons_self (beq_iff_eq.mp e).symm]
   | false =>
    refine ih (fun p hp => h1 p (List.mem_cons_of_mem _ hp)) ?_
    obtain ⟨p, hp, rfl⟩ := h2
    rcases List.mem_cons.mp hp with rfl | hp
    ·simp at e
    ·exact ⟨p, hp, rfl⟩
 have hm : ∀ {l : Sc}, l.lookup y = some .free → (y, NameKind.free) ∈ l := by
  intro l
  induction l with
  | nil => intro h; simp at h
  | cons q l ih =>
   intro h
   obtain ⟨n, k⟩ := q
   rw [List.lookup_cons] at h
   cases e : y == n with
   | true => rw [e] at h; cases h; rw [beq_iff_eq.mp e]; exact List.mem_cons_self
   | false => rw [e] at h; exact List.mem_cons_of_mem _ (ih h)
 refine gen _ (fun p hp e => ?_) ⟨(y, c), ?_, rfl⟩
 ·unfold clsOf at hp
  rw [List.mem_reverse, List.mem_map] at hp
  obtain ⟨q, _, rfl⟩ := hp
  simp only at e
  subst e
  simp [hc]
 ·unfold clsOf
  rw [List.mem_reverse, List.mem_map]
  exact ⟨(y, .free), List.mem_filter.mpr ⟨hm hf, by simp⟩, by simp [hc]⟩

theorem relab_look {sc names : Sc} {y : Str} : (relab sc names).lookup y = (names.lookup y).map fun k => if (k == NameKind.free && sc.lookup y == some .cell) then .cell else k := by
 induction names with
 | nil => rfl
 | cons q l ih =>
  obtain ⟨n, k⟩ := q
  show List.lookup y ((if (k == NameKind.free && sc.lookup n == some .cell) = true then (n, NameKind.cell) else (n, k)) :: relab sc l) = _
  have e1 : (if (k == NameKind.free && sc.lookup n == some .cell) = true then (n, NameKind.cell) else (n, k)) = (n, if (k == NameKind.free && sc.lookup n == some .cell) = true then NameKind.cell else k) := by split <;> rfl
  rw [e1, List.lookup_cons, List.lookup_cons, ih]
  cases e : y == n with
  | true => rw [beq_iff_eq.mp e]; rfl
  | false => rfl

theorem Kp.with {s s' : Shared} (k : Kp s s') {h : Heap} {t : Nat} (hk : ∀ b o, s.heap.get? b = some o → h.get? b = some o) : Kp s { s' with heap := h, toks := t } := by
 obtain ⟨⟨h', t', g', rfl, hg⟩, _⟩ := k
 exact ⟨⟨h, t, g', rfl, hg⟩, hk⟩

/-- an iterable, evaluated -/
def EvI (w : World) (d : Nat) (sc : Sc) (env : Env) (ρ : Rho) (e : Expr) (vs : List PV) : Prop :=
 ∀ (A : Around) (s : Shared) (V : List Addr) (ad : Str → List Addr) (Q : Value → Shared → Prop) (E : Value → Shared → Prop), Room d A → Rd w env sc V ad ρ s →
  (∀ xv s₁, Kp s s₁ → IterOk w A V xv vs s₁ → Q xv s₁) → wpAny (model pw w) A (eval e env) Q E s

def TurnOk (w : World) (d : Nat) (sc : Sc) (ρ : Rho) (ifs : List Expr) (elt : Expr) (r : List PV) : Prop :=
 ∀ env : Env, match ifs with
  | [] => ∃ u, r = [u] ∧ Ev w d sc .v env ρ elt u
  | [c] => (∃ u, r = [u] ∧ Et w d sc env ρ c true ∧ Ev w d sc .v env ρ elt u) ∨ (r = [] ∧ Et w d sc env ρ c false)
  | _ => False
theorem TurnOk.short {w : World} {d : Nat} {sc : Sc} {ρ : Rho} {ifs : List Expr} {elt : Expr} {r : List PV} (h : TurnOk w d sc ρ ifs elt r) : r.length ≤ 1 := by
 have := h default
 split at this
 ·obtain ⟨u, rfl, _⟩ := this; simp
 ·rcases this with ⟨u, rfl, _⟩ | ⟨rfl, _⟩ <;> simp
 ·exact this.elim

def freeRho (sc : Sc) (scope : Scope) (ρ : Rho) : Rho := ρ.filter fun p => scope.names.lookup p.1 == some .free && sc.lookup p.1 == some .cell
theorem free_look {sc : Sc} {scope : Scope} : ∀ {ρ : Rho} {y : Str} {sl : Slot}, (freeRho sc scope ρ).lookup y = some sl → ρ.lookup y = some sl ∧ scope.names.lookup y = some .free ∧ sc.lookup y = some .cell
 | [], _, _, h => by simp [freeRho] at h
 | (z, t) :: r, y, sl, h => by
  unfold freeRho at h
  rw [List.filter_cons] at h
  cases e : y == z with
  | true =>
   have := beq_iff_eq.mp e; subst this
   split at h
   ·rename_i hc
    rw [List.lookup_cons, beq_self_eq_true] at h
    cases h
    simp only [Bool.and_eq_true, beq_iff_eq] at hc
    exact ⟨by simp, hc⟩
   ·rename_i hc
    obtain ⟨_, h2, h3⟩ := free_look (ρ := r) h
    simp [h2, h3] at hc
  | false =>
   have : (freeRho sc scope r).lookup y = some sl := by
    split at h
    ·rw [List.lookup_cons, e] at h; exact h
    ·exact h
   obtain ⟨h1, h2⟩ := free_look this
   exact ⟨by rw [List.lookup_cons, e]; exact h1, h2⟩

structure CompOk (sc : Sc) (scope : Scope) (x : Str) : Prop where
 free : ∀ y ∈ scope.names, y.2 = .free → sc.lookup y.1 = some .cell
 cell : ∀ y ∈ scope.names, y.2 ≠ .cell
 kind : scope.kind = .function
 names : ∀ y ∈ scope.names, y.2 = .local → scope.names.lookup y.1 = some .local
 x : scope.names.lookup x = some .local
theorem compOk_of {sc : Sc} {scope : Scope} {x : Str} (h : compOk sc scope x = true) : CompOk sc scope x := by
 unfold compOk at h
 simp only [Bool.and_eq_true, List.all_eq_true, Bool.or_eq_true, Bool.not_eq_true', beq_iff_eq, beq_eq_false_iff_ne, decide_eq_true_eq, ne_eq] at h
 obtain ⟨⟨⟨⟨⟨⟨h1, h2⟩, h3⟩, h4⟩, h5⟩, _⟩, _⟩ := h
 exact ⟨fun y hy hf => (h1 y hy).resolve_left fun q => q hf, h2, h3, h4, h5⟩

theorem comp_core {cpos : Pos} {w : World} {d : Nat} {sc : Sc} {env : Env} {ρ : Rho} {elt iter : Expr} {x : Str} {px pos : Pos} {ifs : List Expr} {scope : Scope} {vs : List PV} {ws : List (List PV)} (use : Option (Value → Sem Unit)) (ho : CompOk sc scope x) (hz : sizeOk vs.length = true)
  (hset : ∀ v, foldedSetIterable iter env v = pure v) (hi : EvI w d sc env ρ iter vs) (hl : ws.length = vs.length)
  (ht : ∀ (i : Nat) (v : PV) (r : List PV), vs[i]? = some v → ws[i]? = some r → TurnOk w d (relab sc scope.names) ((x, .v v) :: freeRho sc scope ρ) ifs elt r)
  {A : Around} {s : Shared} {V : List Addr} {ad : Str → List Addr} {Q : Value → Shared → Prop} {E : Value → Shared → Prop} (R : Room d A) (rd : Rd w env sc V ad ρ s)
  (k : ∀ s' D C m ys n, Kp s s' → s.heap.get? D = none → s.heap.get? C = none → D ≠ C → s'.heap.Ns C m → s'.heap.get? D = some (lobj ys n) → Reps (D :: C :: V) s'.heap ws.flatten ys.toList → compPost (model pw w) A E use Q (.ref D) C (.ok .next) s') :
  wpAny (model pw w) A (comprehension (.ListComp elt [⟨.Name x px, iter, ifs, 0⟩] scope pos) scope env cpos (newList []) false (eval iter env) use) Q E s := by
 have hnm := rd.nm
 have hcells : ∀ y ∈ scope.names, y.2 = .free → (env.cells.lookup y.1).isSome = true := fun y hy hf => rd.cl _ (ho.free y hy hf)
 refine wpAny_comprehension_free (cl := clsOf scope env) (use := use) rfl hset (closure_of hcells) ho.kind ho.names (hi A s V ad _ E R rd fun xv s₁ k₁ hit => hit _ E fun I fp P St s₂ k₂ W => ?_)
 refine wpAny_newObj_type (wpAny_newFunctionEnv ho.cell (by intro y hy; simp at hy) (fun h₁ hns₁ hsb₁ => ?_) ho.kind)
 dsimp only at hns₁ hsb₁ ⊢
 generalize hH2 : s₂.heap.push { cls := .type "list", dict := none, data := .seq ([] : List Value).toArray } = H2 at hns₁ hsb₁ ⊢
 have hC : H2.objs.size = s₂.heap.objs.size + 1 := by rw [← hH2, Heap.size_push]
 generalize hD : s₂.heap.objs.size = D at *
 generalize hCC : H2.objs.size = C at *
 have nD : s₂.heap.get? D = none := by rw [← hD]; exact get?_size _
 have nC : s₂.heap.get? C = none := by rw [hC, ← hD]; exact get?_size1 _
 have hDC : D ≠ C := by rw [hC]; exact Nat.ne_of_lt (Nat.lt_succ_self _)
 have up : ∀ b o, s₂.heap.get? b = some o → h₁.get? b = some o := fun b o e => by
  have hb : b ≠ C := fun q => by rw [q, nC] at e; cases e
  exact hsb₁.extBut b o hb (Heap.get?_push_of_some _ (hH2 ▸ Heap.get?_push_of_some _ e))
 have gD : h₁.get? D = some (lobj #[] 0) := by
  refine hsb₁.extBut _ _ hDC (Heap.get?_push_of_some _ ?_)
  rw [← hH2, ← hD]
  exact Heap.get?_push_size _ rfl
 -- the new things
 have K12 : Kp s s₂ := k₁.trans k₂
 have nI : s.heap.get? I = none := new_of k₁.keep W.fresh
 have nD' : s₁.heap.get? D = none := new_of k₂.keep nD
 have nC' : s₁.heap.get? C = none := new_of k₂.keep nC
 have nDs : s.heap.get? D = none := new_of k₁.keep nD'
 have nCs : s.heap.get? C = none := new_of k₁.keep nC'
 have hDf : D ∉ fp := fun hm => by obtain ⟨o, e⟩ := W.alive D hm; rw [nD] at e; cases e
 have hCf : C ∉ fp := fun hm => by obtain ⟨o, e⟩ := W.alive C hm; rw [nC] at e; cases e
 have hCf' : ∀ b ∈ fp, b ≠ C := fun b hb q => hCf (q ▸ hb)
 have hDf' : ∀ b ∈ fp, b ≠ D := fun b hb q => hDf (q ▸ hb)
 have WW := W.walks A R.h
 have hIf : I ∈ fp := WW.sub I (by simp)
 have hID : D ≠ I := fun q => hDf (q ▸ hIf)
 have hIC : C ≠ I := fun q => hCf (q ▸ hIf)
 have hkc : (compEnvC scope (clsOf scope env) C env).kindOf x = some .local := lookup_relabel_local ho.x
 have nmc : (compEnvC scope (clsOf scope env) C env).scope.names = relab sc scope.names := by
  show (relabel scope env).names = _
  unfold relabel relab
  simp only
  refine List.map_congr_left fun p _ => ?_
  obtain ⟨n, k⟩ := p
  simp only [rd.fn, beq_self_eq_true, Bool.and_true, Env.kindOf, hnm]
 let V' := I :: D :: C :: V
 have new₁ : ∀ y ∈ V', y ∈ V ∨ s₁.heap.get? y = none := fun y hy => by
  rcases List.mem_cons.mp hy with rfl | hy
  ·exact .inr W.fresh
  ·rcases List.mem_cons.mp hy with rfl | hy
   ·exact .inr nD'
   ·rcases List.mem_cons.mp hy with rfl | hy
    ·exact .inr nC'
    ·exact .inl hy
 have rd₁ := rd.kp k₁
 -- reading in the block
 have reads : ∀ (s' : Shared) (m : Str → Option Value) (pv : PV) (v : Value), Kp s₁ s' → Live s'.heap V' → s'.heap.Ns C m → m x = some v → Rep V s₁.heap pv v →
   Rd w (compEnvC scope (clsOf scope env) C env) (relab sc scope.names) V' ad ((x, .v pv) :: freeRho sc scope ρ) s' := fun s' m pv v kk lv hns hm hr => by
  refine ⟨rd₁.kin.keeps kk.keep, ho.kind, nmc, fun y hy => ?_, rd.gl, rd.bl, lv, fun y sl hy => ?_⟩
  ·rw [relab_look, Option.map_eq_some_iff] at hy
   obtain ⟨kk', h1, h2⟩ := hy
   have : kk' = .free ∧ sc.lookup y = some .cell := by
    split at h2
    ·rename_i hc; simpa using hc
    ·subst h2
     exact absurd rfl (ho.cell (y, .cell) (by
      have : ∀ {l : Sc}, l.lookup y = some .cell → (y, NameKind.cell) ∈ l := by
       intro l
       induction l with
       | nil => intro h; simp at h
       | cons q l ih =>
        intro h
        obtain ⟨n, k⟩ := q
        rw [List.lookup_cons] at h
        cases e : y == n with
        | true => rw [e] at h; cases h; rw [beq_iff_eq.mp e]; exact List.mem_cons_self
        | false => rw [e] at h; exact List.mem_cons_of_mem _ (ih h)
      exact this h1))
   obtain ⟨rfl, hcell⟩ := this
   obtain ⟨c, hc⟩ := Option.isSome_iff_exists.mp (rd.cl y hcell)
   show ((clsOf scope env).lookup y).isSome = true
   rw [cls_look h1 hc]; rfl
  ·rw [List.lookup_cons] at hy
   cases e : y == x with
   | true =>
    rw [e] at hy
    cases hy
    have := beq_iff_eq.mp e; subst this
    exact SlotAt.of (.inl ⟨hkc, m, hns, hm⟩) (hr.mono (fun y o hy e => kk.keep y o e) new₁)
   | false =>
    rw [e] at hy
    obtain ⟨h1, h2, h3⟩ := free_look hy
    refine (rd₁.vars y sl h1).map fun val va sr => ⟨?_, sr.mono (fun y o hy e => kk.keep y o e) new₁ (fun _ a _ o e => kk.keep a o e)⟩
    rcases va with ⟨hk, _⟩ | ⟨hk, c, hc, hcl⟩
    ·exfalso
     have : sc.lookup y = some .local := by rw [← hnm]; exact hk
     rw [h3] at this; cases this
    ·refine .inr ⟨?_, c, cls_look h2 hc, hcl.keeps kk.keep⟩
     show (compEnvC scope (clsOf scope env) C env).scope.names.lookup y = _
     rw [nmc, relab_look, h2, h3]; rfl
 have shorts : ∀ r ∈ ws, r.length ≤ 1 := fun r hr => by
  obtain ⟨i, hi', e⟩ := List.getElem_of_mem hr
  exact (ht i (vs[i]'(by omega)) r (List.getElem?_eq_getElem _) (by rw [List.getElem?_eq_getElem hi', e])).short
 have hz' : vs.length ≤ 16000000 := Nat.le_of_ble_eq_true hz
 have loop : ∀ s₃ : Shared, s₃ = { s₂ with heap := h₁, toks := s₂.toks + ([] : List (Str × Value)).length } →
   codeAny (model pw w) A (.compLoop (.ListComp elt [⟨.Name x px, iter, ifs, 0⟩] scope pos) 0 (.ref I) (.ref D) (compEnvC scope (clsOf scope env) C env))
    (compPost (model pw w) A E use Q (.ref D) C) s₃ := by
  rintro s₃ rfl
  refine codeAny_compLoop_tests (fun kk s' => ∃ (i : Nat) (ys : Array Value) (n : Nat) (m : Str → Option Value), kk = vs.length + 1 - i ∧ i ≤ vs.length ∧ Kp s₁ s' ∧ St i s'.heap ∧ (∃ o, s'.heap.get? C = some o) ∧
   (∀ b ∈ fp, ∃ o, s'.heap.get? b = some o ∨ b = I) ∧ s'.heap.get? D = some (lobj ys n) ∧ s'.heap.Ns C m ∧ ys.size ≤ i ∧ Reps V' s'.heap (ws.take i).flatten ys.toList) ?_ (vs.length + 1) ?_
  ·rintro kk s' ⟨i, ys, n, m, rfl, hin, K, hst, ⟨oC, gC⟩, hfp, gD', hns, hsz, hrs⟩
   by_cases hlt : i < vs.length
   ·refine WW.item i s' _ _ hlt hst fun v h' tk hPv hst' hk' => ?_
    have hk'' : ∀ b o, b ≠ I → s'.heap.get? b = some o → h'.get? b = some o := fun b o hb e => hk' b o (by simpa using hb) e
    refine wpAny_assign_Name (wpAny_storeName_local hkc (hns.at' fun o e => hk'' _ o hIC e) (fun h₂ hn₂ hs₂ => ?_) (by simp [compEnvC, relabel, ho.kind]))
    have hup2 : ∀ b o, b ≠ I → b ≠ C → s'.heap.get? b = some o → h₂.get? b = some o := fun b o h1 h2 e => hs₂.extBut b o h2 (hk'' b o h1 e)
    have old2 : ∀ b o, s₁.heap.get? b = some o → h₂.get? b = some o := fun b o e => hup2 b o (fun q => by rw [q, W.fresh] at e; cases e) (fun q => by rw [q, nC'] at e; cases e) (K.keep b o e)
    obtain ⟨pv, hpv, hrv⟩ := W.items i v hlt hPv
    have K3 : Kp s₁ { s' with heap := h₂, toks := tk + 1 } := K.with old2
    have gI2 : ∃ o, h₂.get? I = some o := by
     obtain ⟨o, e⟩ := W.lives _ _ hst'
     exact ⟨o, hs₂.extBut I o (Ne.symm hIC) e⟩
    have gC2 : ∃ o, h₂.get? C = some o := by obtain ⟨o, _, _, e, _⟩ := hn₂; exact ⟨o, e⟩
    have gD2 : h₂.get? D = some (lobj ys n) := hup2 D _ hID hDC gD'
    have lv : Live h₂ V' := fun y hy => by
     rcases List.mem_cons.mp hy with rfl | hy
     ·exact gI2
     ·rcases List.mem_cons.mp hy with rfl | hy
      ·exact ⟨_, gD2⟩
      ·rcases List.mem_cons.mp hy with rfl | hy
       ·exact gC2
       ·obtain ⟨o, e⟩ := rd₁.low y hy; exact ⟨o, old2 _ _ e⟩
    have st2 : St (i + 1) h₂ := WW.frame _ _ _ hst' fun b hb o e => hs₂.extBut b o (hCf' b hb) e
    have rs2 : Reps V' h₂ (ws.take i).flatten ys.toList := hrs.mono (fun y o hy e => hup2 y o (fun q => hy (by rw [q]; exact List.mem_cons_self)) (fun q => hy (by rw [q]; simp [V'])) e) fun y hy => .inl hy
    have rd3 := reads { s' with heap := h₂, toks := tk + 1 } _ pv v K3 lv hn₂ (by simp) hrv
    obtain ⟨r, hr⟩ : ∃ r, ws[i]? = some r := ⟨_, List.getElem?_eq_getElem (by omega)⟩
    have T := ht i pv r hpv hr (compEnvC scope (clsOf scope env) C env)
    have htake : (ws.take (i + 1)).flatten = (ws.take i).flatten ++ r := by
     rw [List.take_add_one, hr]; simp
    -- what is left when the test says yes
    have yes : ∀ (u : PV), r = [u] → Ev w d (relab sc scope.names) .v (compEnvC scope (clsOf scope env) C env) ((x, .v pv) :: freeRho sc scope ρ) elt u → ∀ s₄ : Shared, Kp { s' with heap := h₂, toks := tk + 1 } s₄ →
      wpAny (model pw w) A (eval elt (compEnvC scope (clsOf scope env) C env)) (fun y s₅ => wpAny (model pw w) A (call (.builtin "list.append") [.ref D, y]) (fun _ s₆ => ∃ kk', kk' < vs.length + 1 - i ∧ ∃ (i : Nat) (ys : Array Value) (n : Nat) (m : Str → Option Value), kk' = vs.length + 1 - i ∧ i ≤ vs.length ∧ Kp s₁ s₆ ∧ St i s₆.heap ∧ (∃ o, s₆.heap.get? C = some o) ∧
   (∀ b ∈ fp, ∃ o, s₆.heap.get? b = some o ∨ b = I) ∧ s₆.heap.get? D = some (lobj ys n) ∧ s₆.heap.Ns C m ∧ ys.size ≤ i ∧ Reps V' s₆.heap (ws.take i).flatten ys.toList)
       (notedBy (model pw w) A (compEnvC scope (clsOf scope env) C env) fun e s' => compPost (model pw w) A E use Q (.ref D) C (.error e) s') s₅)
       (notedBy (model pw w) A (compEnvC scope (clsOf scope env) C env) fun e s' => compPost (model pw w) A E use Q (.ref D) C (.error e) s') s₄ := fun u hu he s₄ k₄ => by
     subst hu
     refine he A s₄ V' ad _ _ R (rd3.kp k₄) fun y s₅ k₅ r₅ => ?_
     have K5 := k₄.trans k₅
     refine wpAny_list_append_plain (items := ys) ⟨n, K5.keep _ _ gD2⟩ (fun h₆ hp₆ hs₆ => ?_) (by rw [sizeLine_eq]; omega)
     have hs₆' := hs₆.extBut
     have K6 : Kp s₁ { s₅ with heap := h₆ } := (K3.trans K5).with (t := s₅.toks) fun b o e => hs₆' b o (fun q => by rw [q, nD'] at e; cases e) ((K3.trans K5).keep b o e)
     obtain ⟨n', g6⟩ := hp₆
     refine ⟨vs.length + 1 - (i + 1), by omega, i + 1, ys.push y, n', _, rfl, by omega, K6, WW.frame _ _ _ st2 fun b hb o e => hs₆' b o (hDf' b hb) (K5.keep b o e), ?_, fun b hb => ?_, g6, (hn₂.keeps K5.keep).sameBut hs₆ (Ne.symm hDC), by rw [Array.size_push]; omega, ?_⟩
     ·obtain ⟨o, e⟩ := gC2; exact ⟨o, hs₆' _ _ (Ne.symm hDC) (K5.keep _ _ e)⟩
     ·obtain ⟨o, e⟩ := hfp b hb
      rcases e with e | e
      ·by_cases hb' : b = I
       ·exact ⟨o, .inr hb'⟩
       ·exact ⟨o, .inl (hs₆' _ _ (hDf' b hb) (K5.keep _ _ (hup2 b o hb' (hCf' b hb) e)))⟩
      ·exact ⟨o, .inr e⟩
     ·rw [htake, Array.toList_push]
      have mv : ∀ y o, y ∉ V' → s₅.heap.get? y = some o → h₆.get? y = some o := fun y o hy e => hs₆' y o (fun q => hy (by rw [q]; simp [V'])) e
      refine Reps.append ((rs2.keeps K5.keep).mono mv fun y hy => .inl hy) (.cons (Rep.mono mv (fun y hy => .inl hy) r₅) .nil)
    have no : r = [] → ∀ s₄ : Shared, Kp { s' with heap := h₂, toks := tk + 1 } s₄ → ∃ kk', kk' < vs.length + 1 - i ∧ ∃ (i : Nat) (ys : Array Value) (n : Nat) (m : Str → Option Value), kk' = vs.length + 1 - i ∧ i ≤ vs.length ∧ Kp s₁ s₄ ∧ St i s₄.heap ∧ (∃ o, s₄.heap.get? C = some o) ∧
   (∀ b ∈ fp, ∃ o, s₄.heap.get? b = some o ∨ b = I) ∧ s₄.heap.get? D = some (lobj ys n) ∧ s₄.heap.Ns C m ∧ ys.size ≤ i ∧ Reps V' s₄.heap (ws.take i).flatten ys.toList := fun hr0 s₄ k₄ => by
     subst hr0
     refine ⟨vs.length + 1 - (i + 1), by omega, i + 1, ys, n, _, rfl, by omega, K3.trans k₄, WW.frame _ _ _ st2 fun b hb o e => k₄.keep b o e, ?_, fun b hb => ?_, k₄.keep _ _ gD2, hn₂.keeps k₄.keep, by omega, ?_⟩
     ·obtain ⟨o, e⟩ := gC2; exact ⟨o, k₄.keep _ _ e⟩
     ·obtain ⟨o, e⟩ := hfp b hb
      rcases e with e | e
      ·by_cases hb' : b = I
       ·exact ⟨o, .inr hb'⟩
       ·exact ⟨o, .inl (k₄.keep _ _ (hup2 b o hb' (hCf' b hb) e))⟩
      ·exact ⟨o, .inr e⟩
     ·rw [htake, List.append_nil]
      exact rs2.keeps k₄.keep
    match ifs, T with
    | [], T =>
     obtain ⟨u, hu, he⟩ := T
     refine wpAny_tests_nil ?_
     rw [if_pos rfl]
     exact yes u hu he _ (.refl _)
    | [c], T =>
     refine wpAny_tests_one ?_
     rcases T with ⟨u, hu, hc, he⟩ | ⟨hu, hc⟩
     ·refine hc A _ V' ad _ _ R rd3 fun s₄ k₄ => ?_
      rw [if_pos rfl]
      exact yes u hu he s₄ k₄
     ·refine hc A _ V' ad _ _ R rd3 fun s₄ k₄ => ?_
      rw [if_neg (by decide)]
      exact no hu s₄ k₄
   ·have hin' : i = vs.length := by omega
    subst hin'
    refine WW.done s' _ _ hst fun h' tk hk' => ?_
    have hk'' : ∀ b o, b ≠ I → s'.heap.get? b = some o → h'.get? b = some o := fun b o hb e => hk' b o (by simpa using hb) e
    refine k _ D C m ys n ?_ nDs nCs hDC (hns.at' fun o e => hk'' _ o hIC e) (hk'' D _ hID gD') ?_
    ·exact k₁.trans (K.with fun b o e => hk'' b o (fun q => by rw [q, W.fresh] at e; cases e) (K.keep b o e))
    ·rw [List.take_of_length_le (by omega)] at hrs
     refine hrs.mono (fun y o hy e => hk'' y o (fun q => hy (by rw [q]; simp [V'])) e) fun y hy => .inl ?_
     rcases List.mem_cons.mp hy with rfl | hy
     ·simp [V']
     ·rcases List.mem_cons.mp hy with rfl | hy
      ·simp [V']
      ·simp [V', hy]
  ·refine ⟨0, #[], 0, _, rfl, Nat.zero_le _, ?_, WW.frame _ _ _ W.st fun b hb o e => up b o e, ?_, fun b hb => ?_, gD, hns₁, by simp, ?_⟩
   ·exact k₂.with (t := s₂.toks + ([] : List (Str × Value)).length) fun b o e => up b o (k₂.keep b o e)
   ·obtain ⟨o, _, _, e, _⟩ := hns₁; exact ⟨o, e⟩
   ·obtain ⟨o, e⟩ := W.alive b hb; exact ⟨o, .inl (up b o e)⟩
   ·simpa using Reps.nil
 exact codeAny_compStart_list (loop _ rfl) (WW.self 0 _ _ _ (WW.frame _ _ _ W.st fun b hb o e => up b o e) (loop _ rfl))

theorem ev_comp {w : World} {d : Nat} {sc : Sc} {env : Env} {ρ : Rho} {elt iter : Expr} {x : Str} {px pos : Pos} {ifs : List Expr} {scope : Scope} {vs : List PV} {ws : List (List PV)} (ho : CompOk sc scope x) (hz : sizeOk vs.length = true)
  (hset : ∀ v, foldedSetIterable iter env v = pure v) (hi : EvI w d sc env ρ iter vs) (hl : ws.length = vs.length)
  (ht : ∀ (i : Nat) (v : PV) (r : List PV), vs[i]? = some v → ws[i]? = some r → TurnOk w d (relab sc scope.names) ((x, .v v) :: freeRho sc scope ρ) ifs elt r) :
  Ev w d sc .f env ρ (.ListComp elt [⟨.Name x px, iter, ifs, 0⟩] scope pos) (.lst ws.flatten) := fun A s V ad Q E R rd k => by
 rw [eval_ListComp]
 refine comp_core (px := px) (pos := pos) (Q := Q) (E := E) Option.none ho hz hset hi hl ht R rd (fun s' D C m ys n K nD nC hDC hns g r => ?_)
 show ∃ m, s'.heap.Ns C m ∧ ∀ h', Heap.SameBut C s'.heap h' → Q (.ref D) { s' with heap := h' }
 refine ⟨m, hns, fun h'' hs'' => k _ _ ?_ ?_⟩
 ·exact K.with (t := s'.toks) fun b o e => hs''.extBut b o (fun q => by rw [q, nC] at e; cases e) (K.keep b o e)
 ·refine ⟨ws.flatten, D, ys, n, rfl, rfl, nD, hs''.extBut D _ hDC g, ?_⟩
  refine r.mono (fun y o hy e => hs''.extBut y o (fun q => hy (by rw [q]; simp)) e) fun y hy => .inl ?_
  rcases List.mem_cons.mp hy with rfl | hy
  ·simp
  ·simp [hy]

theorem evalArgs_any {w : World} {A : Around} {E : Value → Shared → Prop} {s : Shared} {f : Value} {ts : List (Bool × Sem Value)} {Q : Args → Shared → Prop} (hp : ts.any (·.1) = false) (h : wpAny (model pw w) A (spliced ts) (fun vs s' => Q ⟨vs, []⟩ s') E s) :
  wpAny (model pw w) A (evalArgs f true ts []) Q E s := by
 cases ts with
 | nil => intro Γ p hΓ; exact PyProof.Rows.evalArgs_none (M := model pw w) (A := A) (E := E) (f := f) (Q := Q) (h Γ p hΓ) Γ p hΓ
 | cons t r =>
  obtain ⟨b, t⟩ := t
  have : b = false := by cases b <;> simp_all
  subst this
  exact evalArgs_plain h

/-- a function of the text's, called with these -/
def FnCall (w : World) (d : Nat) (fv : Value) (args : List PV) (v : PV) : Prop :=
 ∀ (A : Around) (s : Shared) (pos : Pos) (ts : List (Bool × Sem Value)) (Q : Value → Shared → Prop) (E : Value → Shared → Prop), Room d A → ts.any (·.1) = false →
  wpAny (model pw w) A (spliced ts) (fun xs s₁ => KIn w s₁.heap ∧ ∃ V, Live s₁.heap V ∧ Reps V s₁.heap args xs ∧ ∀ val s', Kp s₁ s' → Rep V s'.heap v val → Q val s') E s →
  wpAny (model pw w) A (callWith pos fv [] ts []) Q E s
/-- one mark's equal, asked of another -/
def EqCall (w : World) (d : Nat) (a b : PV) (r : Bool) : Prop :=
 ∀ (A : Around) (s : Shared) (env : Env) (o e : Expr) (apos pos : Pos) (Q : Value → Shared → Prop) (E : Value → Shared → Prop), Room d A → recvOk o = true → (apos.endLine == pos.line) = true → (∀ x p, e ≠ .Starred x p) →
  wpAny (model pw w) A (eval o env) (fun x s₁ => KIn w s₁.heap ∧ Rep [] s₁.heap a x ∧ wpAny (model pw w) A (eval e env) (fun y s₂ => Kp s₁ s₂ ∧ Rep [] s₂.heap b y ∧ ∀ s', Kp s₂ s' → Q (.bool r) s') E s₁) E s →
  wpAny (model pw w) A (eval (.Call (.Attribute o "equal" apos) [e] [] pos) env) Q E s
/-- a table's get -/
def GetCall (w : World) (tv : Value) (args : List PV) (v : PV) : Prop :=
 ∀ (A : Around) (d : Nat) (s : Shared) (pos : Pos) (ts : List (Bool × Sem Value)) (Q : Value → Shared → Prop) (E : Value → Shared → Prop), Room d A → ts.any (·.1) = false → KIn w s.heap →
  wpAny (model pw w) A (spliced ts) (fun xs s₁ => KIn w s₁.heap ∧ ∃ V, Reps V s₁.heap args xs ∧ ∀ val s', Kp s₁ s' → Rep V s'.heap v val → Q val s') E s → MethodOnS pw w A E "get" tv pos ts Q s
def HasCall (w : World) (tv : Value) (a : PV) (r : Bool) : Prop :=
 ∀ (A : Around) (d : Nat) (s : Shared) (V : List Addr) (x : Value) (Q : Value → Shared → Prop) (E : Value → Shared → Prop), Room d A → KIn w s.heap → RepL V s.heap a x → (∀ s', Kp s s' → Q (.bool r) s') → wpAny (model pw w) A (compareOp .In x tv) Q E s

structure GOk (w : World) (d : Nat) (Γ : G) : Prop where
 fn : ∀ f args v, (f == ("equal" : Str)) = false → Γ.fn f args = some v → ∃ fv, (∀ P, nsK P 3 f = some fv) ∧ FnCall w d fv args v
 eq : ∀ args v, Γ.fn "equal" args = some v → ∃ a b r, args = [a, b] ∧ v = .bool r ∧ EqCall w d a b r
 get : ∀ t args v, Γ.get t args = some v → ∃ tv, (∀ P, nsK P 3 t = some tv) ∧ GetCall w tv args v
 has : ∀ t a r, Γ.has t a = some r → ∃ tv, (∀ P, nsK P 3 t = some tv) ∧ HasCall w tv a r

theorem ev_starred {Γ : G} {n : Nat} {md : Md} {sc : Sc} {ρ : Rho} {x : Expr} {p : Pos} : ev Γ n md sc ρ (.Starred x p) = none := by
 cases n with
 | zero => rfl
 | succ n => unfold ev; simp only; split <;> rfl
theorem ev_set {Γ : G} {n : Nat} {md : Md} {sc : Sc} {ρ : Rho} {x : List Expr} {k : Nat} {p : Pos} : ev Γ n md sc ρ (.Set x k p) = none := by
 cases n with
 | zero => rfl
 | succ n => unfold ev; simp only; split <;> rfl
theorem ev_slice {Γ : G} {n : Nat} {md : Md} {sc : Sc} {ρ : Rho} {l u st : Option Expr} {p : Pos} : ev Γ n md sc ρ (.Slice l u st p) = none := by
 cases n with
 | zero => rfl
 | succ n => unfold ev; simp only; split <;> rfl
theorem not_starred {Γ : G} {n : Nat} {md : Md} {sc : Sc} {ρ : Rho} {e : Expr} {v : PV} (h : ev Γ n md sc ρ e = some v) : ∀ x p, e ≠ .Starred x p := fun x p q => by rw [q, ev_starred] at h; cases h
theorem not_marks {Γ : G} {n : Nat} {md : Md} {sc : Sc} {ρ : Rho} {e : Expr} {v : PV} (h : ev Γ n md sc ρ e = some v) (op : CmpOp) : behindInMarks op e = false := by
 cases e <;> first | rfl | (rw [ev_set] at h; cases h)
theorem not_folded {Γ : G} {n : Nat} {md : Md} {sc : Sc} {ρ : Rho} {e : Expr} {v : PV} (h : ev Γ n md sc ρ e = some v) (env : Env) : ∀ x, foldedSetIterable e env x = pure x := by
 intro x; cases e <;> first | rfl | (rw [ev_set] at h; cases h)

theorem star_plain {env : Env} {pos : Pos} : ∀ {es : List Expr}, (∀ e ∈ es, ∀ x p, e ≠ .Starred x p) → (backTo pos (starEach es env)).any (·.1) = false
 | [], _ => rfl
 | e :: es, h => by
  have e1 : starEach (e :: es) env = (false, eval e env) :: starEach es env := by
   cases e <;> first | rfl | exact absurd rfl (h _ List.mem_cons_self _ _)
  rw [e1]
  show (false || (backTo pos (starEach es env)).any (·.1)) = false
  rw [star_plain fun e' he => h e' (List.mem_cons_of_mem _ he)]; rfl

section
variable {w : World} {d : Nat} {sc : Sc} {env : Env} {ρ : Rho}

theorem evs_of {f : Expr → Option PV} {md : Md} (hm : md ≠ .f) (hf : ∀ e v, f e = some v → (∀ x p, e ≠ .Starred x p) ∧ Ev w d sc md env ρ e v) : ∀ {es : List Expr} {vs : List PV}, es.mapM f = some vs → (∀ e ∈ es, ∀ x p, e ≠ .Starred x p) ∧ Evs w d sc md env ρ es vs
 | [], vs, h => by
  simp at h; subst h
  exact ⟨fun e he => (nomatch he), Evs.nil⟩
 | e :: es, vs, h => by
  rw [List.mapM_cons] at h
  simp only [Option.bind_eq_bind, Option.bind_eq_some_iff] at h
  obtain ⟨v, h1, vs', h2, h3⟩ := h
  cases h3
  obtain ⟨s1, e1⟩ := hf e v h1
  obtain ⟨s2, e2⟩ := evs_of hm hf h2
  refine ⟨fun e' he => ?_, Evs.cons hm s1 e1 e2⟩
  rcases List.mem_cons.mp he with rfl | he
  ·exact s1
  ·exact s2 e' he

theorem Ev.down {e : Expr} {v : PV} (hv : ∀ vs, v ≠ .lst vs) (h : Ev w d sc .l env ρ e v) : Ev w d sc .v env ρ e v := fun A s V ad Q E R r k => h A s V ad Q E R r fun val s' kp rp => k val s' kp (RepL.rep (V := V) rp hv)

/-- a range, or what can be gone through -/
theorem rangeArgs_some {e : Expr} {args : List Expr} (h : rangeArgs sc e = some args) : ∃ p q, e = .Call (.Name "range" p) args [] q ∧ glob sc "range" = true := by
 unfold rangeArgs at h
 split at h
 ·split at h
  ·rename_i hc; cases h
   rw [Bool.and_eq_true] at hc
   have := beq_iff_eq.mp hc.1; subst this
   exact ⟨_, _, rfl, hc.2⟩
  ·cases h
 ·cases h

theorem ev_range {e : Expr} {args : List Expr} {as : List PV} {vs : List PV} (h : rangeArgs sc e = some args) (hs : ∀ e ∈ args, ∀ x p, e ≠ .Starred x p) (he : Evs w d sc .v env ρ args as) (hr : rangeOf as = some vs) :
  ∀ (A : Around) (s : Shared) (V : List Addr) (ad : Str → List Addr) (Q : Value → Shared → Prop) (E : Value → Shared → Prop), Room d A → Rd w env sc V ad ρ s →
  (∀ x s₁, Kp s s₁ → IterOk w A V x vs s₁ → (∀ Q' E', (Live s₁.heap V → ∀ val s₂, Kp s₁ s₂ → Rep V s₂.heap (.lst vs) val → Q' val s₂) → Live s₁.heap V → wpAny (model pw w) A (call (.type "list") [x]) Q' E' s₁) → Q x s₁) → wpAny (model pw w) A (eval e env) Q E s := by
 intro A s V ad Q E R rd k
 obtain ⟨p, q, rfl, hg⟩ := rangeArgs_some h
 refine wpAny_Call_NameR (wp_builtin rd hg (b_range _).1 (b_range _).2 ?_ (by decide))
 refine PySem.callWith_type (star_plain hs) (evalArgs_any (star_plain hs) (he q A s V ad _ E R rd fun xs s₁ k₁ rs => ?_))
 exact range_ok R hr rs.reps fun x s₂ k₂ it ls => k x s₂ (k₁.trans k₂) it ls
end

/-- what evaluating by the reading means for the machine -/
def EvB (w : World) (d : Nat) (sc : Sc) (md : Md) (env : Env) (ρ : Rho) (e : Expr) (v : PV) : Prop := Ev w d sc md env ρ e v ∧ ∀ b, v = .bool b → Et w d sc env ρ e b

section
variable {w : World} {d : Nat} {sc : Sc} {env : Env} {ρ : Rho} {e : Expr} {v : PV} {md : Md}
theorem EvB.val (hm : md ≠ .f) (h : Ev w d sc .v env ρ e v) (he : ∀ whole, isTrue e env whole = (do let v ← whole; standAt e.pos; holding [v] (truthy v))) : EvB w d sc md env ρ e v :=
 ⟨h.plain hm, fun b hb => by subst hb; exact Et.value h he⟩
theorem EvB.noBool (h : Ev w d sc md env ρ e v) (hv : ∀ b, v ≠ .bool b) : EvB w d sc md env ρ e v := ⟨h, fun b hb => absurd hb (hv b)⟩
end

theorem forall_mapM {α β : Type} {f : α → Option β} : ∀ {l : List α} {r : List β}, l.mapM f = some r → r.length = l.length ∧ ∀ (i : Nat) (a : α) (b : β), l[i]? = some a → r[i]? = some b → f a = some b
 | [], r, h => by simp at h; subst h; exact ⟨rfl, fun i a b h => by simp at h⟩
 | x :: l, r, h => by
  rw [List.mapM_cons] at h
  simp only [Option.bind_eq_bind, Option.bind_eq_some_iff] at h
  obtain ⟨v, h1, vs', h2, h3⟩ := h
  cases h3
  obtain ⟨e1, e2⟩ := forall_mapM h2
  refine ⟨by simp [e1], fun i a b ha hb => ?_⟩
  cases i with
  | zero => simp at ha hb; subst ha hb; exact h1
  | succ i => exact e2 i a b (by simpa using ha) (by simpa using hb)

theorem turn_ok {w : World} {d : Nat} {sc : Sc} {ρ : Rho} {f : Expr → Option PV} {ifs : List Expr} {elt : Expr} {r : List PV} (hf : ∀ e v, f e = some v → ∀ env, EvB w d sc .v env ρ e v) (h : turnOf f ifs elt = some r) : TurnOk w d sc ρ ifs elt r := by
 unfold turnOf at h
 intro env
 split at h
 ·rw [Option.map_eq_some_iff] at h
  obtain ⟨u, hu, rfl⟩ := h
  exact ⟨u, rfl, (hf _ _ hu env).1⟩
 ·split at h
  ·rename_i hc
   rw [Option.map_eq_some_iff] at h
   obtain ⟨u, hu, rfl⟩ := h
   exact .inl ⟨u, rfl, (hf _ _ hc env).2 _ rfl, (hf _ _ hu env).1⟩
  ·rename_i hc
   cases h
   exact .inr ⟨rfl, (hf _ _ hc env).2 _ rfl⟩
  ·cases h
 ·cases h

theorem flat_rep {V V' : List Addr} {h : Heap} {v : PV} {val : Value} (hf : flat v = true) (r : Rep V h v val) : Rep V' h v val := by
 cases r <;> first | exact .none | exact .bool | exact .int | exact .str | (simp [flat] at hf)

theorem attr_base {o : Expr} {m : Str} {env : Env} (h : recvOk o = true) : attributeBase o m env (eval o env) = eval o env := by
 cases o <;> first | rfl | (simp [recvOk] at h)

theorem not_debug {P : Params} {t : Str} {tv : Value} (h : nsK P 3 t = some tv) : (t == ("__debug__" : Str)) = false := by
 cases e : t == ("__debug__" : Str) with
 | false => rfl
 | true =>
  rw [beq_iff_eq.mp e] at h
  have q : nsK P 3 "__debug__" = none := by kernel_rfl
  rw [q] at h; cases h

theorem ev_has {w : World} {d : Nat} {sc : Sc} {env : Env} {ρ : Rho} {l : Expr} {t : Str} {tv : Value} {a : PV} {r : Bool} {p pos : Pos} (hg : glob sc t = true) (ht : ∀ P, nsK P 3 t = some tv) (hl : Ev w d sc .l env ρ l a) (hc : HasCall w tv a r) :
  Ev w d sc .v env ρ (.Compare l [.In] [.Name t p] pos) (.bool r) ∧ Et w d sc env ρ (.Compare l [.In] [.Name t p] pos) r := by
 refine ⟨fun A s V ad Q E R rd k => wpAny_Compare1 (hl A s V ad _ E R rd fun x s₁ k₁ r₁ => wp_global (rd.kp k₁) hg (ht _) (hc A d s₁ V x Q E R (rd.kp k₁).kin r₁ fun s' k' => k _ s' (k₁.trans k') .bool) (not_debug (ht w.params))),
  fun A s V ad Q E R rd k => wpAny_isTrue_Compare1 (hl A s V ad _ E R rd fun x s₁ k₁ r₁ => wp_global (rd.kp k₁) hg (ht _) (hc A d s₁ V x _ E R (rd.kp k₁).kin r₁ fun s' k' => wpAny_truthy_bool (k s' (k₁.trans k'))) (not_debug (ht w.params)))⟩

section
variable {w : World} {d : Nat} {sc : Sc} {env : Env} {ρ : Rho} {e : Expr} {v : PV} {p pos apos : Pos} {f : Str}
theorem ev_listRange {as : List Expr} {xs vs : List PV} (hg : glob sc "list" = true) (ha : rangeArgs sc e = some as) (hs : ∀ e ∈ as, ∀ x p, e ≠ .Starred x p) (he : Evs w d sc .v env ρ as xs) (hr : rangeOf xs = some vs) :
  Ev w d sc .v env ρ (.Call (.Name "list" p) [e] [] pos) (.lst vs) := fun A s V ad Q E R rd k => by
 have hst : (backTo pos (starEach [e] env)) = [(false, eval e env)] := by
  obtain ⟨p', q, rfl, _⟩ := rangeArgs_some ha; rfl
 refine wpAny_Call_NameR (wp_builtin rd hg (b_list _).1 (b_list _).2 ?_ (by decide))
 rw [hst]
 refine PySem.callWith_type rfl (evalArgs_plain (spliced_cons (ev_range ha hs he hr A s V ad _ E R rd fun x s₁ k₁ it ls => spliced_nil (ls _ _ (fun _ val s₂ k₂ r₂ => k val s₂ (k₁.trans k₂) r₂) (rd.kp k₁).low))))
theorem ev_blt {a : PV} {e : Expr} (hg : glob sc f = true) (hs : ∀ x p, e ≠ .Starred x p) (he : Ev w d sc .l env ρ e a) (h : ∃ fv, (∀ P, nsK P 3 f = none ∧ nsK P 0 f = some fv) ∧ ((∃ id, fv = .builtin id) ∨ ∃ T, fv = .type T) ∧ CallOk w fv a v) :
  Ev w d sc .v env ρ (.Call (.Name f p) [e] [] pos) v := fun A s V ad Q E R rd k => by
 obtain ⟨fv, hn, hk, hc⟩ := h
 have hst : (backTo pos (starEach [e] env)) = [(false, eval e env)] := by
  cases e <;> first | rfl | exact absurd rfl (hs _ _)
 have hd : (f == ("__debug__" : Str)) = false := by
  cases q : f == ("__debug__" : Str) with
  | false => rfl
  | true =>
   have := (hn w.params).2
   rw [beq_iff_eq.mp q] at this
   have q' : nsK w.params 0 "__debug__" = some (.bool true) ∨ nsK w.params 0 "__debug__" = none := by first | exact .inl (by kernel_rfl) | exact .inr (by kernel_rfl)
   rcases q' with q' | q' <;> rw [q'] at this
   ·rcases hk with ⟨_, rfl⟩ | ⟨_, rfl⟩ <;> cases this
   ·cases this
 refine wpAny_Call_NameR (wp_builtin rd hg (hn _).1 (hn _).2 ?_ hd)
 rw [hst]
 have go : wpAny (model pw w) A (spliced [(false, eval e env)]) (fun xs s' => wpAny (model pw w) A (call fv ([] ++ xs)) Q E s') E s :=
  spliced_cons (he A s V ad _ E R rd fun x s₁ k₁ r₁ => spliced_nil (hc A d s₁ V x Q E R (rd.kp k₁).low r₁ fun val s₂ k₂ r₂ => k val s₂ (k₁.trans k₂) r₂))
 rcases hk with ⟨id, rfl⟩ | ⟨T, rfl⟩
 ·exact Calls.callWith_builtin rfl (evalArgs_plain go)
 ·exact PySem.callWith_type rfl (evalArgs_plain go)
theorem ev_fn {fv : Value} {es : List Expr} {vs : List PV} (hg : glob sc f = true) (hf : ∀ P, nsK P 3 f = some fv) (hs : ∀ e ∈ es, ∀ x p, e ≠ .Starred x p) (he : Evs w d sc .v env ρ es vs) (hc : FnCall w d fv vs v) :
  Ev w d sc .v env ρ (.Call (.Name f p) es [] pos) v := fun A s V ad Q E R rd k =>
 wpAny_Call_NameR (wp_global rd hg (hf _) (hc A s pos _ Q E R (star_plain hs) (he pos A s V ad _ E R rd fun xs s₁ k₁ rs => ⟨(rd.kp k₁).kin, V, (rd.kp k₁).low, rs.reps, fun val s' k' r' => k val s' (k₁.trans k') r'⟩)) (not_debug (hf w.params)))
theorem ev_fnL {fv : Value} {es : List Expr} {vs : List PV} (hg : glob sc f = true) (hf : ∀ P, nsK P 3 f = some fv) (hfl : flat v = true) (hs : ∀ e ∈ es, ∀ x p, e ≠ .Starred x p) (he : Evs w d sc .l env ρ es vs) (hc : FnCall w d fv vs v) :
  Ev w d sc .v env ρ (.Call (.Name f p) es [] pos) v := fun A s V ad Q E R rd k =>
 wpAny_Call_NameR (wp_global rd hg (hf _) (hc A s pos _ Q E R (star_plain hs) (he pos A s V ad _ E R rd fun xs s₁ k₁ rs => ⟨(rd.kp k₁).kin, [], (fun a ha => nomatch ha), rs.bare, fun val s' k' r' => k val s' (k₁.trans k') (flat_rep hfl r')⟩)) (not_debug (hf w.params)))
theorem tblOf_some {o : Expr} {t : Str} (h : tblOf sc o = some t) : ∃ p, o = .Name t p ∧ glob sc t = true := by
 unfold tblOf at h
 split at h
 ·split at h
  ·cases h; exact ⟨_, rfl, by assumption⟩
  ·cases h
 ·cases h
theorem ev_get {o : Expr} {t : Str} {tv : Value} {es : List Expr} {vs : List PV} (hline : (apos.endLine == pos.line) = true) (ht : tblOf sc o = some t) (hf : ∀ P, nsK P 3 t = some tv) (hs : ∀ e ∈ es, ∀ x p, e ≠ .Starred x p) (he : Evs w d sc .v env ρ es vs) (hlen : es.length < 30) (hc : GetCall w tv vs v) :
  Ev w d sc .v env ρ (.Call (.Attribute o "get" apos) es [] pos) v := fun A s V ad Q E R rd k => by
 obtain ⟨p', rfl, hg⟩ := tblOf_some ht
 refine wpAny_Call_method_lateS rfl ?_ hline (wp_global rd hg (hf _) (hc A d s pos _ Q E R (star_plain hs) rd.kin (he pos A s V ad _ E R rd fun xs s₁ k₁ rs => ⟨(rd.kp k₁).kin, V, rs.reps, fun val s' k' r' => k val s' (k₁.trans k') r'⟩)) (not_debug (hf w.params)))
 have := star_plain (env := env) (pos := pos) hs
 simp only [Bool.and_eq_true, List.all_eq_true, Bool.not_eq_true', decide_eq_true_eq]
 refine ⟨⟨fun x hx => ?_, fun x hx => nomatch hx⟩, by simpa using hlen⟩
 have := List.any_eq_false.mp this x hx
 simpa using this
theorem ev_meth0 {o : Expr} {m : Str} {a : PV} (hline : (apos.endLine == pos.line) = true) (hr : recvOk o = true) (ho : Ev w d sc .l env ρ o a) (hc : MethOk0 w m a v) : Ev w d sc .v env ρ (.Call (.Attribute o m apos) [] [] pos) v := fun A s V ad Q E R rd k =>
 Call_method0 (attr_base hr) hline (ho A s V ad _ E R rd fun x s₁ k₁ r₁ => hc A d s₁ V x pos Q E R r₁ fun val s' k' r' => k val s' (k₁.trans k') r')
theorem ev_meth1 {o e : Expr} {m : Str} {a b : PV} (hline : (apos.endLine == pos.line) = true) (hr : recvOk o = true) (hs : ∀ x p, e ≠ .Starred x p) (ho : Ev w d sc .l env ρ o a) (he : Ev w d sc .l env ρ e b) (hc : MethOk1 w m a b v) : Ev w d sc .v env ρ (.Call (.Attribute o m apos) [e] [] pos) v := fun A s V ad Q E R rd k =>
 Call_method1 (attr_base hr) (by cases e <;> first | rfl | exact absurd rfl (hs _ _)) hline (ho A s V ad _ E R rd fun x s₁ k₁ r₁ => hc A d s₁ V x pos _ Q E R r₁ (he A s₁ V ad _ E R (rd.kp k₁) fun y s₂ k₂ r₂ => ⟨k₂, ((rd.kp k₁).kp k₂).low, r₂, fun val s' k' r' => k val s' ((k₁.trans k₂).trans k') r'⟩))
theorem ev_eq {o e : Expr} {a b : PV} {r : Bool} (hline : (apos.endLine == pos.line) = true) (hr : recvOk o = true) (hs : ∀ x p, e ≠ .Starred x p) (ho : Ev w d sc .l env ρ o a) (he : Ev w d sc .l env ρ e b) (hc : EqCall w d a b r) : Ev w d sc .v env ρ (.Call (.Attribute o "equal" apos) [e] [] pos) (.bool r) := fun A s V ad Q E R rd k =>
 hc A s env o e apos pos Q E R hr hline hs (ho A s V ad _ E R rd fun x s₁ k₁ r₁ => ⟨(rd.kp k₁).kin, RepL.bare r₁, he A s₁ V ad _ E R (rd.kp k₁) fun y s₂ k₂ r₂ => ⟨k₂, RepL.bare r₂, fun s' k' => k _ s' ((k₁.trans k₂).trans k') .bool⟩⟩)
end

theorem ev_ok {w : World} {d : Nat} {Γ : G} (hΓ : GOk w d Γ) : ∀ (n : Nat) (md : Md) (sc : Sc) (ρ : Rho) (e : Expr) (v : PV), ev Γ n md sc ρ e = some v → ∀ env, EvB w d sc md env ρ e v
 | 0, _, _, _, _, _, h, _ => by simp [ev] at h
 | n + 1, md, sc, ρ, e, v, h, env => by
  have ih := ev_ok hΓ n
  have hv : ∀ {sc' : Sc} {ρ' : Rho} {e' : Expr} {v' : PV}, ev Γ n .v sc' ρ' e' = some v' → ∀ env', Ev w d sc' .v env' ρ' e' v' := fun h env' => (ih _ _ _ _ _ h env').1
  have hl : ∀ {sc' : Sc} {ρ' : Rho} {e' : Expr} {v' : PV}, ev Γ n .l sc' ρ' e' = some v' → ∀ env', Ev w d sc' .l env' ρ' e' v' := fun h env' => (ih _ _ _ _ _ h env').1
  have evs : ∀ {md' : Md} (hm : md' ≠ .f) {sc' : Sc} {ρ' : Rho} {es : List Expr} {vs : List PV}, es.mapM (ev Γ n md' sc' ρ') = some vs → (∀ e ∈ es, ∀ x p, e ≠ .Starred x p) ∧ Evs w d sc' md' env ρ' es vs := fun {md'} hm {sc'} {ρ'} {es} {vs} h => evs_of hm (fun e v h => ⟨not_starred h, (ih _ _ _ _ _ h env).1⟩) h
  unfold ev at h
  split at h
  ·-- List
   simp only [Option.bind_eq_bind, Option.bind_eq_some_iff] at h
   obtain ⟨vs, h1, h2⟩ := h
   split at h2
   ·rename_i hz; cases h2
    exact EvB.noBool (Ev.list hz (evs (by decide) h1).2).made (by intro b e; cases e)
   ·cases h2
  ·-- ListComp
   split at h
   ·rename_i hc
    split at h
    ·rename_i vs h1
     split at h
     ·rename_i hz
      split at h
      ·rename_i ws h2
       cases h
       refine EvB.noBool (Ev.made ?_) (by intro b e; cases e)
       obtain ⟨hlen, hall⟩ := forall_mapM h2
       have tt : ∀ (i : Nat) (v : PV) (r : List PV), vs[i]? = some v → ws[i]? = some r → TurnOk w d (relab sc _) ((_, .v v) :: freeRho sc _ ρ) _ _ r := fun i v r hv' hr => turn_ok (fun e v h env => ih _ _ _ _ _ h env) (hall i v r hv' hr)
       split at h1
       ·rename_i args ha
        rw [Option.bind_eq_some_iff] at h1
        obtain ⟨as, h4, h5⟩ := h1
        obtain ⟨hs, he⟩ := evs (by decide) h4
        exact ev_comp (compOk_of hc) hz (by obtain ⟨p, q, e, hg⟩ := rangeArgs_some ha; intro x; rw [e]; rfl) (fun A s V ad Q E R rd k => ev_range ha hs he h5 A s V ad Q E R rd fun x s₁ k₁ it _ => k x s₁ k₁ it) hlen tt
       ·rw [Option.bind_eq_some_iff] at h1
        obtain ⟨a, h4, h5⟩ := h1
        exact ev_comp (compOk_of hc) hz (not_folded h4 env) (fun A s V ad Q E R rd k => hl h4 env A s V ad _ E R rd fun x s₁ k₁ r₁ => k x s₁ k₁ (items_ok h5 r₁)) hlen tt
      ·cases h
     ·cases h
    ·cases h
   ·cases h
  ·-- BinOp
   simp only [Option.bind_eq_bind, Option.bind_eq_some_iff] at h
   obtain ⟨a, h1, b, h2, c, h3, h4⟩ := h
   have hres : c = v ∧ (md = .f → ∃ vs, v = .lst vs) := by
    split at h4
    ·cases h4; exact ⟨rfl, fun _ => ⟨_, rfl⟩⟩
    ·cases h4
    ·rename_i hn1 hn2
     cases h4
     exact ⟨rfl, fun hm => (hn1 hm).elim⟩
   obtain ⟨rfl, hf⟩ := hres
   refine EvB.noBool (Ev.bin (hl h1 env) (hl h2 env) (binop_ok h3) hf) (fun b hb => ?_)
   subst hb
   unfold binop at h3
   split at h3 <;> (try split at h3) <;> cases h3
  ·split at h
   ·cases h
   ·rename_i hmd
    have hm : md ≠ .f := by simpa using hmd
    split at h
    ·cases h; exact EvB.noBool (Ev.int.plain hm) (by intro b e; cases e)
    ·cases h; exact EvB.noBool (Ev.str.plain hm) (by intro b e; cases e)
    ·cases h; exact EvB.val hm Ev.bool (fun _ => rfl)
    ·cases h; exact EvB.noBool (Ev.none.plain hm) (by intro b e; cases e)
    ·-- Name
     split at h
     ·cases h
     ·rename_i hd
      have hd := Bool.eq_false_iff.mpr hd
      split at h
      ·rename_i hx; cases h
       exact EvB.val hm (Ev.name hx hd) (fun _ => rfl)
      ·rename_i hx
       split at h
       ·rename_i hmd'; cases h
        have := beq_iff_eq.mp hmd'; subst this
        exact EvB.noBool (Ev.nameO hx hd) (by intro b e; cases e)
       ·cases h
      ·cases h
    ·-- USub
     simp only [Option.bind_eq_bind, Option.bind_eq_some_iff] at h
     obtain ⟨a, h1, h2⟩ := h
     split at h2
     ·split at h2
      ·cases h2; exact EvB.noBool ((Ev.neg (hv h1 env)).plain hm) (by intro b e; cases e)
      ·cases h2
     ·cases h2
    ·-- Not
     simp only [Option.bind_eq_bind, Option.bind_eq_some_iff] at h
     obtain ⟨a, h1, h2⟩ := h
     split at h2
     ·cases h2
      obtain ⟨q1, q2⟩ := Ev.not (hv h1 env) ((ih _ _ _ _ _ h1 env).2 _ rfl)
      exact ⟨q1.plain hm, fun b hb => by cases hb; exact q2⟩
     ·cases h2
    ·-- Tuple
     simp only [Option.bind_eq_bind, Option.bind_eq_some_iff] at h
     obtain ⟨vs, h1, h2⟩ := h
     split at h2
     ·rename_i hz; cases h2
      exact EvB.noBool ((Ev.tuple hz (evs (by decide) h1).2).plain hm) (by intro b e; cases e)
     ·cases h2
    ·-- IfExp
     simp only [Option.bind_eq_bind, Option.bind_eq_some_iff] at h
     obtain ⟨a, h1, h2⟩ := h
     have ht := (ih _ _ _ _ _ h1 env).2
     split at h2
     ·exact ⟨(Ev.ifexp (ht _ rfl) (hv h2 env)).plain hm, fun b hb => by subst hb; exact Et.ifexp (ht _ rfl) ((ih _ _ _ _ _ h2 env).2 _ rfl)⟩
     ·exact ⟨(Ev.ifexp (ht _ rfl) (hv h2 env)).plain hm, fun b hb => by subst hb; exact Et.ifexp (ht _ rfl) ((ih _ _ _ _ _ h2 env).2 _ rfl)⟩
     ·cases h2
    ·-- BoolOp
     obtain ⟨b, rfl, h1, h2⟩ := boolGo_ok (pos := _) (fun e b h => ⟨(ih _ _ _ _ _ h env).1, (ih _ _ _ _ _ h env).2 _ rfl⟩) h
     exact ⟨h1.plain hm, fun b' hb => by cases hb; exact fun A s V ad Q E R rd k => wpAny_isTrue_BoolOp (h2 A s V ad Q E R rd k)⟩
    ·-- Compare
     simp only [Option.bind_eq_bind, Option.bind_eq_some_iff] at h
     obtain ⟨a, h1, h2⟩ := h
     split at h2
     ·split at h2
      ·rename_i hg
       simp only [Option.bind_eq_some_iff] at h2
       obtain ⟨c, h3, h4⟩ := h2
       cases h4
       obtain ⟨tv, ht, hc⟩ := hΓ.has _ _ _ h3
       exact ⟨(ev_has hg ht (hl h1 env) hc).1.plain hm, fun b hb => by cases hb; exact (ev_has hg ht (hl h1 env) hc).2⟩
      ·cases h2
     ·simp only [Option.bind_eq_some_iff] at h2
      obtain ⟨b, h3, c, h4, h5⟩ := h2
      cases h5
      exact ⟨(Ev.cmp (hl h1 env) (hl h3 env) (cmp_ok h4) (not_marks h3 _)).1.plain hm, fun b hb => by cases hb; exact (Ev.cmp (hl h1 env) (hl h3 env) (cmp_ok h4) (not_marks h3 _)).2⟩
    ·-- Slice
     simp only [Option.bind_eq_bind, Option.bind_eq_some_iff] at h
     obtain ⟨a, h1, l, h2, hh, h3, st, h4, h5⟩ := h
     have part : ∀ {oe : Option Expr} {p : Option Int}, (match oe with | none => some none | some e => (ev Γ n .v sc ρ e).bind partOf) = some p → EvP w d sc env ρ oe p := fun {oe} {p} h => by
      cases oe with
      | none => cases h; exact EvP.none
      | some e =>
       simp only [Option.bind_eq_some_iff] at h
       obtain ⟨u, h6, h7⟩ := h
       exact EvP.some (hv h6 env) h7
     refine EvB.val hm (Ev.cut (hl h1 env) (part ?_) (part ?_) (part ?_) h5) (fun _ => rfl)
     ·rw [← h2]; try (cases ‹Option Expr› <;> rfl)
     ·rw [← h3]; try (cases ‹Option Expr› <;> rfl)
     ·rw [← h4]; try (cases ‹Option Expr› <;> rfl)
    ·-- Subscript
     simp only [Option.bind_eq_bind, Option.bind_eq_some_iff] at h
     obtain ⟨a, h1, k, h2, h3⟩ := h
     refine EvB.val hm (Ev.idx (fun l u st p e => ?_) (hl h1 env) (hv h2 env) h3) (fun _ => rfl)
     rw [e, ev_slice] at h2; cases h2
    ·-- Call of a name
     split at h
     ·cases h
     ·rename_i hc
      simp only [Bool.or_eq_true, Bool.not_eq_true', not_or, Bool.not_eq_false, Bool.not_eq_true] at hc
      obtain ⟨hg, hne⟩ := hc
      split at h
      ·rename_i hf
       have := beq_iff_eq.mp hf; subst this
       split at h
       ·split at h
        ·rename_i as ha
         simp only [Option.bind_eq_bind, Option.bind_eq_some_iff] at h
         obtain ⟨xs, h4, vs, h5, h6⟩ := h
         cases h6
         obtain ⟨hs, he⟩ := evs (by decide) h4
         exact EvB.noBool ((ev_listRange hg ha hs he h5).plain hm) (by intro b e; cases e)
        ·cases h
       ·cases h
      ·split at h
       ·split at h
        ·simp only [Option.bind_eq_bind, Option.bind_eq_some_iff] at h
         obtain ⟨a, h4, h5⟩ := h
         exact EvB.val hm (ev_blt hg (not_starred h4) (hl h4 env) (blt_ok h5)) (fun _ => rfl)
        ·cases h
       ·split at h
        ·rename_i vs h4
         obtain ⟨hs, he⟩ := evs (by decide) h4
         obtain ⟨fv, hf, hcall⟩ := hΓ.fn _ _ _ hne h
         exact EvB.val hm (ev_fn hg hf hs he hcall) (fun _ => rfl)
        ·simp only [Option.bind_eq_bind, Option.bind_eq_some_iff] at h
         obtain ⟨vs, h4, r, h5, h6⟩ := h
         split at h6
         ·rename_i hfl; cases h6
          obtain ⟨hs, he⟩ := evs (by decide) h4
          obtain ⟨fv, hf, hcall⟩ := hΓ.fn _ _ _ hne h5
          exact EvB.val hm (ev_fnL hg hf hfl hs he hcall) (fun _ => rfl)
         ·cases h6
    ·-- a method
     split at h
     ·cases h
     ·rename_i hc
      simp only [Bool.or_eq_true, Bool.not_eq_true', not_or, Bool.not_eq_false] at hc
      obtain ⟨hline, hrec⟩ := hc
      split at h
      ·rename_i t ht
       split at h
       ·rename_i hm'
        have := beq_iff_eq.mp hm'; subst this
        split at h
        ·simp only [Option.bind_eq_bind, Option.bind_eq_some_iff] at h
         obtain ⟨a, h4, h5⟩ := h
         obtain ⟨tv, hf, hcall⟩ := hΓ.get _ _ _ h5
         refine EvB.val hm (ev_get hline ht hf (fun e he => ?_) (Evs.cons (by decide) (not_starred h4) (hv h4 env) Evs.nil) (by simp) hcall) (fun _ => rfl)
         rw [List.mem_singleton.mp he]; exact not_starred h4
        ·simp only [Option.bind_eq_bind, Option.bind_eq_some_iff] at h
         obtain ⟨a, h4, b, h6, h5⟩ := h
         obtain ⟨tv, hf, hcall⟩ := hΓ.get _ _ _ h5
         refine EvB.val hm (ev_get hline ht hf (fun e he => ?_) (Evs.cons (by decide) (not_starred h4) (hv h4 env) (Evs.cons (by decide) (not_starred h6) (hv h6 env) Evs.nil)) (by simp) hcall) (fun _ => rfl)
         rcases List.mem_cons.mp he with rfl | he
         ·exact not_starred h4
         ·rw [List.mem_singleton.mp he]; exact not_starred h6
        ·cases h
       ·cases h
      ·simp only [Option.bind_eq_bind, Option.bind_eq_some_iff] at h
       obtain ⟨a, h4, h5⟩ := h
       split at h5
       ·exact EvB.val hm (ev_meth0 hline hrec (hl h4 env) (meth0_ok h5)) (fun _ => rfl)
       ·simp only [Option.bind_eq_some_iff] at h5
        obtain ⟨b, h6, h7⟩ := h5
        split at h7
        ·rename_i hm'
         have := beq_iff_eq.mp hm'; subst this
         obtain ⟨a', b', r, e1, rfl, hcall⟩ := hΓ.eq _ _ h7
         cases e1
         exact EvB.val hm (ev_eq hline hrec (not_starred h6) (hl h4 env) (hl h6 env) hcall) (fun _ => rfl)
        ·exact EvB.val hm (ev_meth1 hline hrec (not_starred h6) (hl h4 env) (hl h6 env) (meth1_ok h7)) (fun _ => rfl)
       ·cases h5
    ·cases h

/-- one activation: its block, the state it began in, what its caller keeps to itself -/
structure Fm where
 env : Env
 s₀ : Shared
 V₀ : List Addr

/-- a name's own addresses -/
def Own (ρ : Rho) (ad : Str → List Addr) (x : Str) (a : Addr) : Prop := ∃ sl, ρ.lookup x = some sl ∧ sl.own = true ∧ a ∈ ad x

structure St (w : World) (F : Fm) (sc : Sc) (V : List Addr) (ad : Str → List Addr) (ρ : Rho) (s : Shared) : Prop where
 rd : Rd w F.env sc V ad ρ s
 kp : Kp F.s₀ s
 kin₀ : KIn w F.s₀.heap
 low₀ : Live F.s₀.heap F.V₀
 ns : ∃ m, s.heap.Ns F.env.locals m
 newL : F.s₀.heap.get? F.env.locals = none
 cells : ∀ x c, F.env.cells.lookup x = some c → (∃ v, s.heap.IsCell c v) ∧ F.s₀.heap.get? c = none
 apart : ∀ x y c, F.env.cells.lookup x = some c → F.env.cells.lookup y = some c → x = y
 v0 : ∀ a ∈ F.V₀, a ∈ V
 vL : F.env.locals ∈ V
 vC : ∀ x c, F.env.cells.lookup x = some c → c ∈ V
 vV : ∀ a ∈ V, a ∈ F.V₀ ∨ F.s₀.heap.get? a = none
 vO : ∀ x a, Own ρ ad x a → a ∈ V ∧ F.s₀.heap.get? a = none ∧ a ≠ F.env.locals ∧ ∀ y c, F.env.cells.lookup y = some c → a ≠ c
 vD : ∀ x y a, Own ρ ad x a → Own ρ ad y a → x = y
 vN : ∀ x sl, ρ.lookup x = some sl → sl.own = true → (ad x).Nodup

/-- what a frame may store into -/
def Mut (F : Fm) (ρ : Rho) (ad : Str → List Addr) (a : Addr) : Prop := a = F.env.locals ∨ (∃ y, F.env.cells.lookup y = some a) ∨ ∃ y, Own ρ ad y a

/-- from before a statement to after it: V is kept from values, M is stored into -/
structure Ste (V : List Addr) (M : Addr → Prop) (s : Shared) (V' : List Addr) (M' : Addr → Prop) (s' : Shared) : Prop where
 chg : ∀ b o, ¬ M b → s.heap.get? b = some o → s'.heap.get? b = some o
 grow : ∀ a, M' a → M a ∨ s.heap.get? a = none
 growV : ∀ a ∈ V', a ∈ V ∨ s.heap.get? a = none
 sub : ∀ a ∈ V, a ∈ V'
 alive : ∀ b o, s.heap.get? b = some o → ∃ o', s'.heap.get? b = some o'
 gx : GExt s.gens s'.gens
theorem Ste.refl (V : List Addr) (M : Addr → Prop) (s : Shared) : Ste V M s V M s := ⟨fun _ _ _ e => e, fun _ h => .inl h, fun _ h => .inl h, fun _ h => h, fun _ o e => ⟨o, e⟩, .refl _⟩
theorem Ste.none {V V' : List Addr} {M M' : Addr → Prop} {s s' : Shared} (x : Ste V M s V' M' s') {a : Addr} (q : s'.heap.get? a = Option.none) : s.heap.get? a = Option.none := by
 cases e : s.heap.get? a with
 | none => rfl
 | some o => obtain ⟨o', e'⟩ := x.alive a o e; rw [q] at e'; cases e'
theorem Ste.trans {V V' V'' : List Addr} {M M' M'' : Addr → Prop} {s s' s'' : Shared} (x : Ste V M s V' M' s') (y : Ste V' M' s' V'' M'' s'') : Ste V M s V'' M'' s'' := by
 have old : ∀ b o, ¬ M b → s.heap.get? b = some o → ¬ M' b := fun b o hb e hm => by
  rcases x.grow b hm with q | q
  ·exact hb q
  ·rw [q] at e; cases e
 refine ⟨fun b o hb e => y.chg b o (old b o hb e) (x.chg b o hb e), fun a ha => ?_, fun a ha => ?_, fun a ha => y.sub a (x.sub a ha), fun b o e => ?_, x.gx.trans y.gx⟩
 ·rcases y.grow a ha with q | q
  ·exact x.grow a q
  ·exact .inr (x.none q)
 ·rcases y.growV a ha with q | q
  ·exact x.growV a q
  ·exact .inr (x.none q)
 ·obtain ⟨o', e'⟩ := x.alive b o e
  exact y.alive b o' e'
theorem Kp.gx {s s' : Shared} (k : Kp s s') : GExt s.gens s'.gens := by obtain ⟨⟨h, t, g, rfl, hg⟩, _⟩ := k; exact hg
theorem Ste.kp {V : List Addr} {M : Addr → Prop} {s s' : Shared} (k : Kp s s') : Ste V M s V M s' := ⟨fun b o _ e => k.keep b o e, fun _ h => .inl h, fun _ h => .inl h, fun _ h => h, fun b o e => ⟨o, k.keep b o e⟩, k.gx⟩
theorem Ste.rep {V V' : List Addr} {M M' : Addr → Prop} {s s' : Shared} (x : Ste V M s V' M' s') (hM : ∀ a, M a → a ∈ V) {v : PV} {val : Value} (r : Rep V s.heap v val) : Rep V' s'.heap v val := r.mono (fun y o hy e => x.chg y o (fun h => hy (hM y h)) e) x.growV
theorem Ste.reps {V V' : List Addr} {M M' : Addr → Prop} {s s' : Shared} (x : Ste V M s V' M' s') (hM : ∀ a, M a → a ∈ V) {v : List PV} {val : List Value} (r : Reps V s.heap v val) : Reps V' s'.heap v val := r.mono (fun y o hy e => x.chg y o (fun h => hy (hM y h)) e) x.growV

section
variable {w : World} {F : Fm} {sc : Sc} {V : List Addr} {ad : Str → List Addr} {ρ : Rho} {s : Shared}

theorem St.mut (S : St w F sc V ad ρ s) : ∀ a, Mut F ρ ad a → a ∈ V := fun a h => by
 rcases h with rfl | ⟨y, h⟩ | ⟨y, h⟩
 ·exact S.vL
 ·exact S.vC y a h
 ·exact (S.vO y a h).1
theorem St.step (S : St w F sc V ad ρ s) {s' : Shared} (k : Kp s s') : St w F sc V ad ρ s' :=
 { S with
  rd := S.rd.kp k
  kp := S.kp.trans k
  ns := let ⟨m, n⟩ := S.ns; ⟨m, n.keeps k.keep⟩
  cells := fun x c hc => ⟨let ⟨v, q⟩ := (S.cells x c hc).1; ⟨v, q.keeps k.keep⟩, (S.cells x c hc).2⟩ }

/-- one more address kept to oneself -/
theorem St.more (S : St w F sc V ad ρ s) {s' : Shared} (k : Kp s s') {a : Addr} (ha : s.heap.get? a = none) (hl : ∃ o, s'.heap.get? a = some o) : St w F sc (a :: V) ad ρ s' ∧ ∀ M : Addr → Prop, Ste V M s (a :: V) (fun b => M b ∨ b = a) s' := by
 have hv : ∀ x ∈ a :: V, x ∈ V ∨ s.heap.get? x = none := fun x hx => by
  rcases List.mem_cons.mp hx with rfl | hx
  ·exact .inr ha
  ·exact .inl hx
 refine ⟨{ S.step k with rd := ?_, v0 := fun x hx => List.mem_cons_of_mem _ (S.v0 x hx), vL := List.mem_cons_of_mem _ S.vL, vC := fun x c h => List.mem_cons_of_mem _ (S.vC x c h), vV := fun x hx => ?_, vO := fun x b h => ?_ }, fun M => ⟨fun b o _ e => k.keep b o e, fun b hb => hb.elim .inl fun q => .inr (q ▸ ha), hv, fun _ h => List.mem_cons_of_mem _ h, fun b o e => ⟨o, k.keep b o e⟩, k.gx⟩⟩
 ·refine { S.rd.kp k with low := fun x hx => ?_, vars := fun x sl e => (S.rd.vars x sl e).map fun val va sr => ⟨va.keeps k.keep, sr.mono (fun y o _ e => k.keep y o e) hv fun _ b _ o e => k.keep b o e⟩ }
  rcases List.mem_cons.mp hx with rfl | hx
  ·exact hl
  ·exact S.rd.low.keeps k.keep x hx
 ·rcases List.mem_cons.mp hx with rfl | hx
  ·exact .inr (new_of S.kp.keep ha)
  ·exact S.vV x hx
 ·obtain ⟨h1, h2⟩ := S.vO x b h
  exact ⟨List.mem_cons_of_mem _ h1, h2⟩

/-- a change at one address that is the frame's own -/
theorem St.upd (S : St w F sc V ad ρ s) {a : Addr} {h' : Heap} {tk : Nat} {ρ' : Rho} {ad' : Str → List Addr} (hs : Heap.SameBut a s.heap h') (ha : a ∈ V) (hn : F.s₀.heap.get? a = none) (hl : ∃ o, h'.get? a = some o)
  (hns : ∃ m, h'.Ns F.env.locals m) (hc : ∀ x c, F.env.cells.lookup x = some c → ∃ v, h'.IsCell c v)
  (hv : ∀ x sl, ρ'.lookup x = some sl → SlotAt F.env V h' (ad' x) x sl)
  (hO : ∀ x b, Own ρ' ad' x b → b ∈ V ∧ F.s₀.heap.get? b = none ∧ b ≠ F.env.locals ∧ ∀ y c, F.env.cells.lookup y = some c → b ≠ c)
  (hD : ∀ x y b, Own ρ' ad' x b → Own ρ' ad' y b → x = y) (hN : ∀ x sl, ρ'.lookup x = some sl → sl.own = true → (ad' x).Nodup) {M : Addr → Prop} (hM : M a) (hG : ∀ b, Mut F ρ' ad' b → M b) :
  St w F sc V ad' ρ' { s with heap := h', toks := tk } ∧ Ste V M s V (Mut F ρ' ad') { s with heap := h', toks := tk } := by
 have K : Kp F.s₀ { s with heap := h', toks := tk } := S.kp.with fun b o e => hs.extBut b o (fun q => by rw [q, hn] at e; cases e) (S.kp.keep b o e)
 refine ⟨{ S with rd := ?_, kp := K, ns := hns, cells := fun x c h => ⟨hc x c h, (S.cells x c h).2⟩, vO := hO, vD := hD, vN := hN }, ⟨fun b o hb e => hs.extBut b o (fun q => hb (q ▸ hM)) e, fun b h => .inl (hG b h), fun _ h => .inl h, fun _ h => h, fun b o e => ?_, .refl _⟩⟩
 rotate_left
 ·by_cases hb : b = a
  ·subst hb; exact hl
  ·exact ⟨o, hs.extBut b o hb e⟩
 refine { S.rd with kin := S.kin₀.keeps K.keep, low := fun x hx => ?_, vars := hv }
 by_cases hx' : x = a
 ·subst hx'; exact hl
 ·obtain ⟨o, e⟩ := S.rd.low x hx; exact ⟨o, hs.extBut x o hx' e⟩

theorem ns_not_cell {h : Heap} {a : Addr} {m : Str → Option Value} {v : Option Value} (n : h.Ns a m) (c : h.IsCell a v) : False := by
 obtain ⟨o, es, ep, e, d, _⟩ := n
 obtain ⟨o', e', d'⟩ := c
 rw [e] at e'; cases e'; rw [d] at d'; cases d'

def upAd (ad : Str → List Addr) (x : Str) (A : List Addr) : Str → List Addr := fun y => if y = x then A else ad y

theorem own_put {x y : Str} {sl : Slot} {A : List Addr} {b : Addr} (h : Own (ρ.put x sl) (upAd ad x A) y b) : (y = x ∧ sl.own = true ∧ b ∈ A) ∨ (y ≠ x ∧ Own ρ ad y b) := by
 obtain ⟨sl', h1, h2, h3⟩ := h
 rw [Rho.put_look] at h1
 unfold upAd at h3
 by_cases hy : y = x
 ·subst hy
  simp only [beq_self_eq_true, if_true] at h1 h3
  cases h1
  exact .inl ⟨rfl, h2, h3⟩
 ·rw [if_neg (by simpa using hy)] at h1
  rw [if_neg hy] at h3
  exact .inr ⟨hy, sl', h1, h2, h3⟩

/-- what a slot needs to be put under a name -/
structure PutOk (F : Fm) (V : List Addr) (ad : Str → List Addr) (ρ : Rho) (x : Str) (A : List Addr) (sl : Slot) : Prop where
 own : sl.own = true → ∀ a ∈ A, a ∈ V ∧ F.s₀.heap.get? a = none ∧ a ≠ F.env.locals ∧ ∀ y c, F.env.cells.lookup y = some c → a ≠ c
 apart : sl.own = true → ∀ a ∈ A, ∀ y, y ≠ x → ¬ Own ρ ad y a
 nodup : sl.own = true → A.Nodup
theorem PutOk.val {x : Str} {v : PV} : PutOk F V ad ρ x [] (.v v) := ⟨fun h => (nomatch h), fun h => (nomatch h), fun h => (nomatch h)⟩

theorem putOk_facts (S : St w F sc V ad ρ s) {x : Str} {A : List Addr} {sl : Slot} (P : PutOk F V ad ρ x A sl) :
  (∀ y b, Own (ρ.put x sl) (upAd ad x A) y b → b ∈ V ∧ F.s₀.heap.get? b = none ∧ b ≠ F.env.locals ∧ ∀ y c, F.env.cells.lookup y = some c → b ≠ c) ∧
  (∀ y z b, Own (ρ.put x sl) (upAd ad x A) y b → Own (ρ.put x sl) (upAd ad x A) z b → y = z) ∧ (∀ y sl', (ρ.put x sl).lookup y = some sl' → sl'.own = true → (upAd ad x A y).Nodup) := by
 refine ⟨fun y b h => ?_, fun y z b h h' => ?_, fun y sl' h ho => ?_⟩
 ·rcases own_put h with ⟨rfl, h1, h2⟩ | ⟨_, h1⟩
  ·exact P.own h1 b h2
  ·exact S.vO y b h1
 ·rcases own_put h with ⟨rfl, h1, h2⟩ | ⟨hn, h1⟩
  ·rcases own_put h' with ⟨rfl, _, _⟩ | ⟨hn', h1'⟩
   ·rfl
   ·exact absurd h1' (P.apart h1 b h2 z hn')
  ·rcases own_put h' with ⟨rfl, h1', h2'⟩ | ⟨hn', h1'⟩
   ·exact absurd h1 (P.apart h1' b h2' y hn)
   ·exact S.vD y z b h1 h1'
 ·rw [Rho.put_look] at h
  unfold upAd
  by_cases hy : y = x
  ·subst hy
   simp only [beq_self_eq_true, if_true] at h ⊢
   cases h; exact P.nodup ho
  ·rw [if_neg (by simpa using hy)] at h
   rw [if_neg hy]
   exact S.vN y sl' h ho

/-- a store into a name -/
theorem wp_storeS {A : Around} {x : Str} {val : Value} {sl : Slot} {B : List Addr} {Q : Unit → Shared → Prop} {E : Value → Shared → Prop} (S : St w F sc V ad ρ s)
  (hx : storable sc x = true) (hr : SlotRep V s.heap B sl val) (P : PutOk F V ad ρ x B sl) {M : Addr → Prop} (hM : ∀ a, Mut F ρ ad a → M a) (hB : sl.own = true → ∀ a ∈ B, M a) (h : ∀ s', St w F sc V (upAd ad x B) (ρ.put x sl) s' → Ste V M s V (Mut F (ρ.put x sl) (upAd ad x B)) s' → Q () s') : wpAny (model pw w) A (storeName F.env x val) Q E s := by
 obtain ⟨hO, hD, hN⟩ := putOk_facts S P
 have hG : ∀ b, Mut F (ρ.put x sl) (upAd ad x B) b → M b := fun b hb => by
  rcases hb with h | h | ⟨y, h⟩
  ·exact hM b (.inl h)
  ·exact hM b (.inr (.inl h))
  ·rcases own_put h with ⟨_, h1, h2⟩ | ⟨_, h1⟩
   ·exact hB h1 b h2
   ·exact hM b (.inr (.inr ⟨y, h1⟩))
 have hloc : ∀ y b, Own (ρ.put x sl) (upAd ad x B) y b → b ≠ F.env.locals := fun y b h => (hO y b h).2.2.1
 -- slots after a change at an address that no slot stands on
 have slots : ∀ {a : Addr} {h' : Heap}, Heap.SameBut a s.heap h' → a ∈ V → (∀ y b, Own (ρ.put x sl) (upAd ad x B) y b → b ≠ a) → (VarAt F.env h' x val) → (∀ y v, y ≠ x → VarAt F.env s.heap y v → VarAt F.env h' y v) →
   ∀ y sl', (ρ.put x sl).lookup y = some sl' → SlotAt F.env V h' (upAd ad x B y) y sl' := by
  intro a h' hs ha hb hvx hvy y sl' hy
  have hOwn : sl'.own = true → ∀ b ∈ upAd ad x B y, b ≠ a := fun ho b hbm => hb y b ⟨sl', hy, ho, hbm⟩
  have mv : ∀ {val' : Value}, SlotRep V s.heap (upAd ad x B y) sl' val' → SlotRep V h' (upAd ad x B y) sl' val' := fun r => r.mono (fun z o hz e => hs.extBut z o (fun q => hz (q ▸ ha)) e) (fun z hz => .inl hz) fun ho b hbm o e => hs.extBut b o (hOwn ho b hbm) e
  rw [Rho.put_look] at hy
  by_cases hyx : y = x
  ·subst hyx
   simp only [beq_self_eq_true, if_true] at hy
   cases hy
   refine SlotAt.of hvx (mv ?_)
   unfold upAd; rw [if_pos rfl]; exact hr
  ·rw [if_neg (by simpa using hyx)] at hy
   have e : upAd ad x B y = ad y := by unfold upAd; rw [if_neg hyx]
   rw [e] at mv ⊢
   exact (S.rd.vars y sl' hy).map fun val' va sr => ⟨hvy y val' hyx va, mv sr⟩
 obtain ⟨m, n⟩ := S.ns
 unfold storable at hx
 simp only [Bool.or_eq_true, beq_iff_eq] at hx
 rcases hx with hl | hl
 ·have hl : F.env.kindOf x = some .local := by show F.env.scope.names.lookup x = _; rw [S.rd.nm]; exact hl
  refine wpAny_storeName_local hl n (fun h' hn' hs => ?_) (by rw [S.rd.fn]; rfl)
  have := S.upd (tk := s.toks + 1) (ρ' := ρ.put x sl) (ad' := upAd ad x B) hs S.vL S.newL (by obtain ⟨o, _, _, e, _⟩ := hn'; exact ⟨o, e⟩) ⟨_, hn'⟩ (fun y c q => by
   obtain ⟨u, z⟩ := (S.cells y c q).1
   exact ⟨u, z.sameBut hs (fun e => ns_not_cell n (e ▸ z))⟩) (slots hs S.vL hloc (.inl ⟨hl, _, hn', by simp⟩) fun y v hne va => ?_) hO hD hN (hM _ (.inl rfl)) hG
  ·exact h _ this.1 this.2
  ·rcases va with ⟨a, m', n', e'⟩ | ⟨a, c, e', z⟩
   ·refine .inl ⟨a, _, hn', ?_⟩
    rw [if_neg hne]
    obtain ⟨o1, es1, ep1, g1, d1, _, f1⟩ := n
    obtain ⟨o2, es2, ep2, g2, d2, _, f2⟩ := n'
    rw [g1] at g2; cases g2; rw [d1] at d2; cases d2
    rw [← f1 y, f2 y]; exact e'
   ·exact .inr ⟨a, c, e', z.sameBut hs (fun q => ns_not_cell n (q ▸ z))⟩
 ·have hl' : F.env.kindOf x = some .cell := by show F.env.scope.names.lookup x = _; rw [S.rd.nm]; exact hl
  obtain ⟨c, hc⟩ := Option.isSome_iff_exists.mp (S.rd.cl x hl)
  obtain ⟨⟨u, z⟩, hnew⟩ := S.cells x c hc
  refine wpAny_storeName_cell S.rd.fn hl' hc z fun h' hc' hs => ?_
  have hcell : ∀ y b, Own (ρ.put x sl) (upAd ad x B) y b → b ≠ c := fun y b h => (hO y b h).2.2.2 x c hc
  have := S.upd (tk := s.toks) (ρ' := ρ.put x sl) (ad' := upAd ad x B) hs (S.vC x c hc) hnew (by obtain ⟨o, e, _⟩ := hc'; exact ⟨o, e⟩) ⟨m, n.sameBut hs (fun e => ns_not_cell (e ▸ n) z)⟩ (fun y c' q => by
   by_cases q' : c' = c
   ·exact ⟨_, q' ▸ hc'⟩
   ·obtain ⟨u', z'⟩ := (S.cells y c' q).1
    exact ⟨u', z'.sameBut hs q'⟩) (slots hs (S.vC x c hc) hcell (.inr ⟨hl', c, hc, hc'⟩) fun y v hne va => ?_) hO hD hN (hM _ (.inr (.inl ⟨x, hc⟩))) hG
  ·exact h _ this.1 this.2
  ·rcases va with ⟨a, m', n', e'⟩ | ⟨a, c', e', z'⟩
   ·exact .inl ⟨a, m', n'.sameBut hs (fun e => ns_not_cell (e ▸ n') z), e'⟩
   ·exact .inr ⟨a, c', e', z'.sameBut hs fun q' => hne (S.apart y x c (q' ▸ e') hc)⟩

theorem wp_storeV {A : Around} {x : Str} {val : Value} {v : PV} {Q : Unit → Shared → Prop} {E : Value → Shared → Prop} (S : St w F sc V ad ρ s) (hx : storable sc x = true) (hr : Rep V s.heap v val)
  (h : ∀ s' ad', St w F sc V ad' (ρ.put x (.v v)) s' → Ste V (Mut F ρ ad) s V (Mut F (ρ.put x (.v v)) ad') s' → Q () s') : wpAny (model pw w) A (storeName F.env x val) Q E s :=
 wp_storeS (sl := .v v) (B := []) (M := Mut F ρ ad) S hx hr .val (fun _ h => h) (fun h => nomatch h) fun s' S' T => h s' _ S' T

/-- a list just made becomes the name's own -/
theorem wp_storeNew {A : Around} {x : Str} {vs : List PV} {a : Addr} {xs : Array Value} {n : Nat} {s₁ : Shared} {Q : Unit → Shared → Prop} {E : Value → Shared → Prop} (S : St w F sc V ad ρ s) (k : Kp s s₁) (hx : storable sc x = true)
  (ha : s.heap.get? a = none) (g : s₁.heap.get? a = some (lobj xs n)) (r : Reps (a :: V) s₁.heap vs xs.toList)
  (h : ∀ s' ad', St w F sc (a :: V) ad' (ρ.put x (.o vs)) s' → Ste V (Mut F ρ ad) s (a :: V) (Mut F (ρ.put x (.o vs)) ad') s' → Q () s') : wpAny (model pw w) A (storeName F.env x (.ref a)) Q E s₁ := by
 obtain ⟨S₁, T₁⟩ := S.more k ha ⟨_, g⟩
 have notOwn : ∀ y, ¬ Own ρ ad y a := fun y h => S.rd.low.not_mem ha (S.vO y a h).1
 refine wp_storeS (sl := .o vs) (B := [a]) (M := fun b => Mut F ρ ad b ∨ b = a) S₁ hx ⟨a, xs, n, rfl, rfl, g, r⟩ ⟨fun _ b hb => ?_, fun _ b hb y _ => ?_, fun _ => by simp⟩ (fun _ h => .inl h) (fun _ b hb => .inr (List.mem_singleton.mp hb)) fun s' S' T' => h s' _ S' ((T₁ _).trans T')
 ·rw [List.mem_singleton.mp hb]
  refine ⟨List.mem_cons_self, new_of S.kp.keep ha, fun q => S.rd.low.not_mem ha (q ▸ S.vL), fun y c hc q => S.rd.low.not_mem ha (q ▸ S.vC y c hc)⟩
 ·rw [List.mem_singleton.mp hb]; exact notOwn y
end

section
variable {w : World} {F : Fm} {sc : Sc} {V : List Addr} {ad : Str → List Addr} {ρ : Rho} {s : Shared}

/-- the frame's own list, where it stands -/
theorem St.list (S : St w F sc V ad ρ s) {x : Str} {vs : List PV} (h : ρ.lookup x = some (.o vs)) :
  ∃ a xs n, ad x = [a] ∧ VarAt F.env s.heap x (.ref a) ∧ s.heap.get? a = some (lobj xs n) ∧ Reps V s.heap vs xs.toList ∧ a ∈ V ∧ F.s₀.heap.get? a = none := by
 obtain ⟨val, va, a, xs, n, e, rfl, g, r⟩ := S.rd.vars x _ h
 have := S.vO x a ⟨_, h, rfl, by rw [e]; simp⟩
 exact ⟨a, xs, n, e, va, g, r, this.1, this.2.1⟩

theorem ns_not_list {h : Heap} {a : Addr} {m : Str → Option Value} {xs : Array Value} {k : Nat} (n : h.Ns a m) (c : h.get? a = some (lobj xs k)) : False := by
 obtain ⟨o, es, ep, e, d, _⟩ := n
 rw [e] at c; cases c; cases d

/-- it is changed there -/
theorem St.setList (S : St w F sc V ad ρ s) {x : Str} {vs vs' : List PV} {a : Addr} {xs xs' : Array Value} {n n' tk : Nat} {h' : Heap} (h : ρ.lookup x = some (.o vs)) (ha : ad x = [a]) (hg : s.heap.get? a = some (lobj xs n))
  (hs : Heap.SameBut a s.heap h') (hg' : h'.get? a = some (lobj xs' n')) (hr : Reps V s.heap vs' xs'.toList) :
  St w F sc V ad (ρ.put x (.o vs')) { s with heap := h', toks := tk } ∧ Ste V (Mut F ρ ad) s V (Mut F (ρ.put x (.o vs')) ad) { s with heap := h', toks := tk } := by
 have hO := S.vO x a ⟨_, h, rfl, by rw [ha]; simp⟩
 have owns : ∀ {y b}, Own (ρ.put x (.o vs')) ad y b → Own ρ ad y b := fun {y b} ⟨sl, h1, h2, h3⟩ => by
  rw [Rho.put_look] at h1
  by_cases hy : y = x
  ·subst hy; exact ⟨_, h, rfl, h3⟩
  ·rw [if_neg (by simpa using hy)] at h1; exact ⟨sl, h1, h2, h3⟩
 obtain ⟨val, va, a', xs₀, n₀, e₀, rfl, g₀, r₀⟩ := S.rd.vars x _ h
 have : a' = a := by rw [ha] at e₀; cases e₀; rfl
 subst this
 have mv : ∀ y o, y ∉ V → s.heap.get? y = some o → h'.get? y = some o := fun y o hy e => hs.extBut y o (fun q => hy (q ▸ hO.1)) e
 have vmv : ∀ {y v}, VarAt F.env s.heap y v → VarAt F.env h' y v := fun {y v} hv => by
  rcases hv with ⟨k, m, nn, e⟩ | ⟨k, c, e, z⟩
  ·exact .inl ⟨k, m, nn.sameBut hs (Ne.symm hO.2.2.1), e⟩
  ·exact .inr ⟨k, c, e, z.sameBut hs (Ne.symm (hO.2.2.2 y c e))⟩
 refine S.upd hs hO.1 hO.2.1 ⟨_, hg'⟩ ?_ (fun y c hc => ?_) (fun y sl hy => ?_) (fun y b h => S.vO y b (owns h)) (fun y z b h h' => S.vD y z b (owns h) (owns h')) (fun y sl hy ho => ?_) (.inr (.inr ⟨x, _, h, rfl, by rw [ha]; simp⟩)) (fun b hb => hb.imp id (Or.imp id fun ⟨y, hy⟩ => ⟨y, owns hy⟩))
 ·obtain ⟨m, nn⟩ := S.ns; exact ⟨m, nn.sameBut hs (Ne.symm hO.2.2.1)⟩
 ·obtain ⟨v, z⟩ := (S.cells y c hc).1
  exact ⟨v, z.sameBut hs (Ne.symm (hO.2.2.2 y c hc))⟩
 ·rw [Rho.put_look] at hy
  by_cases hyx : y = x
  ·subst hyx
   simp only [beq_self_eq_true, if_true] at hy
   cases hy
   exact SlotAt.of (vmv va) ⟨_, xs', n', ha, rfl, hg', hr.mono mv fun y hy => .inl hy⟩
  ·rw [if_neg (by simpa using hyx)] at hy
   refine (S.rd.vars y sl hy).map fun val va sr => ⟨vmv va, sr.mono mv (fun y hy => .inl hy) fun ho b hb o e => hs.extBut b o (fun q => hyx ?_) e⟩
   subst q
   exact S.vD y x b ⟨sl, hy, ho, hb⟩ ⟨_, h, rfl, by rw [ha]; simp⟩
 ·rw [Rho.put_look] at hy
  by_cases hyx : y = x
  ·subst hyx; exact S.vN y _ h rfl
  ·rw [if_neg (by simpa using hyx)] at hy; exact S.vN y sl hy ho
end

def FlRep (V : List Addr) (h : Heap) : Fl → Flow → Prop
 | .next, f => f = .next
 | .brk, f => f = .brk
 | .cont, f => f = .cont
 | .ret v, f => ∃ val, f = .ret val ∧ Rep V h v val

/-- a tree of the block runs to this end -/
def Ex (w : World) (d : Nat) (F : Fm) (sc : Sc) (ρ : Rho) (t : Sem Flow) (fl : Fl) (ρ' : Rho) : Prop :=
 ∀ (A : Around) (s : Shared) (V : List Addr) (ad : Str → List Addr) (Q : Flow → Shared → Prop) (E : Value → Shared → Prop), Room d A → St w F sc V ad ρ s →
  (∀ f s' V' ad', St w F sc V' ad' ρ' s' → Ste V (Mut F ρ ad) s V' (Mut F ρ' ad') s' → FlRep F.V₀ s'.heap fl f → Q f s') → wpAny (model pw w) A t Q E s

section
variable {w : World} {d : Nat} {F : Fm} {sc : Sc} {ρ ρ' ρ'' : Rho} {fl : Fl} {e : Expr} {pos : Pos}

theorem Ex.seq_nil : Ex w d F sc ρ (execs [] F.env) .next ρ := fun A s V ad Q E R S k => wpAny_execs_nil (k .next s V ad S (.refl V _ s) rfl)
theorem Ex.seq_cons {st : Stmt} {r : List Stmt} (h : Ex w d F sc ρ (exec st F.env) .next ρ') (hr : Ex w d F sc ρ' (execs r F.env) fl ρ'') : Ex w d F sc ρ (execs (st :: r) F.env) fl ρ'' := fun A s V ad Q E R S k =>
 wpAny_execs_cons (h A s V ad _ E R S fun f s' V' ad' S' T fr => by
  cases fr
  exact hr A s' V' ad' Q E R S' fun f s'' V'' ad'' S'' T' fr' => k f s'' V'' ad'' S'' (T.trans T') fr')
theorem Ex.seq_stop {st : Stmt} {r : List Stmt} (h : Ex w d F sc ρ (exec st F.env) fl ρ') (hf : fl ≠ .next) : Ex w d F sc ρ (execs (st :: r) F.env) fl ρ' := fun A s V ad Q E R S k =>
 wpAny_execs_cons (h A s V ad _ E R S fun f s' V' ad' S' T fr => by
  have := k f s' V' ad' S' T fr
  cases fl with
  | next => exact absurd rfl hf
  | brk => cases fr; exact this
  | cont => cases fr; exact this
  | ret v => obtain ⟨val, rfl, r⟩ := fr; exact this)
theorem Ex.if_ {c : Expr} {a b : List Stmt} {t : Bool} (hc : Et w d sc F.env ρ c t) (h : Ex w d F sc ρ (execs (if t then a else b) F.env) fl ρ') : Ex w d F sc ρ (exec (.If c a b pos) F.env) fl ρ' := fun A s V ad Q E R S k =>
 wpAny_If (hc A s V ad _ E R S.rd fun s₁ k₁ => by
  have := h A s₁ V ad Q E R (S.step k₁) fun f s' V' ad' S' T fr => k f s' V' ad' S' ((Ste.kp k₁).trans T) fr
  cases t <;> simpa using this)
theorem Ex.brk : Ex w d F sc ρ (exec (.Break pos) F.env) .brk ρ := fun A s V ad Q E R S k => wpAny_Break (k .brk s V ad S (.refl V _ s) rfl)

theorem St.ret {V : List Addr} {ad : Str → List Addr} {s : Shared} (S : St w F sc V ad ρ s) {v : PV} {val : Value} (r : Rep V s.heap v val) : Rep F.V₀ s.heap v val := r.mono (fun _ _ _ e => e) fun x hx => .inl (S.v0 x hx)
theorem Ex.ret {v : PV} (h : Ev w d sc .v F.env ρ e v) : Ex w d F sc ρ (exec (.Return (some e) pos) F.env) (.ret v) ρ := fun A s V ad Q E R S k =>
 wpAny_Return_some (h A s V ad _ E R S.rd fun val s₁ k₁ r₁ => k _ s₁ V ad (S.step k₁) (.kp k₁) ⟨val, rfl, (S.step k₁).ret r₁⟩)
theorem Ex.retO {x : Str} {px : Pos} {vs : List PV} (hx : ρ.lookup x = some (.o vs)) (hd : (x == ("__debug__" : Str)) = false) : Ex w d F sc ρ (exec (.Return (some (.Name x px)) pos) F.env) (.ret (.lst vs)) ρ := fun A s V ad Q E R S k => by
 obtain ⟨a, xs, n, ha, va, g, r, hV, hn⟩ := S.list hx
 refine wpAny_Return_some (wp_name S.rd.fn va (k _ s V ad S (.refl V _ s) ⟨_, rfl, .lst (S.low₀.not_mem hn) (xs := xs.toList) (n := n) (by simpa using g) (r.mono (fun _ _ _ e => e) fun x hx => .inl (S.v0 x hx))⟩) hd)

theorem Ex.assign {x : Str} {px : Pos} {v : PV} (hsw : swapsWith e (some (.Name x px)) pos.line F.env = pure false) (hx : storable sc x = true) (he : Ev w d sc .v F.env ρ e v) :
  Ex w d F sc ρ (exec (.Assign [.Name x px] e pos) F.env) .next (ρ.put x (.v v)) := fun A s V ad Q E R S k =>
 wpAny_Assign_Name (he A s V ad _ E R S.rd fun val s₁ k₁ r₁ => wp_storeV (S.step k₁) hx r₁ fun s' ad' S' T => k .next s' V ad' S' ((Ste.kp k₁).trans T) rfl) hsw
theorem Ex.assignO {x : Str} {px : Pos} {vs : List PV} (hsw : swapsWith e (some (.Name x px)) pos.line F.env = pure false) (hx : storable sc x = true) (he : Ev w d sc .f F.env ρ e (.lst vs)) :
  Ex w d F sc ρ (exec (.Assign [.Name x px] e pos) F.env) .next (ρ.put x (.o vs)) := fun A s V ad Q E R S k =>
 wpAny_Assign_Name (he A s V ad _ E R S.rd fun val s₁ k₁ r₁ => by
  obtain ⟨vs', a, xs, n, e1, rfl, ha, g, r⟩ := r₁
  cases e1
  exact wp_storeNew S k₁ hx ha g r fun s' ad' S' T => k .next s' _ ad' S' T rfl) hsw

/-- `x.append(e)` on the frame's own list -/
theorem Ex.append {x : Str} {px apos cpos : Pos} {vs : List PV} {v : PV} (hline : (apos.endLine == cpos.line) = true) (hx : ρ.lookup x = some (.o vs)) (hd : (x == ("__debug__" : Str)) = false) (hz : sizeOk vs.length = true) (hs : ∀ y p, e ≠ .Starred y p) (he : Ev w d sc .v F.env ρ e v)
  (hi : interactive F.env = false) : Ex w d F sc ρ (exec (.Expr (.Call (.Attribute (.Name x px) "append" apos) [e] [] cpos) pos) F.env) .next (ρ.put x (.o (vs ++ [v]))) := fun A s V ad Q E R S k => by
 obtain ⟨a, xs, n, ha, va, g, r, hV, hn⟩ := S.list hx
 refine wpAny_Expr ?_ hi rfl
 refine Call_method1 rfl (by cases e <;> first | rfl | exact absurd rfl (hs _ _)) hline (wp_name S.rd.fn va ?_ hd)
 refine ⟨"list", _, PySem.F.plainAttrs_list, PySem.F.slot_list_append, PySem.F.type_list_append, ⟨_, g, rfl⟩, (fun b e => by cases e; exact ⟨_, g, rfl⟩), P.append_list (he A s V ad _ E R S.rd fun val s₁ k₁ r₁ => ?_)⟩
 have S₁ := S.step k₁
 have g₁ := k₁.keep _ _ g
 have e1 := r.length
 simp only [Array.length_toList] at e1
 refine ⟨xs, n, by rw [e1]; exact sizeOk_le hz, g₁, ?_⟩
 have hg' := IsL.update g₁ (fun xs => xs.push val)
 obtain ⟨S₂, T₂⟩ := S₁.setList (vs' := vs ++ [v]) (tk := s₁.toks) hx ha g₁ (Heap.SameBut.update ..) hg' (by rw [Array.toList_push]; exact (r.keeps k₁.keep).append (.cons r₁ .nil))
 exact k .next _ V ad S₂ ((Ste.kp k₁).trans T₂) rfl
end

/-- a list taken apart: its iterator walked to the end -/
theorem wp_draw_list {w : World} {A : Around} {E : Value → Shared → Prop} {it l : Addr} {items : Array Value} (hne : l ≠ it) : ∀ (n i : Nat) (s : Shared) (Q : List Value → Shared → Prop), s.heap.IsListIter it l i → s.heap.IsList l items → i + n ≤ items.size →
  (∀ h', h'.IsListIter it l (i + n) → Heap.SameBut it s.heap h' → Q ((items.toList.drop i).take n) { s with heap := h' }) → wpAny (model pw w) A (draw (.ref it) n) Q E s
 | 0, i, s, Q, hit, _, _, hQ => by
  show wpAny _ _ (pure []) Q E s
  exact wpAny_pure (by simpa using hQ s.heap hit (Heap.SameBut.refl ..))
 | n + 1, i, s, Q, hit, ht, hle, hQ => by
  have hlt : i < items.size := by omega
  show wpAny _ _ (pyNext (.ref it) >>= _) Q E s
  refine wpAny_bind (wpAny_pyNext_list_item hit ht (x := items[i]) (by simp [hlt]) fun h₁ hit₁ hs₁ => ?_)
  refine wpAny_bind (wpAny_holding (wp_draw_list hne n (i + 1) _ _ hit₁ (ht.extBut hs₁.extBut hne) (by omega) fun h₂ hit₂ hs₂ => wpAny_pure ?_))
  have hd : items.toList.drop i = items[i] :: items.toList.drop (i + 1) := by simp [List.drop_eq_getElem_cons, hlt]
  have := hQ h₂ (by rw [show i + (n + 1) = i + 1 + n by omega]; exact hit₂) (hs₁.trans hs₂)
  rw [hd, List.take_succ_cons] at this
  exact this

theorem wp_unpackItems_list {w : World} {A : Around} {E : Value → Shared → Prop} {s : Shared} {t : Addr} {items : Array Value} {Q : List Value → Shared → Prop} (hh : A.handled = none) (ht : s.heap.IsList t items)
  (hQ : ∀ h', Heap.ExtBut s.heap.objs.size s.heap h' → Q items.toList { s with heap := h' }) : wpAny (model pw w) A (unpackItems (.ref t) items.size none) Q E s := by
 have hlt : t ≠ s.heap.objs.size := by obtain ⟨o, ho, _⟩ := ht; exact Nat.ne_of_lt (Heap.lt_size ho)
 unfold unpackItems
 refine wpAny_bind ?_
 ·unfold notIterableAtAll
  refine wpAny_bind (wpAny_specialOf ht.typeIs PySem.F.slot_list_iter.lookup ?_)
  refine wpAny_pure ?_
  simp only [Bool.false_eq_true, if_false]
  refine wpAny_bind (wpAny_holding (wpAny_pyIter_list ht ?_))
  refine wpAny_bind (wpAny_holding (wp_draw_list hlt items.size 0 _ _ ⟨_, Heap.get?_push_size _ rfl, rfl, rfl⟩ (ht.push _) (by omega) fun h₁ hit₁ hs₁ => ?_))
  have hall : List.take items.size (List.drop 0 items.toList) = items.toList := by
   rw [List.drop_zero]; exact List.take_of_length_le (by simp)
  rw [hall]
  rw [if_neg (by simp)]
  have ht₁ : h₁.IsList t items := (ht.push _).extBut hs₁.extBut hlt
  refine wpAny_bind (wpAny_holding (wpAny_pyNext_list_end hh hit₁ ht₁ (by simp) fun h₂ he₂ => ?_))
  simp only [Option.isSome_none, Bool.false_eq_true, if_false]
  refine wpAny_pure (hQ h₂ fun b o hb e => he₂ b o hb (hs₁.extBut b o hb (Heap.get?_push_of_some _ e)))

theorem wp_unpack {w : World} {A : Around} {E : Value → Shared → Prop} {s : Shared} {V : List Addr} {vs : List PV} {v : PV} {val : Value} {targets : List (Bool × (Value → Sem Unit))} {Q : Unit → Shared → Prop} (hh : A.handled = none)
  (hv : v = .tup vs ∨ v = .lst vs) (r : Rep V s.heap v val) (hn : targets.length = vs.length) (hstar : targets.findIdx? (·.1) = none)
  (h : ∀ s' xs, Kp s s' → Reps V s'.heap vs xs → wpAny (model pw w) A (assignInOrder (targets.map (·.2)) xs) Q E s') : wpAny (model pw w) A (unpack val targets) Q E s := by
 unfold unpack
 rw [hstar]
 have up : ∀ {h' : Heap}, Heap.ExtBut s.heap.objs.size s.heap h' → ∀ b o, s.heap.get? b = some o → h'.get? b = some o := fun he b o e => he b o (Nat.ne_of_lt (Heap.lt_size e)) e
 rcases hv with rfl | rfl
 ·obtain ⟨a, xs, n, rfl, _, g, rs⟩ := r.tup_inv
  have e1 := rs.length
  have hsz : targets.length = xs.toArray.size := by simpa [e1] using hn
  rw [hsz]
  refine wpAny_bind (wpAny_holding (wpAny_unpackItems_tuple hh ⟨_, g, rfl, n, rfl⟩ fun h' he => ?_))
  exact h _ _ (Kp.grow (t := s.toks) (up he)) (rs.keeps (up he))
 ·obtain ⟨a, xs, n, rfl, _, g, rs⟩ := r.lst_inv
  have e1 := rs.length
  have hsz : targets.length = xs.toArray.size := by simpa [e1] using hn
  rw [hsz]
  refine wpAny_bind (wpAny_holding (wp_unpackItems_list hh ⟨_, g, rfl, n, rfl⟩ fun h' he => ?_))
  exact h _ _ (Kp.grow (t := s.toks) (up he)) (rs.keeps (up he))

mutual
theorem bindT_ok {w : World} {F : Fm} {sc : Sc} {own : List (Str × Bool)} : ∀ (t : Expr) {v : PV} {ρ ρ' : Rho}, bindT sc own t v ρ = some ρ' → (∀ x p, t ≠ .Starred x p) ∧
  ∀ (A : Around) (s : Shared) (V : List Addr) (ad : Str → List Addr) (val : Value) (Q : Unit → Shared → Prop) (E : Value → Shared → Prop), A.handled = none → St w F sc V ad ρ s → Rep V s.heap v val → (∀ s' ad', St w F sc V ad' ρ' s' → Ste V (Mut F ρ ad) s V (Mut F ρ' ad') s' → Q () s') → wpAny (model pw w) A (assign t F.env val) Q E s
 | t, v, ρ, ρ', h => by
  unfold bindT at h
  split at h
  ·unfold bindN at h
   split at h
   ·rename_i hc; cases h
    rw [Bool.and_eq_true] at hc
    exact ⟨(by intro x p e; cases e), fun A s V ad val Q E hh S r k => wpAny_assign_Name (wp_storeV S hc.1 r fun s' ad' S' T => k s' ad' S' T)⟩
   ·cases h
  ·refine ⟨(by intro x p e; cases e), fun A s V ad val Q E hh S r k => ?_⟩
   rw [arm_assign_Tuple]
   obtain ⟨h1, h2, h3⟩ := bindTs_ok (w := w) (F := F) _ h
   refine wpAny_bind (wpAny_standAt (wp_unpack hh (.inl rfl) r (h1 F.env).1 (h1 F.env).2 fun s' xs k' rs => ?_))
   exact h3 A s' V ad xs Q E hh (S.step k') rs fun s'' ad'' S'' T => k s'' ad'' S'' ((Ste.kp k').trans T)
  ·refine ⟨(by intro x p e; cases e), fun A s V ad val Q E hh S r k => ?_⟩
   rw [arm_assign_Tuple]
   obtain ⟨h1, h2, h3⟩ := bindTs_ok (w := w) (F := F) _ h
   refine wpAny_bind (wpAny_standAt (wp_unpack hh (.inr rfl) r (h1 F.env).1 (h1 F.env).2 fun s' xs k' rs => ?_))
   exact h3 A s' V ad xs Q E hh (S.step k') rs fun s'' ad'' S'' T => k s'' ad'' S'' ((Ste.kp k').trans T)
  ·cases h
theorem bindTs_ok {w : World} {F : Fm} {sc : Sc} {own : List (Str × Bool)} : ∀ (ts : List Expr) {vs : List PV} {ρ ρ' : Rho}, bindTs sc own ts vs ρ = some ρ' → (∀ env, (assignEach ts env).length = vs.length ∧ (assignEach ts env).findIdx? (·.1) = none) ∧ True ∧
  ∀ (A : Around) (s : Shared) (V : List Addr) (ad : Str → List Addr) (xs : List Value) (Q : Unit → Shared → Prop) (E : Value → Shared → Prop), A.handled = none → St w F sc V ad ρ s → Reps V s.heap vs xs → (∀ s' ad', St w F sc V ad' ρ' s' → Ste V (Mut F ρ ad) s V (Mut F ρ' ad') s' → Q () s') → wpAny (model pw w) A (assignInOrder ((assignEach ts F.env).map (·.2)) xs) Q E s
 | [], vs, ρ, ρ', h => by
  cases vs with
  | nil =>
   simp [bindTs] at h; subst h
   exact ⟨fun env => ⟨rfl, rfl⟩, trivial, fun A s V ad xs Q E hh S r k => by cases r; exact wpAny_pure (k s ad S (.refl V _ s))⟩
  | cons _ _ => simp [bindTs] at h
 | t :: ts, vs, ρ, ρ', h => by
  cases vs with
  | nil => simp [bindTs] at h
  | cons v vs =>
   simp only [bindTs, Option.bind_eq_some_iff] at h
   obtain ⟨ρ₁, h1, h2⟩ := h
   obtain ⟨q1, q2⟩ := bindT_ok (w := w) (F := F) t h1
   obtain ⟨p1, _, p2⟩ := bindTs_ok (w := w) (F := F) ts h2
   have e1 : ∀ env, assignEach (t :: ts) env = (false, assign t env) :: assignEach ts env := fun env => by
    cases t <;> first | rfl | exact absurd rfl (q1 _ _)
   refine ⟨fun env => ?_, trivial, fun A s V ad xs Q E hh S r k => ?_⟩
   ·rw [e1]
    refine ⟨by simp [(p1 env).1], ?_⟩
    rw [List.findIdx?_cons]
    simp [(p1 env).2]
   ·rw [e1]
    cases r with
    | cons r rs =>
     show wpAny (model pw w) A (do holding _ (assign t F.env _); assignInOrder _ _) Q E s
     refine wpAny_bind (wpAny_holding (q2 A s V ad _ _ E hh S r fun s' ad' S' T => ?_))
     exact p2 A s' V ad' _ Q E hh S' (T.reps S.mut rs) fun s'' ad'' S'' T' => k s'' ad'' S'' (T.trans T')
end

section
variable {w : World} {d : Nat} {F : Fm} {sc : Sc} {ρ ρ' ρ'' : Rho} {fl : Fl} {e : Expr} {pos : Pos}

theorem wp_load {A : Around} {E : Value → Shared → Prop} {s : Shared} {env : Env} {x : Str} {val : Value} {Q : Value → Shared → Prop} (hk : env.scope.kind = .function) (hv : VarAt env s.heap x val) (h : Q val s) : wpAny (model pw w) A (loadName env x) Q E s := by
 rcases hv with ⟨a, m, n, e⟩ | ⟨a, c, e, q⟩
 ·exact wpAny_loadName_local hk a n e h
 ·exact wpAny_loadName_cell hk a e q h

theorem plus_ok {a b c : PV} {V : List Addr} {A : Around} {s : Shared} {x y : Value} {Q : Value → Shared → Prop} {E : Value → Shared → Prop} (h : plusOf a b = some c) (ra : Rep V s.heap a x) (rb : Rep V s.heap b y)
  (k : ∀ val s', Kp s s' → Rep V s'.heap c val → Q val s') : wpAny (model pw w) A (inplaceOp .Add x y) Q E s := by
 unfold plusOf at h
 split at h
 ·cases h
  obtain ⟨t, rfl⟩ := ra.int_inv; obtain ⟨u, rfl⟩ := rb.int_inv
  exact P.iadd_int (k _ _ .tok .int)
 ·unfold binop at h
  simp only at h
  split at h
  ·rename_i hz; cases h
   obtain ⟨t, rfl⟩ := ra.str_inv; obtain ⟨u, rfl⟩ := rb.str_inv
   exact SB.iadd (fun t' tk => k _ _ .tok .str) (sizeOk_le hz)
  ·cases h
 ·cases h

theorem Ex.aug {own : List (Str × Bool)} {x : Str} {px : Pos} {a b c : PV} (hx : ρ.lookup x = some (.v a)) (he : Ev w d sc .v F.env ρ e b) (hp : plusOf a b = some c) (hb : bindN sc own x c ρ = some ρ') :
  Ex w d F sc ρ (exec (.AugAssign (.Name x px) .Add e pos) F.env) .next ρ' := fun A s V ad Q E R S k => by
 unfold bindN at hb
 split at hb
 ·rename_i hc; cases hb
  rw [Bool.and_eq_true] at hc
  obtain ⟨val, va, r⟩ := S.rd.vars x _ hx
  refine wpAny_AugAssign_Name (wp_load S.rd.fn va (he A s V ad _ E R S.rd fun y s₁ k₁ r₁ => plus_ok hp (k₁.rep r) r₁ fun z s₂ k₂ r₂ => ?_))
  exact wp_storeV (S.step (k₁.trans k₂)) hc.1 r₂ fun s' ad' S' T => k .next s' V ad' S' ((Ste.kp (k₁.trans k₂)).trans T) rfl
 ·cases hb

theorem Ex.while_ {c : Expr} {a : List Stmt} {test : Rho → Option PV} {body : Rho → Option (Fl × Rho)} {k₀ : Nat} (ht : ∀ ρ b, test ρ = some (.bool b) → Et w d sc F.env ρ c b) (hb : ∀ ρ fl ρ', body ρ = some (fl, ρ') → Ex w d F sc ρ (execs a F.env) fl ρ')
  (h : whileGo test body k₀ ρ = some (fl, ρ')) : Ex w d F sc ρ (exec (.While c a [] pos) F.env) fl ρ' := fun A s V ad Q E R S k => by
 refine wpAny_While (codeAny_whileLoop (fun n s' => ∃ ρc V' ad', St w F sc V' ad' ρc s' ∧ Ste V (Mut F ρ ad) s V' (Mut F ρc ad') s' ∧ whileGo test body n ρc = some (fl, ρ')) (fun n s' hI => ?_) k₀ ⟨ρ, V, ad, S, .refl V _ s, h⟩)
 obtain ⟨ρc, V', ad', S', T, hw⟩ := hI
 cases n with
 | zero => simp [whileGo] at hw
 | succ n =>
  unfold whileGo at hw
  simp only [Option.bind_eq_bind, Option.bind_eq_some_iff] at hw
  obtain ⟨v, h1, h2⟩ := hw
  split at h2
  ·cases h2
   refine ht _ _ h1 A s' V' ad' _ _ R S'.rd fun s₁ k₁ => ?_
   rw [if_neg (by decide)]
   exact wpAny_execs_nil (k .next s₁ V' ad' (S'.step k₁) (T.trans (.kp k₁)) rfl)
  ·simp only [Option.bind_eq_some_iff] at h2
   obtain ⟨⟨fl', ρ₂⟩, h3, h4⟩ := h2
   refine ht _ _ h1 A s' V' ad' _ _ R S'.rd fun s₁ k₁ => ?_
   rw [if_pos rfl]
   refine hb _ _ _ h3 A s₁ V' ad' _ _ R (S'.step k₁) fun f s₂ V₂ ad₂ S₂ T₂ fr => ?_
   have TT := (T.trans (.kp k₁)).trans T₂
   cases fl' with
   | next => cases fr; exact ⟨n, Nat.lt_succ_self n, ρ₂, V₂, ad₂, S₂, TT, h4⟩
   | cont => cases fr; exact ⟨n, Nat.lt_succ_self n, ρ₂, V₂, ad₂, S₂, TT, h4⟩
   | brk => cases fr; cases h4; exact k .next s₂ V₂ ad₂ S₂ TT rfl
   | ret r => obtain ⟨val, rfl, rr⟩ := fr; cases h4; exact k _ s₂ V₂ ad₂ S₂ TT ⟨val, rfl, rr⟩
  ·cases h2
end

theorem Ste.or {V V' : List Addr} {M M' : Addr → Prop} {s s' : Shared} (x : Ste V M s V' M' s') (I : Addr) : Ste V (fun b => M b ∨ b = I) s V' (fun b => M' b ∨ b = I) s' :=
 ⟨fun b o h e => x.chg b o (fun q => h (.inl q)) e, fun a h => h.elim (fun q => (x.grow a q).elim (fun r => .inl (.inl r)) .inr) fun q => .inl (.inr q), x.growV, x.sub, x.alive, x.gx⟩
theorem Ste.weak {V V' : List Addr} {M M' M'' : Addr → Prop} {s s' : Shared} (x : Ste V M s V' M' s') (h : ∀ b, M'' b → M' b) : Ste V M s V' M'' s' := ⟨x.chg, fun a q => x.grow a (h a q), x.growV, x.sub, x.alive, x.gx⟩

section
variable {w : World} {d : Nat} {F : Fm} {sc : Sc} {V : List Addr} {ad : Str → List Addr} {ρ ρ' : Rho} {s : Shared} {fl : Fl}

/-- something the frame keeps aside moves, that no name stands on -/
theorem St.side (S : St w F sc V ad ρ s) {a : Addr} {h' : Heap} {tk : Nat} (ha : a ∈ V) (hn : F.s₀.heap.get? a = none) (hm : ¬ Mut F ρ ad a) (hk : ∀ b o, b ≠ a → s.heap.get? b = some o → h'.get? b = some o) (hl : ∃ o, h'.get? a = some o) :
  St w F sc V ad ρ { s with heap := h', toks := tk } := by
 have K : Kp F.s₀ { s with heap := h', toks := tk } := S.kp.with fun b o e => hk b o (fun q => by rw [q, hn] at e; cases e) (S.kp.keep b o e)
 have nL : F.env.locals ≠ a := fun q => hm (.inl q.symm)
 have nC : ∀ y c, F.env.cells.lookup y = some c → c ≠ a := fun y c h q => hm (.inr (.inl ⟨y, q ▸ h⟩))
 refine { S with rd := ?_, kp := K, ns := ?_, cells := fun x c h => ⟨?_, (S.cells x c h).2⟩ }
 ·refine { S.rd with kin := S.kin₀.keeps K.keep, low := fun x hx => ?_, vars := fun y sl hy => (S.rd.vars y sl hy).map fun val va sr => ⟨?_, sr.mono (fun z o hz e => hk z o (fun q => hz (q ▸ ha)) e) (fun z hz => .inl hz) fun ho b hb o e => hk b o (fun q => hm (.inr (.inr ⟨y, sl, hy, ho, q ▸ hb⟩))) e⟩ }
  ·by_cases hx' : x = a
   ·subst hx'; exact hl
   ·obtain ⟨o, e⟩ := S.rd.low x hx; exact ⟨o, hk x o hx' e⟩
  ·rcases va with ⟨k, m, nn, e⟩ | ⟨k, c, e, z⟩
   ·exact .inl ⟨k, m, nn.at' fun o e => hk _ o nL e, e⟩
   ·obtain ⟨o, e', d'⟩ := z
    exact .inr ⟨k, c, e, o, hk c o (nC y c e) e', d'⟩
 ·obtain ⟨m, nn⟩ := S.ns; exact ⟨m, nn.at' fun o e => hk _ o nL e⟩
 ·obtain ⟨v, o, e, d'⟩ := (S.cells x c h).1
  exact ⟨v, o, hk c o (nC x c h) e, d'⟩

/-- what was kept aside is let go -/
theorem St.drop (S : St w F sc V ad ρ s) {a : Addr} {h' : Heap} {tk : Nat} (hn : F.s₀.heap.get? a = none) (hm : ¬ Mut F ρ ad a) (hav : a ∈ V) (hk : ∀ b o, b ≠ a → s.heap.get? b = some o → h'.get? b = some o) :
  St w F sc (V.filter (· ≠ a)) ad ρ { s with heap := h', toks := tk } := by
 have K : Kp F.s₀ { s with heap := h', toks := tk } := S.kp.with fun b o e => hk b o (fun q => by rw [q, hn] at e; cases e) (S.kp.keep b o e)
 have nL : F.env.locals ≠ a := fun q => hm (.inl q.symm)
 have nC : ∀ y c, F.env.cells.lookup y = some c → c ≠ a := fun y c h q => hm (.inr (.inl ⟨y, q ▸ h⟩))
 have mem : ∀ {x}, x ∈ V → x ≠ a → x ∈ V.filter (· ≠ a) := fun h1 h2 => List.mem_filter.mpr ⟨h1, by simpa using h2⟩
 have back : ∀ {x}, x ∈ V.filter (· ≠ a) → x ∈ V ∧ x ≠ a := fun h => by simpa using List.mem_filter.mp h
 refine { S with rd := ?_, kp := K, ns := ?_, cells := fun x c h => ⟨?_, (S.cells x c h).2⟩, v0 := fun b hb => mem (S.v0 b hb) (fun q => ?_), vL := mem S.vL nL, vC := fun x c h => mem (S.vC x c h) (nC x c h), vV := fun b hb => S.vV b (back hb).1, vO := fun x b h => ?_ }
 ·refine { S.rd with kin := S.kin₀.keeps K.keep, low := fun x hx => ?_, vars := fun y sl hy => (S.rd.vars y sl hy).map fun val va sr => ⟨?_, sr.mono (fun z o hz e => hk z o (fun q => hz (q ▸ hav)) e) (fun z hz => .inl (back hz).1) fun ho b hb o e => hk b o (fun q => hm (.inr (.inr ⟨y, sl, hy, ho, q ▸ hb⟩))) e⟩ }
  ·obtain ⟨o, e⟩ := S.rd.low x (back hx).1; exact ⟨o, hk x o (back hx).2 e⟩
  ·rcases va with ⟨k, m, nn, e⟩ | ⟨k, c, e, z⟩
   ·exact .inl ⟨k, m, nn.at' fun o e => hk _ o nL e, e⟩
   ·obtain ⟨o, e', d'⟩ := z
    exact .inr ⟨k, c, e, o, hk c o (nC y c e) e', d'⟩
 ·obtain ⟨m, nn⟩ := S.ns; exact ⟨m, nn.at' fun o e => hk _ o nL e⟩
 ·obtain ⟨v, o, e, d'⟩ := (S.cells x c h).1
  exact ⟨v, o, hk c o (nC x c h) e, d'⟩
 ·subst q
  obtain ⟨o, e⟩ := S.low₀ b hb
  rw [hn] at e; cases e
 ·obtain ⟨h1, h2⟩ := S.vO x b h
  exact ⟨mem h1 (fun q => hm (.inr (.inr ⟨x, q ▸ h⟩))), h2⟩

theorem go_bind {own : List (Str × Bool)} {t : Expr} {v : PV} {A : Around} {I : Addr} {val : Value} {h : Heap} {s : Shared} {Q : Unit → Shared → Prop} {E : Value → Shared → Prop} (hb : bindT sc own t v ρ = some ρ') (r : Rep V h v val)
  (hg : ∀ (elts : List Expr) (k : Nat) (p : Pos) (T : Addr), wpAny (model pw w) A (letOwnedTupleGo (.Tuple elts k p) (.ref I) (.ref T)) Q E s) (hQ : Q () s) : wpAny (model pw w) A (letOwnedTupleGo t (.ref I) val) Q E s := by
 unfold bindT at hb
 split at hb
 ·exact wpAny_pure hQ
 ·obtain ⟨a, xs, n, rfl, _⟩ := r.tup_inv; exact hg _ _ _ _
 ·obtain ⟨a, xs, n, rfl, _⟩ := r.lst_inv; exact hg _ _ _ _
 ·cases hb

/-- a loop over an iterator that has all its items -/
theorem for_loop {own : List (Str × Bool)} {t : Expr} {a : List Stmt} {body : Rho → Option (Fl × Rho)} {vs : List PV} {I : Addr} {fp : List Addr} {P : Nat → Value → Prop} {Sti : Nat → Heap → Prop} {xv : Value} {s₁ s₂ : Shared} {A : Around} {R : Result → Shared → Prop}
  (hb : ∀ ρ fl ρ', body ρ = some (fl, ρ') → Ex w d F sc ρ (execs a F.env) fl ρ') (hR : Room d A) (h : forGo body (bindT sc own t) vs ρ = some (fl, ρ')) (W : ItW w V s₁.heap I vs s₂ fp P Sti xv)
  (S : St w F sc V ad ρ s₁) (k₂ : Kp s₁ s₂) (hx : ∀ b, xv = .ref b → b ∉ V)
  (k : ∀ f s' V' ad', St w F sc V' ad' ρ' s' → Ste V (Mut F ρ ad) s₁ V' (Mut F ρ' ad') s' → FlRep F.V₀ s'.heap fl f → R (.ok f) s') :
  codeAny (model pw w) A (.forLoop t (.ref I) a [] F.env) R s₂ := by
 have WW := W.walks A hR.h
 have hIf : I ∈ fp := WW.sub I (by simp)
 obtain ⟨oI, eI⟩ := W.lives 0 _ W.st
 have nI₀ : F.s₀.heap.get? I = none := new_of S.kp.keep W.fresh
 have hIV : I ∉ V := S.rd.low.not_mem W.fresh
 obtain ⟨S₂, T₂⟩ := S.more k₂ W.fresh ⟨oI, eI⟩
 have T₂ := T₂ (Mut F ρ ad)
 refine codeAny_forLoop_any (fun n s' => ∃ (i : Nat) (ρc : Rho) (V' : List Addr) (ad' : Str → List Addr), n = vs.length + 1 - i ∧ i ≤ vs.length ∧ St w F sc V' ad' ρc s' ∧ Ste (I :: V) (fun b => Mut F ρ ad b ∨ b = I) s₂ V' (fun b => Mut F ρc ad' b ∨ b = I) s' ∧ Sti i s'.heap ∧
  ¬ Mut F ρc ad' I ∧ forGo body (bindT sc own t) (vs.drop i) ρc = some (fl, ρ')) (fun n s' hI => ?_) (vs.length + 1)
  ⟨0, ρ, I :: V, ad, rfl, Nat.zero_le _, S₂, .refl _ _ _, W.st, fun hm => hIV (S.mut I hm), by simpa using h⟩
 obtain ⟨i, ρc, V', ad', rfl, hi, S', T', hst, hmI, hgo⟩ := hI
 have hIV' : I ∈ V' := T'.sub I List.mem_cons_self
 have hfp : ∀ b ∈ fp, ¬ Mut F ρc ad' b := fun b hb hm => by
  rcases T'.grow b (.inl hm) with (q | q) | q
  ·rcases W.src b hb with e | e
   ·subst e; exact hmI hm
   ·exact hx b e (S.mut b q)
  ·subst q; exact hmI hm
  ·obtain ⟨o, e⟩ := W.alive b hb; rw [q] at e; cases e
 by_cases hlt : i < vs.length
 ·have hd : vs.drop i = vs[i] :: vs.drop (i + 1) := by rw [List.drop_eq_getElem_cons hlt]
  rw [hd] at hgo
  unfold forGo at hgo
  simp only [Option.bind_eq_bind, Option.bind_eq_some_iff] at hgo
  obtain ⟨ρ₁, hbind, ⟨fl', ρ₂⟩, hbody, hrest⟩ := hgo
  refine WW.item i s' _ _ hlt hst fun v h' tk hPv hst' hk' => ?_
  have hk'' : ∀ b o, b ≠ I → s'.heap.get? b = some o → h'.get? b = some o := fun b o hb e => hk' b o (by simpa using hb) e
  have S₃ : St w F sc V' ad' ρc { s' with heap := h', toks := tk } := S'.side hIV' nI₀ hmI hk'' (W.lives _ _ hst')
  have T₃ : Ste V' (fun b => Mut F ρc ad' b ∨ b = I) s' V' (fun b => Mut F ρc ad' b ∨ b = I) { s' with heap := h', toks := tk } := ⟨fun b o hb e => hk'' b o (fun q => hb (.inr q)) e, fun _ h => .inl h, fun _ h => .inl h, fun _ h => h, fun b o e => by
   by_cases hb : b = I
   ·subst hb; exact W.lives _ _ hst'
   ·exact ⟨o, hk'' b o hb e⟩, .refl _⟩
  obtain ⟨pv, hpv, hrv⟩ := W.items i v hlt hPv
  have : pv = vs[i] := by rw [List.getElem?_eq_getElem hlt] at hpv; cases hpv; rfl
  subst this
  have rv : Rep V' { s' with heap := h', toks := tk }.heap vs[i] v := by
   have r2 : Rep (I :: V) s₂.heap vs[i] v := hrv.mono (fun y o _ e => k₂.keep y o e) fun y hy => by
    rcases List.mem_cons.mp hy with rfl | hy
    ·exact .inr W.fresh
    ·exact .inl hy
   exact (T'.trans T₃).rep (fun b hb => hb.elim (fun q => List.mem_cons_of_mem _ (S.mut b q)) fun q => by rw [q]; exact List.mem_cons_self) r2
  refine go_bind hbind rv (fun elts k p T => W.go (i + 1) _ A elts k p T _ _ hst' ?_) ?_
  all_goals
   refine (bindT_ok (w := w) (F := F) t hbind).2 A _ V' ad' v _ _ hR.h S₃ rv fun s₄ ad₄ S₄ T₄ => ?_
   have hmI₄ : ¬ Mut F ρ₁ ad₄ I := fun hm => by
    rcases T₄.grow I hm with q | q
    ·exact hmI q
    ·obtain ⟨o, e⟩ := W.lives _ _ hst'; rw [show ({ s' with heap := h', toks := tk } : Shared).heap.get? I = some o from e] at q; cases q
   have st₄ : Sti (i + 1) s₄.heap := WW.frame _ _ _ hst' fun b hb o e => T₄.chg b o (hfp b hb) e
   refine hb _ _ _ hbody A s₄ V' ad₄ _ _ hR S₄ fun f s₅ V₅ ad₅ S₅ T₅ fr => ?_
   have al₄ : ∀ b ∈ fp, ∃ o, s₄.heap.get? b = some o := fun b hb => by
    obtain ⟨o, e⟩ := W.alive b hb
    exact ((T'.trans T₃).trans (T₄.or I)).alive b o e
   have hfp₄ : ∀ b ∈ fp, ¬ Mut F ρ₁ ad₄ b := fun b hb hm => by
    rcases T₄.grow b hm with q | q
    ·exact hfp b hb q
    ·obtain ⟨o, e⟩ := (T'.trans T₃).alive b _ (W.alive b hb).choose_spec; rw [q] at e; cases e
   have hmI₅ : ¬ Mut F ρ₂ ad₅ I := fun hm => by
    rcases T₅.grow I hm with q | q
    ·exact hmI₄ q
    ·obtain ⟨o, e⟩ := al₄ I hIf; rw [q] at e; cases e
   have st₅ : Sti (i + 1) s₅.heap := WW.frame _ _ _ st₄ fun b hb o e => T₅.chg b o (hfp₄ b hb) e
   have TT := ((T'.trans T₃).trans (T₄.or I)).trans (T₅.or I)
   have TF : ∀ ρx adx, ρx = ρ₂ → adx = ad₅ → Ste V (Mut F ρ ad) s₁ V₅ (Mut F ρx adx) s₅ := fun ρx adx e1 e2 => by
    subst e1 e2
    exact (T₂.trans TT).weak fun b hb => .inl hb
   cases fl' with
   | next => cases fr; exact ⟨vs.length + 1 - (i + 1), by omega, i + 1, ρ₂, V₅, ad₅, rfl, hlt, S₅, TT, st₅, hmI₅, hrest⟩
   | cont => cases fr; exact ⟨vs.length + 1 - (i + 1), by omega, i + 1, ρ₂, V₅, ad₅, rfl, hlt, S₅, TT, st₅, hmI₅, hrest⟩
   | brk => cases fr; cases hrest; exact k .next s₅ V₅ ad₅ S₅ (TF _ _ rfl rfl) rfl
   | ret r => obtain ⟨val, rfl, rr⟩ := fr; cases hrest; exact k _ s₅ V₅ ad₅ S₅ (TF _ _ rfl rfl) ⟨val, rfl, rr⟩
 ·have hin : i = vs.length := by omega
  subst hin
  rw [List.drop_length] at hgo
  cases hgo
  refine WW.done s' _ _ hst fun h' tk hk' => ?_
  have hk'' : ∀ b o, b ≠ I → s'.heap.get? b = some o → h'.get? b = some o := fun b o hb e => hk' b o (by simpa using hb) e
  refine wpAny_execs_nil (k .next _ (V'.filter (· ≠ I)) ad' (S'.drop (tk := tk) nI₀ hmI hIV' hk'') ?_ rfl)
  have TT := T₂.trans T'
  have ne : ∀ b o, s₁.heap.get? b = some o → b ≠ I := fun b o e q => by rw [q, W.fresh] at e; cases e
  refine ⟨fun b o hb e => hk'' b o (ne b o e) (TT.chg b o hb e), fun b hb => TT.grow b (.inl hb), fun b hb => ?_, fun b hb => ?_, fun b o e => ?_, TT.gx⟩
  ·have : b ∈ V' ∧ b ≠ I := by simpa using List.mem_filter.mp hb
   exact TT.growV b this.1
  ·refine List.mem_filter.mpr ⟨TT.sub b hb, ?_⟩
   simp only [ne_eq, decide_eq_true_eq]
   exact fun q => hIV (q ▸ hb)
  ·obtain ⟨o', e'⟩ := TT.alive b o e
   exact ⟨o', hk'' b o' (ne b o e) e'⟩
end

section
variable {w : World} {d : Nat} {F : Fm} {sc : Sc} {ρ ρ' : Rho} {fl : Fl} {e : Expr} {pos : Pos}

theorem Ex.for_ {own : List (Str × Bool)} {t : Expr} {a : List Stmt} {body : Rho → Option (Fl × Rho)} {v : PV} {vs : List PV} (hset : ∀ x, foldedSetIterable e F.env x = pure x) (he : Ev w d sc .v F.env ρ e v) (hi : itemsOf v = some vs)
  (hb : ∀ ρ fl ρ', body ρ = some (fl, ρ') → Ex w d F sc ρ (execs a F.env) fl ρ') (h : forGo body (bindT sc own t) vs ρ = some (fl, ρ')) : Ex w d F sc ρ (exec (.For t e a [] pos) F.env) fl ρ' := fun A s V ad Q E R S k => by
 refine wpAny_For (he A s V ad _ E R S.rd fun xv s₁ k₁ r₁ => items_ok (V := V) hi (.inl r₁) _ E fun I fp P Sti s₂ k₂ W => ?_) hset
 refine for_loop (V := V) hb R h W (S.step k₁) k₂ (fun b hx => ?_) fun f s' V' ad' S' T fr => k f s' V' ad' S' ((Ste.kp k₁).trans T) fr
 subst hx
 have r₁ : Rep V s₁.heap v (.ref b) := r₁
 cases r₁ with
 | tup h => exact h
 | lst h => exact h
 | ws h => exact h
 | arg h => exact h

theorem Ex.asg3 {own : List (Str × Bool)} {x y z : Str} {px py pz : Pos} {v : PV} (he : Ev w d sc .v F.env ρ e v) (hw : swappedStores [.Name x px, .Name y py, .Name z pz] e F.env = pure none)
  (h : ((bindN sc own x v ρ).bind fun ρ => (bindN sc own y v ρ).bind fun ρ => bindN sc own z v ρ) = some ρ') : Ex w d F sc ρ (exec (.Assign [.Name x px, .Name y py, .Name z pz] e pos) F.env) .next ρ' := fun A s V ad Q E R S k => by
 simp only [Option.bind_eq_some_iff] at h
 obtain ⟨ρ₁, h1, ρ₂, h2, h3⟩ := h
 have b : ∀ {x : Str} {p : Pos} {ρ ρ' : Rho}, bindN sc own x v ρ = some ρ' → bindT sc own (.Name x p) v ρ = some ρ' := fun h => by unfold bindT; exact h
 refine wpAny_Assign_three (he A s V ad _ E R S.rd fun val s₁ k₁ r₁ => ?_) rfl hw
 have S₁ := S.step k₁
 refine (bindT_ok (w := w) (F := F) _ (b h1)).2 A s₁ V ad val _ E R.h S₁ r₁ fun s₂ ad₂ S₂ T₂ => ?_
 have r₂ := T₂.rep S₁.mut r₁
 refine (bindT_ok (w := w) (F := F) _ (b h2)).2 A s₂ V ad₂ val _ E R.h S₂ r₂ fun s₃ ad₃ S₃ T₃ => ?_
 have r₃ := T₃.rep S₂.mut r₂
 refine (bindT_ok (w := w) (F := F) _ (b h3)).2 A s₃ V ad₃ val _ E R.h S₃ r₃ fun s₄ ad₄ S₄ T₄ => ?_
 exact k .next s₄ V ad₄ S₄ ((Ste.kp k₁).trans (T₂.trans (T₃.trans T₄))) rfl

theorem Ex.tuple {own : List (Str × Bool)} {ts : List Expr} {kk : Nat} {tp : Pos} {v : PV} (he : Ev w d sc .v F.env ρ e v) (hs : swapsWithSole [.Tuple ts kk tp] e pos.line F.env = pure false) (hw : swappedStores [.Tuple ts kk tp] e F.env = pure none)
  (h : bindT sc own (.Tuple ts kk tp) v ρ = some ρ') : Ex w d F sc ρ (exec (.Assign [.Tuple ts kk tp] e pos) F.env) .next ρ' := fun A s V ad Q E R S k =>
 Assign_Tuple (he A s V ad _ E R S.rd fun val s₁ k₁ r₁ => (bindT_ok (w := w) (F := F) _ h).2 A s₁ V ad val _ E R.h (S.step k₁) r₁ fun s₂ ad₂ S₂ T₂ => k .next s₂ V ad₂ S₂ ((Ste.kp k₁).trans T₂) rfl) hs hw

theorem bindNs_ok {own : List (Str × Bool)} : ∀ (xs : List Str) {vs : List PV} {ρ ρ' : Rho}, bindNs own sc xs vs ρ = some ρ' → ∀ (A : Around) (s : Shared) (V : List Addr) (ad : Str → List Addr) (ys : List Value) (Q : Unit → Shared → Prop) (E : Value → Shared → Prop), St w F sc V ad ρ s → Reps V s.heap vs ys →
  (∀ s' ad', St w F sc V ad' ρ' s' → Ste V (Mut F ρ ad) s V (Mut F ρ' ad') s' → Q () s') → wpAny (model pw w) A (assignInOrder (xs.map fun n => bindName F.env n) ys) Q E s
 | [], vs, ρ, ρ', h, A, s, V, ad, ys, Q, E, S, r, k => by
  cases vs with
  | nil => simp [bindNs] at h; subst h; cases r; exact wpAny_pure (k s ad S (.refl _ _ _))
  | cons _ _ => simp [bindNs] at h
 | x :: xs, vs, ρ, ρ', h, A, s, V, ad, ys, Q, E, S, r, k => by
  cases vs with
  | nil => simp [bindNs] at h
  | cons v vs =>
   simp only [bindNs, Option.bind_eq_some_iff] at h
   obtain ⟨ρ₁, h1, h2⟩ := h
   cases r with
   | cons r rs =>
    unfold bindN at h1
    split at h1
    ·rename_i hc; cases h1
     rw [Bool.and_eq_true] at hc
     show wpAny (model pw w) A (do holding _ (bindName F.env x _); assignInOrder _ _) Q E s
     refine wpAny_bind (wpAny_holding (wpAny_bindName (wp_storeV S hc.1 r fun s₁ ad₁ S₁ T₁ => ?_)))
     exact bindNs_ok xs h2 A s₁ V ad₁ _ Q E S₁ (T₁.reps S.mut rs) fun s₂ ad₂ S₂ T₂ => k s₂ ad₂ S₂ (T₁.trans T₂)
    ·cases h1

theorem Ex.swapped {own : List (Str × Bool)} {ts : List Expr} {kk : Nat} {tp : Pos} {vs : List PV} {names : List Str} (he : Ev w d sc .v F.env ρ e (.tup vs)) (hs : swapsWithSole [.Tuple ts kk tp] e pos.line F.env = pure false) (hw : swappedStores [.Tuple ts kk tp] e F.env = pure (some names))
  (hl : vs.length = names.length) (h : bindNs own sc names.reverse vs.reverse ρ = some ρ') : Ex w d F sc ρ (exec (.Assign [.Tuple ts kk tp] e pos) F.env) .next ρ' := fun A s V ad Q E R S k =>
 Assign_Tuple_swapped (he A s V ad _ E R S.rd fun val s₁ k₁ r₁ => by
  obtain ⟨a, xs, n, rfl, _, g, rs⟩ := (r₁ : Rep V s₁.heap (.tup vs) val).tup_inv
  have e1 := rs.length
  have hn : names.length = xs.toArray.size := by simpa [e1] using hl.symm
  rw [hn]
  refine wpAny_unpackItems_tuple R.h ⟨_, g, rfl, n, rfl⟩ fun h' hx => ?_
  have up : ∀ b o, s₁.heap.get? b = some o → h'.get? b = some o := fun b o e => hx b o (Nat.ne_of_lt (Heap.lt_size e)) e
  have k₂ : Kp s₁ { s₁ with heap := h' } := Kp.grow (t := s₁.toks) up
  exact bindNs_ok _ h A _ V ad _ _ E (S.step (k₁.trans k₂)) (by simpa using (rs.keeps up).reverse) fun s₃ ad₃ S₃ T₃ => k .next s₃ V ad₃ S₃ ((Ste.kp (k₁.trans k₂)).trans T₃) rfl) hs hw

theorem swapOf_ok {env : Env} {ts : List Expr} {kk : Nat} {tp : Pos} {r : Option (List Str)} (hk : env.scope.kind = .function) (hn : env.scope.names = sc) (h : swapOf sc ts e = some r) : swappedStores [.Tuple ts kk tp] e env = pure r := by
 subst hn
 have hb : env.blockKind = .function := by unfold Env.blockKind; rw [hk]; rfl
 have hne : (env.blockKind != .function) = false := by rw [hb]; rfl
 unfold swapOf at h
 split at h
 ·rename_i vs k2 p2
  unfold swappedStores
  dsimp only
  rw [hne, Bool.or_false]
  split at h
  ·rename_i hc; cases h
   exact if_pos hc
  ·rename_i hc
   refine (if_neg hc).trans ?_
   split at h
   ·rename_i hc2; cases h
    exact if_pos hc2
   ·rename_i hc2
    refine (if_neg hc2).trans ?_
    dsimp only at h
    split at h
    ·rename_i hc3; cases h
     exact if_pos hc3
    ·rename_i hc3
     refine (if_neg hc3).trans ?_
     split at h
     ·rename_i hc4; cases h
      exact if_pos hc4
     ·rename_i hc4
      refine (if_neg hc4).trans ?_
      split at h
      ·cases h
      ·rename_i hc5; cases h
       exact if_neg hc5
 ·cases h
  cases e <;> first | rfl | (exfalso; rename_i hx; exact hx _ _ _ rfl)
end

/-- a store into a list, told by the very object that it leaves -/
theorem wp_setItem {w : World} {A : Around} {s : Shared} {E : Value → Shared → Prop} {l : Addr} {items : Array Value} {n : Nat} {k : Int} {t : Tok} {v : Value} {Q : Unit → Shared → Prop} (g : s.heap.get? l = some (lobj items n))
  (h0 : 0 ≤ k) (hfit : k < 2 ^ 63) (hn : k < items.size)
  (hQ : Q () { s with heap := s.heap.update l (Obj.mapSeq (·.setIfInBounds k.toNat v)) }) :
  wpAny (model pw w) A (setItem (.ref l) (.int k t) v) Q E s := by
 have hl : s.heap.IsList l items := ⟨_, g, rfl, n, rfl⟩
 unfold setItem
 try with_reducible refine wpAny_holding ?_
 first | refine wpAny_bind (wpAny_pure ?_) | skip
 refine wpAny_bind (wpAny_sequenceKey hl.typeIs (by decide) ?_)
 refine wpAny_bind (wpAny_callSpecial?_slot (name := Str.ofString "__setitem__") hl.typeIs PySem.F.slot_list_setitem
  (wpAny_call_entry PySem.F.slot_list_setitem hl.typeIs PySem.F.entry_list_setitem ?_ (PySem.F.args_list_setitem_3 _ _ _)))
 show wpAny _ _ (Builtin.List.listSubscript? (.int k t) >>= _) _ _ s
 refine wpAny_bind (wpAny_listSubscript_int (fitsIndex_of h0 hfit) ?_)
 clear hfit
 obtain ⟨j, rfl⟩ := Int.eq_ofNat_of_zero_le h0
 have hj : j < items.size := by omega
 have hx' : items[j]? = some items[j] := Array.getElem?_eq_getElem hj
 show wpAny _ _ ((seqItemAt l j >>= fun r => pure (r.map (j, ·))) >>= _) _ _ s
 refine wpAny_bind (wpAny_bind (wpAny_seqItemAt g rfl (wpAny_pure ?_)))
 rw [hx']
 show wpAny _ _ (setSeqItemAt l j v >>= _) _ _ s
 refine wpAny_bind (wpAny_setSeqItemAt g rfl ?_)
 first
  | exact wpAny_bind (wpAny_pure (wpAny_pure ⟨.none, rfl, wpAny_pure hQ⟩))
  | exact wpAny_pure ⟨.none, rfl, wpAny_pure hQ⟩

theorem reps_set {V : List Addr} {h : Heap} {v : PV} {x : Value} (r : Rep V h v x) : ∀ {vs : List PV} {xs : List Value} (k : Nat), Reps V h vs xs → Reps V h (vs.set k v) (xs.set k x)
 | _, _, _, .nil => by simpa using Reps.nil
 | _, _, 0, .cons q qs => .cons r qs
 | _, _, k + 1, .cons q qs => .cons q (reps_set r k qs)

section
variable {w : World} {d : Nat} {F : Fm} {sc : Sc} {ρ ρ' : Rho} {fl : Fl} {e : Expr} {pos : Pos}

theorem setAt_some {vs vs' : List PV} {i : Int} {v : PV} (h : setAt vs i v = some vs') (h0 : 0 ≤ i) : i < vs.length ∧ i < 2 ^ 62 ∧ vs' = vs.set i.toNat v := by
 unfold setAt at h
 split at h
 ·rename_i hi
  rw [Bool.and_eq_true] at hi
  have hi := hi.1
  rw [Option.map_eq_some_iff] at h
  obtain ⟨k, hk, rfl⟩ := h
  obtain ⟨h1, rfl⟩ := seqIndex_pos' (by omega) hk
  exact ⟨h1, (intOk_lt hi).2, rfl⟩
 ·cases h

theorem setAt_nonneg {vs vs' : List PV} {i : Int} {v : PV} (h : setAt vs i v = some vs') : 0 ≤ i := by
 unfold setAt at h
 split at h
 ·rename_i hi
  rw [Bool.and_eq_true] at hi
  simpa using hi.2
 ·cases h

theorem Ex.asgItem {x : Str} {px tp : Pos} {k : Expr} {vs vs' : List PV} {i : Int} {v : PV} (hx : ρ.lookup x = some (.o vs)) (hd : (x == ("__debug__" : Str)) = false) (he : Ev w d sc .v F.env ρ e v) (hk : Ev w d sc .v F.env ρ k (.int i)) (h0 : 0 ≤ i) (h : setAt vs i v = some vs')
  (hsw : swapsWith e (some (.Subscript (.Name x px) k tp)) pos.line F.env = pure false) : Ex w d F sc ρ (exec (.Assign [.Subscript (.Name x px) k tp] e pos) F.env) .next (ρ.put x (.o vs')) := fun A s V ad Q E R S kk => by
 obtain ⟨h1, h2, rfl⟩ := setAt_some h h0
 refine wpAny_Assign_Subscript (he A s V ad _ E R S.rd fun val s₁ k₁ r₁ => ?_) hsw
 have S₁ := S.step k₁
 obtain ⟨a, xs, n, ha, va, g, r, hV, hn⟩ := S₁.list hx
 refine wp_name S₁.rd.fn va (hk A s₁ V ad _ E R S₁.rd fun iv s₂ k₂ r₂ => ?_) hd
 have S₂ := S₁.step k₂
 obtain ⟨t, rfl⟩ := (r₂ : Rep V s₂.heap (.int i) iv).int_inv
 have e1 := r.length
 simp only [Array.length_toList] at e1
 have g₂ := k₂.keep _ _ g
 refine wp_setItem g₂ h0 (by omega) (by omega) ?_
 obtain ⟨S₃, T₃⟩ := S₂.setList (vs' := vs.set i.toNat v) (tk := s₂.toks) hx ha g₂ (Heap.SameBut.update ..) (IsL.update g₂ (·.setIfInBounds i.toNat val)) (by
  rw [Array.toList_setIfInBounds]
  exact reps_set (k₂.rep r₁) _ (r.keeps k₂.keep))
 exact kk .next _ V ad S₃ ((Ste.kp (k₁.trans k₂)).trans T₃) rfl
end

/-- a run of a list, stored anew -/
theorem wp_setSlice {w : World} {A : Around} {s : Shared} {E : Value → Shared → Prop} {l b sl : Addr} {xs ys : Array Value} {n m : Nat} {lo hi : Int} {t u : Tok} {Q : Unit → Shared → Prop} (g : s.heap.get? l = some (lobj xs n)) (gb : s.heap.get? b = some (lobj ys m))
  (hs : s.heap.get? sl = some { cls := .type "slice", data := .fields #[.int lo t, .int hi u, .none] }) (hne : l ≠ b) (h0 : 0 ≤ lo) (h1 : lo ≤ hi) (h2 : hi ≤ xs.size) (hz : xs.size + ys.size ≤ 16000000)
  (hQ : Q () { s with heap := s.heap.update l (Obj.mapSeq fun xs => xs.extract 0 lo.toNat ++ ys ++ xs.extract hi.toNat xs.size) }) :
  wpAny (model pw w) A (setItem (.ref l) (.ref sl) (.ref b)) Q E s := by
 have hl : s.heap.IsList l xs := ⟨_, g, rfl, n, rfl⟩
 have hTs : s.TypeIs (.ref sl) "slice" := ⟨_, hs, rfl⟩
 unfold setItem
 try with_reducible refine wpAny_holding ?_
 first | refine wpAny_bind (wpAny_pure ?_) | skip
 refine wpAny_bind (wpAny_sequenceKey hl.typeIs (by decide) ?_)
 refine wpAny_bind (wpAny_callSpecial?_slot (name := Str.ofString "__setitem__") hl.typeIs PySem.F.slot_list_setitem
  (wpAny_call_entry PySem.F.slot_list_setitem hl.typeIs PySem.F.entry_list_setitem ?_ (PySem.F.args_list_setitem_3 _ _ _)))
 show wpAny _ _ (Builtin.List.listSubscript? (.ref sl) >>= _) _ _ s
 refine wpAny_bind ?_
 unfold Builtin.List.listSubscript?
 refine wpAny_bind (wpAny_specialOf hTs slice_no_index ?_)
 simp only [Option.isNone_none, if_true]
 refine wpAny_pure ?_
 show wpAny _ _ (typeOf (.ref sl) >>= _) _ _ s
 refine wpAny_bind (wpAny_typeOf hTs ?_)
 rw [if_neg (by decide)]
 rw [listSliceParts_eq]
 refine wpAny_bind (wpAny_bind (wpAny_field hs rfl (x := .none) rfl (wpAny_bind (wpAny_listPart .none ?_))))
 rw [if_neg (by decide)]
 refine wpAny_bind (wpAny_field hs rfl (x := .int lo t) rfl (wpAny_bind (wpAny_listPart (.int lo t) ?_)))
 refine wpAny_bind (wpAny_field hs rfl (x := .int hi u) rfl (wpAny_bind (wpAny_listPart (.int hi u) (wpAny_pure ?_))))
 have hsame : Builtin.List.listSameRef (.ref l) (.ref b) = false := by simpa [Builtin.List.listSameRef] using hne
 rw [hsame, if_neg (by decide)]
 refine wpAny_bind ?_
 unfold Builtin.List.listAllItems
 refine wpAny_bind (wpAny_typeOf ⟨_, gb, rfl⟩ ?_)
 rw [if_pos (by decide)]
 refine wpAny_bind ?_
 unfold Builtin.List.listItems
 refine wpAny_seqItems gb rfl (wpAny_pure ?_)
 refine wpAny_bind (wpAny_bind (wpAny_seqItems g rfl (wpAny_pure ?_)))
 refine wpAny_bind (wpAny_of_eq (sliceIndices_raw (some lo) (some hi) none xs.size (by simp)) ?_)
 have hb : sliceBounds (some lo) (some hi) none xs.size = (lo, hi, 1) := by
  rw [sliceBounds_plain]
  have e1 : ((clipAt xs.size lo : Nat) : Int) = lo := by rw [clipAt_cast, if_neg (by omega)]; omega
  have e2 : ((clipAt xs.size hi : Nat) : Int) = hi := by rw [clipAt_cast, if_neg (by omega)]; omega
  simp only [Option.elim_some, e1, e2]
 rw [hb]
 dsimp only
 rw [if_pos (by decide)]
 refine wpAny_bind (wpAny_rule ?_)
 rw [if_neg (by simp [Builtin.List.listTooLong, sizeLine_eq]; omega)]
 have hmax : (max lo hi).toNat = hi.toNat := by omega
 rw [hmax]
 refine wpAny_bind (wpAny_updateSeq g rfl ?_ (by rw [sizeLine_eq]; omega) (by rw [sizeLine_eq]; simp only [Array.size_append, Array.size_extract]; omega))
 refine wpAny_bind (wpAny_letGo ?_)
 exact wpAny_pure ⟨.none, rfl, wpAny_pure hQ⟩

section
variable {w : World} {d : Nat} {F : Fm} {sc : Sc} {ρ ρ' : Rho} {fl : Fl} {e : Expr} {pos : Pos}

theorem reps_splice {V : List Addr} {h : Heap} {vs ws : List PV} {xs ys : List Value} (r : Reps V h vs xs) (q : Reps V h ws ys) (a b : Nat) : Reps V h (vs.take a ++ ws ++ vs.drop b) (xs.take a ++ ys ++ xs.drop b) := ((r.take a).append q).append (r.drop b)

theorem Ex.asgSlice {x : Str} {px sp tp : Pos} {lo hi : Expr} {vs ws : List PV} {l h : Int} (hx : ρ.lookup x = some (.o vs)) (hd : (x == ("__debug__" : Str)) = false) (he : Ev w d sc .v F.env ρ e (.lst ws)) (hlo : Ev w d sc .v F.env ρ lo (.int l)) (hhi : Ev w d sc .v F.env ρ hi (.int h))
  (h0 : 0 ≤ l) (h1 : l ≤ h) (h2 : h ≤ vs.length) (hz : vs.length + ws.length ≤ 16000000)
  (hsw : swapsWith e (some (.Subscript (.Name x px) (.Slice (some lo) (some hi) none sp) tp)) pos.line F.env = pure false) :
  Ex w d F sc ρ (exec (.Assign [.Subscript (.Name x px) (.Slice (some lo) (some hi) none sp) tp] e pos) F.env) .next (ρ.put x (.o (vs.take l.toNat ++ ws ++ vs.drop h.toNat))) := fun A s V ad Q E R S kk => by
 refine wpAny_Assign_Subscript (he A s V ad _ E R S.rd fun val s₁ k₁ r₁ => ?_) hsw
 have S₁ := S.step k₁
 obtain ⟨a, xs, n, ha, va, g, r, hV, hn⟩ := S₁.list hx
 obtain ⟨b, ys, m, rfl, hbV, gb, rb⟩ := (r₁ : Rep V s₁.heap (.lst ws) val).lst_inv
 refine wp_name S₁.rd.fn va (wpAny_Slice ?_) hd
 rw [evalPart_some, evalPart_some]
 refine hlo A s₁ V ad _ E R S₁.rd fun v2 s₂ k₂ r₂ => ?_
 refine hhi A s₂ V ad _ E R (S₁.step k₂).rd fun v3 s₃ k₃ r₃ => ?_
 rw [evalPart_none]
 refine wpAny_pure ?_
 obtain ⟨t, rfl⟩ := (r₂ : Rep V s₂.heap (.int l) v2).int_inv
 obtain ⟨u, rfl⟩ := (r₃ : Rep V s₃.heap (.int h) v3).int_inv
 have e1 := r.length
 have e2 := rb.length
 simp only [Array.length_toList] at e1
 have K : Kp s₁ { s₃ with heap := s₃.heap.push { cls := .type "slice", data := .fields #[.int l t, .int h u, .none] } } := (k₂.trans k₃).trans .push
 have S₄ := S₁.step K
 have g₄ := K.keep _ _ g
 have gb₄ := K.keep _ _ gb
 refine wp_setSlice (xs := xs) (ys := ys.toArray) g₄ gb₄ (Heap.get?_push_size _ rfl) (fun q => hbV (q ▸ hV)) h0 h1 (by omega) (by rw [e1]; simpa [e2] using hz) ?_
 obtain ⟨S₅, T₅⟩ := S₄.setList (vs' := vs.take l.toNat ++ ws ++ vs.drop h.toNat) (tk := s₃.toks) hx ha g₄ (Heap.SameBut.update ..) (IsL.update g₄ (fun xs => xs.extract 0 l.toNat ++ ys.toArray ++ xs.extract h.toNat xs.size)) (by
  have : (xs.extract 0 l.toNat ++ ys.toArray ++ xs.extract h.toNat xs.size).toList = xs.toList.take l.toNat ++ ys ++ xs.toList.drop h.toNat := by
   simp only [Array.toList_append, Array.toList_extract, List.extract_eq_take_drop, Nat.sub_zero, List.drop_zero]
   rw [List.take_of_length_le (l := xs.toList.drop h.toNat) (by simp)]
  rw [this]
  exact (reps_splice r rb _ _).keeps K.keep)
 exact kk .next _ V ad S₅ ((Ste.kp (k₁.trans K)).trans T₅) rfl
end

theorem rowsAt_len {V : List Addr} {h : Heap} : ∀ {rows : List (List PV)} {as : List Addr}, RowsAt V h rows as → as.length = rows.length
 | [], [], _ => rfl
 | _ :: _, _ :: _, ⟨_, t⟩ => by simp [rowsAt_len t]
theorem rowsAt_append {V : List Addr} {h : Heap} : ∀ {rows rows' : List (List PV)} {as as' : List Addr}, RowsAt V h rows as → RowsAt V h rows' as' → RowsAt V h (rows ++ rows') (as ++ as')
 | [], _, [], _, _, q => q
 | _ :: _, _, _ :: _, _, ⟨p, t⟩, q => ⟨p, rowsAt_append t q⟩
/-- the last row apart -/
theorem rowsAt_last {V : List Addr} {h : Heap} {r : List PV} : ∀ {rows : List (List PV)} {as : List Addr}, RowsAt V h (rows ++ [r]) as → ∃ as' b, as = as' ++ [b] ∧ RowsAt V h rows as' ∧ ∃ ys m, h.get? b = some (lobj ys m) ∧ Reps V h r ys.toList
 | [], [b], ⟨q, _⟩ => ⟨[], b, rfl, trivial, q⟩
 | [], _ :: _ :: _, ⟨_, t⟩ => t.elim
 | x :: rows, b :: as, ⟨q, t⟩ => by
  obtain ⟨as', c, rfl, t', q'⟩ := rowsAt_last t
  exact ⟨b :: as', c, rfl, ⟨q, t'⟩, q'⟩

section
variable {w : World} {F : Fm} {sc : Sc} {V : List Addr} {ad : Str → List Addr} {ρ : Rho} {s : Shared}

theorem St.rows (S : St w F sc V ad ρ s) {x : Str} {rows : List (List PV)} (h : ρ.lookup x = some (.oo rows)) :
  ∃ a as n, ad x = a :: as ∧ VarAt F.env s.heap x (.ref a) ∧ s.heap.get? a = some (lobj (as.map Value.ref).toArray n) ∧ RowsAt V s.heap rows as ∧ (∀ b ∈ a :: as, b ∈ V ∧ F.s₀.heap.get? b = none) ∧ (a :: as).Nodup := by
 obtain ⟨val, va, a, as, n, e, rfl, g, r⟩ := S.rd.vars x _ h
 refine ⟨a, as, n, e, va, g, r, fun b hb => ?_, ?_⟩
 ·have := S.vO x b ⟨_, h, rfl, by rw [e]; exact hb⟩
  exact ⟨this.1, this.2.1⟩
 ·have := S.vN x _ h rfl
  rwa [e] at this

/-- the own rows change at one of their addresses -/
theorem St.setRows (S : St w F sc V ad ρ s) {x : Str} {rows rows' : List (List PV)} {a c : Addr} {as : List Addr} {tk n' : Nat} {h' : Heap} (h : ρ.lookup x = some (.oo rows)) (ha : ad x = a :: as) (hc : c ∈ a :: as)
  (hs : Heap.SameBut c s.heap h') (hl : ∃ o, h'.get? c = some o) (hg' : h'.get? a = some (lobj (as.map Value.ref).toArray n')) (hr : RowsAt V h' rows' as) :
  St w F sc V ad (ρ.put x (.oo rows')) { s with heap := h', toks := tk } ∧ Ste V (Mut F ρ ad) s V (Mut F (ρ.put x (.oo rows')) ad) { s with heap := h', toks := tk } := by
 have hO := S.vO x c ⟨_, h, rfl, by rw [ha]; exact hc⟩
 have owns : ∀ {y b}, Own (ρ.put x (.oo rows')) ad y b → Own ρ ad y b := fun {y b} ⟨sl, h1, h2, h3⟩ => by
  rw [Rho.put_look] at h1
  by_cases hy : y = x
  ·subst hy; exact ⟨_, h, rfl, h3⟩
  ·rw [if_neg (by simpa using hy)] at h1; exact ⟨sl, h1, h2, h3⟩
 obtain ⟨val, va, a', as', n₀, e₀, rfl, g₀, r₀⟩ := S.rd.vars x _ h
 rw [ha] at e₀
 cases e₀
 have mv : ∀ y o, y ∉ V → s.heap.get? y = some o → h'.get? y = some o := fun y o hy e => hs.extBut y o (fun q => hy (q ▸ hO.1)) e
 have vmv : ∀ {y v}, VarAt F.env s.heap y v → VarAt F.env h' y v := fun {y v} hv => by
  rcases hv with ⟨k, m, nn, e⟩ | ⟨k, c', e, z⟩
  ·exact .inl ⟨k, m, nn.sameBut hs (Ne.symm hO.2.2.1), e⟩
  ·exact .inr ⟨k, c', e, z.sameBut hs (Ne.symm (hO.2.2.2 y c' e))⟩
 refine S.upd hs hO.1 hO.2.1 hl ?_ (fun y c' hc' => ?_) (fun y sl hy => ?_) (fun y b h => S.vO y b (owns h)) (fun y z b h h' => S.vD y z b (owns h) (owns h')) (fun y sl hy ho => ?_) (.inr (.inr ⟨x, _, h, rfl, by rw [ha]; exact hc⟩)) (fun b hb => hb.imp id (Or.imp id fun ⟨y, hy⟩ => ⟨y, owns hy⟩))
 ·obtain ⟨m, nn⟩ := S.ns; exact ⟨m, nn.sameBut hs (Ne.symm hO.2.2.1)⟩
 ·obtain ⟨v, z⟩ := (S.cells y c' hc').1
  exact ⟨v, z.sameBut hs (Ne.symm (hO.2.2.2 y c' hc'))⟩
 ·rw [Rho.put_look] at hy
  by_cases hyx : y = x
  ·subst hyx
   simp only [beq_self_eq_true, if_true] at hy
   cases hy
   exact SlotAt.of (vmv va) ⟨_, as, n', ha, rfl, hg', hr⟩
  ·rw [if_neg (by simpa using hyx)] at hy
   refine (S.rd.vars y sl hy).map fun val va sr => ⟨vmv va, sr.mono mv (fun y hy => .inl hy) fun ho b hb o e => hs.extBut b o (fun q => hyx ?_) e⟩
   subst q
   exact S.vD y x b ⟨sl, hy, ho, hb⟩ ⟨_, h, rfl, by rw [ha]; exact hc⟩
 ·rw [Rho.put_look] at hy
  by_cases hyx : y = x
  ·subst hyx; exact S.vN y _ h rfl
  ·rw [if_neg (by simpa using hyx)] at hy; exact S.vN y sl hy ho
end

section
variable {w : World} {d : Nat} {F : Fm} {sc : Sc} {ρ ρ' : Rho} {fl : Fl} {e : Expr} {pos : Pos}

theorem rows_rep {V : List Addr} {h : Heap} {V₀ : List Addr} (hsub : ∀ a ∈ V₀, a ∈ V) : ∀ {rows : List (List PV)} {as : List Addr}, (∀ b ∈ as, b ∉ V₀) → RowsAt V h rows as → Reps V₀ h (rows.map .lst) (as.map Value.ref)
 | [], [], _, _ => .nil
 | r :: rows, a :: as, hn, ⟨⟨ys, m, g, q⟩, t⟩ => .cons (.lst (hn a List.mem_cons_self) (xs := ys.toList) (n := m) (by simpa using g) (q.mono (fun _ _ _ e => e) fun x hx => .inl (hsub x hx))) (rows_rep hsub (fun b hb => hn b (List.mem_cons_of_mem _ hb)) t)

theorem Ex.retRows {x : Str} {px : Pos} {rows : List (List PV)} (hx : ρ.lookup x = some (.oo rows)) (hd : (x == ("__debug__" : Str)) = false) : Ex w d F sc ρ (exec (.Return (some (.Name x px)) pos) F.env) (.ret (.lst (rows.map .lst))) ρ := fun A s V ad Q E R S k => by
 obtain ⟨a, as, n, ha, va, g, r, hV, hnd⟩ := S.rows hx
 have out : ∀ b ∈ a :: as, b ∉ F.V₀ := fun b hb => S.low₀.not_mem (hV b hb).2
 refine wpAny_Return_some (wp_name S.rd.fn va (k _ s V ad S (.refl V _ s) ⟨_, rfl, .lst (out a List.mem_cons_self) (xs := as.map Value.ref) (n := n) g (rows_rep S.v0 (fun b hb => out b (List.mem_cons_of_mem _ hb)) r)⟩) hd)
end

section
variable {w : World} {d : Nat} {F : Fm} {sc : Sc} {ρ ρ' : Rho} {fl : Fl} {e : Expr} {pos : Pos}

theorem isM1_ev {m : Expr} {env : Env} (h : isM1 m = true) : Ev w d sc .v env ρ m (.int (-1)) := by
 unfold isM1 at h
 split at h
 ·exact Ev.neg Ev.int
 ·exact Ev.int
 ·cases h

/-- `x[-1]`, the last of the own rows -/
theorem wp_last {A : Around} {s : Shared} {V : List Addr} {ad : Str → List Addr} {x : Str} {px lp : Pos} {m : Expr} {rows : List (List PV)} {r : List PV} {Q : Value → Shared → Prop} {E : Value → Shared → Prop} (R : Room d A) (S : St w F sc V ad ρ s) (hx : ρ.lookup x = some (.oo (rows ++ [r]))) (hd : (x == ("__debug__" : Str)) = false) (hm : isM1 m = true)
  (k : ∀ a as b n s₁, Kp s s₁ → ad x = a :: (as ++ [b]) → s₁.heap.get? a = some (lobj ((as ++ [b]).map Value.ref).toArray n) → RowsAt V s₁.heap rows as → (∃ ys n', s₁.heap.get? b = some (lobj ys n') ∧ Reps V s₁.heap r ys.toList) → (a :: (as ++ [b])).Nodup → Q (.ref b) s₁) :
  wpAny (model pw w) A (eval (.Subscript (.Name x px) m lp) F.env) Q E s := by
 obtain ⟨a, as₀, n, ha, va, g, rr, hV, hnd⟩ := S.rows hx
 obtain ⟨as, b, rfl, rr', q⟩ := rowsAt_last rr
 refine wp_sub (wp_name S.rd.fn va (isM1_ev (w := w) (d := d) (sc := sc) (ρ := ρ) hm A s V ad _ E R S.rd fun v s₁ k₁ r₁ => ?_) hd)
 obtain ⟨t, rfl⟩ := (r₁ : Rep V s₁.heap (.int (-1)) v).int_inv
 have g₁ := k₁.keep _ _ g
 refine getItem_lst (k := as.length) g₁ (by decide) ?_ (by simp) (k a as b n s₁ k₁ ha g₁ ?_ ?_ hnd)
 ·unfold seqIndex?
  simp only [List.size_toArray, List.length_map, List.length_append, List.length_singleton]
  have e1 : (if (-1 : Int) < 0 then (-1 : Int) + ((as.length + 1 : Nat) : Int) else -1) = (as.length : Int) := by rw [if_pos (by decide)]; omega
  rw [e1]
  rw [if_pos (by simp; omega)]
  simp
 ·exact rr'.mono (fun y o _ e => k₁.keep y o e) (fun y hy => .inl hy) (fun y _ o e => k₁.keep y o e)
 ·obtain ⟨ys, n', gb, q⟩ := q
  exact ⟨ys, n', k₁.keep _ _ gb, q.keeps k₁.keep⟩

theorem lastRow_some {rows rows' : List (List PV)} {f : List PV → Option (List PV)} (h : lastRow rows f = some rows') : ∃ rs r r', rows = rs ++ [r] ∧ f r = some r' ∧ rows' = rs ++ [r'] := by
 unfold lastRow at h
 split at h
 ·cases h
 ·rename_i r rs hr
  rw [Option.map_eq_some_iff] at h
  obtain ⟨r', h1, rfl⟩ := h
  refine ⟨rs.reverse, r, r', ?_, h1, rfl⟩
  have := congrArg List.reverse hr
  simpa using this

/-- a store into the last row, from where it stands -/
theorem wp_setLast {A : Around} {s s₁ : Shared} {V : List Addr} {ad : Str → List Addr} {x : Str} {rows : List (List PV)} {r r' : List PV} {a b : Addr} {as : List Addr} {n : Nat} {i : Int} {t : Tok} {v : PV} {val : Value} {Q : Unit → Shared → Prop} {E : Value → Shared → Prop}
  (S : St w F sc V ad ρ s₁) (hx : ρ.lookup x = some (.oo (rows ++ [r]))) (ha : ad x = a :: (as ++ [b])) (g : s₁.heap.get? a = some (lobj ((as ++ [b]).map Value.ref).toArray n)) (hr : RowsAt V s₁.heap rows as) (hb : ∃ ys n', s₁.heap.get? b = some (lobj ys n') ∧ Reps V s₁.heap r ys.toList)
  (hnd : (a :: (as ++ [b])).Nodup) (hv : Rep V s₁.heap v val) (h0 : 0 ≤ i) (h : setAt r i v = some r')
  (k : ∀ s', St w F sc V ad (ρ.put x (.oo (rows ++ [r']))) s' → Ste V (Mut F ρ ad) s₁ V (Mut F (ρ.put x (.oo (rows ++ [r']))) ad) s' → Q () s') : wpAny (model pw w) A (setItem (.ref b) (.int i t) val) Q E s₁ := by
 obtain ⟨h1, h2, rfl⟩ := setAt_some h h0
 obtain ⟨ys, n', gb, rb⟩ := hb
 have e1 := rb.length
 simp only [Array.length_toList] at e1
 refine wp_setItem gb h0 (by omega) (by omega) ?_
 have hs := Heap.SameBut.update s₁.heap b (Obj.mapSeq (·.setIfInBounds i.toNat val))
 have hab : a ≠ b := by
  have := (List.nodup_cons.mp hnd).1
  exact fun q => this (by rw [q]; simp)
 have hbas : b ∉ as := by
  have := (List.nodup_append.mp (List.nodup_cons.mp hnd).2).2.2
  exact fun q => this b q b (by simp) rfl
 have hbV : b ∈ V := (S.vO x b ⟨_, hx, rfl, by rw [ha]; simp⟩).1
 have mv : ∀ y o, y ∉ V → s₁.heap.get? y = some o → (s₁.heap.update b (Obj.mapSeq (·.setIfInBounds i.toNat val))).get? y = some o := fun y o hy e => hs.extBut y o (fun q => hy (q ▸ hbV)) e
 have gb' := IsL.update gb (·.setIfInBounds i.toNat val)
 obtain ⟨S', T'⟩ := S.setRows (tk := s₁.toks) (rows' := rows ++ [r.set i.toNat v]) (c := b) hx ha (by simp) hs ⟨_, gb'⟩ (hs.extBut a _ hab g) (by
  refine rowsAt_append (hr.mono mv (fun y hy => .inl hy) fun c hc o e => hs.extBut c o (fun q => hbas (q ▸ hc)) e) ⟨⟨_, _, gb', ?_⟩, trivial⟩
  rw [Array.toList_setIfInBounds]
  exact (reps_set hv _ rb).mono mv fun y hy => .inl hy)
 exact k _ S' T'

theorem Ex.asgLast {x : Str} {px lp tp : Pos} {m k : Expr} {rows rows' : List (List PV)} {i : Int} {v : PV} (hx : ρ.lookup x = some (.oo rows)) (hd : (x == ("__debug__" : Str)) = false) (hm : isM1 m = true) (he : Ev w d sc .v F.env ρ e v) (hk : Ev w d sc .v F.env ρ k (.int i)) (h0 : 0 ≤ i)
  (h : lastRow rows (fun r => setAt r i v) = some rows') (hsw : swapsWith e (some (.Subscript (.Subscript (.Name x px) m lp) k tp)) pos.line F.env = pure false) :
  Ex w d F sc ρ (exec (.Assign [.Subscript (.Subscript (.Name x px) m lp) k tp] e pos) F.env) .next (ρ.put x (.oo rows')) := fun A s V ad Q E R S kk => by
 obtain ⟨rs, r, r', rfl, h1, rfl⟩ := lastRow_some h
 refine wpAny_Assign_Subscript (he A s V ad _ E R S.rd fun val s₁ k₁ r₁ => ?_) hsw
 refine wp_last (d := d) R (S.step k₁) hx hd hm fun a as b n s₂ k₂ ha g hr hb hnd => ?_
 have S₂ := (S.step k₁).step k₂
 refine hk A s₂ V ad _ E R S₂.rd fun iv s₃ k₃ r₃ => ?_
 obtain ⟨t, rfl⟩ := (r₃ : Rep V s₃.heap (.int i) iv).int_inv
 obtain ⟨ys, n', gb, rb⟩ := hb
 exact wp_setLast (s := s₃) (S₂.step k₃) hx ha (k₃.keep _ _ g) (hr.mono (fun y o _ e => k₃.keep y o e) (fun y hy => .inl hy) fun y _ o e => k₃.keep y o e) ⟨ys, n', k₃.keep _ _ gb, rb.keeps k₃.keep⟩ hnd (k₃.rep (k₂.rep r₁)) h0 h1
  fun s' S' T' => kk .next s' V ad S' ((Ste.kp ((k₁.trans k₂).trans k₃)).trans T') rfl

theorem Ex.augLast {x : Str} {px lp tp : Pos} {m k : Expr} {rows rows' : List (List PV)} {i : Int} {c : PV} (hx : ρ.lookup x = some (.oo rows)) (hd : (x == ("__debug__" : Str)) = false) (hm : isM1 m = true) (he : Ev w d sc .v F.env ρ e c) (hk : Ev w d sc .v F.env ρ k (.int i)) (h0 : 0 ≤ i)
  (h : lastRow rows (fun r => (idx (.lst r) (.int i)).bind fun a => (plusOf a c).bind fun c => setAt r i c) = some rows') (hi : ∀ ov iv new, augStore k ov iv new = (do holding [new, ov, iv] (setItem ov iv new); release [new, ov, iv] []; pure .next)) :
  Ex w d F sc ρ (exec (.AugAssign (.Subscript (.Subscript (.Name x px) m lp) k tp) .Add e pos) F.env) .next (ρ.put x (.oo rows')) := fun A s V ad Q E R S kk => by
 obtain ⟨rs, r, r', rfl, h1, rfl⟩ := lastRow_some h
 simp only [Option.bind_eq_some_iff] at h1
 obtain ⟨u, hu, z, hz, h2⟩ := h1
 refine wpAny_AugAssign_SubscriptAny (wp_last (d := d) R S hx hd hm fun a as b n s₂ k₂ ha g hr hb hnd => ?_) hi
 have S₂ := S.step k₂
 refine hk A s₂ V ad _ E R S₂.rd fun iv s₃ k₃ r₃ => ?_
 obtain ⟨ys, n', gb, rb⟩ := hb
 have hget := idx_ok (w := w) (A := A) (E := E) (s := s₃) (V := V) (x := .ref b) (y := iv) (Q := fun old s₃ => wpAny (model pw w) A (eval e F.env) (fun v s₄ => wpAny (model pw w) A (inplaceOp .Add old v) (fun new s₅ => wpAny (model pw w) A (setItem (.ref b) iv new) (fun _ => Q .next) E s₅) E s₄) E s₃) hu
  (.inr ⟨r, b, ys, n', rfl, rfl, k₃.keep _ _ gb, rb.keeps k₃.keep⟩) r₃ (fun old s₄ k₄ r₄ => ?_)
 ·obtain ⟨T, id, _, _, hh⟩ := hget; exact hh
 ·have S₄ := (S₂.step k₃).step k₄
  refine he A s₄ V ad _ E R S₄.rd fun cv s₅ k₅ r₅ => plus_ok hz (k₅.rep r₄) r₅ fun nv s₆ k₆ r₆ => ?_
  obtain ⟨t, rfl⟩ := (r₃ : Rep V s₃.heap (.int i) iv).int_inv
  have K := ((k₃.trans k₄).trans k₅).trans k₆
  exact wp_setLast (s := s₆) (S₂.step K) hx ha (K.keep _ _ g) (hr.mono (fun y o _ e => K.keep y o e) (fun y hy => .inl hy) fun y _ o e => K.keep y o e) ⟨ys, n', K.keep _ _ gb, rb.keeps K.keep⟩ hnd r₆ h0 h2
   fun s' S' T' => kk .next s' V ad S' ((Ste.kp (k₂.trans K)).trans T') rfl
end

section
variable {w : World} {d : Nat} {F : Fm} {sc : Sc} {ρ ρ' : Rho} {fl : Fl} {e : Expr} {pos : Pos}

/-- a new row on top of the own rows -/
theorem Ex.appendRow {x : Str} {px apos cpos : Pos} {rows : List (List PV)} {r : List PV} (hline : (apos.endLine == cpos.line) = true) (hx : ρ.lookup x = some (.oo rows)) (hd : (x == ("__debug__" : Str)) = false) (hz : sizeOk rows.length = true) (hs : ∀ y p, e ≠ .Starred y p) (he : Ev w d sc .f F.env ρ e (.lst r))
  (hi : interactive F.env = false) : Ex w d F sc ρ (exec (.Expr (.Call (.Attribute (.Name x px) "append" apos) [e] [] cpos) pos) F.env) .next (ρ.put x (.oo (rows ++ [r]))) := fun A s V ad Q E R S k => by
 obtain ⟨a, as, n, ha, va, g, rr, hV, hnd⟩ := S.rows hx
 refine wpAny_Expr ?_ hi rfl
 refine Call_method1 rfl (by cases e <;> first | rfl | exact absurd rfl (hs _ _)) hline (wp_name S.rd.fn va ?_ hd)
 refine ⟨"list", _, PySem.F.plainAttrs_list, PySem.F.slot_list_append, PySem.F.type_list_append, ⟨_, g, rfl⟩, (fun b e => by cases e; exact ⟨_, g, rfl⟩), P.append_list (he A s V ad _ E R S.rd fun val s₁ k₁ r₁ => ?_)⟩
 obtain ⟨vs', b, xs, m, e1, rfl, hb, gb, rb⟩ := r₁
 cases e1
 have g₁ := k₁.keep _ _ g
 have hlen := rowsAt_len rr
 obtain ⟨S₁, T₁⟩ := S.more k₁ hb ⟨_, gb⟩
 refine ⟨_, n, by simp only [List.size_toArray, List.length_map]; rw [hlen]; exact sizeOk_le hz, g₁, ?_⟩
 have hbV : b ∉ V := S.rd.low.not_mem hb
 have hbA : b ∉ a :: as := fun h => hbV (hV b h).1
 have hab : a ≠ b := fun q => hbA (by rw [q]; exact List.mem_cons_self)
 have hsb := Heap.SameBut.update s₁.heap a (Obj.mapSeq fun xs => xs.push (.ref b))
 have haV : a ∈ b :: V := List.mem_cons_of_mem _ (hV a List.mem_cons_self).1
 have mv : ∀ y o, y ∉ b :: V → s₁.heap.get? y = some o → (s₁.heap.update a (Obj.mapSeq fun xs => xs.push (.ref b))).get? y = some o := fun y o hy e => hsb.extBut y o (fun q => hy (q ▸ haV)) e
 have g' := IsL.update g₁ (fun xs => xs.push (.ref b))
 have hg' : (s₁.heap.update a (Obj.mapSeq fun xs => xs.push (.ref b))).get? a = some (lobj ((as ++ [b]).map Value.ref).toArray (if (((as.map Value.ref).toArray.push (.ref b)).size == (as.map Value.ref).toArray.size) = true then n else n + 1)) := by
  have : ((as ++ [b]).map Value.ref).toArray = (as.map Value.ref).toArray.push (.ref b) := by simp
  rw [this]; exact g'
 have hrows : RowsAt (b :: V) (s₁.heap.update a (Obj.mapSeq fun xs => xs.push (.ref b))) (rows ++ [r]) (as ++ [b]) := by
  have r1 : RowsAt (b :: V) s₁.heap rows as := rr.mono (fun y o _ e => k₁.keep y o e) (fun y hy => by
   rcases List.mem_cons.mp hy with rfl | hy
   ·exact .inr hb
   ·exact .inl hy) fun y _ o e => k₁.keep y o e
  refine rowsAt_append (r1.mono mv (fun y hy => .inl hy) fun c hc o e => hsb.extBut c o (fun q => ?_) e) ⟨⟨xs, m, hsb.extBut b _ (Ne.symm hab) gb, rb.mono mv fun y hy => .inl hy⟩, trivial⟩
  subst q
  exact (List.nodup_cons.mp hnd).1 hc
 have P : PutOk F (b :: V) ad ρ x (a :: (as ++ [b])) (.oo (rows ++ [r])) := by
  refine ⟨fun _ c hc => ?_, fun _ c hc y hy hown => ?_, fun _ => ?_⟩
  ·have : c ∈ a :: as ∨ c = b := by
    rcases List.mem_cons.mp hc with rfl | hc
    ·exact .inl List.mem_cons_self
    ·rcases List.mem_append.mp hc with hc | hc
     ·exact .inl (List.mem_cons_of_mem _ hc)
     ·exact .inr (List.mem_singleton.mp hc)
   rcases this with h | rfl
   ·exact S₁.vO x c ⟨_, hx, rfl, by rw [ha]; exact h⟩
   ·exact ⟨List.mem_cons_self, new_of S.kp.keep hb, fun q => hbV (q ▸ S.vL), fun y c hc q => hbV (q ▸ S.vC y c hc)⟩
  ·have : c ∈ a :: as ∨ c = b := by
    rcases List.mem_cons.mp hc with rfl | hc
    ·exact .inl List.mem_cons_self
    ·rcases List.mem_append.mp hc with hc | hc
     ·exact .inl (List.mem_cons_of_mem _ hc)
     ·exact .inr (List.mem_singleton.mp hc)
   rcases this with h | rfl
   ·exact hy (S.vD y x c hown ⟨_, hx, rfl, by rw [ha]; exact h⟩)
   ·exact hbV (S.vO y c hown).1
  ·rw [← List.cons_append]
   exact List.nodup_append.mpr ⟨hnd, by simp, fun c hc c' hc' q => hbA (by rw [List.mem_singleton.mp hc'] at q; exact q ▸ hc)⟩
 obtain ⟨hO, hD, hN⟩ := putOk_facts S₁ P
 have hOx := S₁.vO x a ⟨_, hx, rfl, by rw [ha]; exact List.mem_cons_self⟩
 have vmv : ∀ {y v}, VarAt F.env s₁.heap y v → VarAt F.env (s₁.heap.update a (Obj.mapSeq fun xs => xs.push (.ref b))) y v := fun {y v} hv => by
  rcases hv with ⟨kk, m, nn, e⟩ | ⟨kk, c', e, z⟩
  ·exact .inl ⟨kk, m, nn.sameBut hsb (Ne.symm hOx.2.2.1), e⟩
  ·exact .inr ⟨kk, c', e, z.sameBut hsb (Ne.symm (hOx.2.2.2 y c' e))⟩
 obtain ⟨S₂, T₂⟩ := S₁.upd (tk := s₁.toks) (ρ' := ρ.put x (.oo (rows ++ [r]))) (ad' := upAd ad x (a :: (as ++ [b]))) (M := fun c => Mut F ρ ad c ∨ c = b) hsb haV hOx.2.1 ⟨_, g'⟩
  (by obtain ⟨m, nn⟩ := S₁.ns; exact ⟨m, nn.sameBut hsb (Ne.symm hOx.2.2.1)⟩)
  (fun y c' hc' => by obtain ⟨v, z⟩ := (S₁.cells y c' hc').1; exact ⟨v, z.sameBut hsb (Ne.symm (hOx.2.2.2 y c' hc'))⟩)
  (fun y sl hy => by
   rw [Rho.put_look] at hy
   by_cases hyx : y = x
   ·subst hyx
    simp only [beq_self_eq_true, if_true] at hy
    cases hy
    refine SlotAt.of (vmv (va.keeps k₁.keep)) ⟨a, as ++ [b], _, by unfold upAd; rw [if_pos rfl], rfl, hg', hrows⟩
   ·rw [if_neg (by simpa using hyx)] at hy
    have e : upAd ad x (a :: (as ++ [b])) y = ad y := by unfold upAd; rw [if_neg hyx]
    rw [e]
    refine (S₁.rd.vars y sl hy).map fun val va sr => ⟨vmv va, sr.mono mv (fun y hy => .inl hy) fun ho c hc o e => hsb.extBut c o (fun q => hyx ?_) e⟩
    subst q
    exact S.vD y x c ⟨sl, hy, ho, hc⟩ ⟨_, hx, rfl, by rw [ha]; exact List.mem_cons_self⟩)
  hO hD hN (.inl (.inr (.inr ⟨x, _, hx, rfl, by rw [ha]; exact List.mem_cons_self⟩)))
  (fun c hc => by
   rcases hc with h | h | ⟨y, h⟩
   ·exact .inl (.inl h)
   ·exact .inl (.inr (.inl h))
   ·rcases own_put h with ⟨rfl, _, h2⟩ | ⟨_, h1⟩
    ·rcases List.mem_cons.mp h2 with rfl | h2
     ·exact .inl (.inr (.inr ⟨y, _, hx, rfl, by rw [ha]; exact List.mem_cons_self⟩))
     ·rcases List.mem_append.mp h2 with h2 | h2
      ·exact .inl (.inr (.inr ⟨y, _, hx, rfl, by rw [ha]; exact List.mem_cons_of_mem _ h2⟩))
      ·exact .inr (List.mem_singleton.mp h2)
    ·exact .inl (.inr (.inr ⟨y, h1⟩)))
 exact k .next _ (b :: V) _ S₂ ((T₁ _).trans T₂) rfl
end

section
variable {w : World} {d : Nat} {F : Fm} {sc : Sc} {ρ ρ' : Rho} {fl : Fl} {e : Expr} {pos : Pos}

theorem reps_erase {V : List Addr} {h : Heap} : ∀ {vs : List PV} {xs : List Value} (k : Nat), Reps V h vs xs → Reps V h (vs.eraseIdx k) (xs.eraseIdx k)
 | _, _, _, .nil => by simpa using Reps.nil
 | _, _, 0, .cons q qs => by simpa using qs
 | _, _, k + 1, .cons q qs => by simpa using Reps.cons q (reps_erase k qs)

/-- `x.pop(k)` and `x.pop()` on the frame's own list -/
theorem wp_popAt {A : Around} {s : Shared} {V : List Addr} {ad : Str → List Addr} {x : Str} {px apos cpos : Pos} {k : Expr} {vs : List PV} {i : Int} {j : Nat} {v : PV} {Q : Value → Shared → Prop} {E : Value → Shared → Prop} (R : Room d A) (S : St w F sc V ad ρ s) (hline : (apos.endLine == cpos.line) = true)
  (hx : ρ.lookup x = some (.o vs)) (hd : (x == ("__debug__" : Str)) = false) (hz : vs.length ≤ 16000000) (hs : ∀ y p, k ≠ .Starred y p) (hk : Ev w d sc .v F.env ρ k (.int i)) (hi : intOk i = true) (hj : seqIndex? i vs.length = some j) (hv : vs[j]? = some v)
  (kk : ∀ val s', St w F sc V ad (ρ.put x (.o (vs.eraseIdx j))) s' → Ste V (Mut F ρ ad) s V (Mut F (ρ.put x (.o (vs.eraseIdx j))) ad) s' → Rep V s'.heap v val → Q val s') :
  wpAny (model pw w) A (eval (.Call (.Attribute (.Name x px) "pop" apos) [k] [] cpos) F.env) Q E s := by
 obtain ⟨a, xs, n, ha, va, g, r, hV, hn⟩ := S.list hx
 refine Call_method1 rfl (by cases k <;> first | rfl | exact absurd rfl (hs _ _)) hline (wp_name S.rd.fn va ?_ hd)
 refine ⟨"list", _, PySem.F.plainAttrs_list, PySem.F.slot_list_pop, PySem.F.type_list_pop, ⟨_, g, rfl⟩, (fun b e => by cases e; exact ⟨_, g, rfl⟩), P.pop_at_list (hk A s V ad _ E R S.rd fun iv s₁ k₁ r₁ => ?_)⟩
 obtain ⟨u, rfl⟩ := (r₁ : Rep V s₁.heap (.int i) iv).int_inv
 have S₁ := S.step k₁
 have g₁ := k₁.keep _ _ g
 have e1 := r.length
 simp only [Array.length_toList] at e1
 obtain ⟨y, hy, ry⟩ := r.get hv
 refine ⟨xs, n, i, u, j, y, by rw [e1, sizeLine_eq]; omega, rfl, g₁, ?_, by rw [e1]; exact hj, by simpa using hy, ?_⟩
 ·have := intOk_lt hi
  simp [Builtin.List.listFitsIndex]; omega
 ·have hj' : j < xs.size := by
   have := (List.getElem?_eq_some_iff.mp hv).1
   omega
  obtain ⟨S₂, T₂⟩ := S₁.setList (vs' := vs.eraseIdx j) (tk := s₁.toks) hx ha g₁ (Heap.SameBut.update ..) (IsL.update g₁ (fun xs => xs.eraseIdxIfInBounds j)) (by
   have : (xs.eraseIdxIfInBounds j).toList = xs.toList.eraseIdx j := by
    unfold Array.eraseIdxIfInBounds
    rw [dif_pos hj']
    exact Array.toList_eraseIdx
   rw [this]
   exact (reps_erase j r).keeps k₁.keep)
  exact kk y _ S₂ ((Ste.kp k₁).trans T₂) (T₂.rep S₁.mut (k₁.rep ry))

theorem wp_popLast {A : Around} {s : Shared} {V : List Addr} {ad : Str → List Addr} {x : Str} {px apos cpos : Pos} {vs : List PV} {v : PV} {Q : Value → Shared → Prop} {E : Value → Shared → Prop} (S : St w F sc V ad ρ s) (hline : (apos.endLine == cpos.line) = true)
  (hx : ρ.lookup x = some (.o (vs ++ [v]))) (hd : (x == ("__debug__" : Str)) = false) (hz : vs.length + 1 ≤ 16000000)
  (kk : ∀ val s', St w F sc V ad (ρ.put x (.o vs)) s' → Ste V (Mut F ρ ad) s V (Mut F (ρ.put x (.o vs)) ad) s' → Rep V s'.heap v val → Q val s') :
  wpAny (model pw w) A (eval (.Call (.Attribute (.Name x px) "pop" apos) [] [] cpos) F.env) Q E s := by
 obtain ⟨a, xs, n, ha, va, g, r, hV, hn⟩ := S.list hx
 have e1 := r.length
 simp only [Array.length_toList, List.length_append, List.length_singleton] at e1
 obtain ⟨y, hy, ry⟩ := r.get (i := vs.length) (v := v) (by simp)
 have hy' : xs[vs.length]? = some y := by simpa using hy
 refine Call_method0 rfl hline (wp_name S.rd.fn va ?_ hd)
 refine ⟨"list", _, PySem.F.plainAttrs_list, PySem.F.slot_list_pop, PySem.F.type_list_pop, ⟨_, g, rfl⟩, (fun b e => by cases e; exact ⟨_, g, rfl⟩), P.pop_list g (by rw [e1]; exact hy') ?_ (by rw [e1, sizeLine_eq]; omega)⟩
 have hj' : xs.size - 1 < xs.size := by omega
 obtain ⟨S₂, T₂⟩ := S.setList (vs' := vs) (tk := s.toks) hx ha g (Heap.SameBut.update ..) (IsL.update g (fun xs' => xs'.eraseIdxIfInBounds (xs.size - 1))) (by
  have : (xs.eraseIdxIfInBounds (xs.size - 1)).toList = xs.toList.eraseIdx (xs.size - 1) := by
   unfold Array.eraseIdxIfInBounds
   rw [dif_pos hj']
   exact Array.toList_eraseIdx
  rw [this, e1]
  have := reps_erase vs.length r
  have e3 : (vs ++ [v]).eraseIdx vs.length = vs := by
   rw [List.eraseIdx_append_of_length_le (Nat.le_refl _)]; simp
  rw [e3] at this
  simpa using this)
 exact kk y _ S₂ T₂ (T₂.rep S.mut ry)

theorem St.congr {V : List Addr} {ad : Str → List Addr} {s : Shared} (S : St w F sc V ad ρ s) (h : ∀ x, ρ'.lookup x = ρ.lookup x) : St w F sc V ad ρ' s ∧ ∀ a, Mut F ρ' ad a ↔ Mut F ρ ad a := by
 have o : ∀ {x a}, Own ρ' ad x a ↔ Own ρ ad x a := fun {x a} => by unfold Own; rw [h]
 refine ⟨{ S with rd := { S.rd with vars := fun x sl e => S.rd.vars x sl (h x ▸ e) }, vO := fun x a q => S.vO x a (o.mp q), vD := fun x y a q r => S.vD x y a (o.mp q) (o.mp r), vN := fun x sl e q => S.vN x sl (h x ▸ e) q }, fun a => ?_⟩
 unfold Mut
 simp only [o]

theorem Ex.asgPop {x p : Str} {xp pp1 pp2 ap1 ap2 c1 c2 lp : Pos} {k : Expr} {vs : List PV} {u v : PV} (hsw : swapsWith (.List [.Call (.Attribute (.Name p pp1) "pop" ap1) [k] [] c1, .Call (.Attribute (.Name p pp2) "pop" ap2) [] [] c2] lp) (some (.Name x xp)) pos.line F.env = pure false)
  (hl1 : (ap1.endLine == c1.line) = true) (hl2 : (ap2.endLine == c2.line) = true) (hst : storable sc x = true) (hx : ρ.lookup p = some (.o (vs ++ [u, v]))) (hd : (p == ("__debug__" : Str)) = false) (hz : vs.length + 2 ≤ 16000000) (hs : ∀ y q, k ≠ .Starred y q) (hk : Ev w d sc .v F.env ρ k (.int (-2))) :
  Ex w d F sc ρ (exec (.Assign [.Name x xp] (.List [.Call (.Attribute (.Name p pp1) "pop" ap1) [k] [] c1, .Call (.Attribute (.Name p pp2) "pop" ap2) [] [] c2] lp) pos) F.env) .next (((ρ.put p (.o (vs ++ [v]))).put p (.o vs)).put x (.v (.lst [u, v]))) := fun A s V ad Q E R S kk => by
 refine wpAny_Assign_Name (wpAny_List ?_) hsw
 have hj : seqIndex? (-2) (vs ++ [u, v]).length = some vs.length := by
  unfold seqIndex?
  have e1 : (if (-2 : Int) < 0 then (-2 : Int) + ((vs ++ [u, v]).length : Int) else -2) = (vs.length : Int) := by rw [if_pos (by decide)]; simp; omega
  simp only [e1]
  rw [if_pos (by simp; omega)]
  simp
 have he : (vs ++ [u, v]).eraseIdx vs.length = vs ++ [v] := by
  rw [List.eraseIdx_append_of_length_le (Nat.le_refl _)]; simp
 refine spliced_cons (wp_popAt (i := -2) (j := vs.length) (v := u) R S hl1 hx hd (by simp; omega) hs hk (by decide) hj (by simp) fun a1 s₁ S₁ T₁ r₁ => ?_)
 rw [he] at S₁ T₁
 refine spliced_cons (wp_popLast (vs := vs) (v := v) S₁ hl2 (by rw [Rho.put_look]; simp) hd (by omega) fun a2 s₂ S₂ T₂ r₂ => spliced_nil ⟨by simp [sizeLine_eq], ?_⟩)
 have k₃ : Kp s₂ { s₂ with heap := s₂.heap.push { cls := .type "list", data := .seq [a1, a2].toArray } } := .push
 have rl : Rep V (s₂.heap.push { cls := .type "list", data := .seq [a1, a2].toArray }) (.lst [u, v]) (.ref s₂.heap.objs.size) :=
  RepM.ofF (md := .v) S₂.rd.low (list_push (xs := [a1, a2].toArray) rfl S₂.rd.low (.cons (T₂.rep S₁.mut r₁) (.cons r₂ .nil)))
 exact wp_storeV (S₂.step k₃) hst rl fun s₄ ad₄ S₄ T₄ => kk .next s₄ V ad₄ S₄ ((T₁.trans T₂).trans ((Ste.kp k₃).trans T₄)) rfl
end

section
variable {w : World} {d : Nat} {F : Fm} {sc : Sc} {ρ ρ' : Rho} {fl : Fl} {e : Expr} {pos : Pos}

/-- several addresses more, kept to oneself -/
theorem St.moreL {V : List Addr} {ad : Str → List Addr} {s : Shared} (S : St w F sc V ad ρ s) {s' : Shared} (k : Kp s s') (as : List Addr) (ha : ∀ a ∈ as, s.heap.get? a = none) (hl : ∀ a ∈ as, ∃ o, s'.heap.get? a = some o) : St w F sc (as ++ V) ad ρ s' := by
 have hv : ∀ x ∈ as ++ V, x ∈ V ∨ s.heap.get? x = none := fun x hx => (List.mem_append.mp hx).elim (fun h => .inr (ha x h)) .inl
 refine { S.step k with rd := ?_, v0 := fun x hx => List.mem_append_right _ (S.v0 x hx), vL := List.mem_append_right _ S.vL, vC := fun x c h => List.mem_append_right _ (S.vC x c h), vV := fun x hx => ?_, vO := fun x b h => ?_ }
 ·refine { S.rd.kp k with low := fun x hx => ?_, vars := fun x sl e => (S.rd.vars x sl e).map fun val va sr => ⟨va.keeps k.keep, sr.mono (fun y o _ e => k.keep y o e) hv fun _ b _ o e => k.keep b o e⟩ }
  rcases List.mem_append.mp hx with h | h
  ·exact hl x h
  ·exact S.rd.low.keeps k.keep x h
 ·rcases List.mem_append.mp hx with h | h
  ·exact .inr (new_of S.kp.keep (ha x h))
  ·exact S.vV x h
 ·obtain ⟨h1, h2⟩ := S.vO x b h
  exact ⟨List.mem_append_right _ h1, h2⟩

/-- the end of a block whose value was stored before its names were let go -/
theorem used_end {V W : List Addr} {ad ad' : Str → List Addr} {s s' s'' : Shared} {C : Addr} {m : Str → Option Value} {Q : Flow → Shared → Prop} (S : St w F sc V ad ρ s) (K : Kp s s') (nC : s.heap.get? C = none) (hns : s'.heap.Ns C m) (hCW : C ∈ W) (hCm : ¬ Mut F ρ' ad' C)
  (S'' : St w F sc W ad' ρ' s'') (chg : ∀ b o, ¬ Mut F ρ ad b → (b = C ∨ ∃ o₀, s.heap.get? b = some o₀) → s'.heap.get? b = some o → s''.heap.get? b = some o) (alive : ∀ b o, s'.heap.get? b = some o → ∃ o', s''.heap.get? b = some o')
  (grow : ∀ a, Mut F ρ' ad' a → Mut F ρ ad a ∨ s.heap.get? a = none) (growV : ∀ a ∈ W, a ∈ V ∨ s.heap.get? a = none) (sub : ∀ a ∈ V, a ∈ W) (gx : GExt s'.gens s''.gens)
  (k : ∀ f s' V' ad', St w F sc V' ad' ρ' s' → Ste V (Mut F ρ ad) s V' (Mut F ρ' ad') s' → FlRep F.V₀ s'.heap .next f → Q f s') :
  ∃ m, s''.heap.Ns C m ∧ ∀ h', Heap.SameBut C s''.heap h' → Q .next { s'' with heap := h' } := by
 have hCV : C ∉ V := S.rd.low.not_mem nC
 have hMC : ¬ Mut F ρ ad C := fun h => hCV (S.mut C h)
 refine ⟨m, hns.at' fun o e => chg C o hMC (.inl rfl) e, fun h' hs => ?_⟩
 have ne : ∀ b o, s.heap.get? b = some o → b ≠ C := fun b o e q => by rw [q, nC] at e; cases e
 have hk : ∀ b o, b ≠ C → s''.heap.get? b = some o → h'.get? b = some o := fun b o hb e => hs.extBut b o hb e
 refine k .next _ (W.filter (· ≠ C)) ad' (S''.drop (tk := s''.toks) (new_of S.kp.keep nC) hCm hCW hk) ⟨fun b o hb e => hk b o (ne b o e) (chg b o hb (.inr ⟨o, e⟩) (K.keep b o e)), grow, fun a ha => growV a (List.mem_filter.mp ha).1, fun a ha => List.mem_filter.mpr ⟨sub a ha, ?_⟩, fun b o e => ?_, K.gx.trans gx⟩ rfl
 ·simp only [ne_eq, decide_eq_true_eq]
  exact fun q => hCV (q ▸ ha)
 ·obtain ⟨o', e'⟩ := alive b o (K.keep b o e)
  exact ⟨o', hk b o' (ne b o e) e'⟩

theorem Ex.compV {elt iter : Expr} {x y : Str} {px py cp : Pos} {ifs : List Expr} {scope : Scope} {vs : List PV} {ws : List (List PV)} (hsw : swapsWith (.ListComp elt [⟨.Name x px, iter, ifs, 0⟩] scope cp) (some (.Name y py)) pos.line F.env = pure true) (hy : storable sc y = true)
  (ho : CompOk sc scope x) (hz : sizeOk vs.length = true) (hset : ∀ v, foldedSetIterable iter F.env v = pure v) (hi : EvI w d sc F.env ρ iter vs) (hl : ws.length = vs.length)
  (ht : ∀ (i : Nat) (v : PV) (r : List PV), vs[i]? = some v → ws[i]? = some r → TurnOk w d (relab sc scope.names) ((x, .v v) :: freeRho sc scope ρ) ifs elt r) :
  Ex w d F sc ρ (exec (.Assign [.Name y py] (.ListComp elt [⟨.Name x px, iter, ifs, 0⟩] scope cp) pos) F.env) .next (ρ.put y (.v (.lst ws.flatten))) := fun A s V ad Q E R S k => by
 rw [exec_Assign_Name_used _ _ _ _ hsw]
 refine wpAny_bind (wpAny_standAt (wpAny_bind ?_))
 show wpAny _ A (do let _ ← comprehension (.ListComp elt [⟨.Name x px, iter, ifs, 0⟩] scope cp) scope F.env _ (newList []) false (eval iter F.env) (some (PySem.assign (.Name y py) F.env))) _ _ s
 refine wpAny_bind (wpAny_mono (comp_core (px := px) (pos := cp) (Q := fun _ s' => Q .next s') (E := E) (some (PySem.assign (.Name y py) F.env)) ho hz hset hi hl ht R S.rd (fun s' D C m ys n K nD nC hDC hns g r => ?_)) (fun _ s' hq => wpAny_pure (wpAny_pure hq)) fun _ _ e => e)
 show wpAny (model pw w) A (PySem.assign (.Name y py) F.env (.ref D)) (fun _ s'' => ∃ m, s''.heap.Ns C m ∧ ∀ h', Heap.SameBut C s''.heap h' → Q .next { s'' with heap := h' }) E s'
 have gC : ∃ o, s'.heap.get? C = some o := by obtain ⟨o, _, _, e, _⟩ := hns; exact ⟨o, e⟩
 have S₁ := S.moreL K [C] (by simpa using nC) (by simpa using gC)
 have hMC : ¬ Mut F ρ ad C := fun h => S.rd.low.not_mem nC (S.mut C h)
 have rl : Rep ([C] ++ V) s'.heap (.lst ws.flatten) (.ref D) := .lst (by simp only [List.mem_append, List.mem_singleton, not_or]; exact ⟨hDC, S.rd.low.not_mem nD⟩) (xs := ys.toList) (n := n) (by simpa using g) (r.mono (fun _ _ _ e => e) fun z hz => .inl (List.mem_cons_of_mem _ (by simpa using hz)))
 refine wpAny_assign_Name (wp_storeV S₁ hy rl fun s'' ad'' S'' T => ?_)
 have hC'' : ¬ Mut F (ρ.put y (.v (.lst ws.flatten))) ad'' C := fun h => by
  rcases T.grow C h with q | q
  ·exact hMC q
  ·obtain ⟨o, e⟩ := gC; rw [e] at q; cases q
 refine used_end S K nC hns (by simp) hC'' S'' (fun b o hb _ e => T.chg b o hb e) T.alive (fun a h => (T.grow a h).elim .inl fun q => .inr (new_of K.keep q)) (fun a ha => ?_) (fun a ha => List.mem_append_right _ ha) T.gx k
 rcases List.mem_append.mp ha with h | h
 ·exact .inr (by rw [List.mem_singleton.mp h]; exact nC)
 ·exact .inl h

theorem Ex.compO {elt iter : Expr} {x y : Str} {px py cp : Pos} {ifs : List Expr} {scope : Scope} {vs : List PV} {ws : List (List PV)} (hsw : swapsWith (.ListComp elt [⟨.Name x px, iter, ifs, 0⟩] scope cp) (some (.Name y py)) pos.line F.env = pure true) (hy : storable sc y = true)
  (ho : CompOk sc scope x) (hz : sizeOk vs.length = true) (hset : ∀ v, foldedSetIterable iter F.env v = pure v) (hi : EvI w d sc F.env ρ iter vs) (hl : ws.length = vs.length)
  (ht : ∀ (i : Nat) (v : PV) (r : List PV), vs[i]? = some v → ws[i]? = some r → TurnOk w d (relab sc scope.names) ((x, .v v) :: freeRho sc scope ρ) ifs elt r) :
  Ex w d F sc ρ (exec (.Assign [.Name y py] (.ListComp elt [⟨.Name x px, iter, ifs, 0⟩] scope cp) pos) F.env) .next (ρ.put y (.o ws.flatten)) := fun A s V ad Q E R S k => by
 rw [exec_Assign_Name_used _ _ _ _ hsw]
 refine wpAny_bind (wpAny_standAt (wpAny_bind ?_))
 show wpAny _ A (do let _ ← comprehension (.ListComp elt [⟨.Name x px, iter, ifs, 0⟩] scope cp) scope F.env _ (newList []) false (eval iter F.env) (some (PySem.assign (.Name y py) F.env))) _ _ s
 refine wpAny_bind (wpAny_mono (comp_core (px := px) (pos := cp) (Q := fun _ s' => Q .next s') (E := E) (some (PySem.assign (.Name y py) F.env)) ho hz hset hi hl ht R S.rd (fun s' D C m ys n K nD nC hDC hns g r => ?_)) (fun _ s' hq => wpAny_pure (wpAny_pure hq)) fun _ _ e => e)
 show wpAny (model pw w) A (PySem.assign (.Name y py) F.env (.ref D)) (fun _ s'' => ∃ m, s''.heap.Ns C m ∧ ∀ h', Heap.SameBut C s''.heap h' → Q .next { s'' with heap := h' }) E s'
 have gC : ∃ o, s'.heap.get? C = some o := by obtain ⟨o, _, _, e, _⟩ := hns; exact ⟨o, e⟩
 have S₁ := S.moreL K [D, C] (by simp [nD, nC]) (by simp [g, gC])
 have hMC : ¬ Mut F ρ ad C := fun h => S.rd.low.not_mem nC (S.mut C h)
 have hDV := S.rd.low.not_mem nD
 have notOwn : ∀ z, ¬ Own ρ ad z D := fun z h => hDV (S.vO z D h).1
 refine wpAny_assign_Name (wp_storeS (sl := .o ws.flatten) (B := [D]) (M := fun b => Mut F ρ ad b ∨ b = D) S₁ hy ⟨D, ys, n, rfl, rfl, g, r⟩ ⟨fun _ b hb => ?_, fun _ b hb z _ => ?_, fun _ => by simp⟩ (fun _ h => .inl h) (fun _ b hb => .inr (List.mem_singleton.mp hb)) fun s'' S'' T => ?_)
 ·rw [List.mem_singleton.mp hb]
  exact ⟨by simp, new_of S.kp.keep nD, fun q => hDV (q ▸ S.vL), fun z c hc q => hDV (q ▸ S.vC z c hc)⟩
 ·rw [List.mem_singleton.mp hb]; exact notOwn z
 ·have hC'' : ¬ Mut F (ρ.put y (.o ws.flatten)) (upAd ad y [D]) C := fun h => by
   rcases T.grow C h with (q | q) | q
   ·exact hMC q
   ·exact hDC q.symm
   ·obtain ⟨o, e⟩ := gC; rw [e] at q; cases q
  refine used_end S K nC hns (by simp) hC'' S'' (fun b o hb hex e => T.chg b o (fun q => q.elim hb fun q => ?_) e) T.alive (fun a h => ?_) (fun a ha => ?_) (fun a ha => List.mem_append_right _ ha) T.gx k
  ·rcases hex with h | ⟨o₀, h⟩
   ·exact hDC (q.symm.trans h)
   ·rw [q, nD] at h; cases h
  ·rcases T.grow a h with (q | q) | q
   ·exact .inl q
   ·exact .inr (q ▸ nD)
   ·exact .inr (new_of K.keep q)
  ·rcases List.mem_append.mp ha with h | h
   ·right
    simp only [List.mem_cons, List.not_mem_nil, or_false] at h
    rcases h with rfl | rfl
    ·exact nD
    ·exact nC
   ·exact .inl h
end

section
variable {w : World} {d : Nat} {F : Fm} {sc : Sc} {ρ ρ' : Rho} {fl : Fl} {e : Expr} {pos : Pos}

/-- `xs, a, b = ([], e, f)`: the empty list becomes the frame's own -/
theorem Ex.deepTup {own : List (Str × Bool)} {x : Str} {px pt lp pe : Pos} {kt ke : Nat} {ts es : List Expr} {vs : List PV} (hs : swapsWithSole [.Tuple (.Name x px :: ts) kt pt] (.Tuple (.List [] lp :: es) ke pe) pos.line F.env = pure false) (hw : swappedStores [.Tuple (.Name x px :: ts) kt pt] (.Tuple (.List [] lp :: es) ke pe) F.env = pure none)
  (hst : storable sc x = true) (he : Evs w d sc .v F.env ρ es vs) (hz : sizeOk (vs.length + 1) = true) (h : bindTs sc own ts vs (ρ.put x (.oo [])) = some ρ') :
  Ex w d F sc ρ (exec (.Assign [.Tuple (.Name x px :: ts) kt pt] (.Tuple (.List [] lp :: es) ke pe) pos) F.env) .next ρ' := fun A s V ad Q E R S k => by
 refine Assign_Tuple (wpAny_Tuple ?_) hs hw
 show wpAny (model pw w) A (spliced ((false, eval (.List [] lp) F.env) :: backTo pe (starEach es F.env))) _ E s
 refine spliced_cons (wpAny_List (spliced_nil ⟨by simp, ?_⟩))
 have hb := get?_size s.heap
 have k₁ : Kp s { s with heap := s.heap.push { cls := .type "list", data := .seq ([] : List Value).toArray } } := .push
 have gb : (s.heap.push { cls := .type "list", data := .seq ([] : List Value).toArray }).get? s.heap.objs.size = some (lobj #[] 0) := Heap.get?_push_size _ rfl
 obtain ⟨S₁, T₁⟩ := S.more k₁ hb ⟨_, gb⟩
 generalize hB : s.heap.objs.size = b at *
 have hbV : b ∉ V := S.rd.low.not_mem hb
 refine he pe A _ (b :: V) ad _ E R S₁.rd fun xs s₂ k₂ rs => ⟨by simp only [List.length_cons]; rw [rs.length]; exact sizeOk_le hz, ?_⟩
 have S₂ := S₁.step k₂
 have k₃ : Kp s₂ { s₂ with heap := s₂.heap.push { cls := .type "tuple", data := .seq (Value.ref b :: xs).toArray } } := .push
 have S₃ := S₂.step k₃
 have rs' := rs.reps
 have e1 := rs'.length
 rw [arm_assign_Tuple]
 refine wpAny_bind (wpAny_standAt ?_)
 obtain ⟨h1, _, h3⟩ := bindTs_ok (w := w) (F := F) ts h
 have hlen : (assignEach (.Name x px :: ts) F.env).length = (Value.ref b :: xs).toArray.size := by
  show ((assignEach ts F.env).length + 1) = _
  rw [(h1 F.env).1]; simp [e1]
 have hstar : (assignEach (.Name x px :: ts) F.env).findIdx? (·.1) = none := by
  show List.findIdx? _ ((false, _) :: assignEach ts F.env) = none
  rw [List.findIdx?_cons]
  simp [(h1 F.env).2]
 unfold unpack
 rw [hstar, hlen]
 refine wpAny_bind (wpAny_holding (wpAny_unpackItems_tuple R.h ⟨_, Heap.get?_push_size _ rfl, rfl, 0, rfl⟩ fun h' hx => ?_))
 have up : ∀ c o, (s₂.heap.push { cls := .type "tuple", data := .seq (Value.ref b :: xs).toArray }).get? c = some o → h'.get? c = some o := fun c o e => hx c o (Nat.ne_of_lt (Heap.lt_size e)) e
 have k₄ : Kp { s₂ with heap := s₂.heap.push { cls := .type "tuple", data := .seq (Value.ref b :: xs).toArray } } { s₂ with heap := h' } := ⟨⟨h', s₂.toks, s₂.gens, rfl, .refl _⟩, up⟩
 have S₄ := S₃.step k₄
 have K₄ := (k₂.trans k₃).trans k₄
 show wpAny (model pw w) A (do holding xs (PySem.assign (.Name x px) F.env (.ref b)); assignInOrder ((assignEach ts F.env).map (·.2)) xs) _ E _
 have notOwn : ∀ y, ¬ Own ρ ad y b := fun y h => hbV (S.vO y b h).1
 refine wpAny_bind (wpAny_holding (wpAny_assign_Name (wp_storeS (sl := .oo []) (B := [b]) (M := fun c => Mut F ρ ad c ∨ c = b) S₄ hst ⟨b, [], 0, rfl, rfl, K₄.keep _ _ gb, trivial⟩ ⟨fun _ c hc => ?_, fun _ c hc y _ => ?_, fun _ => by simp⟩ (fun _ h => .inl h) (fun _ c hc => .inr (List.mem_singleton.mp hc)) fun s₅ S₅ T₅ => ?_)))
 ·rw [List.mem_singleton.mp hc]
  exact ⟨List.mem_cons_self, new_of S.kp.keep hb, fun q => hbV (q ▸ S.vL), fun y c hc q => hbV (q ▸ S.vC y c hc)⟩
 ·rw [List.mem_singleton.mp hc]; exact notOwn y
 ·have TM : ∀ a, (Mut F ρ ad a ∨ a = b) → a ∈ b :: V := fun a h => h.elim (fun q => List.mem_cons_of_mem _ (S.mut a q)) fun q => by rw [q]; exact List.mem_cons_self
  have r₅ : Reps (b :: V) s₅.heap vs xs := T₅.reps TM (((k₃.trans k₄).reps rs'))
  refine h3 A s₅ (b :: V) _ xs _ E R.h S₅ r₅ fun s₆ ad₆ S₆ T₆ => ?_
  exact k .next s₆ (b :: V) ad₆ S₆ (((T₁ (Mut F ρ ad)).trans (.kp K₄)).trans (T₅.trans T₆)) rfl
end

section
variable {w : World} {d : Nat} {F : Fm} {sc : Sc} {ρ ρ' : Rho} {fl : Fl} {e : Expr} {pos : Pos}

theorem Ex.congr {t : Sem Flow} {ρ₁ ρ₂ : Rho} (h : Ex w d F sc ρ t fl ρ₁) (hc : ∀ x, ρ₂.lookup x = ρ₁.lookup x) : Ex w d F sc ρ t fl ρ₂ := fun A s V ad Q E R S k =>
 h A s V ad Q E R S fun f s' V' ad' S' T fr => k f s' V' ad' (S'.congr hc).1 (T.weak fun b hb => ((S'.congr hc).2 b).mp hb) fr

theorem swapsWith_sub {env : Env} {o i : Expr} {p : Pos} {n : Nat} : swapsWith e (some (.Subscript o i p)) n env = pure false := by cases e <;> rfl
theorem swapsSole_tup {env : Env} {ts : List Expr} {k : Nat} {p : Pos} {n : Nat} : swapsWithSole [.Tuple ts k p] e n env = pure false := by cases e <;> rfl
theorem swapQ_ok {env : Env} {x : Str} {p : Pos} {n : Nat} (hk : env.scope.kind = .function) (hn : env.scope.names = sc) (he : ∀ a b c p, e ≠ .SetComp a b c p) (he' : ∀ a b c d p, e ≠ .DictComp a b c d p) : swapsWith e (some (.Name x p)) n env = pure (swapQ sc e x p) := by
 subst hn
 have hb : env.blockKind = .function := by unfold Env.blockKind; rw [hk]; rfl
 cases e <;> first
  | rfl
  | exact absurd rfl (he _ _ _ _)
  | exact absurd rfl (he' _ _ _ _ _)
  | (unfold swapsWith swapQ; dsimp only; rw [hb]; rfl)

theorem not_setComp {Γ : G} {n : Nat} {md : Md} {v : PV} (h : ev Γ n md sc ρ e = some v) : (∀ a b c p, e ≠ .SetComp a b c p) ∧ ∀ a b c d p, e ≠ .DictComp a b c d p := by
 refine ⟨fun a b c p q => ?_, fun a b c d p q => ?_⟩ <;>
  subst q <;> cases n <;> (first | (simp [ev] at h; done) | (unfold ev at h; simp only at h; split at h <;> cases h))
end

structure FmOk (F : Fm) (sc : Sc) : Prop where
 fn : F.env.scope.kind = .function
 nm : F.env.scope.names = sc
theorem FmOk.ia {F : Fm} {sc : Sc} (h : FmOk F sc) : interactive F.env = false := by unfold interactive; rw [h.fn]; rfl

section
variable {w : World} {d : Nat} {F : Fm} {sc : Sc} {Γ : G} {own : List (Str × Bool)} {ρ ρ' : Rho} {fl : Fl} {e : Expr} {pos : Pos}

theorem popPair_some {p : Str} {a : Expr} (h : popPair e = some (p, a)) : ∃ pp1 pp2 ap1 ap2 c1 c2 lp, e = .List [.Call (.Attribute (.Name p pp1) "pop" ap1) [a] [] c1, .Call (.Attribute (.Name p pp2) "pop" ap2) [] [] c2] lp ∧
  (ap1.endLine == c1.line) = true ∧ (ap2.endLine == c2.line) = true ∧ (p == ("__debug__" : Str)) = false := by
 unfold popPair at h
 split at h
 ·split at h
  ·rename_i hc; cases h
   simp only [Bool.and_eq_true, Bool.not_eq_true'] at hc
   obtain ⟨⟨⟨⟨⟨h1, h2⟩, h3⟩, h4⟩, h5⟩, h6⟩ := hc
   have e1 := beq_iff_eq.mp h1; have e2 := beq_iff_eq.mp h2; have e3 := beq_iff_eq.mp h3
   subst e1 e2 e3
   exact ⟨_, _, _, _, _, _, _, rfl, h4, h5, h6⟩
  ·cases h
 ·cases h

theorem asgPop_ok (hΓ : GOk w d Γ) (hF : FmOk F sc) {x p : Str} {px : Pos} {a : Expr} (hp : popPair e = some (p, a)) (h : asgPop own sc (ev Γ 40 · sc ρ ·) ρ x p a = some (fl, ρ')) :
  Ex w d F sc ρ (exec (.Assign [.Name x px] e pos) F.env) fl ρ' := by
 obtain ⟨pp1, pp2, ap1, ap2, c1, c2, lp, rfl, h4, h5, h6⟩ := popPair_some hp
 unfold asgPop at h
 split at h
 ·rename_i hc
  simp only [Bool.and_eq_true, Bool.not_eq_true'] at hc
  split at h
  ·rename_i vs hl he
   split at h
   ·cases h
   ·rename_i hz
    simp only [Bool.not_eq_true', Bool.not_eq_false] at hz
    split at h
    ·rename_i b c r hr
     cases h
     have e1 : vs = r.reverse ++ [c, b] := by
      have := congrArg List.reverse hr
      simpa using this
     subst e1
     have hh := ev_ok hΓ 40 _ _ _ _ _ he F.env
     have hz' := sizeOk_le hz
     have hz'' : r.reverse.length + 2 ≤ 16000000 := by
      have : (r.reverse ++ [c, b]).length ≤ 16000000 := Nat.le_of_ble_eq_true hz
      simpa using this
     refine (Ex.asgPop (xp := px) rfl h4 h5 hc.1.1 hl h6 hz'' (not_starred he) hh.1).congr fun y => ?_
     simp only [Rho.put_look]
     cases y == x <;> cases y == p <;> simp
    ·cases h
  ·cases h
 ·cases h

theorem ev_not_wrong {n : Nat} {md : Md} {v : PV} (h : ev Γ n md sc ρ e = some v) {x : Str} {p : Pos} {l : Nat} (hF : FmOk F sc) : swapsWith e (some (.Name x p)) l F.env = pure (swapQ sc e x p) :=
 swapQ_ok hF.fn hF.nm (not_setComp h).1 (not_setComp h).2

theorem swapQ_comp {x : Str} {p : Pos} (h : swapQ sc e x p = true) : ∃ elt gs scope cp, e = .ListComp elt gs scope cp := by
 unfold swapQ at h
 split at h
 ·exact ⟨_, _, _, _, rfl⟩
 ·cases h

/-- what a list made in place is made of -/
theorem ev_comp_inv (hΓ : GOk w d Γ) {n : Nat} {md : Md} {elt : Expr} {gs : List Comprehension} {scope : Scope} {cp : Pos} {v : PV} {env : Env} (h : ev Γ n md sc ρ (.ListComp elt gs scope cp) = some v) :
  ∃ x px iter ifs vs ws, gs = [⟨.Name x px, iter, ifs, 0⟩] ∧ v = .lst (List.flatten ws) ∧ CompOk sc scope x ∧ sizeOk vs.length = true ∧ (∀ v, foldedSetIterable iter env v = pure v) ∧ EvI w d sc env ρ iter vs ∧ ws.length = vs.length ∧
   ∀ (i : Nat) (v : PV) (r : List PV), vs[i]? = some v → ws[i]? = some r → TurnOk w d (relab sc scope.names) ((x, .v v) :: freeRho sc scope ρ) ifs elt r := by
 cases n with
 | zero => simp [ev] at h
 | succ n =>
  have ih := ev_ok hΓ n
  have evs : ∀ {md' : Md} (hm : md' ≠ .f) {sc' : Sc} {ρ' : Rho} {es : List Expr} {vs : List PV}, es.mapM (ev Γ n md' sc' ρ') = some vs → (∀ e ∈ es, ∀ x p, e ≠ .Starred x p) ∧ Evs w d sc' md' env ρ' es vs := fun {md'} hm {sc'} {ρ'} {es} {vs} h => evs_of hm (fun e v h => ⟨not_starred h, (ih _ _ _ _ _ h env).1⟩) h
  unfold ev at h
  simp only at h
  split at h
  ·rename_i hx; cases hx
  ·rename_i hx; cases hx
   split at h
   ·rename_i hc
    split at h
    ·rename_i vs h1
     split at h
     ·rename_i hz
      split at h
      ·rename_i ws h2
       cases h
       obtain ⟨hlen, hall⟩ := forall_mapM h2
       have tt : ∀ (i : Nat) (v : PV) (r : List PV), vs[i]? = some v → ws[i]? = some r → TurnOk w d (relab sc _) ((_, .v v) :: freeRho sc _ ρ) _ _ r := fun i v r hv' hr => turn_ok (fun e v h env => ih _ _ _ _ _ h env) (hall i v r hv' hr)
       split at h1
       ·rename_i args ha
        rw [Option.bind_eq_some_iff] at h1
        obtain ⟨as, h4, h5⟩ := h1
        obtain ⟨hs, he⟩ := evs (by decide) h4
        exact ⟨_, _, _, _, _, _, rfl, rfl, compOk_of hc, hz, (by obtain ⟨p, q, e, hg⟩ := rangeArgs_some ha; intro x; rw [e]; rfl), (fun A s V ad Q E R rd k => ev_range ha hs he h5 A s V ad Q E R rd fun x s₁ k₁ it _ => k x s₁ k₁ it), hlen, tt⟩
       ·rw [Option.bind_eq_some_iff] at h1
        obtain ⟨a, h4, h5⟩ := h1
        exact ⟨_, _, _, _, _, _, rfl, rfl, compOk_of hc, hz, (not_folded h4 env), (fun A s V ad Q E R rd k => (ih _ _ _ _ _ h4 env).1 A s V ad _ E R rd fun x s₁ k₁ r₁ => k x s₁ k₁ (items_ok h5 r₁)), hlen, tt⟩
      ·cases h
     ·cases h
    ·cases h
   ·cases h
  ·rename_i hx; cases hx
  ·split at h
   ·cases h
   ·rename_i hn _
    cases h

theorem asgName_ok (hΓ : GOk w d Γ) (hF : FmOk F sc) {x : Str} {px : Pos} (h : asgName own sc (ev Γ 40 · sc ρ ·) ρ x e = some (fl, ρ')) :
  Ex w d F sc ρ (exec (.Assign [.Name x px] e pos) F.env) fl ρ' := by
 unfold asgName at h
 split at h
 ·rename_i hst
  split at h
  ·split at h
   ·rename_i vs he; cases h
    have hsw := ev_not_wrong (x := x) (p := px) (l := pos.line) he hF
    cases hq : swapQ sc e x px with
    | false => exact Ex.assignO (hsw.trans (by rw [hq])) hst (ev_ok hΓ 40 _ _ _ _ _ he F.env).1
    | true =>
     obtain ⟨elt, gs, scope, cp, rfl⟩ := swapQ_comp hq
     obtain ⟨y, py, iter, ifs, us, ws, rfl, e2, ho, hz, hset, hi, hl, ht⟩ := ev_comp_inv hΓ (env := F.env) he
     cases e2
     exact Ex.compO (hsw.trans (by rw [hq])) hst ho hz hset hi hl ht
   ·cases h
  ·cases h
  ·split at h
   ·rename_i v he; cases h
    have hsw := ev_not_wrong (x := x) (p := px) (l := pos.line) he hF
    cases hq : swapQ sc e x px with
    | false => exact Ex.assign (hsw.trans (by rw [hq])) hst (ev_ok hΓ 40 _ _ _ _ _ he F.env).1
    | true =>
     obtain ⟨elt, gs, scope, cp, rfl⟩ := swapQ_comp hq
     obtain ⟨y, py, iter, ifs, us, ws, rfl, e2, ho, hz, hset, hi, hl, ht⟩ := ev_comp_inv hΓ (env := F.env) he
     cases e2
     exact Ex.compV (hsw.trans (by rw [hq])) hst ho hz hset hi hl ht
   ·cases h
 ·cases h

theorem evs_ok (hΓ : GOk w d Γ) {md : Md} (hm : md ≠ .f) {n : Nat} {es : List Expr} {vs : List PV} {env : Env} (h : es.mapM (ev Γ n md sc ρ) = some vs) : (∀ e ∈ es, ∀ x p, e ≠ .Starred x p) ∧ Evs w d sc md env ρ es vs :=
 evs_of hm (fun e v h => ⟨not_starred h, (ev_ok hΓ n _ _ _ _ _ h env).1⟩) h

theorem deepTup_some {ts ts' es : List Expr} {x : Str} (h : deepTup own ts e = some (x, ts', es)) : ∃ px lp ke pe, ts = .Name x px :: ts' ∧ e = .Tuple (.List [] lp :: es) ke pe ∧ ts'.length = 3 := by
 unfold deepTup at h
 split at h
 ·split at h
  ·rename_i hc; cases h
   simp only [Bool.and_eq_true, beq_iff_eq] at hc
   exact ⟨_, _, _, _, rfl, rfl, hc.2⟩
  ·cases h
 ·cases h

theorem asgTup_ok (hΓ : GOk w d Γ) (hF : FmOk F sc) {ts : List Expr} {k : Nat} {p : Pos} (h : asgTup own sc (ev Γ 40 · sc ρ ·) ρ ts k p e = some (fl, ρ')) :
  Ex w d F sc ρ (exec (.Assign [.Tuple ts k p] e pos) F.env) fl ρ' := by
 unfold asgTup at h
 split at h
 ·rename_i x ts' es hd
  obtain ⟨px, lp, ke, pe, rfl, rfl, hlen⟩ := deepTup_some hd
  split at h
  ·rename_i hst
   split at h
   ·rename_i vs xs he hn
    split at h
    ·cases h
    ·rename_i hc
     simp only [Bool.or_eq_true, not_or, Bool.not_eq_true', Bool.not_eq_false] at hc
     rw [Option.map_eq_some_iff] at h
     obtain ⟨ρ₁, h1, h2⟩ := h
     cases h2
     refine Ex.deepTup swapsSole_tup ?_ hst (evs_ok hΓ (by decide) he).2 hc.2 h1
     unfold swappedStores
     simp only [List.length_cons, hlen]
     rfl
   ·cases h
  ·cases h
 ·split at h
  ·rename_i v he
   have hh := (ev_ok hΓ 40 _ _ _ _ _ he F.env).1
   split at h
   ·rename_i hs
    rw [Option.map_eq_some_iff] at h
    obtain ⟨ρ₁, h1, h2⟩ := h
    cases h2
    exact Ex.tuple hh swapsSole_tup (swapOf_ok hF.fn hF.nm hs) h1
   ·rename_i names hs
    split at h
    ·rename_i vs
     split at h
     ·rename_i hlen
      rw [Option.map_eq_some_iff] at h
      obtain ⟨ρ₁, h1, h2⟩ := h
      cases h2
      exact Ex.swapped hh swapsSole_tup (swapOf_ok hF.fn hF.nm hs) (beq_iff_eq.mp hlen) h1
     ·cases h
    ·cases h
   ·cases h
  ·cases h

theorem nameOf_some {x : Str} (h : nameOf e = some x) : (∃ p, e = .Name x p) ∧ (x == ("__debug__" : Str)) = false := by
 unfold nameOf at h
 split at h
 ·split at h
  ·cases h
  ·rename_i hc; cases h; exact ⟨⟨_, rfl⟩, Bool.eq_false_iff.mpr hc⟩
 ·cases h
theorem sliceOf_some {lo hi : Expr} (h : sliceOf e = some (lo, hi)) : ∃ p, e = .Slice (some lo) (some hi) none p := by
 unfold sliceOf at h
 split at h
 ·cases h; exact ⟨_, rfl⟩
 ·cases h
theorem lastAt_some {o k : Expr} {x : Str} (h : lastAt o k = some x) : ∃ px m lp, o = .Subscript (.Name x px) m lp ∧ isM1 m = true ∧ (x == ("__debug__" : Str)) = false := by
 unfold lastAt at h
 split at h
 ·split at h
  ·rename_i hc; cases h
   simp only [Bool.and_eq_true, Bool.not_eq_true'] at hc
   exact ⟨_, _, _, rfl, hc.1, hc.2⟩
  ·cases h
 ·cases h

theorem asgSub_ok (hΓ : GOk w d Γ) (hF : FmOk F sc) {o i : Expr} {p : Pos} (h : asgSub (ev Γ 40 · sc ρ ·) ρ o i e = some (fl, ρ')) :
  Ex w d F sc ρ (exec (.Assign [.Subscript o i p] e pos) F.env) fl ρ' := by
 unfold asgSub at h
 split at h
 ·rename_i x hn
  obtain ⟨⟨px, rfl⟩, hd⟩ := nameOf_some hn
  split at h
  ·rename_i lo hi hs
   obtain ⟨sp, rfl⟩ := sliceOf_some hs
   unfold asgSlice at h
   split at h
   ·rename_i vs ws l hh hx he h1 h2
    split at h
    ·rename_i hc; cases h
     simp only [Bool.and_eq_true, decide_eq_true_eq] at hc
     exact Ex.asgSlice hx hd (ev_ok hΓ 40 _ _ _ _ _ he F.env).1 (ev_ok hΓ 40 _ _ _ _ _ h1 F.env).1 (ev_ok hΓ 40 _ _ _ _ _ h2 F.env).1 hc.1.1.1 hc.1.1.2 hc.1.2 (Nat.le_of_ble_eq_true hc.2) swapsWith_sub
    ·cases h
   ·cases h
  ·unfold asgItem at h
   split at h
   ·rename_i vs v j hx he hk
    rw [Option.map_eq_some_iff] at h
    obtain ⟨vs', h1, h2⟩ := h
    cases h2
    exact Ex.asgItem hx hd (ev_ok hΓ 40 _ _ _ _ _ he F.env).1 (ev_ok hΓ 40 _ _ _ _ _ hk F.env).1 (setAt_nonneg h1) h1 swapsWith_sub
   ·cases h
 ·split at h
  ·rename_i x hl
   obtain ⟨px, m, lp, rfl, hm, hd⟩ := lastAt_some hl
   unfold asgLast at h
   split at h
   ·rename_i rows v j hx he hk
    rw [Option.map_eq_some_iff] at h
    obtain ⟨rows', h1, h2⟩ := h
    cases h2
    obtain ⟨rs, r, r', _, h3, _⟩ := lastRow_some h1
    exact Ex.asgLast hx hd hm (ev_ok hΓ 40 _ _ _ _ _ he F.env).1 (ev_ok hΓ 40 _ _ _ _ _ hk F.env).1 (setAt_nonneg h3) h1 swapsWith_sub
   ·cases h
  ·cases h

theorem asg1_ok (hΓ : GOk w d Γ) (hF : FmOk F sc) {t : Expr} (h : asg1 own sc (ev Γ 40 · sc ρ ·) ρ t e = some (fl, ρ')) : Ex w d F sc ρ (exec (.Assign [t] e pos) F.env) fl ρ' := by
 unfold asg1 at h
 split at h
 ·split at h
  ·rename_i hp; exact asgPop_ok hΓ hF hp h
  ·exact asgName_ok hΓ hF h
 ·exact asgTup_ok hΓ hF h
 ·exact asgSub_ok hΓ hF h
 ·cases h

theorem asg3_ok (hΓ : GOk w d Γ) {x y z : Str} {px py pz : Pos} (h : asg3 own sc (ev Γ 40 · sc ρ ·) ρ x y z e = some (fl, ρ')) : Ex w d F sc ρ (exec (.Assign [.Name z pz, .Name y py, .Name x px] e pos) F.env) fl ρ' := by
 unfold asg3 at h
 split at h
 ·rename_i v he
  rw [Option.map_eq_some_iff] at h
  obtain ⟨ρ₁, h1, h2⟩ := h
  cases h2
  exact Ex.asg3 (ev_ok hΓ 40 _ _ _ _ _ he F.env).1 rfl h1
 ·cases h

theorem aug_ok (hΓ : GOk w d Γ) {t : Expr} (h : aug own sc (ev Γ 40 · sc ρ ·) ρ t e = some (fl, ρ')) : Ex w d F sc ρ (exec (.AugAssign t .Add e pos) F.env) fl ρ' := by
 unfold aug at h
 split at h
 ·rename_i x px
  unfold augName at h
  split at h
  ·rename_i a b ha hb
   split at h
   ·rename_i c hc
    rw [Option.map_eq_some_iff] at h
    obtain ⟨ρ₁, h1, h2⟩ := h
    cases h2
    refine Ex.aug ?_ (ev_ok hΓ 40 _ _ _ _ _ hb F.env).1 hc h1
    have ha : ev Γ 40 .v sc ρ (.Name x px) = some a := ha
    unfold ev at ha
    simp only at ha
    rw [if_neg (by decide)] at ha
    split at ha
    ·cases ha
    ·split at ha
     ·rename_i v hv; cases ha; exact hv
     ·cases ha
     ·cases ha
   ·cases h
  ·cases h
 ·split at h
  ·rename_i o k tp x hl
   obtain ⟨px, m, lp, rfl, hm, hd⟩ := lastAt_some hl
   unfold augLast at h
   split at h
   ·rename_i rows i b hx hk hb
    rw [Option.map_eq_some_iff] at h
    obtain ⟨rows', h1, h2⟩ := h
    cases h2
    obtain ⟨rs, r, r', _, h3, _⟩ := lastRow_some h1
    simp only [Option.bind_eq_some_iff] at h3
    obtain ⟨u, _, z, _, h4⟩ := h3
    refine Ex.augLast hx hd hm (ev_ok hΓ 40 _ _ _ _ _ hb F.env).1 (ev_ok hΓ 40 _ _ _ _ _ hk F.env).1 (setAt_nonneg h4) h1 fun ov iv new => ?_
    unfold augStore
    split
    ·exact absurd (show ev Γ 40 .v sc ρ (.Slice _ _ _ _) = some (.int i) from hk) (by rw [ev_slice]; simp)
    ·rfl
   ·cases h
  ·cases h
 ·cases h

theorem exprS_ok (hΓ : GOk w d Γ) (hF : FmOk F sc) (h : exprS (ev Γ 40 · sc ρ ·) ρ e = some (fl, ρ')) : Ex w d F sc ρ (exec (.Expr e pos) F.env) fl ρ' := by
 unfold exprS at h
 split at h
 ·rename_i x e' ha
  unfold appendOf at ha
  split at ha
  ·split at ha
   ·rename_i hc; cases ha
    simp only [Bool.and_eq_true, Bool.not_eq_true'] at hc
    obtain ⟨⟨h1, h2⟩, h3⟩ := hc
    have := beq_iff_eq.mp h1; subst this
    split at h
    ·rename_i vs hx
     split at h
     ·rename_i v he
      split at h
      ·rename_i hz; cases h
       exact Ex.append h2 hx h3 hz (not_starred he) (ev_ok hΓ 40 _ _ _ _ _ he F.env).1 hF.ia
      ·cases h
     ·cases h
    ·rename_i rows hx
     split at h
     ·rename_i r he
      split at h
      ·rename_i hz; cases h
       exact Ex.appendRow h2 hx h3 hz (not_starred he) (ev_ok hΓ 40 _ _ _ _ _ he F.env).1 hF.ia
      ·cases h
     ·cases h
    ·cases h
   ·cases ha
  ·cases ha
 ·cases h

theorem retS_ok (hΓ : GOk w d Γ) (h : retS (ev Γ 40 · sc ρ ·) ρ e = some (fl, ρ')) : Ex w d F sc ρ (exec (.Return (some e) pos) F.env) fl ρ' := by
 unfold retS at h
 split at h
 ·rename_i x hn
  obtain ⟨⟨px, rfl⟩, hd⟩ := nameOf_some hn
  split at h
  ·rename_i v hx; cases h
   exact Ex.ret (Ev.name hx hd)
  ·rename_i vs hx; cases h
   exact Ex.retO hx hd
  ·rename_i rows hx; cases h
   exact Ex.retRows hx hd
  ·cases h
 ·rw [Option.map_eq_some_iff] at h
  obtain ⟨v, h1, h2⟩ := h
  cases h2
  exact Ex.ret (ev_ok hΓ 40 _ _ _ _ _ h1 F.env).1
end

/-- a loop over a call of a generator function that has these items -/
def GenFor (w : World) (d : Nat) (f : Str) (args vs : List PV) : Prop :=
 ∀ (F : Fm) (sc : Sc) (own : List (Str × Bool)) (ρ : Rho) (t : Expr) (a : List Stmt) (body : Rho → Option (Fl × Rho)) (fl : Fl) (ρ' : Rho) (es : List Expr) (p cp pos : Pos), glob sc f = true → FmOk F sc → (∀ e ∈ es, ∀ x p, e ≠ .Starred x p) →
  Evs w d sc .v F.env ρ es args → (∀ ρ fl ρ', body ρ = some (fl, ρ') → Ex w d F sc ρ (execs a F.env) fl ρ') → forGo body (bindT sc own t) vs ρ = some (fl, ρ') → Ex w d F sc ρ (exec (.For t (.Call (.Name f p) es [] cp) a [] pos) F.env) fl ρ'

section
variable {w : World} {d : Nat} {F : Fm} {sc : Sc} {Γ : G} {own : List (Str × Bool)} {ρ ρ' : Rho} {fl : Fl} {e : Expr} {pos : Pos}

theorem genOf_some {n : Nat} {it : Expr} {items : List PV} (h : genOf sc (ev Γ n · sc ρ ·) Γ it = some (some items)) : ∃ f p es cp args, it = .Call (.Name f p) es [] cp ∧ glob sc f = true ∧ es.mapM (ev Γ n .v sc ρ) = some args ∧ Γ.gen f args = some items := by
 unfold genOf at h
 split at h
 ·split at h
  ·rename_i hg
   split at h
   ·rename_i vs hv
    rw [Option.map_eq_some_iff] at h
    obtain ⟨u, h1, h2⟩ := h
    cases h2
    exact ⟨_, _, _, _, _, rfl, hg, hv, h1⟩
   ·cases h
  ·cases h
 ·cases h

theorem run1_ok (hΓ : GOk w d Γ) (hG : ∀ f args vs, Γ.gen f args = some vs → GenFor w d f args vs) (hF : FmOk F sc) {rec : Rho → List Stmt → Option (Fl × Rho)} (hrec : ∀ sts ρ fl ρ', rec ρ sts = some (fl, ρ') → Ex w d F sc ρ (execs sts F.env) fl ρ') {st : Stmt}
  (h : run1 Γ own sc rec ρ st = some (fl, ρ')) : Ex w d F sc ρ (exec st F.env) fl ρ' := by
 unfold run1 at h
 split at h
 ·exact asg1_ok hΓ hF h
 ·exact asg3_ok hΓ h
 ·exact aug_ok hΓ h
 ·exact exprS_ok hΓ hF h
 ·split at h
  ·rename_i hc; exact Ex.if_ ((ev_ok hΓ 40 _ _ _ _ _ hc F.env).2 _ rfl) (hrec _ _ _ _ h)
  ·rename_i hc; exact Ex.if_ ((ev_ok hΓ 40 _ _ _ _ _ hc F.env).2 _ rfl) (hrec _ _ _ _ h)
  ·cases h
 ·exact Ex.while_ (fun ρ b hb => (ev_ok hΓ 40 _ _ _ _ _ hb F.env).2 _ rfl) (fun ρ fl ρ' hb => hrec _ _ _ _ hb) h
 ·split at h
  ·rename_i items hg
   obtain ⟨f, p, es, cp, args, rfl, hgl, hv, hgen⟩ := genOf_some hg
   obtain ⟨hs, he⟩ := evs_ok hΓ (by decide) hv
   exact hG _ _ _ hgen F sc own ρ _ _ _ fl ρ' es p cp _ hgl hF hs he (fun ρ fl ρ' hb => hrec _ _ _ _ hb) h
  ·split at h
   ·rename_i v hv
    split at h
    ·rename_i vs hi
     exact Ex.for_ (not_folded hv F.env) (ev_ok hΓ 40 _ _ _ _ _ hv F.env).1 hi (fun ρ fl ρ' hb => hrec _ _ _ _ hb) h
    ·cases h
   ·cases h
 ·exact retS_ok hΓ h
 ·cases h; exact Ex.brk
 ·cases h

theorem seqGo_ok {one : Rho → Stmt → Option (Fl × Rho)} (h1 : ∀ st ρ fl ρ', one ρ st = some (fl, ρ') → Ex w d F sc ρ (exec st F.env) fl ρ') : ∀ (sts : List Stmt) (ρ : Rho) (fl : Fl) (ρ' : Rho), seqGo one ρ sts = some (fl, ρ') → Ex w d F sc ρ (execs sts F.env) fl ρ'
 | [], ρ, fl, ρ', h => by simp [seqGo] at h; obtain ⟨rfl, rfl⟩ := h; exact Ex.seq_nil
 | st :: r, ρ, fl, ρ', h => by
  unfold seqGo at h
  simp only [Option.bind_eq_bind, Option.bind_eq_some_iff] at h
  obtain ⟨⟨f₁, ρ₁⟩, h2, h3⟩ := h
  cases f₁ with
  | next => exact Ex.seq_cons (h1 _ _ _ _ h2) (seqGo_ok h1 r _ _ _ h3)
  | brk => cases h3; exact Ex.seq_stop (h1 _ _ _ _ h2) (by simp)
  | cont => cases h3; exact Ex.seq_stop (h1 _ _ _ _ h2) (by simp)
  | ret v => cases h3; exact Ex.seq_stop (h1 _ _ _ _ h2) (by simp)

theorem run_ok (hΓ : GOk w d Γ) (hG : ∀ f args vs, Γ.gen f args = some vs → GenFor w d f args vs) (hF : FmOk F sc) : ∀ (n : Nat) (sts : List Stmt) (ρ : Rho) (fl : Fl) (ρ' : Rho), run Γ own sc n ρ sts = some (fl, ρ') → Ex w d F sc ρ (execs sts F.env) fl ρ'
 | 0, _, _, _, _, h => by simp [run] at h
 | n + 1, sts, ρ, fl, ρ', h => by
  unfold run at h
  exact seqGo_ok (fun st ρ fl ρ' h1 => run1_ok hΓ hG hF (fun sts ρ fl ρ' h2 => run_ok hΓ hG hF n sts ρ fl ρ' h2) h1) sts ρ fl ρ' h
end

theorem cellsFrom_acc : ∀ (names : Sc) (n : Nat) (acc : List (Str × Addr)) (x : Str), (acc.lookup x).isSome = true → ((cellsFrom n names acc).lookup x).isSome = true
 | [], _, _, _, h => h
 | (y, k) :: r, n, acc, x, h => by
  unfold cellsFrom
  split
  ·refine cellsFrom_acc r _ _ x ?_
   rw [List.lookup_cons]
   cases x == y <;> simp [h]
  ·exact cellsFrom_acc r _ _ x h
theorem cellsFrom_look : ∀ (names : Sc) (n : Nat) (acc : List (Str × Addr)) (x : Str), names.lookup x = some .cell → ((cellsFrom n names acc).lookup x).isSome = true
 | [], _, _, _, h => by cases h
 | (y, k) :: r, n, acc, x, h => by
  rw [List.lookup_cons] at h
  unfold cellsFrom
  cases hxy : x == y with
  | true =>
   rw [hxy] at h; cases h
   rw [if_pos (by decide)]
   exact cellsFrom_acc r _ _ x (by rw [List.lookup_cons, hxy]; rfl)
  | false =>
   rw [hxy] at h
   split
   ·exact cellsFrom_look r _ _ x h
   ·exact cellsFrom_look r _ _ x h

theorem rho0_look {names : Sc} {x : Str} {sl : Slot} (h : (rho0 names).lookup x = some sl) : sl = .u := by
 unfold rho0 at h
 have := mem_of_lookup h
 rw [List.mem_map] at this
 obtain ⟨y, _, e⟩ := this
 cases e; rfl

theorem putAll_look : ∀ (bs : List (Str × PV)) (ρ : Rho) (x : Str) (sl : Slot), (putAll bs ρ).lookup x = some sl → ρ.lookup x = some sl ∨ ∃ v, (x, v) ∈ bs ∧ sl = .v v
 | [], ρ, x, sl, h => .inl h
 | (y, v) :: r, ρ, x, sl, h => by
  rcases putAll_look r _ x sl h with h | ⟨u, hu, e⟩
  ·rw [Rho.put_look] at h
   by_cases hy : x = y
   ·subst hy
    simp only [beq_self_eq_true, if_true] at h
    cases h
    exact .inr ⟨v, List.mem_cons_self, rfl⟩
   ·rw [if_neg (by simpa using hy)] at h; exact .inl h
  ·exact .inr ⟨u, List.mem_cons_of_mem _ hu, e⟩

theorem bindL_other {k : Str → Option NameKind} : ∀ (bs : List (Str × Value)) (m : Str → Option Value) (x : Str), x ∉ bs.map (·.1) → bindL k bs m x = m x
 | [], _, _, _ => rfl
 | (y, v) :: r, m, x, h => by
  simp only [List.map_cons, List.mem_cons, not_or] at h
  unfold bindL
  rw [bindL_other r _ x h.2]
  split
  ·exact if_neg h.1
  ·rfl
theorem bindC_other {k : Str → Option NameKind} : ∀ (bs : List (Str × Value)) (m : Str → Option Value) (x : Str), x ∉ bs.map (·.1) → bindC k bs m x = m x
 | [], _, _, _ => rfl
 | (y, v) :: r, m, x, h => by
  simp only [List.map_cons, List.mem_cons, not_or] at h
  unfold bindC
  rw [bindC_other r _ x h.2]
  split
  ·rfl
  ·exact if_neg h.1
theorem bindL_get {k : Str → Option NameKind} : ∀ (bs : List (Str × Value)) (m : Str → Option Value) (x : Str) (v : Value), (bs.map (·.1)).Nodup → (x, v) ∈ bs → k x = some .local → bindL k bs m x = some v
 | [], _, _, _, _, h, _ => by cases h
 | (y, u) :: r, m, x, v, hn, h, hk => by
  simp only [List.map_cons, List.nodup_cons] at hn
  unfold bindL
  rcases List.mem_cons.mp h with e | h
  ·cases e
   rw [bindL_other r _ _ hn.1, if_pos hk, if_pos rfl]
  ·exact bindL_get r _ x v hn.2 h hk
theorem bindC_get {k : Str → Option NameKind} : ∀ (bs : List (Str × Value)) (m : Str → Option Value) (x : Str) (v : Value), (bs.map (·.1)).Nodup → (x, v) ∈ bs → k x ≠ some .local → bindC k bs m x = some v
 | [], _, _, _, _, h, _ => by cases h
 | (y, u) :: r, m, x, v, hn, h, hk => by
  simp only [List.map_cons, List.nodup_cons] at hn
  unfold bindC
  rcases List.mem_cons.mp h with e | h
  ·cases e
   rw [bindC_other r _ _ hn.1, if_neg hk, if_pos rfl]
  ·exact bindC_get r _ x v hn.2 h hk

theorem zip_rep {V : List Addr} {h : Heap} : ∀ {ps : List Str} {vs : List PV} {xs : List Value} {x : Str} {v : PV}, Reps V h vs xs → (ps.zip vs).Nodup ∨ True → (x, v) ∈ ps.zip vs → ∃ val, (x, val) ∈ ps.zip xs ∧ Rep V h v val
 | [], vs, xs, x, v, _, _, h => by simp at h
 | p :: ps, [], xs, x, v, _, _, h => by simp at h
 | p :: ps, v :: vs, _, x, u, .cons r rs, _, h => by
  rw [List.zip_cons_cons] at h ⊢
  rcases List.mem_cons.mp h with e | h
  ·cases e; exact ⟨_, List.mem_cons_self, r⟩
  ·obtain ⟨val, h1, h2⟩ := zip_rep rs (.inr trivial) h
   exact ⟨val, List.mem_cons_of_mem _ h1, h2⟩

/-- what a function must be for the call rule -/
structure FnOk (fd : FuncData) (body : List Stmt) : Prop where
 kind : fd.scope.kind = .function
 co : fd.scope.isCoroutine = false
 body : fd.body = .stmts body
 globals : fd.globals = 3
 blt : fd.builtins = 0
 clo : fd.closure = []
 ps : ∀ x ∈ fd.params.args.map (·.arg), fd.scope.names.lookup x = some .local ∨ fd.scope.names.lookup x = some .cell
 nodup : (fd.params.args.map (·.arg)).Nodup
 code : ∀ w h, KIn w h → h.CodeRec fd.code fd.qualname
 bind : ∀ vals, vals.length = (fd.params.args.map (·.arg)).length → bindArgs fd ⟨vals, []⟩ = pure ((fd.params.args.map (·.arg)).zip vals)

def frameOf (fd : FuncData) (a : Addr) (s : Shared) (V : List Addr) : Fm := ⟨callEnvC fd s.heap.objs.size a, s, V⟩

theorem zip_fst {α β : Type} : ∀ {l : List α} {r : List β}, l.length ≤ r.length → (l.zip r).map (·.1) = l
 | [], _, _ => by simp
 | a :: l, [], h => by simp at h
 | a :: l, b :: r, h => by simp [zip_fst (l := l) (r := r) (by simpa using h)]

def cellL (cl : List (Str × Addr)) : List Addr := cl.filterMap fun p => cl.lookup p.1
theorem cellL_mem {cl : List (Str × Addr)} {c : Addr} : c ∈ cellL cl ↔ ∃ x, cl.lookup x = some c := by
 unfold cellL
 rw [List.mem_filterMap]
 exact ⟨fun ⟨p, _, h⟩ => ⟨p.1, h⟩, fun ⟨x, h⟩ => ⟨(x, c), mem_of_lookup h, h⟩⟩

/-- the frame as it stands when a call begins -/
theorem begin_call {w : World} {fd : FuncData} {body : List Stmt} (hf : FnOk fd body) {a : Addr} {s s₁ : Shared} {V : List Addr} {args : List PV} {xs : List Value} (kin : KIn w s.heap) (lv : Live s.heap V) (rs : Reps V s.heap args xs)
  (hlen : args.length = (fd.params.args.map (·.arg)).length)
  (X : InCallC s (callEnvC fd s.heap.objs.size a).locals (bindL (callEnvC fd s.heap.objs.size a).kindOf ((fd.params.args.map (·.arg)).zip xs) fun _ => none) (callEnvC fd s.heap.objs.size a).cells (bindC (callEnvC fd s.heap.objs.size a).kindOf ((fd.params.args.map (·.arg)).zip xs) fun _ => none) s₁) :
  St w (frameOf fd a s V) fd.scope.names (s.heap.objs.size :: (cellL (cellsFrom (s.heap.objs.size + 1) fd.scope.names []) ++ V)) (fun _ => []) (putAll ((fd.params.args.map (·.arg)).zip args) (rho0 fd.scope.names)) s₁ ∧ Kp s s₁ := by
 have keep := X.toInCall.keep
 obtain ⟨h₁, tk, e⟩ := X.toInCall.same
 have K : Kp s s₁ := by subst e; exact Kp.heap keep
 have hxs := rs.length
 have hfst : ((fd.params.args.map (·.arg)).zip xs).map (·.1) = fd.params.args.map (·.arg) := zip_fst (by rw [hxs, hlen]; exact Nat.le_refl _)
 have new : ∀ c, s.heap.objs.size ≤ c → s.heap.get? c = none := fun c hc => by
  cases e : s.heap.get? c with
  | none => rfl
  | some o => exact absurd (Heap.lt_size e) (Nat.not_lt.mpr hc)
 have cells : ∀ x c, (cellsFrom (s.heap.objs.size + 1) fd.scope.names []).lookup x = some c → (∃ v, s₁.heap.IsCell c v) ∧ s.heap.get? c = none := fun x c hc => ⟨⟨_, X.cell x c hc⟩, new c (Nat.le_of_lt (X.above x c (mem_of_lookup hc)))⟩
 have noOwn : ∀ x sl, (putAll ((fd.params.args.map (·.arg)).zip args) (rho0 fd.scope.names)).lookup x = some sl → sl.own = true → False := fun x sl h ho => by
  rcases putAll_look _ _ _ _ h with h | ⟨v, _, rfl⟩
  ·rw [rho0_look h] at ho; cases ho
  ·cases ho
 have hL := get?_size s.heap
 refine ⟨?_, K⟩
 refine { rd := ⟨kin.keeps keep, hf.kind, rfl, fun x hx => cellsFrom_look _ _ _ x hx, hf.globals, hf.blt, fun b hb => ?_, fun x sl hx => ?_⟩, kp := K, kin₀ := kin, low₀ := lv, ns := ⟨_, X.toInCall.ns⟩, newL := hL, cells := cells, apart := fun x y c hx hy => name_of_addr X.apart (mem_of_lookup hx) (mem_of_lookup hy), v0 := fun b hb => List.mem_cons_of_mem _ (List.mem_append_right _ hb), vL := List.mem_cons_self, vC := fun x c hc => List.mem_cons_of_mem _ (List.mem_append_left _ (cellL_mem.mpr ⟨x, hc⟩)), vV := fun b hb => ?_, vO := fun x b ⟨sl, h1, h2, _⟩ => (noOwn x sl h1 h2).elim, vD := fun x y b ⟨sl, h1, h2, _⟩ => (noOwn x sl h1 h2).elim, vN := fun x sl h1 h2 => (noOwn x sl h1 h2).elim }
 ·rcases List.mem_cons.mp hb with rfl | hb
  ·obtain ⟨o, es, ep, q, _⟩ := X.toInCall.ns; exact ⟨o, q⟩
  ·rcases List.mem_append.mp hb with hb | hb
   ·obtain ⟨x, hx⟩ := cellL_mem.mp hb
    obtain ⟨⟨v, o, q, _⟩, _⟩ := cells x b hx
    exact ⟨o, q⟩
   ·exact lv.keeps keep b hb
 ·rcases putAll_look _ _ _ _ hx with h | ⟨v, hm, rfl⟩
  ·rw [rho0_look h]; trivial
  ·obtain ⟨val, hz, hr⟩ := zip_rep rs (.inr trivial) hm
   have hmem : x ∈ fd.params.args.map (·.arg) := (List.of_mem_zip hm).1
   have hr' : Rep (s.heap.objs.size :: (cellL (cellsFrom (s.heap.objs.size + 1) fd.scope.names []) ++ V)) s₁.heap v val := hr.mono (fun y o _ q => keep y o q) fun y hy => by
    rcases List.mem_cons.mp hy with rfl | hy
    ·exact .inr hL
    ·rcases List.mem_append.mp hy with hy | hy
     ·obtain ⟨z, hz⟩ := cellL_mem.mp hy; exact .inr (cells z y hz).2
     ·exact .inl hy
   refine SlotAt.of (val := val) ?_ hr'
   rcases hf.ps x hmem with hk | hk
   ·exact .inl ⟨hk, _, X.toInCall.ns, bindL_get _ _ _ _ (by rw [hfst]; exact hf.nodup) hz hk⟩
   ·obtain ⟨c, hc⟩ := Option.isSome_iff_exists.mp (cellsFrom_look fd.scope.names (s.heap.objs.size + 1) [] x hk)
    refine .inr ⟨hk, c, hc, ?_⟩
    have q := X.cell x c hc
    rw [bindC_get _ _ _ _ (by rw [hfst]; exact hf.nodup) hz (by show fd.scope.names.lookup x ≠ _; rw [hk]; decide)] at q
    exact q
 ·rcases List.mem_cons.mp hb with rfl | hb
  ·exact .inr hL
  ·rcases List.mem_append.mp hb with hb | hb
   ·obtain ⟨x, hx⟩ := cellL_mem.mp hb; exact .inr (cells x b hx).2
   ·exact .inl hb

theorem fnCall_of {w : World} {d : Nat} {Γ : G} (hΓ : GOk w d Γ) (hG : ∀ f args vs, Γ.gen f args = some vs → GenFor w d f args vs) {fd : FuncData} {body : List Stmt} (hf : FnOk fd body) (hgen : fd.scope.isGenerator = false) {a : Addr} {o : Obj} (ho : ∀ w h, KIn w h → h.get? a = some o) (hd : o.data = .func fd)
  {own : List (Str × Bool)} {n : Nat} {args : List PV} {v : PV} (h : callF Γ own n fd args = some v) : FnCall w (d + 1) (.ref a) args v := by
 intro A s pos ts Q E R hp hts
 unfold callF at h
 simp only [hf.body] at h
 have hlen : args.length = (fd.params.args.map (·.arg)).length := by
  by_cases q : (fd.params.args.map (·.arg)).length = args.length
  ·exact q.symm
  ·rw [if_pos (by simpa using q)] at h; cases h
 rw [if_neg (by simp [hlen])] at h
 refine callWith_function (fd := fd) (o := o) (evalArgs_any hp (wpAny_mono hts (fun xs s₁ hx => ?_) fun _ _ e => e))
 obtain ⟨kin, V, lv, rs, k⟩ := hx
 refine ⟨⟨ho w _ kin, hd⟩, ?_⟩
 refine wpAny_call ?_
 refine codeAny_call_cells (by have := R.depth; show A.depth < 1000; omega) (ho w _ kin) hd kin.nolimit (hf.code w _ kin) hf.body (hf.bind xs (by rw [rs.length, hlen])) hf.clo (fun x hx => ?_) (fun s₂ X => ?_) hf.co hgen hf.kind
 ·have hm := (List.of_mem_zip hx).1
  rcases hf.ps x.1 hm with hk | hk
  ·exact .inl hk
  ·exact .inr ⟨hk, cellsFrom_look _ _ _ _ hk⟩
 ·obtain ⟨S, K⟩ := begin_call (a := a) hf kin lv rs hlen X
  have hF : FmOk (frameOf fd a s₁ V) fd.scope.names := ⟨hf.kind, rfl⟩
  have fin : ∀ {fl ρ'}, run Γ own fd.scope.names n (putAll ((fd.params.args.map (·.arg)).zip args) (rho0 fd.scope.names)) body = some (fl, ρ') → (∀ f (s' : Shared), FlRep V s'.heap fl f → Rep V s'.heap v (match f with | .ret v => v | _ => .none)) →
    wpAny (model pw w) (A.deeper (callEnvC fd s₁.heap.objs.size a)) (execs body (callEnvC fd s₁.heap.objs.size a)) (fun f s' => Q (match f with | .ret v => v | _ => .none) s') (fun e s' => wpAny (model pw w) (A.deeper (callEnvC fd s₁.heap.objs.size a)) (leaving (callEnvC fd s₁.heap.objs.size a) e) (fun _ s'' => E e s'') (fun e' s'' => E e' s'') s') s₂ := fun hrun hv =>
   run_ok hΓ hG hF n _ _ _ _ hrun (A.deeper (callEnvC fd s₁.heap.objs.size a)) s₂ _ _ _ _ R.deeper S fun f s' V' ad' S' T fr => k _ s' S'.kp (hv f s' fr)
  split at h
  ·rename_i r ρ' hr; cases h
   exact fin hr fun f s' fr => by obtain ⟨val, rfl, r⟩ := fr; exact r
  ·rename_i ρ' hr; cases h
   exact fin hr fun f s' fr => by cases fr; exact .none
  ·cases h

/-! ## the tables -/
def exL : List (Str × Int) := ([("!", 54), ("!=", 28), ("%", 24), ("%=", 40), ("&", 19), ("&=", 41), ("(", 7), (")", 8), ("*", 16), ("**", 35), ("**=", 46), ("*=", 38), ("+", 14), ("+=", 36), (",", 12), ("-", 15), ("-=", 37), ("->", 51), (".", 23), ("...", 52), ("/", 17), ("//", 47), ("//=", 48), ("/=", 39), (":", 11), (":=", 53), (";", 13), ("<", 20), ("<<", 33), ("<<=", 44), ("<=", 29), ("=", 22), ("==", 27), (">", 21), (">=", 30), (">>", 34), (">>=", 45), ("@", 49), ("@=", 50), ("[", 9), ("]", 10), ("^", 32), ("^=", 43), ("{", 25), ("|", 18), ("|=", 42), ("}", 26), ("~", 31)] : List (String × Int)).map fun p => (Str.ofString p.1, p.2)
def b1L : List Int := [173, 847, 6150, 6155, 6156, 6157, 8203, 8204, 8205, 8288, 65279] ++ (List.range 16).map fun (k : Nat) => 65024 + (k : Int)

def rowsD : List DictEntry → Option (List (Str × Int))
 | [] => some []
 | ⟨_, .str x _, .int i _⟩ :: r => (rowsD r).map ((x, i) :: ·)
 | _ => none
theorem rowsD_ok {h : Heap} : ∀ {es : List DictEntry} {D : List (Str × Int)}, rowsD es = some D → KTD.Rows (KTD.Dat.At h) es (D.map fun p => (p.1, KTD.Dat.flat (.int p.2)))
 | [], D, e => by cases e; exact .nil
 | ⟨_, k, v⟩ :: r, D, e => by
  unfold rowsD at e
  split at e
  ·cases ‹_ :: _ = []›
  ·rename_i hx
   cases hx
   rw [Option.map_eq_some_iff] at e
   obtain ⟨D', e', rfl⟩ := e
   exact .cons rfl (PyProof.V.Flat.int _ _) (rowsD_ok e')
  ·cases e

theorem ex_obj (P : Params) : (K P).lookup 166 = some (kObj P 166) := by kernel_rfl
theorem ex_exact (P : Params) : (kObj P 166).ExactDict := ⟨by kernel_rfl, by kernel_rfl, by kernel_rfl⟩
theorem ex_data (P : Params) : (kObj P 166).data = .dict (esOf (kObj P 166)) (epOf (kObj P 166)) := by kernel_rfl
theorem ex_rows (P : Params) : rowsD (esOf (kObj P 166)).toList = some exL := by kernel_rfl
theorem ex_name (P : Params) : nsK P 3 "EXACT_TOKEN_TYPES" = some (.ref 166) := by kernel_rfl

abbrev exDat : List (Str × KTD.Dat) := exL.map fun p => (p.1, KTD.Dat.flat (.int p.2))
theorem ex_tab {w : World} {h : Heap} (x : KIn w h) : KTD.TextTab h 166 exDat :=
 ⟨by rfl, _, _, _, x.get (ex_obj _), ex_exact _, ex_data _, rowsD_ok (ex_rows _)⟩
theorem datumAt_look (k : Str) : ∀ (D : List (Str × Int)), KTD.datumAt k (D.map fun p => (p.1, KTD.Dat.flat (.int p.2))) = (D.lookup k).map fun i => KTD.Dat.flat (.int i)
 | [] => rfl
 | (x, i) :: D => by
  show (if decide (k = x) = true then some (KTD.Dat.flat (.int i)) else KTD.datumAt k (D.map fun p => (p.1, KTD.Dat.flat (.int p.2)))) = _
  rw [List.lookup_cons, datumAt_look k D]
  by_cases hx : k = x
  ·subst hx; simp
  ·rw [if_neg (by simpa using hx)]
   have : (k == x) = false := by simpa using hx
   rw [this]
theorem inKeys_look (k : Str) (D : List (Str × Int)) : KTD.inKeys k (D.map fun p => (p.1, KTD.Dat.flat (.int p.2))) = (D.lookup k).isSome := by
 rw [← KTD.isSome_datumAt, datumAt_look]
 cases D.lookup k <;> rfl

theorem has_ex {w : World} {x : Str} : HasCall w (.ref 166) (.str x) (exL.lookup x).isSome := fun A d s V v Q E R kin r k => by
 obtain ⟨t, rfl⟩ := RepL.str r
 refine KTD.in_text (h₀ := s.heap) (D := exDat) ⟨ex_tab kin, fun _ _ e => e⟩ ?_
 rw [inKeys_look]
 exact k _ .tok

theorem get_ex {w : World} {x : Str} {d : PV} : GetCall w (.ref 166) [.str x, d] (match exL.lookup x with | some i => .int i | none => d) := fun A dd s pos ts Q E R hp kin hts => by
 have T₀ : KTD.Here s.heap s.heap 166 exDat := ⟨ex_tab kin, fun _ _ e => e⟩
 refine ⟨"dict", "dict.get", PySem.F.plainAttrs_dict, PySem.F.slot_dict_get, PySem.F.type_dict_get, T₀.typeIs, T₀.noDict, ?_⟩
 refine callWith_builtin hp (evalArgs_any hp (wpAny_mono hts (fun xs s₁ hx => ?_) fun _ _ e => e))
 obtain ⟨kin₁, V, rs, k⟩ := hx
 obtain ⟨a, b, rfl, ra, rb⟩ := reps_two rs
 obtain ⟨t, rfl⟩ := ra.str_inv
 have T : KTD.Here s₁.heap s₁.heap 166 exDat := ⟨ex_tab kin₁, fun _ _ e => e⟩
 refine call_meetsIn PySem.F.slot_dict_get T.typeIs PySem.F.entry_dict_get (PySem.F.args_dict_get_3 _ _ _) (KTD.meets_get2 (h₀ := s₁.heap) (D := exDat)) ⟨T, fun dt v hd hv => ?_, fun hd => ?_⟩
 ·rw [datumAt_look] at hd
  cases hl : exL.lookup x with
  | none => rw [hl] at hd; cases hd
  | some i =>
   rw [hl] at hd; cases hd
   obtain ⟨t', rfl⟩ := PyProof.V.Flat.int_inv hv
   exact k _ _ .tok (by rw [hl]; exact .int)
 ·rw [datumAt_look] at hd
  cases hl : exL.lookup x with
  | none => exact k _ _ .tok (by rw [hl]; exact rb)
  | some i => rw [hl] at hd; cases hd

/-! the table of folded letters -/
def rowsB : List DictEntry → Option (List (Nat × Str))
 | [] => some []
 | ⟨h, .int (.ofNat i) _, .str y _⟩ :: r => if h == hashInt (.ofNat i) then (rowsB r).map ((i, y) :: ·) else none
 | _ => none
theorem rowsB_keys {prog : Program} {w : World} : ∀ {es : List DictEntry} {D : List (Nat × Str)}, rowsB es = some D → ∀ e ∈ es, ∃ k, (intKind prog w).is k e.key = true ∧ e.hash = (intKind prog w).hash k
 | [], D, _, e, he => by cases he
 | ⟨_, k, v⟩ :: r, D, e, x, hx => by
  unfold rowsB at e
  split at e
  ·cases ‹_ :: _ = []›
  ·rename_i hh hy
   cases hy
   split at e
   ·rename_i hq
    rw [Option.map_eq_some_iff] at e
    obtain ⟨D', e', rfl⟩ := e
    rcases List.mem_cons.mp hx with rfl | hx
    ·exact ⟨Int.ofNat _, by show (_ == _) = true; simp, beq_iff_eq.mp hq⟩
    ·exact rowsB_keys e' x hx
   ·cases e
  ·cases e
theorem rowsB_find {c : Int} : ∀ {es : List DictEntry} {D : List (Nat × Str)}, rowsB es = some D →
  match (if 0 ≤ c then D.lookup c.toNat else none) with
  | some y => ∃ t, (es.find? fun e => Value.isInt c e.key).map (·.val) = some (.str y t)
  | none => (es.find? fun e => Value.isInt c e.key).map (·.val) = none
 | [], D, e => by cases e; split <;> simp_all
 | ⟨_, k, v⟩ :: r, D, e => by
  unfold rowsB at e
  split at e
  ·cases ‹_ :: _ = []›
  ·rename_i hh i t y u rr hy
   cases hy
   split at e
   ·rw [Option.map_eq_some_iff] at e
    obtain ⟨D', e', rfl⟩ := e
    have ih := rowsB_find (c := c) e'
    rw [List.find?_cons, List.lookup_cons]
    by_cases hc : ((i : Nat) : Int) = c
    ·subst hc
     have h1 : Value.isInt ((i : Nat) : Int) (.int (Int.ofNat i) t) = true := by show (_ == _) = true; simp
     have h2 : (((i : Nat) : Int).toNat == i) = true := by simp
     simp only [h1, h2]
     rw [if_pos (Int.natCast_nonneg i)]
     exact ⟨u, rfl⟩
    ·have h1 : Value.isInt c (.int (Int.ofNat i) t) = false := by show (_ == _) = false; simpa using hc
     simp only [h1]
     by_cases h0 : 0 ≤ c
     ·have h2 : (c.toNat == i) = false := by
       rw [beq_eq_false_iff_ne]; intro q; apply hc; rw [← q]; exact Int.toNat_of_nonneg h0
      simp only [h2]
      exact ih
     ·rw [if_neg h0] at ih ⊢; exact ih
   ·cases e
  ·cases e

theorem b3_obj (P : Params) : (K P).lookup 120 = some (kObj P 120) := by kernel_rfl
theorem b3_exact (P : Params) : (kObj P 120).ExactDict := ⟨by kernel_rfl, by kernel_rfl, by kernel_rfl⟩
theorem b3_data (P : Params) : (kObj P 120).data = .dict (esOf (kObj P 120)) (epOf (kObj P 120)) := by kernel_rfl
theorem b3_rows (P : Params) : rowsB (esOf (kObj P 120)).toList = some b3L := by kernel_rfl
theorem b3_name (P : Params) : nsK P 3 "b3_exceptions" = some (.ref 120) := by kernel_rfl

theorem b3_map {w : World} {h : Heap} (x : KIn w h) : h.MapOf (intKind pw w) 120 (fun k => findBy Value.isInt (esOf (kObj w.params 120)) k) :=
 ⟨_, _, _, x.get (b3_obj _), b3_exact _, b3_data _, fun e he => rowsB_keys (b3_rows w.params) e (Array.mem_toList_iff.mpr he), fun _ => rfl⟩

def b3Get (c : Int) : PV := match (if 0 ≤ c then b3L.lookup c.toNat else none) with
 | some y => .str y
 | none => .none
theorem get_b3 {w : World} {c : Int} : GetCall w (.ref 120) [.int c] (b3Get c) := fun A dd s pos ts Q E R hp kin hts => by
 have M := b3_map kin
 refine ⟨"dict", "dict.get", PySem.F.plainAttrs_dict, PySem.F.slot_dict_get, PySem.F.type_dict_get, M.typeIs, M.noDict, ?_⟩
 refine callWith_builtin hp (evalArgs_any hp (wpAny_mono hts (fun xs s₁ hx => ?_) fun _ _ e => e))
 obtain ⟨kin₁, V, rs, k⟩ := hx
 cases rs with
 | cons ra rs =>
  cases rs
  obtain ⟨t, rfl⟩ := ra.int_inv
  have M₁ := b3_map kin₁
  refine call_meetsIn PySem.F.slot_dict_get M₁.typeIs PySem.F.entry_dict_get (PySem.F.args_dict_get_2 _ _) (meets_dict_get (intKind pw w) 120 (k := c) (by show (_ == _) = true; simp) (by rfl)) ⟨_, M₁, ?_⟩
  have hf := rowsB_find (c := c) (b3_rows w.params)
  have e1 : findBy Value.isInt (esOf (kObj w.params 120)) c = ((esOf (kObj w.params 120)).toList.find? fun e => Value.isInt c e.key).map (·.val) := by
   unfold findBy
   rw [← Array.find?_toList]
  rw [e1]
  unfold b3Get at k
  split at hf
  ·rename_i y hy
   obtain ⟨u, hu⟩ := hf
   rw [hu]
   exact k _ _ .tok (by rw [hy]; exact .str)
  ·rename_i hy
   rw [hf]
   exact k _ _ .tok (by rw [hy]; exact .none)

/-! the set of letters that are not seen -/
theorem b1_obj (P : Params) : (K P).lookup 109 = some (kObj P 109) := by kernel_rfl
theorem b1_exact (P : Params) : (kObj P 109).ExactSet := ⟨by kernel_rfl, by kernel_rfl, by kernel_rfl⟩
theorem b1_name (P : Params) : nsK P 3 "b1_set" = some (.ref 109) := by kernel_rfl
def setOfO (o : Obj) : List (Int × Value) := match o.data with | .set es _ _ => es.toList | _ => []
def setInts : List (Int × Value) → Option (List Int)
 | [] => some []
 | (h, .int i _) :: r => if h == hashInt i then (setInts r).map (i :: ·) else none
 | _ => none
theorem setInts_ok {prog : Program} {w : World} : ∀ {es : List (Int × Value)} {D : List Int}, setInts es = some D → ElemsOf (intKind prog w) es ∧ ∀ k, k ∈ D ↔ ∃ e ∈ es, (intKind prog w).is k e.2 = true
 | [], D, e => by cases e; exact ⟨fun e he => (nomatch he), fun k => by simp⟩
 | (h, v) :: r, D, e => by
  unfold setInts at e
  split at e
  ·cases ‹_ :: _ = []›
  ·rename_i hh i t rr hy
   cases hy
   split at e
   ·rename_i hq
    rw [Option.map_eq_some_iff] at e
    obtain ⟨D', e', rfl⟩ := e
    obtain ⟨h1, h2⟩ := setInts_ok (prog := prog) (w := w) e'
    refine ⟨fun e he => ?_, fun k => ?_⟩
    ·rcases List.mem_cons.mp he with rfl | he
     ·exact ⟨⟨i, by show (_ == _) = true; simp, beq_iff_eq.mp hq⟩, rfl⟩
     ·exact h1 e he
    ·rw [List.mem_cons, h2 k]
     constructor
     ·rintro (rfl | ⟨e, he, hk⟩)
      ·exact ⟨_, List.mem_cons_self, by show (_ == _) = true; simp⟩
      ·exact ⟨e, List.mem_cons_of_mem _ he, hk⟩
     ·rintro ⟨e, he, hk⟩
      rcases List.mem_cons.mp he with rfl | he
      ·left
       have : (i == k) = true := hk
       exact (beq_iff_eq.mp this).symm
      ·exact .inr ⟨e, he, hk⟩
   ·cases e
  ·cases e
def setEs (o : Obj) : Array (Int × Value) := match o.data with | .set es _ _ => es | _ => #[]
def setEp (o : Obj) : Nat := match o.data with | .set _ n _ => n | _ => 0
def setTb (o : Obj) : SetTable := match o.data with | .set _ _ t => t | _ => default
theorem b1_data (P : Params) : (kObj P 109).data = .set (setEs (kObj P 109)) (setEp (kObj P 109)) (setTb (kObj P 109)) := by kernel_rfl
theorem b1_fits (P : Params) : (setTb (kObj P 109)).fits (setEs (kObj P 109)).size = true ∧ (setEs (kObj P 109)).size < scanBound := ⟨by kernel_rfl, by
 have : (setEs (kObj P 109)).size = 27 := by kernel_rfl
 rw [this]; decide⟩
def b1M : List Int := [65024, 65025, 65026, 65027, 65028, 65029, 6150, 65030, 65031, 65032, 65033, 6155, 6156, 6157, 8203, 8204, 8205, 65034, 65035, 65036, 65037, 65038, 65039, 173, 847, 8288, 65279]
theorem b1_ints (P : Params) : setInts (setEs (kObj P 109)).toList = some b1M := by kernel_rfl
theorem b1_same : (∀ k ∈ b1M, k ∈ b1L) ∧ ∀ k ∈ b1L, k ∈ b1M := by decide +kernel
theorem b1_set {w : World} {h : Heap} (x : KIn w h) : h.SetOf (intKind pw w) 109 (fun k => b1L.contains k) (setEs (kObj w.params 109)).size := by
 obtain ⟨h1, h2⟩ := setInts_ok (prog := pw) (w := w) (b1_ints w.params)
 refine ⟨_, _, _, _, x.get (b1_obj _), b1_exact _, b1_data _, h1, fun k => ?_, (b1_fits _).2, (b1_fits _).1, rfl⟩
 rw [← h2 k, List.contains_iff_mem]
 exact ⟨b1_same.2 k, b1_same.1 k⟩
theorem has_b1 {w : World} {c : Int} : HasCall w (.ref 109) (.int c) (b1L.contains c) := fun A d s V v Q E R kin r k => by
 obtain ⟨t, rfl⟩ := RepL.int r
 exact wpAny_inSet_of (knd := intKind pw w) (k := c) (by show (_ == _) = true; simp) rfl (b1_set kin) (k _ .tok)

/-! ## the text's functions -/
def bodyOf (fd : FuncData) : List Stmt := match fd.body with | .stmts b => b | _ => []
def psOf (fd : FuncData) : List Str := fd.params.args.map (·.arg)
def okB (fd : FuncData) : Bool := (fd.scope.kind == .function) && !fd.scope.isCoroutine && (match fd.body with | .stmts _ => true | _ => false) && fd.globals == 3 && fd.builtins == 0 && fd.closure.isEmpty &&
 (psOf fd).all (fun x => fd.scope.names.lookup x == some .local || fd.scope.names.lookup x == some .cell) && decide (psOf fd).Nodup
theorem fnOk_of {fd : FuncData} (h : okB fd = true) (hc : ∀ P, codeIn (K P) fd.code fd.qualname = true) (hb : ∀ vals, vals.length = (psOf fd).length → bindArgs fd ⟨vals, []⟩ = pure ((psOf fd).zip vals)) : FnOk fd (bodyOf fd) := by
 unfold okB at h
 simp only [Bool.and_eq_true, Bool.not_eq_true', beq_iff_eq, List.isEmpty_iff, decide_eq_true_eq] at h
 obtain ⟨⟨⟨⟨⟨⟨⟨h1, h2⟩, h3⟩, h4⟩, h5⟩, h6⟩, h7⟩, h8⟩ := h
 refine ⟨h1, h2, ?_, h4, h5, h6, fun x hx => ?_, h8, fun w h x => codeRec_of x (hc _), hb⟩
 ·unfold bodyOf
  split at h3
  ·rename_i b hb; rw [hb]
  ·cases h3
 ·have := List.all_eq_true.mp h7 x hx
  simpa using this
theorem two_of {α : Type} {l : List α} (h : l.length = 2) : ∃ a b, l = [a, b] := by
 match l, h with
 | [a, b], _ => exact ⟨a, b, rfl⟩
theorem three_of {α : Type} {l : List α} (h : l.length = 3) : ∃ a b c, l = [a, b, c] := by
 match l, h with
 | [a, b, c], _ => exact ⟨a, b, c, rfl⟩
theorem one_of {α : Type} {l : List α} (h : l.length = 1) : ∃ a, l = [a] := by
 match l, h with
 | [a], _ => exact ⟨a, rfl⟩

def fdLaw (i : Nat) (name : String) (code : Nat) : FuncData := fnOfSt (st1 i) (Str.ofString name) 3 (.str (Str.ofString "law_sl0031_01") 2533) (.ref code) 0
abbrev fnObj (fd : FuncData) : Obj := ⟨.type "function", none, .func fd, #[]⟩
def fdEqual : FuncData := fnOfSt (st2 2 4) (Str.ofString "Whitespace.equal") 3 (.str (Str.ofString "cpy313.tabnanny") 194) (.ref 58) 0
def fdInit : FuncData := fnOfSt (st2 2 1) (Str.ofString "Whitespace.__init__") 3 (.str (Str.ofString "cpy313.tabnanny") 194) (.ref 37) 0
def fdIter : FuncData := fnOfSt (st1 4) (Str.ofString "_iter_escaped_chars") 3 (.str (Str.ofString "cpy313.email.utils") 288) (.ref 93) 0
def fdStrip : FuncData := fnOfSt (st1 5) (Str.ofString "_strip_quoted_realnames") 3 (.str (Str.ofString "cpy313.email.utils") 288) (.ref 100) 0
def fdB1 : FuncData := fnOfSt (st1 8) (Str.ofString "in_table_b1") 3 (.str (Str.ofString "cpy313.stringprep") 312) (.ref 118) 0
def fdB3 : FuncData := fnOfSt (st1 10) (Str.ofString "map_table_b3") 3 (.str (Str.ofString "cpy313.stringprep") 312) (.ref 164) 0
def fdSigns : FuncData := fdLaw 61 "_law_signs" 174
def fdUnseen : FuncData := fdLaw 62 "_law_unseen" 179
def fdName : FuncData := fdLaw 63 "_law_name" 186
def fdDrawn : FuncData := fdLaw 64 "_law_drawn" 191
def fdLines : FuncData := fdLaw 65 "_law_lines" 196
def fdIndent : FuncData := fdLaw 66 "_law_indent" 201
def fdOther : FuncData := fdLaw 67 "_law_other" 206
def fdFold : FuncData := fdLaw 68 "_law_fold" 211
def fdTheLaw : FuncData := fdLaw 69 "law" 216

theorem ok_equal : FnOk fdEqual (bodyOf fdEqual) := fnOk_of (by kernel_rfl) (fun P => by kernel_rfl) fun vals h => by obtain ⟨a, b, rfl⟩ := two_of (l := vals) (h.trans (by kernel_rfl)); kernel_rfl
theorem ok_init : FnOk fdInit (bodyOf fdInit) := fnOk_of (by kernel_rfl) (fun P => by kernel_rfl) fun vals h => by obtain ⟨a, b, rfl⟩ := two_of (l := vals) (h.trans (by kernel_rfl)); kernel_rfl
theorem ok_iter : FnOk fdIter (bodyOf fdIter) := fnOk_of (by kernel_rfl) (fun P => by kernel_rfl) fun vals h => by obtain ⟨a, rfl⟩ := one_of (l := vals) (h.trans (by kernel_rfl)); kernel_rfl
theorem ok_strip : FnOk fdStrip (bodyOf fdStrip) := fnOk_of (by kernel_rfl) (fun P => by kernel_rfl) fun vals h => by obtain ⟨a, rfl⟩ := one_of (l := vals) (h.trans (by kernel_rfl)); kernel_rfl
theorem ok_b1 : FnOk fdB1 (bodyOf fdB1) := fnOk_of (by kernel_rfl) (fun P => by kernel_rfl) fun vals h => by obtain ⟨a, rfl⟩ := one_of (l := vals) (h.trans (by kernel_rfl)); kernel_rfl
theorem ok_b3 : FnOk fdB3 (bodyOf fdB3) := fnOk_of (by kernel_rfl) (fun P => by kernel_rfl) fun vals h => by obtain ⟨a, rfl⟩ := one_of (l := vals) (h.trans (by kernel_rfl)); kernel_rfl
theorem ok_signs : FnOk fdSigns (bodyOf fdSigns) := fnOk_of (by kernel_rfl) (fun P => by kernel_rfl) fun vals h => by
 have : vals = [] := List.eq_nil_of_length_eq_zero (h.trans (by kernel_rfl))
 subst this; kernel_rfl
theorem ok_unseen : FnOk fdUnseen (bodyOf fdUnseen) := fnOk_of (by kernel_rfl) (fun P => by kernel_rfl) fun vals h => by obtain ⟨a, b, rfl⟩ := two_of (l := vals) (h.trans (by kernel_rfl)); kernel_rfl
theorem ok_name : FnOk fdName (bodyOf fdName) := fnOk_of (by kernel_rfl) (fun P => by kernel_rfl) fun vals h => by obtain ⟨a, rfl⟩ := one_of (l := vals) (h.trans (by kernel_rfl)); kernel_rfl
theorem ok_drawn : FnOk fdDrawn (bodyOf fdDrawn) := fnOk_of (by kernel_rfl) (fun P => by kernel_rfl) fun vals h => by obtain ⟨a, rfl⟩ := one_of (l := vals) (h.trans (by kernel_rfl)); kernel_rfl
theorem ok_lines : FnOk fdLines (bodyOf fdLines) := fnOk_of (by kernel_rfl) (fun P => by kernel_rfl) fun vals h => by obtain ⟨a, rfl⟩ := one_of (l := vals) (h.trans (by kernel_rfl)); kernel_rfl
theorem ok_indent : FnOk fdIndent (bodyOf fdIndent) := fnOk_of (by kernel_rfl) (fun P => by kernel_rfl) fun vals h => by obtain ⟨a, b, c, rfl⟩ := three_of (l := vals) (h.trans (by kernel_rfl)); kernel_rfl
theorem ok_other : FnOk fdOther (bodyOf fdOther) := fnOk_of (by kernel_rfl) (fun P => by kernel_rfl) fun vals h => by obtain ⟨a, rfl⟩ := one_of (l := vals) (h.trans (by kernel_rfl)); kernel_rfl
theorem ok_fold : FnOk fdFold (bodyOf fdFold) := fnOk_of (by kernel_rfl) (fun P => by kernel_rfl) fun vals h => by obtain ⟨a, b, c, rfl⟩ := three_of (l := vals) (h.trans (by kernel_rfl)); kernel_rfl
theorem ok_law : FnOk fdTheLaw (bodyOf fdTheLaw) := fnOk_of (by kernel_rfl) (fun P => by kernel_rfl) fun vals h => by obtain ⟨a, rfl⟩ := one_of (l := vals) (h.trans (by kernel_rfl)); kernel_rfl

theorem at_equal (P : Params) : (K P).lookup 59 = some (fnObj fdEqual) := by kernel_rfl
theorem at_init (P : Params) : (K P).lookup 38 = some (fnObj fdInit) := by kernel_rfl
theorem at_iter (P : Params) : (K P).lookup 94 = some (fnObj fdIter) := by kernel_rfl
theorem at_strip (P : Params) : (K P).lookup 101 = some (fnObj fdStrip) := by kernel_rfl
theorem at_b1 (P : Params) : (K P).lookup 119 = some (fnObj fdB1) := by kernel_rfl
theorem at_b3 (P : Params) : (K P).lookup 165 = some (fnObj fdB3) := by kernel_rfl
theorem at_signs (P : Params) : (K P).lookup 175 = some (fnObj fdSigns) := by kernel_rfl
theorem at_unseen (P : Params) : (K P).lookup 180 = some (fnObj fdUnseen) := by kernel_rfl
theorem at_name (P : Params) : (K P).lookup 187 = some (fnObj fdName) := by kernel_rfl
theorem at_drawn (P : Params) : (K P).lookup 192 = some (fnObj fdDrawn) := by kernel_rfl
theorem at_lines (P : Params) : (K P).lookup 197 = some (fnObj fdLines) := by kernel_rfl
theorem at_indent (P : Params) : (K P).lookup 202 = some (fnObj fdIndent) := by kernel_rfl
theorem at_other (P : Params) : (K P).lookup 207 = some (fnObj fdOther) := by kernel_rfl
theorem at_fold (P : Params) : (K P).lookup 212 = some (fnObj fdFold) := by kernel_rfl
theorem at_law (P : Params) : (K P).lookup 217 = some (fnObj fdTheLaw) := by kernel_rfl
theorem nm_strip (P : Params) : nsK P 3 "_strip_quoted_realnames" = some (.ref 101) := by kernel_rfl
theorem nm_iter (P : Params) : nsK P 3 "_iter_escaped_chars" = some (.ref 94) := by kernel_rfl
theorem nm_b1 (P : Params) : nsK P 3 "in_table_b1" = some (.ref 119) := by kernel_rfl
theorem nm_b3 (P : Params) : nsK P 3 "map_table_b3" = some (.ref 165) := by kernel_rfl
theorem nm_signs (P : Params) : nsK P 3 "_law_signs" = some (.ref 175) := by kernel_rfl
theorem nm_unseen (P : Params) : nsK P 3 "_law_unseen" = some (.ref 180) := by kernel_rfl
theorem nm_name (P : Params) : nsK P 3 "_law_name" = some (.ref 187) := by kernel_rfl
theorem nm_drawn (P : Params) : nsK P 3 "_law_drawn" = some (.ref 192) := by kernel_rfl
theorem nm_lines (P : Params) : nsK P 3 "_law_lines" = some (.ref 197) := by kernel_rfl
theorem nm_indent (P : Params) : nsK P 3 "_law_indent" = some (.ref 202) := by kernel_rfl
theorem nm_other (P : Params) : nsK P 3 "_law_other" = some (.ref 207) := by kernel_rfl
theorem nm_fold (P : Params) : nsK P 3 "_law_fold" = some (.ref 212) := by kernel_rfl
theorem nm_ws (P : Params) : nsK P 3 "Whitespace" = some (.ref 83) := by kernel_rfl

/-! ## a mark's norm, and equal -/
def normV (c : List Int) (b : Int) : PV := .tup [.tup (c.map .int), .int b]
theorem ws_get (P : Params) : findIn (K P) (.ref 83) "__getattribute__" = some (some (.builtin "object.__getattribute__")) := by kernel_rfl
theorem ws_hook (P : Params) : findIn (K P) (.ref 83) "__getattr__" = some none := by kernel_rfl
theorem ws_dict (P : Params) : hasDictIn (K P) 83 = true := by kernel_rfl
theorem ws_norm (P : Params) : findIn (K P) (.ref 83) "norm" = some none := by kernel_rfl
theorem ws_equal (P : Params) : findIn (K P) (.ref 83) "equal" = some (some (.ref 59)) := by kernel_rfl
theorem ws_fn (P : Params) : typeIn (K P) (.ref 59) = some (.type "function") := by kernel_rfl

section
variable {w : World} {d : Nat} {sc : Sc} {env : Env} {ρ : Rho} {pos : Pos}

theorem ws_inst {V : List Addr} {h : Heap} {c : List Int} {b : Int} {x : Value} (r : Rep V h (.ws c b) x) : ∃ a dx es n nv, x = .ref a ∧ InstAt h a (instObj 83 dx) 83 (some (W.dictOf es n)) ∧ getL "norm" es = some (some nv) ∧ getL "equal" es = some none ∧ Rep V h (normV c b) nv := by
 cases r with
 | ws h1 h2 e1 e2 e3 e4 r => exact ⟨_, _, _, _, _, rfl, ⟨e1, rfl, rfl, e2⟩, e3, e4, r⟩

theorem Ev.norm {x : Str} {p ap : Pos} {c : List Int} {b : Int} (hx : ρ.lookup x = some (.v (.ws c b))) (hd : (x == ("__debug__" : Str)) = false) : Ev w d sc .v env ρ (.Attribute (.Name x p) "norm" ap) (normV c b) := fun A s V ad Q E R rd k => by
 obtain ⟨val, hv, hr⟩ := rd.vars x _ hx
 obtain ⟨a, dx, es, n, nv, rfl, I, e1, _, rn⟩ := ws_inst (hr : Rep V s.heap (.ws c b) val)
 have hvh : handedIn nv = true := by obtain ⟨a, xs, n, rfl, _⟩ := rn.tup_inv; rfl
 refine Attribute_Name_ (wp_name rd.fn hv ?_ hd)
 refine get_value (K := K w.params) rd.kin I (ws_get _) (findObj_own (ws_dict _) (ws_norm _) rfl e1) hvh ?_
 exact k _ _ .tok rn

theorem eqBody : ∃ p1 p2 p3 p4 p5 p6, bodyOf fdEqual = [.Return (some (.Compare (.Attribute (.Name "self" p1) "norm" p2) [.Eq] [.Attribute (.Name "other" p3) "norm" p4] p5)) p6] := ⟨_, _, _, _, _, _, rfl⟩

theorem equal_ok {a b a' b' : _} {r : Bool} (h : cmp .Eq (normV a b) (normV a' b') = some r) : EqCall w (d + 1) (.ws a b) (.ws a' b') r := by
 intro A s env o e apos pos Q E R hr hline hs hk
 have hst : starEach [e] env = [(false, eval e env)] := by cases e <;> first | rfl | exact absurd rfl (hs _ _)
 rw [arm_eval_Call, attr_base hr, hst]
 refine wpAny_bind (wpAny_mono hk (fun x s₁ h₁ => ?_) fun _ _ e => e)
 obtain ⟨kin, rx, h₁⟩ := h₁
 obtain ⟨ax, dx, es, n, nv, rfl, I, _, e2, _⟩ := ws_inst rx
 refine wpAny_bind (wpAny_standAt ?_)
 have hform : methodCallForm ([e].length + ([] : List Keyword).length) (backTo pos [(false, eval e env)]) (backToKw pos (keywordEach [] env)) = true := rfl
 have hpos : methodCallPos true o env apos pos = pure pos := by unfold methodCallPos; simp [hline]
 unfold methodCall
 rw [hform]
 refine wpAny_bind (wpAny_holding (method_fn (K := K w.params) kin I (ws_get _) (ws_hook _) (ws_equal _) (ws_fn _) (by show (lookIn "equal" (W.dictOf es n)).map _ = _; rw [lookIn_dict, e2]; rfl) ?_))
 refine wpAny_bind (wpAny_of_eq hpos ?_)
 refine callWith_function (fd := fdEqual) (o := fnObj fdEqual) (evalArgs_any rfl ?_)
 show wpAny _ A (spliced [(false, eval e env)]) _ E s₁
 refine spliced_cons (wpAny_mono h₁ (fun y s₂ h₂ => spliced_nil ?_) fun _ _ e => e)
 obtain ⟨k₂, ry, hq⟩ := h₂
 have kin₂ := kin.keeps k₂.keep
 refine ⟨⟨kin₂.get (at_equal _), rfl⟩, ?_⟩
 show wpAny _ A (call (.ref 59) [.ref ax, y] []) Q E s₂
 have rx₂ := k₂.rep rx
 refine wpAny_call (codeAny_call_cells (by have := R.depth; show A.depth < 1000; omega) (kin₂.get (at_equal _)) rfl kin₂.nolimit (ok_equal.code w _ kin₂) ok_equal.body (ok_equal.bind [.ref ax, y] (by kernel_rfl)) ok_equal.clo (fun x hx => ?_) (fun s₃ X => ?_) ok_equal.co (by kernel_rfl) ok_equal.kind)
 ·have hm := (List.of_mem_zip hx).1
  rcases ok_equal.ps x.1 hm with hk | hk
  ·exact .inl hk
  ·exact .inr ⟨hk, cellsFrom_look _ _ _ _ hk⟩
 ·obtain ⟨S, _⟩ := begin_call (a := 59) (V := []) (args := [.ws a b, .ws a' b']) ok_equal kin₂ (fun _ h => nomatch h) (.cons rx₂ (.cons ry .nil)) (by kernel_rfl) X
  obtain ⟨p1, p2, p3, p4, p5, p6, hb⟩ := eqBody
  rw [hb]
  have hs1 : (putAll ((fdEqual.params.args.map (·.arg)).zip [PV.ws a b, PV.ws a' b']) (rho0 fdEqual.scope.names)).lookup ("self" : Str) = some (Slot.v (.ws a b)) := by rfl
  have hs2 : (putAll ((fdEqual.params.args.map (·.arg)).zip [PV.ws a b, PV.ws a' b']) (rho0 fdEqual.scope.names)).lookup ("other" : Str) = some (Slot.v (.ws a' b')) := by rfl
  have hc := (Ev.cmp (w := w) (d := d) (pos := p5) (sc := fdEqual.scope.names) (env := (frameOf fdEqual 59 s₂ []).env) ((Ev.norm (w := w) (d := d) (p := p1) (ap := p2) hs1 (by decide)).plain (by decide)) ((Ev.norm (p := p3) (ap := p4) hs2 (by decide)).plain (by decide)) (cmp_ok h) rfl).1
  refine Ex.seq_stop (F := frameOf fdEqual 59 s₂ []) (Ex.ret (pos := p6) hc) (by simp) (A.deeper _) s₃ _ _ _ _ R.deeper S fun f s' V' ad' S' T fr => ?_
  obtain ⟨val, rfl, rr⟩ := fr
  cases rr.bool_inv
  exact hq s' S'.kp
end
end SL
namespace SL
open PySem PySem.W PySem.Calls PyProof.Rows
open PySem.Builtin PySem.Builtin.Str PySem.Builtin.Int Builtin Builtin.ObjectAttr

/-! ## a mark in the making: stores into its dict -/
theorem ws_set (P : Params) : findIn (K P) (.ref 83) "__setattr__" = some (some (.builtin "object.__setattr__")) := by kernel_rfl
theorem ws_over (P : Params) : plainOver (K P) 83 = true := by kernel_rfl
theorem ws_raw (P : Params) : takerIn (K P) 83 "raw" = some none ∧ findIn (K P) (.ref 83) "raw" = some none := ⟨by kernel_rfl, by kernel_rfl⟩
theorem ws_n (P : Params) : takerIn (K P) 83 "n" = some none := by kernel_rfl
theorem ws_nt (P : Params) : takerIn (K P) 83 "nt" = some none := by kernel_rfl
theorem ws_tnorm (P : Params) : takerIn (K P) 83 "norm" = some none := by kernel_rfl
theorem ws_simple (P : Params) : takerIn (K P) 83 "is_simple" = some none := by kernel_rfl

section
variable {w : World} {A : Around} {E : Value → Shared → Prop} {s : Shared} {x dx : Addr} {es : List DictEntry} {n : Nat} {name : Str} {v : Value}

theorem own_store {R : Result → Shared → Prop} {tk : Tok} (kin : KIn w s.heap) (gx : s.heap.get? x = some (instObj 83 dx)) (gd : s.heap.get? dx = some (W.dictOf es n)) (ht : takerIn (K w.params) 83 name = some none) (hl : (getL name es).isSome = true) (hz : es.length ≤ 100)
  (h : R (.ok (.ret .none)) { s with heap := s.heap.update dx (Obj.putName name (PyData.keyHash w.params name) (.str name s.toks) v), toks := s.toks + 1 }) :
  codeAny (model pw w) A (.call (.builtin "object.__setattr__") ⟨[.ref x, .str name tk, v], []⟩) R s := by
 refine osa_open (K := K w.params) (od := some (W.dictOf es n)) kin ⟨gx, rfl, rfl, gd⟩ (ws_over _) ht fun b => ?_
 obtain ⟨cd, hc, hd⟩ := any_some (ws_dict w.params)
 refine wpAny_bind (wpAny_pure (wpAny_bind (wpAny_bind (wpAny_loadPart gx (wpAny_bind ((looks_clsIn (K := K w.params) kin hc).here ?_))))))
 rw [hd]
 refine wpAny_pure (a := some dx) (wpAny_bind (wpAny_pure (wpAny_bind ?_)))
 unfold nsSet
 refine wpAny_bind (wpAny_bind (wpAny_askSetting (wpAny_pure (wpAny_bind (wpAny_mkText (wpAny_bind (wpAny_loadPart gd ?_)))))))
 dsimp only
 have c : (!es.toArray.any (·.key.isStr name) && es.toArray.any (·.refKey)) = false := by
  rw [← Array.any_toList, ← Array.any_toList]
  unfold getL at hl
  split at hl
  ·rename_i en he
   rw [List.any_eq_true.mpr ⟨en, List.mem_of_find?_eq_some he, List.find?_some he⟩]; rfl
  ·split at hl
   ·cases hl
   ·rename_i z; rw [Bool.not_eq_true] at z; rw [z, Bool.and_false]
 rw [aRefKeyMayBeTheName_at, c]
 refine wpAny_updatePart gd ?_
 have hlen : (putL name (PyData.keyHash w.params name) (.str name s.toks) v es).length ≤ es.length + 1 := putL_len _ _ _ _ _
 have gd' : (s.heap.update dx (Obj.putName name (PyData.keyHash w.params name) (.str name s.toks) v)).get? dx = some (W.dictOf (putL name (PyData.keyHash w.params name) (.str name s.toks) v es) (putN name es n)) := by
  rw [← putName_dict]
  exact Heap.get?_update_self _ gd (by rw [putName_dict]; rfl)
 refine wpAny_bind (wpAny_lookBehind gd' (pastItsLine_dict (by rw [List.size_toArray, sizeLine_eq]; omega)) ?_)
 exact wpAny_pure h
where
 putL_len (name : Str) (hsh : Int) (key v : Value) : ∀ es : List DictEntry, (putL name hsh key v es).length ≤ es.length + 1
  | [] => Nat.le_refl _
  | e :: r => by
   unfold putL
   split
   ·simp
   ·simp only [List.length_cons]; exact Nat.succ_le_succ (putL_len name hsh key v r)

theorem wp_setAttr {Q : Unit → Shared → Prop} (kin : KIn w s.heap) (gx : s.heap.get? x = some (instObj 83 dx)) (gd : s.heap.get? dx = some (W.dictOf es n)) (ht : takerIn (K w.params) 83 name = some none) (hl : (getL name es).isSome = true) (hz : es.length ≤ 100)
  (h : ∀ h', Heap.SameBut dx s.heap h' → h'.get? dx = some (W.dictOf (putL name (PyData.keyHash w.params name) (.str name (s.toks + 1)) v es) (putN name es n)) → Q () { s with heap := h', toks := s.toks + 2 }) :
  wpAny (model pw w) A (setAttr (.ref x) name v) Q E s := by
 refine set_plain (K := K w.params) (od := some (W.dictOf es n)) kin ⟨gx, rfl, rfl, gd⟩ (ws_set _) (own_store (s := { s with toks := s.toks + 1 }) kin gx gd ht hl hz (h _ (Heap.SameBut.update ..) ?_))
 rw [← putName_dict]
 exact Heap.get?_update_self _ gd (by rw [putName_dict]; rfl)
end

/-- the mark in the making, beside the frame of its `__init__` -/
structure Ins (F : Fm) (V : List Addr) (ad : Str → List Addr) (ρ : Rho) (x dx : Addr) (es : List DictEntry) (n : Nat) (s : Shared) : Prop where
 obj : s.heap.get? x = some (instObj 83 dx)
 dict : s.heap.get? dx = some (W.dictOf es n)
 nx : ¬ Mut F ρ ad x
 nd : ¬ Mut F ρ ad dx
 vx : x ∈ V
 vd : dx ∈ V
 fx : F.s₀.heap.get? dx = none

section
variable {w : World} {d : Nat} {F : Fm} {sc : Sc} {V V' : List Addr} {ad ad' : Str → List Addr} {ρ ρ' : Rho} {x dx : Addr} {es : List DictEntry} {n : Nat} {s s' : Shared} {e : Expr} {pos : Pos}
theorem Ins.next (I : Ins F V ad ρ x dx es n s) (T : Ste V (Mut F ρ ad) s V' (Mut F ρ' ad') s') : Ins F V' ad' ρ' x dx es n s' :=
 ⟨T.chg _ _ I.nx I.obj, T.chg _ _ I.nd I.dict, fun h => (T.grow _ h).elim I.nx fun q => (by rw [I.obj] at q; cases q), fun h => (T.grow _ h).elim I.nd fun q => (by rw [I.dict] at q; cases q), T.sub _ I.vx, T.sub _ I.vd, I.fx⟩

/-- `self.name = e` -/
theorem wp_put {A : Around} {E : Value → Shared → Prop} {Q : Flow → Shared → Prop} {name : Str} {v : PV} {p ap : Pos} (R : Room d A) (S : St w F sc V ad ρ s) (I : Ins F V ad ρ x dx es n s) (hself : ρ.lookup ("self" : Str) = some (.inst x)) (he : Ev w d sc .v F.env ρ e v)
  (hsw : swapsWith e (some (.Attribute (.Name "self" p) name ap)) pos.line F.env = pure false) (ht : takerIn (K w.params) 83 name = some none) (hl : (getL name es).isSome = true) (hz : es.length ≤ 100)
  (k : ∀ s' t val, St w F sc V ad ρ s' → Rep V s'.heap v val → Ins F V ad ρ x dx (putL name (PyData.keyHash w.params name) (.str name t) val es) (putN name es n) s' → Ste V (fun b => Mut F ρ ad b ∨ b = dx) s V (Mut F ρ ad) s' → Q .next s') :
  wpAny (model pw w) A (exec (.Assign [.Attribute (.Name "self" p) name ap] e pos) F.env) Q E s := by
 refine plainObj_wpAny_Assign_Attribute (he A s V ad _ E R S.rd fun val s₁ k₁ r₁ => ?_) hsw
 have S₁ := S.step k₁
 have gx := k₁.keep _ _ I.obj
 have gd := k₁.keep _ _ I.dict
 obtain ⟨sv, va, rfl⟩ := S₁.rd.vars _ _ hself
 refine wp_name S₁.rd.fn va (wp_setAttr S₁.rd.kin gx gd ht hl hz fun h' hs hg => ?_) (by decide)
 have hk : ∀ b o, b ≠ dx → s₁.heap.get? b = some o → h'.get? b = some o := fun b o hb e => hs.extBut b o hb e
 have S₂ : St w F sc V ad ρ { s₁ with heap := h', toks := s₁.toks + 2 } := S₁.side (tk := s₁.toks + 2) I.vd I.fx I.nd hk ⟨_, hg⟩
 have hne : x ≠ dx := fun q => by rw [q, gd] at gx; cases gx
 refine k _ _ val S₂ ((r₁ : Rep V s₁.heap v val).mono (fun y o hy e => hk y o (fun q => hy (q ▸ I.vd)) e) fun y hy => .inl hy) ⟨hk _ _ hne gx, hg, I.nx, I.nd, I.vx, I.vd, I.fx⟩ ?_
 refine ⟨fun b o hb e => hk b o (fun q => hb (.inr q)) (k₁.keep _ _ e), fun b h => .inl (.inl h), fun b h => .inl h, fun b h => h, fun b o e => ?_, k₁.gx⟩
 by_cases hb : b = dx
 ·subst hb; exact ⟨_, hg⟩
 ·exact ⟨o, hk b o hb (k₁.keep _ _ e)⟩
end
end SL
namespace SL
open PySem PySem.W PySem.Calls PyProof.Rows

/-! ## texts as lists of codes -/
def mk (l : List Nat) : Str := ⟨l.toArray⟩
def chs (x : Str) : List Nat := x.cps.toList
theorem chs_mk (l : List Nat) : chs (mk l) = l := by simp [chs, mk]
theorem mk_chs (x : Str) : mk (chs x) = x := by obtain ⟨a⟩ := x; simp [chs, mk]
theorem str_ext {x y : Str} (h : chs x = chs y) : x = y := by rw [← mk_chs x, ← mk_chs y, h]
theorem chs_append (x y : Str) : chs (x ++ y) = chs x ++ chs y := by
 obtain ⟨a⟩ := x; obtain ⟨b⟩ := y
 show (a ++ b).toList = _
 simp [chs]
theorem len_chs (x : Str) : x.length = (chs x).length := by obtain ⟨a⟩ := x; rfl
theorem chs_cut (x : Str) (lo hi : Option Int) : chs (cutS x lo hi) = cutL (chs x) lo hi := by unfold cutS chs; simp
theorem strOf_mk (c : Nat) : strOf c = mk [c] := rfl
theorem mk_append (a b : List Nat) : mk a ++ mk b = mk (a ++ b) := str_ext (by rw [chs_append]; simp [chs_mk])
theorem cutL_len {α : Type} (xs : List α) (lo hi : Option Int) : (cutL xs lo hi).length ≤ xs.length := by unfold cutL; simp; omega

theorem sizeOk_of {n : Nat} (h : n ≤ 16000000) : sizeOk n = true := Nat.ble_eq_true_of_le h
theorem intOk_of {i : Int} (h : -1000000000 ≤ i) (h' : i ≤ 1000000000) : intOk i = true := intOk_iff.mpr (by omega)
theorem add_str {a b : Str} (h : a.length + b.length ≤ 16000000) : binop .Add (.str a) (.str b) = some (.str (a ++ b)) := if_pos (sizeOk_of h)
theorem add_lst {a b : List PV} (h : a.length + b.length ≤ 16000000) : binop .Add (.lst a) (.lst b) = some (.lst (a ++ b)) := if_pos (sizeOk_of h)
theorem cut_str {x : Str} {lo hi : Option Int} (h : x.length ≤ 16000000) : cut (.str x) lo hi none = some (.str (cutS x lo hi)) := if_pos (sizeOk_of h)
theorem cut_lst {x : List PV} {lo hi : Option Int} (h : x.length ≤ 16000000) : cut (.lst x) lo hi none = some (.lst (cutL x lo hi)) := by
 unfold cut
 simp only
 rw [if_pos (sizeOk_of h)]
theorem len_lst {vs : List PV} (h : vs.length ≤ 16000000) : blt "len" [.lst vs] = some (.int vs.length) := if_pos (sizeOk_of h)
theorem len_str {x : Str} (h : x.length ≤ 16000000) : blt "len" [.str x] = some (.int x.length) := by
 show (if sizeOk x.length then some (PV.int x.length) else none) = _
 exact if_pos (sizeOk_of h)

/-! ## what a mark reads of a text -/
def bump (cnt : List Int) (b : Nat) : List Int := (cnt ++ List.replicate (b + 1 - cnt.length) 0).set b ((cnt ++ List.replicate (b + 1 - cnt.length) 0).getD b 0 + 1)
def wsGo : List Nat → List Int → Nat → List Int × Nat
 | [], cnt, b => (cnt, b)
 | c :: r, cnt, b => if c = 32 then wsGo r cnt (b + 1) else if c = 9 then wsGo r (bump cnt b) 0 else (cnt, b)
def wsOf (l : List Nat) : PV := .ws (wsGo l [] 0).1 ((wsGo l [] 0).2 : Int)
def gNil : G := ⟨fun _ _ => none, fun _ _ => none, fun _ _ => none, fun _ _ => none⟩

def iniSt (i : Nat) : Stmt := ((bodyOf fdInit)[i]?).getD default
def forBody (s : Stmt) : List Stmt := match s with | .For _ _ b _ _ => b | _ => []
def forTarget (s : Stmt) : Expr := match s with | .For t _ _ _ _ => t | _ => default
def rI (x : Addr) (ws : Str) (cnt : List Int) (b n nt : Int) (ch : Slot) : Rho := [("self", .inst x), ("ws", .v (.str ws)), ("S", .v (.str " ")), ("T", .v (.str "\t")), ("count", .o (cnt.map .int)), ("b", .v (.int b)), ("n", .v (.int n)), ("nt", .v (.int nt)), ("ch", ch)]
abbrev scI : Sc := fdInit.scope.names
abbrev ownI : List (Str × Bool) := [("count", false)]

theorem ini_blank {x : Addr} {ws : Str} {cnt : List Int} {b n nt : Int} : run gNil ownI scI 11 (rI x ws cnt b n nt (.v (.str (strOf 32)))) (forBody (iniSt 4)) = some (.next, rI x ws cnt (b + 1) (n + 1) nt (.v (.str (strOf 32)))) := by kernel_rfl

theorem mul_lst {x : PV} {n : Int} (h : 0 ≤ n) (h' : n ≤ 1000) : binop .Mult (.lst [x]) (.int n) = some (.lst (List.replicate n.toNat x)) := if_pos (natLe_iff.mpr ⟨h, h'⟩)
theorem idx_lst {vs : List PV} {i : Nat} {v : PV} (h : vs[i]? = some v) (hi : i ≤ 1000000) : idx (.lst vs) (.int i) = some v := by
 have hl : i < vs.length := (List.getElem?_eq_some_iff.mp h).1
 show (if intOk i then (seqIndex? i vs.length).bind (vs[·]?) else none) = some v
 rw [if_pos (intOk_of (by omega) (by omega))]
 unfold seqIndex?
 simp only
 rw [if_neg (show ¬ ((i : Int) < 0) by omega), if_pos (by simp; omega)]
 simpa using h
theorem setAt_lst {vs : List PV} {i : Nat} {v : PV} (h : i < vs.length) (hi : i ≤ 1000000) : setAt vs i v = some (vs.set i v) := by
 unfold setAt
 rw [if_pos (by rw [intOk_of (by omega) (by omega)]; simp)]
 unfold seqIndex?
 simp only
 rw [if_neg (show ¬ ((i : Int) < 0) by omega), if_pos (by simp; omega)]
 simp

theorem ini_tab {x : Addr} {ws : Str} {cnt : List Int} {b : Nat} {n nt : Int} (hb : b ≤ 500) (hc : cnt.length ≤ 500) : run gNil ownI scI 11 (rI x ws cnt b n nt (.v (.str (strOf 9)))) (forBody (iniSt 4)) = some (.next, rI x ws (bump cnt b) 0 (n + 1) (nt + 1) (.v (.str (strOf 9)))) := by
 obtain ⟨fl, ρ', h1, rfl, rfl⟩ := wrun_ok (Γ := gNil) (own := ownI) (sc := scI) 11 (rI x ws cnt b n nt (.v (.str (strOf 9)))) (forBody (iniSt 4)) (fun fl ρ' => fl = .next ∧ ρ' = rI x ws (bump cnt b) 0 (n + 1) (nt + 1) (.v (.str (strOf 9)))) (by
  have fin : ∀ c : List Int, c.length = max cnt.length (b + 1) → bump cnt b = c.set b (c.getD b 0 + 1) → ∃ v, (c.map PV.int)[b]? = some (.int v) ∧ (c.map PV.int).set b (.int (v + 1)) = (bump cnt b).map .int := fun c hc hbp => by
   have hb' : b < c.length := by omega
   refine ⟨c[b], by simp [hb'], ?_⟩
   rw [hbp, List.map_set]
   simp [List.getD, hb']
  conv => whnf
  refine wopt.mk (len_lst (by simp; omega)) ?_
  conv => whnf
  refine Br.mk (fun h => ?_) (fun h => ?_)
  ·simp at h
   conv => whnf
   refine wopt.mk (len_lst (by simp; omega)) ?_
   conv => whnf
   refine wopt.mk (mul_lst (by simp; omega) (by simp; omega)) ?_
   conv => whnf
   refine wopt.mk (add_lst (by simp; omega)) ?_
   conv => whnf
   have e1 : List.map PV.int cnt ++ List.replicate ((b : Int) - (List.map PV.int cnt).length + 1).toNat (PV.int 0) = (cnt ++ List.replicate (b + 1 - cnt.length) 0).map PV.int := by
    rw [List.map_append, List.map_replicate]
    congr 2
    simp; omega
   rw [e1]
   obtain ⟨v, h1, h2⟩ := fin (cnt ++ List.replicate (b + 1 - cnt.length) 0) (by simp; omega) rfl
   refine wopt.mk (idx_lst h1 (by omega)) ?_
   conv => whnf
   refine wopt.mk (setAt_lst (by simp; omega) (by omega)) ?_
   rw [h2]
   exact ⟨rfl, rfl⟩
  ·simp at h
   conv => whnf
   obtain ⟨v, h1, h2⟩ := fin cnt (by omega) (by unfold bump; rw [show b + 1 - cnt.length = 0 by omega]; simp)
   refine wopt.mk (idx_lst h1 (by omega)) ?_
   conv => whnf
   refine wopt.mk (setAt_lst (by simp; omega) (by omega)) ?_
   rw [h2]
   exact ⟨rfl, rfl⟩)
 exact h1

theorem ini_other {x : Addr} {ws : Str} {cnt : List Int} {b n nt : Int} {c : Nat} (h1 : c ≠ 32) (h2 : c ≠ 9) : run gNil ownI scI 11 (rI x ws cnt b n nt (.v (.str (strOf c)))) (forBody (iniSt 4)) = some (.brk, rI x ws cnt b n nt (.v (.str (strOf c)))) := by
 obtain ⟨fl, ρ', h1, rfl, rfl⟩ := wrun_ok (Γ := gNil) (own := ownI) (sc := scI) 11 (rI x ws cnt b n nt (.v (.str (strOf c)))) (forBody (iniSt 4)) (fun fl ρ' => fl = .brk ∧ ρ' = rI x ws cnt b n nt (.v (.str (strOf c)))) (by
  have e1 : ((strOf c).cps.toList == (Str.ofString " ").cps.toList) = false := by
   show ([c] == [32]) = false
   simpa using h1
  have e2 : ((strOf c).cps.toList == (Str.ofString "\t").cps.toList) = false := by
   show ([c] == [9]) = false
   simpa using h2
  conv => whnf
  refine Br.f e1 ?_
  conv => whnf
  refine Br.f e2 ?_
  exact ⟨rfl, rfl⟩)
 exact h1
theorem ini_bind {x : Addr} {ws : Str} {cnt : List Int} {b n nt : Int} {ch : Slot} {v : PV} : bindT scI ownI (forTarget (iniSt 4)) v (rI x ws cnt b n nt ch) = some (rI x ws cnt b n nt (.v v)) := by kernel_rfl

theorem bump_len (cnt : List Int) (b : Nat) : (bump cnt b).length = max cnt.length (b + 1) := by
 unfold bump; simp; omega
theorem ini_loop {x : Addr} {ws : Str} : ∀ (cs : List Nat) (cnt : List Int) (b : Nat) (n nt : Int) (ch : Slot), b + cs.length ≤ 400 → cnt.length ≤ 400 →
  ∃ n' nt' ch', forGo (run gNil ownI scI 11 · (forBody (iniSt 4))) (bindT scI ownI (forTarget (iniSt 4))) (cs.map fun c => .str (strOf c)) (rI x ws cnt b n nt ch) = some (.next, rI x ws (wsGo cs cnt b).1 ((wsGo cs cnt b).2 : Int) n' nt' ch')
 | [], cnt, b, n, nt, ch, _, _ => ⟨n, nt, ch, rfl⟩
 | c :: cs, cnt, b, n, nt, ch, hb, hc => by
  simp only [List.length_cons] at hb
  rw [List.map_cons]
  unfold forGo
  simp only [Option.bind_eq_bind]
  rw [ini_bind]
  simp only [Option.bind_some]
  unfold wsGo
  by_cases h1 : c = 32
  ·subst h1
   rw [if_pos rfl, ini_blank]
   simp only [Option.bind_some]
   exact ini_loop cs cnt (b + 1) (n + 1) nt _ (by omega) hc
  ·rw [if_neg h1]
   by_cases h2 : c = 9
   ·subst h2
    rw [if_pos rfl, ini_tab (by omega) (by omega)]
    simp only [Option.bind_some]
    exact ini_loop cs (bump cnt b) 0 (n + 1) (nt + 1) _ (by omega) (by rw [bump_len]; omega)
   ·rw [if_neg h2, ini_other h1 h2]
    exact ⟨n, nt, _, rfl⟩
theorem wsGo_len : ∀ (cs : List Nat) (cnt : List Int) (b : Nat), b + cs.length ≤ 400 → cnt.length ≤ 400 → (wsGo cs cnt b).1.length ≤ 400
 | [], cnt, b, _, hc => hc
 | c :: cs, cnt, b, hb, hc => by
  simp only [List.length_cons] at hb
  unfold wsGo
  split
  ·exact wsGo_len cs cnt (b + 1) (by omega) hc
  ·split
   ·exact wsGo_len cs _ 0 (by omega) (by rw [bump_len]; omega)
   ·exact hc
end SL
namespace SL
open PySem PySem.W PySem.Calls PyProof.Rows
open PySem.Builtin PySem.Builtin.Str PySem.Builtin.Int

/-- the frame as it stands when a call begins, over an earlier ground -/
theorem begin_gen {w : World} {fd : FuncData} {body : List Stmt} (hf : FnOk fd body) {a : Addr} {s₀ s s₁ : Shared} {V₀ Vx : List Addr} {xs : List Value} {ρ : Rho} (kp₀ : Kp s₀ s) (kin : KIn w s₀.heap) (lv : Live s₀.heap V₀) (lx : Live s.heap Vx) (fx : ∀ b ∈ Vx, s₀.heap.get? b = none)
  (hlen : xs.length = (fd.params.args.map (·.arg)).length)
  (hρ : ∀ x sl, ρ.lookup x = some sl → sl = .u ∨ (sl.own = false ∧ ∃ val, (x, val) ∈ (fd.params.args.map (·.arg)).zip xs ∧ SlotRep (Vx ++ V₀) s.heap [] sl val))
  (X : InCallC s (callEnvC fd s.heap.objs.size a).locals (bindL (callEnvC fd s.heap.objs.size a).kindOf ((fd.params.args.map (·.arg)).zip xs) fun _ => none) (callEnvC fd s.heap.objs.size a).cells (bindC (callEnvC fd s.heap.objs.size a).kindOf ((fd.params.args.map (·.arg)).zip xs) fun _ => none) s₁) :
  St w ⟨callEnvC fd s.heap.objs.size a, s₀, V₀⟩ fd.scope.names (s.heap.objs.size :: (cellL (cellsFrom (s.heap.objs.size + 1) fd.scope.names []) ++ (Vx ++ V₀))) (fun _ => []) ρ s₁ ∧ Kp s s₁ := by
 have keep := X.toInCall.keep
 obtain ⟨h₁, tk, e⟩ := X.toInCall.same
 have K : Kp s s₁ := by subst e; exact Kp.heap keep
 have hfst : ((fd.params.args.map (·.arg)).zip xs).map (·.1) = fd.params.args.map (·.arg) := zip_fst (by rw [hlen]; exact Nat.le_refl _)
 have new : ∀ c, s.heap.objs.size ≤ c → s.heap.get? c = none := fun c hc => by
  cases e : s.heap.get? c with
  | none => rfl
  | some o => exact absurd (Heap.lt_size e) (Nat.not_lt.mpr hc)
 have cells : ∀ x c, (cellsFrom (s.heap.objs.size + 1) fd.scope.names []).lookup x = some c → (∃ v, s₁.heap.IsCell c v) ∧ s.heap.get? c = none := fun x c hc => ⟨⟨_, X.cell x c hc⟩, new c (Nat.le_of_lt (X.above x c (mem_of_lookup hc)))⟩
 have noOwn : ∀ x sl, ρ.lookup x = some sl → sl.own = true → False := fun x sl h ho => by
  rcases hρ _ _ h with rfl | ⟨q, _⟩
  ·cases ho
  ·rw [ho] at q; cases q
 have hL := get?_size s.heap
 refine ⟨?_, K⟩
 refine { rd := ⟨(kin.keeps kp₀.keep).keeps keep, hf.kind, rfl, fun x hx => cellsFrom_look _ _ _ x hx, hf.globals, hf.blt, fun b hb => ?_, fun x sl hx => ?_⟩, kp := kp₀.trans K, kin₀ := kin, low₀ := lv, ns := ⟨_, X.toInCall.ns⟩, newL := new_of kp₀.keep hL, cells := fun x c hc => ⟨(cells x c hc).1, new_of kp₀.keep (cells x c hc).2⟩, apart := fun x y c hx hy => name_of_addr X.apart (mem_of_lookup hx) (mem_of_lookup hy), v0 := fun b hb => List.mem_cons_of_mem _ (List.mem_append_right _ (List.mem_append_right _ hb)), vL := List.mem_cons_self, vC := fun x c hc => List.mem_cons_of_mem _ (List.mem_append_left _ (cellL_mem.mpr ⟨x, hc⟩)), vV := fun b hb => ?_, vO := fun x b ⟨sl, h1, h2, _⟩ => (noOwn x sl h1 h2).elim, vD := fun x y b ⟨sl, h1, h2, _⟩ => (noOwn x sl h1 h2).elim, vN := fun x sl h1 h2 => (noOwn x sl h1 h2).elim }
 ·rcases List.mem_cons.mp hb with rfl | hb
  ·obtain ⟨o, es, ep, q, _⟩ := X.toInCall.ns; exact ⟨o, q⟩
  ·rcases List.mem_append.mp hb with hb | hb
   ·obtain ⟨x, hx⟩ := cellL_mem.mp hb
    obtain ⟨⟨v, o, q, _⟩, _⟩ := cells x b hx
    exact ⟨o, q⟩
   ·rcases List.mem_append.mp hb with hb | hb
    ·exact lx.keeps keep b hb
    ·exact (lv.keeps kp₀.keep).keeps keep b hb
 ·rcases hρ _ _ hx with rfl | ⟨ho, val, hz, hr⟩
  ·trivial
  ·have hmem : x ∈ fd.params.args.map (·.arg) := (List.of_mem_zip hz).1
   have hr' : SlotRep (s.heap.objs.size :: (cellL (cellsFrom (s.heap.objs.size + 1) fd.scope.names []) ++ (Vx ++ V₀))) s₁.heap [] sl val := hr.mono (fun y o _ q => keep y o q) (fun y hy => by
    rcases List.mem_cons.mp hy with rfl | hy
    ·exact .inr hL
    ·rcases List.mem_append.mp hy with hy | hy
     ·obtain ⟨z, hz⟩ := cellL_mem.mp hy; exact .inr (cells z y hz).2
     ·exact .inl hy) (fun q => by rw [ho] at q; cases q)
   refine SlotAt.of (val := val) ?_ hr'
   rcases hf.ps x hmem with hk | hk
   ·exact .inl ⟨hk, _, X.toInCall.ns, bindL_get _ _ _ _ (by rw [hfst]; exact hf.nodup) hz hk⟩
   ·obtain ⟨c, hc⟩ := Option.isSome_iff_exists.mp (cellsFrom_look fd.scope.names (s.heap.objs.size + 1) [] x hk)
    refine .inr ⟨hk, c, hc, ?_⟩
    have q := X.cell x c hc
    rw [bindC_get _ _ _ _ (by rw [hfst]; exact hf.nodup) hz (by show fd.scope.names.lookup x ≠ _; rw [hk]; decide)] at q
    exact q
 ·rcases List.mem_cons.mp hb with rfl | hb
  ·exact .inr (new_of kp₀.keep hL)
  ·rcases List.mem_append.mp hb with hb | hb
   ·obtain ⟨x, hx⟩ := cellL_mem.mp hb; exact .inr (new_of kp₀.keep (cells x b hx).2)
   ·rcases List.mem_append.mp hb with hb | hb
    ·exact .inr (fx b hb)
    ·exact .inl hb

/-! ## `__init__` -/
def asgVal (s : Stmt) : Expr := match s with | .Assign _ e _ => e | _ => default
def asgTs (s : Stmt) : List Expr := match s with | .Assign [.Tuple ts _ _] _ _ => ts | _ => []
theorem ini0 : ∃ p ap p2 pos, iniSt 0 = .Assign [.Attribute (.Name "self" p) "raw" ap] (.Name "ws" p2) pos := ⟨_, _, _, _, rfl⟩
theorem ini1 : ∃ ts k p c d e f k2 p2 pos, iniSt 1 = .Assign [.Tuple ts k p] (.Tuple [.Attribute (.Name "Whitespace" c) "S" d, .Attribute (.Name "Whitespace" e) "T" f] k2 p2) pos ∧ ts = asgTs (iniSt 1) := ⟨_, _, _, _, _, _, _, _, _, _, rfl, rfl⟩
theorem ini4 : ∃ p ap pos, iniSt 4 = .For (forTarget (iniSt 4)) (.Attribute (.Name "self" p) "raw" ap) (forBody (iniSt 4)) [] pos := ⟨_, _, _, rfl⟩
theorem ini5 : ∃ p ap pos, iniSt 5 = .Assign [.Attribute (.Name "self" p) "n" ap] (asgVal (iniSt 5)) pos := ⟨_, _, _, rfl⟩
theorem ini6 : ∃ p ap pos, iniSt 6 = .Assign [.Attribute (.Name "self" p) "nt" ap] (asgVal (iniSt 6)) pos := ⟨_, _, _, rfl⟩
theorem ini7 : ∃ p ap pos, iniSt 7 = .Assign [.Attribute (.Name "self" p) "norm" ap] (asgVal (iniSt 7)) pos := ⟨_, _, _, rfl⟩
theorem ini8 : ∃ p ap pos, iniSt 8 = .Assign [.Attribute (.Name "self" p) "is_simple" ap] (asgVal (iniSt 8)) pos := ⟨_, _, _, rfl⟩
theorem ini_body : bodyOf fdInit = [iniSt 0, iniSt 1, iniSt 2, iniSt 3, iniSt 4, iniSt 5, iniSt 6, iniSt 7, iniSt 8] := by kernel_rfl
theorem ini_swap : swapOf scI (asgTs (iniSt 1)) (asgVal (iniSt 1)) = some (some [("S" : Str), "T"]) := by kernel_rfl

def rI0 (x : Addr) (ws : Str) : Rho := [("self", .inst x), ("ws", .v (.str ws)), ("S", .u), ("T", .u), ("count", .u), ("b", .u), ("n", .u), ("nt", .u), ("ch", .u)]
def rI1 (x : Addr) (ws : Str) : Rho := [("self", .inst x), ("ws", .v (.str ws)), ("S", .v (.str " ")), ("T", .v (.str "\t")), ("count", .u), ("b", .u), ("n", .u), ("nt", .u), ("ch", .u)]
def rI2 (x : Addr) (ws : Str) : Rho := [("self", .inst x), ("ws", .v (.str ws)), ("S", .v (.str " ")), ("T", .v (.str "\t")), ("count", .o []), ("b", .u), ("n", .u), ("nt", .u), ("ch", .u)]
theorem ini_r1 {x : Addr} {ws : Str} : bindNs ownI scI (List.reverse [("S" : Str), "T"]) (List.reverse [.str " ", .str "\t"]) (rI0 x ws) = some (rI1 x ws) := by kernel_rfl
theorem ini_s2 {x : Addr} {ws : Str} {rec : Rho → List Stmt → Option (Fl × Rho)} : run1 gNil ownI scI rec (rI1 x ws) (iniSt 2) = some (.next, rI2 x ws) := by kernel_rfl
theorem ini_s3 {x : Addr} {ws : Str} {rec : Rho → List Stmt → Option (Fl × Rho)} : run1 gNil ownI scI rec (rI2 x ws) (iniSt 3) = some (.next, rI x ws [] 0 0 0 .u) := by kernel_rfl
theorem ini_v5 {x : Addr} {ws : Str} {cnt : List Int} {b n nt : Int} {ch : Slot} : ev gNil 40 .v scI (rI x ws cnt b n nt ch) (asgVal (iniSt 5)) = some (.int n) := by kernel_rfl
theorem ini_v6 {x : Addr} {ws : Str} {cnt : List Int} {b n nt : Int} {ch : Slot} : ev gNil 40 .v scI (rI x ws cnt b n nt ch) (asgVal (iniSt 6)) = some (.int nt) := by kernel_rfl
theorem ini_v7 {x : Addr} {ws : Str} {cnt : List Int} {b n nt : Int} {ch : Slot} (hc : cnt.length ≤ 400) : ev gNil 40 .v scI (rI x ws cnt b n nt ch) (asgVal (iniSt 7)) = some (normV cnt b) := by
 obtain ⟨v, h1, rfl⟩ := wev_ok (Γ := gNil) 40 .v scI (rI x ws cnt b n nt ch) (asgVal (iniSt 7)) (· = normV cnt b) (by
  conv => whnf
  refine wopt.mk (v := .tup (cnt.map .int)) (if_pos (sizeOk_of (by simp; omega))) ?_
  rfl)
 exact h1
theorem ini_v8 {x : Addr} {ws : Str} {cnt : List Int} {b n nt : Int} {ch : Slot} (hc : cnt.length ≤ 400) : ∃ v, ev gNil 40 .v scI (rI x ws cnt b n nt ch) (asgVal (iniSt 8)) = some v := by
 obtain ⟨v, h1, _⟩ := wev_ok (Γ := gNil) 40 .v scI (rI x ws cnt b n nt ch) (asgVal (iniSt 8)) (fun _ => True) (by
  conv => whnf
  refine wopt.mk (len_lst (by simp; omega)) ?_
  trivial)
 exact ⟨v, h1⟩
theorem gNil_ok {w : World} {d : Nat} : GOk w d gNil := ⟨fun _ _ _ _ h => (nomatch h), fun _ _ h => (nomatch h), fun _ _ _ h => (nomatch h), fun _ _ _ h => (nomatch h)⟩
theorem gNil_gen {w : World} {d : Nat} : ∀ f args vs, gNil.gen f args = some vs → GenFor w d f args vs := fun _ _ _ h => (nomatch h)

theorem ws_reads (P : Params) : readsIn (K P) 83 (.type "type") = true := by kernel_rfl
theorem ws_clsS (P : Params) : ∃ t, findCls (K P) (.ref 83) (.type "type") "S" = some (.val (.str " " t)) := ⟨209, by kernel_rfl⟩
theorem ws_clsT (P : Params) : ∃ t, findCls (K P) (.ref 83) (.type "type") "T" = some (.val (.str "\t" t)) := ⟨210, by kernel_rfl⟩
section
variable {w : World} {d : Nat} {sc : Sc} {env : Env} {ρ : Rho} {pos : Pos}
theorem Ev.clsAttr {name : Str} {p ap : Pos} {x : Str} (hg : glob sc "Whitespace" = true) (hc : ∀ P, ∃ t, findCls (K P) (.ref 83) (.type "type") name = some (.val (.str x t))) : Ev w d sc .v env ρ (.Attribute (.Name "Whitespace" p) name ap) (.str x) := fun A s V ad Q E R rd k => by
 obtain ⟨t, ht⟩ := hc w.params
 exact Attribute_Name_ (wp_global rd hg (nm_ws _) (cls_value (K := K w.params) rd.kin (ws_reads _) ht rfl (k _ _ .tok .str)) (by decide))
end

theorem Ste.dropAt {V V' : List Addr} {M M' : Addr → Prop} {s s' : Shared} {a : Addr} (x : Ste V (fun b => M b ∨ b = a) s V' M' s') : Ste V (fun b => M b ∨ b = a) s V' (fun b => M' b ∨ b = a) s' :=
 ⟨x.chg, fun b h => h.elim (x.grow b) fun q => .inl (.inr q), x.growV, x.sub, x.alive, x.gx⟩

section
variable {w : World} {d : Nat} {V₀ : List Addr}

/-- the run of `__init__` in its frame -/
theorem init_run {F : Fm} {V : List Addr} {x dx : Addr} {ws : Str} {s : Shared} {A : Around} {E : Value → Shared → Prop} {Q : Flow → Shared → Prop} (hF : FmOk F scI) (R : Room d A) (hws : ws.length ≤ 400) (S : St w F scI V (fun _ => []) (rI0 x ws) s) (I : Ins F V (fun _ => []) (rI0 x ws) x dx [] 0 s)
  (k : ∀ s' es n nv V', Kp F.s₀ s' → s'.heap.get? x = some (instObj 83 dx) → s'.heap.get? dx = some (W.dictOf es n) → getL "norm" es = some (some nv) → getL "equal" es = some none → (∀ a ∈ F.V₀, a ∈ V') → Rep V' s'.heap (normV (wsGo (chs ws) [] 0).1 ((wsGo (chs ws) [] 0).2 : Int)) nv → Q .next s') :
  wpAny (model pw w) A (execs (bodyOf fdInit) F.env) Q E s := by
 rw [ini_body]
 have hlen : (chs ws).length ≤ 400 := by rw [← len_chs]; exact hws
 have hcl := wsGo_len (chs ws) [] 0 (by omega) (by simp)
 -- self.raw = ws
 obtain ⟨p, ap, p2, pos, e0⟩ := ini0
 rw [e0]
 refine wpAny_execs_cons (wp_put (d := d) R S I rfl (Ev.name (v := .str ws) rfl (by decide)) rfl (ws_raw _).1 rfl (by simp) fun s₁ t₁ v₁ S₁ r₁ I₁ T₁ => ?_)
 obtain ⟨tk, rfl⟩ := (r₁ : Rep V s₁.heap (.str ws) v₁).str_inv
 -- S, T
 obtain ⟨ts, kk, p, c, dd, e, f, k2, p2, pos, e1, ets⟩ := ini1
 have hsw := ini_swap
 rw [← ets, e1] at hsw
 rw [e1]
 have hE := Ex.swapped (w := w) (d := d) (F := F) (sc := scI) (own := ownI) (ρ := rI0 x ws) (ρ' := rI1 x ws) (ts := ts) (kk := kk) (tp := p) (pos := pos) (names := [("S" : Str), "T"])
  (Ev.tuple (pos := p2) (kk := k2) (vs := [.str " ", .str "\t"]) (by decide) (Evs.cons (by decide) (by simp) (Ev.clsAttr (p := c) (ap := dd) (by kernel_rfl) ws_clsS) (Evs.cons (by decide) (by simp) (Ev.clsAttr (p := e) (ap := f) (by kernel_rfl) ws_clsT) Evs.nil)))
  swapsSole_tup (swapOf_ok hF.fn hF.nm hsw) rfl ini_r1
 refine wpAny_execs_cons (hE A s₁ V _ _ E R S₁ fun fl₂ s₂ V₂ ad₂ S₂ T₂ fr₂ => ?_)
 cases fr₂
 have I₂ := I₁.next T₂
 -- count = []
 refine wpAny_execs_cons (run1_ok gNil_ok gNil_gen hF (rec := fun _ _ => none) (fun _ _ _ _ h => nomatch h) ini_s2 A s₂ V₂ ad₂ _ E R S₂ fun fl₃ s₃ V₃ ad₃ S₃ T₃ fr₃ => ?_)
 cases fr₃
 have I₃ := I₂.next T₃
 -- b = n = nt = 0
 refine wpAny_execs_cons (run1_ok gNil_ok gNil_gen hF (rec := fun _ _ => none) (fun _ _ _ _ h => nomatch h) ini_s3 A s₃ V₃ ad₃ _ E R S₃ fun fl₄ s₄ V₄ ad₄ S₄ T₄ fr₄ => ?_)
 cases fr₄
 have I₄ := I₃.next T₄
 -- the loop
 obtain ⟨p, ap, pos, e4⟩ := ini4
 rw [e4]
 obtain ⟨n', nt', ch', hloop⟩ := ini_loop (x := x) (ws := ws) (chs ws) [] 0 0 0 .u (by omega) (by simp)
 have hraw : getL "raw" (putL "raw" (PyData.keyHash w.params "raw") (.str "raw" t₁) (.str ws tk) []) = some (some (.str ws tk)) := rfl
 have S₄' : St w F scI V₄ ad₄ (rI x ws [] ((0 : Nat) : Int) 0 0 .u) s₄ := S₄
 refine wpAny_execs_cons (wpAny_For (Attribute_Name_ ?_) (fun _ => rfl))
 obtain ⟨sv, va, rfl⟩ := S₄.rd.vars ("self" : Str) (.inst x) rfl
 refine wp_name S₄.rd.fn va ?_ (by decide)
 refine get_value (K := K w.params) (od := some (W.dictOf _ _)) S₄.rd.kin ⟨I₄.obj, rfl, rfl, I₄.dict⟩ (ws_get _) (findObj_own (ws_dict _) (ws_raw _).2 rfl hraw) rfl ?_
 have k₅ : Kp s₄ { s₄ with toks := s₄.toks + 1 } := .tok
 have hitems : itemsOf (.str ws) = some ((chs ws).map fun c => .str (strOf c)) := if_pos (sizeOk_of (by omega))
 refine items_ok (V := V₄) (w := w) (A := A) (s := { s₄ with toks := s₄.toks + 1 }) hitems (.inl .str) _ E fun It fp P Sti s₅ k₅' W => ?_
 refine for_loop (V := V₄) (own := ownI) (t := forTarget (iniSt 4)) (a := forBody (iniSt 4)) (fun ρ fl ρ' hb => run_ok gNil_ok gNil_gen hF 11 _ _ _ _ hb) R hloop W (S₄'.step k₅) k₅' (fun b h => nomatch h) fun fl₆ s₆ V₆ ad₆ S₆ T₆ fr₆ => ?_
 cases fr₆
 have T₆' := (Ste.kp k₅).trans T₆
 have I₆ := I₄.next T₆'
 -- self.n
 obtain ⟨p, ap, pos, e5⟩ := ini5
 rw [e5]
 refine wpAny_execs_cons (wp_put (d := d) R S₆ I₆ rfl (ev_ok gNil_ok 40 _ _ _ _ _ ini_v5 F.env).1 (by kernel_rfl) (ws_n _) rfl (by repeat' (first | exact Nat.zero_le _ | refine Nat.le_trans (own_store.putL_len _ _ _ _ _) (Nat.succ_le_succ ?_))) fun s₇ t₇ v₇ S₇ r₇ I₇ T₇ => ?_)
 obtain ⟨p, ap, pos, e6⟩ := ini6
 rw [e6]
 refine wpAny_execs_cons (wp_put (d := d) R S₇ I₇ rfl (ev_ok gNil_ok 40 _ _ _ _ _ ini_v6 F.env).1 (by kernel_rfl) (ws_nt _) rfl (by repeat' (first | exact Nat.zero_le _ | refine Nat.le_trans (own_store.putL_len _ _ _ _ _) (Nat.succ_le_succ ?_))) fun s₈ t₈ v₈ S₈ r₈ I₈ T₈ => ?_)
 obtain ⟨p, ap, pos, e7⟩ := ini7
 rw [e7]
 refine wpAny_execs_cons (wp_put (d := d) R S₈ I₈ rfl (ev_ok gNil_ok 40 _ _ _ _ _ (ini_v7 hcl) F.env).1 (by kernel_rfl) (ws_tnorm _) rfl (by repeat' (first | exact Nat.zero_le _ | refine Nat.le_trans (own_store.putL_len _ _ _ _ _) (Nat.succ_le_succ ?_))) fun s₉ t₉ v₉ S₉ r₉ I₉ T₉ => ?_)
 obtain ⟨p, ap, pos, e8⟩ := ini8
 rw [e8]
 obtain ⟨b8, hb8⟩ := ini_v8 (x := x) (ws := ws) (b := ((wsGo (chs ws) [] 0).2 : Int)) (n := n') (nt := nt') (ch := ch') hcl
 refine wpAny_execs_cons (wp_put (d := d) R S₉ I₉ rfl (ev_ok gNil_ok 40 _ _ _ _ _ hb8 F.env).1 (by kernel_rfl) (ws_simple _) rfl (by repeat' (first | exact Nat.zero_le _ | refine Nat.le_trans (own_store.putL_len _ _ _ _ _) (Nat.succ_le_succ ?_))) fun s₁₀ t₁₀ v₁₀ S₁₀ r₁₀ I₁₀ T₁₀ => ?_)
 refine wpAny_execs_nil ?_
 have r₉' := T₁₀.rep (fun a h => h.elim (S₉.mut a) fun q => q ▸ I₉.vd) r₉
 exact k s₁₀ _ _ v₉ V₆ S₁₀.kp I₁₀.obj I₁₀.dict rfl rfl S₁₀.v0 r₉'
end

theorem ws_makes (P : Params) : makesIn (K P) 83 = true := by kernel_rfl
theorem ws_init (P : Params) : findIn (K P) (.ref 83) "__init__" = some (some (.ref 38)) := by kernel_rfl
theorem ws_initFn (P : Params) : typeIn (K P) (.ref 38) = some (.type "function") := by kernel_rfl
theorem ws_keep (P : Params) : keepIn (K P) (.ref 83) = true := by kernel_rfl
theorem ini_cells (n : Nat) : cellsFrom n scI [] = [] := by kernel_rfl
theorem under_room {d : Nat} {A : Around} {c : Addr} {rest : List Value} {kw : List (Str × Value)} (R : Room (d + 1) A) : Room d (A.under (.builtin "type.__call__" ⟨.ref c :: rest, kw⟩)) := by
 have h1 : (Code.builtin "type.__call__" ⟨.ref c :: rest, kw⟩).weight = 1 := by kernel_rfl
 have h2 : (Code.builtin "type.__call__" ⟨.ref c :: rest, kw⟩).cUnits = 1 := by kernel_rfl
 refine ⟨R.h, ?_, ?_⟩
 ·have := R.depth
  show A.depth + (Code.builtin "type.__call__" ⟨.ref c :: rest, kw⟩).weight + d < 900
  omega
 ·have := R.units
  show A.units + (Code.builtin "type.__call__" ⟨.ref c :: rest, kw⟩).cUnits + 10 * d < 5000
  omega

theorem class_ok {w : World} {d : Nat} {ws : Str} (hws : ws.length ≤ 400) : FnCall w (d + 2) (.ref 83) [.str ws] (wsOf (chs ws)) := by
 intro A s pos ts Q E R hp hts
 refine callWith_of (P := fun h => (K w.params).In h) (by rw [hp]; rfl) (fun h X => keeps_K (K := K w.params) (ws_keep _) h X) (evalArgs_any hp (wpAny_mono hts (fun xs s₁ hx => ?_) fun _ _ e => e))
 obtain ⟨kin, V, lv, rs, k⟩ := hx
 refine ⟨kin, ?_⟩
 cases rs with
 | cons r0 rs0 =>
 cases rs0
 obtain ⟨tk, rfl⟩ := r0.str_inv
 refine wpAny_call ?_
 obtain ⟨h, g, dr, t, os⟩ := s₁
 refine make_core (makes_of (K := K w.params) kin (ws_makes _)) (looks_findIn (K := K w.params) kin (ws_init _)) (fun self => bind_fn (K := K w.params) kin self (ws_initFn _)) (.inl rfl) ?_
 have hx0 : h.get? (h.objs.size + 1) = none := by
  cases e : h.get? (h.objs.size + 1) with
  | none => rfl
  | some o => exact absurd (Heap.lt_size e) (Nat.not_lt.mpr (Nat.le_succ _))
 have hd0 := get?_size h
 generalize hS : (⟨(h.push emptyDict).push (instObj 83 h.objs.size), g, dr, t, os⟩ : Shared) = s₂
 have hk : ∀ b o, h.get? b = some o → s₂.heap.get? b = some o := fun b o e => by rw [← hS]; exact Heap.get?_push_of_some _ (Heap.get?_push_of_some _ e)
 have kp₀ : Kp (⟨h, g, dr, t, os⟩ : Shared) s₂ := by rw [← hS]; exact Kp.heap fun b o e => Heap.get?_push_of_some _ (Heap.get?_push_of_some _ e)
 have gx : s₂.heap.get? (h.objs.size + 1) = some (instObj 83 h.objs.size) := by
  rw [← hS]
  have := Heap.get?_push_size (h.push emptyDict) (o := instObj 83 h.objs.size) rfl
  rw [Heap.size_push] at this
  exact this
 have gd : s₂.heap.get? h.objs.size = some (W.dictOf [] 0) := by rw [← hS]; exact Heap.get?_push_of_some _ (Heap.get?_push_size _ rfl)
 have hsz : s₂.heap.objs.size = h.objs.size + 2 := by rw [← hS]; show ((h.push emptyDict).push _).objs.size = _; rw [Heap.size_push, Heap.size_push]
 have kin₂ : KIn w s₂.heap := KIn.keeps kin hk
 have R₂ := under_room (c := 83) (rest := [.str ws tk]) (kw := []) R
 refine codeAny_call_cells (vals := [.ref (h.objs.size + 1), .str ws tk]) (Nat.lt_trans (Nat.lt_of_le_of_lt (Nat.le_add_right _ _) R₂.depth) (by decide)) (kin₂.get (at_init _)) rfl kin₂.nolimit (ok_init.code w _ kin₂) ok_init.body (ok_init.bind [.ref (h.objs.size + 1), .str ws tk] (by kernel_rfl)) ok_init.clo (fun x hx => ?_) (fun s₃ X => ?_) ok_init.co (by kernel_rfl) ok_init.kind
 ·have hm := (List.of_mem_zip hx).1
  rcases ok_init.ps x.1 hm with hk | hk
  ·exact .inl hk
  ·exact .inr ⟨hk, cellsFrom_look _ _ _ _ hk⟩
 ·have hps : fdInit.params.args.map (·.arg) = [("self" : Str), "ws"] := by kernel_rfl
  obtain ⟨S, _⟩ := begin_gen (w := w) (a := 38) (s₀ := ⟨h, g, dr, t, os⟩) (s := s₂) (V₀ := V) (Vx := [h.objs.size + 1, h.objs.size]) (xs := [.ref (h.objs.size + 1), .str ws tk]) (ρ := rI0 (h.objs.size + 1) ws) ok_init kp₀ kin lv (fun b hb => by
    simp only [List.mem_cons, List.not_mem_nil, or_false] at hb
    rcases hb with rfl | rfl
    ·exact ⟨_, gx⟩
    ·exact ⟨_, gd⟩) (fun b hb => by
    simp only [List.mem_cons, List.not_mem_nil, or_false] at hb
    rcases hb with rfl | rfl
    ·exact hx0
    ·exact hd0) (by rw [hps]; rfl) (fun y sl hy => by
    have hm := mem_of_lookup hy
    unfold rI0 at hm
    simp only [List.mem_cons, Prod.mk.injEq, List.not_mem_nil, or_false] at hm
    rw [hps]
    rcases hm with ⟨rfl, rfl⟩ | ⟨rfl, rfl⟩ | ⟨_, rfl⟩ | ⟨_, rfl⟩ | ⟨_, rfl⟩ | ⟨_, rfl⟩ | ⟨_, rfl⟩ | ⟨_, rfl⟩ | ⟨_, rfl⟩
    ·exact .inr ⟨rfl, .ref (h.objs.size + 1), by simp, rfl⟩
    ·exact .inr ⟨rfl, .str ws tk, by simp, .str⟩
    all_goals exact .inl rfl) X
  have nm : ∀ b, b = h.objs.size + 1 ∨ b = h.objs.size → ¬ Mut ⟨callEnvC fdInit s₂.heap.objs.size 38, ⟨h, g, dr, t, os⟩, V⟩ (rI0 (h.objs.size + 1) ws) (fun _ => []) b := fun b hb hm => by
   rcases hm with e | ⟨y, e⟩ | ⟨y, sl, _, _, e⟩
   ·have e : b = s₂.heap.objs.size := e
    omega
   ·have e : (cellsFrom (s₂.heap.objs.size + 1) scI []).lookup y = some b := e
    rw [ini_cells] at e
    cases e
   ·cases e
  have I : Ins ⟨callEnvC fdInit s₂.heap.objs.size 38, ⟨h, g, dr, t, os⟩, V⟩ (s₂.heap.objs.size :: (cellL (cellsFrom (s₂.heap.objs.size + 1) fdInit.scope.names []) ++ ([h.objs.size + 1, h.objs.size] ++ V))) (fun _ => []) (rI0 (h.objs.size + 1) ws) (h.objs.size + 1) h.objs.size [] 0 s₃ :=
   ⟨X.toInCall.keep _ _ gx, X.toInCall.keep _ _ gd, nm _ (.inl rfl), nm _ (.inr rfl), List.mem_cons_of_mem _ (List.mem_append_right _ List.mem_cons_self), List.mem_cons_of_mem _ (List.mem_append_right _ (List.mem_cons_of_mem _ List.mem_cons_self)), hd0⟩
  refine init_run (d := d) (F := ⟨callEnvC fdInit s₂.heap.objs.size 38, ⟨h, g, dr, t, os⟩, V⟩) ⟨ok_init.kind, rfl⟩ R₂.deeper hws S I fun s' es n nv V' K' ox od e1 e2 hv rn => ?_
  refine ⟨rfl, k _ s' K' ?_⟩
  exact .ws (lv.not_mem hx0) (lv.not_mem hd0) ox od e1 e2 (rn.mono (fun _ _ _ e => e) fun b hb => .inl (hv b hb))

/-! ## rules for the pieces of a generator's run -/
abbrev NoE : Value → Shared → Prop := fun _ _ => False
section
variable {M : Model} {A : Around} {R : GenEnd} {Y : Protocol} {n : Nat} {s₀ : Shared} {c : Code} {fs : List Frame} {s : Shared} {env : Env}
 {K : Flow → Sem Fin} {H : Value → Sem Fin} {gd : Bool → Bool} {lv : List Value → List Value}

def backFrame (K : Flow → Sem Fin) (H : Value → Sem Fin) (gd : Bool → Bool) (lv : List Value → List Value) (env : Env) (c : Code) (p : Pos) : Frame :=
 .ret (fun r => ((match r with | .ok f => (.pure f : Sem Flow) | .error e => .raise e).onRaise fun (x : Value) => do
    if (← field x 1) == Value.none then unsupported "frame.own-activation:exception-without-traceback"
    setFlight x env.frame).wrap K H gd lv) none (gd false) (lv []) c p []

theorem seg_exec {st : Stmt} (h : wpAny M (A.over c fs) (exec st env) (fun f s' => Seg M A R Y n s₀ c (K f) fs s') NoE s) : Seg M A R Y n s₀ c ((exec st env).wrap K H gd lv) fs s :=
 seg_wrap (wpAny_mono h (fun _ _ q => q) fun _ _ q => q.elim)
theorem seg_If {test : Expr} {body orelse : List Stmt} {pos : Pos} (h : wpAny M (A.over c fs) (isTrue test env (eval test env)) (fun b s' => Seg M A R Y n s₀ c ((execs (if b then body else orelse) env).wrap K H gd lv) fs s') NoE s) :
  Seg M A R Y n s₀ c ((exec (.If test body orelse pos) env).wrap K H gd lv) fs s := by
 rw [exec_If]
 show Seg M A R Y n s₀ c (.at pos fun _ => ((isTrue test env (eval test env) >>= fun b => if b = true then execs body env else execs orelse env)).wrap K H gd lv) fs s
 refine seg_at ?_
 rw [Sem.bind_eq_wrap', Sem.wrap_wrap]
 refine seg_wrap (wpAny_mono h (fun b s' q => ?_) fun _ _ q => q.elim)
 cases b <;> exact q
theorem seg_For {target iter : Expr} {body orelse : List Stmt} {pos : Pos} (hs : ∀ x, foldedSetIterable iter env x = pure x)
  (h : wpAny M (A.over c fs) (eval iter env) (fun x s₁ => wpAny M (A.over c fs) (pyIter x) (fun it s₂ => ∀ p, Seg M A R Y n s₀ (.forLoop target it body orelse env) (M.den (.forLoop target it body orelse env)) (backFrame K H gd lv env c p :: fs) s₂) NoE s₁) NoE s) :
  Seg M A R Y n s₀ c ((exec (.For target iter body orelse pos) env).wrap K H gd lv) fs s := by
 rw [exec_For]
 show Seg M A R Y n s₀ c (.at pos fun _ => ((eval iter env >>= fun x => (foldedSetIterable iter env x >>= fun x => standAt iter.pos >>= fun _ => holding [x] (pyIter x) >>= fun it => runOwn (.forLoop target it body orelse env) env))).wrap K H gd lv) fs s
 refine seg_at ?_
 rw [Sem.bind_eq_wrap', Sem.wrap_wrap]
 refine seg_wrap (wpAny_mono h (fun x s₁ q => ?_) fun _ _ q => q.elim)
 rw [hs x]
 show Seg M A R Y n s₀ c (.at iter.pos fun _ => (holding [x] (pyIter x) >>= fun it => runOwn (.forLoop target it body orelse env) env).wrap K H gd lv) fs s₁
 refine seg_at ?_
 rw [Sem.bind_eq_wrap', Sem.wrap_wrap]
 refine seg_wrap (wpAny_holding (wpAny_mono q (fun it s₂ q => ?_) fun _ _ q => q.elim))
 exact seg_call q
end

section
variable {prog : Program} {w : World} {A : Around} {R : GenEnd} {Y : Protocol} {n : Nat} {s₀ : Shared} {fs : List Frame} {s : Shared} {env : Env}
def turnK (target : Expr) (it : Value) (body orelse : List Stmt) (env : Env) : Flow → Sem Fin
 | .next | .cont => .pure (.again (.forLoop target it body orelse env))
 | .brk => .pure (.done .next)
 | .ret v => .pure (.done (.ret v))
def turnH (env : Env) : Value → Sem Fin := fun e => (do noteFrame e env; theTreesLotGoes e : Sem Unit).wrap (fun _ => .raise e) .raise id id

theorem seg_forLoop {target : Expr} {it : Value} {body orelse : List Stmt}
  (h : wpAny (model prog w) (A.over (.forLoop target it body orelse env) fs) (pyNext it) (fun r s₁ => match r with
   | none => Seg (model prog w) A R Y n s₀ (.forLoop target it body orelse env) (.pure (.again (.block orelse env))) fs s₁
   | some v => wpAny (model prog w) (A.over (.forLoop target it body orelse env) fs) (letOwnedTupleGo target it v) (fun _ s₂ => wpAny (model prog w) (A.over (.forLoop target it body orelse env) fs) (assign target env v) (fun _ s₃ =>
     Seg (model prog w) A R Y n s₀ (.forLoop target it body orelse env) ((execs body env).wrap (turnK target it body orelse env) (turnH env) id id) fs s₃) NoE s₂) NoE s₁) NoE s) :
  Seg (model prog w) A R Y n s₀ (.forLoop target it body orelse env) ((model prog w).den (.forLoop target it body orelse env)) fs s := by
 show Seg _ A R Y n s₀ _ ((forTurn target it body orelse env).onRaise (fun x => do noteFrame x env; theTreesLotGoes x)) fs s
 unfold forTurn
 rw [Sem.onRaise_eq_wrap]
 show Seg _ A R Y n s₀ _ (.at target.pos fun _ => (((pyNext it).onRaise (fun _ => standAt { target.pos with line := 0 })) >>= fun r => match r with
  | none => again (.block orelse env)
  | some v => do
   letOwnedTupleGo target it v
   assign target env v
   match ← execs body env with
   | .next | .cont => again (.forLoop target it body orelse env)
   | .brk => pure (.done .next)
   | .ret v => pure (.done (.ret v))).wrap _ _ _ _) fs s
 refine seg_at ?_
 rw [Sem.bind_eq_wrap', Sem.onRaise_eq_wrap, Sem.wrap_wrap, Sem.wrap_wrap]
 refine seg_wrap (wpAny_mono h (fun r s₁ q => ?_) fun _ _ q => q.elim)
 cases r with
 | none => exact q
 | some v =>
  show Seg _ A R Y n s₀ _ ((letOwnedTupleGo target it v >>= fun _ => _).wrap _ _ _ _) fs s₁
  rw [Sem.bind_eq_wrap', Sem.wrap_wrap]
  refine seg_wrap (wpAny_mono q (fun _ s₂ q => ?_) fun _ _ q => q.elim)
  rw [Sem.bind_eq_wrap', Sem.wrap_wrap]
  refine seg_wrap (wpAny_mono q (fun _ s₃ q => ?_) fun _ _ q => q.elim)
  rw [Sem.bind_eq_wrap', Sem.wrap_wrap]
  rw [Sem.wrap_congr (execs body env) _ _ (K' := turnK target it body orelse env) (H' := turnH env) (fun f => by cases f <;> rfl) (fun e => by
   show (do noteFrame e env; theTreesLotGoes e : Sem Unit).bind (fun _ => .raise e) = _
   rw [Sem.bind_eq_wrap]; rfl)]
  exact q

/-- the loop is through -/
theorem seg_through {target : Expr} {it : Value} {body : List Stmt} {K : Flow → Sem Fin} {H : Value → Sem Fin} {gd : Bool → Bool} {lv : List Value → List Value} {c : Code} {p : Pos} (h : Seg (model prog w) A R Y n s₀ c (K .next) fs s) :
  Seg (model prog w) A R Y n s₀ (.forLoop target it body [] env) (.pure (.again (.block [] env))) (backFrame K H gd lv env c p :: fs) s := by
 refine seg_again (by rfl) ?_
 exact seg_leaf (.ok .next) h
end

/-! ## what the generator gives -/
def escGo : Nat → Bool → List Nat → List (Nat × List Nat)
 | pos, true, [] => [(pos - 1, [92])]
 | pos, false, [] => []
 | pos, true, c :: r => (pos, [92, c]) :: escGo (pos + 1) false r
 | pos, false, c :: r => if c = 92 then escGo (pos + 1) true r else (pos, [c]) :: escGo (pos + 1) false r
def escV (p : Nat × List Nat) : PV := .tup [.int (p.1 : Int), .str (mk p.2)]
def escOf (l : List Nat) : List PV := (escGo 0 false l).map escV

abbrev scG : Sc := fdIter.scope.names
def itSt (i : Nat) : Stmt := ((bodyOf fdIter)[i]?).getD default
def ifC (s : Stmt) : Expr := match s with | .If c _ _ _ => c | _ => default
def ifT (s : Stmt) : List Stmt := match s with | .If _ a _ _ => a | _ => []
def ifE (s : Stmt) : List Stmt := match s with | .If _ _ b _ => b | _ => []
def nth (l : List Stmt) (i : Nat) : Stmt := (l[i]?).getD default
def yE (s : Stmt) : Expr := match s with | .Expr (.Yield (some e) _) _ => e | _ => default
def itIf : Stmt := nth (forBody (itSt 2)) 0
def itElif : Stmt := nth (ifE itIf) 0
theorem it_body : bodyOf fdIter = [itSt 0, itSt 1, itSt 2, itSt 3] := by kernel_rfl
theorem it0 : ∃ p k q pos, itSt 0 = .Assign [.Name "pos" p] (.Constant (.int 0) k q) pos := ⟨_, _, _, _, rfl⟩
theorem it1 : ∃ p k q pos, itSt 1 = .Assign [.Name "escape" p] (.Constant (.bool false) k q) pos := ⟨_, _, _, _, rfl⟩
theorem it2 : ∃ ts k p c d e pos, itSt 2 = .For (.Tuple ts k p) (.Call (.Name "enumerate" c) [.Name "addr" d] [] e) [itIf] [] pos ∧ forTarget (itSt 2) = .Tuple ts k p := ⟨_, _, _, _, _, _, _, rfl, rfl⟩
theorem it3 : ∃ pos, itSt 3 = .If (ifC (itSt 3)) [nth (ifT (itSt 3)) 0] [] pos := ⟨_, rfl⟩
theorem it_if : ∃ pos, itIf = .If (ifC itIf) [nth (ifT itIf) 0, nth (ifT itIf) 1] [itElif] pos := ⟨_, rfl⟩
theorem it_elif : ∃ pos, itElif = .If (ifC itElif) [nth (ifT itElif) 0] [nth (ifE itElif) 0] pos := ⟨_, rfl⟩
theorem it_y1 : ∃ yp pos, nth (ifT itIf) 0 = .Expr (.Yield (some (yE (nth (ifT itIf) 0))) yp) pos := ⟨_, _, rfl⟩
theorem it_y2 : ∃ yp pos, nth (ifE itElif) 0 = .Expr (.Yield (some (yE (nth (ifE itElif) 0))) yp) pos := ⟨_, _, rfl⟩
theorem it_y3 : ∃ yp pos, nth (ifT (itSt 3)) 0 = .Expr (.Yield (some (yE (nth (ifT (itSt 3)) 0))) yp) pos := ⟨_, _, rfl⟩

def rG (x : Str) (pos : Int) (esc : Bool) (ch : Slot) : Rho := [("addr", .v (.str x)), ("pos", .v (.int pos)), ("escape", .v (.bool esc)), ("ch", ch)]
theorem g_bind {x : Str} {p : Int} {esc : Bool} {ch : Slot} {i : Int} {y : Str} : bindT scG [] (forTarget (itSt 2)) (.tup [.int i, .str y]) (rG x p esc ch) = some (rG x i esc (.v (.str y))) := by kernel_rfl
theorem g_c1 {x : Str} {p : Int} {esc : Bool} {ch : Slot} : ev gNil 40 .v scG (rG x p esc ch) (ifC itIf) = some (.bool esc) := by kernel_rfl
theorem g_c3 {x : Str} {p : Int} {esc : Bool} {ch : Slot} : ev gNil 40 .v scG (rG x p esc ch) (ifC (itSt 3)) = some (.bool esc) := by kernel_rfl
theorem g_c2 {x : Str} {p : Int} {esc : Bool} {c : Nat} : ev gNil 40 .v scG (rG x p esc (.v (.str (mk [c])))) (ifC itElif) = some (.bool ([c] == [92])) := by kernel_rfl
theorem g_y1 {x : Str} {p : Int} {esc : Bool} {c : Nat} : ev gNil 40 .v scG (rG x p esc (.v (.str (mk [c])))) (yE (nth (ifT itIf) 0)) = some (.tup [.int p, .str (mk [92, c])]) := by kernel_rfl
theorem g_y2 {x : Str} {p : Int} {esc : Bool} {c : Nat} : ev gNil 40 .v scG (rG x p esc (.v (.str (mk [c])))) (yE (nth (ifE itElif) 0)) = some (.tup [.int p, .str (mk [c])]) := by kernel_rfl
theorem g_y3 {x : Str} {p : Int} {esc : Bool} {ch : Slot} : ev gNil 40 .v scG (rG x p esc ch) (yE (nth (ifT (itSt 3)) 0)) = some (.tup [.int p, .str (mk [92])]) := by kernel_rfl
theorem g_a1 {x : Str} {p : Int} {esc : Bool} {ch : Slot} : run1 gNil [] scG (fun _ _ => none) (rG x p esc ch) (nth (ifT itIf) 1) = some (.next, rG x p false ch) := by kernel_rfl
theorem g_a2 {x : Str} {p : Int} {esc : Bool} {ch : Slot} : run1 gNil [] scG (fun _ _ => none) (rG x p esc ch) (nth (ifT itElif) 0) = some (.next, rG x p true ch) := by kernel_rfl
theorem g_cells (n : Nat) : cellsFrom n scG [] = [] := by kernel_rfl

/-- from a wakening to a later point of the same run -/
structure Rel (D : List Addr) (s₀ s : Shared) : Prop where
 same : ∃ h tk g, s = { s₀ with heap := h, toks := tk, gens := g } ∧ GExt s₀.gens g
 keep : ∀ b o, b ∉ D → s₀.heap.get? b = some o → s.heap.get? b = some o
theorem Rel.refl (D : List Addr) (s : Shared) : Rel D s s := ⟨⟨_, _, _, rfl, .refl _⟩, fun _ _ _ e => e⟩
theorem Rel.kp {D : List Addr} {s₀ s s' : Shared} (r : Rel D s₀ s) (k : Kp s s') : Rel D s₀ s' := by
 obtain ⟨⟨h, t, g, rfl, hg⟩, k1⟩ := r
 obtain ⟨⟨h', t', g', rfl, hg'⟩, k2⟩ := k
 exact ⟨⟨h', t', g', rfl, hg.trans hg'⟩, fun b o hb e => k2 b o (k1 b o hb e)⟩
theorem Rel.heap {D : List Addr} {s₀ s : Shared} (r : Rel D s₀ s) {h' : Heap} {tk : Nat} (hk : ∀ b o, b ∉ D → s.heap.get? b = some o → h'.get? b = some o) : Rel D s₀ { s with heap := h', toks := tk } := by
 obtain ⟨⟨h, t, g, rfl, hg⟩, k1⟩ := r
 exact ⟨⟨h', tk, g, rfl, hg⟩, fun b o hb e => hk b o hb (k1 b o hb e)⟩
theorem Rel.ste {D : List Addr} {b₀ s₀ s s' : Shared} (r : Rel D s₀ s) {V V' : List Addr} {M M' : Addr → Prop} (T : Ste V M s V' M' s') (hM : ∀ a, M a → a ∈ D) (kb : Kp b₀ s) (kb' : Kp b₀ s') : Rel D s₀ s' := by
 obtain ⟨⟨h, t, g, rfl, hg⟩, k1⟩ := r
 obtain ⟨⟨h1, t1, g1, e1, _⟩, _⟩ := kb
 obtain ⟨⟨h2, t2, g2, e2, _⟩, _⟩ := kb'
 have gx := T.gx
 refine ⟨⟨s'.heap, s'.toks, s'.gens, ?_, hg.trans gx⟩, fun b o hb e => T.chg b o (fun q => hb (hM b q)) (k1 b o hb e)⟩
 obtain ⟨a1, a2, a3, a4, a5⟩ := s₀
 obtain ⟨b1, b2, b3, b4, b5⟩ := b₀
 cases e1; cases e2
 rfl

theorem drawsStr {A : Around} {w : World} (hh : A.handled = none) (it : Addr) (x : Str) (t : Tok) : Draws pw w A it [it] x.cps.size (fun i v => ∃ c u, x.cps[i]? = some c ∧ v = .str ⟨#[c]⟩ u) (fun i h => h.IsStrIter it (strIterType x) x t i) := by
 unfold strIterType
 split
 ·exact Draws.strAscii hh it x t
 ·exact Draws.strWide hh it x t

def Yp (D : List Addr) (b₀ : Shared) (items : List PV) : Protocol := fun m s₀ v s' kap =>
 (∃ item, items[items.length - 1 - m]? = some item ∧ ∀ V, Live s₀.heap V → Rep (D ++ V) s'.heap item v) ∧ Rel D s₀ s' ∧ (∀ b ∈ D, ∃ o, s'.heap.get? b = some o) ∧
  ∀ s'', Kp b₀ s'' → (∀ b ∈ D, ∀ o, s'.heap.get? b = some o → s''.heap.get? b = some o) → kap (.send .none) s''
def Rp (D : List Addr) : GenEnd := fun n s₀ r s₁ => r = .ok (.ret .none) ∧ (n = 0 ∧ Rel D s₀ s₁ ∧ ∀ b ∈ D, ∃ o, s₁.heap.get? b = some o)

section
variable {w : World} {d : Nat} {B : Around} {L e it a : Addr} {b₀ : Shared} {x : Str} {t : Tok} {genv : Env}

/-- a frame that keeps plain values alone, seen again later -/
theorem St.shift {F : Fm} {sc : Sc} {V : List Addr} {ad : Str → List Addr} {ρ : Rho} {s s' : Shared} (S : St w F sc V ad ρ s) (hρ : ∀ y sl, ρ.lookup y = some sl → sl = .u ∨ ∃ v, sl = .v v ∧ flat v = true) (k : Kp F.s₀ s') (hk : ∀ b ∈ V, ∀ o, s.heap.get? b = some o → s'.heap.get? b = some o) : St w F sc V ad ρ s' := by
 have ns : ∀ {m}, s.heap.Ns F.env.locals m → s'.heap.Ns F.env.locals m := fun n => n.at' fun o e => hk _ S.vL o e
 have cl : ∀ {y c v}, F.env.cells.lookup y = some c → s.heap.IsCell c v → s'.heap.IsCell c v := fun hc ⟨o, e, dd⟩ => ⟨o, hk _ (S.vC _ _ hc) o e, dd⟩
 refine { S with rd := { S.rd with kin := S.kin₀.keeps k.keep, low := fun b hb => let ⟨o, e⟩ := S.rd.low b hb; ⟨o, hk b hb o e⟩, vars := fun y sl hy => (S.rd.vars y sl hy).map fun val va sr => ⟨?_, ?_⟩ }, kp := k, ns := let ⟨m, n⟩ := S.ns; ⟨m, ns n⟩, cells := fun y c hc => ⟨let ⟨v, z⟩ := (S.cells y c hc).1; ⟨v, cl hc z⟩, (S.cells y c hc).2⟩ }
 ·rcases va with ⟨kk, m, n, q⟩ | ⟨kk, c, q, z⟩
  ·exact .inl ⟨kk, m, ns n, q⟩
  ·exact .inr ⟨kk, c, q, cl q z⟩
 ·rcases hρ y sl hy with rfl | ⟨v, rfl, hf⟩
  ·trivial
  ·have r : Rep V s.heap v val := sr
   show Rep V s'.heap v val
   cases r <;> first | exact .none | exact .bool | exact .int | exact .str | (simp [flat] at hf)

theorem rG_flat {p : Int} {esc : Bool} {c : Option Nat} : ∀ y sl, (rG x p esc (match c with | some c => .v (.str (mk [c])) | none => .u)).lookup y = some sl → sl = .u ∨ ∃ v, sl = .v v ∧ flat v = true := fun y sl hy => by
 have hm := mem_of_lookup hy
 unfold rG at hm
 simp only [List.mem_cons, Prod.mk.injEq, List.not_mem_nil, or_false] at hm
 rcases hm with ⟨_, rfl⟩ | ⟨_, rfl⟩ | ⟨_, rfl⟩ | ⟨_, rfl⟩
 ·exact .inr ⟨_, rfl, rfl⟩
 ·exact .inr ⟨_, rfl, rfl⟩
 ·exact .inr ⟨_, rfl, rfl⟩
 ·cases c with
  | none => exact .inl rfl
  | some c => exact .inr ⟨_, rfl, rfl⟩
abbrev chSl (c : Option Nat) : Slot := match c with | some c => .v (.str (mk [c])) | none => .u

/-- the generator's frame -/
def genF (b₀ : Shared) (L a : Addr) : Fm := ⟨callEnvC fdIter L a, b₀, []⟩
theorem genF_ok : FmOk (genF b₀ L a) scG := ⟨ok_iter.kind, rfl⟩

/-- the generator between two of its statements; X is what holds of its counter and its letters -/
structure GInv (w : World) (b₀ : Shared) (L e it a : Addr) (x : Str) (X : Heap → Prop) (p : Int) (esc : Bool) (c : Option Nat) (s : Shared) : Prop where
 st : St w (genF b₀ L a) scG [L] (fun _ => []) (rG x p esc (chSl c)) s
 ae : ∃ o, s.heap.get? e = some o
 ai : ∃ o, s.heap.get? it = some o
 ex : X s.heap
 sx : ∀ h h', X h → (∀ b o, b = e ∨ b = it → h.get? b = some o → h'.get? b = some o) → X h'
 hei : e ≠ it
 hLe : L ≠ e
 hLi : L ≠ it
 fe : b₀.heap.get? e = none
 fi : b₀.heap.get? it = none

theorem genF_mut {ρ : Rho} {b : Addr} (h : Mut (genF b₀ L a) ρ (fun _ => []) b) : b = L := by
 rcases h with q | ⟨y, q⟩ | ⟨y, sl, _, _, q⟩
 ·exact q
 ·have q : (cellsFrom (L + 1) scG []).lookup y = some b := q
  rw [g_cells] at q; cases q
 ·cases q

variable {X : Heap → Prop} {p : Int} {esc : Bool} {c : Option Nat} {s s' : Shared}
theorem GInv.alive (G : GInv w b₀ L e it a x X p esc c s) : ∀ b ∈ [L, e, it], ∃ o, s.heap.get? b = some o := fun b hb => by
 simp only [List.mem_cons, List.not_mem_nil, or_false] at hb
 rcases hb with rfl | rfl | rfl
 ·exact G.st.rd.low _ List.mem_cons_self
 ·exact G.ae
 ·exact G.ai
theorem GInv.shift (G : GInv w b₀ L e it a x X p esc c s) (k : Kp b₀ s') (hk : ∀ b ∈ [L, e, it], ∀ o, s.heap.get? b = some o → s'.heap.get? b = some o) : GInv w b₀ L e it a x X p esc c s' :=
 { G with
  st := G.st.shift (rG_flat (c := c)) k fun b hb o q => hk b (by rw [List.mem_singleton.mp hb]; exact List.mem_cons_self) o q
  ae := let ⟨o, q⟩ := G.ae; ⟨o, hk e (by simp) _ q⟩
  ai := let ⟨o, q⟩ := G.ai; ⟨o, hk it (by simp) _ q⟩
  ex := G.sx _ _ G.ex fun b o hb q => hk b (by rcases hb with rfl | rfl <;> simp) o q }
theorem GInv.kp (G : GInv w b₀ L e it a x X p esc c s) (k : Kp s s') : GInv w b₀ L e it a x X p esc c s' := G.shift (G.st.kp.trans k) fun b _ o q => k.keep b o q
theorem St.narrow {V' : List Addr} {ad' : Str → List Addr} {p' : Int} {esc' : Bool} {c' : Option Nat} (S : St w (genF b₀ L a) scG V' ad' (rG x p' esc' (chSl c')) s') : St w (genF b₀ L a) scG [L] (fun _ => []) (rG x p' esc' (chSl c')) s' := by
 have noC : ∀ {y z}, (genF b₀ L a).env.cells.lookup y = some z → False := fun {y z} q => by
  have q : (cellsFrom (L + 1) scG []).lookup y = some z := q
  rw [g_cells] at q; cases q
 refine { S with rd := { S.rd with low := fun b hb => ?_, vars := fun y sl hy => (S.rd.vars y sl hy).map fun val va sr => ⟨va, ?_⟩ }, v0 := fun b hb => (nomatch hb), vL := List.mem_cons_self, vC := fun y z q => (noC q).elim, vV := fun b hb => ?_, vO := fun y b ⟨sl, _, _, q⟩ => (nomatch q), vD := fun y z b ⟨sl, _, _, q⟩ => (nomatch q), vN := fun y sl _ _ => List.nodup_nil }
 ·rw [List.mem_singleton.mp hb]; exact S.rd.low _ S.vL
 ·rcases rG_flat (c := c') y sl hy with rfl | ⟨v, rfl, hf⟩
  ·trivial
  ·have r : Rep V' s'.heap v val := sr
   show Rep [L] s'.heap v val
   exact flat_rep hf r
 ·rw [List.mem_singleton.mp hb]; exact .inr S.newL
/-- a statement of the frame's own -/
theorem GInv.ste (G : GInv w b₀ L e it a x X p esc c s) {p' : Int} {esc' : Bool} {c' : Option Nat} {V' : List Addr} {ad' : Str → List Addr} {M' : Addr → Prop} (S : St w (genF b₀ L a) scG V' ad' (rG x p' esc' (chSl c')) s') (T : Ste [L] (Mut (genF b₀ L a) (rG x p esc (chSl c)) (fun _ => [])) s V' M' s') :
  GInv w b₀ L e it a x X p' esc' c' s' := by
 have ke : ∀ b o, b = e ∨ b = it → s.heap.get? b = some o → s'.heap.get? b = some o := fun b o hb q => T.chg b o (fun h => by
  have h := genF_mut h
  rcases hb with rfl | rfl
  ·exact G.hLe h.symm
  ·exact G.hLi h.symm) q
 exact { G with st := S.narrow, ae := let ⟨o, q⟩ := G.ae; ⟨o, ke _ _ (.inl rfl) q⟩, ai := let ⟨o, q⟩ := G.ai; ⟨o, ke _ _ (.inr rfl) q⟩, ex := G.sx _ _ G.ex ke }
end

section
variable {w : World} {d : Nat} {B : Around} {L e it a : Addr} {b₀ : Shared} {x : Str} {t : Tok} {items : List PV}

abbrev gM (w : World) : Model := model pw w
abbrev gD (L e it : Addr) : List Addr := [L, e, it]
abbrev gEnv (L a : Addr) : Env := callEnvC fdIter L a
abbrev gFor (L a e : Addr) : Code := .forLoop (forTarget (itSt 2)) (.ref e) [itIf] [] (gEnv L a)
abbrev gFun (L a : Addr) : Code := .func (bodyOf fdIter) (gEnv L a)
/-- what a wakening's run is to be -/
abbrev GSeg (w : World) (B : Around) (D : List Addr) (b₀ : Shared) (items : List PV) (n : Nat) (s₀ : Shared) (c : Code) (t : Sem Fin) (fs : List Frame) (s : Shared) : Prop := Seg (gM w) B (Rp D) (Yp D b₀ items) n s₀ c t fs s

def fK (L a : Addr) : Flow → Sem Fin := fun f => .pure (.done (.ret (match f with | .ret v => v | _ => .none)))
def fH (L a : Addr) : Value → Sem Fin := fun e => (leaving (gEnv L a) e).wrap (fun _ => .raise e) .raise id id
/-- what follows a statement of a block -/
def thenK (env : Env) (rest : List Stmt) (K : Flow → Sem Fin) (H : Value → Sem Fin) : Flow → Sem Fin := fun f => match f with | .next => (execs rest env).wrap K H id id | f => K f

theorem room_for {fs : List Frame} (R : Room (d + 1) B) {pp : Pos} {K : Flow → Sem Fin} {H : Value → Sem Fin} (hfs : fs = [backFrame K H id id (gEnv L a) (gFun L a) pp]) : Room d (B.over (gFor L a e) fs) := by
 subst hfs
 have h1 : (gFor L a e).weight = 0 := by kernel_rfl
 have h2 : (gFor L a e).cUnits = 0 := by kernel_rfl
 have h3 : (gFun L a).weight = 1 := by kernel_rfl
 have h4 : (gFun L a).cUnits = 3 := by kernel_rfl
 refine ⟨R.h, ?_, ?_⟩
 ·have := R.depth
  show B.depth + frameCount [(gFun L a, pp)] + (gFor L a e).weight + d < 900
  rw [h1, frameCount_cons, h3]
  show B.depth + (1 + 0) + 0 + d < 900
  omega
 ·have := R.units
  show B.units + unitsOf [(gFun L a, pp)] + (gFor L a e).cUnits + 10 * d < 5000
  rw [h2, unitsOf_cons, h4]
  show B.units + (3 + 0) + 0 + 10 * d < 5000
  omega
theorem room_fun (R : Room (d + 1) B) : Room d (B.over (gFun L a) []) := by
 have h3 : (gFun L a).weight = 1 := by kernel_rfl
 have h4 : (gFun L a).cUnits = 3 := by kernel_rfl
 refine ⟨R.h, ?_, ?_⟩
 ·have := R.depth
  show B.depth + 0 + (gFun L a).weight + d < 900
  omega
 ·have := R.units
  show B.units + 0 + (gFun L a).cUnits + 10 * d < 5000
  omega

theorem seg_blockNil {env : Env} {K : Flow → Sem Fin} {H : Value → Sem Fin} : (execs [] env).wrap K H id id = K .next := rfl

/-- all that stands -/
def allV (h : Heap) : List Addr := (List.range h.objs.size).filter fun b => (h.get? b).isSome
theorem allV_mem {h : Heap} {b : Addr} : b ∈ allV h ↔ ∃ o, h.get? b = some o := by
 unfold allV
 rw [List.mem_filter, List.mem_range, Option.isSome_iff_exists]
 exact ⟨fun q => q.2, fun ⟨o, q⟩ => ⟨Heap.lt_size q, o, q⟩⟩

/-- a yield of a value that the frame can tell -/
theorem g_yield {n : Nat} {s₀ s : Shared} {c : Code} {fs : List Frame} {K : Flow → Sem Fin} {H : Value → Sem Fin} {st : Stmt} {e₁ : Expr} {yp pos : Pos} {X : Heap → Prop} {p : Int} {esc : Bool} {ch : Option Nat} {pr : Nat × List Nat}
  (R : Room d (B.over c fs)) (hst : st = .Expr (.Yield (some e₁) yp) pos) (hfs : splitAtGen fs = none) (hfg : fs.any Frame.guarded = false) (G : GInv w b₀ L e it a x X p esc ch s) (hr : Rel (gD L e it) s₀ s)
  (he : ev gNil 40 .v scG (rG x p esc (chSl ch)) e₁ = some (.tup [.int pr.1, .str (mk pr.2)])) (hit : items[items.length - 1 - n]? = some (escV pr))
  (hnext : ∀ s'', GInv w b₀ L e it a x X p esc ch s'' → GSeg w B (gD L e it) b₀ items n s'' c (K .next) fs s'') :
  GSeg w B (gD L e it) b₀ items (n + 1) s₀ c ((exec st (gEnv L a)).wrap K H id id) fs s := by
 subst hst
 refine seg_Expr_Yield hfs rfl hfg ?_ (by kernel_rfl) (by kernel_rfl)
 have rd : Rd w (gEnv L a) scG (gD L e it ++ allV s₀.heap) (fun _ => []) (rG x p esc (chSl ch)) s := { G.st.rd with
  low := fun b hb => by
   rcases List.mem_append.mp hb with hb | hb
   ·exact G.alive b hb
   obtain ⟨o, q⟩ := allV_mem.mp hb
   by_cases hD : b ∈ gD L e it
   ·exact G.alive b hD
   ·exact ⟨o, hr.keep b o hD q⟩
  vars := fun y sl hy => (G.st.rd.vars y sl hy).map fun val va sr => ⟨va, by
   rcases rG_flat (c := ch) y sl hy with rfl | ⟨v, rfl, hf⟩
   ·trivial
   ·have r : Rep [L] s.heap v val := sr
    show Rep _ s.heap v val
    exact flat_rep hf r⟩ }
 refine (ev_ok gNil_ok 40 _ _ _ _ _ he (gEnv L a)).1 (B.over c fs) s (gD L e it ++ allV s₀.heap) (fun _ => []) _ _ R rd fun val s₁ k₁ r₁ kap hkap => ?_
 have G₁ := G.kp k₁
 have hr₁ := hr.kp k₁
 have hval : ∀ V, Live s₀.heap V → Rep (gD L e it ++ V) s₁.heap (escV pr) val := fun V hV => (r₁ : Rep (gD L e it ++ allV s₀.heap) s₁.heap _ val).mono (fun _ _ _ e => e) fun b hb => .inl (by
  rcases List.mem_append.mp hb with hb | hb
  ·exact List.mem_append_left _ hb
  ·exact List.mem_append_right _ (allV_mem.mpr (hV b hb)))
 exact ⟨⟨_, hit, hval⟩, hr₁, G₁.alive, fun s'' kb hk => hkap .none s'' (hnext s'' (G₁.shift kb hk))⟩

theorem g_end {s₀ s : Shared} (hr : Rel (gD L e it) s₀ s) (ha : ∀ b ∈ gD L e it, ∃ o, s.heap.get? b = some o) : GSeg w B (gD L e it) b₀ items 0 s₀ (gFun L a) ((execs [] (gEnv L a)).wrap (fK L a) (fH L a) id id) [] s := seg_end (.ok (.ret .none)) ⟨rfl, rfl, hr, ha⟩

/-- what stands behind the loop -/
theorem g_last {X : Heap → Prop} {p : Nat} {pi : Int} {esc : Bool} {ch : Option Nat} {s₀ s : Shared} (R : Room (d + 1) B) (G : GInv w b₀ L e it a x X pi esc ch s) (hp : esc = true → pi = p) (hr : Rel (gD L e it) s₀ s)
  (hit : esc = true → items[items.length - 1]? = some (escV (p, [92]))) :
  GSeg w B (gD L e it) b₀ items (if esc then 1 else 0) s₀ (gFun L a) ((execs [itSt 3] (gEnv L a)).wrap (fK L a) (fH L a) id id) [] s := by
 obtain ⟨pos, e3⟩ := it3
 rw [e3]
 refine seg_execs_cons (seg_If ((ev_ok gNil_ok 40 _ _ _ _ _ g_c3 (gEnv L a)).2 esc rfl _ s _ _ _ _ (room_fun (d := d) R) G.st.rd fun s₁ k₁ => ?_))
 have G₁ := G.kp k₁
 cases esc with
 | false => exact g_end (hr.kp k₁) G₁.alive
 | true =>
  rw [if_pos rfl]
  refine seg_execs_cons ?_
  obtain ⟨yp, pos, ey⟩ := it_y3
  refine g_yield (room_fun (d := d) R) ey rfl rfl G₁ (hr.kp k₁) (pr := (p, [92])) (by rw [← hp rfl]; exact g_y3) (hit rfl) fun s'' G'' => ?_
  exact g_end (.refl _ _) G''.alive
end

/-! the letters' end, where their source is seen to stand still -/
section
variable {A : Around} {E : Value → Shared → Prop} {s : Shared} {w : World}
theorem end_ascii {it : Addr} {x : Str} {t : Tok} {i : Nat} {Q : Value → Shared → Prop} (hh : A.handled = none) (hit : s.heap.IsStrIter it "str_ascii_iterator" x t i) (hx : x.cps[i]? = none)
  (hE : ∀ h' e, Heap.ExtBut it s.heap h' → (∃ o, h'.get? it = some o) → (∃ o, h'.get? e = some o ∧ o.cls = .type "StopIteration") → E (.ref e) { s with heap := h' }) : wpAny (model pw w) A (Builtin.SmallTypes.nextOf (.ref it)) Q E s := by
 obtain ⟨o, ho, hc, hd⟩ := id hit
 unfold Builtin.SmallTypes.nextOf
 refine wpAny_bind (wpAny_callSpecial?_slot (name := Str.ofString "__next__") hit.typeIs F.slot_str_ascii_iterator_next (wpAny_call_entry F.slot_str_ascii_iterator_next hit.typeIs F.entry_str_ascii_iterator_next ?_ (F.args_str_ascii_iterator_next_1 _)))
 show wpAny _ _ (field (.ref it) 0 >>= _) _ _ s
 refine wpAny_bind (wpAny_field ho hd (x := .str x t) rfl ?_)
 show wpAny _ _ (field (.ref it) 1 >>= _) _ _ s
 refine wpAny_bind (wpAny_field ho hd (x := .int i 0) rfl ?_)
 simp only [Int.toNat_natCast, hx]
 refine wpAny_bind (wpAny_rule (wpAny_bind (wpAny_setField ho hd (by simp) (wpAny_bind (wpAny_letGo ?_)))))
 show wpAny _ _ (newExc (.type "StopIteration") [] >>= _) _ _ _
 refine wpAny_bind ?_
 simp only [newExc, newTuple]
 refine wpAny_bind (wpAny_newObj_type ?_ (by size_fits))
 refine wpAny_bind (m := firstArgMember _ _) (wpAny_of_eq (a := Value.none) (by first | rfl | (simp only [firstArgMember]; rfl)) ?_)
 refine wpAny_newObj_type ?_ (by size_fits)
 simp only [raiseNew]
 refine wpAny_bind (wpAny_handled ?_)
 first | rw [show A.in1.handled = none from hh] | rw [hh]
 refine wpAny_bind (wpAny_pure (wpAny_throw ?_))
 exact hE _ _ (((Heap.SameBut.update ..).extBut.push _).push _) ⟨_, Heap.get?_push_of_some _ (Heap.get?_push_of_some _ (Heap.get?_update_self _ ho (Obj.isFreed_of_fields (Obj.data_mapFields hd _))))⟩ ⟨_, Heap.get?_push_size _ rfl, rfl⟩
theorem end_wide {it : Addr} {x : Str} {t : Tok} {i : Nat} {Q : Value → Shared → Prop} (hh : A.handled = none) (hit : s.heap.IsStrIter it "str_iterator" x t i) (hx : x.cps[i]? = none)
  (hE : ∀ h' e, Heap.ExtBut it s.heap h' → (∃ o, h'.get? it = some o) → (∃ o, h'.get? e = some o ∧ o.cls = .type "StopIteration") → E (.ref e) { s with heap := h' }) : wpAny (model pw w) A (Builtin.SmallTypes.nextOf (.ref it)) Q E s := by
 obtain ⟨o, ho, hc, hd⟩ := id hit
 unfold Builtin.SmallTypes.nextOf
 refine wpAny_bind (wpAny_callSpecial?_slot (name := Str.ofString "__next__") hit.typeIs F.slot_str_iterator_next (wpAny_call_entry F.slot_str_iterator_next hit.typeIs F.entry_str_iterator_next ?_ (F.args_str_iterator_next_1 _)))
 show wpAny _ _ (field (.ref it) 0 >>= _) _ _ s
 refine wpAny_bind (wpAny_field ho hd (x := .str x t) rfl ?_)
 show wpAny _ _ (field (.ref it) 1 >>= _) _ _ s
 refine wpAny_bind (wpAny_field ho hd (x := .int i 0) rfl ?_)
 simp only [Int.toNat_natCast, hx]
 refine wpAny_bind (wpAny_rule (wpAny_bind (wpAny_setField ho hd (by simp) (wpAny_bind (wpAny_letGo ?_)))))
 show wpAny _ _ (newExc (.type "StopIteration") [] >>= _) _ _ _
 refine wpAny_bind ?_
 simp only [newExc, newTuple]
 refine wpAny_bind (wpAny_newObj_type ?_ (by size_fits))
 refine wpAny_bind (m := firstArgMember _ _) (wpAny_of_eq (a := Value.none) (by first | rfl | (simp only [firstArgMember]; rfl)) ?_)
 refine wpAny_newObj_type ?_ (by size_fits)
 simp only [raiseNew]
 refine wpAny_bind (wpAny_handled ?_)
 first | rw [show A.in1.handled = none from hh] | rw [hh]
 refine wpAny_bind (wpAny_pure (wpAny_throw ?_))
 exact hE _ _ (((Heap.SameBut.update ..).extBut.push _).push _) ⟨_, Heap.get?_push_of_some _ (Heap.get?_push_of_some _ (Heap.get?_update_self _ ho (Obj.isFreed_of_fields (Obj.data_mapFields hd _))))⟩ ⟨_, Heap.get?_push_size _ rfl, rfl⟩
theorem end_str {it : Addr} {x : Str} {t : Tok} {i : Nat} {Q : Value → Shared → Prop} (hh : A.handled = none) (hit : s.heap.IsStrIter it (strIterType x) x t i) (hx : x.cps[i]? = none)
  (hE : ∀ h' e, Heap.ExtBut it s.heap h' → (∃ o, h'.get? it = some o) → (∃ o, h'.get? e = some o ∧ o.cls = .type "StopIteration") → E (.ref e) { s with heap := h' }) : wpAny (model pw w) A (Builtin.SmallTypes.nextOf (.ref it)) Q E s := by
 unfold strIterType at hit
 split at hit
 ·exact end_ascii hh hit hx hE
 ·exact end_wide hh hit hx hE
theorem end_enum {e it : Addr} {x : Str} {t : Tok} {i : Nat} {j : Int} {old : Value} {Q : Option Value → Shared → Prop} (hh : A.handled = none) (he : IsEnum s.heap e it j old) (hit : s.heap.IsStrIter it (strIterType x) x t i) (hx : x.cps[i]? = none)
  (hQ : ∀ h', Heap.ExtBut it s.heap h' → (∃ o, h'.get? it = some o) → Q none { s with heap := h' }) : wpAny (model pw w) A (pyNext (.ref e)) Q E s := by
 have hT : s.TypeIs (.ref e) "enumerate" := ⟨_, he, rfl⟩
 unfold pyNext
 refine wpAny_bind (wpAny_attempt (wpAny_callSpecial?_slot (name := Str.ofString "__next__") hT F.slot_enumerate_next (wpAny_call_entry F.slot_enumerate_next hT F.entry_enumerate_next ?_ (F.args_enumerate_next_1 _))))
 show wpAny _ _ (field (.ref e) 2 >>= _) _ _ _
 refine wpAny_bind (wpAny_field he rfl (x := .ref it) rfl ?_)
 refine wpAny_bind (end_str (A := A.in1) hh hit hx fun h' x he' ha hx' => ?_)
 obtain ⟨o, ho, hc⟩ := hx'
 refine wpAny_bind (wpAny_isInstance (T := "StopIteration") (b := true) ⟨o, ho, hc⟩ isSubtype_stop ?_)
 exact wpAny_pure (hQ _ he' ha)
end

section
variable {w : World} {d : Nat} {B : Around} {L e it a : Addr} {b₀ : Shared} {x : Str} {t : Tok} {items : List PV}

def LX (e it : Addr) (x : Str) (t : Tok) (i : Nat) : Heap → Prop := fun h => (∃ old, IsEnum h e it (i : Int) old) ∧ h.IsStrIter it (strIterType x) x t i
theorem LX.keeps {i : Nat} {h h' : Heap} (X : LX e it x t i h) (k : ∀ b o, b = e ∨ b = it → h.get? b = some o → h'.get? b = some o) : LX e it x t i h' := by
 obtain ⟨⟨old, q⟩, o, q', r⟩ := X
 exact ⟨⟨old, k e _ (.inl rfl) q⟩, o, k it _ (.inr rfl) q', r⟩
theorem seg_If' {M : Model} {A : Around} {R : GenEnd} {Y : Protocol} {n : Nat} {s₀ : Shared} {c : Code} {fs : List Frame} {s : Shared} {env : Env} {K : Flow → Sem Fin} {H : Value → Sem Fin} {gd : Bool → Bool} {lv : List Value → List Value} {st : Stmt} {test : Expr} {body orelse : List Stmt} {pos : Pos} (hst : st = .If test body orelse pos)
  (h : wpAny M (A.over c fs) (isTrue test env (eval test env)) (fun b s' => Seg M A R Y n s₀ c ((execs (if b then body else orelse) env).wrap K H gd lv) fs s') NoE s) : Seg M A R Y n s₀ c ((exec st env).wrap K H gd lv) fs s := by
 subst hst; exact seg_If h

abbrev gFr (L a : Addr) (pp : Pos) : Frame := backFrame (thenK (gEnv L a) [itSt 3] (fK L a) (fH L a)) (fH L a) id id (gEnv L a) (gFun L a) pp
abbrev gTK (L a e : Addr) : Flow → Sem Fin := turnK (forTarget (itSt 2)) (.ref e) [itIf] [] (gEnv L a)
abbrev gTH (L a : Addr) : Value → Sem Fin := turnH (gEnv L a)

theorem item_at {pre post : List PV} {v : PV} (h : items = pre ++ v :: post) : items[items.length - 1 - post.length]? = some v := by
 subst h
 have : (pre ++ v :: post).length - 1 - post.length = pre.length := by simp
 rw [this]; simp

/-- one turn's body, given that the next turns go well -/
theorem g_body {i c : Nat} {r : List Nat} {esc : Bool} {s₀ s : Shared} {pp : Pos} (R : Room (d + 1) B) (G : GInv w b₀ L e it a x (LX e it x t (i + 1)) i esc (some c) s) (hr : Rel (gD L e it) s₀ s) (hpre : ∃ pre, items = pre ++ (escGo i esc (c :: r)).map escV)
  (ih : ∀ esc' s₀' s', GInv w b₀ L e it a x (LX e it x t (i + 1)) i esc' (some c) s' → Rel (gD L e it) s₀' s' → (∃ pre, items = pre ++ (escGo (i + 1) esc' r).map escV) → GSeg w B (gD L e it) b₀ items (escGo (i + 1) esc' r).length s₀' (gFor L a e) ((gM w).den (gFor L a e)) [gFr L a pp] s') :
  GSeg w B (gD L e it) b₀ items (escGo i esc (c :: r)).length s₀ (gFor L a e) ((execs [itIf] (gEnv L a)).wrap (gTK L a e) (gTH L a) id id) [gFr L a pp] s := by
 have R' : Room d (B.over (gFor L a e) [gFr L a pp]) := room_for R rfl
 -- back to the loop's head
 have back : ∀ esc' s₀' s', GInv w b₀ L e it a x (LX e it x t (i + 1)) i esc' (some c) s' → Rel (gD L e it) s₀' s' → (∃ pre, items = pre ++ (escGo (i + 1) esc' r).map escV) → GSeg w B (gD L e it) b₀ items (escGo (i + 1) esc' r).length s₀' (gFor L a e) (.pure (.again (gFor L a e))) [gFr L a pp] s' :=
  fun esc' s₀' s' G' hr' hp => seg_again (by rfl) (ih esc' s₀' s' G' hr' hp)
 obtain ⟨pos, ei⟩ := it_if
 obtain ⟨pre, hpre⟩ := hpre
 refine seg_execs_cons (seg_If' ei ((ev_ok gNil_ok 40 _ _ _ _ _ g_c1 (gEnv L a)).2 esc rfl _ s _ _ _ _ R' G.st.rd fun s₁ k₁ => ?_))
 have G₁ := G.kp k₁
 have hr₁ := hr.kp k₁
 cases esc with
 | true =>
  rw [if_pos rfl]
  have hlist : escGo i true (c :: r) = (i, [92, c]) :: escGo (i + 1) false r := rfl
  rw [hlist] at hpre ⊢
  rw [List.map_cons] at hpre
  obtain ⟨yp, pos, ey⟩ := it_y1
  refine seg_execs_cons (g_yield (n := (escGo (i + 1) false r).length) R' ey rfl rfl G₁ hr₁ (pr := (i, [92, c])) g_y1 (by have := item_at hpre; rwa [List.length_map] at this) fun s'' G'' => ?_)
  show Seg _ _ _ _ _ _ _ ((execs [nth (ifT itIf) 1] (gEnv L a)).wrap _ _ id id) _ _
  refine seg_execs_cons (seg_exec (run1_ok gNil_ok gNil_gen (genF_ok (a := a)) (F := genF b₀ L a) (rec := fun _ _ => none) (fun _ _ _ _ h => nomatch h) (g_a1 (x := x) (p := (i : Int)) (esc := true) (ch := chSl (some c))) _ s'' [L] (fun _ => []) _ _ R' G''.st fun fl s₃ V₃ ad₃ S₃ T₃ fr₃ => ?_))
  cases fr₃
  have G₃ := G''.ste (c' := some c) S₃ T₃
  exact back false s'' s₃ G₃ ((Rel.refl _ _).ste T₃ (fun b hb => by rw [genF_mut hb]; exact List.mem_cons_self) G''.st.kp S₃.kp) ⟨pre ++ [escV (i, [92, c])], by rw [hpre]; simp⟩
 | false =>
  rw [if_neg (by decide)]
  obtain ⟨pos, ee⟩ := it_elif
  refine seg_execs_cons (seg_If' ee ((ev_ok gNil_ok 40 _ _ _ _ _ g_c2 (gEnv L a)).2 ([c] == [92]) rfl _ s₁ _ _ _ _ R' G₁.st.rd fun s₂ k₂ => ?_))
  have G₂ := G₁.kp k₂
  have hr₂ := hr₁.kp k₂
  by_cases hc : c = 92
  ·have hb : ([c] == [92]) = true := by simp [hc]
   rw [hb, if_pos rfl]
   have hlist : escGo i false (c :: r) = escGo (i + 1) true r := by rw [escGo, if_pos hc]
   rw [hlist] at hpre ⊢
   refine seg_execs_cons (seg_exec (run1_ok gNil_ok gNil_gen (genF_ok (a := a)) (F := genF b₀ L a) (rec := fun _ _ => none) (fun _ _ _ _ h => nomatch h) (g_a2 (x := x) (p := (i : Int)) (esc := false) (ch := chSl (some c))) _ s₂ [L] (fun _ => []) _ _ R' G₂.st fun fl s₃ V₃ ad₃ S₃ T₃ fr₃ => ?_))
   cases fr₃
   have G₃ := G₂.ste (c' := some c) S₃ T₃
   exact back true s₀ s₃ G₃ (hr₂.ste T₃ (fun b hb => by rw [genF_mut hb]; exact List.mem_cons_self) G₂.st.kp S₃.kp) ⟨pre, hpre⟩
  ·have hb : ([c] == [92]) = false := by simpa using hc
   rw [hb, if_neg (by decide)]
   have hlist : escGo i false (c :: r) = (i, [c]) :: escGo (i + 1) false r := by rw [escGo, if_neg hc]
   rw [hlist] at hpre ⊢
   rw [List.map_cons] at hpre
   obtain ⟨yp, pos, ey⟩ := it_y2
   refine seg_execs_cons (g_yield (n := (escGo (i + 1) false r).length) R' ey rfl rfl G₂ hr₂ (pr := (i, [c])) g_y2 (by have := item_at hpre; rwa [List.length_map] at this) fun s'' G'' => ?_)
   exact back false s'' s'' G'' (.refl _ _) ⟨pre ++ [escV (i, [c])], by rw [hpre]; simp⟩

theorem g_loop {pp : Pos} (R : Room (d + 1) B) : ∀ (rest : List Nat) (i : Nat) (esc : Bool) (pi : Int) (ch : Option Nat) (s₀ s : Shared), (chs x).drop i = rest → i ≤ (chs x).length → GInv w b₀ L e it a x (LX e it x t i) pi esc ch s → (esc = true → 0 < i ∧ pi + 1 = i) → Rel (gD L e it) s₀ s →
  (∃ pre, items = pre ++ (escGo i esc rest).map escV) → GSeg w B (gD L e it) b₀ items (escGo i esc rest).length s₀ (gFor L a e) ((gM w).den (gFor L a e)) [gFr L a pp] s := by
 intro rest
 have hh : (B.over (gFor L a e) [gFr L a pp]).handled = none := (room_for (e := e) R rfl).h
 obtain ⟨ts, kk, p, _, _, _, _, _, htgt⟩ := it2
 induction rest with
 | nil =>
  intro i esc pi ch s₀ s hd hi G hp hr hpre
  have hin : i = x.cps.size := by
   have h1 := congrArg List.length hd
   rw [List.length_drop] at h1
   have h2 : (chs x).length = x.cps.size := by simp [chs]
   simp at h1; omega
  obtain ⟨⟨old, he⟩, hst⟩ := G.ex
  subst hin
  refine seg_forLoop (end_enum hh he hst (by simp) fun h' hx ha => ?_)
  have G' : GInv w b₀ L e it a x (fun _ => True) pi esc ch { s with heap := h' } := { G with
   st := G.st.shift (rG_flat (c := ch)) (G.st.kp.with (s' := s) (h := h') (t := s.toks) fun b o q => hx b o (fun h => by rw [h] at q; exact absurd (G.fi.symm.trans q) (by simp)) (G.st.kp.keep b o q)) fun b hb o q => hx b o (by rw [List.mem_singleton.mp hb]; exact G.hLi) q
   ae := ⟨_, hx e _ G.hei he⟩
   ai := ha
   ex := trivial
   sx := fun _ _ _ _ => trivial }
  have hlen : (escGo x.cps.size esc []).length = (if esc then 1 else 0) := by cases esc <;> rfl
  rw [hlen]
  refine seg_through ?_
  refine g_last (p := x.cps.size - 1) R G' (fun q => ?_) (hr.heap fun b o hb q => hx b o (fun h => hb (by rw [h]; simp)) q) fun q => ?_
  ·obtain ⟨h1, h2⟩ := hp q
   omega
  ·subst q
   obtain ⟨pre, hpre⟩ := hpre
   have := item_at (items := items) (pre := pre) (post := []) (v := escV (x.cps.size - 1, [92])) hpre
   simpa using this
 | cons c r ihr =>
  intro i esc pi ch s₀ s hd hi G hp hr hpre
  have hlt : i < (chs x).length := by
   have h1 := congrArg List.length hd
   rw [List.length_drop] at h1
   simp at h1; omega
  have hc : (chs x)[i]? = some c := by
   have h1 := congrArg (fun l => l[0]?) hd
   simpa using h1
  have hd' : (chs x).drop (i + 1) = r := by
   have h1 := congrArg List.tail hd
   simpa using h1
  have hsz : x.cps.size = (chs x).length := by simp [chs]
  obtain ⟨⟨old, he⟩, hst⟩ := G.ex
  refine seg_forLoop (wpAny_pyNext_enum_itemD (n := x.cps.size) (i := i) (drawsStr (A := (B.over (gFor L a e) [gFr L a pp]).in1) hh it x t) he hst (by omega) G.hei (by simpa using G.hei) fun xv h' tk hP ho hs' hT hz hk => ?_)
  obtain ⟨c', u, hc', rfl⟩ := hP
  have : c' = c := by
   have h1 : (chs x)[i]? = some c' := by simpa [chs] using hc'
   rw [hc] at h1; cases h1; rfl
  subst this
  have hgo : letOwnedTupleGo (forTarget (itSt 2)) (.ref e) (.ref s.heap.objs.size) = letOwnedTupleGo (.Tuple ts kk p) (.ref e) (.ref s.heap.objs.size) := by rw [htgt]
  show wpAny (model pw w) _ (letOwnedTupleGo (forTarget (itSt 2)) (.ref e) (.ref s.heap.objs.size)) _ _ _
  rw [hgo]
  refine wpAny_letOwnedTupleGo_enum ho fun h'' he' hs'' => ?_
  have hTe : s.heap.objs.size ≠ e := fun q => absurd (Heap.lt_size he) (by rw [q]; exact Nat.lt_irrefl _)
  have hTL : s.heap.objs.size ≠ L := fun q => by obtain ⟨o, q'⟩ := G.st.rd.low L List.mem_cons_self; exact absurd (Heap.lt_size q') (by rw [q]; exact Nat.lt_irrefl _)
  have kk : ∀ b o, b ≠ e → b ≠ it → s.heap.get? b = some o → h''.get? b = some o := fun b o h1 h2 q => hs''.extBut b o h1 (hk b o h1 h2 q)
  have kpb : Kp b₀ { s with heap := h'', toks := tk + 1 } := G.st.kp.with fun b o q => kk b o (fun h => by rw [h] at q; exact absurd (G.fe.symm.trans q) (by simp)) (fun h => by rw [h] at q; exact absurd (G.fi.symm.trans q) (by simp)) (G.st.kp.keep b o q)
  have S₂ : St w (genF b₀ L a) scG [L] (fun _ => []) (rG x pi esc (chSl ch)) { s with heap := h'', toks := tk + 1 } := G.st.shift (rG_flat (c := ch)) kpb fun b hb o q => by
   rw [List.mem_singleton.mp hb] at q ⊢; exact kk L o G.hLe G.hLi q
  have rT : Rep [L] h'' (.tup [.int i, .str (mk [c'])]) (.ref s.heap.objs.size) := .tup (by simpa using hTL) (n := 0) (xs := [.int i tk, .str ⟨#[c']⟩ u]) (hs''.extBut _ _ hTe hT) (.cons .int (.cons .str .nil))
  refine (bindT_ok (w := w) (F := genF b₀ L a) (forTarget (itSt 2)) (g_bind (x := x) (p := pi) (esc := esc) (ch := chSl ch) (i := (i : Int)) (y := mk [c']))).2 _ _ [L] (fun _ => []) _ _ _ hh S₂ rT fun s₃ ad₃ S₃ T₃ => ?_
  have G₃ : GInv w b₀ L e it a x (LX e it x t (i + 1)) i esc (some c') s₃ := by
   have nM : ∀ b, b = e ∨ b = it → ¬ Mut (genF b₀ L a) (rG x pi esc (chSl ch)) (fun _ => []) b := fun b hb h => by
    have h := genF_mut h
    rcases hb with rfl | rfl
    ·exact G.hLe h.symm
    ·exact G.hLi h.symm
   have e3 : IsEnum s₃.heap e it ((i + 1 : Nat) : Int) _ := T₃.chg e _ (nM e (.inl rfl)) (by simpa using he')
   obtain ⟨oi, qi, ri⟩ := hs'
   have i3 : s₃.heap.get? it = some oi := T₃.chg it _ (nM it (.inr rfl)) (hs''.extBut _ _ (Ne.symm G.hei) qi)
   exact ⟨S₃.narrow, ⟨_, e3⟩, ⟨_, i3⟩, ⟨⟨_, e3⟩, oi, i3, ri⟩, fun h h' X k => X.keeps k, G.hei, G.hLe, G.hLi, G.fe, G.fi⟩
  have hr₃ : Rel (gD L e it) s₀ s₃ := by
   have h1 : Rel (gD L e it) s₀ { s with heap := h'', toks := tk + 1 } := hr.heap fun b o hb q => kk b o (fun h => hb (by rw [h]; simp)) (fun h => hb (by rw [h]; simp)) q
   exact h1.ste T₃ (fun b hb => by rw [genF_mut hb]; exact List.mem_cons_self) S₂.kp S₃.kp
  exact g_body (pp := pp) R G₃ hr₃ hpre fun esc' s₀' s' G' hr' hp' => ihr (i + 1) esc' i (some c') s₀' s' hd' (by omega) G' (fun q => ⟨by omega, by omega⟩) hr' hp'
end

section
variable {w : World} {d : Nat} {B : Around} {L a : Addr} {b₀ : Shared} {x : Str} {t : Tok}

theorem seg_For' {M : Model} {A : Around} {R : GenEnd} {Y : Protocol} {n : Nat} {s₀ : Shared} {c : Code} {fs : List Frame} {s : Shared} {env : Env} {K : Flow → Sem Fin} {H : Value → Sem Fin} {gd : Bool → Bool} {lv : List Value → List Value} {st : Stmt} {target iter : Expr} {body orelse : List Stmt} {pos : Pos} (hst : st = .For target iter body orelse pos) (hs : ∀ x, foldedSetIterable iter env x = pure x)
  (h : wpAny M (A.over c fs) (eval iter env) (fun x s₁ => wpAny M (A.over c fs) (pyIter x) (fun it s₂ => ∀ p, Seg M A R Y n s₀ (.forLoop target it body orelse env) (M.den (.forLoop target it body orelse env)) (backFrame K H gd lv env c p :: fs) s₂) NoE s₁) NoE s) :
  Seg M A R Y n s₀ c ((exec st env).wrap K H gd lv) fs s := by subst hst; exact seg_For hs h

theorem St.ofNs {m : Str → Option Value} {s : Shared} {p : Int} {esc : Bool} (kp : Kp b₀ s) (kin : KIn w b₀.heap) (fL : b₀.heap.get? L = none) (n : s.heap.Ns L m) (h1 : m "addr" = some (.str x t)) {tp : Tok} (h2 : m "pos" = some (.int p tp)) (h3 : m "escape" = some (.bool esc)) : St w (genF b₀ L a) scG [L] (fun _ => []) (rG x p esc .u) s := by
 have noC : ∀ {y z}, (genF b₀ L a).env.cells.lookup y = some z → False := fun {y z} q => by
  have q : (cellsFrom (L + 1) scG []).lookup y = some z := q
  rw [g_cells] at q; cases q
 have aL : ∃ o, s.heap.get? L = some o := by obtain ⟨o, _, _, q, _⟩ := n; exact ⟨o, q⟩
 refine { rd := ⟨kin.keeps kp.keep, ok_iter.kind, rfl, fun y hy => cellsFrom_look _ _ _ y hy, ok_iter.globals, ok_iter.blt, fun b hb => by rw [List.mem_singleton.mp hb]; exact aL, fun y sl hy => ?_⟩, kp := kp, kin₀ := kin, low₀ := fun b hb => (nomatch hb), ns := ⟨m, n⟩, newL := fL, cells := fun y c q => (noC q).elim, apart := fun y z c q => (noC q).elim, v0 := fun b hb => (nomatch hb), vL := List.mem_cons_self, vC := fun y z q => (noC q).elim, vV := fun b hb => by rw [List.mem_singleton.mp hb]; exact .inr fL, vO := fun y b ⟨sl, _, _, q⟩ => (nomatch q), vD := fun y z b ⟨sl, _, _, q⟩ => (nomatch q), vN := fun y sl _ _ => List.nodup_nil }
 have hm := mem_of_lookup hy
 unfold rG at hm
 simp only [List.mem_cons, Prod.mk.injEq, List.not_mem_nil, or_false] at hm
 rcases hm with ⟨rfl, rfl⟩ | ⟨rfl, rfl⟩ | ⟨rfl, rfl⟩ | ⟨rfl, rfl⟩
 ·exact ⟨_, .inl ⟨by kernel_rfl, m, n, h1⟩, .str⟩
 ·exact ⟨_, .inl ⟨by kernel_rfl, m, n, h2⟩, .int⟩
 ·exact ⟨_, .inl ⟨by kernel_rfl, m, n, h3⟩, .bool⟩
 ·trivial

/-- the generator's first wakening -/
theorem g_start {m : Str → Option Value} {s : Shared} (R : Room (d + 1) B) (kp : Kp b₀ s) (kin : KIn w b₀.heap) (fL : b₀.heap.get? L = none) (n : s.heap.Ns L m) (h1 : m "addr" = some (.str x t)) :
  GSeg w B (gD L (s.heap.objs.size + 1) s.heap.objs.size) b₀ (escOf (chs x)) (escOf (chs x)).length s (gFun L a) ((gM w).den (gFun L a)) [] s := by
 refine seg_func ?_
 show GSeg w B _ b₀ _ _ s (gFun L a) ((execs (bodyOf fdIter) (gEnv L a)).wrap (fK L a) (fH L a) id id) [] s
 rw [it_body]
 have R' := room_fun (L := L) (a := a) R
 have hLs : L < s.heap.objs.size := by obtain ⟨o, _, _, q, _⟩ := n; exact Heap.lt_size q
 have notD : ∀ b o, s.heap.get? b = some o → b ≠ s.heap.objs.size ∧ b ≠ s.heap.objs.size + 1 := fun b o q => by
  have := Heap.lt_size q
  exact ⟨Nat.ne_of_lt this, Nat.ne_of_lt (Nat.lt_succ_of_lt this)⟩
 -- pos = 0
 obtain ⟨p, k, q, pos, e0⟩ := it0
 rw [e0]
 refine seg_execs_cons (seg_exec (wpAny_Assign_Name (wpAny_Constant_int (wpAny_storeName_local (m := m) (by kernel_rfl) n (fun h₁ n₁ hs₁ => ?_) (by kernel_rfl))) rfl))
 -- escape = False
 obtain ⟨p, k, q, pos, e1⟩ := it1
 rw [e1]
 refine seg_execs_cons (seg_exec (wpAny_Assign_Name (wpAny_pure (wpAny_storeName_local (by kernel_rfl) n₁ (fun h₂ n₂ hs₂ => ?_) (by kernel_rfl))) rfl))
 have hsz : h₂.objs.size = s.heap.objs.size := hs₂.1.trans hs₁.1
 have keep₂ : ∀ b o, b ≠ L → s.heap.get? b = some o → h₂.get? b = some o := fun b o hb q => hs₂.extBut b o hb (hs₁.extBut b o hb q)
 have kp₂ : Kp b₀ { s with heap := h₂, toks := s.toks + 1 + 1 + 1 } := kp.with fun b o q => keep₂ b o (fun h => by rw [h, fL] at q; cases q) (kp.keep b o q)
 have a1 : (if ("addr" : Str) = "escape" then some (Value.bool false) else if ("addr" : Str) = "pos" then some (Value.int 0 s.toks) else m "addr") = some (.str x t) := by rw [if_neg (by decide), if_neg (by decide)]; exact h1
 have a2 : (if ("pos" : Str) = "escape" then some (Value.bool false) else if ("pos" : Str) = "pos" then some (Value.int 0 s.toks) else m "pos") = some (.int 0 s.toks) := by rw [if_neg (by decide), if_pos rfl]
 have a3 : (if ("escape" : Str) = "escape" then some (Value.bool false) else if ("escape" : Str) = "pos" then some (Value.int 0 s.toks) else m "escape") = some (.bool false) := if_pos rfl
 have S₂ : St w (genF b₀ L a) scG [L] (fun _ => []) (rG x 0 false .u) { s with heap := h₂, toks := s.toks + 1 + 1 + 1 } :=
  St.ofNs (t := t) (tp := s.toks) kp₂ kin fL n₂ a1 a2 a3
 -- the loop's source
 obtain ⟨ts, kk, p, c, dd, e, pos, e2, htgt⟩ := it2
 rw [← htgt] at e2
 refine seg_execs_cons (seg_For' e2 (fun _ => rfl) ?_)
 refine wpAny_Call_NameR (wp_builtin S₂.rd (by kernel_rfl) (en_name _).1 (en_name _).2 ?_ (by decide))
 refine PySem.callWith_type rfl (evalArgs_any rfl ?_)
 show wpAny _ _ (spliced [(false, eval (.Name "addr" dd) (gEnv L a))]) _ _ _
 have va : VarAt (gEnv L a) h₂ ("addr" : Str) (.str x t) := .inl ⟨by kernel_rfl, _, n₂, a1⟩
 refine spliced_cons (wp_name S₂.rd.fn va (spliced_nil ?_) (by decide))
 show wpAny _ _ (call (.type "enumerate") [.str x t]) _ _ _
 refine call_enumerate_str fun h₃ he hit hsz₃ hk₃ => ?_
 refine wpAny_pyIter_enum he fun pp => ?_
 rw [show ({ s with heap := h₂, toks := s.toks + 1 + 1 + 1 } : Shared).heap.objs.size = s.heap.objs.size from hsz] at he hit ⊢
 have k₃ : Kp { s with heap := h₂, toks := s.toks + 1 + 1 + 1 } { s with heap := h₃, toks := s.toks + 1 + 1 + 1 } := Kp.heap hk₃
 have G : GInv w b₀ L (s.heap.objs.size + 1) s.heap.objs.size a x (LX (s.heap.objs.size + 1) s.heap.objs.size x t 0) 0 false none { s with heap := h₃, toks := s.toks + 1 + 1 + 1 } :=
  ⟨S₂.step k₃, ⟨_, he⟩, let ⟨o, q, _⟩ := hit; ⟨o, q⟩, ⟨⟨_, he⟩, hit⟩, fun h h' X k => X.keeps k, Nat.succ_ne_self _, Nat.ne_of_lt (Nat.lt_succ_of_lt hLs), Nat.ne_of_lt hLs,
   by
    cases q : b₀.heap.get? (s.heap.objs.size + 1) with
    | none => rfl
    | some o => exact absurd rfl (notD _ _ (kp.keep _ _ q)).2,
   by
    cases q : b₀.heap.get? s.heap.objs.size with
    | none => rfl
    | some o => exact absurd rfl (notD _ _ (kp.keep _ _ q)).1⟩
 have hr : Rel (gD L (s.heap.objs.size + 1) s.heap.objs.size) s { s with heap := h₃, toks := s.toks + 1 + 1 + 1 } := ⟨⟨_, _, _, rfl, .refl _⟩, fun b o hb q => hk₃ b o (keep₂ b o (fun h => hb (by rw [h]; simp)) q)⟩
 have hlen : (escOf (chs x)).length = (escGo 0 false (chs x)).length := by unfold escOf; rw [List.length_map]
 rw [hlen]
 exact g_loop (pp := pp) R (chs x) 0 false 0 none s _ rfl (Nat.zero_le _) G (fun h => nomatch h) hr ⟨[], rfl⟩
where
 en_name (P : Params) : nsK P 3 "enumerate" = none ∧ nsK P 0 "enumerate" = some (.type "enumerate") := ⟨by kernel_rfl, by kernel_rfl⟩
end

/-- a generator function's object, asked for its next, with what is left seen as bare -/
theorem wp_next_gen {w : World} {A : Around} {E : Value → Shared → Prop} {s : Shared} {a : Addr} {g n : Nat} {gs : GenState} {P : Nat → Shared → Shared → Prop} {Y : Protocol} {Q : Option Value → Shared → Prop} (hh : A.handled = none)
  (hl : s.heap.NoLimit) (hroom : A.depth < recursionLimit) (hg : s.heap.IsGen a g) (hgs : s.gens[g]? = some gs)
  (hgo : gs.Goes (model pw w) A.in1 (fun n s₀ r s₁ => r = .ok (.ret .none) ∧ P n s₀ s₁) Y n (.send .none) (s.setGen g .running))
  (hY : ∀ v s₁ gs', gs'.bare = true → Y (n - 1) (s.setGen g .running) v s₁ (fun r' s'' => match n with
    | 0 => False
    | m + 1 => gs'.Goes (model pw w) A.in1 (fun n s₀ r s₁ => r = .ok (.ret .none) ∧ P n s₀ s₁) Y m r' s'') → Q (some v) (s₁.setGen g gs'))
  (hP : ∀ s₁, P n (s.setGen g .running) s₁ → ∀ h', (∀ b o, s₁.heap.get? b = some o → h'.get? b = some o) → Q none { s₁.setGen g .finished with heap := h' }) :
  wpAny (model pw w) A (pyNext (.ref a)) Q E s := by
 unfold pyNext
 refine wpAny_bind (wpAny_attempt (wpAny_callSpecial?_slot (name := Str.ofString "__next__") hg.typeIs slot_gen_next (wpAny_call_entry slot_gen_next hg.typeIs entry_gen_next ?_ (args_gen_next _))))
 show wpAny _ _ (Builtin.Generator.genWake (.ref a) (.send .none)) _ _ s
 unfold Builtin.Generator.genWake
 refine wpAny_bind (wpAny_holding (wpAny_genNumber hg (wpAny_bind (wpAny_genState hgs ?_))))
 cases gs with
 | running => exact hgo.elim
 | finished => exact hgo.elim
 | _ =>
  refine wpAny_bind (wpAny_roomToWake hl hroom ?_)
  show wpAny _ _ (.resume g (.send .none) [] _) _ _ s
  refine wpAny_resumeQ hgs hgo (fun x s₁ hx => ?_) (fun v s₁ gs' hb hv => ?_)
  ·obtain ⟨rfl, hp⟩ := hx
   show wpAny _ _ (newExc (.type "StopIteration") [] >>= _) _ _ _
   refine wpAny_bind ?_
   simp only [newExc, newTuple]
   refine wpAny_bind (wpAny_newObj_type ?_ (by size_fits))
   refine wpAny_bind (m := firstArgMember _ _) (wpAny_of_eq (a := Value.none) (by first | rfl | (simp only [firstArgMember]; rfl)) ?_)
   refine wpAny_newObj_type ?_ (by size_fits)
   simp only [raiseNew]
   refine wpAny_bind (wpAny_bind (wpAny_handled ?_))
   rw [show A.in1.handled = none from hh]
   refine wpAny_throw ?_
   refine wpAny_bind (wpAny_isInstance (T := "StopIteration") (b := true) ⟨_, Heap.get?_push_size _ rfl, rfl⟩ isSubtype_stop ?_)
   exact wpAny_pure (hP s₁ hp _ fun b o hb => Heap.get?_push_of_some _ (Heap.get?_push_of_some _ hb))
  ·exact wpAny_pure ⟨v, rfl, wpAny_pure (hY v s₁ gs' hb hv)⟩

/-- with the generators forgotten -/
abbrev gl (s : Shared) : Shared := { s with gens := #[] }
theorem Ste.gl {V V' : List Addr} {M M' : Addr → Prop} {s s' : Shared} (x : Ste V M s V' M' s') : Ste V M (gl s) V' M' (gl s') := ⟨x.chg, x.grow, x.growV, x.sub, x.alive, .refl _⟩
theorem Ste.orD {V V' : List Addr} {M M' : Addr → Prop} {s s' : Shared} (x : Ste V M s V' M' s') (D : List Addr) : Ste V (fun b => M b ∨ b ∈ D) s V' (fun b => M' b ∨ b ∈ D) s' :=
 ⟨fun b o h e => x.chg b o (fun q => h (.inl q)) e, fun a h => h.elim (fun q => (x.grow a q).elim (fun r => .inl (.inl r)) .inr) fun q => .inl (.inr q), x.growV, x.sub, x.alive, x.gx⟩

section
variable {w : World} {F : Fm} {sc : Sc} {V : List Addr} {ad : Str → List Addr} {ρ : Rho} {s s' : Shared}
/-- things that the frame keeps aside move, that no name stands on -/
theorem St.sideD (S : St w F sc V ad ρ s) {D : List Addr} (hD : ∀ b ∈ D, b ∈ V ∨ s.heap.get? b = none) (hn : ∀ b ∈ D, F.s₀.heap.get? b = none) (hm : ∀ b ∈ D, ¬ Mut F ρ ad b) (hk : ∀ b o, b ∉ D → s.heap.get? b = some o → s'.heap.get? b = some o) (hl : ∀ b ∈ D, ∃ o, s'.heap.get? b = some o) (kp : Kp F.s₀ s') :
  St w F sc (D ++ V) ad ρ s' := by
 have nL : F.env.locals ∉ D := fun q => hm _ q (.inl rfl)
 have nC : ∀ y c, F.env.cells.lookup y = some c → c ∉ D := fun y c h q => hm _ q (.inr (.inl ⟨y, h⟩))
 have mv : ∀ x o, x ∉ V → s.heap.get? x = some o → s'.heap.get? x = some o := fun x o hx e => hk x o (fun q => by
  rcases hD x q with h | h
  ·exact hx h
  ·rw [h] at e; cases e) e
 have mv' : ∀ x ∈ D ++ V, x ∈ V ∨ s.heap.get? x = none := fun x hx => by
  rcases List.mem_append.mp hx with h | h
  ·exact hD x h
  ·exact .inl h
 refine { S with rd := ?_, kp := kp, ns := ?_, cells := fun x c h => ⟨?_, (S.cells x c h).2⟩, v0 := fun b hb => List.mem_append_right _ (S.v0 b hb), vL := List.mem_append_right _ S.vL, vC := fun x c h => List.mem_append_right _ (S.vC x c h), vV := fun b hb => ?_, vO := fun x b h => ?_ }
 ·refine { S.rd with kin := S.kin₀.keeps kp.keep, low := fun x hx => ?_, vars := fun y sl hy => (S.rd.vars y sl hy).map fun val va sr => ⟨?_, sr.mono mv mv' fun ho b hb o e => hk b o (fun q => hm b q (.inr (.inr ⟨y, sl, hy, ho, hb⟩))) e⟩ }
  ·rcases List.mem_append.mp hx with h | h
   ·exact hl x h
   ·by_cases hx' : x ∈ D
    ·exact hl x hx'
    ·obtain ⟨o, e⟩ := S.rd.low x h; exact ⟨o, hk x o hx' e⟩
  ·rcases va with ⟨k, m, nn, e⟩ | ⟨k, c, e, z⟩
   ·exact .inl ⟨k, m, nn.at' fun o e => hk _ o nL e, e⟩
   ·obtain ⟨o, e', d'⟩ := z
    exact .inr ⟨k, c, e, o, hk c o (nC y c e) e', d'⟩
 ·obtain ⟨m, nn⟩ := S.ns; exact ⟨m, nn.at' fun o e => hk _ o nL e⟩
 ·obtain ⟨v, o, e, d'⟩ := (S.cells x c h).1
  exact ⟨v, o, hk c o (nC x c h) e, d'⟩
 ·rcases List.mem_append.mp hb with h | h
  ·exact .inr (hn b h)
  ·exact S.vV b h
 ·obtain ⟨h1, h2⟩ := S.vO x b h
  exact ⟨List.mem_append_right _ h1, h2⟩

theorem GExt.set {g₀ g : Array GenState} {i : Nat} {y : GenState} (x : GExt g₀ g) (hi : g₀[i]? = none) (hb : y.bare = true) : GExt g₀ (g.setIfInBounds i y) := by
 refine ⟨fun j z e => ?_, fun b => ?_⟩
 ·have hj : j ≠ i := fun q => by rw [q, hi] at e; cases e
  rw [Array.getElem?_setIfInBounds_ne (Ne.symm hj)]
  exact x.ext j z e
 ·have hb' := x.bare b
  intro z hz
  obtain ⟨j, hj, rfl⟩ := Array.mem_iff_getElem.mp hz
  by_cases e : i = j
  ·subst e
   rw [Array.getElem_setIfInBounds_self]; exact hb
  ·have hj' : j < g.size := by rw [Array.size_setIfInBounds] at hj; exact hj
   have e2 : (g.setIfInBounds i y)[j] = g[j] := by rw [Array.getElem_setIfInBounds hj', if_neg e]
   rw [e2]
   exact hb' _ (Array.getElem_mem _)
end

theorem ungl {V V' D : List Addr} {M M' : Addr → Prop} {s s' : Shared} (x : Ste V M (gl s) V' (fun b => M' b ∨ b ∈ D) (gl s')) (gx : GExt s.gens s'.gens) : Ste V M s V' M' s' := ⟨x.chg, fun a h => x.grow a (.inl h), x.growV, x.sub, x.alive, gx⟩
theorem setGen_at {s : Shared} {g : Nat} {x y : GenState} (h : s.gens[g]? = some x) : (s.setGen g y).gens[g]? = some y := by
 show (s.gens.setIfInBounds g y)[g]? = some y
 rw [Array.getElem?_setIfInBounds_self]
 obtain ⟨h1, _⟩ := Array.getElem?_eq_some_iff.mp h
 rw [if_pos h1]

section
variable {w : World} {d : Nat} {F : Fm} {sc : Sc} {own : List (Str × Bool)} {V : List Addr} {ad : Str → List Addr} {ρ ρ' : Rho} {fl : Fl}

/-- a loop over a generator just made -/
theorem gen_loop {t : Expr} {a : List Stmt} {body : Rho → Option (Fl × Rho)} {A : Around} {R : Result → Shared → Prop} {s₁ s₃ : Shared} {x : Str} {tk : Tok} {L : Addr} {m : Str → Option Value} {af : Addr}
  {D : Nat} (hb : ∀ ρ fl ρ', body ρ = some (fl, ρ') → Ex w D F sc ρ (execs a F.env) fl ρ') (hRD : Room D A) (hR : Room (d + 2) A) (h : forGo body (bindT sc own t) (escOf (chs x)) ρ = some (fl, ρ'))
  (S : St w F sc V ad ρ s₁) (k₃ : ∀ b o, s₁.heap.get? b = some o → s₃.heap.get? b = some o) (e₃ : ∃ h tk, s₃ = { s₁ with heap := h, toks := tk, gens := s₁.gens.push (.fresh (gFun L af)) })
  (n : s₃.heap.Ns L m) (h1 : m "addr" = some (.str x tk)) (fL : s₁.heap.get? L = none) {G : Addr} (hG : s₃.heap.IsGen G s₁.gens.size) (fG : s₁.heap.get? G = none) (hLG : L ≠ G)
  (k : ∀ f s' V' ad', St w F sc V' ad' ρ' s' → Ste V (Mut F ρ ad) s₁ V' (Mut F ρ' ad') s' → FlRep F.V₀ s'.heap fl f → R (.ok f) s') :
  codeAny (model pw w) A (.forLoop t (.ref G) a [] F.env) R s₃ := by
 have hRB : Room (d + 1) A.in1 := ⟨hR.h, by have := hR.depth; show A.depth + (d + 1) < 900; omega, by have := hR.units; show A.units + 1 + 10 * (d + 1) < 5000; omega⟩
 have hroom : A.depth < recursionLimit := by have := hR.depth; show A.depth < 1000; omega
 obtain ⟨h₃, tk₃, e₃⟩ := e₃
 have hg3 : s₃.gens = s₁.gens.push (.fresh (gFun L af)) := by rw [e₃]
 have gnew : F.s₀.gens[s₁.gens.size]? = none := by
  cases q : F.s₀.gens[s₁.gens.size]? with
  | none => rfl
  | some y =>
   have := S.kp.gx.ext _ _ q
   obtain ⟨h', _⟩ := Array.getElem?_eq_some_iff.mp this
   exact absurd h' (Nat.lt_irrefl _)
 have gx3 : GExt F.s₀.gens s₃.gens := by
  rw [hg3]
  refine ⟨fun i y q => ?_, fun b => (S.kp.gx.bare b).push rfl⟩
  have q' := S.kp.gx.ext i y q
  have hi := (Array.getElem?_eq_some_iff.mp q').1
  rw [Array.getElem?_push, if_neg (Nat.ne_of_lt hi)]; exact q'
 have kp3 : Kp F.s₀ s₃ := by
  obtain ⟨⟨h0, t0, g0, e0, _⟩, kk⟩ := S.kp
  refine ⟨⟨h₃, tk₃, s₃.gens, by rw [e₃, e0], gx3⟩, fun b o q => k₃ b o (kk b o q)⟩
 have aL : ∃ o, s₃.heap.get? L = some o := by obtain ⟨o, _, _, q, _⟩ := n; exact ⟨o, q⟩
 have aG : ∃ o, s₃.heap.get? G = some o := by obtain ⟨o, _, _, q, _⟩ := hG; exact ⟨o, q⟩
 have nV : ∀ b, s₁.heap.get? b = none → b ∉ V := fun b q => S.rd.low.not_mem q
 have S₃ : St w F sc ([L, G] ++ V) ad ρ s₃ := S.sideD (fun b hb => .inr (by
   simp only [List.mem_cons, List.not_mem_nil, or_false] at hb
   rcases hb with rfl | rfl
   ·exact fL
   ·exact fG)) (fun b hb => by
   simp only [List.mem_cons, List.not_mem_nil, or_false] at hb
   rcases hb with rfl | rfl
   ·exact new_of S.kp.keep fL
   ·exact new_of S.kp.keep fG) (fun b hb hm => by
   have := S.mut b hm
   simp only [List.mem_cons, List.not_mem_nil, or_false] at hb
   rcases hb with rfl | rfl
   ·exact nV _ fL this
   ·exact nV _ fG this) (fun b o _ q => k₃ b o q) (fun b hb => by
   simp only [List.mem_cons, List.not_mem_nil, or_false] at hb
   rcases hb with rfl | rfl
   ·exact aL
   ·exact aG) kp3
 generalize hN : s₃.heap.objs.size = N at *
 have fresh3 : ∀ b, b = N ∨ b = N + 1 → s₃.heap.get? b = none := fun b hb => by
  cases q : s₃.heap.get? b with
  | none => rfl
  | some o =>
   have := Heap.lt_size q
   rw [hN] at this
   rcases hb with rfl | rfl
   ·exact absurd this (Nat.lt_irrefl _)
   ·exact absurd (Nat.lt_of_succ_lt this) (Nat.lt_irrefl _)
 have fresh1 : ∀ b, b = N ∨ b = N + 1 → s₁.heap.get? b = none := fun b hb => new_of k₃ (fresh3 b hb)
 have hLN : L ≠ N + 1 ∧ L ≠ N := ⟨fun q => (by obtain ⟨o, e⟩ := aL; rw [q, fresh3 _ (.inr rfl)] at e; cases e), fun q => (by obtain ⟨o, e⟩ := aL; rw [q, fresh3 _ (.inl rfl)] at e; cases e)⟩
 have hGN : G ≠ N + 1 ∧ G ≠ N := ⟨fun q => (by obtain ⟨o, e⟩ := aG; rw [q, fresh3 _ (.inr rfl)] at e; cases e), fun q => (by obtain ⟨o, e⟩ := aG; rw [q, fresh3 _ (.inl rfl)] at e; cases e)⟩
 -- what the generator keeps
 have memD : ∀ b, b ∈ gD L (N + 1) N ↔ b = L ∨ b = N + 1 ∨ b = N := fun b => by simp
 have GD : G ∉ gD L (N + 1) N := fun q => by
  rcases (memD G).mp q with q | q | q
  ·exact hLG q.symm
  ·exact hGN.1 q
  ·exact hGN.2 q
 have newD : ∀ b ∈ gD L (N + 1) N, s₁.heap.get? b = none := fun b hb => by
  rcases (memD b).mp hb with rfl | hb
  ·exact fL
  ·exact fresh1 b (by rcases hb with h | h; exact .inr h; exact .inl h)
 have start := g_start (w := w) (a := af) (B := A.in1) (b₀ := F.s₀) (s := s₃.setGen s₁.gens.size .running) hRB (by
   obtain ⟨⟨h0, t0, g0, e0, _⟩, kk⟩ := kp3
   exact ⟨⟨s₃.heap, s₃.toks, _, by rw [e0]; rfl, gx3.set gnew rfl⟩, kk⟩) S.kin₀ (new_of S.kp.keep fL) n h1
 have hNs : (s₃.setGen s₁.gens.size .running).heap.objs.size = N := hN
 rw [hNs] at start
 -- the loop's invariant
 refine codeAny_forLoop_any (fun j s' => ∃ (i : Nat) (ρc : Rho) (V' : List Addr) (ad' : Str → List Addr) (gs : GenState), j = (escOf (chs x)).length + 1 - i ∧ i ≤ (escOf (chs x)).length ∧ St w F sc V' ad' ρc s' ∧
  Ste V (fun b => Mut F ρ ad b) (gl s₁) V' (fun b => Mut F ρc ad' b ∨ b ∈ gD L (N + 1) N) (gl s') ∧ GExt s₁.gens s'.gens ∧ (∀ b ∈ gD L (N + 1) N, ¬ Mut F ρc ad' b) ∧ (∀ b ∈ gD L (N + 1) N, b ∈ V' ∨ s'.heap.get? b = none) ∧ G ∈ V' ∧ ¬ Mut F ρc ad' G ∧ s'.heap.IsGen G s₁.gens.size ∧ s'.gens[s₁.gens.size]? = some gs ∧
  gs.Goes (model pw w) A.in1 (Rp (gD L (N + 1) N)) (Yp (gD L (N + 1) N) F.s₀ (escOf (chs x))) ((escOf (chs x)).length - i) (.send .none) (s'.setGen s₁.gens.size .running) ∧
  forGo body (bindT sc own t) ((escOf (chs x)).drop i) ρc = some (fl, ρ')) (fun j s' hI => ?_) ((escOf (chs x)).length + 1)
  ⟨0, ρ, [L, G] ++ V, ad, .fresh (gFun L af), rfl, Nat.zero_le _, S₃, ?_, ?_, ?_, ?_, by simp, ?_, hG, by rw [hg3]; simp, ⟨rfl, start⟩, by simpa using h⟩
 ·obtain ⟨i, ρc, V', ad', gs, rfl, hi, S', T', gx', hmD, hDV, hGV, hmG, hIsG, hgs, hgo, hgoes⟩ := hI
  have gnew1 : s₁.gens[s₁.gens.size]? = none := Array.getElem?_eq_none (Nat.le_refl _)
  have fD : ∀ b ∈ gD L (N + 1) N, F.s₀.heap.get? b = none := fun b hb => new_of S.kp.keep (newD b hb)
  have gxrun : GExt F.s₀.gens (s'.setGen s₁.gens.size .running).gens := S'.kp.gx.set gnew rfl
  have gxrun1 : GExt s₁.gens (s'.setGen s₁.gens.size .running).gens := gx'.set gnew1 rfl
  -- what is true behind a wakening
  have woken : ∀ (sy : Shared) (y : GenState), Rel (gD L (N + 1) N) (s'.setGen s₁.gens.size .running) sy → (∀ b ∈ gD L (N + 1) N, ∃ o, sy.heap.get? b = some o) → y.bare = true →
    Kp F.s₀ sy ∧ (∀ h' : Heap, (∀ b o, sy.heap.get? b = some o → h'.get? b = some o) → St w F sc (gD L (N + 1) N ++ V') ad' ρc { sy.setGen s₁.gens.size y with heap := h' } ∧ GExt s₁.gens (sy.setGen s₁.gens.size y).gens ∧
     Ste V (fun b => Mut F ρ ad b) (gl s₁) (gD L (N + 1) N ++ V') (fun b => Mut F ρc ad' b ∨ b ∈ gD L (N + 1) N) (gl { sy.setGen s₁.gens.size y with heap := h' })) := fun sy y hrel hal hy => by
   have keepS : ∀ b o, b ∉ gD L (N + 1) N → s'.heap.get? b = some o → sy.heap.get? b = some o := fun b o hb q => hrel.keep b o hb q
   have kpy : Kp F.s₀ sy := by
    obtain ⟨⟨h0, t0, g0, e0, _⟩, kk⟩ := S'.kp
    obtain ⟨h1, t1, g1, e1, hg1⟩ := hrel.same
    refine ⟨⟨h1, t1, g1, by rw [e1, e0]; rfl, ?_⟩, fun b o q => keepS b o (fun hb => by rw [fD b hb] at q; cases q) (kk b o q)⟩
    have : GExt F.s₀.gens sy.gens := gxrun.trans (by rw [e1]; exact hg1)
    rw [e1] at this; exact this
   refine ⟨kpy, fun h' hh' => ?_⟩
   have gxy : GExt s₁.gens (sy.setGen s₁.gens.size y).gens := by
    obtain ⟨h1, t1, g1, e1, hg1⟩ := hrel.same
    have : GExt s₁.gens sy.gens := gxrun1.trans (by rw [e1]; exact hg1)
    exact this.set gnew1 hy
   have kp2 : Kp F.s₀ { sy.setGen s₁.gens.size y with heap := h' } := by
    have kpyy := kpy
    obtain ⟨⟨h0, t0, g0, e0, _⟩, kk⟩ := kpy
    exact ⟨⟨h', t0, _, by rw [e0]; rfl, (Kp.gx kpyy).set gnew hy⟩, fun b o q => hh' b o (kk b o q)⟩
   have S2 := S'.sideD (s' := { sy.setGen s₁.gens.size y with heap := h' }) hDV fD hmD (fun b o hb q => hh' b o (keepS b o hb q)) (fun b hb => let ⟨o, q⟩ := hal b hb; ⟨o, hh' b o q⟩) kp2
   refine ⟨S2, gxy, T'.trans ⟨fun b o hb q => hh' b o (keepS b o (fun h => hb (.inr h)) q), fun b h => .inl h, fun b hb => ?_, fun b hb => List.mem_append_right _ hb, fun b o q => ?_, .refl _⟩⟩
   ·rcases List.mem_append.mp hb with h | h
    ·exact hDV b h
    ·exact .inl h
   ·by_cases hb : b ∈ gD L (N + 1) N
    ·obtain ⟨o', q'⟩ := hal b hb; exact ⟨o', hh' b o' q'⟩
    ·exact ⟨o, hh' b o (keepS b o hb q)⟩
  refine wp_next_gen (P := fun n s₀ s₁ => n = 0 ∧ Rel (gD L (N + 1) N) s₀ s₁ ∧ ∀ b ∈ gD L (N + 1) N, ∃ o, s₁.heap.get? b = some o) hR.h S'.rd.kin.nolimit hroom hIsG hgs hgo (fun v sy gs' hbare hY => ?_) (fun sf hP h' hh' => ?_)
  ·obtain ⟨⟨item, hit, hrep⟩, hrel, hal, hkap⟩ := hY
   obtain ⟨kpy, hw⟩ := woken sy gs' hrel hal hbare
   obtain ⟨S2, gx2, TT⟩ := hw sy.heap fun _ _ q => q
   by_cases hlt : i < (escOf (chs x)).length
   ·obtain ⟨mm, hmm⟩ : ∃ mm, (escOf (chs x)).length - i = mm + 1 := ⟨(escOf (chs x)).length - i - 1, by omega⟩
    have hidx : (escOf (chs x)).length - 1 - ((escOf (chs x)).length - i - 1) = i := by omega
    rw [hidx] at hit
    have hd : (escOf (chs x)).drop i = item :: (escOf (chs x)).drop (i + 1) := by
     rw [List.drop_eq_getElem_cons hlt]
     rw [List.getElem?_eq_getElem hlt] at hit
     cases hit; rfl
    rw [hd] at hgoes
    unfold forGo at hgoes
    simp only [Option.bind_eq_bind, Option.bind_eq_some_iff] at hgoes
    obtain ⟨ρ₁, hbind, ⟨fl', ρ₂⟩, hbody, hrest⟩ := hgoes
    have rv : Rep (gD L (N + 1) N ++ V') sy.heap item v := hrep V' S'.rd.low
    have keepG : ∀ o, s'.heap.get? G = some o → sy.heap.get? G = some o := fun o q => hrel.keep G o GD q
    obtain ⟨oG, nmG, qnG, qG, cG, dG, sG⟩ := hIsG
    refine go_bind (h := sy.heap) hbind rv (fun elts k p T => go_of (o := oG) (keepG _ qG) cG dG (by decide) ?_) ?_
    all_goals
     refine (bindT_ok (w := w) (F := F) t hbind).2 A (sy.setGen s₁.gens.size gs') _ ad' v _ _ hR.h S2 rv fun s₄ ad₄ S₄ T₄ => ?_
     refine hb _ _ _ hbody A s₄ _ ad₄ _ _ hRD S₄ fun f s₅ V₅ ad₅ S₅ T₅ fr => ?_
     have mutD₄ : ∀ b, (b ∈ gD L (N + 1) N ∨ b = G) → ¬ Mut F ρ₁ ad₄ b := fun b hb hm => by
      rcases T₄.grow b hm with q | q
      ·rcases hb with hb | rfl
       ·exact hmD b hb q
       ·exact hmG q
      ·rcases hb with hb | rfl
       ·obtain ⟨o, e⟩ := hal b hb
        exact absurd (q.symm.trans e) (by simp)
       ·exact absurd (q.symm.trans (keepG _ qG)) (by simp)
     have alive₄ : ∀ b, (b ∈ gD L (N + 1) N ∨ b = G) → ∃ o, s₄.heap.get? b = some o := fun b hb => by
      rcases hb with hb | rfl
      ·obtain ⟨o, e⟩ := hal b hb; exact T₄.alive b o e
      ·exact T₄.alive _ _ (keepG _ qG)
     have mutD₅ : ∀ b, (b ∈ gD L (N + 1) N ∨ b = G) → ¬ Mut F ρ₂ ad₅ b := fun b hb hm => by
      rcases T₅.grow b hm with q | q
      ·exact mutD₄ b hb q
      ·obtain ⟨o, e⟩ := alive₄ b hb
       rw [e] at q; cases q
     have keep₅ : ∀ b o, (b ∈ gD L (N + 1) N ∨ b = G) → sy.heap.get? b = some o → s₅.heap.get? b = some o := fun b o hb q => T₅.chg b o (mutD₄ b hb) (T₄.chg b o (fun hm => by
      rcases hb with hb | rfl
      ·exact hmD b hb hm
      ·exact hmG hm) q)
     have TF := (TT.trans (T₄.gl.orD (gD L (N + 1) N))).trans (T₅.gl.orD (gD L (N + 1) N))
     have gx5 : GExt s₁.gens s₅.gens := gx2.trans (T₄.gx.trans T₅.gx)
     have go_on : forGo body (bindT sc own t) ((escOf (chs x)).drop (i + 1)) ρ₂ = some (fl, ρ') → ∃ m, m < (escOf (chs x)).length + 1 - i ∧ ∃ (i : Nat) (ρc : Rho) (V' : List Addr) (ad' : Str → List Addr) (gs : GenState), m = (escOf (chs x)).length + 1 - i ∧ i ≤ (escOf (chs x)).length ∧ St w F sc V' ad' ρc s₅ ∧
       Ste V (fun b => Mut F ρ ad b) (gl s₁) V' (fun b => Mut F ρc ad' b ∨ b ∈ gD L (N + 1) N) (gl s₅) ∧ GExt s₁.gens s₅.gens ∧ (∀ b ∈ gD L (N + 1) N, ¬ Mut F ρc ad' b) ∧ (∀ b ∈ gD L (N + 1) N, b ∈ V' ∨ s₅.heap.get? b = none) ∧ G ∈ V' ∧ ¬ Mut F ρc ad' G ∧ s₅.heap.IsGen G s₁.gens.size ∧ s₅.gens[s₁.gens.size]? = some gs ∧
       gs.Goes (model pw w) A.in1 (Rp (gD L (N + 1) N)) (Yp (gD L (N + 1) N) F.s₀ (escOf (chs x))) ((escOf (chs x)).length - i) (.send .none) (s₅.setGen s₁.gens.size .running) ∧
       forGo body (bindT sc own t) ((escOf (chs x)).drop i) ρc = some (fl, ρ') := fun hrest => by
      have hgs₅ : s₅.gens[s₁.gens.size]? = some gs' := T₅.gx.ext _ _ (T₄.gx.ext _ _ (setGen_at (x := .running) (by
       obtain ⟨h1, t1, g1, e1, hg1⟩ := hrel.same
       rw [e1]
       exact hg1.ext _ _ (setGen_at hgs))))
      refine ⟨(escOf (chs x)).length + 1 - (i + 1), by omega, i + 1, ρ₂, V₅, ad₅, gs', rfl, hlt, S₅, TF, gx5, fun b hb => mutD₅ b (.inl hb), fun b hb => .inl (T₅.sub _ (T₄.sub _ (List.mem_append_left _ hb))), T₅.sub _ (T₄.sub _ (List.mem_append_right _ hGV)), mutD₅ G (.inr rfl), ⟨oG, nmG, qnG, keep₅ G _ (.inr rfl) (keepG _ qG), cG, dG, sG⟩, hgs₅, ?_, hrest⟩
      have hk := hkap (s₅.setGen s₁.gens.size .running) (by
       obtain ⟨⟨h0, t0, g0, e0, _⟩, kk⟩ := S₅.kp
       exact ⟨⟨s₅.heap, s₅.toks, _, by rw [e0]; rfl, (Kp.gx S₅.kp).set gnew rfl⟩, kk⟩) fun b hb o q => keep₅ b o (.inl hb) q
      rw [hmm] at hk
      have : (escOf (chs x)).length - (i + 1) = mm := by omega
      rw [this]
      exact hk
     cases fl' with
     | next => cases fr; exact go_on hrest
     | cont => cases fr; exact go_on hrest
     | brk => cases fr; cases hrest; exact k .next s₅ V₅ ad₅ S₅ (ungl TF gx5) rfl
     | ret r => obtain ⟨val, rfl, rr⟩ := fr; cases hrest; exact k _ s₅ V₅ ad₅ S₅ (ungl TF gx5) ⟨val, rfl, rr⟩
   ·have h0 : (escOf (chs x)).length - i = 0 := by omega
    have := hkap sy kpy fun b hb o q => q
    rw [h0] at this
    exact this.elim
  ·obtain ⟨h0, hrel, hal⟩ := hP
   obtain ⟨kpy, hw⟩ := woken sf .finished hrel hal rfl
   obtain ⟨S2, gx2, TT⟩ := hw h' hh'
   have hin : i = (escOf (chs x)).length := by omega
   rw [hin, List.drop_length] at hgoes
   cases hgoes
   exact wpAny_execs_nil (k .next _ _ ad' S2 (ungl TT gx2) rfl)
 ·refine ⟨fun b o _ q => k₃ b o q, fun b hb => hb.elim .inl fun q => .inr (newD b q), fun b hb => ?_, fun b hb => List.mem_append_right _ hb, fun b o q => ⟨o, k₃ b o q⟩, .refl _⟩
  rcases List.mem_append.mp hb with q | q
  ·simp only [List.mem_cons, List.not_mem_nil, or_false] at q
   rcases q with rfl | rfl
   ·exact .inr fL
   ·exact .inr fG
  ·exact .inl q
 ·rw [hg3]
  refine ⟨fun i y q => ?_, fun b => b.push rfl⟩
  have hi := (Array.getElem?_eq_some_iff.mp q).1
  rw [Array.getElem?_push, if_neg (Nat.ne_of_lt hi)]; exact q
 ·exact fun b hb hm => nV b (newD b hb) (S.mut b hm)
 ·intro b hb
  rcases (memD b).mp hb with rfl | hb
  ·exact .inl (by simp)
  ·exact .inr (fresh3 b (by rcases hb with h | h; exact .inr h; exact .inl h))
 ·exact fun hm => nV G fG (S.mut G hm)
end

theorem it_gen : fdIter.scope.isGenerator = true := by kernel_rfl
theorem it_ps : fdIter.params.args.map (·.arg) = [("addr" : Str)] := by kernel_rfl

theorem genFor_ok {w : World} {d : Nat} {x : Str} : GenFor w (d + 2) "_iter_escaped_chars" [.str x] (escOf (chs x)) := by
 intro F sc own ρ t a body fl ρ' es p cp pos hg hF hs he hb hgo A s V ad Q E R S k
 refine wpAny_For ?_ (fun _ => rfl)
 refine wpAny_Call_NameR (wp_global S.rd hg (nm_iter _) ?_ (by decide))
 refine callWith_function (fd := fdIter) (o := fnObj fdIter) (evalArgs_any (star_plain hs) (he cp A s V ad _ E R S.rd fun xs s₁ k₁ rs => ?_))
 have rs : Reps V s₁.heap [.str x] xs := rs.reps
 cases rs with
 | cons r0 rs0 =>
 cases rs0
 obtain ⟨tk, rfl⟩ := r0.str_inv
 have S₁ := S.step k₁
 have kin₁ := S₁.rd.kin
 refine ⟨⟨kin₁.get (at_iter _), rfl⟩, ?_⟩
 refine wpAny_call ?_
 refine codeAny_call_generator (fd := fdIter) (by have := R.depth; show A.depth < 1000; omega) (kin₁.get (at_iter _)) rfl ok_iter.co it_gen ok_iter.body (ok_iter.code w _ kin₁) ?_
 rw [show ([] ++ (⟨[.str x tk], []⟩ : Args).pos : List Value) = [.str x tk] from rfl, ok_iter.bind [.str x tk] (by rw [it_ps]; rfl), ok_iter.clo]
 refine wpAny_pure (wpAny_newFunctionEnv_cells ok_iter.kind (fun y hy => ?_) fun env henv s₂ X => ?_)
 ·have hm := (List.of_mem_zip hy).1
  rcases ok_iter.ps y.1 hm with hk | hk
  ·exact .inl hk
  ·exact .inr ⟨hk, cellsFrom_look _ _ _ _ hk⟩
 ·have henv' : env = gEnv s₁.heap.objs.size 94 := henv
  subst henv'
  have keep₂ := X.toInCall.keep
  obtain ⟨h₂, tk₂, e₂⟩ := X.toInCall.same
  have kin₂ : KIn w s₂.heap := kin₁.keeps keep₂
  refine ⟨kin₂.nolimit, ?_⟩
  -- the generator's object
  have hL1 := get?_size s₁.heap
  have fG : s₁.heap.get? s₂.heap.objs.size = none := new_of keep₂ (get?_size s₂.heap)
  have n₂ := X.toInCall.ns
  have hLG : s₁.heap.objs.size ≠ s₂.heap.objs.size := fun q => by
   obtain ⟨o, _, _, q', _⟩ := n₂
   have q' : s₂.heap.get? s₁.heap.objs.size = some o := q'
   rw [q, get?_size] at q'; cases q'
  have hgens : s₂.gens.size = s₁.gens.size ∧ s₂.gens = s₁.gens := by rw [e₂]; exact ⟨rfl, rfl⟩
  rw [hgens.1]
  have hbodyEq : (.func (bodyOf fdIter) (gEnv s₁.heap.objs.size 94) : Code) = gFun s₁.heap.objs.size 94 := rfl
  refine wpAny_pyIter_gen (g := s₁.gens.size) ⟨_, _, _, Heap.get?_push_size _ rfl, rfl, rfl, rfl⟩ ?_
  refine gen_loop (w := w) (d := d) (D := d + 2) (L := s₁.heap.objs.size) (af := 94) (s₁ := s₁) (tk := tk) hb R R hgo S₁ (fun b o q => Heap.get?_push_of_some _ (keep₂ b o q)) ⟨_, _, by rw [e₂]⟩ (n₂.push _) ?_ hL1 ⟨_, _, _, Heap.get?_push_size _ rfl, rfl, rfl, rfl⟩ fG hLG fun f s' V' ad' S' T fr => k f s' V' ad' S' ((Ste.kp k₁).trans T) fr
  rw [it_ps]
  exact bindL_get _ _ _ _ (by simp) (by simp) (by kernel_rfl)

/-! ## what the text's names mean, level by level -/
def wsEq : PV → PV → Option PV
 | .ws c b, .ws c' b' => (cmp .Eq (normV c b) (normV c' b')).map .bool
 | _, _ => none
def g0 : G where
 fn f args := match args with
  | [.str x] => if f == "Whitespace" && Nat.ble x.length 400 then some (wsOf (chs x)) else none
  | [a, b] => if f == "equal" then wsEq a b else none
  | _ => none
 gen f args := match args with
  | [.str x] => if f == "_iter_escaped_chars" then some (escOf (chs x)) else none
  | _ => none
 get t args := match args with
  | [.str x, d] => if t == "EXACT_TOKEN_TYPES" then some (match exL.lookup x with | some i => .int i | none => d) else none
  | [.int c] => if t == "b3_exceptions" then some (b3Get c) else none
  | _ => none
 has t v := match v with
  | .int c => if t == "b1_set" then some (b1L.contains c) else none
  | .str x => if t == "EXACT_TOKEN_TYPES" then some (exL.lookup x).isSome else none
  | _ => none

theorem FnCall.mono {w : World} {d d' : Nat} {fv : Value} {args : List PV} {v : PV} (h : FnCall w d fv args v) (hd : d ≤ d') : FnCall w d' fv args v := fun A s pos ts Q E R hp hts => h A s pos ts Q E (R.mono hd) hp hts
theorem EqCall.mono {w : World} {d d' : Nat} {a b : PV} {r : Bool} (h : EqCall w d a b r) (hd : d ≤ d') : EqCall w d' a b r := fun A s env o e apos pos Q E R hr hl hs hk => h A s env o e apos pos Q E (R.mono hd) hr hl hs hk
theorem GOk.mono {w : World} {d d' : Nat} {Γ : G} (h : GOk w d Γ) (hd : d ≤ d') : GOk w d' Γ :=
 ⟨fun f args v hf hv => let ⟨fv, a, b⟩ := h.fn f args v hf hv; ⟨fv, a, b.mono hd⟩, fun args v hv => let ⟨a, b, r, e1, e2, e3⟩ := h.eq args v hv; ⟨a, b, r, e1, e2, e3.mono hd⟩, h.get, h.has⟩

theorem g0_ok {w : World} : GOk w 2 g0 where
 fn f args v hf hv := by
  unfold g0 at hv
  simp only at hv
  split at hv
  ·split at hv
   ·rename_i x hc; cases hv
    rw [Bool.and_eq_true] at hc
    have := beq_iff_eq.mp hc.1; subst this
    exact ⟨_, nm_ws, class_ok (d := 0) (Nat.le_of_ble_eq_true hc.2)⟩
   ·cases hv
  ·rw [hf] at hv; simp at hv
  ·cases hv
 eq args v hv := by
  unfold g0 at hv
  simp only at hv
  split at hv
  ·split at hv
   ·rename_i hc
    rw [Bool.and_eq_true] at hc
    exact absurd hc.1 (by decide)
   ·cases hv
  ·rename_i a b
   rw [if_pos (by decide)] at hv
   unfold wsEq at hv
   split at hv
   ·rw [Option.map_eq_some_iff] at hv
    obtain ⟨r, h1, rfl⟩ := hv
    exact ⟨_, _, r, rfl, rfl, equal_ok (d := 1) h1⟩
   ·cases hv
  ·cases hv
 get t args v hv := by
  unfold g0 at hv
  simp only at hv
  split at hv
  ·split at hv
   ·rename_i hc; cases hv
    have := beq_iff_eq.mp hc; subst this
    exact ⟨_, ex_name, get_ex⟩
   ·cases hv
  ·split at hv
   ·rename_i hc; cases hv
    have := beq_iff_eq.mp hc; subst this
    exact ⟨_, b3_name, get_b3⟩
   ·cases hv
  ·cases hv
 has t a r hv := by
  unfold g0 at hv
  simp only at hv
  split at hv
  ·split at hv
   ·rename_i hc; cases hv
    have := beq_iff_eq.mp hc; subst this
    exact ⟨_, b1_name, has_b1⟩
   ·cases hv
  ·split at hv
   ·rename_i hc; cases hv
    have := beq_iff_eq.mp hc; subst this
    exact ⟨_, ex_name, has_ex⟩
   ·cases hv
  ·cases hv

abbrev Tbl := List (Str × FuncData × List (Str × Bool))
def lev (Γ : G) (tbl : Tbl) : G := { Γ with fn := fun f args => match tbl.lookup f with
 | some (fd, own) => callF Γ own 12 fd args
 | none => Γ.fn f args }
structure Ent (f : Str) (fd : FuncData) : Prop where
 eq : (f == ("equal" : Str)) = false
 at_ : ∃ a, (∀ P, nsK P 3 f = some (.ref a)) ∧ ∀ P, (K P).lookup a = some (fnObj fd)
 ok : FnOk fd (bodyOf fd)
 gen : fd.scope.isGenerator = false
def GenOk (Γ : G) : Prop := ∀ w d f args vs, Γ.gen f args = some vs → GenFor w (d + 2) f args vs
theorem g0_gen : GenOk g0 := fun w d f args vs hv => by
 unfold g0 at hv
 simp only at hv
 split at hv
 ·split at hv
  ·rename_i hc; cases hv
   have := beq_iff_eq.mp hc; subst this
   exact genFor_ok
  ·cases hv
 ·cases hv
theorem lev_gen {Γ : G} {tbl : Tbl} (h : GenOk Γ) : GenOk (lev Γ tbl) := fun w d f args vs hv => h w d f args vs hv
theorem lev_ok {w : World} {d : Nat} {Γ : G} {tbl : Tbl} (h : GOk w (d + 2) Γ) (hg : GenOk Γ) (ht : ∀ f fd own, tbl.lookup f = some (fd, own) → Ent f fd) : GOk w (d + 3) (lev Γ tbl) where
 fn f args v hf hv := by
  unfold lev at hv
  simp only at hv
  split at hv
  ·rename_i fd own hl
   obtain ⟨_, ⟨a, h1, h2⟩, ok, gn⟩ := ht f fd own hl
   exact ⟨_, h1, fnCall_of h (fun f args vs q => hg w d f args vs q) ok gn (fun w h x => x.get (h2 _)) rfl hv⟩
  ·exact (h.mono (by omega : d + 2 ≤ d + 3)).fn f args v hf hv
 eq args v hv := by
  unfold lev at hv
  simp only at hv
  split at hv
  ·rename_i fd own hl
   have := (ht _ _ _ hl).eq
   exact absurd this (by decide)
  ·exact (h.mono (by omega : d + 2 ≤ d + 3)).eq args v hv
 get t args v hv := h.get t args v hv
 has t a r hv := h.has t a r hv

def tbl1 : Tbl := [("_law_signs", fdSigns, []), ("_law_unseen", fdUnseen, []), ("_strip_quoted_realnames", fdStrip, [("result", false)]), ("in_table_b1", fdB1, []), ("map_table_b3", fdB3, []), ("_law_indent", fdIndent, []), ("_law_other", fdOther, [])]
def tbl2 : Tbl := [("_law_name", fdName, []), ("_law_fold", fdFold, [("pile", false)]), ("_law_lines", fdLines, [("lines", true)])]
def tbl3 : Tbl := [("_law_drawn", fdDrawn, [("nodes", false)])]
def g1 : G := lev g0 tbl1
def g2 : G := lev g1 tbl2
def g3 : G := lev g2 tbl3
theorem look_mem {α : Type} : ∀ {l : List (Str × α)} {f : Str} {x : α}, l.lookup f = some x → (f, x) ∈ l := fun h => mem_of_lookup h
theorem ent1 : ∀ f fd own, tbl1.lookup f = some (fd, own) → Ent f fd := fun f fd own h => by
 have hm := look_mem h
 unfold tbl1 at hm
 simp only [List.mem_cons, Prod.mk.injEq, List.not_mem_nil, or_false] at hm
 rcases hm with ⟨rfl, rfl, _⟩ | ⟨rfl, rfl, _⟩ | ⟨rfl, rfl, _⟩ | ⟨rfl, rfl, _⟩ | ⟨rfl, rfl, _⟩ | ⟨rfl, rfl, _⟩ | ⟨rfl, rfl, _⟩
 ·exact ⟨by decide, ⟨_, nm_signs, at_signs⟩, ok_signs, by kernel_rfl⟩
 ·exact ⟨by decide, ⟨_, nm_unseen, at_unseen⟩, ok_unseen, by kernel_rfl⟩
 ·exact ⟨by decide, ⟨_, nm_strip, at_strip⟩, ok_strip, by kernel_rfl⟩
 ·exact ⟨by decide, ⟨_, nm_b1, at_b1⟩, ok_b1, by kernel_rfl⟩
 ·exact ⟨by decide, ⟨_, nm_b3, at_b3⟩, ok_b3, by kernel_rfl⟩
 ·exact ⟨by decide, ⟨_, nm_indent, at_indent⟩, ok_indent, by kernel_rfl⟩
 ·exact ⟨by decide, ⟨_, nm_other, at_other⟩, ok_other, by kernel_rfl⟩
theorem ent2 : ∀ f fd own, tbl2.lookup f = some (fd, own) → Ent f fd := fun f fd own h => by
 have hm := look_mem h
 unfold tbl2 at hm
 simp only [List.mem_cons, Prod.mk.injEq, List.not_mem_nil, or_false] at hm
 rcases hm with ⟨rfl, rfl, _⟩ | ⟨rfl, rfl, _⟩ | ⟨rfl, rfl, _⟩
 ·exact ⟨by decide, ⟨_, nm_name, at_name⟩, ok_name, by kernel_rfl⟩
 ·exact ⟨by decide, ⟨_, nm_fold, at_fold⟩, ok_fold, by kernel_rfl⟩
 ·exact ⟨by decide, ⟨_, nm_lines, at_lines⟩, ok_lines, by kernel_rfl⟩
theorem ent3 : ∀ f fd own, tbl3.lookup f = some (fd, own) → Ent f fd := fun f fd own h => by
 have hm := look_mem h
 unfold tbl3 at hm
 simp only [List.mem_cons, Prod.mk.injEq, List.not_mem_nil, or_false] at hm
 obtain ⟨rfl, rfl, _⟩ := hm
 exact ⟨by decide, ⟨_, nm_drawn, at_drawn⟩, ok_drawn, by kernel_rfl⟩
theorem g1_ok {w : World} : GOk w 3 g1 := lev_ok (d := 0) g0_ok g0_gen ent1
theorem g2_ok {w : World} : GOk w 4 g2 := lev_ok (d := 1) g1_ok (lev_gen g0_gen) ent2
theorem g3_ok {w : World} : GOk w 5 g3 := lev_ok (d := 2) g2_ok (lev_gen (lev_gen g0_gen)) ent3
theorem g3_gen : GenOk g3 := lev_gen (lev_gen (lev_gen g0_gen))

abbrev ownLaw : List (Str × Bool) := [("page", false)]
/-- the law called: what is seen of it from outside -/
theorem law_call {w : World} {A : Around} {s : Shared} {Q : Value → Shared → Prop} {E : Value → Shared → Prop} {V : List Addr} {args : List PV} {xs : List Value} {v : PV} (R : Room 6 A) (kin : KIn w s.heap) (lv : Live s.heap V) (rs : Reps V s.heap args xs) (h : callF g3 ownLaw 12 fdTheLaw args = some v)
  (k : ∀ val s', Kp s s' → Rep V s'.heap v val → Q val s') : wpAny (model pw w) A (call (.ref 217) xs []) Q E s := by
 unfold callF at h
 simp only [ok_law.body] at h
 have hlen : args.length = (fdTheLaw.params.args.map (·.arg)).length := by
  by_cases q : (fdTheLaw.params.args.map (·.arg)).length = args.length
  ·exact q.symm
  ·rw [if_pos (by simpa using q)] at h; cases h
 rw [if_neg (by simp [hlen])] at h
 refine wpAny_call ?_
 refine codeAny_call_cells (by have := R.depth; show A.depth < 1000; omega) (kin.get (at_law _)) rfl kin.nolimit (ok_law.code w _ kin) ok_law.body (ok_law.bind xs (by rw [rs.length, hlen])) ok_law.clo (fun x hx => ?_) (fun s₂ X => ?_) ok_law.co (by kernel_rfl) ok_law.kind
 ·have hm := (List.of_mem_zip hx).1
  rcases ok_law.ps x.1 hm with hk | hk
  ·exact .inl hk
  ·exact .inr ⟨hk, cellsFrom_look _ _ _ _ hk⟩
 ·obtain ⟨S, K⟩ := begin_call (a := 217) ok_law kin lv rs hlen X
  have hF : FmOk (frameOf fdTheLaw 217 s V) fdTheLaw.scope.names := ⟨ok_law.kind, rfl⟩
  have fin : ∀ {fl ρ'}, run g3 ownLaw fdTheLaw.scope.names 12 (putAll ((fdTheLaw.params.args.map (·.arg)).zip args) (rho0 fdTheLaw.scope.names)) (bodyOf fdTheLaw) = some (fl, ρ') → (∀ f (s' : Shared), FlRep V s'.heap fl f → Rep V s'.heap v (match f with | .ret v => v | _ => .none)) →
    wpAny (model pw w) (A.deeper (callEnvC fdTheLaw s.heap.objs.size 217)) (execs (bodyOf fdTheLaw) (callEnvC fdTheLaw s.heap.objs.size 217)) (fun f s' => Q (match f with | .ret v => v | _ => .none) s') (fun e s' => wpAny (model pw w) (A.deeper (callEnvC fdTheLaw s.heap.objs.size 217)) (leaving (callEnvC fdTheLaw s.heap.objs.size 217) e) (fun _ s'' => E e s'') (fun e' s'' => E e' s'') s') s₂ := fun hrun hv =>
   run_ok (d := 5) g3_ok (fun f args vs q => g3_gen w 3 f args vs q) hF 12 _ _ _ _ hrun (A.deeper (callEnvC fdTheLaw s.heap.objs.size 217)) s₂ _ _ _ _ R.deeper S fun f s' V' ad' S' T fr => k _ s' S'.kp (hv f s' fr)
  split at h
  ·rename_i r ρ' hr; cases h
   exact fin hr fun f s' fr => by obtain ⟨val, rfl, r⟩ := fr; exact r
  ·rename_i ρ' hr; cases h
   exact fin hr fun f s' fr => by cases fr; exact .none
  ·cases h
end SL
namespace SL
open PySem PySem.W PySem.Calls PyProof.Rows

/-! ## the fold -/
def sgL : List Str := (["+", "-", "*", "/", "|", "&", "<", ">", "=", ".", "%", "{", "}", "==", "!=", "<=", ">=", "~", "^", "<<", ">>", "**", "+=", "-=", "*=", "/=", "%=", "&=", "|=", "^=", "<<=", ">>=", "**=", "//", "//=", "@", "@=", "->", "...", ":=", "!"] : List String).map Str.ofString
def sgI (k : Int) : Str := match seqIndex? k 41 with
 | some i => sgL.getD i ⟨#[]⟩
 | none => ⟨#[]⟩
structure Row where
 id : Nat
 nm : Str
 num : Int
def Row.v (M : Nat → PV) (r : Row) : PV := .tup [M r.id, .str r.nm, .int r.num]
def brac (l : Str) (g : Str) (r : Str) : Str := Str.ofString "(" ++ l ++ g ++ r ++ Str.ofString ")"

def bodyI (fd : FuncData) (i : Nat) : Stmt := ((bodyOf fd)[i]?).getD default
def forIter (s : Stmt) : Expr := match s with | .For _ i _ _ _ => i | _ => default
def whileTest (s : Stmt) : Expr := match s with | .While c _ _ _ => c | _ => default
def whileBody (s : Stmt) : List Stmt := match s with | .While _ b _ _ => b | _ => []
def nthS (l : List Stmt) (i : Nat) : Stmt := (l[i]?).getD default
abbrev scF : Sc := fdFold.scope.names
abbrev ownF : List (Str × Bool) := [("pile", false)]
def rF (page marks : PV) (back : Bool) (pile : List PV) (line pair lead left number right last level : Slot) : Rho :=
 [("page", .v page), ("marks", .v marks), ("back", .v (.bool back)), ("pile", .o pile), ("line", line), ("pair", pair), ("lead", lead), ("left", left), ("number", number), ("right", right), ("last", last), ("level", level)]
def fFor : Stmt := bodyI fdFold 1
def fWh : Stmt := nthS (forBody fFor) 1
def marksOf (M : Nat → PV) : PV := .lst [M 0, M 1, M 2, M 3, M 4, M 5]
structure FoldG (Γ : G) (M : Nat → PV) : Prop where
 eq : ∀ i j, i ≤ 6 → j ≤ 6 → i ≠ 6 ∨ j ≠ 6 → Γ.fn "equal" [M i, M j] = some (.bool (i == j))
 signs : Γ.fn "_law_signs" [] = some (.lst (sgL.map .str))

section
variable {Γ : G} {M : Nat → PV} {page : PV} {back : Bool} {line pair lead left number right last level : Slot} {vs r : List PV}
theorem seqIndex_neg {i : Nat} {n : Nat} (h : i < n) : seqIndex? (-((i : Int) + 1)) n = some (n - 1 - i) := by
 unfold seqIndex?
 simp only
 rw [if_pos (show (-((i : Int) + 1)) < 0 by omega), if_pos (by simp; omega)]
 congr 1; omega
theorem idx_top {a : PV} : idx (.lst ((a :: r).reverse)) (.int (-1)) = some a := by
 show ((seqIndex? (-(((0 : Nat) : Int) + 1)) ((a :: r).reverse).length).bind (((a :: r).reverse)[·]?)) = _
 rw [seqIndex_neg (by simp)]
 simp
theorem idx_2nd {a b : PV} : idx (.lst ((a :: b :: r).reverse)) (.int (-2)) = some b := by
 show ((seqIndex? (-(((1 : Nat) : Int) + 1)) ((a :: b :: r).reverse).length).bind (((a :: b :: r).reverse)[·]?)) = _
 rw [seqIndex_neg (by simp)]
 simp
theorem len_reverse {n : Nat} (h : vs.length = n) (hn : n ≤ 1000) : blt "len" [.lst vs] = some (.int n) := by
 rw [len_lst (by omega), h]
theorem ev_of {n : Nat} {md : Md} {sc : Sc} {ρ : Rho} {e : Expr} {v : PV} (h : wev Γ n md sc ρ e (· = v)) : ev Γ n md sc ρ e = some v := by
 obtain ⟨v', h1, h2⟩ := wev_ok n md sc ρ e _ h
 rw [h1, h2]
theorem run_of {own : List (Str × Bool)} {n : Nat} {sc : Sc} {ρ ρ' : Rho} {sts : List Stmt} {fl : Fl} (h : wrun Γ own sc n ρ sts fun f p => f = fl ∧ p = ρ') : run Γ own sc n ρ sts = some (fl, ρ') := by
 obtain ⟨f, p, h1, h2, h3⟩ := wrun_ok n ρ sts _ h
 rw [h1, h2, h3]

theorem fold_test1 (h : vs.length ≤ 1) : ev Γ 40 .v scF (rF page (marksOf M) back vs line pair lead left number right last level) (whileTest fWh) = some (.bool false) := ev_of (by
 conv => whnf
 refine wopt.mk (len_lst (by omega)) ?_
 conv => whnf
 refine Br.f (show decide ((vs.length : Int) > 1) = false by simp; omega) ?_
 exact rfl)
theorem fold_test (hg : FoldG Γ M) {a b : Row} {st : List Row} (hv : vs = ((a :: b :: st).map (Row.v M)).reverse) (ha : a.id ≤ 6) (hb : b.id ≤ 6) (hab : a.id ≠ 6 ∨ b.id ≠ 6) (hl : st.length ≤ 1000) :
  ev Γ 40 .v scF (rF page (marksOf M) back vs line pair lead left number right last level) (whileTest fWh) = some (.bool (a.id == b.id && !(a.id == 0))) := ev_of (by
 have hlen : vs.length = st.length + 2 := by rw [hv]; simp
 have i1 : idx (.lst vs) (.int (-1)) = some (a.v M) := by rw [hv]; exact idx_top
 have i2 : idx (.lst vs) (.int (-2)) = some (b.v M) := by rw [hv]; exact idx_2nd
 clear hv
 conv => whnf
 refine wopt.mk (len_lst (by omega)) ?_
 conv => whnf
 refine Br.t (show decide ((vs.length : Int) > 1) = true by simp; omega) ?_
 conv => whnf
 refine wopt.mk i1 ?_
 conv => whnf
 refine wopt.mk i2 ?_
 conv => whnf
 refine wopt.mk (hg.eq a.id b.id ha hb hab) ?_
 conv => whnf
 refine Br.mk (fun h => ?_) (fun h => ?_)
 ·conv => whnf
  refine wopt.mk i1 ?_
  conv => whnf
  refine wopt.mk (hg.eq a.id 0 ha (by omega) (.inr (by omega))) ?_
  show PV.bool _ = PV.bool _
  rw [h]
  rfl
 ·show PV.bool _ = PV.bool _
  rw [h]
  rfl)

def mrg (back : Bool) (a b : Row) : Row := match back with
 | false => ⟨a.id - 1, brac b.nm (sgI (b.num - 14)) a.nm, a.num⟩
 | true => ⟨a.id - 1, brac a.nm (sgI (a.num - 14)) b.nm, b.num⟩
theorem pop_lem {α : Type} {r : List PV} {a b : PV} {f : PV → PV → List PV → α} (hs : sizeOk vs.length = true) (hr : vs.reverse = a :: b :: r) : (if !sizeOk vs.length then none else (match vs.reverse with
   | a :: b :: r => some (f a b r)
   | _ => none)) = some (f a b r) := by rw [hs, hr]; rfl
end
section
variable {Γ : G} {own : List (Str × Bool)} {sc : Sc} {ρ ρ' : Rho} {n : Nat} {md : Md}
theorem run1_of {st : Stmt} {fl : Fl} (h : wrun1 Γ own sc (wrun Γ own sc n) ρ st fun f p => f = fl ∧ p = ρ') : run1 Γ own sc (run Γ own sc n) ρ st = some (fl, ρ') := by
 obtain ⟨f, p, h1, h2, h3⟩ := wrun1_ok (fun ρ sts K h => wrun_ok n ρ sts K h) h
 rw [h1, h2, h3]
def lcRho (sc : Sc) (scope : Scope) (ρ : Rho) : Rho := ρ.filter fun p => scope.names.lookup p.1 == some .free && sc.lookup p.1 == some .cell
theorem ev_lc {elt iter : Expr} {x : Str} {px p : Pos} {ifs : List Expr} {scope : Scope} {vs : List PV} {ws : List (List PV)} (hc : compOk sc scope x = true)
  (hi : (match rangeArgs sc iter with
     | some args => (args.mapM (ev Γ n .v sc ρ)).bind rangeOf
     | none => (ev Γ n .l sc ρ iter).bind itemsOf) = some vs) (hs : sizeOk vs.length = true)
  (hm : vs.mapM (fun v => turnOf (ev Γ n .v (relab sc scope.names) ((x, .v v) :: lcRho sc scope ρ)) ifs elt) = some ws) :
  ev Γ (n + 1) md sc ρ (.ListComp elt [⟨.Name x px, iter, ifs, 0⟩] scope p) = some (.lst ws.flatten) := by
 show (if compOk sc scope x then
    match (match rangeArgs sc iter with
     | some args => (args.mapM (ev Γ n .v sc ρ)).bind rangeOf
     | none => (ev Γ n .l sc ρ iter).bind itemsOf) with
    | some vs => if sizeOk vs.length then
      match vs.mapM (fun v => turnOf (ev Γ n .v (relab sc scope.names) ((x, .v v) :: ρ.filter fun p => scope.names.lookup p.1 == some .free && sc.lookup p.1 == some .cell)) ifs elt) with
      | some ws => some (PV.lst ws.flatten)
      | none => none
     else none
    | none => none
   else none) = _
 rw [if_pos hc, hi]
 show (if sizeOk vs.length then
      match vs.mapM (fun v => turnOf (ev Γ n .v (relab sc scope.names) ((x, .v v) :: lcRho sc scope ρ)) ifs elt) with
      | some ws => some (PV.lst ws.flatten)
      | none => none
     else none) = _
 rw [if_pos hs, hm]
theorem ev_subC {o : Expr} {i : Int} {k : Nat} {p q : Pos} {a v : PV} (ho : ev Γ (n + 1) .l sc ρ o = some a) (h : idx a (.int i) = some v) : ev Γ (n + 2) .v sc ρ (.Subscript o (.Constant (.int i) k p) q) = some v := by
 show ((ev Γ (n + 1) .l sc ρ o).bind fun a => (some (PV.int i)).bind fun k => idx a k) = _
 rw [ho]; exact h
theorem run1_asg {rec : Rho → List Stmt → Option (Fl × Rho)} {x : Str} {p q : Pos} {e : Expr} {v : PV} (h : ev Γ 40 .v sc ρ e = some v) (hx : storable sc x = true) (ho : own.lookup x = none) (hp : popPair e = none) : run1 Γ own sc rec ρ (.Assign [.Name x p] e q) = some (.next, ρ.put x (.v v)) := by
 show (match popPair e with
  | some (p, a) => asgPop own sc (ev Γ 40 · sc ρ ·) ρ x p a
  | none => asgName own sc (ev Γ 40 · sc ρ ·) ρ x e) = _
 rw [hp]
 unfold asgName
 dsimp only
 rw [if_pos hx, ho, h]
theorem callF_ret {fd : FuncData} {args : List PV} {v : PV} {m : Nat} (hb : fd.body = .stmts (bodyOf fd)) (hl : ((fd.params.args.map (·.arg)).length != args.length) = false) (h : run Γ own fd.scope.names m (putAll ((fd.params.args.map (·.arg)).zip args) (rho0 fd.scope.names)) (bodyOf fd) = some (.ret v, ρ')) : callF Γ own m fd args = some v := by
 unfold callF
 dsimp only
 rw [if_neg (by rw [hl]; decide), hb]
 dsimp only
 rw [h]
theorem seq_ret {one : Rho → Stmt → Option (Fl × Rho)} {st : Stmt} {r : List Stmt} {v : PV} (h : one ρ st = some (.ret v, ρ')) : seqGo one ρ (st :: r) = some (.ret v, ρ') := by
 show (one ρ st).bind _ = _
 rw [h]; rfl
theorem seq_next {one : Rho → Stmt → Option (Fl × Rho)} {st : Stmt} {r : List Stmt} (h : one ρ st = some (.next, ρ')) : seqGo one ρ (st :: r) = seqGo one ρ' r := by
 show (one ρ st).bind _ = _
 rw [h]; rfl
theorem mapM2 {α β : Type} {f : α → Option β} {a : α} {l : List α} {b : β} {r : List β} (h : f a = some b) (h' : l.mapM f = some r) : (a :: l).mapM f = some (b :: r) := by
 rw [List.mapM_cons, h, h']; rfl
theorem turn_c {f : Expr → Option PV} {c elt : Expr} {t : Bool} {v : PV} (h : f c = some (.bool t)) (h' : f elt = some v) : turnOf f [c] elt = some (cond t [v] []) := by
 show (match f c with
  | some (.bool true) => (f elt).map ([·])
  | some (.bool false) => some []
  | _ => none) = _
 rw [h]
 cases t
 ·rfl
 ·show (f elt).map ([·]) = _
  rw [h']; rfl
end
section
variable {Γ : G} {M : Nat → PV} {page : PV} {back : Bool} {line pair lead left number right last level : Slot} {vs r : List PV}
theorem fold_pop {a b : PV} {st : List PV} (hs : sizeOk vs.length = true) (hr : vs.reverse = a :: b :: st) :
  run1 Γ ownF scF (run Γ ownF scF 9) (rF page (marksOf M) back vs line pair lead left number right last level) (nthS (whileBody fWh) 0) = some (.next, rF page (marksOf M) back st.reverse line (.v (.lst [b, a])) lead left number right last level) := run1_of (by
 conv => whnf
 refine wopt.mk (pop_lem hs hr) ?_
 exact ⟨rfl, rfl⟩)
theorem fold_tup {a b c d e f : PV}  :
  run1 Γ ownF scF (run Γ ownF scF 9) (rF page (marksOf M) false vs line (.v (.lst [.tup [a, b, c], .tup [d, e, f]])) lead left number right last level) (nthS (whileBody fWh) 1) = some (.next, rF page (marksOf M) false vs line (.v (.lst [.tup [a, b, c], .tup [d, e, f]])) (.v d) (.v b) (.v c) (.v e) (.v f) level) := by kernel_rfl
theorem fold_tupB {a b c d e f : PV}  :
  run1 Γ ownF scF (run Γ ownF scF 9) (rF page (marksOf M) true vs line (.v (.lst [.tup [a, b, c], .tup [d, e, f]])) lead left number right last level) (nthS (whileBody fWh) 1) = some (.next, rF page (marksOf M) true vs line (.v (.lst [.tup [a, b, c], .tup [d, e, f]])) (.v a) (.v e) (.v f) (.v b) (.v c) level) := by kernel_rfl
def lvE : Expr := match nthS (whileBody fWh) 2 with | .Assign _ e _ => e | _ => default
def subO (e : Expr) : Expr := match e with | .Subscript o _ _ => o | _ => default
def lcIf (e : Expr) : Expr := match e with | .ListComp _ [⟨_, _, [c], _⟩] _ _ => c | _ => default
def lcElt (e : Expr) : Expr := match e with | .ListComp e _ _ _ => e | _ => default
def lcScope (e : Expr) : Scope := match e with | .ListComp _ _ s _ => s | _ => default
theorem fold_lvIf (hg : FoldG Γ M) {i : Nat} (hi : i ≤ 5) (k : Nat) (hk : k ≤ 5) :
  ev Γ 38 .v (relab scF (lcScope (subO lvE)).names) ((Str.ofString "k", .v (.int k)) :: lcRho scF (lcScope (subO lvE)) (rF page (marksOf M) back vs line pair (.v (M i)) left number right last level)) (lcIf (subO lvE)) = some (.bool (k == i)) := by
 have h := hg.eq k i (by omega) (by omega) (by omega)
 refine ev_of ?_
 match k, hk with
 | 0, _ =>
  conv => whnf
  exact wopt.mk h rfl
 | 1, _ =>
  conv => whnf
  exact wopt.mk h rfl
 | 2, _ =>
  conv => whnf
  exact wopt.mk h rfl
 | 3, _ =>
  conv => whnf
  exact wopt.mk h rfl
 | 4, _ =>
  conv => whnf
  exact wopt.mk h rfl
 | 5, _ =>
  conv => whnf
  exact wopt.mk h rfl
theorem fold_lvElt (k : Nat) :
  ev Γ 38 .v (relab scF (lcScope (subO lvE)).names) ((Str.ofString "k", .v (.int k)) :: lcRho scF (lcScope (subO lvE)) (rF page (marksOf M) back vs line pair lead left number right last level)) (lcElt (subO lvE)) = some (.int k) := by kernel_rfl
theorem fold_level (hg : FoldG Γ M) {i : Nat} (hi : i ≤ 5) :
  run1 Γ ownF scF (run Γ ownF scF 9) (rF page (marksOf M) back vs line pair (.v (M i)) left number right last level) (nthS (whileBody fWh) 2) = some (.next, rF page (marksOf M) back vs line pair (.v (M i)) left number right last (.v (.int i))) := by
 have tk : ∀ k, k ≤ 5 → _ := fun k hk => turn_c (fold_lvIf (page := page) (back := back) (vs := vs) (line := line) (pair := pair) (left := left) (number := number) (right := right) (last := last) (level := level) hg hi k hk) (fold_lvElt (M := M) k)
 refine run1_asg (ev_subC (ev_lc (vs := [.int 0, .int 1, .int 2, .int 3, .int 4, .int 5]) (by kernel_rfl) (by kernel_rfl) (by rfl) (mapM2 (tk 0 (by decide)) (mapM2 (tk 1 (by decide)) (mapM2 (tk 2 (by decide)) (mapM2 (tk 3 (by decide)) (mapM2 (tk 4 (by decide)) (mapM2 (tk 5 (by decide)) rfl))))))) ?_) (by kernel_rfl) (by kernel_rfl) (by kernel_rfl)
 match i, hi with
 | 0, _ => rfl
 | 1, _ => rfl
 | 2, _ => rfl
 | 3, _ => rfl
 | 4, _ => rfl
 | 5, _ => rfl

theorem seqIndex_some {i : Int} {n j : Nat} (h : seqIndex? i n = some j) : j < n := by
 unfold seqIndex? at h
 simp only at h
 by_cases hi : i < 0
 ·rw [if_pos hi] at h
  by_cases hc : (decide (0 ≤ i + ↑n) && decide (i + ↑n < ↑n)) = true
  ·rw [if_pos hc] at h
   cases h
   simp at hc
   omega
  ·rw [if_neg hc] at h; cases h
 ·rw [if_neg hi] at h
  by_cases hc : (decide (0 ≤ i) && decide (i < ↑n)) = true
  ·rw [if_pos hc] at h
   cases h
   simp at hc
   omega
  ·rw [if_neg hc] at h; cases h
theorem sgL_len : sgL.length = 41 := rfl
theorem sg_at : ∀ j, j < 41 → (sgL.map PV.str)[j]? = some (.str (sgL.getD j ⟨#[]⟩)) := fun j hj => by
 rw [List.getElem?_map, List.getD]
 rw [show sgL[j]? = some (sgL[j]'(by rw [sgL_len]; exact hj)) from List.getElem?_eq_getElem _]
 rfl
def numOk (k : Int) : Prop := k = 0 ∨ (14 ≤ k ∧ k ≤ 54)
theorem idx_sign {k : Int} (h : numOk k) : idx (.lst (sgL.map .str)) (.int (k - 14)) = some (.str (sgI (k - 14))) := by
 have ok : intOk (k - 14) = true := intOk_of (by unfold numOk at h; omega) (by unfold numOk at h; omega)
 show (if intOk (k - 14) then (seqIndex? (k - 14) (sgL.map PV.str).length).bind ((sgL.map PV.str)[·]?) else none) = _
 rw [if_pos ok, List.length_map, sgL_len]
 have ⟨j, hj⟩ : ∃ j, seqIndex? (k - 14) 41 = some j := by
  unfold seqIndex?
  simp only
  rw [if_pos]
  ·exact ⟨_, rfl⟩
  ·unfold numOk at h
   split <;> simp <;> omega
 unfold sgI
 rw [hj]
 exact sg_at j (seqIndex_some hj)
theorem sgL_short : ∀ j, (sgL.getD j ⟨#[]⟩).length ≤ 3 := fun j => by
 by_cases h : j < 41
 ·have : ∀ j : Fin 41, (sgL.getD j.val ⟨#[]⟩).length ≤ 3 := by decide
  exact this ⟨j, h⟩
 ·rw [List.getD, List.getElem?_eq_none (by rw [sgL_len]; omega)]
  decide
theorem sgI_short (k : Int) : (sgI k).length ≤ 3 := by
 unfold sgI
 split
 ·exact sgL_short _
 ·decide
theorem len_append (a b : Str) : (a ++ b).length = a.length + b.length := by rw [len_chs, chs_append, List.length_append, ← len_chs, ← len_chs]
theorem brac_len {l g r : Str} : (brac l g r).length = l.length + g.length + r.length + 2 := by
 unfold brac
 rw [len_append, len_append, len_append, len_append]
 show 1 + _ + _ + _ + 1 = _
 omega
theorem fold_app (hg : FoldG Γ M) {i : Nat} (hi : i ≤ 5) (h0 : i ≠ 0) {l r : Str} {num : Int} {last : PV} (hn : numOk num) (hl : l.length ≤ 1000) (hr : r.length ≤ 1000) (hs : sizeOk vs.length = true) :
  run1 Γ ownF scF (run Γ ownF scF 9) (rF page (marksOf M) back vs line pair lead (.v (.str l)) (.v (.int num)) (.v (.str r)) (.v last) (.v (.int i))) (nthS (whileBody fWh) 3) = some (.next, rF page (marksOf M) back (vs ++ [.tup [M (i - 1), .str (brac l (sgI (num - 14)) r), last]]) line pair lead (.v (.str l)) (.v (.int num)) (.v (.str r)) (.v last) (.v (.int i))) := by
 have hsh := sgI_short (num - 14)
 have e0 : (Str.ofString "(").length = 1 := rfl
 have e1 : (Str.ofString ")").length = 1 := rfl
 refine run1_of ?_
 match i, hi, h0 with
 | 1, _, _ =>
  conv => whnf
  refine wopt.mk (add_str (by omega)) ?_
  conv => whnf
  refine wopt.mk hg.signs ?_
  conv => whnf
  refine wopt.mk (idx_sign hn) ?_
  conv => whnf
  refine wopt.mk (add_str (by simp only [len_append]; omega)) ?_
  conv => whnf
  refine wopt.mk (add_str (by simp only [len_append]; omega)) ?_
  conv => whnf
  refine wopt.mk (add_str (by simp only [len_append]; omega)) ?_
  conv => whnf
  refine Br.t hs ?_
  exact ⟨rfl, rfl⟩
 | 2, _, _ =>
  conv => whnf
  refine wopt.mk (add_str (by omega)) ?_
  conv => whnf
  refine wopt.mk hg.signs ?_
  conv => whnf
  refine wopt.mk (idx_sign hn) ?_
  conv => whnf
  refine wopt.mk (add_str (by simp only [len_append]; omega)) ?_
  conv => whnf
  refine wopt.mk (add_str (by simp only [len_append]; omega)) ?_
  conv => whnf
  refine wopt.mk (add_str (by simp only [len_append]; omega)) ?_
  conv => whnf
  refine Br.t hs ?_
  exact ⟨rfl, rfl⟩
 | 3, _, _ =>
  conv => whnf
  refine wopt.mk (add_str (by omega)) ?_
  conv => whnf
  refine wopt.mk hg.signs ?_
  conv => whnf
  refine wopt.mk (idx_sign hn) ?_
  conv => whnf
  refine wopt.mk (add_str (by simp only [len_append]; omega)) ?_
  conv => whnf
  refine wopt.mk (add_str (by simp only [len_append]; omega)) ?_
  conv => whnf
  refine wopt.mk (add_str (by simp only [len_append]; omega)) ?_
  conv => whnf
  refine Br.t hs ?_
  exact ⟨rfl, rfl⟩
 | 4, _, _ =>
  conv => whnf
  refine wopt.mk (add_str (by omega)) ?_
  conv => whnf
  refine wopt.mk hg.signs ?_
  conv => whnf
  refine wopt.mk (idx_sign hn) ?_
  conv => whnf
  refine wopt.mk (add_str (by simp only [len_append]; omega)) ?_
  conv => whnf
  refine wopt.mk (add_str (by simp only [len_append]; omega)) ?_
  conv => whnf
  refine wopt.mk (add_str (by simp only [len_append]; omega)) ?_
  conv => whnf
  refine Br.t hs ?_
  exact ⟨rfl, rfl⟩
 | 5, _, _ =>
  conv => whnf
  refine wopt.mk (add_str (by omega)) ?_
  conv => whnf
  refine wopt.mk hg.signs ?_
  conv => whnf
  refine wopt.mk (idx_sign hn) ?_
  conv => whnf
  refine wopt.mk (add_str (by simp only [len_append]; omega)) ?_
  conv => whnf
  refine wopt.mk (add_str (by simp only [len_append]; omega)) ?_
  conv => whnf
  refine wopt.mk (add_str (by simp only [len_append]; omega)) ?_
  conv => whnf
  refine Br.t hs ?_
  exact ⟨rfl, rfl⟩

theorem fold_body (hg : FoldG Γ M) {a b : Row} {st : List Row} (ha : a.id ≤ 5) (ha0 : a.id ≠ 0) (hb : b.id = a.id) (hl : st.length ≤ 1000) (hna : numOk a.num) (hnb : numOk b.num)
  (hla : a.nm.length ≤ 1000) (hlb : b.nm.length ≤ 1000) :
  ∃ pair' lead' left' number' right' last' level', run Γ ownF scF 10 (rF page (marksOf M) back ((a :: b :: st).map (Row.v M)).reverse line pair lead left number right last level) (whileBody fWh) = some (.next, rF page (marksOf M) back ((mrg back a b :: st).map (Row.v M)).reverse line pair' lead' left' number' right' last' level') := by
 have hs : sizeOk ((a :: b :: st).map (Row.v M)).reverse.length = true := sizeOk_of (by simp; omega)
 have hs' : sizeOk ((st.map (Row.v M)).reverse).length = true := sizeOk_of (by simp; omega)
 have hr : ((a :: b :: st).map (Row.v M)).reverse.reverse = a.v M :: b.v M :: st.map (Row.v M) := by simp
 have e : ((mrg back a b :: st).map (Row.v M)).reverse = (st.map (Row.v M)).reverse ++ [(mrg back a b).v M] := by simp
 have hB : whileBody fWh = [nthS (whileBody fWh) 0, nthS (whileBody fWh) 1, nthS (whileBody fWh) 2, nthS (whileBody fWh) 3] := by kernel_rfl
 rw [e, hB]
 cases back with
 | false =>
  refine ⟨.v (.lst [b.v M, a.v M]), .v (M a.id), .v (.str b.nm), .v (.int b.num), .v (.str a.nm), .v (.int a.num), .v (.int a.id), ?_⟩
  show seqGo (run1 Γ ownF scF (run Γ ownF scF 9)) _ _ = _
  rw [seq_next (fold_pop hs hr), seq_next (by exact fold_tup), seq_next (fold_level hg ha), seq_next (fold_app hg ha ha0 hnb hlb hla hs')]
  rfl
 | true =>
  refine ⟨.v (.lst [.tup [M a.id, .str b.nm, .int b.num], a.v M]), .v (M a.id), .v (.str a.nm), .v (.int a.num), .v (.str b.nm), .v (.int b.num), .v (.int a.id), ?_⟩
  show seqGo (run1 Γ ownF scF (run Γ ownF scF 9)) _ _ = _
  rw [seq_next (fold_pop hs hr), seq_next (by exact fold_tupB), hb, seq_next (fold_level hg ha), seq_next (fold_app hg ha ha0 hna hla hlb hs')]
  rfl

/-- what the fold computes -/
def red (back : Bool) : Nat → List Row → List Row
 | f + 1, a :: b :: r => if a.id == b.id && !(a.id == 0) then red back f (mrg back a b :: r) else a :: b :: r
 | _, l => l
def push (back : Bool) (st : List Row) (r : Row) : List Row := red back (st.length + 1) (r :: st)
def feed (back : Bool) (st : List Row) (rows : List Row) : List Row := rows.foldl (push back) st
def foldOut : List Row → Str
 | [r] => if r.id = 0 then r.nm else ⟨#[]⟩
 | _ => ⟨#[]⟩
def wtL : List Row → Nat
 | [] => 0
 | r :: l => r.nm.length + 5 + wtL l
def c6 : List Row → Nat
 | [] => 0
 | r :: l => (if r.id = 6 then 1 else 0) + c6 l
structure Inv (st rest : List Row) : Prop where
 a : ∀ r ∈ st, r.id ≤ 6 ∧ numOk r.num
 b : ∀ r ∈ rest, r.id ≤ 6 ∧ numOk r.num
 w : wtL st + wtL rest ≤ 1000
 c : c6 st + c6 rest ≤ 1
theorem wtL_len : ∀ l : List Row, l.length ≤ wtL l
 | [] => Nat.le_refl _
 | r :: l => by have := wtL_len l; simp only [List.length_cons, wtL]; omega
theorem mrg_len {a b : Row} : (mrg back a b).nm.length ≤ a.nm.length + b.nm.length + 5 := by
 have h1 := sgI_short (a.num - 14)
 have h2 := sgI_short (b.num - 14)
 cases back <;> show (brac _ _ _).length ≤ _ <;> rw [brac_len] <;> omega
theorem Inv.push {st rest : List Row} {r : Row} (h : Inv st (r :: rest)) : Inv (r :: st) rest where
 a := fun x hx => by
  rcases List.mem_cons.mp hx with rfl | hx
  ·exact h.b _ List.mem_cons_self
  ·exact h.a x hx
 b := fun x hx => h.b x (List.mem_cons_of_mem _ hx)
 w := by have := h.w; simp only [wtL] at this ⊢; omega
 c := by have := h.c; simp only [c6] at this ⊢; omega
theorem mrg_id {a b : Row} : (mrg back a b).id = a.id - 1 := by cases back <;> rfl
theorem mrg_num {a b : Row} : (mrg back a b).num = a.num ∨ (mrg back a b).num = b.num := by cases back; exact .inl rfl; exact .inr rfl
theorem Inv.mrg {st rest : List Row} {a b : Row} (h : Inv (a :: b :: st) rest) (hab : a.id = b.id) (h0 : a.id ≠ 0) : a.id ≤ 5 ∧ Inv (mrg back a b :: st) rest := by
 have ha := h.a a List.mem_cons_self
 have hb := h.a b (List.mem_cons_of_mem _ List.mem_cons_self)
 have hc := h.c
 simp only [c6] at hc
 have h6 : a.id ≠ 6 := fun e => by rw [if_pos e, if_pos (hab ▸ e)] at hc; omega
 have hle : a.id ≤ 5 := by omega
 refine ⟨hle, fun x hx => ?_, h.b, ?_, ?_⟩
 ·rcases List.mem_cons.mp hx with rfl | hx
  ·refine ⟨by rw [mrg_id]; omega, ?_⟩
   rcases mrg_num (back := back) (a := a) (b := b) with e | e <;> rw [e]
   ·exact ha.2
   ·exact hb.2
  ·exact h.a x (List.mem_cons_of_mem _ (List.mem_cons_of_mem _ hx))
 ·have := h.w
  have hm := mrg_len (back := back) (a := a) (b := b)
  simp only [wtL] at this ⊢
  omega
 ·simp only [c6]
  rw [if_neg (show (SL.mrg back a b).id ≠ 6 by rw [mrg_id]; omega)]
  omega
theorem red_inv : ∀ (f : Nat) {st rest : List Row}, Inv st rest → Inv (red back f st) rest
 | 0, _, _, h => by unfold red; exact h
 | f + 1, [], _, h => by unfold red; exact h
 | f + 1, [a], _, h => by unfold red; exact h
 | f + 1, a :: b :: st, rest, h => by
  unfold red
  by_cases hc : (a.id == b.id && !(a.id == 0)) = true
  ·rw [if_pos hc]
   simp at hc
   exact red_inv f (h.mrg hc.1 hc.2).2
  ·rw [if_neg hc]; exact h
def wTest (Γ : G) (ρ : Rho) : Option PV := ev Γ 40 .v scF ρ (whileTest fWh)
def wBody (Γ : G) (ρ : Rho) : Option (Fl × Rho) := run Γ ownF scF 10 ρ (whileBody fWh)
theorem fold_while (hg : FoldG Γ M) : ∀ (f n : Nat) {st rest : List Row} {line pair lead left number right last level : Slot}, Inv st rest → st.length ≤ f → f < n →
  ∃ pair' lead' left' number' right' last' level', whileGo (wTest Γ) (wBody Γ) n (rF page (marksOf M) back (st.map (Row.v M)).reverse line pair lead left number right last level) = some (.next, rF page (marksOf M) back ((red back f st).map (Row.v M)).reverse line pair' lead' left' number' right' last' level')
 | f, 0, _, _, _, _, _, _, _, _, _, _, _, _, h => by omega
 | f, n + 1, [], rest, line, pair, lead, left, number, right, last, level, hi, hf, hn => by
  refine ⟨pair, lead, left, number, right, last, level, ?_⟩
  have ht : wTest Γ (rF page (marksOf M) back (([] : List Row).map (Row.v M)).reverse line pair lead left number right last level) = _ := fold_test1 (by simp)
  unfold whileGo
  rw [ht]
  cases f <;> rfl
 | f, n + 1, [a], rest, line, pair, lead, left, number, right, last, level, hi, hf, hn => by
  refine ⟨pair, lead, left, number, right, last, level, ?_⟩
  have ht : wTest Γ (rF page (marksOf M) back (([a] : List Row).map (Row.v M)).reverse line pair lead left number right last level) = _ := fold_test1 (by simp)
  unfold whileGo
  rw [ht]
  cases f <;> rfl
 | 0, n + 1, a :: b :: st, _, _, _, _, _, _, _, _, _, hi, hf, hn => by simp at hf
 | f + 1, n + 1, a :: b :: st, rest, line, pair, lead, left, number, right, last, level, hi, hf, hn => by
  have hw := hi.w
  have hl := wtL_len st
  have ha := hi.a a List.mem_cons_self
  have hb := hi.a b (List.mem_cons_of_mem _ List.mem_cons_self)
  have hc6 := hi.c
  simp only [wtL, c6] at hw hc6
  have h6 : a.id ≠ 6 ∨ b.id ≠ 6 := by
   by_cases e : a.id = 6
   ·right; intro e'; rw [if_pos e, if_pos e'] at hc6; omega
   ·exact .inl e
  have ht : wTest Γ (rF page (marksOf M) back ((a :: b :: st).map (Row.v M)).reverse line pair lead left number right last level) = _ := fold_test hg rfl ha.1 hb.1 h6 (by omega)
  unfold whileGo
  rw [ht]
  unfold red
  by_cases hc : (a.id == b.id && !(a.id == 0)) = true
  ·rw [hc, if_pos rfl]
   simp at hc
   obtain ⟨h5, hi'⟩ := hi.mrg (back := back) hc.1 hc.2
   obtain ⟨p1, p2, p3, p4, p5, p6, p7, e⟩ := fold_body (Γ := Γ) (page := page) (back := back) (line := line) (pair := pair) (lead := lead) (left := left) (number := number) (right := right) (last := last) (level := level) hg h5 hc.2 hc.1.symm (st := st) (by omega) ha.2 hb.2 (by omega) (by omega)
   have e : wBody Γ _ = _ := e
   obtain ⟨q1, q2, q3, q4, q5, q6, q7, e'⟩ := fold_while hg f n (line := line) (pair := p1) (lead := p2) (left := p3) (number := p4) (right := p5) (last := p6) (level := p7) hi' (by simp at hf ⊢; omega) (by omega)
   refine ⟨q1, q2, q3, q4, q5, q6, q7, ?_⟩
   show ((wBody Γ _).bind _) = _
   rw [e]
   exact e'
  ·rw [if_neg hc]
   have hc : (a.id == b.id && !(a.id == 0)) = false := by simpa using hc
   rw [hc]
   exact ⟨_, _, _, _, _, _, _, rfl⟩

theorem fold_bind {v : PV} : bindT scF ownF (forTarget fFor) v (rF page (marksOf M) back vs line pair lead left number right last level) = some (rF page (marksOf M) back vs (.v v) pair lead left number right last level) := by kernel_rfl
theorem fold_push {v : PV} (hs : sizeOk vs.length = true) : run1 Γ ownF scF (run Γ ownF scF 10) (rF page (marksOf M) back vs (.v v) pair lead left number right last level) (nthS (forBody fFor) 0) = some (.next, rF page (marksOf M) back (vs ++ [v]) (.v v) pair lead left number right last level) := run1_of (by
 conv => whnf
 refine Br.t hs ?_
 exact ⟨rfl, rfl⟩)
theorem fold_turn (hg : FoldG Γ M) {st rest : List Row} {r : Row} (hi : Inv st (r :: rest)) :
  ∃ pair' lead' left' number' right' last' level', run Γ ownF scF 11 (rF page (marksOf M) back (st.map (Row.v M)).reverse (.v (r.v M)) pair lead left number right last level) (forBody fFor) = some (.next, rF page (marksOf M) back ((push back st r).map (Row.v M)).reverse (.v (r.v M)) pair' lead' left' number' right' last' level') := by
 have hw := hi.w
 have hl := wtL_len st
 have hs : sizeOk ((st.map (Row.v M)).reverse).length = true := sizeOk_of (by simp; omega)
 have hB : forBody fFor = [nthS (forBody fFor) 0, fWh] := by kernel_rfl
 obtain ⟨q1, q2, q3, q4, q5, q6, q7, e⟩ := fold_while (Γ := Γ) (page := page) (back := back) hg (st.length + 1) 100000 (st := r :: st) (rest := rest) (line := .v (r.v M)) (pair := pair) (lead := lead) (left := left) (number := number) (right := right) (last := last) (level := level) hi.push (by simp) (by omega)
 refine ⟨q1, q2, q3, q4, q5, q6, q7, ?_⟩
 rw [hB]
 show seqGo (run1 Γ ownF scF (run Γ ownF scF 10)) _ _ = _
 rw [seq_next (fold_push hs)]
 have e2 : (st.map (Row.v M)).reverse ++ [r.v M] = ((r :: st).map (Row.v M)).reverse := by simp
 rw [e2]
 have e3 : run1 Γ ownF scF (run Γ ownF scF 10) (rF page (marksOf M) back ((r :: st).map (Row.v M)).reverse (.v (r.v M)) pair lead left number right last level) fWh = _ := e
 rw [seq_next e3]
 rfl
theorem fold_for (hg : FoldG Γ M) : ∀ (rest st : List Row) {line pair lead left number right last level : Slot}, Inv st rest →
  ∃ line' pair' lead' left' number' right' last' level', forGo (run Γ ownF scF 11 · (forBody fFor)) (bindT scF ownF (forTarget fFor)) (rest.map (Row.v M)) (rF page (marksOf M) back (st.map (Row.v M)).reverse line pair lead left number right last level) = some (.next, rF page (marksOf M) back ((feed back st rest).map (Row.v M)).reverse line' pair' lead' left' number' right' last' level') ∧ Inv (feed back st rest) []
 | [], st, line, pair, lead, left, number, right, last, level, hi => ⟨line, pair, lead, left, number, right, last, level, rfl, hi⟩
 | r :: rest, st, line, pair, lead, left, number, right, last, level, hi => by
  obtain ⟨p1, p2, p3, p4, p5, p6, p7, e⟩ := fold_turn (Γ := Γ) (page := page) (back := back) (pair := pair) (lead := lead) (left := left) (number := number) (right := right) (last := last) (level := level) hg hi
  obtain ⟨q0, q1, q2, q3, q4, q5, q6, q7, e', hi'⟩ := fold_for hg rest (push back st r) (line := .v (r.v M)) (pair := p1) (lead := p2) (left := p3) (number := p4) (right := p5) (last := p6) (level := p7) (red_inv _ hi.push)
  refine ⟨q0, q1, q2, q3, q4, q5, q6, q7, ?_, hi'⟩
  rw [List.map_cons]
  unfold forGo
  rw [fold_bind]
  simp only [Option.bind_eq_bind, Option.bind_some]
  rw [e]
  exact e'
def retE (s : Stmt) : Expr := match s with | .Return (some e) _ => e | _ => default
theorem fold_ret (hg : FoldG Γ M) {st : List Row} (hi : Inv st []) : ev Γ 40 .v scF (rF page (marksOf M) back (st.map (Row.v M)).reverse line pair lead left number right last level) (retE (bodyI fdFold 2)) = some (.str (foldOut st)) := by
 have hw := hi.w
 have hl := wtL_len st
 match st, hi with
 | [], _ => kernel_rfl
 | [r], hi =>
  have h := hg.eq r.id 0 (hi.a r List.mem_cons_self).1 (by omega) (.inr (by omega))
  refine ev_of ?_
  conv => whnf
  refine wopt.mk h ?_
  conv => whnf
  refine Br.mk (fun h => ?_) (fun h => ?_)
  ·have h : (r.id == 0) = true := h
   simp at h
   rw [show foldOut [r] = r.nm from if_pos h]
   conv => whnf
  ·have h : (r.id == 0) = false := h
   simp at h
   rw [show foldOut [r] = ⟨#[]⟩ from if_neg h]
   conv => whnf
   rfl
 | a :: b :: st', _ =>
  have hv : ((a :: b :: st').map (Row.v M)).reverse.length = st'.length + 2 := by simp
  generalize ((a :: b :: st').map (Row.v M)).reverse = vs at hv
  simp only [List.length_cons] at hl
  refine ev_of ?_
  conv => whnf
  refine wopt.mk (len_lst (by omega)) ?_
  conv => whnf
  refine Br.f (show ((vs.length : Int) == 1) = false by simp; omega) ?_
  conv => whnf
  rfl
theorem fold_call (hg : FoldG Γ M) {rows : List Row} (hi : Inv [] rows) : callF Γ ownF 12 fdFold [.lst (rows.map (Row.v M)), marksOf M, .bool back] = some (.str (foldOut (feed back [] rows))) := by
 have hw := hi.w
 have hl := wtL_len rows
 obtain ⟨p0, p1, p2, p3, p4, p5, p6, p7, e, hi'⟩ := fold_for (Γ := Γ) (page := .lst (rows.map (Row.v M))) (back := back) hg rows [] (line := .u) (pair := .u) (lead := .u) (left := .u) (number := .u) (right := .u) (last := .u) (level := .u) hi
 have hB : bodyOf fdFold = [bodyI fdFold 0, fFor, bodyI fdFold 2] := by kernel_rfl
 have r0 : run1 Γ ownF scF (run Γ ownF scF 11) (putAll ((fdFold.params.args.map (·.arg)).zip [.lst (rows.map (Row.v M)), marksOf M, .bool back]) (rho0 scF)) (bodyI fdFold 0) = some (.next, rF (.lst (rows.map (Row.v M))) (marksOf M) back [] .u .u .u .u .u .u .u .u) := by kernel_rfl
 have r1 : run1 Γ ownF scF (run Γ ownF scF 11) (rF (.lst (rows.map (Row.v M))) (marksOf M) back [] .u .u .u .u .u .u .u .u) fFor = some (.next, rF (.lst (rows.map (Row.v M))) (marksOf M) back ((feed back [] rows).map (Row.v M)).reverse p0 p1 p2 p3 p4 p5 p6 p7) := by
  show (match itemsOf (.lst (rows.map (Row.v M))) with
    | some vs => forGo (run Γ ownF scF 11 · (forBody fFor)) (bindT scF ownF (forTarget fFor)) vs _
    | none => none) = _
  rw [show itemsOf (.lst (rows.map (Row.v M))) = some (rows.map (Row.v M)) from if_pos (sizeOk_of (by simp; omega))]
  exact e
 have r2 : run1 Γ ownF scF (run Γ ownF scF 11) (rF (.lst (rows.map (Row.v M))) (marksOf M) back ((feed back [] rows).map (Row.v M)).reverse p0 p1 p2 p3 p4 p5 p6 p7) (bodyI fdFold 2) = some (.ret (.str (foldOut (feed back [] rows))), rF (.lst (rows.map (Row.v M))) (marksOf M) back ((feed back [] rows).map (Row.v M)).reverse p0 p1 p2 p3 p4 p5 p6 p7) := by
  show (ev Γ 40 .v scF _ (retE (bodyI fdFold 2))).map (fun v => (Fl.ret v, _)) = _
  rw [fold_ret hg hi']
  rfl
 refine callF_ret ok_fold.body (by rfl) (ρ' := rF (.lst (rows.map (Row.v M))) (marksOf M) back ((feed back [] rows).map (Row.v M)).reverse p0 p1 p2 p3 p4 p5 p6 p7) ?_
 rw [hB]
 show seqGo (run1 Γ ownF scF (run Γ ownF scF 11)) _ _ = _
 rw [seq_next r0, seq_next r1]
 exact seq_ret r2
end

/-! ## the drawn expression: a tree -/
inductive U where
 | p (c : Nat)
 | e (c : Nat)
inductive Ck where
 | u (x : U)
 | q (us : List U)
def U.src : U → List Nat
 | .p c => [c]
 | .e c => [92, c]
def Ck.src : Ck → List Nat
 | .u x => x.src
 | .q us => 34 :: us.flatMap U.src ++ [34]
def srcs (l : List Ck) : List Nat := l.flatMap Ck.src
inductive Tre where
 | leaf (nm : List Nat) (tx : List Ck)
 | node (l : Tre) (s u : Nat) (r : Tre)
def sgC (s : Nat) : List Nat := chs (sgL.getD s ⟨#[]⟩)
def Tre.due : Tre → Str
 | .leaf nm _ => mk nm
 | .node l s _ r => brac l.due (sgL.getD s ⟨#[]⟩) r.due
def Tre.leaves : Tre → Nat
 | .leaf _ _ => 1
 | .node l _ _ r => l.leaves + r.leaves
def Tre.depth : Tre → Nat
 | .leaf _ _ => 0
 | .node l _ _ r => max l.depth r.depth + 1
def Tre.sOk : Tre → Prop
 | .leaf _ _ => True
 | .node l s _ r => l.sOk ∧ s < 41 ∧ r.sOk
def Tre.rows : Tre → Nat → Int → List Row
 | .leaf nm _, lev, last => [⟨lev, mk nm, last⟩]
 | .node l s _ r, lev, last => l.rows (lev + 1) (14 + s) ++ r.rows (lev + 1) last

theorem sgI_sign {s : Nat} (h : s < 41) : sgI (14 + (s : Int) - 14) = sgL.getD s ⟨#[]⟩ := by
 unfold sgI
 rw [show (14 + (s : Int) - 14) = (s : Int) by omega]
 unfold seqIndex?
 simp only
 rw [if_neg (show ¬ (s : Int) < 0 by omega), if_pos (by simp; omega)]
 rfl
/-- is the top less deep than this -/
def topLt (st : List Row) (lev : Nat) : Prop := ∀ r ∈ st.head?, r.id < lev
theorem push_lt {back : Bool} {st : List Row} {r : Row} (h : topLt st r.id) : push back st r = r :: st := by
 unfold push
 match st with
 | [] => rfl
 | b :: st =>
  have hb : b.id < r.id := h b (by simp)
  unfold red
  rw [if_neg]
  simp
  omega
theorem push_eq {back : Bool} {st : List Row} {b r : Row} (h : r.id = b.id) (h0 : r.id ≠ 0) : push back (b :: st) r = push back st (mrg back r b) := by
 unfold push
 rw [List.length_cons]
 conv => lhs; unfold red
 rw [if_pos (by simp [h]; omega)]
theorem feed_append {back : Bool} {st : List Row} {a b : List Row} : feed back st (a ++ b) = feed back (feed back st a) b := by unfold feed; rw [List.foldl_append]
theorem feed_tree : ∀ (t : Tre) (st : List Row) (lev : Nat) (last : Int), t.sOk → topLt st (lev + 1) → feed false st (t.rows lev last) = push false st ⟨lev, t.due, last⟩
 | .leaf nm tx, st, lev, last, _, _ => rfl
 | .node l s u r, st, lev, last, ⟨hl, hs, hr⟩, ht => by
  unfold Tre.rows
  rw [feed_append, feed_tree l st (lev + 1) _ hl (fun x hx => Nat.lt_succ_of_lt (ht x hx)), push_lt (by exact ht), feed_tree r _ (lev + 1) last hr (by intro x hx; simp at hx; subst hx; exact Nat.lt_succ_self _), push_eq (by rfl) (by simp)]
  unfold mrg
  simp only
  rw [sgI_sign hs]
  rfl
theorem feed_treeB : ∀ (t : Tre) (st : List Row) (lev : Nat) (last : Int), t.sOk → topLt st (lev + 1) → feed true st (t.rows lev last).reverse = push true st ⟨lev, t.due, last⟩
 | .leaf nm tx, st, lev, last, _, _ => rfl
 | .node l s u r, st, lev, last, ⟨hl, hs, hr⟩, ht => by
  unfold Tre.rows
  rw [List.reverse_append, feed_append, feed_treeB r st (lev + 1) _ hr (fun x hx => Nat.lt_succ_of_lt (ht x hx)), push_lt (by exact ht), feed_treeB l _ (lev + 1) _ hl (by intro x hx; simp at hx; subst hx; exact Nat.lt_succ_self _), push_eq (by rfl) (by simp)]
  unfold mrg
  simp only
  rw [sgI_sign hs]
  rfl
theorem fold_due {t : Tre} (h : t.sOk) : foldOut (feed false [] (t.rows 0 0)) = t.due := by
 rw [feed_tree t [] 0 0 h (fun _ h => by simp at h)]
 rfl
theorem fold_dueB {t : Tre} (h : t.sOk) : foldOut (feed true [] (t.rows 0 0).reverse) = t.due := by
 rw [feed_treeB t [] 0 0 h (fun _ h => by simp at h)]
 rfl

/-! ## what a fold keeps -/
def w2 : List Row → Nat
 | [] => 0
 | r :: l => 2 ^ (6 - r.id) + w2 l
theorem w2_append : ∀ a b : List Row, w2 (a ++ b) = w2 a + w2 b
 | [], b => by simp [w2]
 | r :: a, b => by simp only [List.cons_append, w2]; rw [w2_append a b]; omega
theorem w2_reverse : ∀ a : List Row, w2 a.reverse = w2 a
 | [] => rfl
 | r :: a => by rw [List.reverse_cons, w2_append, w2_reverse a]; simp only [w2]; omega
theorem red_w2 {back : Bool} : ∀ (f : Nat) (st : List Row), (∀ r ∈ st, r.id ≤ 6) → w2 (red back f st) = w2 st ∧ (∀ r ∈ red back f st, r.id ≤ 6)
 | 0, _, h => by unfold red; exact ⟨rfl, h⟩
 | f + 1, [], h => by unfold red; exact ⟨rfl, h⟩
 | f + 1, [a], h => by unfold red; exact ⟨rfl, h⟩
 | f + 1, a :: b :: st, h => by
  unfold red
  by_cases hc : (a.id == b.id && !(a.id == 0)) = true
  ·rw [if_pos hc]
   simp at hc
   have ha := h a (by simp)
   have := red_w2 (back := back) f (mrg back a b :: st) (fun r hr => by
    rcases List.mem_cons.mp hr with rfl | hr
    ·rw [mrg_id]; omega
    ·exact h r (by simp [hr]))
   refine ⟨?_, this.2⟩
   rw [this.1]
   simp only [w2]
   rw [mrg_id, ← hc.1, show 6 - (a.id - 1) = (6 - a.id) + 1 by omega, Nat.pow_succ]
   omega
  ·rw [if_neg hc]; exact ⟨rfl, h⟩
theorem feed_w2 {back : Bool} : ∀ (rows st : List Row), (∀ r ∈ st, r.id ≤ 6) → (∀ r ∈ rows, r.id ≤ 6) → w2 (feed back st rows) = w2 st + w2 rows
 | [], st, _, _ => rfl
 | r :: rows, st, h, h' => by
  show w2 (feed back (red back (st.length + 1) (r :: st)) rows) = _
  have := red_w2 (back := back) (st.length + 1) (r :: st) (fun x hx => by
   rcases List.mem_cons.mp hx with rfl | hx
   ·exact h' _ (by simp)
   ·exact h x hx)
  rw [feed_w2 rows _ this.2 (fun x hx => h' x (by simp [hx]))]
  rw [this.1]
  simp only [w2]; omega
/-- where the halves make no whole, nothing is left -/
theorem fold_w2 {back : Bool} {rows : List Row} (h : ∀ r ∈ rows, r.id ≤ 6) (hw : w2 rows ≠ 64) : foldOut (feed back [] rows) = ⟨#[]⟩ := by
 have := feed_w2 (back := back) rows [] (fun _ h => by simp at h) h
 unfold foldOut
 split
 ·rename_i r e
  by_cases h0 : r.id = 0
  ·rw [e] at this
   simp only [w2] at this
   rw [h0] at this
   omega
  ·rw [if_neg h0]
 ·rfl
theorem rows_w2 : ∀ (t : Tre) (lev : Nat) (last : Int), lev + t.depth ≤ 6 → w2 (t.rows lev last) = 2 ^ (6 - lev)
 | .leaf _ _, lev, last, h => rfl
 | .node l s u r, lev, last, h => by
  unfold Tre.depth at h
  unfold Tre.rows
  rw [w2_append, rows_w2 l _ _ (by omega), rows_w2 r _ _ (by omega), show 6 - lev = (6 - (lev + 1)) + 1 by omega, Nat.pow_succ]
  omega
/-- a line that is like no level stays on the pile -/
theorem red_c6 {back : Bool} : ∀ (f : Nat) {st rest : List Row}, Inv st rest → c6 (red back f st) = c6 st
 | 0, _, _, h => by unfold red; rfl
 | f + 1, [], _, h => by unfold red; rfl
 | f + 1, [a], _, h => by unfold red; rfl
 | f + 1, a :: b :: st, rest, h => by
  unfold red
  by_cases hc : (a.id == b.id && !(a.id == 0)) = true
  ·rw [if_pos hc]
   simp at hc
   obtain ⟨h5, h'⟩ := h.mrg (back := back) hc.1 hc.2
   rw [red_c6 f h']
   simp only [c6]
   rw [if_neg (show (mrg back a b).id ≠ 6 by rw [mrg_id]; omega), if_neg (show a.id ≠ 6 by omega), if_neg (show b.id ≠ 6 by omega)]
   omega
  ·rw [if_neg hc]
theorem feed_c6 {back : Bool} : ∀ (rows st : List Row), Inv st rows → c6 (feed back st rows) = c6 st + c6 rows
 | [], st, _ => rfl
 | r :: rows, st, h => by
  show c6 (feed back (red back (st.length + 1) (r :: st)) rows) = _
  rw [feed_c6 rows _ (red_inv _ h.push)]
  rw [red_c6 _ h.push]
  simp only [c6]; omega
theorem fold_c6 {back : Bool} {rows : List Row} (h : Inv [] rows) (hw : c6 rows = 1) : foldOut (feed back [] rows) = ⟨#[]⟩ := by
 have := feed_c6 (back := back) rows [] h
 unfold foldOut
 split
 ·rename_i r e
  by_cases h0 : r.id = 0
  ·rw [e] at this
   simp only [c6] at this
   rw [h0, if_neg (by decide)] at this
   omega
  ·rw [if_neg h0]
 ·rfl

/-! ## two marks compared -/
theorem datas_ints : ∀ c : List Int, PV.datas (c.map .int) = some (c.map .int)
 | [] => by rw [List.map_nil, PV.datas]; rfl
 | i :: c => by rw [List.map_cons, PV.datas, PV.data, datas_ints c]; rfl
theorem eqvAll_ints : ∀ a b : List Int, PyData.eqvAll (a.map .int) (b.map .int) = (a == b)
 | [], [] => by rw [List.map_nil, PyData.eqvAll]; rfl
 | [], b :: bs => by rw [List.map_nil, List.map_cons, PyData.eqvAll]; rfl
 | a :: as, [] => by rw [List.map_nil, List.map_cons, PyData.eqvAll]; rfl
 | a :: as, b :: bs => by
  rw [List.map_cons, List.map_cons, PyData.eqvAll, PyData.eqv, eqvAll_ints as bs]
  rfl
theorem canLay_ints : ∀ c : List Int, PyData.canLayAll0 (c.map .int) = true
 | [] => by rw [List.map_nil, PyData.canLayAll0]
 | i :: c => by rw [List.map_cons, PyData.canLayAll0, PyData.canLay0, canLay_ints c]; rfl
theorem depth_ints : ∀ c : List Int, PyData.depthAll (c.map .int) = 0
 | [] => by rw [List.map_nil, PyData.depthAll]
 | i :: c => by rw [List.map_cons, PyData.depthAll, PyData.depth, depth_ints c]; rfl
theorem norm_data (c : List Int) (b : Int) : (normV c b).data = some (.tuple [.tuple (c.map .int), .int b]) := by
 unfold normV
 rw [PV.data, PV.datas, PV.data, datas_ints, PV.datas, PV.data, PV.datas]
 rfl
theorem norm_shaped (c : List Int) (b : Int) : PySem.SeqAt.shaped (.tuple [.tuple (c.map .int), .int b]) = true := by
 unfold PySem.SeqAt.shaped
 rw [PyData.canLay0, PyData.canLayAll0, PyData.canLay0, canLay_ints, PyData.canLayAll0, PyData.canLay0, PyData.canLayAll0, PyData.depth, PyData.depthAll, PyData.depth, depth_ints, PyData.depthAll, PyData.depth, PyData.depthAll]
 rfl
theorem ws_eq (c c' : List Int) (b b' : Int) : wsEq (.ws c b) (.ws c' b') = some (.bool (c == c' && b == b')) := by
 show ((dataEq (normV c b) (normV c' b')).map PV.bool) = _
 unfold dataEq
 rw [norm_data, norm_data]
 dsimp only
 rw [norm_shaped, norm_shaped, PyData.eqv, PyData.eqvAll, PyData.eqv, eqvAll_ints, PyData.eqvAll, PyData.eqv, PyData.eqvAll]
 simp

/-! ## the reading of an indent -/
def bmp : List Int → Nat → List Int
 | [], 0 => [1]
 | [], b + 1 => 0 :: bmp [] b
 | c :: r, 0 => (c + 1) :: r
 | c :: r, b + 1 => c :: bmp r b
theorem bump_cons (c : Int) (r : List Int) (b : Nat) : bump (c :: r) (b + 1) = c :: bump r b := by
 unfold bump
 rw [List.length_cons, show b + 1 + 1 - (r.length + 1) = b + 1 - r.length by omega]
 rfl
theorem bump_nil (b : Nat) : bump [] (b + 1) = 0 :: bump [] b := by
 unfold bump
 simp only [List.nil_append, List.length_nil, Nat.sub_zero]
 rw [List.replicate_succ]
 rfl
theorem bump_eq : ∀ (c : List Int) (b : Nat), bump c b = bmp c b
 | [], 0 => rfl
 | [], b + 1 => by rw [bump_nil, bump_eq [] b]; rfl
 | c :: r, 0 => by
  unfold bump
  simp
  rfl
 | c :: r, b + 1 => by rw [bump_cons, bump_eq r b]; rfl
theorem bmp_comm : ∀ (c : List Int) (a b : Nat), bmp (bmp c a) b = bmp (bmp c b) a
 | [], 0, 0 => rfl
 | [], 0, b + 1 => by simp [bmp]
 | [], a + 1, 0 => by simp [bmp]
 | [], a + 1, b + 1 => by simp only [bmp]; rw [bmp_comm [] a b]
 | c :: r, 0, 0 => rfl
 | c :: r, 0, b + 1 => by simp [bmp]
 | c :: r, a + 1, 0 => by simp [bmp]
 | c :: r, a + 1, b + 1 => by simp only [bmp]; rw [bmp_comm r a b]
def tot : Nat → List Int → Int
 | _, [] => 0
 | k, c :: r => (k + 1) * c + tot (k + 1) r
theorem tot_bmp : ∀ (c : List Int) (b k : Nat), tot k (bmp c b) = tot k c + (k + b + 1)
 | [], 0, k => by simp [bmp, tot]
 | [], b + 1, k => by simp only [bmp, tot]; rw [tot_bmp [] b (k + 1)]; simp only [tot]; push_cast; omega
 | c :: r, 0, k => by simp only [bmp, tot]; rw [Int.mul_add]; push_cast; omega
 | c :: r, b + 1, k => by simp only [bmp, tot]; rw [tot_bmp r b (k + 1)]; push_cast; omega
def leadK (bs : List Nat) (t : Nat) : List Nat := bs.flatMap (fun k => List.replicate k 32 ++ [9]) ++ List.replicate t 32
theorem wsGo_blanks : ∀ (k : Nat) (r : List Nat) (cnt : List Int) (b : Nat), wsGo (List.replicate k 32 ++ r) cnt b = wsGo r cnt (b + k)
 | 0, _, _, _ => rfl
 | k + 1, r, cnt, b => by
  rw [List.replicate_succ, List.cons_append]
  conv => lhs; unfold wsGo
  rw [if_pos rfl, wsGo_blanks k r cnt (b + 1), show b + 1 + k = b + (k + 1) by omega]
def noWs : List Nat → Prop
 | [] => True
 | c :: _ => c ≠ 32 ∧ c ≠ 9
theorem wsGo_lead (bs : List Nat) (t : Nat) (r : List Nat) (h : noWs r) : ∀ cnt, wsGo (leadK bs t ++ r) cnt 0 = (bs.foldl bump cnt, t) := by
 induction bs with
 | nil =>
  intro cnt
  show wsGo (List.replicate t 32 ++ r) cnt 0 = _
  rw [wsGo_blanks]
  match r, h with
  | [], _ => simp [wsGo]
  | c :: r, h => unfold wsGo; rw [if_neg h.1, if_neg h.2]; simp
 | cons k bs ih =>
  intro cnt
  show wsGo (((List.replicate k 32 ++ [9]) ++ bs.flatMap (fun k => List.replicate k 32 ++ [9])) ++ List.replicate t 32 ++ r) cnt 0 = _
  rw [List.append_assoc, List.append_assoc, List.append_assoc, wsGo_blanks, List.cons_append]
  conv => lhs; unfold wsGo
  rw [if_neg (by decide), if_pos rfl, List.nil_append, Nat.zero_add, ← List.append_assoc]
  exact ih (bump cnt k)
theorem wsOf_lead {bs : List Nat} {t : Nat} {r : List Nat} (h : noWs r) : wsOf (leadK bs t ++ r) = .ws (bs.foldl bump []) t := by unfold wsOf; rw [wsGo_lead bs t r h]
theorem fold_perm {bs bs' : List Nat} (h : bs.Perm bs') (cnt : List Int) : bs.foldl bump cnt = bs'.foldl bump cnt := h.foldl_eq' (fun x _ y _ z => by rw [bump_eq, bump_eq, bump_eq, bump_eq]; exact bmp_comm _ _ _) cnt
def sumL : List Nat → Nat
 | [] => 0
 | k :: r => k + 1 + sumL r
theorem tot_fold : ∀ (bs : List Nat) (cnt : List Int), tot 0 (bs.foldl bump cnt) = tot 0 cnt + sumL bs
 | [], cnt => by simp [sumL]
 | k :: bs, cnt => by rw [List.foldl_cons, tot_fold bs, bump_eq, tot_bmp]; simp only [sumL]; push_cast; omega
theorem lead_len (bs : List Nat) (t : Nat) : (leadK bs t).length = sumL bs + t := by
 unfold leadK
 rw [List.length_append, List.length_replicate]
 congr 1
 induction bs with
 | nil => rfl
 | cons k bs ih => rw [List.flatMap_cons, List.length_append, ih]; simp [sumL]
/-- what is equal at every tab size is of one length -/
theorem norm_len {bs bs' : List Nat} {t t' : Nat} (h : bs.foldl bump [] = bs'.foldl bump []) (ht : t = t') : sumL bs + t = sumL bs' + t' := by
 have h1 := tot_fold bs []
 have h2 := tot_fold bs' []
 rw [h, h2] at h1
 simp only [tot] at h1
 omega

/-! ## the indents that the law tells -/
theorem allStr_map : ∀ xs : List Str, allStr (xs.map .str) = some xs
 | [] => rfl
 | x :: r => by
  show (allStr (r.map .str)).map (x :: ·) = _
  rw [allStr_map r]; rfl
theorem allInt_map : ∀ xs : List Int, allInt (xs.map .int) = some xs
 | [] => rfl
 | x :: r => by
  show (allInt (r.map .int)).map (x :: ·) = _
  rw [allInt_map r]; rfl
theorem foldl_lens (k : Nat) : ∀ (xs : List Str) (a : Nat), xs.foldl (fun a x => a + x.length + k) a = a + (xs.map fun x => x.length + k).sum
 | [], a => by simp
 | x :: r, a => by rw [List.foldl_cons, foldl_lens k r, List.map_cons, List.sum_cons]; omega
theorem join_nil : ∀ xs : List Str, Str.join ⟨#[]⟩ xs = mk (xs.flatMap chs)
 | [] => rfl
 | [x] => by
  show x = _
  rw [List.flatMap_cons, List.flatMap_nil, List.append_nil, mk_chs]
 | x :: y :: r => by
  show x ++ (⟨#[]⟩ : Str) ++ Str.join ⟨#[]⟩ (y :: r) = _
  rw [join_nil (y :: r)]
  refine str_ext ?_
  rw [chs_append, chs_append, chs_mk, chs_mk, List.flatMap_cons]
  show chs x ++ [] ++ _ = _
  rw [List.append_nil]
  rfl
theorem join_str {xs : List Str} (h : (xs.map (·.length)).sum ≤ 100000) : meth "join" (.str ⟨#[]⟩) [.lst (xs.map .str)] = some (.str (mk (xs.flatMap chs))) := by
 show (match allStr (xs.map .str) with
   | some xs => if JoinOk ⟨#[]⟩ xs then some (PV.str (Txt.join ⟨#[]⟩ xs)) else none
   | none => none) = _
 rw [allStr_map]
 dsimp only
 rw [if_pos]
 ·congr 2
  show PySem.Builtin.Str.glued _ _ = _
  rw [StrLaws.glued_eq_join, join_nil]
 ·unfold JoinOk
  rw [List.foldl_toArray, foldl_lens]
  have e : (fun x : Str => x.length + (⟨#[]⟩ : Str).length) = (·.length) := rfl
  rw [e]
  unfold PySem.Builtin.Str.tooLong
  have : sizeLine ≥ 100000 := by decide
  simp
  omega
theorem mapM_map {α β γ : Type} {f : β → Option γ} {g : α → β} {h : α → γ} : ∀ {l : List α}, (∀ x ∈ l, f (g x) = some (h x)) → (l.map g).mapM f = some (l.map h)
 | [], _ => rfl
 | a :: l, H => by
  rw [List.map_cons, List.map_cons]
  exact mapM2 (H a List.mem_cons_self) (mapM_map fun x hx => H x (List.mem_cons_of_mem _ hx))
def kdsL (total level : Nat) : List Nat := (List.range level).map fun k => total / 64 / 4 ^ k % 4
def rot {α : Type} (l : List α) (turn : Nat) : List α := l.drop (turn % (l.length + 1)) ++ l.take (turn % (l.length + 1))
theorem rot_perm {α : Type} (l : List α) (turn : Nat) : (rot l turn).Perm l := by
 unfold rot
 exact List.perm_append_comm.trans (by rw [List.take_append_drop])
def ksB (ks : List Nat) : List Nat := ks.filter (· < 3)
def runS (k : Nat) : Str := mk (List.replicate k 32 ++ [9])
abbrev scD : Sc := fdIndent.scope.names
def rD (total level turn : Int) (kinds tabs : Slot) : Rho := [("total", .v (.int total)), ("level", .v (.int level)), ("turn", .v (.int turn)), ("kinds", kinds), ("tabs", tabs)]
section
variable {Γ : G}

def lcIter (e : Expr) : Expr := match e with | .ListComp _ [⟨_, i, _, _⟩] _ _ => i | _ => default
theorem flat_single {α β : Type} (f : α → β) : ∀ l : List α, (l.map fun k => [f k]).flatten = l.map f
 | [] => rfl
 | a :: l => by rw [List.map_cons, List.flatten_cons, flat_single f l]; rfl
def asgE (s : Stmt) : Expr := match s with | .Assign _ e _ => e | _ => default
theorem fdiv_nat (a b : Nat) : ((a : Int)).fdiv (b : Int) = ((a / b : Nat) : Int) := by
 rw [Int.fdiv_eq_ediv_of_nonneg _ (Int.natCast_nonneg b)]; rfl
theorem fmod_nat (a b : Nat) : ((a : Int)).fmod (b : Int) = ((a % b : Nat) : Int) := by
 rw [Int.fmod_eq_emod_of_nonneg _ (Int.natCast_nonneg b)]; rfl
theorem ind_kind (total : Nat) {level turn : Int} {kinds tabs : Slot} (k : Nat) (hk : k < 5) :
  ev Γ 39 .v (relab scD (lcScope (asgE (bodyI fdIndent 0))).names) ((Str.ofString "k", .v (.int k)) :: lcRho scD (lcScope (asgE (bodyI fdIndent 0))) (rD total level turn kinds tabs)) (lcElt (asgE (bodyI fdIndent 0))) = some (.int ((total / 64 / 4 ^ k % 4 : Nat) : Int)) := by
 refine ev_of ?_
 have e : ∀ a b : Nat, PV.int ((((total : Int).fdiv (64 : Nat)).fdiv (a : Nat)).fmod (b : Nat)) = .int ((total / 64 / a % b : Nat) : Int) := fun a b => by rw [fdiv_nat, fdiv_nat, fmod_nat]
 match k, hk with
 | 0, _ =>
  conv => whnf
  exact e 1 4
 | 1, _ =>
  conv => whnf
  exact e 4 4
 | 2, _ =>
  conv => whnf
  exact e 16 4
 | 3, _ =>
  conv => whnf
  exact e 64 4
 | 4, _ =>
  conv => whnf
  exact e 256 4
theorem ind_kinds (total : Nat) {level : Nat} {turn : Int} {kinds tabs : Slot} (h : level ≤ 5) : ev Γ 40 .v scD (rD total level turn kinds tabs) (asgE (bodyI fdIndent 0)) = some (.lst ((kdsL total level).map fun (k : Nat) => .int k)) := by
 have hm : ((List.range level).map fun (k : Nat) => PV.int k).mapM (fun v => turnOf (ev Γ 39 .v (relab scD (lcScope (asgE (bodyI fdIndent 0))).names) ((Str.ofString "k", .v v) :: lcRho scD (lcScope (asgE (bodyI fdIndent 0))) (rD total level turn kinds tabs))) [] (lcElt (asgE (bodyI fdIndent 0)))) = some ((List.range level).map fun k => [PV.int ((total / 64 / 4 ^ k % 4 : Nat) : Int)]) := mapM_map fun k hk => by
  show (ev Γ 39 .v _ _ _).map _ = _
  rw [ind_kind total k (by have := List.mem_range.mp hk; omega)]
  rfl
 have e : ((kdsL total level).map fun (k : Nat) => PV.int k) = ((List.range level).map fun k => [PV.int ((total / 64 / 4 ^ k % 4 : Nat) : Int)]).flatten := by
  unfold kdsL
  rw [List.map_map, flat_single]
  rfl
 rw [e]
 have hi : (match rangeArgs scD (lcIter (asgE (bodyI fdIndent 0))) with
     | some args => (args.mapM (ev Γ 39 .v scD (rD total level turn kinds tabs))).bind rangeOf
     | none => (ev Γ 39 .l scD (rD total level turn kinds tabs) (lcIter (asgE (bodyI fdIndent 0)))).bind itemsOf) = some ((List.range level).map fun (k : Nat) => PV.int k) := by
  clear hm e
  match level, h with
  | 0, _ => kernel_rfl
  | 1, _ => kernel_rfl
  | 2, _ => kernel_rfl
  | 3, _ => kernel_rfl
  | 4, _ => kernel_rfl
  | 5, _ => kernel_rfl
 exact ev_lc (by kernel_rfl) hi (sizeOk_of (by simp; omega)) hm

theorem ind_tabC {total level turn : Int} {kinds tabs : Slot} (k : Nat) (hk : k < 4) :
  turnOf (ev Γ 39 .v (relab scD (lcScope (asgE (bodyI fdIndent 1))).names) ((Str.ofString "kind", .v (.int k)) :: lcRho scD (lcScope (asgE (bodyI fdIndent 1))) (rD total level turn kinds tabs))) [lcIf (asgE (bodyI fdIndent 1))] (lcElt (asgE (bodyI fdIndent 1))) = some (if k < 3 then [.str (runS k)] else []) := by
 match k, hk with
 | 0, _ => kernel_rfl
 | 1, _ => kernel_rfl
 | 2, _ => kernel_rfl
 | 3, _ => kernel_rfl
theorem flat_filter (f : Nat → PV) : ∀ l : List Nat, (l.map fun k => if k < 3 then [f k] else []).flatten = (ksB l).map f
 | [] => rfl
 | a :: l => by
  rw [List.map_cons, List.flatten_cons, flat_filter f l]
  unfold ksB
  by_cases h : a < 3
  ·rw [if_pos h, List.filter_cons_of_pos (by simpa using h)]; rfl
  ·rw [if_neg h, List.filter_cons_of_neg (by simpa using h)]; rfl
theorem ind_tabs {total level turn : Int} {tabs : Slot} {ks : List Nat} (h : ∀ k ∈ ks, k < 4) (hl : ks.length ≤ 5) : ev Γ 40 .v scD (rD total level turn (.v (.lst (ks.map fun (k : Nat) => .int k))) tabs) (asgE (bodyI fdIndent 1)) = some (.lst (((ksB ks).map runS).map .str)) := by
 rw [List.map_map, ← flat_filter]
 exact ev_lc (by kernel_rfl) (vs := ks.map fun (k : Nat) => .int k) (if_pos (sizeOk_of (by simp; omega))) (sizeOk_of (by simp; omega)) (mapM_map fun k hk => ind_tabC k (h k hk))
theorem mod_int {a b : Int} (h : 0 < b) : binop .Mod (.int a) (.int b) = some (.int (a.fmod b)) := if_pos (by simpa using h)
theorem clipAt_nat {n m : Nat} (h : n ≤ m) : clipAt m (n : Int) = n := by
 unfold clipAt
 rw [if_neg (show ¬ (n : Int) < 0 by omega)]
 omega
theorem cutL_hi {α : Type} {l : List α} {n : Nat} (h : n ≤ l.length) : cutL l none (some (n : Int)) = l.take n := by
 unfold cutL
 simp only [Option.elim]
 have e : clipAt l.length (n : Int) = n := clipAt_nat h
 rw [e]; rfl
theorem cutL_lo {α : Type} {l : List α} {n : Nat} (h : n ≤ l.length) : cutL l (some (n : Int)) none = l.drop n := by
 unfold cutL
 simp only [Option.elim]
 have e : clipAt l.length (n : Int) = n := clipAt_nat h
 rw [e, List.take_of_length_le (by simp)]
theorem ind_turn {total level : Int} {turn : Nat} {kinds : Slot} {ts : List PV} (hl : ts.length ≤ 5) : ev Γ 40 .v scD (rD total level turn kinds (.v (.lst ts))) (asgE (bodyI fdIndent 2)) = some (.int ((turn % (ts.length + 1) : Nat) : Int)) := ev_of (by
 conv => whnf
 refine wopt.mk (len_lst (by omega)) ?_
 conv => whnf
 refine wopt.mk (mod_int (b := (ts.length : Int) + 1) (by omega)) ?_
 show PV.int _ = PV.int _
 congr 1
 exact fmod_nat turn (ts.length + 1))
theorem count_lst {xs : List Int} {k : Int} : meth "count" (.lst (xs.map .int)) [.int k] = some (.int (xs.countP (· == k))) := by
 show (match allInt (xs.map .int) with
   | some xs => some (PV.int (xs.countP (· == k)))
   | none => none) = _
 rw [allInt_map]
def c3 (ks : List Nat) : Nat := ks.countP (· == 3)
theorem mul_rep (c : Nat) : ∀ n : Nat, (List.replicate n (#[c] : Array Nat)).foldl (· ++ ·) #[] = (List.replicate n c).toArray := by
 have : ∀ (n : Nat) (a : Array Nat), (List.replicate n (#[c] : Array Nat)).foldl (· ++ ·) a = a ++ (List.replicate n c).toArray := by
  intro n
  induction n with
  | zero => intro a; simp
  | succ n ih => intro a; rw [List.replicate_succ, List.foldl_cons, ih, List.replicate_succ]; exact Array.ext' (by simp)
 intro n; rw [this]; simp
theorem mul_chr {c n : Nat} (h : n ≤ 1000) : binop .Mult (.str (strOf c)) (.int n) = some (.str (mk (List.replicate n c))) := by
 show (if natLe (n : Int) 1000 && Nat.ble (strOf c).length 1000 then some (PV.str (Txt.mul (strOf c) n)) else none) = _
 rw [if_pos]
 ·congr 2
  unfold Txt.mul
  match n with
  | 0 => rfl
  | 1 => rfl
  | n + 2 =>
   rw [if_neg (by omega), if_neg]
   ·show (⟨(List.replicate (n + 2) (#[c] : Array Nat)).foldl (· ++ ·) #[]⟩ : Str) = _
    rw [mul_rep]; rfl
   ·simp
    constructor
    ·omega
    ·show (1 : Nat) ≠ 0; decide
 ·rw [natLe_iff.mpr ⟨by omega, by exact_mod_cast h⟩]; rfl
theorem mul_blank {n : Nat} (h : n ≤ 1000) : binop .Mult (.str (Str.ofString " ")) (.int n) = some (.str (mk (List.replicate n 32))) := mul_chr (c := 32) h
theorem c3_int (ks : List Nat) : (ks.map fun (k : Nat) => (k : Int)).countP (· == 3) = c3 ks := by
 unfold c3
 rw [List.countP_map]
 congr 1
 funext k
 show (decide _) = decide _
 simp
 omega
theorem flat_runs : ∀ bs : List Nat, (bs.map runS).flatMap chs = bs.flatMap fun k => List.replicate k 32 ++ [9]
 | [] => rfl
 | k :: bs => by rw [List.map_cons, List.flatMap_cons, List.flatMap_cons, flat_runs bs]; unfold runS; rw [chs_mk]
theorem sum_runs : ∀ bs : List Nat, (∀ k ∈ bs, k < 3) → ((bs.map runS).map (·.length)).sum ≤ 3 * bs.length
 | [], _ => by simp
 | k :: bs, h => by
  have := sum_runs bs (fun x hx => h x (List.mem_cons_of_mem _ hx))
  have hk := h k List.mem_cons_self
  simp only [List.map_cons, List.sum_cons, List.length_cons]
  have : (runS k).length = k + 1 := by unfold runS; rw [len_chs, chs_mk]; simp
  omega
def leadT (ks : List Nat) (turn : Nat) : List Nat := leadK (rot (ksB ks) turn) (c3 ks)
theorem rot_map {α β : Type} (f : α → β) (l : List α) (turn : Nat) : rot (l.map f) turn = (rot l turn).map f := by unfold rot; simp
theorem ind_ret {total level : Int} {turn : Nat} {ks : List Nat} (hl : ks.length ≤ 5) : ev Γ 40 .v scD (rD total level ((turn % ((((ksB ks).map runS).map PV.str).length + 1) : Nat) : Int) (.v (.lst (ks.map fun (k : Nat) => .int k))) (.v (.lst (((ksB ks).map runS).map .str)))) (retE (bodyI fdIndent 3)) = some (.str (mk (leadT ks turn))) := by
 have hB : (ksB ks).length ≤ 5 := Nat.le_trans (List.length_filter_le _ _) hl
 have hlt : (((ksB ks).map runS).map PV.str).length ≤ 5 := by simp; omega
 have ht : turn % ((((ksB ks).map runS).map PV.str).length + 1) ≤ (((ksB ks).map runS).map PV.str).length := Nat.le_of_lt_succ (Nat.mod_lt _ (Nat.succ_pos _))
 have h3 : ∀ k ∈ rot (ksB ks) turn, k < 3 := fun k hk => by
  have := (rot_perm (ksB ks) turn).mem_iff.mp hk
  unfold ksB at this
  simpa using (List.mem_filter.mp this).2
 have hr : (rot (ksB ks) turn).length ≤ 5 := by rw [(rot_perm (ksB ks) turn).length_eq]; exact hB
 have e0 : cutL (((ksB ks).map runS).map PV.str) (some ((turn % ((((ksB ks).map runS).map PV.str).length + 1) : Nat) : Int)) none ++ cutL (((ksB ks).map runS).map PV.str) none (some ((turn % ((((ksB ks).map runS).map PV.str).length + 1) : Nat) : Int)) = ((rot (ksB ks) turn).map runS).map PV.str := by
  rw [cutL_lo ht, cutL_hi ht, ← rot_map, ← rot_map]
  rfl
 have e1 : ks.map (fun (k : Nat) => PV.int k) = (ks.map fun (k : Nat) => (k : Int)).map PV.int := by rw [List.map_map]; rfl
 have hs := sum_runs _ h3
 have h5 : (chs (mk ((rot (ksB ks) turn).flatMap fun k => List.replicate k 32 ++ [9]))).length ≤ 15 := by
  rw [chs_mk]
  have := lead_len (rot (ksB ks) turn) 0
  have h6 : ∀ bs : List Nat, (∀ k ∈ bs, k < 3) → sumL bs ≤ 3 * bs.length := fun bs => by
   induction bs with
   | nil => intro _; simp [sumL]
   | cons a bs ih =>
    intro h
    have := ih fun x hx => h x (List.mem_cons_of_mem _ hx)
    have := h a List.mem_cons_self
    simp only [sumL, List.length_cons]; omega
  have := h6 _ h3
  unfold leadK at *
  simp at *
  omega
 have hc : c3 ks ≤ 5 := Nat.le_trans List.countP_le_length hl
 refine ev_of ?_
 conv => whnf
 refine wopt.mk (cut_lst (by omega)) ?_
 conv => whnf
 refine wopt.mk (cut_lst (by omega)) ?_
 conv => whnf
 refine wopt.mk (add_lst (Nat.le_trans (Nat.add_le_add (cutL_len _ _ _) (cutL_len _ _ _)) (by omega))) ?_
 rw [e0]
 conv => whnf
 refine wopt.mk (join_str (by omega)) ?_
 conv => whnf
 rw [e1]
 refine wopt.mk count_lst ?_
 conv => whnf
 rw [c3_int]
 refine wopt.mk (mul_blank (n := c3 ks) (by omega)) ?_
 conv => whnf
 rw [flat_runs]
 refine wopt.mk (add_str (by rw [len_chs, len_chs, chs_mk (List.replicate _ _), List.length_replicate]; omega)) ?_
 show PV.str _ = PV.str _
 rw [mk_append]
 rfl

theorem ret_of {own : List (Str × Bool)} {sc : Sc} {ρ : Rho} {rec : Rho → List Stmt → Option (Fl × Rho)} {e : Expr} {p : Pos} {v : PV} (hn : nameOf e = none) (h : ev Γ 40 .v sc ρ e = some v) : run1 Γ own sc rec ρ (.Return (some e) p) = some (.ret v, ρ) := by
 show retS (ev Γ 40 · sc ρ ·) ρ e = _
 unfold retS
 rw [hn]
 show (ev Γ 40 .v sc ρ e).map _ = _
 rw [h]
 rfl
theorem kds_lt {total level : Nat} : ∀ k ∈ kdsL total level, k < 4 := fun k hk => by
 unfold kdsL at hk
 obtain ⟨j, _, rfl⟩ := List.mem_map.mp hk
 exact Nat.mod_lt _ (by decide)
theorem kds_len (total level : Nat) : (kdsL total level).length = level := by unfold kdsL; simp
theorem ind_call (total turn : Nat) {level : Nat} (h : level ≤ 5) : callF Γ [] 12 fdIndent [.int total, .int level, .int turn] = some (.str (mk (leadT (kdsL total level) turn))) := by
 have hl : (kdsL total level).length ≤ 5 := by rw [kds_len]; exact h
 have hlt : (((ksB (kdsL total level)).map runS).map PV.str).length ≤ 5 := by
  have : (ksB (kdsL total level)).length ≤ 5 := Nat.le_trans (List.length_filter_le _ _) hl
  simp; omega
 have hB : bodyOf fdIndent = [bodyI fdIndent 0, bodyI fdIndent 1, bodyI fdIndent 2, bodyI fdIndent 3] := by kernel_rfl
 have r0 : run1 Γ [] scD (run Γ [] scD 11) (rD total level turn .u .u) (bodyI fdIndent 0) = some (.next, rD total level turn (.v (.lst ((kdsL total level).map fun (k : Nat) => .int k))) .u) := run1_asg (ind_kinds total h) (by kernel_rfl) (by kernel_rfl) (by kernel_rfl)
 have r1 : run1 Γ [] scD (run Γ [] scD 11) (rD total level turn (.v (.lst ((kdsL total level).map fun (k : Nat) => .int k))) .u) (bodyI fdIndent 1) = some (.next, rD total level turn (.v (.lst ((kdsL total level).map fun (k : Nat) => .int k))) (.v (.lst (((ksB (kdsL total level)).map runS).map .str)))) := run1_asg (ind_tabs kds_lt hl) (by kernel_rfl) (by kernel_rfl) (by kernel_rfl)
 have r2 : run1 Γ [] scD (run Γ [] scD 11) (rD total level turn (.v (.lst ((kdsL total level).map fun (k : Nat) => .int k))) (.v (.lst (((ksB (kdsL total level)).map runS).map .str)))) (bodyI fdIndent 2) = some (.next, rD total level ((turn % ((((ksB (kdsL total level)).map runS).map PV.str).length + 1) : Nat) : Int) (.v (.lst ((kdsL total level).map fun (k : Nat) => .int k))) (.v (.lst (((ksB (kdsL total level)).map runS).map .str)))) := run1_asg (ind_turn hlt) (by kernel_rfl) (by kernel_rfl) (by kernel_rfl)
 refine callF_ret ok_indent.body (by rfl) (ρ' := rD total level ((turn % ((((ksB (kdsL total level)).map runS).map PV.str).length + 1) : Nat) : Int) (.v (.lst ((kdsL total level).map fun (k : Nat) => .int k))) (.v (.lst (((ksB (kdsL total level)).map runS).map .str)))) ?_
 rw [hB]
 show seqGo (run1 Γ [] scD (run Γ [] scD 11)) (rD total level turn .u .u) _ = _
 rw [seq_next r0, seq_next r1, seq_next r2]
 exact seq_ret (ret_of (by kernel_rfl) (ind_ret hl))
end

/-! ## the other indent -/
def othOk (bs : List Nat) (t : Nat) : Bool := match callF g0 [] 12 fdOther [.str (mk (leadK bs t))] with
 | some (.str o) => (chs o).length == (leadK bs t).length && (chs o).all (fun c => c == 32 || c == 9) && !(wsGo (chs o) [] 0 == wsGo (leadK bs t) [] 0)
 | _ => false
def allBs : Nat → List (List Nat)
 | 0 => [[]]
 | m + 1 => (allBs m).flatMap fun l => [0 :: l, 1 :: l, 2 :: l]
theorem mem_allBs : ∀ {bs : List Nat}, (∀ k ∈ bs, k < 3) → bs ∈ allBs bs.length
 | [], _ => by simp [allBs]
 | k :: bs, h => by
  have ih := mem_allBs fun x hx => h x (List.mem_cons_of_mem _ hx)
  have hk := h k List.mem_cons_self
  show _ ∈ (allBs bs.length).flatMap _
  refine List.mem_flatMap.mpr ⟨bs, ih, ?_⟩
  match k, hk with
  | 0, _ => simp
  | 1, _ => simp
  | 2, _ => simp
theorem oth0 : ([1, 2, 3, 4].all fun t => (allBs 0).all fun bs => othOk bs t) = true := by kernel_rfl
theorem oth1 : ([0, 1, 2, 3].all fun t => (allBs 1).all fun bs => othOk bs t) = true := by kernel_rfl
theorem oth2 : ([0, 1, 2].all fun t => (allBs 2).all fun bs => othOk bs t) = true := by kernel_rfl
theorem oth3 : ([0, 1].all fun t => (allBs 3).all fun bs => othOk bs t) = true := by kernel_rfl
theorem oth4 : ([0].all fun t => (allBs 4).all fun bs => othOk bs t) = true := by kernel_rfl
theorem oth_of {ts : List Nat} {m : Nat} (h : (ts.all fun t => (allBs m).all fun bs => othOk bs t) = true) {t : Nat} (ht : t ∈ ts) {bs : List Nat} (hb : ∀ k ∈ bs, k < 3) (hl : bs.length = m) : othOk bs t = true :=
 List.all_eq_true.mp (List.all_eq_true.mp h t ht) bs (hl ▸ mem_allBs hb)
theorem oth_all {bs : List Nat} {t : Nat} (hb : ∀ k ∈ bs, k < 3) (h0 : bs.length + t ≤ 4) (h1 : 1 ≤ bs.length + t) : othOk bs t = true := by
 have hl : bs.length = 0 ∨ bs.length = 1 ∨ bs.length = 2 ∨ bs.length = 3 ∨ bs.length = 4 := by omega
 rcases hl with e | e | e | e | e
 ·exact oth_of oth0 (by simp; omega) hb e
 ·exact oth_of oth1 (by simp; omega) hb e
 ·exact oth_of oth2 (by simp; omega) hb e
 ·exact oth_of oth3 (by simp; omega) hb e
 ·exact oth_of oth4 (by simp; omega) hb e
theorem wsGo_all : ∀ (o : List Nat) {r : List Nat}, noWs r → (∀ c ∈ o, c = 32 ∨ c = 9) → ∀ cnt b, wsGo (o ++ r) cnt b = wsGo o cnt b
 | [], [], _, _, cnt, b => rfl
 | [], c :: r, h, _, cnt, b => by
  rw [List.nil_append]; unfold wsGo; rw [if_neg h.1, if_neg h.2]
 | c :: o, r, h, ho, cnt, b => by
  rw [List.cons_append]
  unfold wsGo
  have := wsGo_all o h (fun x hx => ho x (List.mem_cons_of_mem _ hx))
  split
  ·exact this _ _
  ·split
   ·exact this _ _
   ·rfl
theorem wsGo_tot : ∀ (o : List Nat), (∀ c ∈ o, c = 32 ∨ c = 9) → ∀ cnt b, tot 0 (wsGo o cnt b).1 + (wsGo o cnt b).2 = tot 0 cnt + b + o.length
 | [], _, cnt, b => by unfold wsGo; simp
 | c :: o, ho, cnt, b => by
  have ih := wsGo_tot o (fun x hx => ho x (List.mem_cons_of_mem _ hx))
  have hc := ho c List.mem_cons_self
  unfold wsGo
  simp only [List.length_cons]
  split
  ·rw [ih]; push_cast; omega
  ·split
   ·rw [ih, bump_eq, tot_bmp]; push_cast; omega
   ·rename_i h1 h2; rcases hc with e | e <;> simp [e] at h1 h2
/-- the other indent: as long, and like no level's own -/
theorem oth_spec {bs : List Nat} {t : Nat} (hb : ∀ k ∈ bs, k < 3) (h0 : bs.length + t ≤ 4) (h1 : 1 ≤ bs.length + t) :
  ∃ o : Str, callF g0 [] 12 fdOther [.str (mk (leadK bs t))] = some (.str o) ∧ (∀ c ∈ chs o, c = 32 ∨ c = 9) ∧ (chs o).length = (leadK bs t).length ∧ wsGo (chs o) [] 0 ≠ wsGo (leadK bs t) [] 0 := by
 have h := oth_all hb h0 h1
 unfold othOk at h
 split at h
 ·rename_i o e
  rw [Bool.and_eq_true, Bool.and_eq_true] at h
  refine ⟨o, e, fun c hc => ?_, beq_iff_eq.mp h.1.1, fun e => ?_⟩
  ·have := List.all_eq_true.mp h.1.2 c hc
   simpa using this
  ·have h2 := h.2
   rw [e] at h2
   simp at h2
 ·cases h

/-! ## unseen signs and names -/
def unL : List Nat := [173, 847, 6150, 6155, 6156, 6157, 8203, 8204, 8205, 8288, 65279] ++ (List.range 16).map fun k => 65024 + k
def unC (d : Nat) : List Nat := (unL.drop (d % 28)).take 1
def unsC (x : List Nat) (d : Nat) : List Nat := x.take 1 ++ unC d ++ x.drop 1
abbrev scU : Sc := fdUnseen.scope.names
def rU (text : Str) (draw : Nat) (unseen : Slot) : Rho := [("text", .v (.str text)), ("draw", .v (.int draw)), ("unseen", unseen)]
theorem unL_len : unL.length = 27 := rfl
theorem cutL_both {α : Type} {l : List α} {a b : Nat} (ha : a ≤ l.length) (hb : b ≤ l.length) : cutL l (some (a : Int)) (some (b : Int)) = (l.drop a).take (b - a) := by
 unfold cutL
 simp only [Option.elim]
 rw [clipAt_nat ha, clipAt_nat hb]
theorem clipAt_big {n m : Nat} (h : m ≤ n) : clipAt m (n : Int) = m := by
 unfold clipAt
 rw [if_neg (show ¬ (n : Int) < 0 by omega)]
 omega
theorem unC_cut (d : Nat) : cutL (unL.map fun (k : Nat) => PV.int k) (some ((d % 28 : Nat) : Int)) (some ((d % 28 : Nat) + 1 : Int)) = (unC d).map fun (k : Nat) => PV.int k := by
 have hd : d % 28 < 28 := Nat.mod_lt _ (by decide)
 unfold unC cutL
 simp only [Option.elim]
 rw [List.length_map, unL_len, clipAt_nat (show d % 28 ≤ 27 by omega)]
 have e : ((d % 28 : Nat) : Int) + 1 = ((d % 28 + 1 : Nat) : Int) := by push_cast; rfl
 rw [e, ← List.map_drop, ← List.map_take]
 by_cases h : d % 28 + 1 ≤ 27
 ·rw [clipAt_nat h, show d % 28 + 1 - d % 28 = 1 by omega]
 ·rw [clipAt_big (show 27 ≤ d % 28 + 1 by omega), show d % 28 = 27 by omega]
  rfl
theorem unC_two (d : Nat) : unC d = [] ∨ ∃ c, unC d = [c] ∧ c ∈ unL := by
 unfold unC
 match h : unL.drop (d % 28) with
 | [] => exact .inl rfl
 | c :: r => exact .inr ⟨c, rfl, List.mem_of_mem_drop (i := d % 28) (by rw [h]; exact List.mem_cons_self)⟩
theorem un_big : ∀ c ∈ unL, c ≤ 1114111 := by decide
theorem chs_take (x : Str) : chs (cutS x none (some (1 : Int))) = (chs x).take 1 := by
 rw [chs_cut]
 unfold cutL
 simp only [Option.elim]
 by_cases h : 1 ≤ (chs x).length
 ·rw [show (1 : Int) = ((1 : Nat) : Int) from rfl, clipAt_nat h]; rfl
 ·rw [show (1 : Int) = ((1 : Nat) : Int) from rfl, clipAt_big (by omega)]
  rw [List.take_of_length_le (by simp), List.take_of_length_le (by omega)]
  rfl
theorem chs_drop (x : Str) : chs (cutS x (some (1 : Int)) none) = (chs x).drop 1 := by
 rw [chs_cut]
 unfold cutL
 simp only [Option.elim]
 by_cases h : 1 ≤ (chs x).length
 ·rw [show (1 : Int) = ((1 : Nat) : Int) from rfl, clipAt_nat h, List.take_of_length_le (by simp)]
 ·rw [show (1 : Int) = ((1 : Nat) : Int) from rfl, clipAt_big (by omega)]
  rw [List.take_of_length_le (by simp), List.drop_eq_nil_of_le (by omega), List.drop_eq_nil_of_le (by omega)]
theorem chr_ok {c : Nat} (h : c ≤ 1114111) : blt "chr" [.int c] = some (.str (strOf c)) := if_pos (natLe_iff.mpr ⟨by omega, by exact_mod_cast h⟩)
section
variable {Γ : G}
theorem uns_ret {text : Str} (hx : text.length ≤ 100) (d : Nat) : ev Γ 40 .v scU (rU text d (.v (.lst (unL.map fun (k : Nat) => .int k)))) (retE (bodyI fdUnseen 1)) = some (.str (mk (unsC (chs text) d))) := by
 have el : (unL.map fun (k : Nat) => PV.int k).length ≤ 16000000 := by rw [List.length_map, unL_len]; decide
 have ha : (cutS text none (some (1 : Int))).length ≤ 100 := by rw [len_chs, chs_take, List.length_take]; omega
 have hb : (cutS text (some (1 : Int)) none).length ≤ 100 := by rw [len_chs, chs_drop, List.length_drop, ← len_chs]; omega
 have e28 : ((d : Int)).fmod 28 = ((d % 28 : Nat) : Int) := fmod_nat d 28
 refine ev_of ?_
 generalize hL : (unL.map fun (k : Nat) => PV.int k) = L
 have hc := unC_cut d
 rw [hL] at hc el
 conv => whnf
 refine wopt.mk (cut_str (by omega)) ?_
 conv => whnf
 refine wopt.mk (cut_lst el) ?_
 rw [e28, hc]
 rcases unC_two d with e | ⟨c, e, hm⟩
 ·unfold unsC
  rw [e]
  conv => whnf
  refine wopt.mk (add_str (b := ⟨#[]⟩) (by show _ + 0 ≤ _; omega)) ?_
  conv => whnf
  refine wopt.mk (cut_str (by omega)) ?_
  conv => whnf
  refine wopt.mk (add_str (by rw [len_append]; show _ + 0 + _ ≤ _; omega)) ?_
  show PV.str _ = PV.str _
  congr 1
  exact str_ext (by rw [chs_append, chs_append, chs_mk, chs_take, chs_drop]; rfl)
 ·unfold unsC
  rw [e]
  conv => whnf
  refine wopt.mk (chr_ok (un_big c hm)) ?_
  conv => whnf
  refine wopt.mk (add_str (b := strOf c) (by show _ + 1 ≤ _; omega)) ?_
  conv => whnf
  refine wopt.mk (cut_str (by omega)) ?_
  conv => whnf
  refine wopt.mk (add_str (by rw [len_append]; show _ + 1 + _ ≤ _; omega)) ?_
  show PV.str _ = PV.str _
  congr 1
  exact str_ext (by rw [chs_append, chs_append, chs_mk, chs_take, chs_drop]; rfl)
theorem uns_call {text : Str} (hx : text.length ≤ 100) (d : Nat) : callF Γ [] 12 fdUnseen [.str text, .int d] = some (.str (mk (unsC (chs text) d))) := by
 have hB : bodyOf fdUnseen = [bodyI fdUnseen 0, bodyI fdUnseen 1] := by kernel_rfl
 have r0 : run1 Γ [] scU (run Γ [] scU 11) (rU text d .u) (bodyI fdUnseen 0) = some (.next, rU text d (.v (.lst (unL.map fun (k : Nat) => .int k)))) := by kernel_rfl
 refine callF_ret ok_unseen.body (by rfl) (ρ' := rU text d (.v (.lst (unL.map fun (k : Nat) => .int k)))) ?_
 rw [hB]
 show seqGo (run1 Γ [] scU (run Γ [] scU 11)) (rU text d .u) _ = _
 rw [seq_next r0]
 exact seq_ret (ret_of (by kernel_rfl) (uns_ret hx d))
end

/-! ## what is left of a sign: none if table B.1 has it, else its piece of table B.3 -/
def b1c (c : Nat) : Bool := b1L.contains (c : Int)
def b3S (c : Nat) : Str := match b3Get (c : Int) with
 | .str x => x
 | _ => Txt.lower (strOf c)
def fold1 (c : Nat) : List Nat := if b1c c then [] else chs (b3S c)
theorem b3Get_two (i : Int) : b3Get i = .none ∨ ∃ x, b3Get i = .str x := by
 unfold b3Get
 split
 ·exact .inr ⟨_, rfl⟩
 ·exact .inl rfl
theorem b1_call (c : Nat) : callF g0 [] 12 fdB1 [.str (strOf c)] = some (.bool (b1c c)) := by kernel_rfl
theorem b3_call (c : Nat) : callF g0 [] 12 fdB3 [.str (strOf c)] = some (.str (b3S c)) := by
 refine wcall_eq ?_
 conv => whnf
 unfold b3S
 rcases b3Get_two (c : Int) with e | ⟨x, e⟩
 ·rw [e]
  conv => whnf
 ·rw [e]
  conv => whnf

def basesL : List Nat := [65, 119808, 119860, 119912, 120016, 120172, 120224, 120276, 120328, 120380, 120432]
def edgesL : List Nat := [172, 174, 846, 848, 6149, 6151, 6154, 6158, 8202, 8206, 8287, 8289, 65023, 65040, 65278, 65280]
def rareC : List Nat := [8481, 8482, 8470, 13169, 13254, 223, 304, 837, 912]
def rareN : List (List Nat) := [[116, 101, 108], [116, 109], [110, 111], [104, 112, 97], [99, 8725, 107, 103], [115, 115], [105, 775], [953], [953, 776, 769]]
def ligaN : List (List Nat) := [[102, 102], [102, 105], [102, 108], [102, 102, 105], [102, 102, 108], [115, 116], [115, 116]]
theorem F0 : (basesL.all fun b => (List.range 26).all fun j => fold1 (b + j) == [97 + j]) = true := by kernel_rfl
theorem F1 : ((List.range 7).all fun i => fold1 (64256 + i) == ligaN.getD i []) = true := by kernel_rfl
theorem F2 : ((List.range 26).all fun j => fold1 (97 + j) == [97 + j]) = true := by kernel_rfl
theorem F2e : (edgesL.all fun e => fold1 e == [e]) = true := by kernel_rfl
theorem F3 : ((List.range 9).all fun i => fold1 (rareC.getD i 0) == rareN.getD i []) = true := by kernel_rfl
theorem FU : (unL.all fun e => fold1 e == []) = true := by kernel_rfl
theorem FS : ((List.range 41).all fun i => (chs (sgL.getD i ⟨#[]⟩)).all fun c => fold1 c == [c]) = true := by kernel_rfl
theorem FP : ([40, 41, 34, 92].all fun c => fold1 c == [c]) = true := by kernel_rfl

/-! ## a drawn name -/
def remC : Nat → List Ck
 | 1 => [.u (.e 40)]
 | 2 => [.q [.p 41]]
 | 3 => [.q [.e 34, .p 41]]
 | 4 => [.u (.e 34)]
 | 5 => [.u (.e 92)]
 | 6 => [.q [.p 40]]
 | _ => []
def nmC (x : Nat) : List Nat :=
 let j := x / 5 % 26
 match x % 5 with
 | 0 => [97 + j]
 | 1 => ligaN.getD (x / 5 % 7) []
 | 2 => [97 + j, edgesL.getD (x / 5 / 26 % 16) 0]
 | 3 => rareN.getD (x / 5 % 9) []
 | _ => [97 + j]
def seenC (x : Nat) : List Nat :=
 let j := x / 5 % 26
 match x % 5 with
 | 0 => [basesL.getD (x / 5 / 26 % 11) 0 + j]
 | 1 => [64256 + x / 5 % 7]
 | 2 => [97 + j, edgesL.getD (x / 5 / 26 % 16) 0]
 | 3 => [rareC.getD (x / 5 % 9) 0]
 | _ => [97 + j]
def bodyC (x : Nat) : List Nat := unsC (seenC x) (x / 5 / 2002)
def nameK (x : Nat) : List Ck := remC (x / 5 / 286 % 7) ++ (bodyC x).map fun c => .u (.p c)
abbrev scN : Sc := fdName.scope.names
def rN (x : Nat) (draw letter bases edges rare name seen remark : Slot) : Rho := [("x", .v (.int x)), ("draw", draw), ("letter", letter), ("bases", bases), ("edges", edges), ("rare", rare), ("name", name), ("seen", seen), ("remark", remark)]
def natsV (l : List Nat) : PV := .lst (l.map fun (k : Nat) => .int k)
def rareV : PV := .lst ((rareC.zip rareN).map fun p => .tup [.int p.1, .str (mk p.2)])
theorem idx_str {x : Str} {i c : Nat} (h : (chs x)[i]? = some c) (hi : i ≤ 1000000) : idx (.str x) (.int i) = some (.str (strOf c)) := by
 have hl : i < (chs x).length := (List.getElem?_eq_some_iff.mp h).1
 show (if intOk i then (Txt.charAt x i).map fun c => PV.str (strOf c) else none) = _
 rw [if_pos (intOk_of (by omega) (by omega))]
 unfold Txt.charAt seqIndex?
 simp only
 rw [if_neg (show ¬ ((i : Int) < 0) by omega), if_pos (by rw [len_chs]; simp; omega)]
 have : x.cps[i]? = some c := by rw [← Array.getElem?_toList]; exact h
 show ((some (i : Int).toNat).bind (x.cps[·]?)).map _ = _
 rw [Option.bind_some, Int.toNat_natCast, this]
 rfl
def abc : Str := Str.ofString "abcdefghijklmnopqrstuvwxyz"
theorem abc_chs : chs abc = (List.range 26).map (97 + ·) := by kernel_rfl
theorem abc_at {j : Nat} (h : j < 26) : idx (.str abc) (.int j) = some (.str (strOf (97 + j))) := idx_str (by rw [abc_chs]; simp [h]) (by omega)
theorem nats_at {l : List Nat} {i : Nat} (h : i < l.length) (hl : l.length ≤ 1000) : idx (natsV l) (.int i) = some (.int (l.getD i 0 : Nat)) := by
 refine idx_lst (v := .int (l.getD i 0 : Nat)) ?_ (by omega)
 rw [List.getElem?_map, List.getD, List.getElem?_eq_getElem h]
 rfl
section
variable {Γ : G} {x : Nat} {draw letter bases edges rare name seen remark : Slot}
theorem nam0 : run1 Γ [] scN (run Γ [] scN 11) (rN x draw letter bases edges rare name seen remark) (bodyI fdName 0) = some (.next, rN x (.v (.int (x / 5 : Nat))) letter bases edges rare name seen remark) := by
 refine run1_asg (ev_of ?_) (by kernel_rfl) (by kernel_rfl) (by kernel_rfl)
 conv => whnf
 show PV.int _ = PV.int _
 congr 1
 exact fdiv_nat x 5
theorem nam1 {d : Nat} : run1 Γ [] scN (run Γ [] scN 11) (rN x (.v (.int d)) letter bases edges rare name seen remark) (bodyI fdName 1) = some (.next, rN x (.v (.int d)) (.v (.str (strOf (97 + d % 26)))) bases edges rare name seen remark) := by
 have e : ((d : Int)).fmod 26 = ((d % 26 : Nat) : Int) := fmod_nat d 26
 refine run1_asg (ev_of ?_) (by kernel_rfl) (by kernel_rfl) (by kernel_rfl)
 conv => whnf
 rw [e]
 refine wopt.mk (abc_at (Nat.mod_lt _ (by decide))) ?_
 rfl
theorem nam2 : run1 Γ [] scN (run Γ [] scN 11) (rN x draw letter bases edges rare name seen remark) (bodyI fdName 2) = some (.next, rN x draw letter (.v (natsV basesL)) edges rare name seen remark) := by kernel_rfl
theorem nam3 : run1 Γ [] scN (run Γ [] scN 11) (rN x draw letter bases edges rare name seen remark) (bodyI fdName 3) = some (.next, rN x draw letter bases (.v (natsV edgesL)) rare name seen remark) := by kernel_rfl
theorem nam4 : run1 Γ [] scN (run Γ [] scN 11) (rN x draw letter bases edges rare name seen remark) (bodyI fdName 4) = some (.next, rN x draw letter bases edges (.v rareV) name seen remark) := by kernel_rfl

def ndC (s : Stmt) : Expr := match s with | .If c _ _ _ => c | _ => default
def ifA (s : Stmt) : List Stmt := match s with | .If _ a _ _ => a | _ => []
def ifB (s : Stmt) : List Stmt := match s with | .If _ _ b _ => b | _ => []
theorem if_run {own : List (Str × Bool)} {sc : Sc} {ρ : Rho} {rec : Rho → List Stmt → Option (Fl × Rho)} {c : Expr} {a d : List Stmt} {p : Pos} {b : Bool} (h : ev Γ 40 .v sc ρ c = some (.bool b)) : run1 Γ own sc rec ρ (.If c a d p) = cond b (rec ρ a) (rec ρ d) := by
 show (match ev Γ 40 .v sc ρ c with
  | some (.bool true) => rec ρ a
  | some (.bool false) => rec ρ d
  | _ => none) = _
 rw [h]
 cases b <;> rfl
def nif0 : Stmt := bodyI fdName 5
def nif1 : Stmt := nthS (ifB nif0) 0
def nif2 : Stmt := nthS (ifB nif1) 0
def nif3 : Stmt := nthS (ifB nif2) 0
theorem ncond {k : Nat} {s : Stmt} (h : ev Γ 40 .v scN (rN x draw letter bases edges rare name seen remark) (ndC s) = some (.bool ((x : Int).fmod 5 == (k : Int)))) : ev Γ 40 .v scN (rN x draw letter bases edges rare name seen remark) (ndC s) = some (.bool (x % 5 == k)) := by
 rw [h, show ((x : Int)).fmod 5 = ((x % 5 : Nat) : Int) from fmod_nat x 5]
 congr 2
 by_cases e : x % 5 = k
 ·rw [e, beq_self_eq_true, beq_self_eq_true]
 ·rw [beq_eq_false_iff_ne.mpr e, beq_eq_false_iff_ne]; omega
theorem nc0 : ev Γ 40 .v scN (rN x draw letter bases edges rare name seen remark) (ndC nif0) = some (.bool (x % 5 == 0)) := ncond (by kernel_rfl)
theorem nc1 : ev Γ 40 .v scN (rN x draw letter bases edges rare name seen remark) (ndC nif1) = some (.bool (x % 5 == 1)) := ncond (by kernel_rfl)
theorem nc2 : ev Γ 40 .v scN (rN x draw letter bases edges rare name seen remark) (ndC nif2) = some (.bool (x % 5 == 2)) := ncond (by kernel_rfl)
theorem nc3 : ev Γ 40 .v scN (rN x draw letter bases edges rare name seen remark) (ndC nif3) = some (.bool (x % 5 == 3)) := ncond (by kernel_rfl)
theorem seqGo_one {one : Rho → Stmt → Option (Fl × Rho)} {st : Stmt} {ρ ρ' : Rho} (h : one ρ st = some (.next, ρ')) : seqGo one ρ [st] = some (.next, ρ') := seq_next h
variable {d : Nat} {l : Str}
theorem basesL_ok : ∀ i, i < 11 → basesL.getD i 0 ≤ 120432 := by decide
theorem rareC_ok : ∀ i, i < 9 → rareC.getD i 0 ≤ 120432 := by decide
theorem nb0 : run Γ [] scN 11 (rN x (.v (.int d)) (.v (.str l)) (.v (natsV basesL)) edges rare name seen remark) (ifA nif0) = some (.next, rN x (.v (.int d)) (.v (.str l)) (.v (natsV basesL)) edges rare (.v (.str l)) (.v (.str (strOf (basesL.getD (d / 26 % 11) 0 + d % 26)))) remark) := by
 have e1 : ((d : Int).fdiv 26).fmod 11 = ((d / 26 % 11 : Nat) : Int) := by rw [show (d : Int).fdiv 26 = ((d / 26 : Nat) : Int) from fdiv_nat d 26]; exact fmod_nat _ 11
 have e2 : ((d : Int)).fmod 26 = ((d % 26 : Nat) : Int) := fmod_nat d 26
 have h1 := basesL_ok (d / 26 % 11) (Nat.mod_lt _ (by decide))
 have h2 : d % 26 < 26 := Nat.mod_lt _ (by decide)
 refine run_of ?_
 conv => whnf
 rw [e1]
 refine wopt.mk (nats_at (l := basesL) (Nat.mod_lt _ (by decide)) (by decide)) ?_
 conv => whnf
 rw [e2, show ((basesL.getD (d / 26 % 11) 0 : Nat) : Int) + ((d % 26 : Nat) : Int) = ((basesL.getD (d / 26 % 11) 0 + d % 26 : Nat) : Int) by push_cast; rfl]
 refine wopt.mk (chr_ok (by omega)) ?_
 exact ⟨rfl, rfl⟩
theorem lig_at : ∀ i, i < 7 → ([.str (Str.ofString "ff"), .str (Str.ofString "fi"), .str (Str.ofString "fl"), .str (Str.ofString "ffi"), .str (Str.ofString "ffl"), .str (Str.ofString "st"), .str (Str.ofString "st")] : List PV)[i]? = some (.str (mk (ligaN.getD i [])))
 | 0, _ => rfl
 | 1, _ => rfl
 | 2, _ => rfl
 | 3, _ => rfl
 | 4, _ => rfl
 | 5, _ => rfl
 | 6, _ => rfl
 | n + 7, h => by omega
theorem nb1 : run Γ [] scN 10 (rN x (.v (.int d)) letter bases edges rare name seen remark) (ifA nif1) = some (.next, rN x (.v (.int d)) letter bases edges rare (.v (.str (mk (ligaN.getD (d % 7) [])))) (.v (.str (strOf (64256 + d % 7)))) remark) := by
 have e2 : ((d : Int)).fmod 7 = ((d % 7 : Nat) : Int) := fmod_nat d 7
 have h2 : d % 7 < 7 := Nat.mod_lt _ (by decide)
 refine run_of ?_
 conv => whnf
 rw [e2]
 refine wopt.mk (idx_lst (lig_at (d % 7) h2) (by omega)) ?_
 conv => whnf
 rw [e2, show (64256 : Int) + ((d % 7 : Nat) : Int) = ((64256 + d % 7 : Nat) : Int) from (Int.natCast_add 64256 _).symm]
 refine wopt.mk (chr_ok (by omega)) ?_
 exact ⟨rfl, rfl⟩

theorem edges_len : edgesL.length = 16 := rfl
theorem edges_ok : ∀ i, i < 16 → edgesL.getD i 0 ≤ 120432 := by decide
theorem nb2 : run Γ [] scN 9 (rN x (.v (.int d)) (.v (.str l)) bases (.v (natsV edgesL)) rare name seen remark) (ifA nif2) = some (.next, rN x (.v (.int d)) (.v (.str l)) bases (.v (natsV edgesL)) rare (.v (.str (l ++ strOf (edgesL.getD (d / 26 % 16) 0)))) (.v (.str (l ++ strOf (edgesL.getD (d / 26 % 16) 0)))) remark) ∨ 100 < l.length := by
 by_cases hl : l.length ≤ 100
 ·left
  have e1 : ((d : Int).fdiv 26).fmod 16 = ((d / 26 % 16 : Nat) : Int) := by rw [show (d : Int).fdiv 26 = ((d / 26 : Nat) : Int) from fdiv_nat d 26]; exact fmod_nat _ 16
  have h1 := edges_ok (d / 26 % 16) (Nat.mod_lt _ (by decide))
  refine run_of ?_
  conv => whnf
  rw [e1]
  refine wopt.mk (nats_at (l := edgesL) (Nat.mod_lt _ (by decide)) (by decide)) ?_
  conv => whnf
  refine wopt.mk (chr_ok (by omega)) ?_
  conv => whnf
  refine wopt.mk (add_str (by show _ + 1 ≤ _; omega)) ?_
  exact ⟨rfl, rfl⟩
 ·right; omega
theorem rare_at : ∀ i, i < 9 → ((rareC.zip rareN).map fun p => PV.tup [.int p.1, .str (mk p.2)])[i]? = some (.tup [.int (rareC.getD i 0 : Nat), .str (mk (rareN.getD i []))])
 | 0, _ => rfl
 | 1, _ => rfl
 | 2, _ => rfl
 | 3, _ => rfl
 | 4, _ => rfl
 | 5, _ => rfl
 | 6, _ => rfl
 | 7, _ => rfl
 | 8, _ => rfl
 | n + 9, h => by omega
theorem nb3 : run Γ [] scN 8 (rN x (.v (.int d)) letter bases edges (.v rareV) name seen remark) (ifA nif3) = some (.next, rN x (.v (.int d)) letter bases edges (.v rareV) (.v (.str (mk (rareN.getD (d % 9) [])))) (.v (.str (strOf (rareC.getD (d % 9) 0)))) remark) := by
 have e2 : ((d : Int)).fmod 9 = ((d % 9 : Nat) : Int) := fmod_nat d 9
 have h2 : d % 9 < 9 := Nat.mod_lt _ (by decide)
 have h1 := rareC_ok (d % 9) h2
 refine run_of ?_
 conv => whnf
 rw [e2]
 refine wopt.mk (idx_lst (rare_at (d % 9) h2) (by omega)) ?_
 conv => whnf
 rw [e2]
 refine wopt.mk (idx_lst (rare_at (d % 9) h2) (by omega)) ?_
 conv => whnf
 refine wopt.mk (chr_ok (by omega)) ?_
 exact ⟨rfl, rfl⟩
theorem nb4 : run Γ [] scN 8 (rN x draw (.v (.str l)) bases edges rare name seen remark) (ifB nif3) = some (.next, rN x draw (.v (.str l)) bases edges rare (.v (.str l)) (.v (.str l)) remark) := by kernel_rfl
theorem nam5 : run1 Γ [] scN (run Γ [] scN 11) (rN x (.v (.int (x / 5 : Nat))) (.v (.str (strOf (97 + x / 5 % 26)))) (.v (natsV basesL)) (.v (natsV edgesL)) (.v rareV) name seen remark) (bodyI fdName 5) = some (.next, rN x (.v (.int (x / 5 : Nat))) (.v (.str (strOf (97 + x / 5 % 26)))) (.v (natsV basesL)) (.v (natsV edgesL)) (.v rareV) (.v (.str (mk (nmC x)))) (.v (.str (mk (seenC x)))) remark) := by
 have s0 : bodyI fdName 5 = .If (ndC nif0) (ifA nif0) [nif1] (match nif0 with | .If _ _ _ p => p | _ => default) := by kernel_rfl
 have s1 : nif1 = .If (ndC nif1) (ifA nif1) [nif2] (match nif1 with | .If _ _ _ p => p | _ => default) := by kernel_rfl
 have s2 : nif2 = .If (ndC nif2) (ifA nif2) [nif3] (match nif2 with | .If _ _ _ p => p | _ => default) := by kernel_rfl
 have s3 : nif3 = .If (ndC nif3) (ifA nif3) (ifB nif3) (match nif3 with | .If _ _ _ p => p | _ => default) := by kernel_rfl
 have hx : x % 5 < 5 := Nat.mod_lt _ (by decide)
 rw [s0, if_run nc0]
 by_cases h0 : x % 5 = 0
 ·rw [beq_iff_eq.mpr h0]
  unfold nmC seenC
  rw [h0]
  exact nb0
 ·rw [beq_eq_false_iff_ne.mpr h0]
  refine seqGo_one ?_
  rw [s1, if_run nc1]
  by_cases h1 : x % 5 = 1
  ·rw [beq_iff_eq.mpr h1]
   unfold nmC seenC
   rw [h1]
   exact nb1
  ·rw [beq_eq_false_iff_ne.mpr h1]
   refine seqGo_one ?_
   rw [s2, if_run nc2]
   by_cases h2 : x % 5 = 2
   ·rw [beq_iff_eq.mpr h2]
    unfold nmC seenC
    rw [h2]
    rcases nb2 (Γ := Γ) (x := x) (d := x / 5) (l := strOf (97 + x / 5 % 26)) (bases := .v (natsV basesL)) (rare := .v rareV) (name := name) (seen := seen) (remark := remark) with h | h
    ·exact h
    ·have : (strOf (97 + x / 5 % 26)).length = 1 := rfl
     omega
   ·rw [beq_eq_false_iff_ne.mpr h2]
    refine seqGo_one ?_
    rw [s3, if_run nc3]
    by_cases h3 : x % 5 = 3
    ·rw [beq_iff_eq.mpr h3]
     unfold nmC seenC
     rw [h3]
     exact nb3
    ·rw [beq_eq_false_iff_ne.mpr h3]
     have h4 : x % 5 = 4 := by omega
     unfold nmC seenC
     rw [h4]
     exact nb4

theorem rem_at : ∀ i, i < 7 → ([.str (Str.ofString ""), .str (Str.ofString "\\("), .str (Str.ofString "\")\""), .str (Str.ofString "\"\\\")\""), .str (Str.ofString "\\\""), .str (Str.ofString "\\\\"), .str (Str.ofString "\"(\"")] : List PV)[i]? = some (.str (mk (srcs (remC i))))
 | 0, _ => rfl
 | 1, _ => rfl
 | 2, _ => rfl
 | 3, _ => rfl
 | 4, _ => rfl
 | 5, _ => rfl
 | 6, _ => rfl
 | n + 7, h => by omega
theorem nam6 : run1 Γ [] scN (run Γ [] scN 11) (rN x (.v (.int d)) letter bases edges rare name seen remark) (bodyI fdName 6) = some (.next, rN x (.v (.int d)) letter bases edges rare name seen (.v (.str (mk (srcs (remC (d / 286 % 7))))))) := by
 have e1 : ((d : Int).fdiv 286).fmod 7 = ((d / 286 % 7 : Nat) : Int) := by rw [show (d : Int).fdiv 286 = ((d / 286 : Nat) : Int) from fdiv_nat d 286]; exact fmod_nat _ 7
 have h2 : d / 286 % 7 < 7 := Nat.mod_lt _ (by decide)
 refine run1_asg (ev_of ?_) (by kernel_rfl) (by kernel_rfl) (by kernel_rfl)
 conv => whnf
 rw [e1]
 refine wopt.mk (idx_lst (rem_at (d / 286 % 7) h2) (by omega)) ?_
 rfl
theorem srcs_append (a b : List Ck) : srcs (a ++ b) = srcs a ++ srcs b := by unfold srcs; rw [List.flatMap_append]
theorem srcs_p : ∀ l : List Nat, srcs (l.map fun c => .u (.p c)) = l
 | [] => rfl
 | c :: l => by
  show [c] ++ srcs (l.map fun c => .u (.p c)) = _
  rw [srcs_p l]; rfl
theorem rem_len : ∀ i, i < 7 → (srcs (remC i)).length ≤ 5 := by decide
theorem nam7 (hU : ∀ (text : Str) (d : Nat), text.length ≤ 100 → Γ.fn "_law_unseen" [.str text, .int d] = some (.str (mk (unsC (chs text) d)))) {r : Nat} (hr : r < 7) {nm sn : List Nat} (hs : sn.length ≤ 2) :
  ev Γ 40 .v scN (rN x (.v (.int d)) letter bases edges rare (.v (.str (mk nm))) (.v (.str (mk sn))) (.v (.str (mk (srcs (remC r)))))) (retE (bodyI fdName 7)) = some (.tup [.str (mk nm), .str (mk (srcs (remC r ++ (unsC sn (d / 2002)).map fun c => .u (.p c))))]) := by
 have e1 : ((d : Int).fdiv 2002) = ((d / 2002 : Nat) : Int) := fdiv_nat d 2002
 have hl := rem_len r hr
 have hq : (unsC sn (d / 2002)).length ≤ 4 := by
  unfold unsC
  rw [List.length_append, List.length_append, List.length_take, List.length_drop]
  have : (unC (d / 2002)).length ≤ 1 := by unfold unC; rw [List.length_take]; omega
  omega
 refine ev_of ?_
 conv => whnf
 rw [e1]
 refine wopt.mk (hU (mk sn) (d / 2002) (by rw [len_chs, chs_mk]; omega)) ?_
 rw [chs_mk]
 conv => whnf
 refine wopt.mk (add_str (by rw [len_chs, len_chs, chs_mk, chs_mk]; omega)) ?_
 show PV.tup [_, PV.str _] = PV.tup [_, PV.str _]
 rw [mk_append, srcs_append, srcs_p]
theorem seen_len : (seenC x).length ≤ 2 := by
 unfold seenC
 dsimp only
 split <;> simp
theorem name_call (hU : ∀ (text : Str) (d : Nat), text.length ≤ 100 → Γ.fn "_law_unseen" [.str text, .int d] = some (.str (mk (unsC (chs text) d)))) : callF Γ [] 12 fdName [.int x] = some (.tup [.str (mk (nmC x)), .str (mk (srcs (nameK x)))]) := by
 have hB : bodyOf fdName = [bodyI fdName 0, bodyI fdName 1, bodyI fdName 2, bodyI fdName 3, bodyI fdName 4, bodyI fdName 5, bodyI fdName 6, bodyI fdName 7] := by kernel_rfl
 refine callF_ret ok_name.body (by rfl) (ρ' := rN x (.v (.int (x / 5 : Nat))) (.v (.str (strOf (97 + x / 5 % 26)))) (.v (natsV basesL)) (.v (natsV edgesL)) (.v rareV) (.v (.str (mk (nmC x)))) (.v (.str (mk (seenC x)))) (.v (.str (mk (srcs (remC (x / 5 / 286 % 7))))))) ?_
 rw [hB]
 show seqGo (run1 Γ [] scN (run Γ [] scN 11)) (rN x .u .u .u .u .u .u .u .u) _ = _
 rw [seq_next nam0, seq_next nam1, seq_next nam2, seq_next nam3, seq_next nam4, seq_next nam5, seq_next nam6]
 exact seq_ret (ret_of (by kernel_rfl) (nam7 hU (Nat.mod_lt _ (by decide)) seen_len))
end

/-! what is known of a name -/
def exA : List Nat := (exL.map fun p => chs p.1).flatten
def plainB (c : Nat) : Bool := !(exA.contains c) && !(c == 32) && !(c == 9) && !(c == 34) && !(c == 92)
def bodOk (c : Nat) : Bool := !(c == 34) && !(c == 92)
theorem pl0 : ((List.range 26).all fun j => plainB (97 + j)) = true := by kernel_rfl
theorem pl1 : (ligaN.all fun l => l.all plainB && !(l == []) && decide (l.length ≤ 3)) = true := by kernel_rfl
theorem pl2 : (edgesL.all plainB) = true := by kernel_rfl
theorem pl3 : (rareN.all fun l => l.all plainB && !(l == []) && decide (l.length ≤ 4)) = true := by kernel_rfl
theorem bo0 : (basesL.all fun b => (List.range 26).all fun j => bodOk (b + j)) = true := by kernel_rfl
theorem bo1 : ((List.range 7).all fun i => bodOk (64256 + i)) = true := by kernel_rfl
theorem bo3 : (rareC.all bodOk) = true := by kernel_rfl
theorem boU : (unL.all bodOk) = true := by kernel_rfl
structure NmOk (nm : List Nat) (tx : List Nat) : Prop where
 fold : tx.flatMap fold1 = nm
 ne : nm ≠ []
 pl : ∀ c ∈ nm, plainB c = true
 bo : ∀ c ∈ tx, bodOk c = true
 len : nm.length ≤ 4
 tlen : tx.length ≤ 3

theorem fold_uns (s : List Nat) (d : Nat) : (unsC s d).flatMap fold1 = s.flatMap fold1 := by
 have hu : (unC d).flatMap fold1 = [] := by
  rcases unC_two d with e | ⟨c, e, hm⟩
  ·rw [e]; rfl
  ·rw [e]
   have := List.all_eq_true.mp FU c hm
   rw [List.flatMap_cons, List.flatMap_nil, beq_iff_eq.mp this]; rfl
 unfold unsC
 rw [List.flatMap_append, List.flatMap_append, hu, List.append_nil, ← List.flatMap_append, List.take_append_drop]
theorem bod_uns {s : List Nat} (h : ∀ c ∈ s, bodOk c = true) (d : Nat) : ∀ c ∈ unsC s d, bodOk c = true := fun c hc => by
 unfold unsC at hc
 rcases List.mem_append.mp hc with hc | hc
 ·rcases List.mem_append.mp hc with hc | hc
  ·exact h c (List.mem_of_mem_take hc)
  ·unfold unC at hc
   exact List.all_eq_true.mp boU c (List.mem_of_mem_drop (List.mem_of_mem_take hc))
 ·exact h c (List.mem_of_mem_drop hc)
theorem uns_len (s : List Nat) (d : Nat) : (unsC s d).length ≤ s.length + 1 := by
 unfold unsC unC
 rw [List.length_append, List.length_append, List.length_take, List.length_drop, List.length_take]
 omega
theorem rng {n j : Nat} {P : Nat → Bool} (h : ((List.range n).all P) = true) (hj : j < n) : P j = true := List.all_eq_true.mp h j (List.mem_range.mpr hj)
theorem getD_mem {α : Type} {l : List α} {i : Nat} {d : α} (h : i < l.length) : l.getD i d ∈ l := by
 rw [List.getD, List.getElem?_eq_getElem h]; exact List.getElem_mem h
theorem plain_bod {c : Nat} (h : plainB c = true) : bodOk c = true := by
 unfold plainB at h
 unfold bodOk
 simp only [Bool.and_eq_true] at h ⊢
 exact ⟨h.1.2, h.2⟩
theorem nm_of {s nm : List Nat} (d : Nat) (hf : s.flatMap fold1 = nm) (h0 : nm ≠ []) (hp : ∀ c ∈ nm, plainB c = true) (hb : ∀ c ∈ s, bodOk c = true) (hl : nm.length ≤ 4) (hs : s.length ≤ 2) : NmOk nm (unsC s d) :=
 ⟨by rw [fold_uns, hf], h0, hp, bod_uns hb d, hl, Nat.le_trans (uns_len s d) (by omega)⟩
theorem rngE {n j : Nat} {f g : Nat → List Nat} (h : ((List.range n).all fun j => f j == g j) = true) (hj : j < n) : f j = g j := beq_iff_eq.mp (List.all_eq_true.mp h j (List.mem_range.mpr hj))
theorem name_ok (x : Nat) : NmOk (nmC x) (bodyC x) := by
 have hj : x / 5 % 26 < 26 := Nat.mod_lt _ (by decide)
 have hx : x % 5 = 0 ∨ x % 5 = 1 ∨ x % 5 = 2 ∨ x % 5 = 3 ∨ x % 5 = 4 := by omega
 have pj := rng pl0 hj
 have fj : fold1 (97 + x / 5 % 26) = [97 + x / 5 % 26] := rngE F2 hj
 unfold bodyC
 rcases hx with e | e | e | e | e
 ·rw [show nmC x = [97 + x / 5 % 26] by unfold nmC; rw [e]; rfl, show seenC x = [basesL.getD (x / 5 / 26 % 11) 0 + x / 5 % 26] by unfold seenC; rw [e]; rfl]
  have hm : basesL.getD (x / 5 / 26 % 11) 0 ∈ basesL := getD_mem (Nat.mod_lt _ (by decide))
  refine nm_of _ ?_ (by simp) (by simpa using pj) ?_ (by simp) (by simp)
  ·rw [List.flatMap_cons, List.flatMap_nil, List.append_nil]
   exact rngE (List.all_eq_true.mp F0 _ hm) hj
  ·intro c hc
   rw [List.mem_singleton] at hc
   subst hc
   exact rng (P := fun j => bodOk (_ + j)) (List.all_eq_true.mp bo0 _ hm) hj
 ·rw [show nmC x = ligaN.getD (x / 5 % 7) [] by unfold nmC; rw [e]; rfl, show seenC x = [64256 + x / 5 % 7] by unfold seenC; rw [e]; rfl]
  have h7 : x / 5 % 7 < 7 := Nat.mod_lt _ (by decide)
  have hm : ligaN.getD (x / 5 % 7) [] ∈ ligaN := getD_mem h7
  have hq := List.all_eq_true.mp pl1 _ hm
  simp only [Bool.and_eq_true, Bool.not_eq_true', decide_eq_true_eq] at hq
  refine nm_of _ ?_ (by intro e0; rw [e0] at hq; simp at hq) (fun c hc => List.all_eq_true.mp hq.1.1 c hc) ?_ (by omega) (by simp)
  ·rw [List.flatMap_cons, List.flatMap_nil, List.append_nil]
   exact rngE F1 h7
  ·intro c hc
   rw [List.mem_singleton] at hc
   subst hc
   exact rng (P := fun j => bodOk (64256 + j)) bo1 h7
 ·rw [show nmC x = [97 + x / 5 % 26, edgesL.getD (x / 5 / 26 % 16) 0] by unfold nmC; rw [e]; rfl, show seenC x = [97 + x / 5 % 26, edgesL.getD (x / 5 / 26 % 16) 0] by unfold seenC; rw [e]; rfl]
  have hm : edgesL.getD (x / 5 / 26 % 16) 0 ∈ edgesL := getD_mem (Nat.mod_lt _ (by decide))
  have pe := List.all_eq_true.mp pl2 _ hm
  have fe := beq_iff_eq.mp (List.all_eq_true.mp F2e _ hm)
  have hp : ∀ c ∈ [97 + x / 5 % 26, edgesL.getD (x / 5 / 26 % 16) 0], plainB c = true := fun c hc => by
   rcases List.mem_cons.mp hc with rfl | hc
   ·exact pj
   ·rw [List.mem_singleton] at hc
    subst hc; exact pe
  refine nm_of _ ?_ (by simp) hp (fun c hc => plain_bod (hp c hc)) (by simp) (by simp)
  rw [List.flatMap_cons, List.flatMap_cons, List.flatMap_nil, List.append_nil, fj, fe]
  rfl
 ·rw [show nmC x = rareN.getD (x / 5 % 9) [] by unfold nmC; rw [e]; rfl, show seenC x = [rareC.getD (x / 5 % 9) 0] by unfold seenC; rw [e]; rfl]
  have h9 : x / 5 % 9 < 9 := Nat.mod_lt _ (by decide)
  have hm : rareN.getD (x / 5 % 9) [] ∈ rareN := getD_mem h9
  have hr : rareC.getD (x / 5 % 9) 0 ∈ rareC := getD_mem h9
  have hq := List.all_eq_true.mp pl3 _ hm
  simp only [Bool.and_eq_true, Bool.not_eq_true', decide_eq_true_eq] at hq
  refine nm_of _ ?_ (by intro e0; rw [e0] at hq; simp at hq) (fun c hc => List.all_eq_true.mp hq.1.1 c hc) ?_ (by omega) (by simp)
  ·rw [List.flatMap_cons, List.flatMap_nil, List.append_nil]
   exact rngE F3 h9
  ·intro c hc
   rw [List.mem_singleton] at hc
   subst hc
   exact List.all_eq_true.mp bo3 _ hr
 ·rw [show nmC x = [97 + x / 5 % 26] by unfold nmC; rw [e]; rfl, show seenC x = [97 + x / 5 % 26] by unfold seenC; rw [e]; rfl]
  refine nm_of _ ?_ (by simp) (by simpa using pj) (by simpa using plain_bod pj) (by simp) (by simp)
  rw [List.flatMap_cons, List.flatMap_nil, List.append_nil, fj]

/-! ## the drawn expression -/
def Tre.cks : Tre → List Ck
 | .leaf _ tx => tx
 | .node l s u r => [.u (.p 40)] ++ l.cks ++ (unsC (sgC s) u).map (fun c => .u (.p c)) ++ r.cks ++ [.u (.p 41)]
def Tre.txt (t : Tre) : Str := mk (srcs t.cks)
def Tre.ok : Tre → Prop
 | .leaf nm tx => ∃ r b, r < 7 ∧ tx = remC r ++ (b.map fun c => .u (.p c)) ∧ NmOk nm b
 | .node l s _ r => l.ok ∧ s < 41 ∧ r.ok
theorem Tre.ok_s : ∀ {t : Tre}, t.ok → t.sOk
 | .leaf _ _, _ => trivial
 | .node l s u r, ⟨a, b, c⟩ => ⟨Tre.ok_s a, b, Tre.ok_s c⟩
def nodeV (t : Tre) : PV := .tup [.str t.due, .str t.txt]
theorem sgC_len (s : Nat) : (sgC s).length ≤ 3 := by unfold sgC; rw [← len_chs]; exact sgL_short s
theorem Tre.leaves_pos : ∀ t : Tre, 1 ≤ t.leaves
 | .leaf _ _ => Nat.le_refl _
 | .node l _ _ r => by have := l.leaves_pos; show 1 ≤ l.leaves + r.leaves; omega
theorem Tre.due_len : ∀ {t : Tre}, t.ok → t.due.length + 5 ≤ 9 * t.leaves
 | .leaf nm tx, ⟨r, b, _, _, h⟩ => by
  show (mk nm).length + 5 ≤ 9
  rw [len_chs, chs_mk]; have := h.len; omega
 | .node l s u r, ⟨a, b, c⟩ => by
  have h1 := Tre.due_len a
  have h2 := Tre.due_len c
  have h3 := sgL_short s
  show (brac _ _ _).length + 5 ≤ 9 * (l.leaves + r.leaves)
  rw [brac_len]; omega
theorem Tre.txt_len : ∀ {t : Tre}, t.ok → t.txt.length + 6 ≤ 14 * t.leaves
 | .leaf nm tx, ⟨r, b, hr, e, h⟩ => by
  show (mk (srcs tx)).length + 6 ≤ 14
  rw [len_chs, chs_mk, e, srcs_append, srcs_p, List.length_append]
  have := h.tlen; have := rem_len r hr; omega
 | .node l s u r, ⟨a, b, c⟩ => by
  have h1 := Tre.txt_len a
  have h2 := Tre.txt_len c
  have h3 := sgC_len s
  have h4 := uns_len (sgC s) u
  unfold Tre.txt at h1 h2 ⊢
  rw [len_chs, chs_mk] at h1 h2 ⊢
  unfold Tre.cks Tre.leaves
  rw [srcs_append, srcs_append, srcs_append, srcs_append, srcs_p]
  simp only [List.length_append]
  have : (srcs [.u (.p 40)]).length = 1 := rfl
  have : (srcs [.u (.p 41)]).length = 1 := rfl
  omega
theorem node_txt (l : Tre) (s u : Nat) (r : Tre) : (Tre.node l s u r).txt = brac l.txt (mk (unsC (sgC s) u)) r.txt := by
 refine str_ext ?_
 unfold Tre.txt brac
 rw [chs_append, chs_append, chs_append, chs_append, chs_mk, chs_mk, chs_mk, chs_mk]
 show srcs ([.u (.p 40)] ++ l.cks ++ (unsC (sgC s) u).map (fun c => .u (.p c)) ++ r.cks ++ [.u (.p 41)]) = _
 rw [srcs_append, srcs_append, srcs_append, srcs_append, srcs_p]
 rfl
def leafOf (x : Nat) : Tre := .leaf (nmC x) (nameK x)
theorem leaf_ok (x : Nat) : (leafOf x).ok := ⟨x / 5 / 286 % 7, bodyC x, Nat.mod_lt _ (by decide), rfl, name_ok x⟩
abbrev scW : Sc := fdDrawn.scope.names
abbrev ownW : List (Str × Bool) := [("nodes", false)]
def rW (script : PV) (x numbers nodes at_ sign left seen right other text : Slot) : Rho := [("script", .v script), ("x", x), ("numbers", numbers), ("nodes", nodes), ("at", at_), ("sign", sign), ("left", left), ("seen", seen), ("right", right), ("other", other), ("text", text)]
structure DrawG (Γ : G) : Prop where
 uns : ∀ (text : Str) (d : Nat), text.length ≤ 100 → Γ.fn "_law_unseen" [.str text, .int d] = some (.str (mk (unsC (chs text) d)))
 signs : Γ.fn "_law_signs" [] = some (.lst (sgL.map .str))
 name : ∀ x : Nat, Γ.fn "_law_name" [.int x] = some (.tup [.str (mk (nmC x)), .str (mk (srcs (nameK x)))])
def wFor : Stmt := bodyI fdDrawn 3
def wIf : Stmt := nthS (forBody wFor) 0
section
variable {Γ : G} {script : PV} {x numbers nodes at_ sign left seen right other text : Slot} {vs : List PV}
theorem dr_cond {n : Nat} (h : vs.length = n) (hn : n ≤ 1000) : ev Γ 40 .v scW (rW script x numbers (.o vs) at_ sign left seen right other text) (ndC wIf) = some (.bool (decide (1 < n))) := ev_of (by
 conv => whnf
 refine wopt.mk (len_lst (by omega)) ?_
 show PV.bool _ = PV.bool _
 congr 1
 rw [h]
 show decide ((n : Int) > 1) = decide (1 < n)
 simp
 omega)
theorem dr_1 (hg : DrawG Γ) {n y : Nat} (h : vs.length = n + 2) (hn : n ≤ 1000) : run1 Γ ownW scW (run Γ ownW scW 9) (rW script (.v (.int y)) numbers (.o vs) at_ sign left seen right other text) (nthS (ifA wIf) 0) = some (.next, rW script (.v (.int y)) numbers (.o vs) (.v (.int (y / 41 % (n + 1) : Nat))) (.v (.str (sgL.getD (y % 41) ⟨#[]⟩))) left seen right other text) := run1_of (by
 have e1 : ((y : Int).fdiv 41).fmod ((vs.length : Int) - 1) = ((y / 41 % (n + 1) : Nat) : Int) := by
  rw [h, show (y : Int).fdiv 41 = ((y / 41 : Nat) : Int) from fdiv_nat y 41, show ((n + 2 : Nat) : Int) - 1 = ((n + 1 : Nat) : Int) by omega]
  exact fmod_nat _ _
 have e2 : ((y : Int)).fmod 41 = ((y % 41 : Nat) : Int) := fmod_nat y 41
 conv => whnf
 refine wopt.mk (len_lst (by omega)) ?_
 conv => whnf
 refine wopt.mk (mod_int (b := (vs.length : Int) - 1) (by omega)) ?_
 rw [e1]
 conv => whnf
 refine wopt.mk hg.signs ?_
 conv => whnf
 rw [e2]
 refine wopt.mk (idx_lst (sg_at (y % 41) (Nat.mod_lt _ (by decide))) (by have := Nat.mod_lt y (show 0 < 41 by decide); omega)) ?_
 exact ⟨rfl, rfl⟩)

theorem dr_2 {k : Nat} {a b c d : PV} (hv : vs.length ≤ 1000) (hc : cutL vs (some (k : Int)) (some ((k : Int) + 2)) = [.tup [a, b], .tup [c, d]]) : run1 Γ ownW scW (run Γ ownW scW 9) (rW script x numbers (.o vs) (.v (.int k)) sign left seen right other text) (nthS (ifA wIf) 1) = some (.next, rW script x numbers (.o vs) (.v (.int k)) sign (.v a) (.v b) (.v c) (.v d) text) := run1_of (by
 conv => whnf
 refine wopt.mk (cut_lst (by omega)) ?_
 rw [hc]
 conv => whnf
 exact ⟨rfl, rfl⟩)
theorem dr_3 (hg : DrawG Γ) {y : Nat} {s b d : Str} (hs : s.length ≤ 3) (hb : b.length ≤ 1000) (hd : d.length ≤ 1000) : run1 Γ ownW scW (run Γ ownW scW 9) (rW script (.v (.int y)) numbers (.o vs) at_ (.v (.str s)) left (.v (.str b)) right (.v (.str d)) text) (nthS (ifA wIf) 2) = some (.next, rW script (.v (.int y)) numbers (.o vs) at_ (.v (.str s)) left (.v (.str b)) right (.v (.str d)) (.v (.str (brac b (mk (unsC (chs s) (y / 164))) d)))) := run1_of (by
 have e1 : (y : Int).fdiv 164 = ((y / 164 : Nat) : Int) := fdiv_nat y 164
 have hu : (mk (unsC (chs s) (y / 164))).length ≤ 4 := by rw [len_chs, chs_mk]; have := uns_len (chs s) (y / 164); rw [← len_chs] at this; omega
 have e0 : (Str.ofString "(").length = 1 := rfl
 have e9 : (Str.ofString ")").length = 1 := rfl
 conv => whnf
 refine wopt.mk (add_str (by omega)) ?_
 conv => whnf
 rw [e1]
 refine wopt.mk (hg.uns s (y / 164) (by omega)) ?_
 conv => whnf
 refine wopt.mk (add_str (by rw [len_append]; omega)) ?_
 conv => whnf
 refine wopt.mk (add_str (by rw [len_append, len_append]; omega)) ?_
 conv => whnf
 refine wopt.mk (add_str (by rw [len_append, len_append, len_append]; omega)) ?_
 exact ⟨rfl, rfl⟩)
theorem dr_4 {k : Nat} {a s c t : Str} (ha : a.length ≤ 1000) (hs : s.length ≤ 3) (hc : c.length ≤ 1000) (hk : k + 2 ≤ vs.length) (hv : vs.length ≤ 1000) : run1 Γ ownW scW (run Γ ownW scW 9) (rW script x numbers (.o vs) (.v (.int k)) (.v (.str s)) (.v (.str a)) seen (.v (.str c)) other (.v (.str t))) (nthS (ifA wIf) 3) = some (.next, rW script x numbers (.o (vs.take k ++ [.tup [.str (brac a s c), .str t]] ++ vs.drop (k + 2))) (.v (.int k)) (.v (.str s)) (.v (.str a)) seen (.v (.str c)) other (.v (.str t))) := run1_of (by
 have e0 : (Str.ofString "(").length = 1 := rfl
 have e9 : (Str.ofString ")").length = 1 := rfl
 conv => whnf
 refine wopt.mk (add_str (by omega)) ?_
 conv => whnf
 refine wopt.mk (add_str (by rw [len_append]; omega)) ?_
 conv => whnf
 refine wopt.mk (add_str (by rw [len_append, len_append]; omega)) ?_
 conv => whnf
 refine wopt.mk (add_str (by rw [len_append, len_append, len_append]; omega)) ?_
 conv => whnf
 refine Br.t (show (decide (0 ≤ (k : Int)) && decide ((k : Int) ≤ (k : Int) + 2) && decide ((k : Int) + 2 ≤ vs.length) && sizeOk (vs.length + 1)) = true from ?_) ?_
 ·rw [sizeOk_of (by omega)]
  simp
  omega
 ·exact ⟨rfl, rfl⟩)

def lvs : List Tre → Nat
 | [] => 0
 | t :: l => t.leaves + lvs l
theorem lvs_append : ∀ a b : List Tre, lvs (a ++ b) = lvs a + lvs b
 | [], b => by simp [lvs]
 | t :: a, b => by simp only [List.cons_append, lvs]; rw [lvs_append a b]; omega
theorem lvs_mem : ∀ {l : List Tre} {t : Tre}, t ∈ l → t.leaves ≤ lvs l
 | s :: l, t, h => by
  simp only [lvs]
  rcases List.mem_cons.mp h with rfl | h
  ·omega
  ·have := lvs_mem h; omega
theorem lvs_len : ∀ l : List Tre, l.length ≤ lvs l
 | [] => Nat.le_refl _
 | t :: l => by have := lvs_len l; have := t.leaves_pos; simp only [List.length_cons, lvs]; omega
theorem two_split {α : Type} : ∀ (ts : List α) (k : Nat), k + 2 ≤ ts.length → ∃ a l r b, ts = a ++ l :: r :: b ∧ a.length = k
 | l :: r :: b, 0, _ => ⟨[], l, r, b, rfl, rfl⟩
 | t :: ts, k + 1, h => by
  obtain ⟨a, l, r, b, e, e'⟩ := two_split ts k (by simp at h; omega)
  exact ⟨t :: a, l, r, b, by rw [e]; rfl, by simp [e']⟩
theorem dr_turn (hg : DrawG Γ) {y : Nat} {ts : List Tre} (hok : ∀ t ∈ ts, t.ok) (hl : lvs ts ≤ 5) :
  ∃ at' sign' left' seen' right' other' text' ts', run Γ ownW scW 11 (rW script (.v (.int y)) numbers (.o (ts.map nodeV)) at_ sign left seen right other text) (forBody wFor) = some (.next, rW script (.v (.int y)) numbers (.o (ts'.map nodeV)) at' sign' left' seen' right' other' text') ∧ (∀ t ∈ ts', t.ok) ∧ lvs ts' = lvs ts ∧ (ts'.length = ts.length - 1 ∨ (ts.length ≤ 1 ∧ ts' = ts)) := by
 have hn := lvs_len ts
 have hB : forBody wFor = [wIf] := by kernel_rfl
 have hI : wIf = .If (ndC wIf) (ifA wIf) [] (match wIf with | .If _ _ _ p => p | _ => default) := by kernel_rfl
 have hA : ifA wIf = [nthS (ifA wIf) 0, nthS (ifA wIf) 1, nthS (ifA wIf) 2, nthS (ifA wIf) 3] := by kernel_rfl
 have hc : ev Γ 40 .v scW (rW script (.v (.int y)) numbers (.o (ts.map nodeV)) at_ sign left seen right other text) (ndC wIf) = some (.bool (decide (1 < ts.length))) := dr_cond (by simp) (by omega)
 by_cases h1 : 1 < ts.length
 ·obtain ⟨n, hn2⟩ : ∃ n, ts.length = n + 2 := ⟨ts.length - 2, by omega⟩
  have hk : y / 41 % (n + 1) < n + 1 := Nat.mod_lt _ (by omega)
  obtain ⟨a, l, r, b, e, ea⟩ := two_split ts (y / 41 % (n + 1)) (by omega)
  have okl : l.ok := hok l (by rw [e]; simp)
  have okr : r.ok := hok r (by rw [e]; simp)
  have lle : l.leaves ≤ lvs ts := lvs_mem (by rw [e]; simp)
  have rle : r.leaves ≤ lvs ts := lvs_mem (by rw [e]; simp)
  have d1 := Tre.due_len okl
  have d2 := Tre.due_len okr
  have t1 := Tre.txt_len okl
  have t2 := Tre.txt_len okr
  have hs : y % 41 < 41 := Nat.mod_lt _ (by decide)
  refine ⟨.v (.int (y / 41 % (n + 1) : Nat)), .v (.str (sgL.getD (y % 41) ⟨#[]⟩)), .v (.str l.due), .v (.str l.txt), .v (.str r.due), .v (.str r.txt), .v (.str (brac l.txt (mk (unsC (chs (sgL.getD (y % 41) ⟨#[]⟩)) (y / 164))) r.txt)), a ++ .node l (y % 41) (y / 164) r :: b, ?_, ?_, ?_, ?_⟩
  ·rw [hB]
   show seqGo (run1 Γ ownW scW (run Γ ownW scW 10)) _ _ = _
   refine seqGo_one ?_
   rw [hI, if_run hc, decide_eq_true h1]
   show run Γ ownW scW 10 _ (ifA wIf) = _
   rw [hA]
   show seqGo (run1 Γ ownW scW (run Γ ownW scW 9)) _ _ = _
   have hcut : cutL (ts.map nodeV) (some ((y / 41 % (n + 1) : Nat) : Int)) (some (((y / 41 % (n + 1) : Nat) : Int) + 2)) = [.tup [.str l.due, .str l.txt], .tup [.str r.due, .str r.txt]] := by
    rw [show (((y / 41 % (n + 1) : Nat) : Int) + 2) = ((y / 41 % (n + 1) + 2 : Nat) : Int) from (Int.natCast_add _ 2).symm]
    rw [cutL_both (by simp; omega) (by simp; omega), e, List.map_append, ← ea, show a.length + 2 - a.length = 2 by omega]
    rw [List.drop_append_of_le_length (by simp), List.drop_of_length_le (by simp)]
    rfl
   have hlen : (ts.map nodeV).length ≤ 1000 := by simp; omega
   have hfin : (ts.map nodeV).take (y / 41 % (n + 1)) ++ [.tup [.str (brac l.due (sgL.getD (y % 41) ⟨#[]⟩) r.due), .str (brac l.txt (mk (unsC (chs (sgL.getD (y % 41) ⟨#[]⟩)) (y / 164))) r.txt)]] ++ (ts.map nodeV).drop (y / 41 % (n + 1) + 2) = (a ++ .node l (y % 41) (y / 164) r :: b).map nodeV := by
    have hnode : nodeV (.node l (y % 41) (y / 164) r) = .tup [.str (brac l.due (sgL.getD (y % 41) ⟨#[]⟩) r.due), .str (brac l.txt (mk (unsC (chs (sgL.getD (y % 41) ⟨#[]⟩)) (y / 164))) r.txt)] := by
     unfold nodeV
     rw [node_txt]
     rfl
    rw [← hnode, e, ← ea, List.map_append, List.map_append, List.take_append_of_le_length (by simp), List.take_of_length_le (by simp), List.drop_append, List.drop_of_length_le (l := a.map nodeV) (by simp)]
    simp
   rw [seq_next (dr_1 hg (by simp; exact hn2) (by omega)), seq_next (dr_2 hlen hcut), seq_next (dr_3 hg (sgL_short _) (by omega) (by omega)), seq_next (dr_4 (by omega) (sgL_short _) (by omega) (by simp; omega) hlen), hfin]
   rfl
  ·intro t ht
   rcases List.mem_append.mp ht with ht | ht
   ·exact hok t (by rw [e]; simp [ht])
   ·rcases List.mem_cons.mp ht with rfl | ht
    ·exact ⟨okl, hs, okr⟩
    ·exact hok t (by rw [e]; simp [ht])
  ·rw [e, lvs_append, lvs_append]
   simp only [lvs, Tre.leaves]
   omega
  ·left
   rw [e]; simp
 ·refine ⟨at_, sign, left, seen, right, other, text, ts, ?_, hok, rfl, .inr ⟨by omega, rfl⟩⟩
  rw [hB]
  show seqGo (run1 Γ ownW scW (run Γ ownW scW 10)) _ _ = _
  refine seqGo_one ?_
  rw [hI, if_run hc, decide_eq_false h1]
  rfl

theorem dr_bind {v : PV} : bindT scW ownW (forTarget wFor) v (rW script x numbers (.o vs) at_ sign left seen right other text) = some (rW script (.v v) numbers (.o vs) at_ sign left seen right other text) := by kernel_rfl
theorem dr_for (hg : DrawG Γ) : ∀ (ys : List Nat) (ts : List Tre) {x at_ sign left seen right other text : Slot}, (∀ t ∈ ts, t.ok) → lvs ts ≤ 5 → 1 ≤ ts.length →
  ∃ x' at' sign' left' seen' right' other' text' ts', forGo (run Γ ownW scW 11 · (forBody wFor)) (bindT scW ownW (forTarget wFor)) (ys.map fun (k : Nat) => .int k) (rW script x numbers (.o (ts.map nodeV)) at_ sign left seen right other text) = some (.next, rW script x' numbers (.o (ts'.map nodeV)) at' sign' left' seen' right' other' text') ∧ (∀ t ∈ ts', t.ok) ∧ lvs ts' = lvs ts ∧ 1 ≤ ts'.length ∧ ts'.length ≤ max 1 (ts.length - ys.length)
 | [], ts, x, at_, sign, left, seen, right, other, text, hok, hl, h1 => ⟨x, at_, sign, left, seen, right, other, text, ts, rfl, hok, rfl, h1, by simp; omega⟩
 | y :: ys, ts, x, at_, sign, left, seen, right, other, text, hok, hl, h1 => by
  obtain ⟨p1, p2, p3, p4, p5, p6, p7, ts1, e, ok1, l1, n1⟩ := dr_turn (Γ := Γ) (script := script) (numbers := numbers) (y := y) (ts := ts) (at_ := at_) (sign := sign) (left := left) (seen := seen) (right := right) (other := other) (text := text) hg hok hl
  obtain ⟨q0, q1, q2, q3, q4, q5, q6, q7, ts2, e', ok2, l2, n2, n3⟩ := dr_for hg ys ts1 (x := .v (.int y)) (at_ := p1) (sign := p2) (left := p3) (seen := p4) (right := p5) (other := p6) (text := p7) ok1 (by omega) (by
   rcases n1 with n1 | ⟨_, rfl⟩
   ·have := lvs_len ts1
    have : 1 ≤ lvs ts1 := by have := lvs_len ts; omega
    cases ts1 with
    | nil => simp [lvs] at this
    | cons t l => simp
   ·exact h1)
  refine ⟨q0, q1, q2, q3, q4, q5, q6, q7, ts2, ?_, ok2, by omega, n2, ?_⟩
  ·rw [List.map_cons]
   unfold forGo
   rw [dr_bind]
   simp only [Option.bind_eq_bind, Option.bind_some]
   rw [e]
   exact e'
  ·simp only [List.length_cons]
   rcases n1 with n1 | ⟨n1, rfl⟩
   ·omega
   ·omega
def mil (i : Int) : Nat := (i.fmod 1000000).toNat
def stdL : List Nat := [53126, 271838, 82, 155279, 301107]
def numsL (ns : List Int) : List Nat := (ns.take 5).map mil ++ stdL.drop (ns.take 5).length
theorem mil_eq (i : Int) : i.fmod 1000000 = (mil i : Int) := by
 unfold mil
 have : 0 ≤ i.fmod 1000000 := Int.fmod_nonneg_of_pos _ (by decide)
 omega
theorem nums_len (ns : List Int) : (numsL ns).length = 5 := by
 unfold numsL
 have : stdL.length = 5 := rfl
 rw [List.length_append, List.length_map, List.length_drop, List.length_take, this]
 omega
theorem run1_asgO {own : List (Str × Bool)} {sc : Sc} {ρ : Rho} {rec : Rho → List Stmt → Option (Fl × Rho)} {x : Str} {p q : Pos} {e : Expr} {vs : List PV} (h : ev Γ 40 .f sc ρ e = some (.lst vs)) (hx : storable sc x = true) (ho : own.lookup x = some false) (hp : popPair e = none) : run1 Γ own sc rec ρ (.Assign [.Name x p] e q) = some (.next, ρ.put x (.o vs)) := by
 show (match popPair e with
  | some (p, a) => asgPop own sc (ev Γ 40 · sc ρ ·) ρ x p a
  | none => asgName own sc (ev Γ 40 · sc ρ ·) ρ x e) = _
 rw [hp]
 unfold asgName
 dsimp only
 rw [if_pos hx, ho, h]
theorem turn_n {f : Expr → Option PV} {elt : Expr} {v : PV} (h : f elt = some v) : turnOf f [] elt = some [v] := by
 show (f elt).map ([·]) = _
 rw [h]; rfl
theorem dr_s0i {ns : List Int} (i : Int) {numbers nodes : Slot} : turnOf (ev Γ 39 .v (relab scW (lcScope (asgE (bodyI fdDrawn 0))).names) ((Str.ofString "x", .v (.int i)) :: lcRho scW (lcScope (asgE (bodyI fdDrawn 0))) (rW script x numbers nodes at_ sign left seen right other text))) [] (lcElt (asgE (bodyI fdDrawn 0))) = some [.int (mil i)] := by
 have h : ev Γ 39 .v (relab scW (lcScope (asgE (bodyI fdDrawn 0))).names) ((Str.ofString "x", .v (.int i)) :: lcRho scW (lcScope (asgE (bodyI fdDrawn 0))) (rW script x numbers nodes at_ sign left seen right other text)) (lcElt (asgE (bodyI fdDrawn 0))) = some (.int (i.fmod 1000000)) := by kernel_rfl
 rw [mil_eq] at h
 exact turn_n h
theorem dr_s0 {ns : List Int} (h : ns.length ≤ 1000) {numbers nodes : Slot} : run1 Γ ownW scW (run Γ ownW scW 11) (rW (.arg (ns.map .int)) x numbers nodes at_ sign left seen right other text) (bodyI fdDrawn 0) = some (.next, rW (.arg (ns.map .int)) x (.v (.lst ((ns.take 5).map fun i => .int (mil i)))) nodes at_ sign left seen right other text) := by
 have hcut : cutL (ns.map PV.int) none (some (5 : Int)) = (ns.take 5).map PV.int := by
  rw [List.map_take]
  unfold cutL
  simp only [Option.elim]
  by_cases h5 : 5 ≤ (ns.map PV.int).length
  ·rw [show (5 : Int) = ((5 : Nat) : Int) from rfl, clipAt_nat h5]; rfl
  ·rw [show (5 : Int) = ((5 : Nat) : Int) from rfl, clipAt_big (by omega), List.take_of_length_le (by simp), List.take_of_length_le (by omega)]
   rfl
 have hi : (ev Γ 39 .l scW (rW (.arg (ns.map .int)) x numbers nodes at_ sign left seen right other text) (lcIter (asgE (bodyI fdDrawn 0)))).bind itemsOf = some ((ns.take 5).map PV.int) := by
  have : ev Γ 39 .l scW (rW (.arg (ns.map .int)) x numbers nodes at_ sign left seen right other text) (lcIter (asgE (bodyI fdDrawn 0))) = some (.lst ((ns.take 5).map PV.int)) := ev_of (by
   conv => whnf
   refine wopt.mk (show cut (.arg (ns.map PV.int)) none (some 5) none = some (.lst ((ns.take 5).map PV.int)) from ?_) rfl
   rw [← hcut]
   exact if_pos (sizeOk_of (by simp; omega)))
  rw [this]
  exact if_pos (sizeOk_of (by simp; omega))
 have e : ((ns.take 5).map fun i => PV.int (mil i)) = ((ns.take 5).map fun i => [PV.int (mil i)]).flatten := (flat_single _ _).symm
 rw [e]
 exact run1_asg (ev_lc (by kernel_rfl) hi (sizeOk_of (by simp; omega)) (mapM_map fun i _ => dr_s0i (ns := ns) i)) (by kernel_rfl) (by kernel_rfl) (by kernel_rfl)

theorem dr_s1 {ns : List Int} {nodes : Slot} : run1 Γ ownW scW (run Γ ownW scW 11) (rW script x (.v (.lst ((ns.take 5).map fun i => .int (mil i)))) nodes at_ sign left seen right other text) (bodyI fdDrawn 1) = some (.next, rW script x (.v (.lst ((numsL ns).map fun (k : Nat) => .int k))) nodes at_ sign left seen right other text) := by
 have hl : ((ns.take 5).map fun i => PV.int (mil i)).length = (ns.take 5).length := by simp
 have h5 : (ns.take 5).length ≤ 5 := by rw [List.length_take]; omega
 have e : (ns.take 5).map (fun i => PV.int (mil i)) ++ cutL (stdL.map fun (k : Nat) => PV.int k) (some ((ns.take 5).length : Int)) none = (numsL ns).map fun (k : Nat) => .int k := by
  rw [cutL_lo (by simp [stdL]; omega)]
  unfold numsL
  rw [List.map_append, List.map_map, List.map_drop]
  rfl
 refine run1_asg (ev_of ?_) (by kernel_rfl) (by kernel_rfl) (by kernel_rfl)
 generalize (ns.take 5).map (fun i => PV.int (mil i)) = L at *
 conv => whnf
 refine wopt.mk (len_lst (by omega)) ?_
 rw [hl]
 conv => whnf
 refine wopt.mk (add_lst (b := cutL (stdL.map fun (k : Nat) => PV.int k) (some ((ns.take 5).length : Int)) none) (Nat.le_trans (Nat.add_le_add (Nat.le_refl _) (cutL_len _ _ _)) (by rw [hl]; simp [stdL]; omega))) ?_
 rw [e]
theorem dr_s2 (hg : DrawG Γ) {vs0 : List PV} (hvs : vs0.length ≤ 1000) {L : List Nat} (hL : L.length = 5) : run1 Γ ownW scW (run Γ ownW scW 11) (rW (.arg vs0) x (.v (.lst (L.map fun (k : Nat) => .int k))) .u at_ sign left seen right other text) (bodyI fdDrawn 2) = some (.next, rW (.arg vs0) x (.v (.lst (L.map fun (k : Nat) => .int k))) (.o (((L.take (if 1 < vs0.length then 5 else 4)).map leafOf).map nodeV)) at_ sign left seen right other text) := by
 have hi : (ev Γ 39 .l scW (rW (.arg vs0) x (.v (.lst (L.map fun (k : Nat) => .int k))) .u at_ sign left seen right other text) (lcIter (asgE (bodyI fdDrawn 2)))).bind itemsOf = some ((L.take (if 1 < vs0.length then 5 else 4)).map fun (k : Nat) => .int k) := by
  have : ev Γ 39 .l scW (rW (.arg vs0) x (.v (.lst (L.map fun (k : Nat) => .int k))) .u at_ sign left seen right other text) (lcIter (asgE (bodyI fdDrawn 2))) = some (.lst ((L.take (if 1 < vs0.length then 5 else 4)).map fun (k : Nat) => .int k)) := ev_of (by
   conv => whnf
   refine wopt.mk (show blt "len" [.arg vs0] = some (.int vs0.length) from if_pos (sizeOk_of (by omega))) ?_
   conv => whnf
   refine Br.mk (fun h => ?_) (fun h => ?_)
   ·have h : decide ((vs0.length : Int) > 1) = true := h
    rw [if_pos (show 1 < vs0.length by have := of_decide_eq_true h; omega)]
    conv => whnf
    refine wopt.mk (cut_lst (by simp; omega)) ?_
    rw [show (5 : Int) = ((5 : Nat) : Int) from rfl, cutL_hi (by simp; omega), List.map_take]
   ·have h : decide ((vs0.length : Int) > 1) = false := h
    rw [if_neg (show ¬ 1 < vs0.length by have := of_decide_eq_false h; omega)]
    conv => whnf
    refine wopt.mk (cut_lst (by simp; omega)) ?_
    rw [show (4 : Int) = ((4 : Nat) : Int) from rfl, cutL_hi (by simp; omega), List.map_take])
  rw [this]
  exact if_pos (sizeOk_of (by rw [List.length_map, List.length_take]; omega))
 have e : (((L.take (if 1 < vs0.length then 5 else 4)).map leafOf).map nodeV) = ((L.take (if 1 < vs0.length then 5 else 4)).map fun k => [nodeV (leafOf k)]).flatten := by
  rw [List.map_map]
  exact (flat_single _ _).symm
 rw [e]
 refine run1_asgO (ev_lc (by kernel_rfl) hi (sizeOk_of (by rw [List.length_map, List.length_take]; omega)) (mapM_map fun k _ => ?_)) (by kernel_rfl) (by kernel_rfl) (by kernel_rfl)
 refine turn_n (ev_of ?_)
 conv => whnf
 refine wopt.mk (hg.name k) ?_
 rfl
theorem draw_call (hg : DrawG Γ) {ns : List Int} (h : ns.length ≤ 1000) : ∃ t : Tre, callF Γ ownW 12 fdDrawn [.arg (ns.map .int)] = some (nodeV t) ∧ t.ok ∧ 4 ≤ t.leaves ∧ t.leaves ≤ 5 := by
 have hB : bodyOf fdDrawn = [bodyI fdDrawn 0, bodyI fdDrawn 1, bodyI fdDrawn 2, wFor, bodyI fdDrawn 4] := by kernel_rfl
 let m := if 1 < (ns.map PV.int).length then 5 else 4
 have hm : m = 5 ∨ m = 4 := by show (if _ then _ else _) = _ ∨ (if _ then _ else _) = _; split <;> simp
 have hL := nums_len ns
 have hlf : ∀ l : List Nat, lvs (l.map leafOf) = l.length := fun l => by
  induction l with
  | nil => rfl
  | cons a l ih => simp only [List.map_cons, lvs, ih, List.length_cons]; show 1 + _ = _; omega
 obtain ⟨q0, q1, q2, q3, q4, q5, q6, q7, ts, e, ok, hlv, n1, n2⟩ := dr_for (Γ := Γ) (script := .arg (ns.map .int)) (numbers := .v (.lst ((numsL ns).map fun (k : Nat) => .int k))) hg (numsL ns).reverse (((numsL ns).take m).map leafOf) (x := .u) (at_ := .u) (sign := .u) (left := .u) (seen := .u) (right := .u) (other := .u) (text := .u) (fun t ht => by obtain ⟨k, _, rfl⟩ := List.mem_map.mp ht; exact leaf_ok k) (by rw [hlf, List.length_take]; omega) (by rw [List.length_map, List.length_take]; omega)
 rw [hlf, List.length_take] at hlv
 rw [List.length_map, List.length_take, List.length_reverse] at n2
 obtain ⟨t, rfl⟩ : ∃ t, ts = [t] := by
  match ts, n1, n2 with
  | [t], _, _ => exact ⟨t, rfl⟩
  | a :: b :: r, _, h => simp at h; omega
 have hlv : t.leaves + 0 = min m (numsL ns).length := hlv
 refine ⟨t, ?_, ok t (by simp), by omega, by omega⟩
 have r3 : run1 Γ ownW scW (run Γ ownW scW 11) (rW (.arg (ns.map .int)) .u (.v (.lst ((numsL ns).map fun (k : Nat) => .int k))) (.o ((((numsL ns).take m).map leafOf).map nodeV)) .u .u .u .u .u .u .u) wFor = some (.next, rW (.arg (ns.map .int)) q0 (.v (.lst ((numsL ns).map fun (k : Nat) => .int k))) (.o ([t].map nodeV)) q1 q2 q3 q4 q5 q6 q7) := by
  have hit : ev Γ 40 .v scW (rW (.arg (ns.map .int)) .u (.v (.lst ((numsL ns).map fun (k : Nat) => .int k))) (.o ((((numsL ns).take m).map leafOf).map nodeV)) .u .u .u .u .u .u .u) (forIter wFor) = some (.lst ((numsL ns).reverse.map fun (k : Nat) => .int k)) := ev_of (by
   generalize hLL : (numsL ns).map (fun (k : Nat) => PV.int k) = LL
   have hlen : LL.length = 5 := by rw [← hLL, List.length_map, hL]
   conv => whnf
   refine wopt.mk (show cut (.lst LL) none none (some (-1)) = some (.lst LL.reverse) from if_pos (sizeOk_of (by omega))) ?_
   rw [List.map_reverse, hLL])
  show (match ev Γ 40 .v scW _ (forIter wFor) with
   | some v => (match itemsOf v with
    | some vs => forGo (run Γ ownW scW 11 · (forBody wFor)) (bindT scW ownW (forTarget wFor)) vs _
    | none => none)
   | none => none) = _
  rw [hit]
  show (match itemsOf (.lst ((numsL ns).reverse.map fun (k : Nat) => .int k)) with
    | some vs => forGo (run Γ ownW scW 11 · (forBody wFor)) (bindT scW ownW (forTarget wFor)) vs _
    | none => none) = _
  rw [show itemsOf (.lst ((numsL ns).reverse.map fun (k : Nat) => .int k)) = some _ from if_pos (sizeOk_of (by simp; omega))]
  exact e
 refine callF_ret ok_drawn.body (by rfl) (ρ' := rW (.arg (ns.map .int)) q0 (.v (.lst ((numsL ns).map fun (k : Nat) => .int k))) (.o ([t].map nodeV)) q1 q2 q3 q4 q5 q6 q7) ?_
 rw [hB]
 show seqGo (run1 Γ ownW scW (run Γ ownW scW 11)) (rW (.arg (ns.map .int)) .u .u .u .u .u .u .u .u .u .u) _ = _
 rw [seq_next (dr_s0 h), seq_next dr_s1, seq_next (dr_s2 hg (by simp; omega) hL), seq_next r3]
 exact seq_ret (ret_of (by kernel_rfl) (by kernel_rfl))
end

/-! ## quoted blocks taken out -/
def U.ok : U → Prop
 | .p c => c ≠ 34 ∧ c ≠ 92
 | .e _ => True
def Ck.ok : Ck → Prop
 | .u x => x.ok
 | .q us => ∀ x ∈ us, x.ok
def Ck.kept : Ck → List Nat
 | .u x => x.src
 | .q _ => []
def cqt : Str := Str.ofString "\""
abbrev scQ : Sc := fdStrip.scope.names
abbrev ownQ : List (Str × Bool) := [("result", false)]
def rQ (addr : Str) (start open_ : Slot) (res : List Str) (pos ch : Slot) : Rho := [("addr", .v (.str addr)), ("start", start), ("open_pos", open_), ("result", .o (res.map .str)), ("pos", pos), ("ch", ch)]
def qFor : Stmt := bodyI fdStrip 4
section
variable {Γ : G} {addr : Str} {start : Nat} {open_ pos ch : Slot} {res : List Str} {p o : Nat}
theorem sq_bind {v : Nat × List Nat} {st : Slot} : bindT scQ ownQ (forTarget qFor) (escV v) (rQ addr st open_ res pos ch) = some (rQ addr st open_ res (.v (.int v.1)) (.v (.str (mk v.2)))) := by kernel_rfl
theorem sq_no {l : List Nat} {st : Slot} (h : (l == [34]) = false) : run Γ ownQ scQ 11 (rQ addr st open_ res pos (.v (.str (mk l)))) (forBody qFor) = some (.next, rQ addr st open_ res pos (.v (.str (mk l)))) := run_of (by
 conv => whnf
 refine Br.f h ?_
 conv => whnf
 exact ⟨rfl, rfl⟩)
theorem sq_open {st : Slot} : run Γ ownQ scQ 11 (rQ addr st (.v .none) res (.v (.int p)) (.v (.str (mk [34])))) (forBody qFor) = some (.next, rQ addr st (.v (.int p)) res (.v (.int p)) (.v (.str (mk [34])))) := by kernel_rfl
theorem sq_close (ha : addr.length ≤ 1000) (hr : res.length ≤ 1000) : run Γ ownQ scQ 11 (rQ addr (.v (.int start)) (.v (.int o)) res (.v (.int p)) (.v (.str (mk [34])))) (forBody qFor) = some (.next, rQ addr (.v (.int ((p + 1 : Nat) : Int))) (.v .none) (if start = o then res else res ++ [cutS addr (some (start : Int)) (some (o : Int))]) (.v (.int p)) (.v (.str (mk [34])))) := run_of (by
 conv => whnf
 refine Br.mk (fun h => ?_) (fun h => ?_)
 ·have h : ((start : Int) != (o : Int)) = true := h
  have h : start ≠ o := by simp at h; omega
  rw [if_neg h]
  conv => whnf
  refine wopt.mk (cut_str (by omega)) ?_
  conv => whnf
  refine Br.t (show sizeOk (res.map PV.str).length = true from sizeOk_of (by simp; omega)) ?_
  conv => whnf
  rw [show res.map PV.str ++ [PV.str (cutS addr (some (start : Int)) (some (o : Int)))] = (res ++ [cutS addr (some (start : Int)) (some (o : Int))]).map PV.str by simp]
  exact ⟨rfl, rfl⟩
 ·have h : ((start : Int) != (o : Int)) = false := h
  have h : start = o := by simp at h; omega
  rw [if_pos h]
  conv => whnf
  exact ⟨rfl, rfl⟩)
abbrev sqRun (Γ : G) (items : List (Nat × List Nat)) (ρ : Rho) : Option (Fl × Rho) := forGo (run Γ ownQ scQ 11 · (forBody qFor)) (bindT scQ ownQ (forTarget qFor)) (items.map escV) ρ
theorem sq_step {v : Nat × List Nat} {items : List (Nat × List Nat)} {st st' op op' : Slot} {res' : List Str} (h : run Γ ownQ scQ 11 (rQ addr st op res (.v (.int v.1)) (.v (.str (mk v.2)))) (forBody qFor) = some (.next, rQ addr st' op' res' (.v (.int v.1)) (.v (.str (mk v.2))))) : sqRun Γ (v :: items) (rQ addr st op res pos ch) = sqRun Γ items (rQ addr st' op' res' (.v (.int v.1)) (.v (.str (mk v.2)))) := by
 unfold sqRun
 rw [List.map_cons]
 conv => lhs; unfold forGo
 rw [sq_bind]
 simp only [Option.bind_eq_bind, Option.bind_some]
 rw [h]
 rfl
theorem esc_p {p c : Nat} {r : List Nat} (h : c ≠ 92) : escGo p false (c :: r) = (p, [c]) :: escGo (p + 1) false r := by
 conv => lhs; unfold escGo
 rw [if_neg h]
theorem esc_e {p c : Nat} {r : List Nat} : escGo p false (92 :: c :: r) = (p + 1, [92, c]) :: escGo (p + 2) false r := by
 conv => lhs; unfold escGo
 rw [if_pos rfl]
 conv => lhs; unfold escGo
theorem sq_units {st op : Slot} : ∀ (us : List U) (p : Nat) (r : List Nat) {pos ch : Slot}, (∀ x ∈ us, x.ok) → ∃ pos' ch', sqRun Γ (escGo p false (us.flatMap U.src ++ r)) (rQ addr st op res pos ch) = sqRun Γ (escGo (p + (us.flatMap U.src).length) false r) (rQ addr st op res pos' ch')
 | [], p, r, pos, ch, _ => ⟨pos, ch, rfl⟩
 | .p c :: us, p, r, pos, ch, h => by
  have hc : (U.p c).ok := h _ List.mem_cons_self
  obtain ⟨pos', ch', e⟩ := sq_units us (p + 1) r (pos := .v (.int p)) (ch := .v (.str (mk [c]))) (fun x hx => h x (List.mem_cons_of_mem _ hx))
  refine ⟨pos', ch', ?_⟩
  rw [List.flatMap_cons, List.append_assoc]
  show sqRun Γ (escGo p false (c :: (us.flatMap U.src ++ r))) _ = _
  rw [esc_p hc.2, sq_step (sq_no (by simpa using hc.1)), e, show p + 1 + (us.flatMap U.src).length = p + ((U.p c).src ++ us.flatMap U.src).length by rw [List.length_append]; show p + 1 + _ = p + (1 + _); omega]
 | .e c :: us, p, r, pos, ch, h => by
  obtain ⟨pos', ch', e⟩ := sq_units us (p + 2) r (pos := .v (.int (p + 1 : Nat))) (ch := .v (.str (mk [92, c]))) (fun x hx => h x (List.mem_cons_of_mem _ hx))
  refine ⟨pos', ch', ?_⟩
  rw [List.flatMap_cons, List.append_assoc]
  show sqRun Γ (escGo p false (92 :: c :: (us.flatMap U.src ++ r))) _ = _
  rw [esc_e, sq_step (sq_no (by rfl)), e, show p + 2 + (us.flatMap U.src).length = p + ((U.e c).src ++ us.flatMap U.src).length by rw [List.length_append]; show p + 2 + _ = p + (2 + _); omega]

theorem cut_part {A : Str} {a b : Nat} (h : a ≤ b) (hb : b ≤ (chs A).length) : chs (cutS A (some (a : Int)) (some (b : Int))) = ((chs A).drop a).take (b - a) := by
 rw [chs_cut, cutL_both (by omega) hb]
theorem take_part {pre x r : List Nat} {s : Nat} (h : s ≤ pre.length) : ((pre ++ (x ++ r)).drop s).take (pre.length + x.length - s) = ((pre ++ (x ++ r)).drop s).take (pre.length - s) ++ x := by
 have hl : (pre.drop s).length = pre.length - s := List.length_drop
 rw [List.drop_append_of_le_length h, List.take_append_of_le_length (i := pre.length - s) (by omega), List.take_append, List.take_append, hl]
 rw [List.take_of_length_le (l := pre.drop s) (by omega), List.take_of_length_le (l := pre.drop s) (by omega)]
 rw [show pre.length + x.length - s - (pre.length - s) = x.length by omega, Nat.sub_self, List.take_zero, List.append_nil, List.take_length]
theorem sq_chunks (addr : Str) (ha : addr.length ≤ 1000) : ∀ (cs : List Ck) (pre tail : List Nat) (start : Nat) (res : List Str) {pos ch : Slot}, chs addr = pre ++ (srcs cs ++ tail) → (∀ x ∈ cs, x.ok) → start ≤ pre.length → res.length ≤ pre.length →
  ∃ (start' : Nat) (res' : List Str) (pos' ch' : Slot), sqRun Γ (escGo pre.length false (srcs cs ++ tail)) (rQ addr (.v (.int start)) (.v .none) res pos ch) = sqRun Γ (escGo (pre.length + (srcs cs).length) false tail) (rQ addr (.v (.int start')) (.v .none) res' pos' ch') ∧ start' ≤ pre.length + (srcs cs).length ∧ res'.length ≤ pre.length + (srcs cs).length ∧
   res'.flatMap chs ++ ((chs addr).drop start').take (pre.length + (srcs cs).length - start') = res.flatMap chs ++ ((chs addr).drop start).take (pre.length - start) ++ cs.flatMap Ck.kept
 | [], pre, tail, start, res, pos, ch, hA, hok, hs, hr => ⟨start, res, pos, ch, rfl, hs, hr, (List.append_nil _).symm⟩
 | .u x :: cs, pre, tail, start, res, pos, ch, hA, hok, hs, hr => by
  have hx : (Ck.u x).ok := hok _ List.mem_cons_self
  obtain ⟨pos1, ch1, e1⟩ := sq_units (Γ := Γ) (addr := addr) (res := res) (st := .v (.int start)) (op := .v .none) [x] pre.length (srcs cs ++ tail) (pos := pos) (ch := ch) (fun y hy => by rw [List.mem_singleton] at hy; subst hy; exact hx)
  have es : srcs (Ck.u x :: cs) = x.src ++ srcs cs := rfl
  have es1 : [x].flatMap U.src = x.src := by simp
  have hA' : chs addr = (pre ++ x.src) ++ (srcs cs ++ tail) := by rw [hA, es]; simp
  obtain ⟨start', res', pos', ch', e, h1, h2, h3⟩ := sq_chunks addr ha cs (pre ++ x.src) tail start res (pos := pos1) (ch := ch1) hA' (fun y hy => hok y (List.mem_cons_of_mem _ hy)) (by rw [List.length_append]; omega) (by rw [List.length_append]; omega)
  rw [es1] at e1
  rw [List.length_append] at e h1 h2 h3
  refine ⟨start', res', pos', ch', ?_, by rw [es, List.length_append]; omega, by rw [es, List.length_append]; omega, ?_⟩
  ·rw [es, List.append_assoc, e1, e, List.length_append, Nat.add_assoc]
  ·rw [es, List.length_append, ← Nat.add_assoc, h3, List.flatMap_cons]
   have : ((chs addr).drop start).take (pre.length + x.src.length - start) = ((chs addr).drop start).take (pre.length - start) ++ x.src := by
    rw [hA, es, List.append_assoc]
    exact take_part hs
   rw [this]
   show _ = _ ++ (x.src ++ _)
   simp
 | .q us :: cs, pre, tail, start, res, pos, ch, hA, hok, hs, hr => by
  have hx : (Ck.q us).ok := hok _ List.mem_cons_self
  have es : srcs (Ck.q us :: cs) = [34] ++ (us.flatMap U.src ++ ([34] ++ srcs cs)) := by show (34 :: us.flatMap U.src ++ [34]) ++ srcs cs = _; simp
  have hlen : (chs addr).length ≤ 1000 := by rw [← len_chs]; exact ha
  have hlA := congrArg List.length hA
  rw [es] at hlA
  simp only [List.length_append, List.length_cons, List.length_nil] at hlA
  obtain ⟨pos1, ch1, e1⟩ := sq_units (Γ := Γ) (addr := addr) (res := res) (st := .v (.int start)) (op := .v (.int pre.length)) us (pre.length + 1) ([34] ++ srcs cs ++ tail) (pos := .v (.int pre.length)) (ch := .v (.str (mk [34]))) hx
  have hA' : chs addr = (pre ++ ([34] ++ us.flatMap U.src ++ [34])) ++ (srcs cs ++ tail) := by rw [hA, es]; simp
  obtain ⟨start', res', pos', ch', e, h1, h2, h3⟩ := sq_chunks addr ha cs (pre ++ ([34] ++ us.flatMap U.src ++ [34])) tail (pre.length + 1 + (us.flatMap U.src).length + 1) (if start = pre.length then res else res ++ [cutS addr (some (start : Int)) (some (pre.length : Int))]) (pos := .v (.int (pre.length + 1 + (us.flatMap U.src).length : Nat))) (ch := .v (.str (mk [34]))) hA' (fun y hy => hok y (List.mem_cons_of_mem _ hy)) (by simp; omega) (by split <;> simp <;> omega)
  have hL : (pre ++ ([34] ++ us.flatMap U.src ++ [34])).length = pre.length + 1 + (us.flatMap U.src).length + 1 := by simp; omega
  have hS : pre.length + (srcs (Ck.q us :: cs)).length = pre.length + 1 + (us.flatMap U.src).length + 1 + (srcs cs).length := by rw [es]; simp; omega
  rw [hL] at e h1 h2 h3
  rw [hS]
  refine ⟨start', res', pos', ch', ?_, h1, h2, ?_⟩
  ·rw [es, List.append_assoc, List.append_assoc]
   show sqRun Γ (escGo pre.length false (34 :: (us.flatMap U.src ++ ([34] ++ srcs cs ++ tail)))) _ = _
   rw [esc_p (by decide), sq_step sq_open, e1]
   show sqRun Γ (escGo (pre.length + 1 + (us.flatMap U.src).length) false (34 :: (srcs cs ++ tail))) _ = _
   rw [esc_p (by decide), sq_step (sq_close ha (by omega)), e]
  ·rw [h3, List.flatMap_cons]
   show _ ++ List.take _ _ ++ _ = _ ++ _ ++ ([] ++ _)
   rw [Nat.sub_self, List.take_zero, List.append_nil, List.nil_append]
   congr 1
   by_cases hq : start = pre.length
   ·rw [if_pos hq, hq, Nat.sub_self, List.take_zero, List.append_nil]
   ·rw [if_neg hq, List.flatMap_append, List.flatMap_cons, List.flatMap_nil, List.append_nil, cut_part hs (by omega)]

theorem esc_end {p : Nat} : escGo p false [34, 92] = [(p, [34]), (p + 1, [92])] := by
 rw [esc_p (by decide)]
 conv => lhs; arg 2; unfold escGo
 rw [if_pos rfl]
 rfl
theorem chs_dropN {A : Str} {a : Nat} (h : a ≤ (chs A).length) : chs (cutS A (some (a : Int)) none) = (chs A).drop a := by
 rw [chs_cut, cutL_lo h]
theorem sum_flat : ∀ xs : List Str, (xs.map (·.length)).sum = (xs.flatMap chs).length
 | [] => rfl
 | x :: r => by rw [List.map_cons, List.sum_cons, List.flatMap_cons, List.length_append, sum_flat r, len_chs]
theorem kept_len : ∀ cs : List Ck, (cs.flatMap Ck.kept).length ≤ (srcs cs).length
 | [] => Nat.le_refl _
 | .u x :: cs => by
  have := kept_len cs
  show (x.src ++ cs.flatMap Ck.kept).length ≤ (x.src ++ srcs cs).length
  rw [List.length_append, List.length_append]; omega
 | .q us :: cs => by
  have := kept_len cs
  show ([] ++ cs.flatMap Ck.kept).length ≤ ((34 :: us.flatMap U.src ++ [34]) ++ srcs cs).length
  rw [List.length_append, List.length_append (bs := srcs cs)]; simp only [List.length_nil]; omega
theorem strip_call (hgen : ∀ x : Str, Γ.gen "_iter_escaped_chars" [.str x] = some (escOf (chs x))) {cs : List Ck} (hok : ∀ x ∈ cs, x.ok) (hl : (srcs cs).length ≤ 900) : callF Γ ownQ 12 fdStrip [.str (mk (srcs cs ++ [34, 92]))] = some (.str (mk (cs.flatMap Ck.kept ++ [34, 92]))) := by
 have hB : bodyOf fdStrip = [bodyI fdStrip 0, bodyI fdStrip 1, bodyI fdStrip 2, bodyI fdStrip 3, qFor, bodyI fdStrip 5, bodyI fdStrip 6] := by kernel_rfl
 have hA : chs (mk (srcs cs ++ [34, 92])) = [] ++ (srcs cs ++ [34, 92]) := by rw [chs_mk]; rfl
 have hlen : (mk (srcs cs ++ [34, 92])).length ≤ 1000 := by rw [len_chs, chs_mk]; simp; omega
 have hmem : 34 ∈ (mk (srcs cs ++ [34, 92])).cps.toList := by show 34 ∈ chs _; rw [chs_mk]; simp
 generalize hx : mk (srcs cs ++ [34, 92]) = addr at *
 obtain ⟨start', res', pos', ch', e, h1, h2, h3⟩ := sq_chunks (Γ := Γ) addr hlen cs [] [34, 92] 0 [] (pos := .u) (ch := .u) hA hok (Nat.le_refl _) (Nat.le_refl _)
 have hlenA : (chs addr).length = (srcs cs).length + 2 := by rw [hA]; simp
 simp only [List.length_nil, Nat.zero_add] at e h1 h2 h3
 rw [esc_end, sq_step sq_open, sq_step (sq_no (by rfl))] at e
 have hnot : cmp .NotIn (.str cqt) (.str addr) = some false := by
  show (if sizeOk addr.length then some (!Txt.contains addr cqt) else none) = _
  rw [if_pos (sizeOk_of (by omega))]
  congr 1
  show (!(!(PySem.Builtin.Str.occurrences addr cqt 0 addr.length 1).isEmpty)) = false
  rw [show cqt = ⟨#[34]⟩ from rfl, StrLaws.found_one, decide_eq_true hmem]
  rfl
 have c0 : ev Γ 40 .v scQ (putAll ((fdStrip.params.args.map (·.arg)).zip [.str addr]) (rho0 scQ)) (ndC (bodyI fdStrip 0)) = some (.bool false) := ev_of (by
  conv => whnf
  refine wopt.mk hnot ?_
  rfl)
 have r0 : run1 Γ ownQ scQ (run Γ ownQ scQ 11) (putAll ((fdStrip.params.args.map (·.arg)).zip [.str addr]) (rho0 scQ)) (bodyI fdStrip 0) = some (.next, putAll ((fdStrip.params.args.map (·.arg)).zip [.str addr]) (rho0 scQ)) := by
  have hI : bodyI fdStrip 0 = .If (ndC (bodyI fdStrip 0)) (ifA (bodyI fdStrip 0)) [] (match bodyI fdStrip 0 with | .If _ _ _ p => p | _ => default) := by kernel_rfl
  rw [hI, if_run c0]
  rfl
 have r123 : ∀ rest, seqGo (run1 Γ ownQ scQ (run Γ ownQ scQ 11)) (putAll ((fdStrip.params.args.map (·.arg)).zip [.str addr]) (rho0 scQ)) (bodyI fdStrip 1 :: bodyI fdStrip 2 :: bodyI fdStrip 3 :: rest) = seqGo (run1 Γ ownQ scQ (run Γ ownQ scQ 11)) (rQ addr (.v (.int ((0 : Nat) : Int))) (.v .none) [] .u .u) rest := fun rest => by
  rw [seq_next (ρ' := (putAll ((fdStrip.params.args.map (·.arg)).zip [.str addr]) (rho0 scQ)).put "start" (.v (.int 0))) (by kernel_rfl)]
  rw [seq_next (ρ' := ((putAll ((fdStrip.params.args.map (·.arg)).zip [.str addr]) (rho0 scQ)).put "start" (.v (.int 0))).put "open_pos" (.v .none)) (by kernel_rfl)]
  rw [seq_next (ρ' := rQ addr (.v (.int ((0 : Nat) : Int))) (.v .none) [] .u .u) (by kernel_rfl)]
 have r4 : run1 Γ ownQ scQ (run Γ ownQ scQ 11) (rQ addr (.v (.int ((0 : Nat) : Int))) (.v .none) [] .u .u) qFor = some (.next, rQ addr (.v (.int start')) (.v (.int (srcs cs).length)) res' (.v (.int ((srcs cs).length + 1 : Nat))) (.v (.str (mk [92])))) := by
  have hg : genOf scQ (ev Γ 40 · scQ (rQ addr (.v (.int ((0 : Nat) : Int))) (.v .none) [] .u .u) ·) Γ (forIter qFor) = some (some (escOf (chs addr))) := by
   show (Γ.gen "_iter_escaped_chars" [.str addr]).map some = _
   rw [hgen]; rfl
  show (match genOf scQ (ev Γ 40 · scQ (rQ addr (.v (.int ((0 : Nat) : Int))) (.v .none) [] .u .u) ·) Γ (forIter qFor) with
   | some (some items) => forGo (run Γ ownQ scQ 11 · (forBody qFor)) (bindT scQ ownQ (forTarget qFor)) items _
   | _ => _) = _
  rw [hg]
  show forGo (run Γ ownQ scQ 11 · (forBody qFor)) (bindT scQ ownQ (forTarget qFor)) ((escGo 0 false (chs addr)).map escV) _ = _
  rw [hA]
  exact e
 have hcut : cutS addr (some (start' : Int)) none = mk ((chs addr).drop start') := str_ext (by rw [chs_dropN (by omega), chs_mk])
 have r5 : run1 Γ ownQ scQ (run Γ ownQ scQ 11) (rQ addr (.v (.int start')) (.v (.int (srcs cs).length)) res' (.v (.int ((srcs cs).length + 1 : Nat))) (.v (.str (mk [92])))) (bodyI fdStrip 5) = some (.next, rQ addr (.v (.int start')) (.v (.int (srcs cs).length)) (res' ++ [mk ((chs addr).drop start')]) (.v (.int ((srcs cs).length + 1 : Nat))) (.v (.str (mk [92])))) := run1_of (by
  conv => whnf
  refine wopt.mk (len_str (by omega)) ?_
  conv => whnf
  refine Br.t (show decide ((start' : Int) < (addr.length : Int)) = true from decide_eq_true (by rw [len_chs, hlenA]; omega)) ?_
  conv => whnf
  refine wopt.mk (cut_str (by omega)) ?_
  rw [hcut]
  conv => whnf
  refine Br.t (show sizeOk (res'.map PV.str).length = true from sizeOk_of (by simp; omega)) ?_
  conv => whnf
  rw [show res'.map PV.str ++ [PV.str (mk ((chs addr).drop start'))] = (res' ++ [mk ((chs addr).drop start')]).map PV.str by simp]
  exact ⟨rfl, rfl⟩)
 have hfin : (res' ++ [mk ((chs addr).drop start')]).flatMap chs = cs.flatMap Ck.kept ++ [34, 92] := by
  rw [List.flatMap_append, List.flatMap_cons, List.flatMap_nil, List.append_nil, chs_mk]
  have h4 : (chs addr).drop start' = ((chs addr).drop start').take ((srcs cs).length - start') ++ [34, 92] := by
   rw [hA, List.nil_append]
   rw [List.drop_append_of_le_length h1, List.take_append_of_le_length (by rw [List.length_drop]; omega), List.take_of_length_le (l := (srcs cs).drop start') (by rw [List.length_drop]; omega)]
  rw [h4, ← List.append_assoc, h3]
  simp
 have r6 : ev Γ 40 .v scQ (rQ addr (.v (.int start')) (.v (.int (srcs cs).length)) (res' ++ [mk ((chs addr).drop start')]) (.v (.int ((srcs cs).length + 1 : Nat))) (.v (.str (mk [92])))) (retE (bodyI fdStrip 6)) = some (.str (mk (cs.flatMap Ck.kept ++ [34, 92]))) := ev_of (by
  rw [← hfin]
  conv => whnf
  refine wopt.mk (join_str (by
   rw [sum_flat, hfin]
   have := kept_len cs
   rw [List.length_append]
   show _ + 2 ≤ _
   omega)) ?_
  rfl)
 refine callF_ret ok_strip.body (by rfl) (ρ' := rQ addr (.v (.int start')) (.v (.int (srcs cs).length)) (res' ++ [mk ((chs addr).drop start')]) (.v (.int ((srcs cs).length + 1 : Nat))) (.v (.str (mk [92])))) ?_
 rw [hB]
 show seqGo (run1 Γ ownQ scQ (run Γ ownQ scQ 11)) _ _ = _
 rw [seq_next r0, r123, seq_next r4, seq_next r5]
 exact seq_ret (ret_of (by kernel_rfl) r6)
end

/-! ## the page of lines -/
def unitsOf : List Ck → List U
 | [] => []
 | .u x :: l => x :: unitsOf l
 | .q _ :: l => unitsOf l
theorem kept_units : ∀ l : List Ck, l.flatMap Ck.kept = (unitsOf l).flatMap U.src
 | [] => rfl
 | .u x :: l => by
  show x.src ++ l.flatMap Ck.kept = x.src ++ (unitsOf l).flatMap U.src
  rw [kept_units l]
 | .q us :: l => by
  show [] ++ l.flatMap Ck.kept = (unitsOf l).flatMap U.src
  rw [kept_units l]; rfl
def U.fold : U → List Nat
 | .p c => fold1 c
 | .e _ => []
abbrev scL : Sc := fdLines.scope.names
abbrev ownL : List (Str × Bool) := [("lines", true)]
def rL (text : Str) (left plain seen place unit lines level fresh pieces number : Slot) : Rho := [("text", .v (.str text)), ("left", left), ("plain", plain), ("seen", seen), ("place", place), ("unit", unit), ("lines", lines), ("level", level), ("fresh", fresh), ("pieces", pieces), ("number", number)]
def lFor : Stmt := bodyI fdLines 2
def lIf1 : Stmt := nthS (forBody lFor) 1
def lIf2 : Stmt := nthS (forBody lFor) 2
structure LineG (Γ : G) : Prop where
 b1 : ∀ c, Γ.fn "in_table_b1" [.str (strOf c)] = some (.bool (b1c c))
 b3 : ∀ c, Γ.fn "map_table_b3" [.str (strOf c)] = some (.str (b3S c))
 strip : ∀ cs : List Ck, (∀ x ∈ cs, x.ok) → (srcs cs).length ≤ 900 → Γ.fn "_strip_quoted_realnames" [.str (mk (srcs cs ++ [34, 92]))] = some (.str (mk (cs.flatMap Ck.kept ++ [34, 92])))
 gen : ∀ x : Str, Γ.gen "_iter_escaped_chars" [.str x] = some (escOf (chs x))
 get : ∀ x : Str, Γ.get "EXACT_TOKEN_TYPES" [.str x, .int 0] = some (.int ((exL.lookup x).getD 0))
 has : ∀ x : Str, Γ.has "EXACT_TOKEN_TYPES" (.str x) = some (exL.lookup x).isSome
section
variable {Γ : G} {text : Str} {left plain seen place unit lines level fresh pieces number : Slot} {S P l : List Nat} {p c : Nat}
theorem li_bind {v : Nat × List Nat} : bindT scL ownL (forTarget lFor) (escV v) (rL text left plain seen place unit lines level fresh pieces number) = some (rL text left plain seen (.v (.int v.1)) (.v (.str (mk v.2))) lines level fresh pieces number) := by kernel_rfl
theorem li_0 (hS : S.length ≤ 1000) (hl : l.length ≤ 2) : run1 Γ ownL scL (run Γ ownL scL 10) (rL text left plain (.v (.str (mk S))) place (.v (.str (mk l))) lines level fresh pieces number) (nthS (forBody lFor) 0) = some (.next, rL text left plain (.v (.str (mk (S ++ l)))) place (.v (.str (mk l))) lines level fresh pieces number) := run1_of (by
 conv => whnf
 refine wopt.mk (show plusOf (.str (mk S)) (.str (mk l)) = some (.str (mk S ++ mk l)) from add_str (by rw [len_chs, len_chs, chs_mk, chs_mk]; omega)) ?_
 rw [mk_append]
 exact ⟨rfl, rfl⟩)
theorem li_1 (hS : S.length = p + 1) (hp : p ≤ 1000) : run1 Γ ownL scL (run Γ ownL scL 10) (rL text left plain (.v (.str (mk S))) (.v (.int p)) unit lines level fresh pieces number) lIf1 = some (.next, rL text left plain (.v (.str (mk S))) (.v (.int p)) unit lines level fresh pieces number) := by
 have hI : lIf1 = .If (ndC lIf1) (ifA lIf1) [] (match lIf1 with | .If _ _ _ p => p | _ => default) := by kernel_rfl
 have hc : ev Γ 40 .v scL (rL text left plain (.v (.str (mk S))) (.v (.int p)) unit lines level fresh pieces number) (ndC lIf1) = some (.bool false) := ev_of (by
  have hl : (mk S).length = p + 1 := by rw [len_chs, chs_mk, hS]
  generalize mk S = x at hl
  conv => whnf
  refine wopt.mk (len_str (by omega)) ?_
  show PV.bool _ = PV.bool _
  congr 1
  show ((x.length : Int) != (p : Int) + 1) = false
  rw [hl]
  simp)
 rw [hI, if_run hc]
 rfl
theorem li_2p (hg : LineG Γ) (hP : P.length ≤ 1000) (hf : (b3S c).length ≤ 1000) : run1 Γ ownL scL (run Γ ownL scL 10) (rL text left (.v (.str (mk P))) seen place (.v (.str (mk [c]))) lines level fresh pieces number) lIf2 = some (.next, rL text left (.v (.str (mk (P ++ fold1 c)))) seen place (.v (.str (mk [c]))) lines level fresh pieces number) := by
 have hI : lIf2 = .If (ndC lIf2) (ifA lIf2) [] (match lIf2 with | .If _ _ _ p => p | _ => default) := by kernel_rfl
 have hc : ev Γ 40 .v scL (rL text left (.v (.str (mk P))) seen place (.v (.str (mk [c]))) lines level fresh pieces number) (ndC lIf2) = some (.bool (!(b1c c))) := ev_of (by
  conv => whnf
  refine wopt.mk (hg.b1 c) ?_
  cases b1c c <;> rfl)
 rw [hI, if_run hc]
 unfold fold1
 cases b1c c with
 | true =>
  rw [if_pos rfl, List.append_nil]
  rfl
 | false =>
  rw [if_neg (by decide)]
  show run Γ ownL scL 10 _ (ifA lIf2) = _
  refine run_of ?_
  conv => whnf
  refine wopt.mk (hg.b3 c) ?_
  conv => whnf
  refine wopt.mk (show plusOf (.str (mk P)) (.str (b3S c)) = some (.str (mk P ++ b3S c)) from add_str (by rw [len_chs, chs_mk]; omega)) ?_
  rw [show mk P ++ b3S c = mk (P ++ chs (b3S c)) by rw [← mk_append, mk_chs]]
  exact ⟨rfl, rfl⟩
theorem li_2e : run1 Γ ownL scL (run Γ ownL scL 10) (rL text left plain seen place (.v (.str (mk [92, c]))) lines level fresh pieces number) lIf2 = some (.next, rL text left plain seen place (.v (.str (mk [92, c]))) lines level fresh pieces number) := by kernel_rfl

abbrev liRun (Γ : G) (items : List (Nat × List Nat)) (ρ : Rho) : Option (Fl × Rho) := forGo (run Γ ownL scL 11 · (forBody lFor)) (bindT scL ownL (forTarget lFor)) (items.map escV) ρ
theorem li_body : forBody lFor = [nthS (forBody lFor) 0, lIf1, lIf2] := by kernel_rfl
theorem li_stepP (hg : LineG Γ) {items : List (Nat × List Nat)} (hS : S.length ≤ 900) (hP : P.length ≤ 1000) (hf : (b3S c).length ≤ 1000) (hp : p = S.length) : liRun Γ ((p, [c]) :: items) (rL text left (.v (.str (mk P))) (.v (.str (mk S))) place unit lines level fresh pieces number) = liRun Γ items (rL text left (.v (.str (mk (P ++ fold1 c)))) (.v (.str (mk (S ++ [c])))) (.v (.int p)) (.v (.str (mk [c]))) lines level fresh pieces number) := by
 unfold liRun
 rw [List.map_cons]
 conv => lhs; unfold forGo
 rw [li_bind]
 simp only [Option.bind_eq_bind, Option.bind_some]
 have hr : run Γ ownL scL 11 (rL text left (.v (.str (mk P))) (.v (.str (mk S))) (.v (.int p)) (.v (.str (mk [c]))) lines level fresh pieces number) (forBody lFor) = some (.next, rL text left (.v (.str (mk (P ++ fold1 c)))) (.v (.str (mk (S ++ [c])))) (.v (.int p)) (.v (.str (mk [c]))) lines level fresh pieces number) := by
  rw [li_body]
  show seqGo (run1 Γ ownL scL (run Γ ownL scL 10)) _ _ = _
  rw [seq_next (li_0 (by omega) (by simp)), seq_next (li_1 (by simp; omega) (by omega)), seq_next (li_2p hg hP hf)]
  rfl
 rw [hr]
 rfl
theorem li_stepE {items : List (Nat × List Nat)} (hS : S.length ≤ 900) (hp : p = S.length + 1) : liRun Γ ((p, [92, c]) :: items) (rL text left (.v (.str (mk P))) (.v (.str (mk S))) place unit lines level fresh pieces number) = liRun Γ items (rL text left (.v (.str (mk P))) (.v (.str (mk (S ++ [92, c])))) (.v (.int p)) (.v (.str (mk [92, c]))) lines level fresh pieces number) := by
 unfold liRun
 rw [List.map_cons]
 conv => lhs; unfold forGo
 rw [li_bind]
 simp only [Option.bind_eq_bind, Option.bind_some]
 have hr : run Γ ownL scL 11 (rL text left (.v (.str (mk P))) (.v (.str (mk S))) (.v (.int p)) (.v (.str (mk [92, c]))) lines level fresh pieces number) (forBody lFor) = some (.next, rL text left (.v (.str (mk P))) (.v (.str (mk (S ++ [92, c])))) (.v (.int p)) (.v (.str (mk [92, c]))) lines level fresh pieces number) := by
  rw [li_body]
  show seqGo (run1 Γ ownL scL (run Γ ownL scL 10)) _ _ = _
  rw [seq_next (li_0 (by omega) (by simp)), seq_next (li_1 (by simp; omega) (by omega)), seq_next li_2e]
  rfl
 rw [hr]
 rfl
/-- what a unit may be: its piece of table B.3 is short -/
def U.fok : U → Prop
 | .p c => (c ≠ 92) ∧ (b3S c).length ≤ 100
 | .e _ => True
theorem li_units (hg : LineG Γ) : ∀ (us : List U) (S P : List Nat) (r : List Nat) {place unit : Slot}, (∀ x ∈ us, x.fok) → S.length + (us.flatMap U.src).length ≤ 900 → P.length + (us.flatMap U.fold).length ≤ 900 →
  ∃ place' unit', liRun Γ (escGo S.length false (us.flatMap U.src ++ r)) (rL text left (.v (.str (mk P))) (.v (.str (mk S))) place unit lines level fresh pieces number) = liRun Γ (escGo (S.length + (us.flatMap U.src).length) false r) (rL text left (.v (.str (mk (P ++ us.flatMap U.fold)))) (.v (.str (mk (S ++ us.flatMap U.src)))) place' unit' lines level fresh pieces number)
 | [], S, P, r, place, unit, _, _, _ => ⟨place, unit, by simp⟩
 | .p c :: us, S, P, r, place, unit, h, hl, hq => by
  have hc : (U.p c).fok := h _ List.mem_cons_self
  have e1 : (U.p c :: us).flatMap U.src = [c] ++ us.flatMap U.src := rfl
  have e2 : (U.p c :: us).flatMap U.fold = fold1 c ++ us.flatMap U.fold := rfl
  rw [e1, List.length_append] at hl
  rw [e2, List.length_append] at hq
  simp only [List.length_cons, List.length_nil] at hl
  obtain ⟨place', unit', e⟩ := li_units hg us (S ++ [c]) (P ++ fold1 c) r (place := .v (.int S.length)) (unit := .v (.str (mk [c]))) (fun x hx => h x (List.mem_cons_of_mem _ hx)) (by simp only [List.length_append, List.length_cons, List.length_nil]; omega) (by simp only [List.length_append, List.length_cons, List.length_nil]; omega)
  refine ⟨place', unit', ?_⟩
  rw [e1, e2, List.append_assoc]
  show liRun Γ (escGo S.length false (c :: (us.flatMap U.src ++ r))) _ = _
  rw [esc_p hc.1, li_stepP hg (by omega) (by omega) (Nat.le_trans hc.2 (by omega)) rfl]
  rw [show (S ++ [c]).length = S.length + 1 by simp] at e
  rw [e, List.append_assoc, List.append_assoc, show S.length + 1 + (us.flatMap U.src).length = S.length + ([c] ++ us.flatMap U.src).length by simp only [List.length_append, List.length_cons, List.length_nil]; omega]
 | .e c :: us, S, P, r, place, unit, h, hl, hq => by
  have e1 : (U.e c :: us).flatMap U.src = [92, c] ++ us.flatMap U.src := rfl
  have e2 : (U.e c :: us).flatMap U.fold = us.flatMap U.fold := rfl
  rw [e1, List.length_append] at hl
  rw [e2] at hq
  simp only [List.length_cons, List.length_nil] at hl
  obtain ⟨place', unit', e⟩ := li_units hg us (S ++ [92, c]) P r (place := .v (.int (S.length + 1 : Nat))) (unit := .v (.str (mk [92, c]))) (fun x hx => h x (List.mem_cons_of_mem _ hx)) (by simp only [List.length_append, List.length_cons, List.length_nil]; omega) hq
  refine ⟨place', unit', ?_⟩
  rw [e1, e2, List.append_assoc]
  show liRun Γ (escGo S.length false (92 :: c :: (us.flatMap U.src ++ r))) _ = _
  rw [esc_e, li_stepE (by omega) rfl]
  rw [show (S ++ [92, c]).length = S.length + 2 by simp] at e
  rw [e, List.append_assoc, show S.length + 2 + (us.flatMap U.src).length = S.length + ([92, c] ++ us.flatMap U.src).length by simp only [List.length_append, List.length_cons, List.length_nil]; omega]
theorem b3_34 : fold1 34 = [34] := by kernel_rfl
theorem b3_92 : fold1 92 = [92] := by kernel_rfl
theorem b3_34l : (b3S 34).length ≤ 1000 := by rw [show b3S 34 = mk [34] by kernel_rfl]; decide
theorem b3_92l : (b3S 92).length ≤ 1000 := by rw [show b3S 92 = mk [92] by kernel_rfl]; decide
/-- the first loop, over all that is left -/
theorem li_all (hg : LineG Γ) {us : List U} (h : ∀ x ∈ us, x.fok) (hl : (us.flatMap U.src).length ≤ 800) (hq : (us.flatMap U.fold).length ≤ 800) {place unit : Slot} :
  ∃ place' unit', liRun Γ (escGo 0 false (us.flatMap U.src ++ [34, 92])) (rL text left (.v (.str (mk []))) (.v (.str (mk []))) place unit lines level fresh pieces number) = some (.next, rL text left (.v (.str (mk (us.flatMap U.fold ++ [34, 92])))) (.v (.str (mk (us.flatMap U.src ++ [34, 92])))) place' unit' lines level fresh pieces number) := by
 obtain ⟨place', unit', e⟩ := li_units (Γ := Γ) (text := text) (left := left) (lines := lines) (level := level) (fresh := fresh) (pieces := pieces) (number := number) hg us [] [] [34, 92] (place := place) (unit := unit) h (by show 0 + _ ≤ _; omega) (by show 0 + _ ≤ _; omega)
 simp only [List.length_nil, Nat.zero_add, List.nil_append] at e
 rw [e, esc_end, li_stepP hg (by omega) (by omega) b3_34l rfl, li_stepP hg (by simp only [List.length_append, List.length_cons, List.length_nil]; omega) (by rw [List.length_append, b3_34]; show _ + 1 ≤ _; omega) b3_92l (by rw [List.length_append]; rfl), b3_34, b3_92, List.append_assoc, List.append_assoc]
 exact ⟨_, _, rfl⟩
end

/-! ## the page of lines: the parse -/
def lWh : Stmt := bodyI fdLines 5
def pcE : Expr := match asgE (nthS (whileBody lWh) 0) with | .BinOp l _ _ _ => l | _ => default
def pcR : Expr := match asgE (nthS (whileBody lWh) 0) with | .BinOp _ _ r _ => r | _ => default
def pcs (x : List Nat) : List PV := ([3, 2, 1].map fun k => if (exL.lookup (mk (x.take k))).isSome then [PV.str (mk (x.take k))] else []).flatten
section
variable {Γ : G} {text : Str} {left plain seen place unit lines level fresh pieces number : Slot} {x : List Nat}
theorem cut_take {x : List Nat} {k : Nat} (hx : x.length ≤ 1000) : cut (.str (mk x)) none (some (k : Int)) none = some (.str (mk (x.take k))) := by
 rw [cut_str (by rw [len_chs, chs_mk]; omega)]
 congr 2
 refine str_ext ?_
 rw [chs_cut, chs_mk, chs_mk]
 by_cases h : k ≤ x.length
 ·exact cutL_hi h
 ·unfold cutL
  simp only [Option.elim]
  rw [clipAt_big (by omega), List.take_of_length_le (by simp), List.take_of_length_le (by omega)]
  rfl
theorem pc_item (hg : LineG Γ) (hx : x.length ≤ 1000) (k : Nat) : turnOf (ev Γ 38 .v (relab scL (lcScope pcE).names) ((Str.ofString "size", .v (.int k)) :: lcRho scL (lcScope pcE) (rL text left (.v (.str (mk x))) seen place unit lines level fresh pieces number))) [lcIf pcE] (lcElt pcE) = some (if (exL.lookup (mk (x.take k))).isSome then [PV.str (mk (x.take k))] else []) := by
 have h1 : ev Γ 38 .v (relab scL (lcScope pcE).names) ((Str.ofString "size", .v (.int k)) :: lcRho scL (lcScope pcE) (rL text left (.v (.str (mk x))) seen place unit lines level fresh pieces number)) (lcIf pcE) = some (.bool (exL.lookup (mk (x.take k))).isSome) := ev_of (by
  conv => whnf
  refine wopt.mk (cut_take hx) ?_
  conv => whnf
  refine wopt.mk (hg.has _) ?_
  rfl)
 have h2 : ev Γ 38 .v (relab scL (lcScope pcE).names) ((Str.ofString "size", .v (.int k)) :: lcRho scL (lcScope pcE) (rL text left (.v (.str (mk x))) seen place unit lines level fresh pieces number)) (lcElt pcE) = some (.str (mk (x.take k))) := ev_of (by
  conv => whnf
  refine wopt.mk (cut_take hx) ?_
  rfl)
 rw [turn_c h1 h2]
 cases (exL.lookup (mk (x.take k))).isSome <;> rfl

theorem ev_add {n : Nat} {sc : Sc} {ρ : Rho} {l r : Expr} {p : Pos} {a b c : PV} (ha : ev Γ n .l sc ρ l = some a) (hb : ev Γ n .l sc ρ r = some b) (hc : binop .Add a b = some c) : ev Γ (n + 1) .v sc ρ (.BinOp l .Add r p) = some c := by
 show ((ev Γ n .l sc ρ l).bind fun a => (ev Γ n .l sc ρ r).bind fun b => (binop .Add a b).bind fun c => some c) = _
 rw [ha, Option.bind_some, hb, Option.bind_some, hc]; rfl
theorem pcs_len (x : List Nat) : (pcs x).length ≤ 3 := by
 unfold pcs
 simp only [List.map_cons, List.map_nil, List.flatten_cons, List.flatten_nil, List.length_append]
 have h : ∀ k, (if (exL.lookup (mk (x.take k))).isSome then [PV.str (mk (x.take k))] else []).length ≤ 1 := fun k => by split <;> simp
 have := h 3; have := h 2; have := h 1
 simp only [List.length_nil]; omega
theorem pc_run (hg : LineG Γ) (hx : x.length ≤ 1000) : run1 Γ ownL scL (run Γ ownL scL 10) (rL text left (.v (.str (mk x))) seen place unit lines level fresh pieces number) (nthS (whileBody lWh) 0) = some (.next, rL text left (.v (.str (mk x))) seen place unit lines level fresh (.v (.lst (pcs x ++ [.str (mk (x.take 1))]))) number) := by
 have hl : ev Γ 39 .l scL (rL text left (.v (.str (mk x))) seen place unit lines level fresh pieces number) pcE = some (.lst (pcs x)) := ev_lc (vs := [3, 2, 1].map fun (k : Nat) => .int k) (by kernel_rfl) (by kernel_rfl) (by rfl) (mapM_map fun k _ => pc_item hg hx k)
 have hr : ev Γ 39 .l scL (rL text left (.v (.str (mk x))) seen place unit lines level fresh pieces number) pcR = some (.lst [.str (mk (x.take 1))]) := ev_of (by
  conv => whnf
  refine wopt.mk (cut_take (k := 1) hx) ?_
  rfl)
 have := pcs_len x
 exact run1_asg (ev_add hl hr (add_lst (by simp; omega))) (by kernel_rfl) (by kernel_rfl) (by kernel_rfl)

def numT (tok : List Nat) : Int := (exL.lookup (mk tok)).getD 0
theorem nu_run (hg : LineG Γ) {tok : List Nat} {more : List PV} : run1 Γ ownL scL (run Γ ownL scL 10) (rL text left plain seen place unit lines level fresh (.v (.lst (.str (mk tok) :: more))) number) (nthS (whileBody lWh) 1) = some (.next, rL text left plain seen place unit lines level fresh (.v (.lst (.str (mk tok) :: more))) (.v (.int (numT tok)))) := by
 refine run1_asg (ev_of ?_) (by kernel_rfl) (by kernel_rfl) (by kernel_rfl)
 conv => whnf
 refine wopt.mk (idx_lst (i := 0) (v := .str (mk tok)) rfl (by decide)) ?_
 conv => whnf
 refine wopt.mk (hg.get (mk tok)) ?_
 rfl

theorem pl_run {tok r : List Nat} {more : List PV} (hx : (tok ++ r).length ≤ 1000) : run1 Γ ownL scL (run Γ ownL scL 10) (rL text left (.v (.str (mk (tok ++ r)))) seen place unit lines level fresh (.v (.lst (.str (mk tok) :: more))) number) (nthS (whileBody lWh) 2) = some (.next, rL text left (.v (.str (mk r))) seen place unit lines level fresh (.v (.lst (.str (mk tok) :: more))) number) := by
 rw [List.length_append] at hx
 have hcut : cut (.str (mk (tok ++ r))) (some (tok.length : Int)) none none = some (.str (mk r)) := by
  rw [cut_str (by rw [len_chs, chs_mk, List.length_append]; omega)]
  congr 2
  refine str_ext ?_
  rw [chs_cut, chs_mk, chs_mk, cutL_lo (by rw [List.length_append]; omega), List.drop_left]
 have hlen : blt "len" [.str (mk tok)] = some (.int tok.length) := by
  rw [len_str (by rw [len_chs, chs_mk]; omega), len_chs, chs_mk]
 refine run1_asg (ev_of ?_) (by kernel_rfl) (by kernel_rfl) (by kernel_rfl)
 conv => whnf
 refine wopt.mk (idx_lst (i := 0) (v := .str (mk tok)) rfl (by decide)) ?_
 conv => whnf
 refine wopt.mk hlen ?_
 conv => whnf
 refine wopt.mk hcut ?_
 rfl

def wi1 : Stmt := nthS (whileBody lWh) 3
def wi2 : Stmt := nthS (ifB wi1) 0
theorem wi1_eq : wi1 = .If (ndC wi1) (ifA wi1) [wi2] (match wi1 with | .If _ _ _ p => p | _ => default) := by kernel_rfl
theorem wi2_eq : wi2 = .If (ndC wi2) (ifA wi2) (ifB wi2) (match wi2 with | .If _ _ _ p => p | _ => default) := by kernel_rfl
theorem br_open {lev : Int} : run1 Γ ownL scL (run Γ ownL scL 10) (rL text left plain seen place unit lines (.v (.int lev)) fresh pieces (.v (.int 7))) wi1 = some (.next, rL text left plain seen place unit lines (.v (.int (lev + 1))) fresh pieces (.v (.int 7))) := by kernel_rfl
theorem br_close {lev : Int} : run1 Γ ownL scL (run Γ ownL scL 10) (rL text left plain seen place unit lines (.v (.int lev)) fresh pieces (.v (.int 8))) wi1 = some (.next, rL text left plain seen place unit lines (.v (.int (lev + -1))) fresh pieces (.v (.int 8))) := by kernel_rfl

theorem wc1 {k : Int} (h7 : k ≠ 7) (h8 : k ≠ 8) : ev Γ 40 .v scL (rL text left plain seen place unit lines level fresh pieces (.v (.int k))) (ndC wi1) = some (.bool false) := by
 have h : ev Γ 40 .v scL (rL text left plain seen place unit lines level fresh pieces (.v (.int k))) (ndC wi1) = some (.bool ((7 : Int) == k || (8 : Int) == k)) := by kernel_rfl
 rw [h, beq_eq_false_iff_ne.mpr (Ne.symm h7), beq_eq_false_iff_ne.mpr (Ne.symm h8)]
 rfl
theorem wc2 {k : Int} : ev Γ 40 .v scL (rL text left plain seen place unit lines level fresh pieces (.v (.int k))) (ndC wi2) = some (.bool (decide (k > 0))) := by kernel_rfl

theorem lastRow_snoc {rows : List (List PV)} {r r' : List PV} {f : List PV → Option (List PV)} (h : f r = some r') : lastRow (rows ++ [r]) f = some (rows ++ [r']) := by
 unfold lastRow
 rw [List.reverse_append]
 show (f r).map (fun r' => rows.reverse.reverse ++ [r']) = _
 rw [h, List.reverse_reverse]
 rfl
theorem sign_run {k n0 lev : Int} {nm : PV} {rows : List (List PV)} : run Γ ownL scL 9 (rL text left plain seen place unit (.oo (rows ++ [[.int lev, nm, .int n0]])) level fresh pieces (.v (.int k))) (ifA wi2) = some (.next, rL text left plain seen place unit (.oo (rows ++ [[.int lev, nm, .int k]])) level (.v (.bool true)) pieces (.v (.int k))) := run_of (by
 conv => whnf
 refine wopt.mk (lastRow_snoc (f := fun r => setAt r 2 (.int k)) (r' := [.int lev, nm, .int k]) rfl) ?_
 conv => whnf
 exact ⟨rfl, rfl⟩)

theorem name_new {tok : List Nat} {more : List PV} {lev : Int} {k : PV} {rows : List (List PV)} (hr : rows.length ≤ 1000) (ht : tok.length ≤ 1000) : run Γ ownL scL 9 (rL text left plain seen place unit (.oo rows) (.v (.int lev)) (.v (.bool true)) (.v (.lst (.str (mk tok) :: more))) (.v k)) (ifB wi2) = some (.next, rL text left plain seen place unit (.oo (rows ++ [[.int lev, .str (mk tok), .int 0]])) (.v (.int lev)) (.v (.bool false)) (.v (.lst (.str (mk tok) :: more))) (.v k)) := run_of (by
 conv => whnf
 refine Br.t (show sizeOk rows.length = true from sizeOk_of (by omega)) ?_
 conv => whnf
 refine wopt.mk (idx_lst (i := 0) (v := .str (mk tok)) rfl (by decide)) ?_
 conv => whnf
 refine wopt.mk (lastRow_snoc (f := fun r => (idx (.lst r) (.int 1)).bind fun a => (plusOf a (.str (mk tok))).bind fun c => setAt r 1 c) (r' := [.int lev, .str (mk tok), .int 0]) ?_) ?_
 ·show (plusOf (.str ⟨#[]⟩) (.str (mk tok))).bind (fun c => setAt [PV.int lev, PV.str ⟨#[]⟩, PV.int 0] 1 c) = _
  rw [show plusOf (.str ⟨#[]⟩) (.str (mk tok)) = some (.str (⟨#[]⟩ ++ mk tok)) from add_str (by show 0 + _ ≤ _; rw [len_chs, chs_mk]; omega)]
  rw [show (⟨#[]⟩ : Str) ++ mk tok = mk tok from mk_append [] tok]
  rfl
 conv => whnf
 exact ⟨rfl, rfl⟩)
theorem name_more {tok nm : List Nat} {more : List PV} {lev lv n0 : Int} {k : PV} {rows : List (List PV)} (ht : tok.length ≤ 1000) (hn : nm.length ≤ 1000) : run Γ ownL scL 9 (rL text left plain seen place unit (.oo (rows ++ [[.int lev, .str (mk nm), .int n0]])) (.v (.int lv)) (.v (.bool false)) (.v (.lst (.str (mk tok) :: more))) (.v k)) (ifB wi2) = some (.next, rL text left plain seen place unit (.oo (rows ++ [[.int lev, .str (mk (nm ++ tok)), .int n0]])) (.v (.int lv)) (.v (.bool false)) (.v (.lst (.str (mk tok) :: more))) (.v k)) := run_of (by
 conv => whnf
 refine wopt.mk (idx_lst (i := 0) (v := .str (mk tok)) rfl (by decide)) ?_
 conv => whnf
 refine wopt.mk (lastRow_snoc (f := fun r => (idx (.lst r) (.int 1)).bind fun a => (plusOf a (.str (mk tok))).bind fun c => setAt r 1 c) (r' := [.int lev, .str (mk (nm ++ tok)), .int n0]) ?_) ?_
 ·show (plusOf (.str (mk nm)) (.str (mk tok))).bind (fun c => setAt [PV.int lev, PV.str (mk nm), PV.int n0] 1 c) = _
  rw [show plusOf (.str (mk nm)) (.str (mk tok)) = some (.str (mk nm ++ mk tok)) from add_str (by rw [len_chs, len_chs, chs_mk, chs_mk]; omega), mk_append]
  rfl
 conv => whnf
 exact ⟨rfl, rfl⟩)
end

/-! ## the page of lines: the signs of a drawn expression -/
theorem units_append : ∀ a b : List Ck, unitsOf (a ++ b) = unitsOf a ++ unitsOf b
 | [], b => rfl
 | .u x :: a, b => by
  show x :: unitsOf (a ++ b) = x :: unitsOf a ++ unitsOf b
  rw [units_append a b]; rfl
 | .q us :: a, b => by
  show unitsOf (a ++ b) = unitsOf a ++ unitsOf b
  exact units_append a b
theorem units_p : ∀ l : List Nat, unitsOf (l.map fun c => .u (.p c)) = l.map U.p
 | [] => rfl
 | c :: l => by
  show U.p c :: unitsOf (l.map fun c => .u (.p c)) = _
  rw [units_p l]; rfl
theorem fold_p : ∀ l : List Nat, (l.map U.p).flatMap U.fold = l.flatMap fold1
 | [] => rfl
 | c :: l => by
  rw [List.map_cons, List.flatMap_cons, List.flatMap_cons, fold_p l]; rfl
theorem rem_fold : ∀ i, i < 7 → (unitsOf (remC i)).flatMap U.fold = []
 | 0, _ => rfl
 | 1, _ => rfl
 | 2, _ => rfl
 | 3, _ => rfl
 | 4, _ => rfl
 | 5, _ => rfl
 | 6, _ => rfl
 | n + 7, h => by omega
theorem flat_id {f : Nat → List Nat} : ∀ {l : List Nat}, (∀ c ∈ l, f c = [c]) → l.flatMap f = l
 | [], _ => rfl
 | c :: l, h => by
  rw [List.flatMap_cons, h c List.mem_cons_self, flat_id (fun x hx => h x (List.mem_cons_of_mem _ hx))]; rfl
theorem sg_fold1 {s : Nat} (h : s < 41) : ∀ c ∈ sgC s, fold1 c = [c] := fun c hc => by
 have := List.all_eq_true.mp (rng FS h) c hc
 exact beq_iff_eq.mp this
theorem fold_sg {s : Nat} (h : s < 41) : (sgC s).flatMap fold1 = sgC s := flat_id (sg_fold1 h)
theorem due_node (l : Tre) (s u : Nat) (r : Tre) : chs (Tre.node l s u r).due = 40 :: (chs l.due ++ (sgC s ++ (chs r.due ++ [41]))) := by
 show chs (brac _ _ _) = _
 unfold brac
 rw [chs_append, chs_append, chs_append, chs_append]
 show [40] ++ _ ++ sgC s ++ _ ++ [41] = _
 simp
theorem fold40 : fold1 40 = [40] := by kernel_rfl
theorem fold41 : fold1 41 = [41] := by kernel_rfl
theorem tre_fold : ∀ {t : Tre}, t.ok → (unitsOf t.cks).flatMap U.fold = chs t.due
 | .leaf nm tx, ⟨r, b, hr, e, h⟩ => by
  show (unitsOf tx).flatMap U.fold = chs (mk nm)
  rw [e, units_append, units_p, List.flatMap_append, rem_fold r hr, fold_p, h.fold, chs_mk]; rfl
 | .node l s u r, ⟨a, b, c⟩ => by
  have h1 := tre_fold a
  have h2 := tre_fold c
  rw [due_node]
  show (unitsOf ([.u (.p 40)] ++ l.cks ++ (unsC (sgC s) u).map (fun c => .u (.p c)) ++ r.cks ++ [.u (.p 41)])).flatMap U.fold = _
  rw [units_append, units_append, units_append, units_append, units_p, List.flatMap_append, List.flatMap_append, List.flatMap_append, List.flatMap_append, h1, h2, fold_p, fold_uns, fold_sg b]
  show (fold1 40 ++ []) ++ _ ++ _ ++ _ ++ (fold1 41 ++ []) = _
  rw [fold40, fold41]
  simp

theorem rem_ok : ∀ i, i < 7 → ∀ x ∈ remC i, x.ok
 | 0, _ => fun x hx => by cases hx
 | 1, _ => fun x hx => by rw [show remC 1 = [.u (.e 40)] from rfl, List.mem_singleton] at hx; subst hx; trivial
 | 2, _ => fun x hx => by rw [show remC 2 = [.q [.p 41]] from rfl, List.mem_singleton] at hx; subst hx; intro y hy; rw [List.mem_singleton] at hy; subst hy; exact ⟨by decide, by decide⟩
 | 3, _ => fun x hx => by
  rw [show remC 3 = [.q [.e 34, .p 41]] from rfl, List.mem_singleton] at hx; subst hx; intro y hy
  rcases List.mem_cons.mp hy with rfl | hy
  ·trivial
  ·rw [List.mem_singleton] at hy; subst hy; exact ⟨by decide, by decide⟩
 | 4, _ => fun x hx => by rw [show remC 4 = [.u (.e 34)] from rfl, List.mem_singleton] at hx; subst hx; trivial
 | 5, _ => fun x hx => by rw [show remC 5 = [.u (.e 92)] from rfl, List.mem_singleton] at hx; subst hx; trivial
 | 6, _ => fun x hx => by rw [show remC 6 = [.q [.p 40]] from rfl, List.mem_singleton] at hx; subst hx; intro y hy; rw [List.mem_singleton] at hy; subst hy; exact ⟨by decide, by decide⟩
 | n + 7, h => by omega
theorem bod_ne {c : Nat} (h : bodOk c = true) : c ≠ 34 ∧ c ≠ 92 := by
 unfold bodOk at h
 simp at h
 exact h
theorem sg_bod : ((List.range 41).all fun s => (sgC s).all bodOk) = true := by kernel_rfl
theorem un_bod {s : Nat} (h : s < 41) (u : Nat) : ∀ c ∈ unsC (sgC s) u, bodOk c = true := bod_uns (fun c hc => List.all_eq_true.mp (rng (P := fun s => (sgC s).all bodOk) sg_bod h) c hc) u
theorem map_ok {l : List Nat} (h : ∀ c ∈ l, bodOk c = true) : ∀ x ∈ l.map (fun c => Ck.u (.p c)), x.ok := fun x hx => by
 obtain ⟨c, hc, rfl⟩ := List.mem_map.mp hx
 exact bod_ne (h c hc)
theorem tre_cok : ∀ {t : Tre}, t.ok → ∀ x ∈ t.cks, x.ok
 | .leaf nm tx, ⟨r, b, hr, e, h⟩ => fun x hx => by
  have hx : x ∈ tx := hx
  rw [e] at hx
  rcases List.mem_append.mp hx with hx | hx
  ·exact rem_ok r hr x hx
  ·exact map_ok h.bo x hx
 | .node l s u r, ⟨a, b, c⟩ => fun x hx => by
  have hx : x ∈ [.u (.p 40)] ++ l.cks ++ (unsC (sgC s) u).map (fun c => Ck.u (.p c)) ++ r.cks ++ [.u (.p 41)] := hx
  rcases List.mem_append.mp hx with hx | hx
  ·rcases List.mem_append.mp hx with hx | hx
   ·rcases List.mem_append.mp hx with hx | hx
    ·rcases List.mem_append.mp hx with hx | hx
     ·rw [List.mem_singleton] at hx; subst hx; exact ⟨by decide, by decide⟩
     ·exact tre_cok a x hx
    ·exact map_ok (un_bod b u) x hx
   ·exact tre_cok c x hx
  ·rw [List.mem_singleton] at hx; subst hx; exact ⟨by decide, by decide⟩

theorem b1_short : (b1L.all fun i => Nat.ble (b3S i.toNat).length 100) = true := by kernel_rfl
theorem fok_of {c : Nat} (h : c ≠ 92) (hf : (fold1 c).length ≤ 100) : (U.p c).fok := by
 refine ⟨h, ?_⟩
 unfold fold1 at hf
 cases e : b1c c with
 | false =>
  rw [e, if_neg (by decide)] at hf
  rw [len_chs]; exact hf
 | true =>
  unfold b1c at e
  have hm : (c : Int) ∈ b1L := by simpa using e
  have := List.all_eq_true.mp b1_short _ hm
  rw [Int.toNat_natCast] at this
  exact Nat.le_of_ble_eq_true this
theorem flat_mem {f : Nat → List Nat} : ∀ {l : List Nat} {c : Nat}, c ∈ l → (f c).length ≤ (l.flatMap f).length
 | a :: l, c, h => by
  rw [List.flatMap_cons, List.length_append]
  rcases List.mem_cons.mp h with rfl | h
  ·omega
  ·have := flat_mem (f := f) h; omega
theorem map_fok {l : List Nat} (h : ∀ c ∈ l, bodOk c = true) (hf : (l.flatMap fold1).length ≤ 100) : ∀ x ∈ l.map U.p, x.fok := fun x hx => by
 obtain ⟨c, hc, rfl⟩ := List.mem_map.mp hx
 exact fok_of (bod_ne (h c hc)).2 (Nat.le_trans (flat_mem hc) hf)
theorem rem_fok : ∀ i, i < 7 → ∀ x ∈ unitsOf (remC i), x.fok
 | 0, _ => fun x hx => by cases hx
 | 1, _ => fun x hx => by rw [show unitsOf (remC 1) = [.e 40] from rfl, List.mem_singleton] at hx; subst hx; trivial
 | 2, _ => fun x hx => by cases hx
 | 3, _ => fun x hx => by cases hx
 | 4, _ => fun x hx => by rw [show unitsOf (remC 4) = [.e 34] from rfl, List.mem_singleton] at hx; subst hx; trivial
 | 5, _ => fun x hx => by rw [show unitsOf (remC 5) = [.e 92] from rfl, List.mem_singleton] at hx; subst hx; trivial
 | 6, _ => fun x hx => by cases hx
 | n + 7, h => by omega
theorem tre_fok : ∀ {t : Tre}, t.ok → ∀ x ∈ unitsOf t.cks, x.fok
 | .leaf nm tx, ⟨r, b, hr, e, h⟩ => fun x hx => by
  have hx : x ∈ unitsOf tx := hx
  rw [e, units_append, units_p] at hx
  rcases List.mem_append.mp hx with hx | hx
  ·exact rem_fok r hr x hx
  ·exact map_fok h.bo (by rw [h.fold]; have := h.len; omega) x hx
 | .node l s u r, ⟨a, b, c⟩ => fun x hx => by
  have hx : x ∈ unitsOf ([.u (.p 40)] ++ l.cks ++ (unsC (sgC s) u).map (fun c => Ck.u (.p c)) ++ r.cks ++ [.u (.p 41)]) := hx
  rw [units_append, units_append, units_append, units_append, units_p] at hx
  rcases List.mem_append.mp hx with hx | hx
  ·rcases List.mem_append.mp hx with hx | hx
   ·rcases List.mem_append.mp hx with hx | hx
    ·rcases List.mem_append.mp hx with hx | hx
     ·rw [show unitsOf [.u (.p 40)] = [.p 40] from rfl, List.mem_singleton] at hx; subst hx; exact fok_of (by decide) (by rw [fold40]; decide)
     ·exact tre_fok a x hx
    ·exact map_fok (un_bod b u) (by rw [fold_uns, fold_sg b]; have := sgC_len s; omega) x hx
   ·exact tre_fok c x hx
  ·rw [show unitsOf [.u (.p 41)] = [.p 41] from rfl, List.mem_singleton] at hx; subst hx; exact fok_of (by decide) (by rw [fold41]; decide)

/-! the pieces -/
def isEx (l : List Nat) : Bool := (exL.lookup (mk l)).isSome
def tokOf (x : List Nat) : List Nat := if isEx (x.take 3) then x.take 3 else if isEx (x.take 2) then x.take 2 else x.take 1
theorem pcs_head (x : List Nat) : ∃ more, pcs x ++ [PV.str (mk (x.take 1))] = .str (mk (tokOf x)) :: more := by
 unfold pcs tokOf
 show ∃ more, (if isEx (x.take 3) then [PV.str (mk (x.take 3))] else []) ++ ((if isEx (x.take 2) then [PV.str (mk (x.take 2))] else []) ++ ((if isEx (x.take 1) then [PV.str (mk (x.take 1))] else []) ++ [])) ++ [PV.str (mk (x.take 1))] = _
 cases isEx (x.take 3) with
 | true => exact ⟨_, rfl⟩
 | false =>
  cases isEx (x.take 2) with
  | true => exact ⟨_, rfl⟩
  | false =>
   cases isEx (x.take 1) with
   | true => exact ⟨_, rfl⟩
   | false => exact ⟨_, rfl⟩
theorem ex_mem {l : List Nat} (h : isEx l = true) : ∃ p ∈ exL, chs p.1 = l := by
 unfold isEx at h
 obtain ⟨i, hi⟩ := Option.isSome_iff_exists.mp h
 exact ⟨_, mem_of_lookup hi, chs_mk l⟩
theorem ex_plain {l : List Nat} {c : Nat} (hc : c ∈ l) (h : plainB c = true) : isEx l = false := by
 cases e : isEx l with
 | false => rfl
 | true =>
  obtain ⟨p, hp, rfl⟩ := ex_mem e
  have : c ∈ exA := List.mem_flatten.mpr ⟨_, List.mem_map.mpr ⟨p, hp, rfl⟩, hc⟩
  unfold plainB at h
  rw [show exA.contains c = true by simpa using this] at h
  simp at h
theorem ex_par0 : (exL.all fun p => chs p.1 == [40] || !(chs p.1).contains 40) = true := by kernel_rfl
theorem ex_par1 : (exL.all fun p => chs p.1 == [41] || !(chs p.1).contains 41) = true := by kernel_rfl
theorem ex_par {l : List Nat} {c : Nat} (hc : c ∈ l) (hp : c = 40 ∨ c = 41) (hl : 2 ≤ l.length) : isEx l = false := by
 cases e : isEx l with
 | false => rfl
 | true =>
  obtain ⟨p, hm, rfl⟩ := ex_mem e
  rcases hp with rfl | rfl
  ·have := List.all_eq_true.mp ex_par0 p hm
   rw [show (chs p.1).contains 40 = true by simpa using hc] at this
   have : chs p.1 = [40] := by simpa using this
   rw [this] at hl; simp at hl
  ·have := List.all_eq_true.mp ex_par1 p hm
   rw [show (chs p.1).contains 41 = true by simpa using hc] at this
   have : chs p.1 = [41] := by simpa using this
   rw [this] at hl; simp at hl
theorem tok_plain {c : Nat} {r : List Nat} (h : plainB c = true) : tokOf (c :: r) = [c] := by
 unfold tokOf
 rw [ex_plain (c := c) (by simp) h, ex_plain (c := c) (by simp) h]
 rfl
theorem ex_40 : isEx [40] = true := by kernel_rfl
theorem ex_41 : isEx [41] = true := by kernel_rfl
theorem tok_par {c : Nat} {r : List Nat} (h : c = 40 ∨ c = 41) : tokOf (c :: r) = [c] := by
 unfold tokOf
 match r with
 | [] =>
  have : isEx [c] = true := by
   rcases h with rfl | rfl
   ·exact ex_40
   ·exact ex_41
  rw [show List.take 3 [c] = [c] from rfl, this]; rfl
 | d :: r =>
  rw [ex_par (c := c) (by simp) h (by simp), ex_par (c := c) (by simp) h (by simp)]
  rfl
/-- what may stand behind a sign -/
def headOk (c : Nat) : Prop := c = 40 ∨ plainB c = true
theorem ex_head {l : List Nat} {c : Nat} (h : headOk c) (hc : c ∈ l) (hl : 2 ≤ l.length) : isEx l = false := by
 rcases h with h | h
 ·exact ex_par hc (.inl h) hl
 ·exact ex_plain hc h
theorem ex_sg : ((List.range 41).all fun s => isEx (sgC s) && !(sgC s).isEmpty) = true := by kernel_rfl
theorem sg_ex {s : Nat} (h : s < 41) : isEx (sgC s) = true ∧ 1 ≤ (sgC s).length := by
 have := rng (P := fun s => isEx (sgC s) && !(sgC s).isEmpty) ex_sg h
 rw [Bool.and_eq_true] at this
 refine ⟨this.1, ?_⟩
 have h2 := this.2
 cases e : sgC s with
 | nil => rw [e] at h2; simp at h2
 | cons a l => simp
theorem tok_sign {s c : Nat} {r : List Nat} (h : s < 41) (hc : headOk c) : tokOf (sgC s ++ c :: r) = sgC s := by
 obtain ⟨he, h1⟩ := sg_ex h
 have h3 := sgC_len s
 unfold tokOf
 generalize sgC s = g at *
 match g, h1, h3 with
 | [a], _, _ =>
  rw [ex_head (c := c) hc (by simp) (by simp), ex_head (c := c) hc (by simp) (by simp)]
  rfl
 | [a, b], _, _ =>
  rw [ex_head (c := c) hc (by simp) (by simp)]
  rw [show List.take 2 ([a, b] ++ c :: r) = [a, b] from rfl, he]
  rfl
 | [a, b, d], _, _ =>
  rw [show List.take 3 ([a, b, d] ++ c :: r) = [a, b, d] from rfl, he]
  rfl
theorem num_40 : numT [40] = 7 := by kernel_rfl
theorem num_41 : numT [41] = 8 := by kernel_rfl
theorem num_plain {c : Nat} (h : plainB c = true) : numT [c] = 0 := by
 have := ex_plain (l := [c]) (c := c) (by simp) h
 unfold isEx at this
 unfold numT
 cases e : exL.lookup (mk [c]) with
 | none => rfl
 | some i => rw [e] at this; cases this
theorem num_sg0 : ((List.range 41).all fun s => numT (sgC s) == 14 + (s : Int)) = true := by kernel_rfl
theorem num_sg {s : Nat} (h : s < 41) : numT (sgC s) = 14 + (s : Int) := beq_iff_eq.mp (rng (P := fun s => numT (sgC s) == 14 + (s : Int)) num_sg0 h)
theorem due_head : ∀ {t : Tre}, t.ok → ∃ c l, chs t.due = c :: l ∧ headOk c
 | .leaf nm tx, ⟨r, b, hr, e, h⟩ => by
  show ∃ c l, chs (mk nm) = _ ∧ _
  rw [chs_mk]
  cases e : nm with
  | nil => exact absurd e h.ne
  | cons c l => exact ⟨c, l, rfl, .inr (h.pl c (by rw [e]; simp))⟩
 | .node l s u r, _ => by
  rw [due_node]
  exact ⟨40, _, rfl, .inl rfl⟩

/-! ## the page of lines: the second loop -/
def Row.l (r : Row) : List PV := [.int r.id, .str r.nm, .int r.num]
abbrev wl (Γ : G) (n : Nat) (ρ : Rho) : Option (Fl × Rho) := whileGo (ev Γ 40 .v scL · (whileTest lWh)) (run Γ ownL scL 11 · (whileBody lWh)) n ρ
section
variable {Γ : G} {text : Str} {left plain seen place unit lines level fresh pieces number : Slot} {x r : List Nat} {n : Nat}
theorem wl_body : whileBody lWh = [nthS (whileBody lWh) 0, nthS (whileBody lWh) 1, nthS (whileBody lWh) 2, wi1] := by kernel_rfl
theorem wl_test : ev Γ 40 .v scL (rL text left (.v (.str (mk x))) seen place unit lines level fresh pieces number) (whileTest lWh) = some (.bool (x != [])) := by
 have h : ev Γ 40 .v scL (rL text left (.v (.str (mk x))) seen place unit lines level fresh pieces number) (whileTest lWh) = some (.bool (chs (mk x) != [])) := by kernel_rfl
 rw [h, chs_mk]
theorem wl_end : wl Γ (n + 1) (rL text left (.v (.str (mk []))) seen place unit lines level fresh pieces number) = some (.next, rL text left (.v (.str (mk []))) seen place unit lines level fresh pieces number) := by
 unfold wl whileGo
 rw [wl_test]; rfl
theorem wl_step (hg : LineG Γ) {tok : List Nat} {lines' level' fresh' : Slot} (ht : tokOf (tok ++ r) = tok) (hl : (tok ++ r).length ≤ 1000) (h0 : tok ≠ [])
  (hb : ∀ more, run1 Γ ownL scL (run Γ ownL scL 10) (rL text left (.v (.str (mk r))) seen place unit lines level fresh (.v (.lst (.str (mk tok) :: more))) (.v (.int (numT tok)))) wi1 = some (.next, rL text left (.v (.str (mk r))) seen place unit lines' level' fresh' (.v (.lst (.str (mk tok) :: more))) (.v (.int (numT tok))))) :
  ∃ pieces' number', wl Γ (n + 1) (rL text left (.v (.str (mk (tok ++ r)))) seen place unit lines level fresh pieces number) = wl Γ n (rL text left (.v (.str (mk r))) seen place unit lines' level' fresh' pieces' number') := by
 obtain ⟨more, hm⟩ := pcs_head (tok ++ r)
 rw [ht] at hm
 refine ⟨.v (.lst (.str (mk tok) :: more)), .v (.int (numT tok)), ?_⟩
 have hr : run Γ ownL scL 11 (rL text left (.v (.str (mk (tok ++ r)))) seen place unit lines level fresh pieces number) (whileBody lWh) = some (.next, rL text left (.v (.str (mk r))) seen place unit lines' level' fresh' (.v (.lst (.str (mk tok) :: more))) (.v (.int (numT tok)))) := by
  rw [wl_body]
  show seqGo (run1 Γ ownL scL (run Γ ownL scL 10)) _ _ = _
  rw [seq_next (pc_run hg hl), hm, seq_next (nu_run hg), seq_next (pl_run hl), seq_next (hb more)]
  rfl
 conv => lhs; unfold wl whileGo
 rw [wl_test]
 have hne : (tok ++ r != []) = true := by
  cases tok with
  | nil => exact absurd rfl h0
  | cons a l => rfl
 rw [hne]
 simp only [Option.bind_eq_bind, Option.bind_some]
 rw [hr]
 rfl
theorem wl_open (hg : LineG Γ) {lev : Int} (hl : r.length ≤ 900) : ∃ pieces' number', wl Γ (n + 1) (rL text left (.v (.str (mk (40 :: r)))) seen place unit lines (.v (.int lev)) fresh pieces number) = wl Γ n (rL text left (.v (.str (mk r))) seen place unit lines (.v (.int (lev + 1))) fresh pieces' number') :=
 wl_step (tok := [40]) hg (tok_par (.inl rfl)) (by simp; omega) (by simp) fun more => by rw [num_40]; exact br_open
theorem wl_close (hg : LineG Γ) {lev : Int} (hl : r.length ≤ 900) : ∃ pieces' number', wl Γ (n + 1) (rL text left (.v (.str (mk (41 :: r)))) seen place unit lines (.v (.int lev)) fresh pieces number) = wl Γ n (rL text left (.v (.str (mk r))) seen place unit lines (.v (.int (lev + -1))) fresh pieces' number') :=
 wl_step (tok := [41]) hg (tok_par (.inr rfl)) (by simp; omega) (by simp) fun more => by rw [num_41]; exact br_close
theorem br_else {lines' level' fresh' : Slot} {p : PV} {k : Int} (h7 : k ≠ 7) (h8 : k ≠ 8) (b : Bool) (hb : decide (k > 0) = b)
  (h : run Γ ownL scL 9 (rL text left plain seen place unit lines level fresh (.v p) (.v (.int k))) (cond b (ifA wi2) (ifB wi2)) = some (.next, rL text left plain seen place unit lines' level' fresh' (.v p) (.v (.int k)))) :
  run1 Γ ownL scL (run Γ ownL scL 10) (rL text left plain seen place unit lines level fresh (.v p) (.v (.int k))) wi1 = some (.next, rL text left plain seen place unit lines' level' fresh' (.v p) (.v (.int k))) := by
 rw [wi1_eq, if_run (wc1 h7 h8)]
 refine seqGo_one ?_
 rw [wi2_eq, if_run wc2, hb]
 cases b <;> exact h
theorem wl_sign (hg : LineG Γ) {s c id : Nat} {nm : Str} {rows : List (List PV)} {n0 : Int} (hs : s < 41) (hc : headOk c) (hl : r.length ≤ 900) : ∃ pieces' number', wl Γ (n + 1) (rL text left (.v (.str (mk (sgC s ++ c :: r)))) seen place unit (.oo (rows ++ [Row.l ⟨id, nm, n0⟩])) level fresh pieces number) = wl Γ n (rL text left (.v (.str (mk (c :: r)))) seen place unit (.oo (rows ++ [Row.l ⟨id, nm, 14 + s⟩])) level (.v (.bool true)) pieces' number') := by
 have h3 := sgC_len s
 have h1 := (sg_ex hs).2
 refine wl_step (tok := sgC s) hg (tok_sign hs hc) (by rw [List.length_append, List.length_cons]; omega) (by intro e; rw [e] at h1; simp at h1) fun more => ?_
 rw [num_sg hs]
 exact br_else (by omega) (by omega) true (by simp; omega) sign_run
theorem wl_first (hg : LineG Γ) {c lev : Nat} {rows : List (List PV)} (hc : plainB c = true) (hl : r.length ≤ 900) (hr : rows.length ≤ 1000) : ∃ pieces' number', wl Γ (n + 1) (rL text left (.v (.str (mk (c :: r)))) seen place unit (.oo rows) (.v (.int lev)) (.v (.bool true)) pieces number) = wl Γ n (rL text left (.v (.str (mk r))) seen place unit (.oo (rows ++ [Row.l ⟨lev, mk [c], 0⟩])) (.v (.int lev)) (.v (.bool false)) pieces' number') := by
 refine wl_step (tok := [c]) hg (tok_plain hc) (by simp; omega) (by simp) fun more => ?_
 rw [num_plain hc]
 exact br_else (by omega) (by omega) false (by simp) (name_new hr (by simp))
theorem wl_more (hg : LineG Γ) {c lev : Nat} {lv : Int} {nm : List Nat} {rows : List (List PV)} (hc : plainB c = true) (hl : r.length ≤ 900) (hn : nm.length ≤ 1000) : ∃ pieces' number', wl Γ (n + 1) (rL text left (.v (.str (mk (c :: r)))) seen place unit (.oo (rows ++ [Row.l ⟨lev, mk nm, 0⟩])) (.v (.int lv)) (.v (.bool false)) pieces number) = wl Γ n (rL text left (.v (.str (mk r))) seen place unit (.oo (rows ++ [Row.l ⟨lev, mk (nm ++ [c]), 0⟩])) (.v (.int lv)) (.v (.bool false)) pieces' number') := by
 refine wl_step (tok := [c]) hg (tok_plain hc) (by simp; omega) (by simp) fun more => ?_
 rw [num_plain hc]
 exact br_else (by omega) (by omega) false (by simp) (name_more (by simp) hn)
theorem wl_rest (hg : LineG Γ) {lev : Nat} {lv : Int} {rows : List (List PV)} : ∀ (l : List Nat) (nm : List Nat) (n : Nat) {pieces number : Slot}, (∀ c ∈ l, plainB c = true) → (l ++ r).length ≤ 900 → nm.length + l.length ≤ 1000 →
  ∃ pieces' number', wl Γ (n + l.length) (rL text left (.v (.str (mk (l ++ r)))) seen place unit (.oo (rows ++ [Row.l ⟨lev, mk nm, 0⟩])) (.v (.int lv)) (.v (.bool false)) pieces number) = wl Γ n (rL text left (.v (.str (mk r))) seen place unit (.oo (rows ++ [Row.l ⟨lev, mk (nm ++ l), 0⟩])) (.v (.int lv)) (.v (.bool false)) pieces' number')
 | [], nm, n, pieces, number, _, _, _ => ⟨pieces, number, by rw [List.append_nil]; rfl⟩
 | c :: l, nm, n, pieces, number, h, hl, hn => by
  simp only [List.cons_append, List.length_cons] at hl hn
  obtain ⟨p1, q1, e1⟩ := wl_more (n := n + l.length) (r := l ++ r) (text := text) (left := left) (seen := seen) (place := place) (unit := unit) (pieces := pieces) (number := number) (lev := lev) (lv := lv) (nm := nm) (rows := rows) hg (h c List.mem_cons_self) (by omega) (by omega)
  obtain ⟨p2, q2, e2⟩ := wl_rest hg (lev := lev) (lv := lv) (rows := rows) l (nm ++ [c]) n (pieces := p1) (number := q1) (fun x hx => h x (List.mem_cons_of_mem _ hx)) (by omega) (by simp; omega)
  refine ⟨p2, q2, ?_⟩
  rw [List.append_assoc] at e2
  exact e1.trans e2
end

def Tre.cnt : Tre → Nat
 | .leaf nm _ => nm.length
 | .node l _ _ r => l.cnt + r.cnt + 3
theorem Tre.cnt_le : ∀ {t : Tre}, t.ok → t.cnt + 3 ≤ 7 * t.leaves
 | .leaf nm tx, ⟨r, b, _, _, h⟩ => by
  have := h.len
  show nm.length + 3 ≤ 7; omega
 | .node l s u r, ⟨a, b, c⟩ => by
  have h1 := Tre.cnt_le a
  have h2 := Tre.cnt_le c
  show l.cnt + r.cnt + 3 + 3 ≤ 7 * (l.leaves + r.leaves); omega
theorem rows_last : ∀ (t : Tre) (lev : Nat), ∃ init id nm, ∀ last, t.rows lev last = init ++ [⟨id, nm, last⟩]
 | .leaf nm tx, lev => ⟨[], lev, mk nm, fun last => rfl⟩
 | .node l s u r, lev => by
  obtain ⟨init, id, nm, h⟩ := rows_last r (lev + 1)
  exact ⟨l.rows (lev + 1) (14 + s) ++ init, id, nm, fun last => by
   show l.rows (lev + 1) (14 + s) ++ r.rows (lev + 1) last = _
   rw [h last, List.append_assoc]⟩
theorem rows_len : ∀ (t : Tre) (lev : Nat) (last : Int), (t.rows lev last).length = t.leaves
 | .leaf _ _, _, _ => rfl
 | .node l s u r, lev, last => by
  show (l.rows (lev + 1) (14 + s) ++ r.rows (lev + 1) last).length = l.leaves + r.leaves
  rw [List.length_append, rows_len l, rows_len r]
section
variable {Γ : G} {text : Str} {left seen place unit : Slot}
abbrev rP (text : Str) (left seen place unit : Slot) (x : List Nat) (rows : List Row) (lev : Int) (fr : Bool) (pieces number : Slot) : Rho := rL text left (.v (.str (mk x))) seen place unit (.oo (rows.map Row.l)) (.v (.int lev)) (.v (.bool fr)) pieces number
theorem wl_tree (hg : LineG Γ) : ∀ (t : Tre) (lev : Nat) (rows : List Row) (r : List Nat) (n : Nat) {pieces number : Slot}, t.ok → (chs t.due ++ r).length ≤ 900 → rows.length + t.leaves ≤ 1000 →
  ∃ pieces' number', wl Γ (n + t.cnt) (rP text left seen place unit (chs t.due ++ r) rows lev true pieces number) = wl Γ n (rP text left seen place unit r (rows ++ t.rows lev 0) lev false pieces' number')
 | .leaf nm tx, lev, rows, r, n, pieces, number, ⟨rr, b, hr, e, h⟩, hl, hn => by
  have hd : chs (Tre.leaf nm tx).due = nm := chs_mk nm
  rw [hd] at hl ⊢
  cases en : nm with
  | nil => exact absurd en h.ne
  | cons c l =>
   rw [en] at hl
   have hpl : ∀ x ∈ c :: l, plainB x = true := fun x hx => h.pl x (by rw [en]; exact hx)
   have hlen := h.len
   rw [en] at hlen
   simp only [List.cons_append, List.length_cons] at hl hlen
   obtain ⟨p1, q1, e1⟩ := wl_first (n := n + l.length) (r := l ++ r) (text := text) (left := left) (seen := seen) (place := place) (unit := unit) (pieces := pieces) (number := number) (lev := lev) (rows := rows.map Row.l) hg (hpl c List.mem_cons_self) (by omega) (by simp; omega)
   obtain ⟨p2, q2, e2⟩ := wl_rest (text := text) (left := left) (seen := seen) (place := place) (unit := unit) (r := r) hg (lev := lev) (lv := lev) (rows := rows.map Row.l) l [c] n (pieces := p1) (number := q1) (fun x hx => hpl x (List.mem_cons_of_mem _ hx)) (by omega) (by simp; omega)
   refine ⟨p2, q2, ?_⟩
   show wl Γ (n + (c :: l).length) (rP text left seen place unit (c :: (l ++ r)) rows lev true pieces number) = _
   unfold rP
   rw [show n + (c :: l).length = n + l.length + 1 by simp; omega, e1, e2, List.map_append]
   rfl
 | .node l s u rt, lev, rows, r, n, pieces, number, ⟨ha, hs, hc⟩, hl, hn => by
  rw [due_node] at hl ⊢
  have hln : rows.length + (l.leaves + rt.leaves) ≤ 1000 := hn
  have h3 := sgC_len s
  obtain ⟨c, cr, hcr, hch⟩ := due_head hc
  obtain ⟨init, id, nm, hlast⟩ := rows_last l (lev + 1)
  simp only [List.cons_append, List.length_cons, List.append_assoc, List.length_append, List.length_nil] at hl
  obtain ⟨p1, q1, e1⟩ := wl_open (n := n + 1 + rt.cnt + 1 + l.cnt) (r := chs l.due ++ (sgC s ++ (chs rt.due ++ (41 :: r)))) (text := text) (left := left) (seen := seen) (place := place) (unit := unit) (lines := .oo (rows.map Row.l)) (fresh := .v (.bool true)) (pieces := pieces) (number := number) (lev := lev) hg (by simp only [List.length_cons, List.length_append]; omega)
  obtain ⟨p2, q2, e2⟩ := wl_tree hg l (lev + 1) rows (sgC s ++ (chs rt.due ++ (41 :: r))) (n + 1 + rt.cnt + 1) (pieces := p1) (number := q1) ha (by simp only [List.length_cons, List.length_append]; omega) (by omega)
  obtain ⟨p3, q3, e3⟩ := wl_sign (n := n + 1 + rt.cnt) (r := cr ++ (41 :: r)) (s := s) (c := c) (id := id) (nm := nm) (n0 := 0) (rows := (rows ++ init).map Row.l) (text := text) (left := left) (seen := seen) (place := place) (unit := unit) (level := .v (.int (lev + 1 : Nat))) (fresh := .v (.bool false)) (pieces := p2) (number := q2) hg hs hch (by rw [hcr] at hl; simp only [List.length_cons, List.length_append] at hl ⊢; omega)
  obtain ⟨p4, q4, e4⟩ := wl_tree hg rt (lev + 1) (rows ++ l.rows (lev + 1) (14 + s)) (41 :: r) (n + 1) (pieces := p3) (number := q3) hc (by simp only [List.length_cons, List.length_append]; omega) (by rw [List.length_append, rows_len]; omega)
  obtain ⟨p5, q5, e5⟩ := wl_close (n := n) (r := r) (text := text) (left := left) (seen := seen) (place := place) (unit := unit) (lines := .oo ((rows ++ (Tre.node l s u rt).rows lev 0).map Row.l)) (fresh := .v (.bool false)) (pieces := p4) (number := q4) (lev := (lev + 1 : Nat)) hg (by omega)
  refine ⟨p5, q5, ?_⟩
  have s1 : (40 :: (chs l.due ++ (sgC s ++ (chs rt.due ++ [41]))) ++ r) = 40 :: (chs l.due ++ (sgC s ++ (chs rt.due ++ (41 :: r)))) := by simp
  have s2 : chs rt.due ++ 41 :: r = c :: (cr ++ 41 :: r) := by rw [hcr]; rfl
  have s3 : (rows ++ l.rows (lev + 1) 0).map Row.l = (rows ++ init).map Row.l ++ [Row.l ⟨id, nm, 0⟩] := by rw [hlast]; simp
  have s4 : (rows ++ l.rows (lev + 1) (14 + s)).map Row.l = (rows ++ init).map Row.l ++ [Row.l ⟨id, nm, 14 + s⟩] := by rw [hlast]; simp
  have s5 : rows ++ l.rows (lev + 1) (14 + s) ++ rt.rows (lev + 1) 0 = rows ++ (Tre.node l s u rt).rows lev 0 := by rw [List.append_assoc]; rfl
  have s6 : ((lev + 1 : Nat) : Int) + -1 = (lev : Int) := by omega
  have s7 : (lev : Int) + 1 = ((lev + 1 : Nat) : Int) := by omega
  rw [s7] at e1
  rw [s6] at e5
  unfold rP at *
  rw [s3, s2] at e2
  rw [s4, s2, s5] at e4
  rw [s1, show n + (Tre.node l s u rt).cnt = n + 1 + rt.cnt + 1 + l.cnt + 1 by show n + (l.cnt + rt.cnt + 3) = _; omega, e1, s2]
  exact e2.trans (e3.trans (e4.trans e5))
end

/-! ## the page of lines: the whole call -/
theorem clipAt_neg {n k : Nat} (hk : 0 < k) : clipAt (n + k) (-(k : Int)) = n := by
 unfold clipAt
 rw [if_pos (show (-(k : Int)) < 0 by omega)]
 omega
def qb : List Nat := [34, 92]
theorem cut_tail {F : List Nat} (h : F.length ≤ 1000) : cut (.str (mk (F ++ qb))) (some (-2)) none none = some (.str (mk qb)) := by
 rw [cut_str (by rw [len_chs, chs_mk, List.length_append]; show _ + 2 ≤ _; omega)]
 congr 2
 refine str_ext ?_
 rw [chs_cut, chs_mk, chs_mk]
 unfold cutL
 simp only [Option.elim]
 have e : clipAt (F ++ qb).length (-2) = F.length := by
  rw [List.length_append]
  exact clipAt_neg (n := F.length) (k := 2) (by decide)
 rw [e, List.drop_left, List.take_of_length_le (by rw [List.length_append]; omega)]
theorem cut_init {F : List Nat} (h : F.length ≤ 1000) : cut (.str (mk (F ++ qb))) none (some (-2)) none = some (.str (mk F)) := by
 rw [cut_str (by rw [len_chs, chs_mk, List.length_append]; show _ + 2 ≤ _; omega)]
 congr 2
 refine str_ext ?_
 rw [chs_cut, chs_mk, chs_mk]
 unfold cutL
 simp only [Option.elim]
 have e : clipAt (F ++ qb).length (-2) = F.length := by
  rw [List.length_append]
  exact clipAt_neg (n := F.length) (k := 2) (by decide)
 rw [e]
 show List.take F.length (F ++ qb) = F
 exact List.take_left
section
variable {Γ : G} {text : Str} {left plain seen place unit lines level fresh pieces number : Slot} {F L : List Nat}
theorem ln_0 (hg : LineG Γ) {cs : List Ck} (hok : ∀ x ∈ cs, x.ok) (hl : (srcs cs).length ≤ 900) : run1 Γ ownL scL (run Γ ownL scL 11) (rL (mk (srcs cs)) left plain seen place unit lines level fresh pieces number) (bodyI fdLines 0) = some (.next, rL (mk (srcs cs)) (.v (.str (mk (cs.flatMap Ck.kept ++ qb)))) plain seen place unit lines level fresh pieces number) := by
 refine run1_asg (ev_of ?_) (by kernel_rfl) (by kernel_rfl) (by kernel_rfl)
 have h0 : binop .Add (.str (mk (srcs cs))) (.str (Str.ofString "\"\\")) = some (.str (mk (srcs cs ++ qb))) := by
  rw [add_str (by rw [len_chs, chs_mk]; show _ + 2 ≤ _; omega)]
  rw [show Str.ofString "\"\\" = mk qb from rfl, mk_append]
 conv => whnf
 refine wopt.mk h0 ?_
 conv => whnf
 refine wopt.mk (hg.strip cs hok hl) ?_
 rfl
theorem ln_1 : run1 Γ ownL scL (run Γ ownL scL 11) (rL text left plain seen place unit lines level fresh pieces number) (bodyI fdLines 1) = some (.next, rL text left (.v (.str (mk []))) (.v (.str (mk []))) place unit lines level fresh pieces number) := by kernel_rfl
theorem ln_2 (hg : LineG Γ) {us : List U} (h : ∀ x ∈ us, x.fok) (hl : (us.flatMap U.src).length ≤ 800) (hq : (us.flatMap U.fold).length ≤ 800) :
  ∃ place' unit', run1 Γ ownL scL (run Γ ownL scL 11) (rL text (.v (.str (mk (us.flatMap U.src ++ qb)))) (.v (.str (mk []))) (.v (.str (mk []))) place unit lines level fresh pieces number) lFor = some (.next, rL text (.v (.str (mk (us.flatMap U.src ++ qb)))) (.v (.str (mk (us.flatMap U.fold ++ qb)))) (.v (.str (mk (us.flatMap U.src ++ qb)))) place' unit' lines level fresh pieces number) := by
 obtain ⟨place', unit', e⟩ := li_all (Γ := Γ) (text := text) (left := .v (.str (mk (us.flatMap U.src ++ qb)))) (lines := lines) (level := level) (fresh := fresh) (pieces := pieces) (number := number) hg h hl hq (place := place) (unit := unit)
 refine ⟨place', unit', ?_⟩
 have hgn : genOf scL (ev Γ 40 · scL (rL text (.v (.str (mk (us.flatMap U.src ++ qb)))) (.v (.str (mk []))) (.v (.str (mk []))) place unit lines level fresh pieces number) ·) Γ (forIter lFor) = some (some (escOf (us.flatMap U.src ++ qb))) := by
  show (Γ.gen "_iter_escaped_chars" [.str (mk (us.flatMap U.src ++ qb))]).map some = _
  rw [hg.gen, chs_mk]; rfl
 show (match genOf scL (ev Γ 40 · scL (rL text (.v (.str (mk (us.flatMap U.src ++ qb)))) (.v (.str (mk []))) (.v (.str (mk []))) place unit lines level fresh pieces number) ·) Γ (forIter lFor) with
   | some (some items) => forGo (run Γ ownL scL 11 · (forBody lFor)) (bindT scL ownL (forTarget lFor)) items _
   | _ => _) = _
 rw [hgn]
 exact e
theorem ln_3 (hF : F.length ≤ 900) : run1 Γ ownL scL (run Γ ownL scL 11) (rL text (.v (.str (mk L))) (.v (.str (mk (F ++ qb)))) (.v (.str (mk L))) place unit lines level fresh pieces number) (bodyI fdLines 3) = some (.next, rL text (.v (.str (mk L))) (.v (.str (mk (F ++ qb)))) (.v (.str (mk L))) place unit lines level fresh pieces number) := by
 have hI : bodyI fdLines 3 = .If (ndC (bodyI fdLines 3)) (ifA (bodyI fdLines 3)) [] (match bodyI fdLines 3 with | .If _ _ _ p => p | _ => default) := by kernel_rfl
 have hcut := cut_tail (F := F) (by omega)
 have hc : ev Γ 40 .v scL (rL text (.v (.str (mk L))) (.v (.str (mk (F ++ qb)))) (.v (.str (mk L))) place unit lines level fresh pieces number) (ndC (bodyI fdLines 3)) = some (.bool false) := ev_of (by
  have h1 : (chs (mk L) != chs (mk L)) = false := by simp
  generalize mk L = x at *
  generalize mk (F ++ qb) = y at *
  conv => whnf
  refine Br.f h1 ?_
  conv => whnf
  refine wopt.mk hcut ?_
  rfl)
 rw [hI, if_run hc]
 rfl
theorem ln_4 (hF : F.length ≤ 900) : run1 Γ ownL scL (run Γ ownL scL 11) (rL text left (.v (.str (mk (F ++ qb)))) seen place unit lines level fresh pieces number) (bodyI fdLines 4) = some (.next, rL text left (.v (.str (mk F))) seen place unit (.oo []) (.v (.int 0)) (.v (.bool true)) pieces number) := run1_of (by
 have hcut := cut_init (F := F) (by omega)
 generalize mk (F ++ qb) = y at *
 conv => whnf
 refine wopt.mk hcut ?_
 conv => whnf
 exact ⟨rfl, rfl⟩)
theorem ln_5 (hg : LineG Γ) {t : Tre} (ht : t.ok) (h5 : t.leaves ≤ 100) (hd : (chs t.due).length ≤ 900) :
  ∃ pieces' number', run1 Γ ownL scL (run Γ ownL scL 11) (rL text left (.v (.str (mk (chs t.due)))) seen place unit (.oo []) (.v (.int 0)) (.v (.bool true)) pieces number) lWh = some (.next, rL text left (.v (.str (mk []))) seen place unit (.oo ((t.rows 0 0).map Row.l)) (.v (.int 0)) (.v (.bool false)) pieces' number') := by
 have hc := Tre.cnt_le ht
 obtain ⟨p, q, e⟩ := wl_tree (Γ := Γ) (text := text) (left := left) (seen := seen) (place := place) (unit := unit) hg t 0 [] [] (99999 - t.cnt + 1) (pieces := pieces) (number := number) ht (by rw [List.append_nil]; exact hd) (by simp; omega)
 refine ⟨p, q, ?_⟩
 rw [show 99999 - t.cnt + 1 + t.cnt = 100000 by omega, List.append_nil, List.nil_append] at e
 show wl Γ 100000 _ = _
 exact e.trans wl_end
theorem lines_call (hg : LineG Γ) {t : Tre} (ht : t.ok) (h5 : t.leaves ≤ 5) : callF Γ ownL 12 fdLines [.str t.txt] = some (.lst ((t.rows 0 0).map fun r => .lst r.l)) := by
 have hB : bodyOf fdLines = [bodyI fdLines 0, bodyI fdLines 1, lFor, bodyI fdLines 3, bodyI fdLines 4, lWh, bodyI fdLines 6] := by kernel_rfl
 have hlt := Tre.txt_len ht
 have hld := Tre.due_len ht
 unfold Tre.txt at *
 rw [len_chs, chs_mk] at hlt
 rw [len_chs] at hld
 have hk := kept_len t.cks
 obtain ⟨pl, un, e2⟩ := ln_2 (Γ := Γ) (text := mk (srcs t.cks)) (place := .u) (unit := .u) (lines := .u) (level := .u) (fresh := .u) (pieces := .u) (number := .u) hg (us := unitsOf t.cks) (tre_fok ht) (by rw [← kept_units]; omega) (by rw [tre_fold ht]; omega)
 rw [tre_fold ht, ← kept_units] at e2
 obtain ⟨pp, qq, e5⟩ := ln_5 (Γ := Γ) (text := mk (srcs t.cks)) (left := .v (.str (mk (t.cks.flatMap Ck.kept ++ qb)))) (seen := .v (.str (mk (t.cks.flatMap Ck.kept ++ qb)))) (place := pl) (unit := un) (pieces := .u) (number := .u) hg ht (by omega) (by omega)
 refine callF_ret ok_lines.body (by rfl) (ρ' := rL (mk (srcs t.cks)) (.v (.str (mk (t.cks.flatMap Ck.kept ++ qb)))) (.v (.str (mk []))) (.v (.str (mk (t.cks.flatMap Ck.kept ++ qb)))) pl un (.oo ((t.rows 0 0).map Row.l)) (.v (.int 0)) (.v (.bool false)) pp qq) ?_
 rw [hB]
 show seqGo (run1 Γ ownL scL (run Γ ownL scL 11)) (rL (mk (srcs t.cks)) .u .u .u .u .u .u .u .u .u .u) _ = _
 rw [seq_next (ln_0 hg (tre_cok ht) (by omega)), seq_next ln_1, seq_next e2, seq_next (ln_3 (by omega)), seq_next (ln_4 (by omega)), seq_next e5]
 refine seq_ret ?_
 have e6 : run1 Γ ownL scL (run Γ ownL scL 11) (rL (mk (srcs t.cks)) (.v (.str (mk (t.cks.flatMap Ck.kept ++ qb)))) (.v (.str (mk []))) (.v (.str (mk (t.cks.flatMap Ck.kept ++ qb)))) pl un (.oo ((t.rows 0 0).map Row.l)) (.v (.int 0)) (.v (.bool false)) pp qq) (bodyI fdLines 6) = some (.ret (.lst (((t.rows 0 0).map Row.l).map .lst)), rL (mk (srcs t.cks)) (.v (.str (mk (t.cks.flatMap Ck.kept ++ qb)))) (.v (.str (mk []))) (.v (.str (mk (t.cks.flatMap Ck.kept ++ qb)))) pl un (.oo ((t.rows 0 0).map Row.l)) (.v (.int 0)) (.v (.bool false)) pp qq) := by kernel_rfl
 rw [e6, List.map_map]
 rfl
end

/-! ## the six levels' own indents are six -/
def wsLead (total level turn : Nat) : PV := .ws ((rot (ksB (kdsL total level)) turn).foldl bump []) (c3 (kdsL total level) : Nat)
theorem lead_ws {total level turn : Nat} {r : List Nat} (h : noWs r) : wsOf (leadT (kdsL total level) turn ++ r) = wsLead total level turn := wsOf_lead h
theorem rot_fold (l : List Nat) (a b : Nat) : (rot l a).foldl bump [] = (rot l b).foldl bump [] := fold_perm ((rot_perm l a).trans (rot_perm l b).symm) []
theorem lead_turn (total level a b : Nat) : wsLead total level a = wsLead total level b := by
 unfold wsLead
 rw [rot_fold _ a b]
theorem sumL_append : ∀ a b : List Nat, sumL (a ++ b) = sumL a + sumL b
 | [], b => by simp [sumL]
 | k :: a, b => by simp only [List.cons_append, sumL]; rw [sumL_append a b]; omega
theorem sumL_rot (l : List Nat) (a : Nat) : sumL (rot l a) = sumL l := by
 have := norm_len (bs := rot l a) (bs' := l) (t := 0) (t' := 0) (fold_perm (rot_perm l a) []) rfl
 omega
def lenL (total k : Nat) : Nat := sumL (ksB (kdsL total k)) + c3 (kdsL total k)
theorem leadT_len (total level turn : Nat) : (leadT (kdsL total level) turn).length = lenL total level := by
 unfold leadT
 rw [lead_len, sumL_rot]; rfl
theorem kds_succ (total k : Nat) : kdsL total (k + 1) = kdsL total k ++ [total / 64 / 4 ^ k % 4] := by
 unfold kdsL
 rw [List.range_succ, List.map_append]; rfl
theorem ksB_append (a b : List Nat) : ksB (a ++ b) = ksB a ++ ksB b := by unfold ksB; rw [List.filter_append]
theorem c3_append (a b : List Nat) : c3 (a ++ b) = c3 a + c3 b := by unfold c3; rw [List.countP_append]
theorem len_one : ∀ x, x < 4 → 1 ≤ sumL (ksB [x]) + c3 [x] ∧ sumL (ksB [x]) + c3 [x] ≤ 3 ∧ (ksB [x]).length + c3 [x] = 1 := by decide
theorem lenL_succ (total k : Nat) : lenL total k + 1 ≤ lenL total (k + 1) ∧ lenL total (k + 1) ≤ lenL total k + 3 := by
 unfold lenL
 rw [kds_succ, ksB_append, c3_append, sumL_append]
 have := len_one (total / 64 / 4 ^ k % 4) (Nat.mod_lt _ (by decide))
 omega
theorem lenL_lt (total : Nat) {i : Nat} : ∀ {j : Nat}, i < j → lenL total i < lenL total j
 | j + 1, h => by
  have := lenL_succ total j
  by_cases e : i = j
  ·subst e; omega
  ·have := lenL_lt total (i := i) (j := j) (by omega); omega
theorem lenL_inj {total i j : Nat} (h : lenL total i = lenL total j) : i = j := by
 rcases Nat.lt_trichotomy i j with h1 | h1 | h1
 ·have := lenL_lt total h1; omega
 ·exact h1
 ·have := lenL_lt total h1; omega
theorem lenL_le (total : Nat) : ∀ k, lenL total k ≤ 3 * k
 | 0 => by unfold lenL kdsL; simp [ksB, c3, sumL]
 | k + 1 => by have := lenL_succ total k; have := lenL_le total k; omega
theorem cntL (total : Nat) : ∀ k, (ksB (kdsL total k)).length + c3 (kdsL total k) = k
 | 0 => by unfold kdsL; simp [ksB, c3]
 | k + 1 => by
  have := cntL total k
  have h1 := len_one (total / 64 / 4 ^ k % 4) (Nat.mod_lt _ (by decide))
  rw [kds_succ, ksB_append, c3_append, List.length_append]; omega
theorem lead_eq (total i j a b : Nat) : wsEq (wsLead total i a) (wsLead total j b) = some (.bool (i == j)) := by
 unfold wsLead
 rw [ws_eq]
 congr 2
 by_cases h : i = j
 ·subst h
  rw [rot_fold _ a b]
  simp
 ·rw [beq_eq_false_iff_ne.mpr h, Bool.and_eq_false_iff]
  by_cases h1 : (rot (ksB (kdsL total i)) a).foldl bump [] = (rot (ksB (kdsL total j)) b).foldl bump []
  ·right
   rw [beq_eq_false_iff_ne]
   intro h2
   have h2 : c3 (kdsL total i) = c3 (kdsL total j) := by omega
   have := norm_len h1 h2
   rw [sumL_rot, sumL_rot] at this
   exact h (lenL_inj this)
  ·left
   exact beq_eq_false_iff_ne.mpr h1
def marksM (total : Nat) (W : PV) (k : Nat) : PV := if k ≤ 5 then wsLead total k 0 else W
structure WOk (total : Nat) (W : PV) : Prop where
 l : ∀ j, j ≤ 5 → wsEq (wsLead total j 0) W = some (.bool false)
 r : ∀ j, j ≤ 5 → wsEq W (wsLead total j 0) = some (.bool false)
theorem marks_ok {total : Nat} {W : PV} (h : WOk total W) : ∀ i j, i ≤ 6 → j ≤ 6 → i ≠ 6 ∨ j ≠ 6 → wsEq (marksM total W i) (marksM total W j) = some (.bool (i == j)) := fun i j hi hj hn => by
 unfold marksM
 by_cases h1 : i ≤ 5
 ·by_cases h2 : j ≤ 5
  ·rw [if_pos h1, if_pos h2, lead_eq]
  ·rw [if_pos h1, if_neg h2, h.l i h1, beq_eq_false_iff_ne.mpr (by omega)]
 ·by_cases h2 : j ≤ 5
  ·rw [if_neg h1, if_pos h2, h.r j h2, beq_eq_false_iff_ne.mpr (by omega)]
  ·omega
theorem w0_ok (total : Nat) : WOk total (.ws [] (-1)) where
 l j _ := by
  unfold wsLead
  rw [ws_eq, Bool.and_eq_false_iff.mpr (.inr (beq_eq_false_iff_ne.mpr (by omega)))]
 r j _ := by
  unfold wsLead
  rw [ws_eq, Bool.and_eq_false_iff.mpr (.inr (beq_eq_false_iff_ne.mpr (by omega)))]
theorem other_ne {total k turn j : Nat} {o : List Nat} (ho : ∀ c ∈ o, c = 32 ∨ c = 9) (hl : o.length = (leadT (kdsL total k) turn).length) (hn : wsGo o [] 0 ≠ wsGo (leadT (kdsL total k) turn) [] 0) :
  ¬ ((rot (ksB (kdsL total j)) 0).foldl bump [] = (wsGo o [] 0).1 ∧ c3 (kdsL total j) = (wsGo o [] 0).2) := fun ⟨e1, e2⟩ => by
 have h1 := wsGo_tot o ho [] 0
 rw [← e1, ← e2, tot_fold, hl, leadT_len, sumL_rot] at h1
 simp only [tot] at h1
 have h2 : lenL total j = lenL total k := by unfold lenL at h1 ⊢; omega
 have := lenL_inj h2
 subst this
 refine hn ?_
 have h3 : wsGo (leadT (kdsL total j) turn) [] 0 = ((rot (ksB (kdsL total j)) turn).foldl bump [], c3 (kdsL total j)) := by
  have := wsGo_lead (rot (ksB (kdsL total j)) turn) (c3 (kdsL total j)) [] trivial []
  rw [List.append_nil] at this
  exact this
 rw [h3, rot_fold _ turn 0, e1, e2]
theorem wo_ok {total k turn : Nat} {o : List Nat} (ho : ∀ c ∈ o, c = 32 ∨ c = 9) (hl : o.length = (leadT (kdsL total k) turn).length) (hn : wsGo o [] 0 ≠ wsGo (leadT (kdsL total k) turn) [] 0) : WOk total (wsOf o) where
 l j _ := by
  unfold wsLead wsOf
  rw [ws_eq]
  have := other_ne (j := j) ho hl hn
  by_cases h1 : (rot (ksB (kdsL total j)) 0).foldl bump [] = (wsGo o [] 0).1
  ·have h2 : c3 (kdsL total j) ≠ (wsGo o [] 0).2 := fun e => this ⟨h1, e⟩
   rw [Bool.and_eq_false_iff.mpr (.inr (beq_eq_false_iff_ne.mpr (by omega)))]
  ·rw [Bool.and_eq_false_iff.mpr (.inl (beq_eq_false_iff_ne.mpr h1))]
 r j _ := by
  unfold wsLead wsOf
  rw [ws_eq]
  have := other_ne (j := j) ho hl hn
  by_cases h1 : (rot (ksB (kdsL total j)) 0).foldl bump [] = (wsGo o [] 0).1
  ·have h2 : c3 (kdsL total j) ≠ (wsGo o [] 0).2 := fun e => this ⟨h1, e⟩
   rw [Bool.and_eq_false_iff.mpr (.inr (beq_eq_false_iff_ne.mpr (by omega)))]
  ·rw [Bool.and_eq_false_iff.mpr (.inl (beq_eq_false_iff_ne.mpr (Ne.symm h1)))]

/-! what is known of the lines -/
def nmP (x : Str) : Prop := ∃ l, x = mk l ∧ l ≠ [] ∧ (∀ c ∈ l, plainB c = true) ∧ l.length ≤ 4
structure RowOk (r : Row) : Prop where
 lo : 1 ≤ r.id
 hi : r.id ≤ 4
 num : numOk r.num
 nm : nmP r.nm
theorem rows_mem : ∀ {t : Tre}, t.ok → ∀ (lev : Nat) (last : Int), numOk last → ∀ r ∈ t.rows lev last, lev ≤ r.id ∧ r.id ≤ lev + t.depth ∧ numOk r.num ∧ nmP r.nm
 | .leaf nm tx, ⟨rr, b, hr, e, h⟩, lev, last, hn, r, hm => by
  have hm : r ∈ [Row.mk lev (mk nm) last] := hm
  rw [List.mem_singleton] at hm
  subst hm
  exact ⟨Nat.le_refl _, Nat.le_refl _, hn, nm, rfl, h.ne, h.pl, h.len⟩
 | .node l s u rt, ⟨a, b, c⟩, lev, last, hn, r, hm => by
  have hm : r ∈ l.rows (lev + 1) (14 + s) ++ rt.rows (lev + 1) last := hm
  have hd : (Tre.node l s u rt).depth = max l.depth rt.depth + 1 := rfl
  rcases List.mem_append.mp hm with hm | hm
  ·obtain ⟨h1, h2, h3, h4⟩ := rows_mem a (lev + 1) (14 + s) (.inr ⟨by omega, by omega⟩) r hm
   exact ⟨by omega, by omega, h3, h4⟩
  ·obtain ⟨h1, h2, h3, h4⟩ := rows_mem c (lev + 1) last hn r hm
   exact ⟨by omega, by omega, h3, h4⟩
theorem depth_le : ∀ t : Tre, t.depth + 1 ≤ t.leaves
 | .leaf _ _ => Nat.le_refl _
 | .node l s u r => by
  have h1 := depth_le l
  have h2 := depth_le r
  show max l.depth r.depth + 1 + 1 ≤ l.leaves + r.leaves
  omega
theorem rows_ok {t : Tre} (ht : t.ok) (h4 : 4 ≤ t.leaves) (h5 : t.leaves ≤ 5) : ∀ r ∈ t.rows 0 0, RowOk r := fun r hm => by
 have hd := depth_le t
 obtain ⟨h1, h2, h3, h6⟩ := rows_mem ht 0 0 (.inl rfl) r hm
 refine ⟨?_, by omega, h3, h6⟩
 match t, ht, h4 with
 | .leaf _ _, _, h => exact absurd h (by show ¬ 4 ≤ 1; decide)
 | .node l s u rt, ⟨a, b, c⟩, _ =>
  have hm : r ∈ l.rows (0 + 1) (14 + s) ++ rt.rows (0 + 1) 0 := hm
  rcases List.mem_append.mp hm with hm | hm
  ·exact (rows_mem a (0 + 1) (14 + s) (.inr ⟨by omega, by omega⟩) r hm).1
  ·exact (rows_mem c (0 + 1) 0 (.inl rfl) r hm).1
theorem c6_append : ∀ a b : List Row, c6 (a ++ b) = c6 a + c6 b
 | [], b => by simp [c6]
 | r :: a, b => by simp only [List.cons_append, c6]; rw [c6_append a b]; omega
theorem c6_zero : ∀ {l : List Row}, (∀ r ∈ l, r.id ≤ 5) → c6 l = 0
 | [], _ => rfl
 | r :: l, h => by
  have h1 := h r List.mem_cons_self
  simp only [c6]
  rw [if_neg (by omega), c6_zero fun x hx => h x (List.mem_cons_of_mem _ hx)]
theorem wtL_le : ∀ {l : List Row}, (∀ r ∈ l, nmP r.nm) → wtL l ≤ 9 * l.length
 | [], _ => Nat.le_refl _
 | r :: l, h => by
  have h1 := wtL_le fun x hx => h x (List.mem_cons_of_mem _ hx)
  obtain ⟨k, e, _, _, hk⟩ := h r List.mem_cons_self
  simp only [wtL, List.length_cons]
  rw [e, len_chs, chs_mk]
  omega
/-- rows as the fold wants them -/
theorem inv_of {l : List Row} (h : ∀ r ∈ l, r.id ≤ 6 ∧ numOk r.num ∧ nmP r.nm) (hl : l.length ≤ 100) (hc : c6 l ≤ 1) : Inv [] l where
 a _ hr := by cases hr
 b r hr := ⟨(h r hr).1, (h r hr).2.1⟩
 w := by
  have := wtL_le fun r hr => (h r hr).2.2
  show 0 + wtL l ≤ 1000
  omega
 c := by show 0 + c6 l ≤ 1; omega
theorem nm_noWs {x : Str} (h : nmP x) (r : List Nat) : noWs (chs x ++ r) := by
 obtain ⟨l, e, hne, hp, _⟩ := h
 rw [e, chs_mk]
 cases l with
 | nil => exact absurd rfl hne
 | cons c l =>
  have := hp c List.mem_cons_self
  unfold plainB at this
  simp only [Bool.and_eq_true, Bool.not_eq_true', beq_eq_false_iff_ne] at this
  exact ⟨this.1.1.1.2, this.1.1.2⟩
theorem nm_len {x : Str} (h : nmP x) : x.length ≤ 4 := by
 obtain ⟨l, e, _, _, hk⟩ := h
 rw [e, len_chs, chs_mk]; exact hk

/-! ## the law: one line of the page -/
structure LawG (Γ : G) : Prop where
 drawn : ∀ ns : List Int, ns.length ≤ 63 → ∃ t : Tre, Γ.fn "_law_drawn" [.arg (ns.map .int)] = some (nodeV t) ∧ t.ok ∧ 4 ≤ t.leaves ∧ t.leaves ≤ 5
 lines : ∀ t : Tre, t.ok → t.leaves ≤ 5 → Γ.fn "_law_lines" [.str t.txt] = some (.lst ((t.rows 0 0).map fun r => .lst r.l))
 ind : ∀ (total turn level : Nat), level ≤ 5 → Γ.fn "_law_indent" [.int total, .int level, .int turn] = some (.str (mk (leadT (kdsL total level) turn)))
 oth : ∀ (bs : List Nat) (t : Nat), (∀ k ∈ bs, k < 3) → bs.length + t ≤ 4 → 1 ≤ bs.length + t → ∃ o : Str, Γ.fn "_law_other" [.str (mk (leadK bs t))] = some (.str o) ∧ (∀ c ∈ chs o, c = 32 ∨ c = 9) ∧ (chs o).length = (leadK bs t).length ∧ wsGo (chs o) [] 0 ≠ wsGo (leadK bs t) [] 0
 ws : ∀ x : Str, x.length ≤ 400 → Γ.fn "Whitespace" [.str x] = some (wsOf (chs x))
 fold : ∀ (M : Nat → PV) (rows : List Row) (back : Bool), (∀ i j, i ≤ 6 → j ≤ 6 → i ≠ 6 ∨ j ≠ 6 → wsEq (M i) (M j) = some (.bool (i == j))) → Inv [] rows → Γ.fn "_law_fold" [.lst (rows.map (Row.v M)), marksOf M, .bool back] = some (.str (foldOut (feed back [] rows)))
abbrev scT : Sc := fdTheLaw.scope.names
def rT (script : PV) (total due text lines level marks spoiled page name number here lead wanted : Slot) : Rho := [("script", .v script), ("total", total), ("due", due), ("text", text), ("lines", lines), ("level", level), ("marks", marks), ("spoiled", spoiled), ("page", page), ("name", name), ("number", number), ("here", here), ("lead", lead), ("wanted", wanted)]
def tFor : Stmt := bodyI fdTheLaw 4
def tIn : Stmt := nthS (forBody tFor) 1
def tB (i : Nat) : Stmt := nthS (forBody tIn) i
section
variable {Γ : G} {script : PV} {T n : Nat} {total due text lines level marks spoiled page name number here lead wanted : Slot} {vs ls : List PV}
theorem b0_f : run1 Γ ownLaw scT (run Γ ownLaw scT 9) (rT script total due text lines level marks (.v (.bool false)) page name number here lead wanted) (tB 0) = some (.next, rT script total due text lines level marks (.v (.bool false)) page name number (.v (.bool false)) lead wanted) := by kernel_rfl
theorem b0_t (hn : ls.length = n) (h0 : 0 < n) (h1 : n ≤ 1000) (hv : vs.length ≤ 1000) : run1 Γ ownLaw scT (run Γ ownLaw scT 9) (rT script (.v (.int T)) due text (.v (.lst ls)) level marks (.v (.bool true)) (.o vs) name number here lead wanted) (tB 0) = some (.next, rT script (.v (.int T)) due text (.v (.lst ls)) level marks (.v (.bool true)) (.o vs) name number (.v (.bool (vs.length == T / 8 % n))) lead wanted) := by
 have e1 : ((T : Int).fdiv 8).fmod (ls.length : Int) = ((T / 8 % n : Nat) : Int) := by
  rw [hn, show (T : Int).fdiv 8 = ((T / 8 : Nat) : Int) from fdiv_nat T 8]; exact fmod_nat _ n
 have e2 : ((vs.length : Int) == ((T / 8 % n : Nat) : Int)) = (vs.length == T / 8 % n) := by
  by_cases e : vs.length = T / 8 % n
  ·rw [e, beq_self_eq_true, beq_self_eq_true]
  ·rw [beq_eq_false_iff_ne.mpr e, beq_eq_false_iff_ne]; omega
 have e3 : ev Γ 40 .v scT (rT script (.v (.int T)) due text (.v (.lst ls)) level marks (.v (.bool true)) (.o vs) name number here lead wanted) (asgE (tB 0)) = some (.bool (vs.length == T / 8 % n)) := by
  rw [← e2, ← e1]
  refine ev_of ?_
  conv => whnf
  refine wopt.mk (len_lst (by omega)) ?_
  conv => whnf
  refine wopt.mk (len_lst (by omega)) ?_
  conv => whnf
  refine wopt.mk (mod_int (b := (ls.length : Int)) (by omega)) ?_
  conv => whnf
 exact run1_asg e3 (by kernel_rfl) (by kernel_rfl) (by kernel_rfl)

theorem tb1_eq : tB 1 = .If (ndC (tB 1)) (ifA (tB 1)) [] (match tB 1 with | .If _ _ _ p => p | _ => default) := by kernel_rfl
theorem tb3_eq : tB 3 = .If (ndC (tB 3)) (ifA (tB 3)) [] (match tB 3 with | .If _ _ _ p => p | _ => default) := by kernel_rfl
theorem b1_f : run1 Γ ownLaw scT (run Γ ownLaw scT 9) (rT script total due text lines level marks spoiled page name number (.v (.bool false)) lead wanted) (tB 1) = some (.next, rT script total due text lines level marks spoiled page name number (.v (.bool false)) lead wanted) := by kernel_rfl
theorem b3_f : run1 Γ ownLaw scT (run Γ ownLaw scT 9) (rT script total due text lines level marks spoiled page name number (.v (.bool false)) lead wanted) (tB 3) = some (.next, rT script total due text lines level marks spoiled page name number (.v (.bool false)) lead wanted) := by kernel_rfl
theorem fm4 {k : Nat} : ((T : Int).fmod 4 == (k : Int)) = (T % 4 == k) := by
 rw [show (T : Int).fmod 4 = ((T % 4 : Nat) : Int) from fmod_nat T 4]
 by_cases e : T % 4 = k
 ·rw [e, beq_self_eq_true, beq_self_eq_true]
 ·rw [beq_eq_false_iff_ne.mpr e, beq_eq_false_iff_ne]; omega
theorem fm8 {k : Nat} : ((T : Int).fmod 8 == (k : Int)) = (T % 8 == k) := by
 rw [show (T : Int).fmod 8 = ((T % 8 : Nat) : Int) from fmod_nat T 8]
 by_cases e : T % 8 = k
 ·rw [e, beq_self_eq_true, beq_self_eq_true]
 ·rw [beq_eq_false_iff_ne.mpr e, beq_eq_false_iff_ne]; omega
theorem c1_t : ev Γ 40 .v scT (rT script (.v (.int T)) due text lines level marks spoiled page name number (.v (.bool true)) lead wanted) (ndC (tB 1)) = some (.bool (T % 4 == 1)) := by
 have h : ev Γ 40 .v scT (rT script (.v (.int T)) due text lines level marks spoiled page name number (.v (.bool true)) lead wanted) (ndC (tB 1)) = some (.bool ((T : Int).fmod 4 == ((1 : Nat) : Int))) := by kernel_rfl
 rw [h, fm4]
theorem c3_t : ev Γ 40 .v scT (rT script (.v (.int T)) due text lines level marks spoiled page name number (.v (.bool true)) lead wanted) (ndC (tB 3)) = some (.bool (T % 4 == 3)) := by
 have h : ev Γ 40 .v scT (rT script (.v (.int T)) due text lines level marks spoiled page name number (.v (.bool true)) lead wanted) (ndC (tB 3)) = some (.bool ((T : Int).fmod 4 == ((3 : Nat) : Int))) := by kernel_rfl
 rw [h, fm4]
theorem b1_no (h : T % 4 = 3) : run1 Γ ownLaw scT (run Γ ownLaw scT 9) (rT script (.v (.int T)) due text lines level marks spoiled page name number (.v (.bool true)) lead wanted) (tB 1) = some (.next, rT script (.v (.int T)) due text lines level marks spoiled page name number (.v (.bool true)) lead wanted) := by
 rw [tb1_eq, if_run c1_t, h]
 rfl
theorem b3_no (h : T % 4 = 1) : run1 Γ ownLaw scT (run Γ ownLaw scT 9) (rT script (.v (.int T)) due text lines level marks spoiled page name number (.v (.bool true)) lead wanted) (tB 3) = some (.next, rT script (.v (.int T)) due text lines level marks spoiled page name number (.v (.bool true)) lead wanted) := by
 rw [tb3_eq, if_run c3_t, h]
 rfl
theorem b1_deep {lv : Int} : run1 Γ ownLaw scT (run Γ ownLaw scT 9) (rT script (.v (.int T)) due text lines (.v (.int lv)) marks spoiled page name number (.v (.bool true)) lead wanted) (tB 1) = some (.next, rT script (.v (.int T)) due text lines (.v (.int (lv + if T % 8 = 1 then 1 else -1))) marks spoiled page name number (.v (.bool true)) lead wanted) ∨ T % 4 ≠ 1 := by
 by_cases h : T % 4 = 1
 ·left
  rw [tb1_eq, if_run c1_t, h]
  show run Γ ownLaw scT 9 _ (ifA (tB 1)) = _
  refine run_of ?_
  conv => whnf
  refine Br.mk (fun h8 => ?_) (fun h8 => ?_)
  ·have h8 : ((T : Int).fmod 8 == ((1 : Nat) : Int)) = true := h8
   rw [fm8] at h8
   rw [if_pos (by simpa using h8)]
   conv => whnf
   exact ⟨rfl, rfl⟩
  ·have h8 : ((T : Int).fmod 8 == ((1 : Nat) : Int)) = false := h8
   rw [fm8] at h8
   rw [if_neg (by simpa using h8)]
   conv => whnf
   exact ⟨rfl, rfl⟩
 ·right; exact h
theorem b2_run (hg : LawG Γ) {lv : Nat} (hl : lv ≤ 5) (hv : vs.length ≤ 1000) : run1 Γ ownLaw scT (run Γ ownLaw scT 9) (rT script (.v (.int T)) due text lines (.v (.int lv)) marks spoiled (.o vs) name number here lead wanted) (tB 2) = some (.next, rT script (.v (.int T)) due text lines (.v (.int lv)) marks spoiled (.o vs) name number here (.v (.str (mk (leadT (kdsL T lv) vs.length)))) wanted) := by
 refine run1_asg (ev_of ?_) (by kernel_rfl) (by kernel_rfl) (by kernel_rfl)
 conv => whnf
 refine wopt.mk (len_lst (by omega)) ?_
 conv => whnf
 refine wopt.mk (hg.ind T vs.length lv hl) ?_
 rfl
theorem b3_oth {o : Str} {ld : Str} (h : T % 4 = 3) (ho : Γ.fn "_law_other" [.str ld] = some (.str o)) : run1 Γ ownLaw scT (run Γ ownLaw scT 9) (rT script (.v (.int T)) due text lines level marks spoiled page name number (.v (.bool true)) (.v (.str ld)) wanted) (tB 3) = some (.next, rT script (.v (.int T)) due text lines level marks spoiled page name number (.v (.bool true)) (.v (.str o)) wanted) := by
 rw [tb3_eq, if_run c3_t, h]
 show run Γ ownLaw scT 9 _ (ifA (tB 3)) = _
 refine run_of ?_
 conv => whnf
 refine wopt.mk ho ?_
 conv => whnf
 exact ⟨rfl, rfl⟩
theorem b4_run (hg : LawG Γ) {ld : List Nat} {nm : Str} {num : PV} (hl : ld.length ≤ 100) (hn : nm.length ≤ 4) (hv : vs.length ≤ 100) : run1 Γ ownLaw scT (run Γ ownLaw scT 9) (rT script total due text lines level marks spoiled (.o vs) (.v (.str nm)) (.v num) here (.v (.str (mk ld))) wanted) (tB 4) = some (.next, rT script total due text lines level marks spoiled (.o (vs ++ [.tup [wsOf (ld ++ (chs nm ++ (List.replicate vs.length 32 ++ [9]))), .str nm, num]])) (.v (.str nm)) (.v num) here (.v (.str (mk ld))) wanted) := run1_of (by
 have e : mk ld ++ nm ++ mk (List.replicate vs.length 32) ++ Str.ofString "\t" = mk (ld ++ (chs nm ++ (List.replicate vs.length 32 ++ [9]))) := by
  refine str_ext ?_
  rw [chs_append, chs_append, chs_append, chs_mk, chs_mk, chs_mk]
  show ld ++ chs nm ++ _ ++ [9] = _
  simp
 have e1 : (Str.ofString "\t").length = 1 := rfl
 have e2 : (mk ld).length ≤ 100 := by rw [len_chs, chs_mk]; exact hl
 have e3 : (mk (List.replicate vs.length 32)).length ≤ 100 := by rw [len_chs, chs_mk]; simpa using hv
 conv => whnf
 refine wopt.mk (add_str (by omega)) ?_
 conv => whnf
 refine wopt.mk (len_lst (by omega)) ?_
 conv => whnf
 refine wopt.mk (mul_blank (n := vs.length) (by omega)) ?_
 conv => whnf
 refine wopt.mk (add_str (by rw [len_append]; omega)) ?_
 conv => whnf
 refine wopt.mk (add_str (b := Str.ofString "\t") (by rw [len_append, len_append]; omega)) ?_
 rw [e]
 conv => whnf
 refine wopt.mk (hg.ws _ (by rw [← e, len_append, len_append, len_append]; omega)) ?_
 rw [chs_mk]
 conv => whnf
 refine Br.t (show sizeOk vs.length = true from sizeOk_of (by omega)) ?_
 conv => whnf
 exact ⟨rfl, rfl⟩)
theorem tb_all : forBody tIn = [tB 0, tB 1, tB 2, tB 3, tB 4] := by kernel_rfl
/-- a line told as it is -/
theorem it_plain (hg : LawG Γ) {W : PV} {row : Row} (hr : RowOk row) (hv : vs.length ≤ 100)
  (h0 : run1 Γ ownLaw scT (run Γ ownLaw scT 9) (rT script (.v (.int T)) due text lines (.v (.int row.id)) marks spoiled (.o vs) (.v (.str row.nm)) (.v (.int row.num)) here lead wanted) (tB 0) = some (.next, rT script (.v (.int T)) due text lines (.v (.int row.id)) marks spoiled (.o vs) (.v (.str row.nm)) (.v (.int row.num)) (.v (.bool false)) lead wanted)) :
  run Γ ownLaw scT 10 (rT script (.v (.int T)) due text lines (.v (.int row.id)) marks spoiled (.o vs) (.v (.str row.nm)) (.v (.int row.num)) here lead wanted) (forBody tIn) = some (.next, rT script (.v (.int T)) due text lines (.v (.int row.id)) marks spoiled (.o (vs ++ [row.v (marksM T W)])) (.v (.str row.nm)) (.v (.int row.num)) (.v (.bool false)) (.v (.str (mk (leadT (kdsL T row.id) vs.length)))) wanted) := by
 have hi := hr.hi
 have hll := lenL_le T row.id
 rw [tb_all]
 show seqGo (run1 Γ ownLaw scT (run Γ ownLaw scT 9)) _ _ = _
 rw [seq_next h0, seq_next b1_f, seq_next (b2_run hg (by omega) (by omega)), seq_next b3_f, seq_next (b4_run hg (by rw [leadT_len]; omega) (nm_len hr.nm) hv)]
 rw [lead_ws (nm_noWs hr.nm _), lead_turn T row.id _ 0]
 unfold Row.v marksM
 rw [if_pos (by omega)]
 rfl
/-- a line set deeper or less deep -/
theorem it_deep (hg : LawG Γ) {W : PV} {row : Row} (hr : RowOk row) (hv : vs.length ≤ 100) (h4 : T % 4 = 1) {lv : Nat} (hlv : (row.id : Int) + (if T % 8 = 1 then 1 else -1) = lv)
  (h0 : run1 Γ ownLaw scT (run Γ ownLaw scT 9) (rT script (.v (.int T)) due text lines (.v (.int row.id)) marks spoiled (.o vs) (.v (.str row.nm)) (.v (.int row.num)) here lead wanted) (tB 0) = some (.next, rT script (.v (.int T)) due text lines (.v (.int row.id)) marks spoiled (.o vs) (.v (.str row.nm)) (.v (.int row.num)) (.v (.bool true)) lead wanted)) :
  run Γ ownLaw scT 10 (rT script (.v (.int T)) due text lines (.v (.int row.id)) marks spoiled (.o vs) (.v (.str row.nm)) (.v (.int row.num)) here lead wanted) (forBody tIn) = some (.next, rT script (.v (.int T)) due text lines (.v (.int lv)) marks spoiled (.o (vs ++ [Row.v (marksM T W) ⟨lv, row.nm, row.num⟩])) (.v (.str row.nm)) (.v (.int row.num)) (.v (.bool true)) (.v (.str (mk (leadT (kdsL T lv) vs.length)))) wanted) := by
 have hi := hr.hi
 have hl5 : lv ≤ 5 := by split at hlv <;> omega
 have hll := lenL_le T lv
 rw [tb_all]
 show seqGo (run1 Γ ownLaw scT (run Γ ownLaw scT 9)) _ _ = _
 rw [seq_next h0]
 rcases b1_deep (Γ := Γ) (script := script) (T := T) (due := due) (text := text) (lines := lines) (marks := marks) (spoiled := spoiled) (page := .o vs) (name := .v (.str row.nm)) (number := .v (.int row.num)) (lead := lead) (wanted := wanted) (lv := row.id) with h1 | h1
 ·rw [seq_next h1, hlv, seq_next (b2_run hg hl5 (by omega)), seq_next (b3_no h4), seq_next (b4_run hg (by rw [leadT_len]; omega) (nm_len hr.nm) hv)]
  rw [lead_ws (nm_noWs hr.nm _), lead_turn T lv _ 0]
  unfold Row.v marksM
  rw [if_pos hl5]
  rfl
 ·exact absurd h4 h1
theorem ws_all {o r : List Nat} (h : noWs r) (ho : ∀ c ∈ o, c = 32 ∨ c = 9) : wsOf (o ++ r) = wsOf o := by
 unfold wsOf
 rw [wsGo_all o h ho]
/-- a line with an indent like no level's -/
theorem it_oth (hg : LawG Γ) {row : Row} (hr : RowOk row) (hv : vs.length ≤ 100) (h4 : T % 4 = 3) {o : Str} (ho : Γ.fn "_law_other" [.str (mk (leadT (kdsL T row.id) vs.length))] = some (.str o)) (hc : ∀ c ∈ chs o, c = 32 ∨ c = 9) (hl : (chs o).length = (leadT (kdsL T row.id) vs.length).length)
  (h0 : run1 Γ ownLaw scT (run Γ ownLaw scT 9) (rT script (.v (.int T)) due text lines (.v (.int row.id)) marks spoiled (.o vs) (.v (.str row.nm)) (.v (.int row.num)) here lead wanted) (tB 0) = some (.next, rT script (.v (.int T)) due text lines (.v (.int row.id)) marks spoiled (.o vs) (.v (.str row.nm)) (.v (.int row.num)) (.v (.bool true)) lead wanted)) :
  run Γ ownLaw scT 10 (rT script (.v (.int T)) due text lines (.v (.int row.id)) marks spoiled (.o vs) (.v (.str row.nm)) (.v (.int row.num)) here lead wanted) (forBody tIn) = some (.next, rT script (.v (.int T)) due text lines (.v (.int row.id)) marks spoiled (.o (vs ++ [Row.v (marksM T (wsOf (chs o))) ⟨6, row.nm, row.num⟩])) (.v (.str row.nm)) (.v (.int row.num)) (.v (.bool true)) (.v (.str o)) wanted) := by
 have hi := hr.hi
 have hll := lenL_le T row.id
 rw [tb_all]
 show seqGo (run1 Γ ownLaw scT (run Γ ownLaw scT 9)) _ _ = _
 rw [seq_next h0, seq_next (b1_no h4), seq_next (b2_run hg (by omega) (by omega)), seq_next (b3_oth h4 ho)]
 have h5 := b4_run (Γ := Γ) (script := script) (total := .v (.int T)) (due := due) (text := text) (lines := lines) (level := .v (.int row.id)) (marks := marks) (spoiled := spoiled) (vs := vs) (nm := row.nm) (num := .int row.num) (here := .v (.bool true)) (wanted := wanted) hg (ld := chs o) (by rw [hl, leadT_len]; omega) (nm_len hr.nm) hv
 rw [mk_chs] at h5
 rw [seq_next h5, ws_all (nm_noWs hr.nm _) hc]
 rfl

theorem in_bind {row : Row} : bindT scT ownLaw (forTarget tIn) (.lst row.l) (rT script total due text lines level marks spoiled (.o vs) name number here lead wanted) = some (rT script total due text lines (.v (.int row.id)) marks spoiled (.o vs) (.v (.str row.nm)) (.v (.int row.num)) here lead wanted) := by kernel_rfl
abbrev inGo (Γ : G) (items : List PV) (ρ : Rho) : Option (Fl × Rho) := forGo (run Γ ownLaw scT 10 · (forBody tIn)) (bindT scT ownLaw (forTarget tIn)) items ρ
theorem in_step {row : Row} {items : List PV} {level' : Slot} {vs' : List PV} {name' number' here' lead' : Slot} (h : run Γ ownLaw scT 10 (rT script total due text lines (.v (.int row.id)) marks spoiled (.o vs) (.v (.str row.nm)) (.v (.int row.num)) here lead wanted) (forBody tIn) = some (.next, rT script total due text lines level' marks spoiled (.o vs') name' number' here' lead' wanted)) :
  inGo Γ (.lst row.l :: items) (rT script total due text lines level marks spoiled (.o vs) name number here lead wanted) = inGo Γ items (rT script total due text lines level' marks spoiled (.o vs') name' number' here' lead' wanted) := by
 unfold inGo
 conv => lhs; unfold forGo
 rw [in_bind]
 simp only [Option.bind_eq_bind, Option.bind_some]
 rw [h]
 rfl
/-- some lines, all told as they are -/
theorem in_rows (hg : LawG Γ) {W : PV} {sp : Bool} (hn : ls.length = n) (h0 : 0 < n) (h1 : n ≤ 100) : ∀ (Rs : List Row) (vs : List PV) (tail : List PV) {level name number here lead : Slot}, (∀ r ∈ Rs, RowOk r) → vs.length + Rs.length ≤ 100 → (sp = true → ∀ i, i < Rs.length → vs.length + i ≠ T / 8 % n) →
  ∃ level' name' number' here' lead', inGo Γ (Rs.map (fun r => PV.lst r.l) ++ tail) (rT script (.v (.int T)) due text (.v (.lst ls)) level marks (.v (.bool sp)) (.o vs) name number here lead wanted) = inGo Γ tail (rT script (.v (.int T)) due text (.v (.lst ls)) level' marks (.v (.bool sp)) (.o (vs ++ Rs.map (Row.v (marksM T W)))) name' number' here' lead' wanted)
 | [], vs, tail, level, name, number, here, lead, _, _, _ => ⟨level, name, number, here, lead, by simp⟩
 | r :: Rs, vs, tail, level, name, number, here, lead, hr, hv, hp => by
  simp only [List.length_cons] at hv
  have hb0 : run1 Γ ownLaw scT (run Γ ownLaw scT 9) (rT script (.v (.int T)) due text (.v (.lst ls)) (.v (.int r.id)) marks (.v (.bool sp)) (.o vs) (.v (.str r.nm)) (.v (.int r.num)) here lead wanted) (tB 0) = some (.next, rT script (.v (.int T)) due text (.v (.lst ls)) (.v (.int r.id)) marks (.v (.bool sp)) (.o vs) (.v (.str r.nm)) (.v (.int r.num)) (.v (.bool false)) lead wanted) := by
   cases sp with
   | false => exact b0_f
   | true =>
    rw [b0_t hn h0 (by omega) (by omega)]
    have := hp rfl 0 (by simp)
    rw [Nat.add_zero] at this
    rw [beq_eq_false_iff_ne.mpr this]
  have hs := it_plain (W := W) hg (hr r List.mem_cons_self) (by omega) hb0
  obtain ⟨p1, p2, p3, p4, p5, e⟩ := in_rows hg (W := W) (sp := sp) hn h0 h1 Rs (vs ++ [r.v (marksM T W)]) tail (level := .v (.int r.id)) (name := .v (.str r.nm)) (number := .v (.int r.num)) (here := .v (.bool false)) (lead := .v (.str (mk (leadT (kdsL T r.id) vs.length)))) (fun x hx => hr x (List.mem_cons_of_mem _ hx)) (by simp; omega) (fun h i hi => by
   have := hp h (i + 1) (by simp; omega)
   simp; omega)
  refine ⟨p1, p2, p3, p4, p5, ?_⟩
  rw [List.map_cons, List.cons_append, in_step hs, e, List.map_cons, List.append_assoc]
  rfl
end

/-! ## the law: the page told, once or twice -/
def mkV (T : Nat) : PV := .lst [wsLead T 0 0, wsLead T 1 0, wsLead T 2 0, wsLead T 3 0, wsLead T 4 0, wsLead T 5 0]
theorem mkV_eq (T : Nat) (W : PV) : marksOf (marksM T W) = mkV T := rfl
def tO (i : Nat) : Stmt := nthS (forBody tFor) i
theorem to_all : forBody tFor = [tO 0, tIn, tO 2, tO 3] := by kernel_rfl
section
variable {Γ : G} {script : PV} {T n : Nat} {total due text lines level marks spoiled page name number here lead wanted : Slot} {vs ls : List PV}
theorem o0_run : run1 Γ ownLaw scT (run Γ ownLaw scT 10) (rT script total due text lines level marks spoiled page name number here lead wanted) (tO 0) = some (.next, rT script total due text lines level marks spoiled (.o []) name number here lead wanted) := by kernel_rfl
theorem o1_run (h : ls.length ≤ 100) : run1 Γ ownLaw scT (run Γ ownLaw scT 10) (rT script total due text (.v (.lst ls)) level marks spoiled page name number here lead wanted) tIn = inGo Γ ls (rT script total due text (.v (.lst ls)) level marks spoiled page name number here lead wanted) := by
 show (match itemsOf (.lst ls) with
    | some vs => forGo (run Γ ownLaw scT 10 · (forBody tIn)) (bindT scT ownLaw (forTarget tIn)) vs _
    | none => none) = _
 rw [show itemsOf (.lst ls) = some ls from if_pos (sizeOk_of (by omega))]
theorem o2_f {d : PV} : run1 Γ ownLaw scT (run Γ ownLaw scT 10) (rT script total (.v d) text lines level marks (.v (.bool false)) page name number here lead wanted) (tO 2) = some (.next, rT script total (.v d) text lines level marks (.v (.bool false)) page name number here lead (.v d)) := by kernel_rfl
theorem o2_t {d : PV} : run1 Γ ownLaw scT (run Γ ownLaw scT 10) (rT script total (.v d) text lines level marks (.v (.bool true)) page name number here lead wanted) (tO 2) = some (.next, rT script total (.v d) text lines level marks (.v (.bool true)) page name number here lead (.v (.str ⟨#[]⟩))) := by kernel_rfl
theorem cut_rev (h : vs.length ≤ 1000) : cut (.lst vs) none none (some (-1)) = some (.lst vs.reverse) := if_pos (sizeOk_of (by omega))
theorem o3_cond {w : Str} {mv : PV} (hv : vs.length ≤ 1000) (h1 : Γ.fn "_law_fold" [.lst vs, mv, .bool false] = some (.str w)) (h2 : Γ.fn "_law_fold" [.lst vs.reverse, mv, .bool true] = some (.str w)) : ev Γ 40 .v scT (rT script total due text lines level (.v mv) spoiled (.o vs) name number here lead (.v (.str w))) (ndC (tO 3)) = some (.bool false) := ev_of (by
 have hw : (chs w != chs w) = false := by simp
 conv => whnf
 refine wopt.mk h1 ?_
 conv => whnf
 refine Br.f hw ?_
 conv => whnf
 refine wopt.mk (cut_rev hv) ?_
 conv => whnf
 refine wopt.mk h2 ?_
 show PV.bool _ = PV.bool _
 congr 1)
theorem to3_eq : tO 3 = .If (ndC (tO 3)) (ifA (tO 3)) [] (match tO 3 with | .If _ _ _ p => p | _ => default) := by kernel_rfl
theorem o3_run (hg : LawG Γ) {W : PV} {rows : List Row} {w : Str} (hM : WOk T W) (hl : rows.length ≤ 100) (hi : Inv [] rows) (hi' : Inv [] rows.reverse) (h1 : foldOut (feed false [] rows) = w) (h2 : foldOut (feed true [] rows.reverse) = w) : run1 Γ ownLaw scT (run Γ ownLaw scT 10) (rT script total due text lines level (.v (mkV T)) spoiled (.o (rows.map (Row.v (marksM T W)))) name number here lead (.v (.str w))) (tO 3) = some (.next, rT script total due text lines level (.v (mkV T)) spoiled (.o (rows.map (Row.v (marksM T W)))) name number here lead (.v (.str w))) := by
 have f1 := hg.fold (marksM T W) rows false (marks_ok hM) hi
 have f2 := hg.fold (marksM T W) rows.reverse true (marks_ok hM) hi'
 rw [mkV_eq, h1] at f1
 rw [mkV_eq, h2, List.map_reverse] at f2
 rw [to3_eq, if_run (o3_cond (by simp; omega) f1 f2)]
 rfl
/-- one telling of the page -/
theorem out_turn (hg : LawG Γ) {W d : PV} {sp : Bool} {rows' : List Row} {w : Str} (hls : ls.length ≤ 100)
  (hin : ∃ level' name' number' here' lead', inGo Γ ls (rT script (.v (.int T)) (.v d) text (.v (.lst ls)) level (.v (mkV T)) (.v (.bool sp)) (.o []) name number here lead wanted) = some (.next, rT script (.v (.int T)) (.v d) text (.v (.lst ls)) level' (.v (mkV T)) (.v (.bool sp)) (.o (rows'.map (Row.v (marksM T W)))) name' number' here' lead' wanted))
  (hw : (if sp then PV.str ⟨#[]⟩ else d) = .str w) (hM : WOk T W) (hl : rows'.length ≤ 100) (hi : Inv [] rows') (hi' : Inv [] rows'.reverse) (h1 : foldOut (feed false [] rows') = w) (h2 : foldOut (feed true [] rows'.reverse) = w) :
  ∃ level' page' name' number' here' lead' wanted', run Γ ownLaw scT 11 (rT script (.v (.int T)) (.v d) text (.v (.lst ls)) level (.v (mkV T)) (.v (.bool sp)) page name number here lead wanted) (forBody tFor) = some (.next, rT script (.v (.int T)) (.v d) text (.v (.lst ls)) level' (.v (mkV T)) (.v (.bool sp)) page' name' number' here' lead' wanted') := by
 obtain ⟨p1, p2, p3, p4, p5, e⟩ := hin
 refine ⟨p1, .o (rows'.map (Row.v (marksM T W))), p2, p3, p4, p5, .v (.str w), ?_⟩
 rw [to_all]
 show seqGo (run1 Γ ownLaw scT (run Γ ownLaw scT 10)) _ _ = _
 rw [seq_next o0_run, seq_next ((o1_run hls).trans e)]
 have o2 : run1 Γ ownLaw scT (run Γ ownLaw scT 10) (rT script (.v (.int T)) (.v d) text (.v (.lst ls)) p1 (.v (mkV T)) (.v (.bool sp)) (.o (rows'.map (Row.v (marksM T W)))) p2 p3 p4 p5 wanted) (tO 2) = some (.next, rT script (.v (.int T)) (.v d) text (.v (.lst ls)) p1 (.v (mkV T)) (.v (.bool sp)) (.o (rows'.map (Row.v (marksM T W)))) p2 p3 p4 p5 (.v (.str w))) := by
  cases sp with
  | false => rw [← hw]; exact o2_f
  | true => rw [← hw]; exact o2_t
 rw [seq_next o2, seq_next (o3_run hg hM hl hi hi' h1 h2)]
 rfl

theorem one_split {α : Type} : ∀ (ts : List α) (k : Nat), k < ts.length → ∃ a r b, ts = a ++ r :: b ∧ a.length = k
 | r :: b, 0, _ => ⟨[], r, b, rfl, rfl⟩
 | t :: ts, k + 1, h => by
  obtain ⟨a, r, b, e, e'⟩ := one_split ts k (by simp at h; omega)
  exact ⟨t :: a, r, b, by rw [e]; rfl, by simp [e']⟩
theorem c6_reverse : ∀ a : List Row, c6 a.reverse = c6 a
 | [] => rfl
 | r :: a => by rw [List.reverse_cons, c6_append, c6_reverse a]; simp only [c6]; omega
theorem row_in {r : Row} (h : RowOk r) : r.id ≤ 6 ∧ numOk r.num ∧ nmP r.nm := ⟨by have := h.hi; omega, h.num, h.nm⟩
abbrev itemsR (rows : List Row) : List PV := rows.map fun r => PV.lst r.l
/-- the page as it is -/
theorem turn_f (hg : LawG Γ) {t : Tre} (ht : t.ok) (h4 : 4 ≤ t.leaves) (h5 : t.leaves ≤ 5) :
  ∃ level' page' name' number' here' lead' wanted', run Γ ownLaw scT 11 (rT script (.v (.int T)) (.v (.str t.due)) text (.v (.lst (itemsR (t.rows 0 0)))) level (.v (mkV T)) (.v (.bool false)) page name number here lead wanted) (forBody tFor) = some (.next, rT script (.v (.int T)) (.v (.str t.due)) text (.v (.lst (itemsR (t.rows 0 0)))) level' (.v (mkV T)) (.v (.bool false)) page' name' number' here' lead' wanted') := by
 have hok := rows_ok ht h4 h5
 have hlen := rows_len t 0 0
 have hc : c6 (t.rows 0 0) = 0 := c6_zero fun r hr => by have := (hok r hr).hi; omega
 refine out_turn (W := .ws [] (-1)) (rows' := t.rows 0 0) (w := t.due) hg (by simp; omega) ?_ rfl (w0_ok T) (by omega) (inv_of (fun r hr => row_in (hok r hr)) (by omega) (by omega)) (inv_of (fun r hr => row_in (hok r (List.mem_reverse.mp hr))) (by rw [List.length_reverse]; omega) (by rw [c6_reverse]; omega)) (fold_due (Tre.ok_s ht)) (fold_dueB (Tre.ok_s ht))
 obtain ⟨p1, p2, p3, p4, p5, e⟩ := in_rows (Γ := Γ) (script := script) (T := T) (due := .v (.str t.due)) (text := text) (marks := .v (mkV T)) (wanted := wanted) (ls := itemsR (t.rows 0 0)) (n := t.leaves) hg (W := .ws [] (-1)) (sp := false) (by simp; exact hlen) (by omega) (by omega) (t.rows 0 0) [] [] (level := level) (name := name) (number := number) (here := here) (lead := lead) hok (by simp; omega) (fun h => by cases h)
 rw [List.append_nil, List.nil_append] at e
 exact ⟨p1, p2, p3, p4, p5, e⟩
/-- the page with one line changed -/
theorem turn_t (hg : LawG Γ) {t : Tre} (ht : t.ok) (h4 : 4 ≤ t.leaves) (h5 : t.leaves ≤ 5) (hT : T % 2 = 1) :
  ∃ level' page' name' number' here' lead' wanted', run Γ ownLaw scT 11 (rT script (.v (.int T)) (.v (.str t.due)) text (.v (.lst (itemsR (t.rows 0 0)))) level (.v (mkV T)) (.v (.bool true)) page name number here lead wanted) (forBody tFor) = some (.next, rT script (.v (.int T)) (.v (.str t.due)) text (.v (.lst (itemsR (t.rows 0 0)))) level' (.v (mkV T)) (.v (.bool true)) page' name' number' here' lead' wanted') := by
 have hok := rows_ok ht h4 h5
 have hlen := rows_len t 0 0
 have hd := depth_le t
 have hw2 := rows_w2 t 0 0 (by omega)
 obtain ⟨A, r, B, hs, hA⟩ := one_split (t.rows 0 0) (T / 8 % t.leaves) (by rw [hlen]; exact Nat.mod_lt _ (by omega))
 have hlA : A.length + 1 + B.length = t.leaves := by rw [← hlen, hs]; simp; omega
 have okA : ∀ x ∈ A, RowOk x := fun x hx => hok x (by rw [hs]; simp [hx])
 have okB : ∀ x ∈ B, RowOk x := fun x hx => hok x (by rw [hs]; simp [hx])
 have okr : RowOk r := hok r (by rw [hs]; simp)
 have hlo := okr.lo
 have hhi := okr.hi
 have hcA : c6 A = 0 := c6_zero fun x hx => by have := (okA x hx).hi; omega
 have hcB : c6 B = 0 := c6_zero fun x hx => by have := (okB x hx).hi; omega
 have hlL : (itemsR (t.rows 0 0)).length = t.leaves := by simp; exact hlen
 have his : itemsR (t.rows 0 0) = A.map (fun r => PV.lst r.l) ++ (.lst r.l :: (B.map (fun r => PV.lst r.l) ++ [])) := by rw [List.append_nil]; unfold itemsR; rw [hs, List.map_append]; rfl
 have key : ∀ (W : PV) (r' : Row), r'.id ≤ 6 → r'.num = r.num → r'.nm = r.nm →
   (∀ {level name number here lead : Slot}, ∃ level' here' lead', run Γ ownLaw scT 10 (rT script (.v (.int T)) (.v (.str t.due)) text (.v (.lst (itemsR (t.rows 0 0)))) (.v (.int r.id)) (.v (mkV T)) (.v (.bool true)) (.o (A.map (Row.v (marksM T W)))) (.v (.str r.nm)) (.v (.int r.num)) here lead wanted) (forBody tIn) = some (.next, rT script (.v (.int T)) (.v (.str t.due)) text (.v (.lst (itemsR (t.rows 0 0)))) level' (.v (mkV T)) (.v (.bool true)) (.o (A.map (Row.v (marksM T W)) ++ [r'.v (marksM T W)])) (.v (.str r.nm)) (.v (.int r.num)) here' lead' wanted)) →
   ∃ level' name' number' here' lead', inGo Γ (itemsR (t.rows 0 0)) (rT script (.v (.int T)) (.v (.str t.due)) text (.v (.lst (itemsR (t.rows 0 0)))) level (.v (mkV T)) (.v (.bool true)) (.o []) name number here lead wanted) = some (.next, rT script (.v (.int T)) (.v (.str t.due)) text (.v (.lst (itemsR (t.rows 0 0)))) level' (.v (mkV T)) (.v (.bool true)) (.o ((A ++ r' :: B).map (Row.v (marksM T W)))) name' number' here' lead' wanted) := fun W r' _ _ _ hstep => by
  obtain ⟨p1, p2, p3, p4, p5, e⟩ := in_rows (Γ := Γ) (script := script) (T := T) (due := .v (.str t.due)) (text := text) (marks := .v (mkV T)) (wanted := wanted) (ls := itemsR (t.rows 0 0)) (n := t.leaves) hg (W := W) (sp := true) hlL (by omega) (by omega) A [] (.lst r.l :: (B.map (fun r => PV.lst r.l) ++ [])) (level := level) (name := name) (number := number) (here := here) (lead := lead) okA (by simp; omega) (fun _ i hi => by simp; omega)
  obtain ⟨l1, h1, d1, e1⟩ := hstep (level := p1) (name := p2) (number := p3) (here := p4) (lead := p5)
  obtain ⟨q1, q2, q3, q4, q5, e2⟩ := in_rows (Γ := Γ) (script := script) (T := T) (due := .v (.str t.due)) (text := text) (marks := .v (mkV T)) (wanted := wanted) (ls := itemsR (t.rows 0 0)) (n := t.leaves) hg (W := W) (sp := true) hlL (by omega) (by omega) B (A.map (Row.v (marksM T W)) ++ [r'.v (marksM T W)]) [] (level := l1) (name := .v (.str r.nm)) (number := .v (.int r.num)) (here := h1) (lead := d1) okB (by simp; omega) (fun _ i hi => by simp; omega)
  refine ⟨q1, q2, q3, q4, q5, ?_⟩
  rw [← his, List.nil_append] at e
  rw [e, in_step e1, e2, List.map_append, List.map_cons, List.append_assoc]
  rfl
 have h0 : ∀ {W : PV} {here lead : Slot}, run1 Γ ownLaw scT (run Γ ownLaw scT 9) (rT script (.v (.int T)) (.v (.str t.due)) text (.v (.lst (itemsR (t.rows 0 0)))) (.v (.int r.id)) (.v (mkV T)) (.v (.bool true)) (.o (A.map (Row.v (marksM T W)))) (.v (.str r.nm)) (.v (.int r.num)) here lead wanted) (tB 0) = some (.next, rT script (.v (.int T)) (.v (.str t.due)) text (.v (.lst (itemsR (t.rows 0 0)))) (.v (.int r.id)) (.v (mkV T)) (.v (.bool true)) (.o (A.map (Row.v (marksM T W)))) (.v (.str r.nm)) (.v (.int r.num)) (.v (.bool true)) lead wanted) := fun {W here lead} => by
  rw [b0_t hlL (by omega) (by omega) (by simp; omega), List.length_map, hA, beq_self_eq_true]
 have hmem : ∀ r' : Row, r'.id ≤ 6 → r'.num = r.num → r'.nm = r.nm → ∀ x ∈ A ++ r' :: B, x.id ≤ 6 ∧ numOk x.num ∧ nmP x.nm := fun r' e1 e2 e3 x hx => by
  rcases List.mem_append.mp hx with hx | hx
  ·exact row_in (okA x hx)
  ·rcases List.mem_cons.mp hx with rfl | hx
   ·exact ⟨e1, e2 ▸ okr.num, e3 ▸ okr.nm⟩
   ·exact row_in (okB x hx)
 have h13 : T % 4 = 1 ∨ T % 4 = 3 := by omega
 rcases h13 with h13 | h13
 ·obtain ⟨lv, hlv⟩ : ∃ lv : Nat, (r.id : Int) + (if T % 8 = 1 then 1 else -1) = lv := by
   split
   ·exact ⟨r.id + 1, by omega⟩
   ·exact ⟨r.id - 1, by omega⟩
  have hne : lv ≠ r.id ∧ lv ≤ 5 := by split at hlv <;> omega
  have hm := hmem ⟨lv, r.nm, r.num⟩ (by show lv ≤ 6; omega) rfl rfl
  have hc0 : c6 (A ++ ⟨lv, r.nm, r.num⟩ :: B) = 0 := by
   rw [c6_append]; simp only [c6]; rw [if_neg (by omega)]; omega
  have hw : w2 (A ++ ⟨lv, r.nm, r.num⟩ :: B) ≠ 64 := fun e => by
   rw [hs, w2_append] at hw2
   rw [w2_append] at e
   simp only [w2] at hw2 e
   have h64 : (2 : Nat) ^ (6 - 0) = 64 := rfl
   rw [h64] at hw2
   have hp : (2 : Nat) ^ (6 - lv) = 2 ^ (6 - r.id) := by omega
   have := (Nat.pow_right_inj (by decide)).mp hp
   omega
  refine out_turn (W := .ws [] (-1)) (rows' := A ++ ⟨lv, r.nm, r.num⟩ :: B) (w := ⟨#[]⟩) hg (by omega) (key _ _ (by show lv ≤ 6; omega) rfl rfl ?_) rfl (w0_ok T) (by simp; omega) (inv_of hm (by simp; omega) (by omega)) (inv_of (fun x hx => hm x (List.mem_reverse.mp hx)) (by simp; omega) (by rw [c6_reverse]; omega)) (fold_w2 (fun x hx => (hm x hx).1) hw) (fold_w2 (fun x hx => (hm x (List.mem_reverse.mp hx)).1) (by rw [w2_reverse]; exact hw))
  intro level name number here lead
  exact ⟨_, _, _, it_deep (W := .ws [] (-1)) hg okr (by simp; omega) h13 hlv h0⟩
 ·obtain ⟨o, ho, hoc, hol, hon⟩ := hg.oth (rot (ksB (kdsL T r.id)) A.length) (c3 (kdsL T r.id)) (fun k hk => by
   have := (rot_perm (ksB (kdsL T r.id)) A.length).mem_iff.mp hk
   unfold ksB at this
   simpa using (List.mem_filter.mp this).2) (by rw [(rot_perm _ _).length_eq, cntL]; omega) (by rw [(rot_perm _ _).length_eq, cntL]; omega)
  have hm := hmem ⟨6, r.nm, r.num⟩ (Nat.le_refl _) rfl rfl
  have hc1 : c6 (A ++ ⟨6, r.nm, r.num⟩ :: B) = 1 := by
   rw [c6_append]; simp only [c6]; rw [if_pos trivial]; omega
  have i1 := inv_of hm (by simp; omega) (by omega)
  have i2 := inv_of (l := (A ++ ⟨6, r.nm, r.num⟩ :: B).reverse) (fun x hx => hm x (List.mem_reverse.mp hx)) (by simp; omega) (by rw [c6_reverse]; omega)
  refine out_turn (W := wsOf (chs o)) (rows' := A ++ ⟨6, r.nm, r.num⟩ :: B) (w := ⟨#[]⟩) hg (by omega) (key _ _ (Nat.le_refl _) rfl rfl ?_) rfl (wo_ok (k := r.id) (turn := A.length) hoc hol hon) (by simp; omega) i1 i2 (fold_c6 i1 hc1) (fold_c6 i2 (by rw [c6_reverse]; exact hc1))
  intro level name number here lead
  exact ⟨_, _, _, it_oth hg okr (by simp; omega) h13 (o := o) (by rw [List.length_map]; exact ho) hoc (by rw [List.length_map]; exact hol) h0⟩
end

/-! ## the law -/
section
variable {Γ : G} {script : PV} {T n : Nat} {total due text lines level marks spoiled page name number here lead wanted : Slot} {vs ls : List PV}
theorem t0_run {ns : List Int} (h : ns.length ≤ 63) : run1 Γ ownLaw scT (run Γ ownLaw scT 11) (rT (.arg (ns.map .int)) total due text lines level marks spoiled page name number here lead wanted) (bodyI fdTheLaw 0) = some (.next, rT (.arg (ns.map .int)) (.v (.int (mil ns.sum))) due text lines level marks spoiled page name number here lead wanted) := by
 have hcut : cut (.arg (ns.map .int)) none (some 63) none = some (.lst (ns.map .int)) := by
  have e : cutL (ns.map PV.int) none (some (63 : Int)) = ns.map PV.int := by
   unfold cutL
   simp only [Option.elim]
   rw [show (63 : Int) = ((63 : Nat) : Int) from rfl, clipAt_big (by simp; omega), List.take_of_length_le (by simp)]
   rfl
  conv => rhs; rw [← e]
  exact if_pos (sizeOk_of (by simp; omega))
 have hsum : blt "sum" [.lst (ns.map .int)] = some (.int ns.sum) := by
  show (match allInt (ns.map .int) with
   | some xs => some (PV.int xs.sum)
   | none => none) = _
  rw [allInt_map]
 refine run1_asg (ev_of ?_) (by kernel_rfl) (by kernel_rfl) (by kernel_rfl)
 rw [← mil_eq]
 generalize ns.map PV.int = L at *
 generalize ns.sum = S at *
 conv => whnf
 refine wopt.mk hcut ?_
 conv => whnf
 refine wopt.mk hsum ?_
 conv => whnf
 rw [show (10 : Int) ^ Int.toNat 6 = 1000000 by decide]
theorem t1_run {a b : PV} (h : Γ.fn "_law_drawn" [script] = some (.tup [a, b])) : run1 Γ ownLaw scT (run Γ ownLaw scT 11) (rT script total due text lines level marks spoiled page name number here lead wanted) (bodyI fdTheLaw 1) = some (.next, rT script total (.v a) (.v b) lines level marks spoiled page name number here lead wanted) := run1_of (by
 conv => whnf
 refine wopt.mk h ?_
 conv => whnf
 exact ⟨rfl, rfl⟩)
theorem t2_run {b c : PV} (h : Γ.fn "_law_lines" [b] = some c) : run1 Γ ownLaw scT (run Γ ownLaw scT 11) (rT script total due (.v b) lines level marks spoiled page name number here lead wanted) (bodyI fdTheLaw 2) = some (.next, rT script total due (.v b) (.v c) level marks spoiled page name number here lead wanted) := by
 refine run1_asg (ev_of ?_) (by kernel_rfl) (by kernel_rfl) (by kernel_rfl)
 conv => whnf
 refine wopt.mk h ?_
 rfl
theorem t3_item (hg : LawG Γ) (k : Nat) (hk : k < 6) : turnOf (ev Γ 39 .v (relab scT (lcScope (asgE (bodyI fdTheLaw 3))).names) ((Str.ofString "level", .v (.int k)) :: lcRho scT (lcScope (asgE (bodyI fdTheLaw 3))) (rT script (.v (.int T)) due text lines level marks spoiled page name number here lead wanted))) [] (lcElt (asgE (bodyI fdTheLaw 3))) = some [wsLead T k 0] := by
 have hll := lenL_le T k
 have h1 := hg.ind T 0 k (by omega)
 have h2 := hg.ws (mk (leadT (kdsL T k) 0)) (by rw [len_chs, chs_mk, leadT_len]; omega)
 have h3 : wsOf (leadT (kdsL T k) 0) = wsLead T k 0 := by
  have := lead_ws (total := T) (level := k) (turn := 0) (r := []) trivial
  rw [List.append_nil] at this
  exact this
 rw [chs_mk, h3] at h2
 refine turn_n (ev_of ?_)
 conv => whnf
 refine wopt.mk h1 ?_
 conv => whnf
 refine wopt.mk h2 ?_
 rfl
theorem t3_run (hg : LawG Γ) : run1 Γ ownLaw scT (run Γ ownLaw scT 11) (rT script (.v (.int T)) due text lines level marks spoiled page name number here lead wanted) (bodyI fdTheLaw 3) = some (.next, rT script (.v (.int T)) due text lines level (.v (mkV T)) spoiled page name number here lead wanted) := by
 have e : mkV T = .lst (((List.range 6).map fun k => [wsLead T k 0]).flatten) := rfl
 rw [e]
 have hi : (match rangeArgs scT (lcIter (asgE (bodyI fdTheLaw 3))) with
     | some args => (args.mapM (ev Γ 39 .v scT (rT script (.v (.int T)) due text lines level marks spoiled page name number here lead wanted))).bind rangeOf
     | none => (ev Γ 39 .l scT (rT script (.v (.int T)) due text lines level marks spoiled page name number here lead wanted) (lcIter (asgE (bodyI fdTheLaw 3)))).bind itemsOf) = some ((List.range 6).map fun (k : Nat) => PV.int k) := by kernel_rfl
 exact run1_asg (ev_lc (by kernel_rfl) hi (by rfl) (mapM_map fun k hk => t3_item hg k (List.mem_range.mp hk))) (by kernel_rfl) (by kernel_rfl) (by kernel_rfl)

abbrev outGo (Γ : G) (items : List PV) (ρ : Rho) : Option (Fl × Rho) := forGo (run Γ ownLaw scT 11 · (forBody tFor)) (bindT scT ownLaw (forTarget tFor)) items ρ
theorem out_bind {v : PV} : bindT scT ownLaw (forTarget tFor) v (rT script total due text lines level marks spoiled page name number here lead wanted) = some (rT script total due text lines level marks (.v v) page name number here lead wanted) := by kernel_rfl
theorem out_step {v : PV} {items : List PV} {level' page' name' number' here' lead' wanted' : Slot} (h : run Γ ownLaw scT 11 (rT script total due text lines level marks (.v v) page name number here lead wanted) (forBody tFor) = some (.next, rT script total due text lines level' marks (.v v) page' name' number' here' lead' wanted')) :
  outGo Γ (v :: items) (rT script total due text lines level marks spoiled page name number here lead wanted) = outGo Γ items (rT script total due text lines level' marks (.v v) page' name' number' here' lead' wanted') := by
 unfold outGo
 conv => lhs; unfold forGo
 rw [out_bind]
 simp only [Option.bind_eq_bind, Option.bind_some]
 rw [h]
 rfl
theorem t4_items : ev Γ 40 .v scT (rT script (.v (.int T)) due text lines level marks spoiled page name number here lead wanted) (forIter tFor) = some (.lst (if T % 2 = 1 then [.bool false, .bool true] else [.bool false])) := by
 have h : ev Γ 40 .v scT (rT script (.v (.int T)) due text lines level marks spoiled page name number here lead wanted) (forIter tFor) = some (.lst (cutL [.bool false, .bool true] none (some (1 + (T : Int).fmod 2)))) := by kernel_rfl
 rw [h, show (T : Int).fmod 2 = ((T % 2 : Nat) : Int) from fmod_nat T 2]
 have h2 : T % 2 = 0 ∨ T % 2 = 1 := by omega
 rcases h2 with e | e
 ·rw [e]; rfl
 ·rw [e]; rfl
theorem t4_for {ρ : Rho} {items : List PV} (hs : sizeOk items.length = true) (he : ev Γ 40 .v scT ρ (forIter tFor) = some (.lst items)) : run1 Γ ownLaw scT (run Γ ownLaw scT 11) ρ tFor = outGo Γ items ρ := by
 have hg : genOf scT (ev Γ 40 · scT ρ ·) Γ (forIter tFor) = none := by kernel_rfl
 have e : run1 Γ ownLaw scT (run Γ ownLaw scT 11) ρ tFor = (match genOf scT (ev Γ 40 · scT ρ ·) Γ (forIter tFor) with
   | some (some items) => forGo (run Γ ownLaw scT 11 · (forBody tFor)) (bindT scT ownLaw (forTarget tFor)) items ρ
   | _ => (match ev Γ 40 .v scT ρ (forIter tFor) with
    | some v => (match itemsOf v with
     | some vs => forGo (run Γ ownLaw scT 11 · (forBody tFor)) (bindT scT ownLaw (forTarget tFor)) vs ρ
     | none => none)
    | none => none)) := by
  have ht : tFor = .For (forTarget tFor) (forIter tFor) (forBody tFor) [] (match tFor with | .For _ _ _ _ p => p | _ => default) := by kernel_rfl
  conv => lhs; rw [ht]
  rfl
 rw [e, hg, he]
 show (match itemsOf (.lst items) with
    | some vs => forGo (run Γ ownLaw scT 11 · (forBody tFor)) (bindT scT ownLaw (forTarget tFor)) vs ρ
    | none => none) = _
 rw [show itemsOf (.lst items) = some items from if_pos hs]
theorem t4_run (hg : LawG Γ) {t : Tre} (ht : t.ok) (h4 : 4 ≤ t.leaves) (h5 : t.leaves ≤ 5) :
  ∃ level' spoiled' page' name' number' here' lead' wanted', run1 Γ ownLaw scT (run Γ ownLaw scT 11) (rT script (.v (.int T)) (.v (.str t.due)) text (.v (.lst (itemsR (t.rows 0 0)))) level (.v (mkV T)) spoiled page name number here lead wanted) tFor = some (.next, rT script (.v (.int T)) (.v (.str t.due)) text (.v (.lst (itemsR (t.rows 0 0)))) level' (.v (mkV T)) spoiled' page' name' number' here' lead' wanted') := by
 obtain ⟨p1, p2, p3, p4, p5, p6, p7, e⟩ := turn_f (Γ := Γ) (script := script) (T := T) (text := text) (level := level) (page := page) (name := name) (number := number) (here := here) (lead := lead) (wanted := wanted) hg ht h4 h5
 have hit := t4_items (Γ := Γ) (script := script) (T := T) (due := .v (.str t.due)) (text := text) (lines := .v (.lst (itemsR (t.rows 0 0)))) (level := level) (marks := .v (mkV T)) (spoiled := spoiled) (page := page) (name := name) (number := number) (here := here) (lead := lead) (wanted := wanted)
 by_cases hT : T % 2 = 1
 ·rw [if_pos hT] at hit
  obtain ⟨q1, q2, q3, q4, q5, q6, q7, e'⟩ := turn_t (Γ := Γ) (script := script) (T := T) (text := text) (level := p1) (page := p2) (name := p3) (number := p4) (here := p5) (lead := p6) (wanted := p7) hg ht h4 h5 hT
  refine ⟨q1, .v (.bool true), q2, q3, q4, q5, q6, q7, ?_⟩
  rw [t4_for (by rfl) hit, out_step e, out_step e']
  rfl
 ·rw [if_neg hT] at hit
  refine ⟨p1, .v (.bool false), p2, p3, p4, p5, p6, p7, ?_⟩
  rw [t4_for (by rfl) hit, out_step e]
  rfl
theorem law_main (hg : LawG Γ) {ns : List Int} (h : ns.length ≤ 63) : callF Γ ownLaw 12 fdTheLaw [.arg (ns.map .int)] = some (.bool true) := by
 have hB : bodyOf fdTheLaw = [bodyI fdTheLaw 0, bodyI fdTheLaw 1, bodyI fdTheLaw 2, bodyI fdTheLaw 3, tFor, bodyI fdTheLaw 5] := by kernel_rfl
 obtain ⟨t, hd, ht, h4, h5⟩ := hg.drawn ns h
 obtain ⟨p1, p2, p3, p4, p5, p6, p7, p8, e⟩ := t4_run (Γ := Γ) (script := .arg (ns.map .int)) (T := mil ns.sum) (text := .v (.str t.txt)) (level := .u) (spoiled := .u) (page := .u) (name := .u) (number := .u) (here := .u) (lead := .u) (wanted := .u) hg ht h4 h5
 refine callF_ret ok_law.body (by rfl) (ρ' := rT (.arg (ns.map .int)) (.v (.int (mil ns.sum))) (.v (.str t.due)) (.v (.str t.txt)) (.v (.lst (itemsR (t.rows 0 0)))) p1 (.v (mkV (mil ns.sum))) p2 p3 p4 p5 p6 p7 p8) ?_
 rw [hB]
 show seqGo (run1 Γ ownLaw scT (run Γ ownLaw scT 11)) (rT (.arg (ns.map .int)) .u .u .u .u .u .u .u .u .u .u .u .u .u) _ = _
 rw [seq_next (t0_run h), seq_next (t1_run hd), seq_next (t2_run (hg.lines t ht h5)), seq_next (t3_run hg), seq_next e]
 exact seq_ret (ret_of (by kernel_rfl) (by kernel_rfl))
end

/-! ## what the text's names mean -/
theorem signs_call : callF g0 [] 12 fdSigns [] = some (.lst (sgL.map .str)) := by kernel_rfl
theorem g1_equal (a b : PV) : g1.fn "equal" [a, b] = wsEq a b := by cases a <;> kernel_rfl
theorem g1_strip (x : Str) : g1.fn "_strip_quoted_realnames" [.str x] = callF g0 ownQ 12 fdStrip [.str x] := by kernel_rfl
theorem g3_ind (a b c : PV) : g3.fn "_law_indent" [a, b, c] = callF g0 [] 12 fdIndent [a, b, c] := by kernel_rfl
theorem g3_fold (a b c : PV) : g3.fn "_law_fold" [a, b, c] = callF g1 ownF 12 fdFold [a, b, c] := by kernel_rfl
theorem fold_g1 {M : Nat → PV} (h : ∀ i j, i ≤ 6 → j ≤ 6 → i ≠ 6 ∨ j ≠ 6 → wsEq (M i) (M j) = some (.bool (i == j))) : FoldG g1 M where
 eq i j hi hj hn := by
  rw [g1_equal]
  exact h i j hi hj hn
 signs := by
  show callF g0 [] 12 fdSigns [] = _
  exact signs_call
theorem line_g1 : LineG g1 where
 b1 c := by
  show callF g0 [] 12 fdB1 [.str (strOf c)] = _
  exact b1_call c
 b3 c := by
  show callF g0 [] 12 fdB3 [.str (strOf c)] = _
  exact b3_call c
 strip cs hok hl := by
  rw [g1_strip]
  exact strip_call (fun x => rfl) hok hl
 gen x := rfl
 get x := by
  show some (match exL.lookup x with | some i => PV.int i | none => PV.int 0) = _
  cases exL.lookup x <;> rfl
 has x := rfl
theorem draw_g2 : DrawG g2 where
 uns text d h := by
  show callF g0 [] 12 fdUnseen [.str text, .int d] = _
  exact uns_call h d
 signs := by
  show callF g0 [] 12 fdSigns [] = _
  exact signs_call
 name x := by
  show callF g1 [] 12 fdName [.int x] = _
  exact name_call fun text d h => by
   show callF g0 [] 12 fdUnseen [.str text, .int d] = _
   exact uns_call h d
theorem law_g3 : LawG g3 where
 drawn ns h := by
  obtain ⟨t, e, r⟩ := draw_call draw_g2 (ns := ns) (by omega)
  exact ⟨t, e, r⟩
 lines t ht h5 := by
  show callF g1 ownL 12 fdLines [.str t.txt] = _
  exact lines_call line_g1 ht h5
 ind total turn level h := by
  rw [g3_ind]
  exact ind_call total turn h
 oth bs t hb h0 h1 := oth_spec hb h0 h1
 ws x h := by
  show (if (("Whitespace" : Str) == ("Whitespace" : Str)) && Nat.ble x.length 400 then some (wsOf (chs x)) else none) = _
  rw [if_pos (by rw [Nat.ble_eq_true_of_le h]; rfl)]
 fold M rows back hM hi := by
  rw [g3_fold]
  exact fold_call (fold_g1 hM) hi
theorem law_true {ns : List Int} (h : ns.length ≤ 63) : callF g3 ownLaw 12 fdTheLaw [.arg (ns.map .int)] = some (.bool true) := law_main law_g3 h

/-! ## the walk joined with the law -/
theorem ints_reps {V : List Addr} {h : Heap} : ∀ {vs : List Value} {ns : List Int}, IntsAre vs ns → Reps V h (ns.map .int) vs := fun x => by
 induction x with
 | nil => exact .nil
 | cons n tk _ ih => exact .cons .int ih
theorem room_caller : Room 6 callerA := ⟨rfl, by decide, by decide⟩
theorem post_true (args : List WData) : PySem.Challenge.rw_sl0031_01.row.claim.post args (.bool true) args = true := by wrow_post
theorem law_walk {w : World} {s₁ : Shared} {mean : ExcName → Option Value} {cl : Str → Option Addr} {la : Addr} {its : List Value} {ns : List Int} {args : List WData} (kin : KIn w s₁.heap) (hg : s₁.gens = #[]) (hL : s₁.heap.IsList la its.toArray) (hI : IntsAre its ns) (h63 : ns.length ≤ 63) :
  wpAny (model pw w) callerA (call (.ref 217) [.ref la]) (fun v s' => GoodWG PySem.Challenge.rw_sl0031_01.row.claim cl mean args s₁ (.ok (.ret v)) s') (fun e s' => GoodWG PySem.Challenge.rw_sl0031_01.row.claim cl mean args s₁ (.error e) s') s₁ := by
 obtain ⟨o, e, c, n, d⟩ := hL
 refine law_call (V := []) (args := [.arg (ns.map .int)]) room_caller kin (fun a ha => nomatch ha) (.cons (.arg (by simp) e c d (ints_reps hI)) .nil) (law_true h63) fun val s' K R => ?_
 obtain rfl := R.bool_inv
 refine ⟨.inl ⟨.bool true, .bool true, [], rfl, fun _ => rfl, .bool _, post_true args, fun _ => ⟨.nil, fun a ha => nomatch ha⟩⟩, .of_keep K.keep, ?_, ?_⟩
 ·obtain ⟨⟨h, tk, g, rfl, _⟩, _⟩ := K
  rfl
 ·obtain ⟨⟨h, tk, g, rfl, hb⟩, _⟩ := K
  exact hb.bare (.of_eq hg)
theorem nm_law (P : Params) : nsK P 3 "law" = some (.ref 217) := by kernel_rfl
end SL

open PySem PySem.W PySem.Calls PyProof.Rows
set_option maxHeartbeats 8000000 in
theorem PySem.Challenge.cw_sl0031_01_holds : PySem.Challenge.rw_sl0031_01.Holds := by
 w_on
 o_law
 refine holds_open (q := SL.qv) (loose := SL.loose) (Xt := SL.topXt) (XP := XL SL.qv []) (Yf := Hook.obs SL.hK) (Ya := Hook.val SL.hK) (YP := Hook.says SL.hK) (N := 500000) SL.left0 (Hook.of SL.hK) (Hook.keeps SL.hK) (fun s e => xl_of s (Bool.and_eq_true_iff.mp e).1) XL.keeps (by rfl) (by rfl) (by rfl) (fun s e => recFacts_of (Bool.and_eq_true_iff.mp e).2) (by rfl) (by assumption) (by decide +kernel) ⟨rfl, rfl, rfl, rfl, rfl, by decide +kernel⟩ ?hw ?hc
 case hw => w_witness2
 intro w s₀ s₁ mg mb G Y fa o pm cd doc dV kV ho hd hcd hD hmg hg args vals as hpre hlay hrd hwl hlo
 have KX : SL.KIn w s₁.heap := kIn_of Y
 have hmain : mg "law" = some (.ref 217) := (Heap.Ns.agree G.T.g KX.main _).trans (SL.nm_law _)
 have hfa : some (Value.ref fa) = some (.ref 217) := hmg.symm.trans hmain
 cases hfa
 clear ho hd hcd hD hmg hmain Y G
 wrow_args hpre hlay hrd hwl hlo
 exact SL.law_walk KX hg (by assumption) (by assumption) (by omega)
