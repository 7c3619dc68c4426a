import PyProof.Rows.All
import Wide.All
import OpenK.AllK
import Open.Pieces
import Wide.FinOn
import Lean
import PySem.Challenge.RW_pe0193_01
set_option Elab.async false
section
set_option linter.unusedVariables false
set_option maxRecDepth 100000
namespace Mine
open PySem PySem.W

abbrev ann6 : Option Value := some (.ref 6)

/-- the top's run comes to its end r within b steps -/
def Ends (p : Program) (w : World) (b : Nat) (s : Shared) (t : Thread) (r : Shared) : Prop :=
  ∃ n, n ≤ b ∧ topRun treeTable p w 11 ann6 n s t = some r

section
variable {p : Program} {w : World} {α β : Type}

theorem Ends.mono {b b' : Nat} {s : Shared} {t : Thread} {r : Shared} (h : Ends p w b s t r) (hb : b ≤ b') : Ends p w b' s t r := by
  obtain ⟨n, hn, e⟩ := h
  exact ⟨n, Nat.le_trans hn hb, e⟩

theorem Ends.one {b : Nat} {s s' : Shared} {t t' : Thread} {r : Shared} (h0 : through t = false) (h1 : stepOk 11 ann6 t = true)
    (h2 : step (denote treeTable) p w s t = .go s' t') (h : Ends p w b s' t' r) : Ends p w (b + 1) s t r := by
  obtain ⟨n, hn, e⟩ := h
  refine ⟨n + 1, by omega, ?_⟩
  unfold topRun
  rw [h0, h1, h2]
  exact e

theorem Ends.go {b c : Nat} {s s' : Shared} {t t' : Thread} {r : Shared} (h2 : topGo treeTable p w 11 ann6 c s t = some (s', t'))
    (h : Ends p w b s' t' r) : Ends p w (b + c) s t r := by
  obtain ⟨n, hn, e⟩ := h
  exact ⟨c + n, by omega, go_top h2 e⟩

/-- from s the tree x comes to a, the state to s', within c steps, whatever stands behind it -/
def Goes (p : Program) (w : World) (c : Nat) (x : Sem α) (s : Shared) (q : Pos) (a : α) (s' : Shared) (q' : Pos) : Prop :=
  ∀ (K : α → Sem Fin) (H : Value → Sem Fin) (gd : Bool → Bool) (lv : List Value → List Value) (code : Code) (f : Frame) (st : List Frame) (b : Nat) (r : Shared),
    Ends p w b s' ⟨K a, code, q', f :: st⟩ r → Ends p w (b + c) s ⟨x.wrap K H gd lv, code, q, f :: st⟩ r

theorem Goes.pure {a : α} {s : Shared} {q : Pos} : Goes p w 0 (Sem.pure a) s q a s q := fun _ _ _ _ _ _ _ _ _ e => e

theorem Goes.wraps {x : Sem α} {s s' s'' : Shared} {q q' q'' : Pos} {a : α} {b : β} {c c' : Nat} {K : α → Sem β} {H : Value → Sem β} {gd : Bool → Bool} {lv : List Value → List Value}
    (g : Goes p w c x s q a s' q') (g' : Goes p w c' (K a) s' q' b s'' q'') : Goes p w (c + c') (x.wrap K H gd lv) s q b s'' q'' := by
  intro K' H' gd' lv' code f st n r e
  rw [Sem.wrap_wrap, show n + (c + c') = (n + c') + c by omega]
  exact g _ _ _ _ _ _ _ _ _ (g' _ _ _ _ _ _ _ _ _ e)

theorem Goes.bind {x : Sem α} {f : α → Sem β} {s s' s'' : Shared} {q q' q'' : Pos} {a : α} {b : β} {c c' : Nat}
    (g : Goes p w c x s q a s' q') (g' : Goes p w c' (f a) s' q' b s'' q'') : Goes p w (c + c') (x.bind f) s q b s'' q'' := by
  rw [Sem.bind_eq_wrap]
  exact g.wraps g'

theorem Goes.keep {x : Sem α} {s s' : Shared} {q q' : Pos} {a : α} {c : Nat} {vs : List Value}
    (g : Goes p w c x s q a s' q') : Goes p w c (x.keep vs) s q a s' q' := by
  rw [Sem.keep_eq_wrap]
  exact g.wraps Goes.pure

theorem Goes.holding {x : Sem α} {s s' : Shared} {q q' : Pos} {a : α} {c : Nat} {vs : List Value}
    (g : Goes p w c x s q a s' q') : Goes p w c (PySem.holding vs x) s q a s' q' := by
  unfold PySem.holding
  split
  · exact g
  · exact g.keep

theorem Goes.onRaise {x : Sem α} {s s' : Shared} {q q' : Pos} {a : α} {c : Nat} {h : Value → Sem Unit}
    (g : Goes p w c x s q a s' q') : Goes p w c (x.onRaise h) s q a s' q' := by
  rw [Sem.onRaise_eq_wrap]
  exact g.wraps Goes.pure

theorem Goes.tryCatch {x : Sem α} {s s' : Shared} {q q' : Pos} {a : α} {c : Nat} {h : Value → Sem α}
    (g : Goes p w c x s q a s' q') : Goes p w c (x.tryCatch h) s q a s' q' := by
  rw [Sem.tryCatch_eq_wrap]
  exact g.wraps Goes.pure

theorem Goes.rule {k : Unit → Sem α} {t : String} {s s' : Shared} {q q' : Pos} {a : α} {c : Nat}
    (g : Goes p w c (k ()) s q a s' q') : Goes p w (c + 1) (.rule t k) s q a s' q' := by
  intro K H gd lv code f st b r e
  exact Ends.one rfl rfl rfl (g K H gd lv code f st b r e)

theorem Goes.at {k : Unit → Sem α} {q₁ : Pos} {s s' : Shared} {q q' : Pos} {a : α} {c : Nat}
    (g : Goes p w c (k ()) s q₁ a s' q') : Goes p w (c + 1) (.at q₁ k) s q a s' q' := by
  intro K H gd lv code f st b r e
  exact Ends.one rfl rfl rfl (g K H gd lv code f st b r e)

theorem Goes.point {k : Unit → Sem α} {l : List Value} {s s' : Shared} {q q' : Pos} {a : α} {c : Nat}
    (g : Goes p w c (k ()) s q a s' q') : Goes p w (c + 1) (.point l k) s q a s' q' := by
  intro K H gd lv code f st b r e
  exact Ends.one rfl rfl rfl (g K H gd lv code f st b r e)

theorem Goes.ask {k : Setting → Sem α} {s s' : Shared} {q q' : Pos} {a : α} {c : Nat}
    (g : Goes p w c (k ⟨p, w.params⟩) s q a s' q') : Goes p w (c + 1) (.ask k) s q a s' q' := by
  intro K H gd lv code f st b r e
  exact Ends.one rfl rfl rfl (g K H gd lv code f st b r e)

theorem Goes.fresh {k : Tok → Sem α} {s s' : Shared} {q q' : Pos} {a : α} {c : Nat}
    (g : Goes p w c (k s.toks) { s with toks := s.toks + 1 } q a s' q') : Goes p w (c + 1) (.fresh k) s q a s' q' := by
  intro K H gd lv code f st b r e
  exact Ends.one rfl rfl rfl (g K H gd lv code f st b r e)

theorem Goes.alloc {k : Addr → Sem α} {o : Obj} {s s' : Shared} {q q' : Pos} {a : α} {c : Nat}
    (g : Goes p w c (k s.heap.objs.size) { s with heap := s.heap.push o } q a s' q') : Goes p w (c + 1) (.alloc o k) s q a s' q' := by
  intro K H gd lv code f st b r e
  exact Ends.one rfl rfl rfl (g K H gd lv code f st b r e)

theorem Goes.load {k : Obj → Sem α} {ad : Addr} {part : Option Value} {o : Obj} {s s' : Shared} {q q' : Pos} {a : α} {c : Nat}
    (h : s.heap.get? ad = some o) (g : Goes p w c (k o) s q a s' q') : Goes p w (c + 1) (.load ad part k) s q a s' q' := by
  intro K H gd lv code f st b r e
  refine Ends.one rfl rfl ?_ (g K H gd lv code f st b r e)
  obtain ⟨heap, gens, drawn, toks, os⟩ := s
  simp only [Sem.wrap, step]
  rw [show heap.get? ad = some o from h]

theorem Goes.update {k : Unit → Sem α} {ad : Addr} {part : Option Value} {fn : Obj → Obj} {o : Obj} {s s' : Shared} {q q' : Pos} {a : α} {c : Nat}
    (h : s.heap.get? ad = some o) (ok : 11 ≤ ad ∨ ad = mainNs) (g : Goes p w c (k ()) { s with heap := s.heap.update ad fn } q a s' q') : Goes p w (c + 1) (.update ad part fn k) s q a s' q' := by
  intro K H gd lv code f st b r e
  refine Ends.one rfl ?_ ?_ (g K H gd lv code f st b r e)
  · show (true && (Nat.ble 11 ad || ad == mainNs || ad == cStatics || ann6 == some (.ref ad))) = true
    rcases ok with ok | ok
    · rw [Nat.ble_eq_true_of_le ok]; rfl
    · rw [ok]; simp
  · obtain ⟨heap, gens, drawn, toks, os⟩ := s
    simp only [Sem.wrap, step]
    rw [show heap.get? ad = some o from h]
    rfl

theorem Goes.weaken {x : Sem α} {s s' : Shared} {q q' : Pos} {a : α} {c c' : Nat} (g : Goes p w c x s q a s' q') (h : c ≤ c') : Goes p w c' x s q a s' q' := by
  intro K H gd lv code f st b r e
  exact (g K H gd lv code f st b r e).mono (by omega)
end
end Mine
end
section
set_option linter.unusedVariables false
set_option maxRecDepth 100000
namespace Mine
open PySem PySem.W PyProof.Rows

section
variable {p : Program} {w : World} {α β : Type}

theorem Goes.bnd {x : Sem α} {f : α → Sem β} {s s' s'' : Shared} {q q' q'' : Pos} {a : α} {b : β} {c c' : Nat}
    (g : Goes p w c x s q a s' q') (g' : Goes p w c' (f a) s' q' b s'' q'') : Goes p w (c + c') (x >>= f) s q b s'' q'' := g.bind g'
theorem Goes.pr {a : α} {s : Shared} {q : Pos} : Goes p w 0 (Pure.pure a : Sem α) s q a s q := Goes.pure

theorem goes_rule {tag : String} {s : Shared} {q : Pos} : Goes p w 1 (PySem.rule tag) s q () s q := Goes.rule Goes.pure
theorem goes_stand {q₁ : Pos} {s : Shared} {q : Pos} : Goes p w 1 (standAt q₁) s q () s q₁ := Goes.at Goes.pure
theorem goes_loadPart {a : Addr} {part : Option Value} {o : Obj} {s : Shared} {q : Pos} (h : s.heap.get? a = some o) : Goes p w 1 (loadPart a part) s q o s q := Goes.load h Goes.pure
theorem goes_updatePart {a : Addr} {part : Option Value} {f : Obj → Obj} {o : Obj} {s : Shared} {q : Pos} (h : s.heap.get? a = some o) (ok : 11 ≤ a ∨ a = mainNs) :
    Goes p w 1 (updatePart a part f) s q () { s with heap := s.heap.update a f } q := Goes.update h ok Goes.pure
theorem goes_alloc {o : Obj} {s : Shared} {q : Pos} : Goes p w 1 (PySem.alloc o) s q s.heap.objs.size { s with heap := s.heap.push o } q := Goes.alloc Goes.pure

/-! the call of int.__hash__ -/
def hashB (x : Int) : Int :=
  let h : Int := x.natAbs % (2 ^ 61 - 1 : Nat)
  let h := if x < 0 then -h else h
  if h == -1 then -2 else h
def PH (w : World) : Prop := ∀ (p : Program) (k : Int) (t : Tok) (heap : Heap) (gens : Array GenState) (dr : Drawn) (toks : Nat) (os : OsState) (K : Int → Sem Fin) (H : Value → Sem Fin) (gd : Bool → Bool) (lv : List Value → List Value) (code : Code) (q : Pos) (f : Frame) (st : List Frame),
  topGo treeTable p w 11 ann6 5 ⟨heap, gens, dr, toks, os⟩ ⟨(pyHash (.int k t)).wrap K H gd lv, code, q, f :: st⟩ =
    some (⟨heap, gens, dr, toks + 1, os⟩, ⟨(pyHashByItsType.reduced (hashB k)).wrap K H gd lv, code, q, f :: st⟩)
theorem ph (w : World) : PH w := by
  refine byRow2 "special-get-raises" (P := PH) ?_ ?_ w
  · intro w p k t heap gens dr toks os K H gd lv code q f st
    kernel_rfl
  · intro w p k t heap gens dr toks os K H gd lv code q f st
    kernel_rfl
theorem hashB_small {k : Int} (h0 : 0 ≤ k) (h1 : k < 1000000) : hashB k = k := by
  unfold hashB
  have e : ((k.natAbs : Int) % ((2 ^ 61 - 1 : Nat) : Int)) = k := by
    rw [Int.natAbs_of_nonneg h0]
    exact Int.emod_eq_of_lt h0 (by have : ((2 ^ 61 - 1 : Nat) : Int) = 2305843009213693951 := by decide +kernel
                                   omega)
  simp only [e]
  rw [if_neg (by omega : ¬ k < 0)]
  rw [if_neg]
  simp; omega
theorem reduced_small {k : Int} (h0 : 0 ≤ k) (h1 : k < 1000000) : pyHashByItsType.reduced k = Sem.pure k := by
  unfold pyHashByItsType.reduced
  rw [if_pos]
  · rw [if_neg]
    · rfl
    · simp; omega
  · simp; omega

theorem goes_hash {k : Int} {t : Tok} {s : Shared} {q : Pos} (h0 : 0 ≤ k) (h1 : k < 1000000) : Goes p w 5 (pyHash (.int k t)) s q k { s with toks := s.toks + 1 } q := by
  intro K H gd lv code f st b r e
  obtain ⟨heap, gens, dr, toks, os⟩ := s
  refine Ends.go (ph w p k t heap gens dr toks os K H gd lv code q f st) ?_
  rw [hashB_small h0 h1, reduced_small h0 h1]
  exact e

/-! a dict in the middle of the heap -/
def dob (es : List DictEntry) : Obj := ⟨.type "dict", none, .dict es.toArray es.length, #[]⟩
def mid (base : List Obj) (o : Obj) (rest : List Obj) (n : Nat) (os : OsState) : Shared := ⟨⟨(base ++ o :: rest).toArray, {}⟩, #[], {}, n, os⟩

theorem mid_get {base : List Obj} {es : List DictEntry} {rest : List Obj} {n : Nat} {os : OsState} : (mid base (dob es) rest n os).heap.get? base.length = some (dob es) := by
  unfold mid Heap.get?
  simp [dob]
theorem mid_get_rest {base : List Obj} {o : Obj} {rest : List Obj} {n : Nat} {os : OsState} {i : Nat} {es : List DictEntry} (h : rest[i]? = some (dob es)) :
    (mid base o rest n os).heap.get? (base.length + 1 + i) = some (dob es) := by
  unfold mid Heap.get?
  have : (base ++ o :: rest).toArray[base.length + 1 + i]? = some (dob es) := by
    rw [List.getElem?_toArray, List.getElem?_append_right (by omega), show base.length + 1 + i - base.length = i + 1 by omega, List.getElem?_cons_succ, h]
  rw [this]
  rfl
theorem modify_mid {base : List Obj} {o : Obj} {rest : List Obj} {f : Obj → Obj} : (base ++ o :: rest).toArray.modify base.length f = (base ++ f o :: rest).toArray := by
  apply Array.ext'
  rw [Array.toList_modify]
  simp only
  induction base with
  | nil => rfl
  | cons b base ih => simpa [List.modify_succ_cons] using ih
theorem mid_update {base : List Obj} {es : List DictEntry} {rest : List Obj} {n : Nat} {os : OsState} {e : DictEntry} :
    ({ mid base (dob es) rest n os with heap := (mid base (dob es) rest n os).heap.update base.length (Obj.mapDictKeys (·.push e)) } : Shared) = mid base (dob (es ++ [e])) rest n os := by
  unfold mid Heap.update
  simp only [modify_mid]
  simp [dob, Obj.mapDictKeys]

theorem places_none {es : List DictEntry} {h : Int} (hne : ∀ e ∈ es, e.hash ≠ h) : placesWithHash es.toArray.size (fun i => es.toArray[i]?.map (·.hash)) h = [] := by
  unfold placesWithHash
  rw [List.filter_eq_nil_iff]
  intro i hi
  simp only [List.mem_range, List.size_toArray] at hi
  simp only [List.getElem?_toArray, beq_iff_eq]
  rw [List.getElem?_eq_getElem hi]
  simp only [Option.map_some, Option.some.injEq]
  exact hne _ (List.getElem_mem hi)

theorem goes_find {base : List Obj} {es : List DictEntry} {rest : List Obj} {n : Nat} {os : OsState} {q : Pos} {k : Int} {t : Tok} {h : Int} (hne : ∀ e ∈ es, e.hash ≠ h) :
    Goes p w 1 (dictFind base.length (.int k t) h) (mid base (dob es) rest n os) q none (mid base (dob es) rest n os) q := by
  unfold dictFind
  refine Goes.holding ?_
  refine Goes.bnd (c := 1) (c' := 0) (a := es.toArray) (s' := mid base (dob es) rest n os) (q' := q) ?_ ?_
  · exact Goes.bnd (c := 1) (c' := 0) (goes_loadPart mid_get) Goes.pure
  · dsimp only
    rw [places_none hne]
    exact Goes.pure

theorem pastLine {es : List DictEntry} (h : es.length < 10000) : (dob es).data.pastItsLine = none := by
  unfold dob Data.pastItsLine
  have : sizeLine = 16777216 := by decide +kernel
  simp [this]; omega

theorem goes_put_keys {base : List Obj} {es : List DictEntry} {rest : List Obj} {n : Nat} {os : OsState} {q : Pos} {part : Option Value} {e : DictEntry} (hb : 11 ≤ base.length) (hs : es.length < 9999) :
    Goes p w 3 (updateDictKeys base.length (·.push e) part) (mid base (dob es) rest n os) q () (mid base (dob (es ++ [e])) rest n os) q := by
  unfold updateDictKeys
  refine Goes.bnd (c := 1) (c' := 2) (goes_loadPart mid_get) ?_
  refine Goes.bnd (c := 1) (c' := 1) (goes_updatePart mid_get (.inl hb)) ?_
  rw [mid_update]
  unfold lookBehind
  refine Goes.bnd (c := 1) (c' := 0) (goes_loadPart mid_get) ?_
  rw [pastLine (by simp; omega)]
  exact Goes.pure

theorem goes_put {base : List Obj} {es : List DictEntry} {rest : List Obj} {n : Nat} {os : OsState} {q : Pos} {k : Int} {t : Tok} {h : Int} {v : Value} (hb : 11 ≤ base.length) (hs : es.length < 9999) (hne : ∀ e ∈ es, e.hash ≠ h) :
    Goes p w 4 (dictPut base.length h (.int k t) v) (mid base (dob es) rest n os) q () (mid base (dob (es ++ [⟨h, .int k t, v⟩])) rest n os) q := by
  unfold dictPut
  exact Goes.bnd (c := 1) (c' := 3) (goes_find hne) (goes_put_keys hb hs)

theorem goes_set {base : List Obj} {es : List DictEntry} {rest : List Obj} {n : Nat} {os : OsState} {q : Pos} {k : Int} {t : Tok} {v : Value} (hb : 11 ≤ base.length) (hs : es.length < 9999) (hne : ∀ e ∈ es, e.hash ≠ k) (h0 : 0 ≤ k) (h1 : k < 1000000) :
    Goes p w 10 (dictSet base.length (.int k t) v) (mid base (dob es) rest n os) q () (mid base (dob (es ++ [⟨k, .int k t, v⟩])) rest (n + 1) os) q := by
  unfold dictSet
  refine Goes.holding ?_
  refine Goes.bnd (c := 5) (c' := 5) (goes_hash h0 h1) ?_
  unfold dictSetHashed
  refine Goes.holding ?_
  show Goes p w 5 _ (mid base (dob es) rest (n + 1) os) q _ _ _
  refine Goes.bnd (c := 1) (c' := 4) (goes_find hne) ?_
  exact Goes.bnd (c := 1) (c' := 3) goes_rule (goes_put_keys hb hs)
end
end Mine
end
section
set_option linter.unusedVariables false
set_option maxRecDepth 100000
namespace Mine
open PySem PySem.W PyProof.Rows

def valS (pos : Pos) (x : Str) : Sem Value := do
  let v ← mkText x
  standAt pos
  pure v
def prS (pos : Pos) (x : Int × Str) : Sem Value × Sem Value := (mkInt x.1, valS pos x.2)
def ents : Nat → List (Int × Str) → List DictEntry
  | _, [] => []
  | t, x :: r => ⟨x.1, .int x.1 t, .str x.2 (t + 1)⟩ :: ents (t + 3) r
def ents2 : Nat → List (Int × Str) → List DictEntry
  | _, [] => []
  | t, x :: r => ⟨x.1, .int x.1 t, .str x.2 (t + 1)⟩ :: ents2 (t + 2) r
abbrev Inc (l : List DictEntry) : Prop := l.Pairwise fun a b => a.hash < b.hash
def Small (l : List (Int × Str)) : Prop := ∀ x ∈ l, 0 ≤ x.1 ∧ x.1 < 1000000

theorem ents_length : ∀ (l : List (Int × Str)) (n : Nat), (ents n l).length = l.length
  | [], _ => rfl
  | _ :: r, n => by simp [ents, ents_length r]
theorem ents2_length : ∀ (l : List (Int × Str)) (n : Nat), (ents2 n l).length = l.length
  | [], _ => rfl
  | _ :: r, n => by simp [ents2, ents2_length r]

theorem ne_of_inc {es r : List DictEntry} {e : DictEntry} (h : Inc (es ++ e :: r)) : ∀ x ∈ es, x.hash ≠ e.hash := by
  intro x hx
  have := (List.pairwise_append.mp h).2.2 x hx e (List.mem_cons_self ..)
  omega

section
variable {p : Program} {w : World}

theorem goes_key {k : Int} {s : Shared} {q : Pos} : Goes p w 1 (mkInt k) s q (.int k s.toks) { s with toks := s.toks + 1 } q := Goes.fresh Goes.pure
theorem goes_val {x : Str} {pos : Pos} {s : Shared} {q : Pos} : Goes p w 2 (valS pos x) s q (.str x s.toks) { s with toks := s.toks + 1 } pos :=
  Goes.fresh (Goes.at Goes.pure)

theorem goes_sub_loop {base : List Obj} {os : OsState} {pos : Pos} (hb : 11 ≤ base.length) : ∀ (chunk : List (Int × Str)) (es : List DictEntry) (n : Nat),
    Small chunk → Inc (es ++ ents n chunk) → es.length + chunk.length < 9000 →
    Goes p w (13 * chunk.length) (forIn (chunk.map (prS pos)) PUnit.unit fun (x : Sem Value × Sem Value) (_ : PUnit) => do
        let kv ← x.fst
        let vv ← holding [kv] x.snd
        holding [kv, vv] (dictSet base.length kv vv)
        pure (ForInStep.yield PUnit.unit)) (mid base (dob es) [] n os) pos PUnit.unit (mid base (dob (es ++ ents n chunk)) [] (n + 3 * chunk.length) os) pos
  | [], es, n, _, _, _ => by
    simp only [ents, List.append_nil, List.length_nil, Nat.mul_zero, Nat.add_zero, List.map_nil, List.forIn_nil]
    exact Goes.pure
  | x :: r, es, n, hs, hi, hl => by
    have hx := hs x (List.mem_cons_self ..)
    have ih := goes_sub_loop (os := os) (pos := pos) hb r (es ++ [⟨x.1, .int x.1 n, .str x.2 (n + 1)⟩]) (n + 3) (fun y hy => hs y (List.mem_cons_of_mem _ hy)) (by simpa [ents] using hi) (by simp at hl ⊢; omega)
    rw [List.map_cons, List.forIn_cons]
    have e1 : 13 * (x :: r).length = (1 + (2 + (10 + 0))) + 13 * r.length := by simp; omega
    rw [e1]
    refine Goes.bnd (a := ForInStep.yield PUnit.unit) (s' := mid base (dob (es ++ [⟨x.1, .int x.1 n, .str x.2 (n + 1)⟩])) [] (n + 3) os) (q' := pos) ?_ ?_
    · refine Goes.bnd goes_key ?_
      refine Goes.bnd (Goes.holding goes_val) ?_
      refine Goes.bnd (a := ()) (Goes.holding ?_) Goes.pr
      exact goes_set (base := base) (es := es) (rest := []) (n := n + 2) (os := os) hb (by simp at hl; omega) (fun e he => ne_of_inc (e := ⟨x.1, .int x.1 n, .str x.2 (n + 1)⟩) (by simpa [ents] using hi) e he) hx.1 hx.2
    · have e2 : n + 3 * (x :: r).length = n + 3 + 3 * r.length := by simp; omega
      rw [e2]
      simpa [ents] using ih

theorem goes_set_loop {base : List Obj} {os : OsState} {pos : Pos} (hb : 11 ≤ base.length) : ∀ (chunk : List (Int × Str)) (es : List DictEntry) (n t : Nat),
    Small chunk → Inc (es ++ ents2 t chunk) → es.length + chunk.length < 9000 →
    Goes p w (10 * chunk.length) (forIn ((ents2 t chunk).map fun e => (e.key, e.val)) PUnit.unit fun (x : Value × Value) (_ : PUnit) => do
        dictSet base.length x.fst x.snd
        pure (ForInStep.yield PUnit.unit)) (mid base (dob es) [] n os) pos PUnit.unit (mid base (dob (es ++ ents2 t chunk)) [] (n + chunk.length) os) pos
  | [], es, n, t, _, _, _ => by
    simp only [ents2, List.append_nil, List.length_nil, Nat.mul_zero, Nat.add_zero, List.map_nil, List.forIn_nil]
    exact Goes.pure
  | x :: r, es, n, t, hs, hi, hl => by
    have hx := hs x (List.mem_cons_self ..)
    have ih := goes_set_loop (os := os) (pos := pos) hb r (es ++ [⟨x.1, .int x.1 t, .str x.2 (t + 1)⟩]) (n + 1) (t + 2) (fun y hy => hs y (List.mem_cons_of_mem _ hy)) (by simpa [ents2] using hi) (by simp at hl ⊢; omega)
    rw [ents2, List.map_cons, List.forIn_cons]
    have e1 : 10 * (x :: r).length = (10 + 0) + 10 * r.length := by simp; omega
    rw [e1]
    refine Goes.bnd (a := ForInStep.yield PUnit.unit) (s' := mid base (dob (es ++ [⟨x.1, .int x.1 t, .str x.2 (t + 1)⟩])) [] (n + 1) os) (q' := pos) ?_ ?_
    · refine Goes.bnd (a := ()) ?_ Goes.pr
      exact goes_set (base := base) (es := es) (rest := []) (n := n) (os := os) hb (by simp at hl; omega) (fun e he => ne_of_inc (e := ⟨x.1, .int x.1 t, .str x.2 (t + 1)⟩) (by simpa [ents2] using hi) e he) hx.1 hx.2
    · have e2 : n + (x :: r).length = n + 1 + r.length := by simp; omega
      rw [e2]
      simpa [ents2] using ih

theorem goes_pairs {pos : Pos} : ∀ (chunk : List (Int × Str)) (s : Shared),
    Goes p w (3 * chunk.length) (evalPairs (chunk.map (prS pos))) s pos ((ents2 s.toks chunk).map fun e => (e.key, e.val)) { s with toks := s.toks + 2 * chunk.length } pos
  | [], s => by
    exact Goes.pure
  | x :: r, s => by
    have ih := goes_pairs (pos := pos) r { s with toks := s.toks + 2 }
    rw [List.map_cons, evalPairs.eq_2]
    have e1 : 3 * (x :: r).length = 1 + (2 + (3 * r.length + 0)) := by simp; omega
    rw [e1]
    refine Goes.bnd goes_key ?_
    refine Goes.bnd (Goes.holding goes_val) ?_
    have e2 : s.toks + 2 * (x :: r).length = s.toks + 2 + 2 * r.length := by simp; omega
    rw [e2]
    exact Goes.bnd (Goes.holding ih) Goes.pr

/-- what the heap is behind a display's own dict -/
theorem goes_sub_long {base : List Obj} {n : Nat} {os : OsState} {pos : Pos} {chunk : List (Int × Str)} (hb : 11 ≤ base.length) (h1 : 15 < chunk.length) (h2 : chunk.length < 9000) (hs : Small chunk) (hi : Inc (ents n chunk)) :
    Goes p w (2 + 13 * chunk.length) (subDict (chunk.map (prS pos))) ⟨⟨base.toArray, {}⟩, #[], {}, n, os⟩ pos base.length (mid base (dob (ents n chunk)) [] (n + 3 * chunk.length) os) pos := by
  unfold subDict
  rw [show 2 + 13 * chunk.length = 1 + ((1 + (13 * chunk.length + 0)) + 0) by omega]
  refine Goes.bnd (a := base.length) (s' := mid base (dob []) [] n os) (q' := pos) ?_ ?_
  · have g := goes_alloc (p := p) (w := w) (o := { cls := Value.type "dict", data := Data.dict #[] }) (s := ⟨⟨base.toArray, {}⟩, #[], {}, n, os⟩) (q := pos)
    have e : ({ cls := Value.type "dict", data := Data.dict #[] } : Obj) = dob [] := rfl
    have e3 : base.toArray.push (dob []) = (base ++ [dob []]).toArray := by simp
    simp only [Heap.push, List.size_toArray] at g
    rw [e] at g
    rw [e3] at g
    exact g
  · refine Goes.bnd (a := ()) (Goes.holding ?_) Goes.pr
    rw [if_neg (by simp; omega)]
    refine Goes.bnd goes_rule ?_
    refine Goes.bnd (a := PUnit.unit) ?_ Goes.pr
    simpa using goes_sub_loop hb chunk [] n hs (by simpa using hi) (by simpa using h2)

theorem goes_sub_short {base : List Obj} {n : Nat} {os : OsState} {pos : Pos} {chunk : List (Int × Str)} (hb : 11 ≤ base.length) (h1 : chunk.length ≤ 15) (hs : Small chunk) (hi : Inc (ents2 n chunk)) :
    Goes p w (1 + 13 * chunk.length) (subDict (chunk.map (prS pos))) ⟨⟨base.toArray, {}⟩, #[], {}, n, os⟩ pos base.length (mid base (dob (ents2 n chunk)) [] (n + 3 * chunk.length) os) pos := by
  unfold subDict
  rw [show 1 + 13 * chunk.length = 1 + ((3 * chunk.length + (10 * chunk.length + 0)) + 0) by omega]
  refine Goes.bnd (a := base.length) (s' := mid base (dob []) [] n os) (q' := pos) ?_ ?_
  · have g := goes_alloc (p := p) (w := w) (o := { cls := Value.type "dict", data := Data.dict #[] }) (s := ⟨⟨base.toArray, {}⟩, #[], {}, n, os⟩) (q := pos)
    have e : ({ cls := Value.type "dict", data := Data.dict #[] } : Obj) = dob [] := rfl
    have e3 : base.toArray.push (dob []) = (base ++ [dob []]).toArray := by simp
    simp only [Heap.push, List.size_toArray] at g
    rw [e] at g
    rw [e3] at g
    exact g
  · refine Goes.bnd (a := ()) (Goes.holding ?_) Goes.pr
    rw [if_pos (by simpa using h1)]
    refine Goes.bnd (goes_pairs chunk (mid base (dob []) [] n os)) ?_
    refine Goes.holding ?_
    refine Goes.bnd (a := PUnit.unit) ?_ Goes.pr
    have g := goes_set_loop (p := p) (w := w) (os := os) (pos := pos) hb chunk [] (n + 2 * chunk.length) n hs (by simpa using hi) (by simp; omega)
    rw [show n + 3 * chunk.length = n + 2 * chunk.length + chunk.length by omega]
    rw [List.nil_append] at g
    exact g
end
end Mine
end
section
set_option linter.unusedVariables false
set_option maxRecDepth 100000
namespace Mine
open PySem PySem.W PyProof.Rows

theorem dict_sub : isSubtype (.type "dict") (.type "dict") = Sem.pure true := by kernel_rfl
theorem dict_iter : typeLookup (.type "dict") (Str.ofString "__iter__") = Sem.pure (some (.builtin "dict.__iter__")) := by kernel_rfl

section
variable {p : Program} {w : World}

theorem goes_typeOf {a : Addr} {es : List DictEntry} {s : Shared} {q : Pos} (h : s.heap.get? a = some (dob es)) : Goes p w 1 (typeOf (.ref a)) s q (.type "dict") s q :=
  Goes.bnd (c := 1) (c' := 0) (goes_loadPart h) Goes.pure
theorem goes_isInst {a : Addr} {es : List DictEntry} {s : Shared} {q : Pos} (h : s.heap.get? a = some (dob es)) : Goes p w 1 (isInstance (.ref a) (.type "dict")) s q true s q := by
  unfold PySem.isInstance
  refine Goes.bnd (c := 1) (c' := 0) (goes_typeOf h) ?_
  rw [dict_sub]
  exact Goes.pure
theorem goes_special {a : Addr} {es : List DictEntry} {s : Shared} {q : Pos} (h : s.heap.get? a = some (dob es)) : Goes p w 1 (specialOf (.ref a) (Str.ofString "__iter__")) s q (some (.builtin "dict.__iter__")) s q := by
  unfold specialOf
  refine Goes.bnd (c := 1) (c' := 0) (goes_typeOf h) ?_
  rw [dict_iter]
  exact Goes.pure
theorem goes_entries {a : Addr} {part : Option Value} {es : List DictEntry} {s : Shared} {q : Pos} (h : s.heap.get? a = some (dob es)) : Goes p w 1 (dictEntries a part) s q es.toArray s q :=
  Goes.bnd (c := 1) (c' := 0) (goes_loadPart h) Goes.pure
theorem goes_epoch {a : Addr} {part : Option Value} {es : List DictEntry} {s : Shared} {q : Pos} (h : s.heap.get? a = some (dob es)) : Goes p w 1 (dictEpoch a part) s q es.length s q :=
  Goes.bnd (c := 1) (c' := 0) (goes_loadPart h) Goes.pure

theorem goes_merge_loop {base rest : List Obj} {n : Nat} {os : OsState} {q : Pos} {sub : List DictEntry} (F : Nat → PUnit → Sem (ForInStep PUnit))
    (hF : ∀ (i : Nat) (e : DictEntry) (es' : List DictEntry), sub[i]? = some e → (∀ x ∈ es', x.hash ≠ e.hash) → es'.length < 9000 →
      Goes p w 6 (F i PUnit.unit) (mid base (dob es') rest n os) q (.yield PUnit.unit) (mid base (dob (es' ++ [e])) rest n os) q) :
    ∀ (todo done es : List DictEntry), sub = done ++ todo → Inc (es ++ todo) → es.length + todo.length < 9000 →
      Goes p w (6 * todo.length) (forIn (List.range' done.length todo.length) PUnit.unit F) (mid base (dob es) rest n os) q PUnit.unit (mid base (dob (es ++ todo)) rest n os) q
  | [], done, es, _, _, _ => by
    simp only [List.length_nil, List.range'_zero, List.forIn_nil, List.append_nil]
    exact Goes.pure
  | e :: todo, done, es, hd, hi, hl => by
    have ih := goes_merge_loop F hF todo (done ++ [e]) (es ++ [e]) (by simpa using hd) (by simpa using hi) (by simp at hl ⊢; omega)
    rw [List.length_cons, List.range'_succ, List.forIn_cons, show 6 * (todo.length + 1) = 6 + 6 * todo.length by omega]
    refine Goes.bnd (hF done.length e es (by rw [hd]; simp) (ne_of_inc hi) (by omega)) ?_
    simpa using ih

theorem goes_merge {base rest : List Obj} {n i : Nat} {os : OsState} {q : Pos} {es sub : List DictEntry} (hb : 11 ≤ base.length) (hr : rest[i]? = some (dob sub)) (h0 : es ≠ []) (hi : Inc (es ++ sub)) (hl : es.length + sub.length < 9000)
    (hk : ∀ e ∈ sub, ∃ k t, e.key = .int k t) :
    Goes p w (5 + 6 * sub.length) (mergeMapping base.length (.ref (base.length + 1 + i)) false) (mid base (dob es) rest n os) q () (mid base (dob (es ++ sub)) rest n os) q := by
  unfold mergeMapping
  rw [show 5 + 6 * sub.length = 1 + (1 + (0 + (1 + (1 + (1 + (6 * sub.length + 0)))))) by omega]
  refine Goes.bnd (goes_isInst (mid_get_rest hr)) ?_
  rw [if_pos rfl]
  refine Goes.bnd (goes_special (mid_get_rest hr)) ?_
  refine Goes.bnd Goes.pr ?_
  rw [beq_self_eq_true]
  dsimp only
  rw [if_neg (by show ¬ ((base.length + 1 + i == 1) = true); simp; omega)]
  refine Goes.bnd (goes_entries mid_get) ?_
  rw [if_neg (by simp [h0])]
  refine Goes.bnd (goes_entries (mid_get_rest hr)) ?_
  refine Goes.bnd (goes_epoch (mid_get_rest hr)) ?_
  refine Goes.bnd (a := PUnit.unit) ?_ Goes.pr
  rw [List.size_toArray, List.range_eq_range']
  refine goes_merge_loop (sub := sub) _ ?_ sub [] es rfl hi hl
  intro j e es' hj hne hl'
  rw [show 6 = 1 + (4 + (1 + 0)) from rfl]
  refine Goes.bnd (goes_entries (mid_get_rest hr)) ?_
  rw [List.getElem?_toArray, hj]
  dsimp only
  obtain ⟨k, t, ek⟩ := hk e (List.mem_of_getElem? hj)
  refine Goes.bnd (a := ()) (s' := mid base (dob (es' ++ [e])) rest n os) (q' := q) (Goes.holding ?_) ?_
  · rw [if_neg (by simp)]
    have g := goes_put (p := p) (w := w) (base := base) (es := es') (rest := rest) (n := n) (os := os) (q := q) (k := k) (t := t) (h := e.hash) (v := e.val) hb (by omega) hne
    rw [← ek] at g
    exact g
  · refine Goes.bnd (goes_epoch (mid_get_rest hr)) ?_
    rw [if_neg (by simp)]
    exact Goes.pr

/-! the display: seventeen pairs at a time -/
def itS (pos : Pos) (x : Int × Str) : Option (Sem Value) × Sem Value := (some (mkInt x.1), valS pos x.2)
abbrev DS := Option Addr × List (Sem Value × Sem Value)

theorem fill_eq {pos : Pos} (F : Option (Sem Value) × Sem Value → DS → Sem (ForInStep DS))
    (h1 : ∀ k v (s : DS), (s.2 ++ [(k, v)]).length ≠ 17 → F (some k, v) s = Sem.pure (.yield (s.1, s.2 ++ [(k, v)]))) :
    ∀ (c : List (Int × Str)) (run : List (Sem Value × Sem Value)) (m : Option Addr) (tail : List (Option (Sem Value) × Sem Value)), run.length + c.length < 17 →
      forIn (c.map (itS pos) ++ tail) (m, run) F = forIn tail (m, run ++ c.map (prS pos)) F
  | [], run, m, tail, _ => by simp
  | x :: c, run, m, tail, h => by
    rw [List.map_cons, List.cons_append, List.forIn_cons]
    have e : F (itS pos x) (m, run) = Sem.pure (.yield (m, run ++ [prS pos x])) := h1 (mkInt x.1) (valS pos x.2) (m, run) (by simp at h ⊢; omega)
    rw [e]
    have ih := fill_eq (pos := pos) F h1 c (run ++ [prS pos x]) m tail (by simp at h ⊢; omega)
    show forIn (c.map (itS pos) ++ tail) (m, run ++ [prS pos x]) F = _
    rw [ih]
    simp

theorem full_eq {pos : Pos} (F : Option (Sem Value) × Sem Value → DS → Sem (ForInStep DS))
    (h1 : ∀ k v (s : DS), (s.2 ++ [(k, v)]).length ≠ 17 → F (some k, v) s = Sem.pure (.yield (s.1, s.2 ++ [(k, v)])))
    (c : List (Int × Str)) (x : Int × Str) (m : Option Addr) (tail : List (Option (Sem Value) × Sem Value)) (h : c.length = 16) :
    forIn ((c ++ [x]).map (itS pos) ++ tail) (m, []) F = forIn (itS pos x :: tail) (m, c.map (prS pos)) F := by
  rw [List.map_append, List.append_assoc, fill_eq F h1 c [] m _ (by simp; omega)]
  simp only [List.map_cons, List.map_nil, List.nil_append, List.cons_append]

def subsOf : Nat → List (List (Int × Str)) → List Obj
  | _, [] => []
  | n, c :: r => dob (ents n c) :: subsOf (n + 51) r

theorem ents_append : ∀ (a b : List (Int × Str)) (n : Nat), ents n (a ++ b) = ents n a ++ ents (n + 3 * a.length) b
  | [], b, n => by simp [ents]
  | x :: a, b, n => by
    simp only [List.cons_append, ents, ents_append a b]
    rw [show n + 3 + 3 * a.length = n + 3 * (x :: a).length by simp; omega]
theorem ents_int : ∀ (l : List (Int × Str)) (n : Nat), ∀ e ∈ ents n l, ∃ k t, e.key = .int k t
  | [], _, e, h => by simp [ents] at h
  | x :: r, n, e, h => by
    simp only [ents, List.mem_cons] at h
    rcases h with rfl | h
    · exact ⟨_, _, rfl⟩
    · exact ents_int r _ e h
theorem ents2_int : ∀ (l : List (Int × Str)) (n : Nat), ∀ e ∈ ents2 n l, ∃ k t, e.key = .int k t
  | [], _, e, h => by simp [ents2] at h
  | x :: r, n, e, h => by
    simp only [ents2, List.mem_cons] at h
    rcases h with rfl | h
    · exact ⟨_, _, rfl⟩
    · exact ents2_int r _ e h

abbrev FS (F : Option (Sem Value) × Sem Value → DS → Sem (ForInStep DS)) : Prop := ∀ k v (d : Addr) (run : List (Sem Value × Sem Value)), (run ++ [(k, v)]).length = 17 → ∃ H : Value → Sem Unit, F (some k, v) (some d, run) = ((do
    let sub ← holding [Value.ref d] (subDict (run ++ [(k, v)]))
    (holding [Value.ref d, Value.ref sub] (mergeMapping d (Value.ref sub) false)).onRaise H
    Pure.pure (some d) : Sem (Option Addr)) >>= fun main => Pure.pure (ForInStep.yield (main, [])))

theorem goes_chunks {base : List Obj} {os : OsState} {pos : Pos} (hb : 11 ≤ base.length) (F : Option (Sem Value) × Sem Value → DS → Sem (ForInStep DS))
    (h1 : ∀ k v (s : DS), (s.2 ++ [(k, v)]).length ≠ 17 → F (some k, v) s = Sem.pure (.yield (s.1, s.2 ++ [(k, v)]))) (h2 : FS F)
    {tail : List (Option (Sem Value) × Sem Value)} {R : DS} {S' : Shared} {ct : Nat} :
    ∀ (cs : List (List (Int × Str))) (es : List DictEntry) (rest : List Obj) (n : Nat), (∀ c ∈ cs, c.length = 17 ∧ Small c) → es ≠ [] → Inc (es ++ ents n cs.flatten) → es.length + 17 * cs.length < 8000 →
      Goes p w ct (forIn tail ((some base.length, []) : DS) F) (mid base (dob (es ++ ents n cs.flatten)) (rest ++ subsOf n cs) (n + 51 * cs.length) os) pos R S' pos →
      Goes p w (330 * cs.length + ct) (forIn (cs.flatten.map (itS pos) ++ tail) ((some base.length, []) : DS) F) (mid base (dob es) rest n os) pos R S' pos
  | [], es, rest, n, _, _, _, _, g => by simpa [ents, subsOf] using g
  | c :: cs, es, rest, n, hc, h0, hi, hl, g => by
    obtain ⟨hlen, hsm⟩ := hc c (List.mem_cons_self ..)
    obtain ⟨c', x, rfl⟩ : ∃ c' x, c = c' ++ [x] := by
      have hne : c ≠ [] := by intro h; rw [h] at hlen; simp at hlen
      exact ⟨c.dropLast, c.getLast hne, (List.dropLast_concat_getLast hne).symm⟩
    have hinc : Inc (es ++ ents n (c' ++ [x]) ++ ents (n + 51) cs.flatten) := by
      have := hi
      rw [List.flatten_cons, ents_append, hlen, ← List.append_assoc] at this
      exact this
    have hinc1 : Inc (es ++ ents n (c' ++ [x])) := (List.pairwise_append.mp hinc).1
    have ih := goes_chunks (os := os) (pos := pos) (ct := ct) hb F h1 h2 cs (es ++ ents n (c' ++ [x])) (rest ++ [dob (ents n (c' ++ [x]))]) (n + 51) (fun d hd => hc d (List.mem_cons_of_mem _ hd)) (by simp [h0]) hinc
      (by rw [List.length_append, ents_length, hlen]; simp at hl; omega) (by
        rw [List.flatten_cons, ents_append, hlen, subsOf, ← List.append_assoc] at g
        rw [show n + 51 + 51 * cs.length = n + 51 * (List.length ((c' ++ [x]) :: cs)) by simp; omega]
        simpa using g)
    rw [List.flatten_cons, List.map_append, List.append_assoc, full_eq F h1 c' x _ _ (by simpa using hlen), List.forIn_cons]
    obtain ⟨H, e⟩ := h2 (mkInt x.1) (valS pos x.2) base.length (c'.map (prS pos)) (by simpa using hlen)
    have e' : F (itS pos x) (some base.length, c'.map (prS pos)) = _ := e
    rw [e']
    have em : c'.map (prS pos) ++ [(mkInt x.1, valS pos x.2)] = (c' ++ [x]).map (prS pos) := by simp [prS]
    rw [em]
    refine Goes.weaken (c := (((2 + 13 * (c' ++ [x]).length) + ((5 + 6 * (ents n (c' ++ [x])).length) + 0)) + 0) + (330 * cs.length + ct)) ?_ (by rw [ents_length, hlen]; simp; omega)
    refine Goes.bnd (a := ForInStep.yield (some base.length, [])) (s' := mid base (dob (es ++ ents n (c' ++ [x]))) (rest ++ [dob (ents n (c' ++ [x]))]) (n + 51) os) (q' := pos) ?_ ih
    refine Goes.bnd (a := some base.length) ?_ Goes.pr
    have gs := goes_sub_long (p := p) (w := w) (base := base ++ dob es :: rest) (n := n) (os := os) (pos := pos) (chunk := c' ++ [x]) (by simp; omega) (by omega) (by omega) hsm ((List.pairwise_append.mp hinc1).2.1)
    have em2 : mid (base ++ dob es :: rest) (dob (ents n (c' ++ [x]))) [] (n + 3 * (c' ++ [x]).length) os = mid base (dob es) (rest ++ [dob (ents n (c' ++ [x]))]) (n + 51) os := by
      unfold mid; rw [hlen]; simp
    rw [em2] at gs
    have ea : (base ++ dob es :: rest).length = base.length + 1 + rest.length := by simp; omega
    rw [ea] at gs
    refine Goes.bnd (Goes.holding gs) ?_
    refine Goes.bnd (a := ()) ?_ Goes.pr
    refine Goes.onRaise (Goes.holding ?_)
    exact goes_merge hb (by simp) h0 hinc1 (by rw [ents_length, hlen]; simp at hl; omega) (ents_int _ _)
end
end Mine
end
section
set_option linter.unusedVariables false
set_option maxRecDepth 100000
namespace Mine
open PySem PySem.W PyProof.Rows
section
variable {p : Program} {w : World}

theorem goes_display {base : List Obj} {n : Nat} {os : OsState} {pos : Pos} (hb : 11 ≤ base.length) (c0 : List (Int × Str)) (cs : List (List (Int × Str))) (t : List (Int × Str))
    (h0 : c0.length = 17) (hc : ∀ c ∈ cs, c.length = 17) (ht0 : t ≠ []) (ht : t.length ≤ 15) (hs0 : Small c0) (hs : ∀ c ∈ cs, Small c) (hst : Small t)
    (hl : 17 * cs.length < 6000) (hi : Inc (ents n c0 ++ ents (n + 51) cs.flatten ++ ents2 (n + 51 + 51 * cs.length) t)) :
    Goes p w (600 + 330 * cs.length) (dictDisplay ((c0 ++ (cs.flatten ++ t)).map (itS pos))) ⟨⟨base.toArray, {}⟩, #[], {}, n, os⟩ pos (.ref base.length)
      (mid base (dob (ents n c0 ++ ents (n + 51) cs.flatten ++ ents2 (n + 51 + 51 * cs.length) t)) (subsOf (n + 51) cs ++ [dob (ents2 (n + 51 + 51 * cs.length) t)]) (n + 51 + 51 * cs.length + 3 * t.length) os) pos := by
  obtain ⟨c', x, rfl⟩ : ∃ c' x, c0 = c' ++ [x] := by
    have hne : c0 ≠ [] := by intro h; rw [h] at h0; simp at h0
    exact ⟨c0.dropLast, c0.getLast hne, (List.dropLast_concat_getLast hne).symm⟩
  have hi1 : Inc (ents n (c' ++ [x]) ++ ents (n + 51) cs.flatten) := (List.pairwise_append.mp hi).1
  have hi0 : Inc (ents n (c' ++ [x])) := (List.pairwise_append.mp hi1).1
  have hit : Inc (ents2 (n + 51 + 51 * cs.length) t) := (List.pairwise_append.mp hi).2.1
  have e0 : ents n (c' ++ [x]) ≠ [] := by
    intro h
    have := ents_length (c' ++ [x]) n
    rw [h, h0] at this
    simp at this
  have hfl : cs.flatten.length = 17 * cs.length := by
    clear hl hi hi1 hit hs
    induction cs with
    | nil => rfl
    | cons c cs ih =>
      rw [List.flatten_cons, List.length_append, hc c (List.mem_cons_self ..), ih (fun d hd => hc d (List.mem_cons_of_mem _ hd))]
      simp; omega
  unfold dictDisplay
  dsimp only
  rw [List.map_append, full_eq _ (by
      intro k v s hne
      dsimp only
      rw [if_neg (by simpa using hne)]
      rfl) c' x _ _ (by simpa using h0), List.forIn_cons]
  refine Goes.weaken (c := (((2 + 13 * (c' ++ [x]).length) + 0) + 0 + (330 * cs.length + 0)) + (((1 + 13 * t.length) + ((5 + 6 * (ents2 (n + 51 + 51 * cs.length) t).length) + 0)) + 0)) ?_ (by rw [ents2_length, h0]; omega)
  refine Goes.bnd (a := ((some base.length, t.map (prS pos)) : DS)) (s' := mid base (dob (ents n (c' ++ [x]) ++ ents (n + 51) cs.flatten)) (subsOf (n + 51) cs) (n + 51 + 51 * cs.length) os) (q' := pos) ?_ ?_
  · refine Goes.bnd (a := ForInStep.yield ((some base.length, []) : DS)) (s' := mid base (dob (ents n (c' ++ [x]))) [] (n + 51) os) (q' := pos) ?_ ?_
    · show Goes p w _ (if ((c'.map (prS pos) ++ [(mkInt x.1, valS pos x.2)]).length == 17) = true then _ else _) _ _ _ _ _
      have em : c'.map (prS pos) ++ [(mkInt x.1, valS pos x.2)] = (c' ++ [x]).map (prS pos) := by simp [prS]
      rw [if_pos (by rw [em, List.length_map, h0]; rfl)]
      refine Goes.bnd (a := some base.length) ?_ Goes.pr
      show Goes p w _ (if (c'.map (prS pos) ++ [(mkInt x.1, valS pos x.2)]).isEmpty = true then _ else (subDict (c'.map (prS pos) ++ [(mkInt x.1, valS pos x.2)]) >>= fun r => Pure.pure (some r))) _ _ _ _ _
      rw [if_neg (by simp), em]
      have gs := goes_sub_long (p := p) (w := w) (base := base) (n := n) (os := os) (pos := pos) (chunk := c' ++ [x]) hb (by omega) (by omega) hs0 hi0
      rw [h0] at gs ⊢
      exact Goes.bnd gs Goes.pr
    · dsimp only
      rw [List.map_append]
      refine goes_chunks hb _ ?_ ?_ cs (ents n (c' ++ [x])) [] (n + 51) (fun c hcc => ⟨hc c hcc, hs c hcc⟩) e0 hi1 (by rw [ents_length, h0]; omega) ?_
      · intro k v s hne
        dsimp only
        rw [if_neg (by simpa using hne)]
        rfl
      · intro k v d run hlen
        refine ⟨fun x => do
          let _ ← holding [Value.ref d, x] (runValue (Code.builtin "proto.let_go" { }))
          Pure.pure (), ?_⟩
        dsimp only
        rw [if_pos (by rw [hlen]; rfl), if_neg (by simp)]
      · rw [List.nil_append]
        rw [show t.map (itS pos) = t.map (itS pos) ++ [] by simp, fill_eq _ (by
          intro k v s hne
          dsimp only
          rw [if_neg (by simpa using hne)]
          rfl) t [] (some base.length) [] (by simp; omega)]
        simp only [List.forIn_nil, List.nil_append]
        exact Goes.pure
  · dsimp only
    rw [if_neg (by simpa using ht0)]
    have gs := goes_sub_short (p := p) (w := w) (base := base ++ dob (ents n (c' ++ [x]) ++ ents (n + 51) cs.flatten) :: subsOf (n + 51) cs) (n := n + 51 + 51 * cs.length) (os := os) (pos := pos) (chunk := t) (by simp; omega) ht hst hit
    have em2 : mid (base ++ dob (ents n (c' ++ [x]) ++ ents (n + 51) cs.flatten) :: subsOf (n + 51) cs) (dob (ents2 (n + 51 + 51 * cs.length) t)) [] (n + 51 + 51 * cs.length + 3 * t.length) os =
        mid base (dob (ents n (c' ++ [x]) ++ ents (n + 51) cs.flatten)) (subsOf (n + 51) cs ++ [dob (ents2 (n + 51 + 51 * cs.length) t)]) (n + 51 + 51 * cs.length + 3 * t.length) os := by
      unfold mid; simp
    rw [em2] at gs
    have ea : (base ++ dob (ents n (c' ++ [x]) ++ ents (n + 51) cs.flatten) :: subsOf (n + 51) cs).length = base.length + 1 + (subsOf (n + 51) cs).length := by simp; omega
    rw [ea] at gs
    refine Goes.bnd (a := some base.length) (q' := pos) ?_ Goes.pr
    refine Goes.bnd (Goes.holding gs) ?_
    refine Goes.bnd (a := ()) (s' := mid base (dob (ents n (c' ++ [x]) ++ ents (n + 51) cs.flatten ++ ents2 (n + 51 + 51 * cs.length) t)) (subsOf (n + 51) cs ++ [dob (ents2 (n + 51 + 51 * cs.length) t)]) (n + 51 + 51 * cs.length + 3 * t.length) os) (q' := pos) ?_ Goes.pr
    refine Goes.onRaise (Goes.holding ?_)
    exact goes_merge hb (by simp) (by simp [e0]) hi (by rw [List.length_append, ents_length, ents_length, ents2_length, h0, hfl]; omega) (ents2_int _ _)
end
end Mine
end
section
set_option linter.unusedVariables false
set_option maxRecDepth 100000
open PySem PySem.W PyProof.Rows
namespace Mine
abbrev prog : Program := PySem.Challenge.pw_pe0193_01
def stmt (i : Nat) : Stmt := prog.main.body.getD i (.Pass default)
def fnParams : Stmt → Arguments
  | .FunctionDef _ a _ _ _ _ _ _ _ _ => a
  | _ => ⟨[], [], none, [], [], none, []⟩
def fnBody : Stmt → List Stmt
  | .FunctionDef _ _ b _ _ _ _ _ _ _ => b
  | _ => []
def fnScope : Stmt → Scope
  | .FunctionDef _ _ _ _ _ _ s _ _ _ => s
  | _ => prog.main.scope
def o11pre (P : Params) : Obj := { cls := .type "tuple", data := .seq #[] }
def o12pre (P : Params) : Obj := { cls := .none, data := .fields #[] }
def o13pre (P : Params) : Obj := { cls := .type "code", data := .fields #[.str (Str.ofString "<module>") 182, .str (Str.ofString "<module>") 183, .str (Str.ofString "/claim/cut.py") 184, .int 1 0, .int 0 0, .int 0 0, .int 0 0, .int 0 0, .ref 11, .bool false, .int 181 0, .ref 12, .none, .none, .none, .none, .int 185 0, .int 1 0, .str (Str.ofString "/claim/cut.py") 186] }
def o14pre (P : Params) : Obj := { cls := .type "frame", slots := #[some (.ref 13), some (.ref 3), some (.ref 3), none, some (.str (Str.ofString "__main__") 164), none, some (.ref 0)] }
def o3a5 (P : Params) : Obj := { cls := .type "dict", data := .dict #[{ hash := PyData.keyHash P (Str.ofString "__name__"), key := .str (Str.ofString "__name__") 165, val := .str (Str.ofString "cpy313.stringprep") 210 }, { hash := PyData.keyHash P (Str.ofString "__doc__"), key := .str (Str.ofString "__doc__") 166, val := .none }, { hash := PyData.keyHash P (Str.ofString "__package__"), key := .str (Str.ofString "__package__") 167, val := .none }, { hash := PyData.keyHash P (Str.ofString "__loader__"), key := .str (Str.ofString "__loader__") 168, val := .builtin "__main__.__loader__#opaque" }, { hash := PyData.keyHash P (Str.ofString "__spec__"), key := .str (Str.ofString "__spec__") 169, val := .none }, { hash := PyData.keyHash P (Str.ofString "__annotations__"), key := .str (Str.ofString "__annotations__") 170, val := .ref 6 }, { hash := PyData.keyHash P (Str.ofString "__builtins__"), key := .str (Str.ofString "__builtins__") 171, val := .ref 4 }, { hash := PyData.keyHash P (Str.ofString "__file__"), key := .str (Str.ofString "__file__") 173, val := .str (Str.ofString "/claim/cut.py") 172 }, { hash := PyData.keyHash P (Str.ofString "__cached__"), key := .str (Str.ofString "__cached__") 174, val := .none }, { hash := PyData.keyHash P (Str.ofString "CHAR_MAX"), key := .str (Str.ofString "CHAR_MAX") 190, val := .int 127 189 }, { hash := PyData.keyHash P (Str.ofString "_grouping_intervals"), key := .str (Str.ofString "_grouping_intervals") 199, val := .ref 21 }, { hash := PyData.keyHash P (Str.ofString "_strip_padding"), key := .str (Str.ofString "_strip_padding") 209, val := .ref 28 }] 12 }
def o12a5 (P : Params) : Obj := { cls := .none, data := .fields #[.int 3 0, .int 0 0, .ref 20, .int 15 0, .int 0 0, .ref 27] }
def o15a5 (P : Params) : Obj := { cls := .type "tuple", data := .seq #[] }
def o16a5 (P : Params) : Obj := { cls := .none, data := .fields #[] }
def o17a5 (P : Params) : Obj := { cls := .type "tuple", data := .seq #[.str (Str.ofString "grouping") 194, .str (Str.ofString "last_interval") 195, .str (Str.ofString "interval") 196] }
def o18a5 (P : Params) : Obj := { cls := .type "tuple", data := .seq #[] }
def o19a5 (P : Params) : Obj := { cls := .none, dict := none, data := .func ({ name := Str.ofString "_grouping_intervals", qualname := Str.ofString "_grouping_intervals", params := fnParams (stmt 2), body := .stmts (fnBody (stmt 2)), scope := fnScope (stmt 2), globals := 0, closure := [], defaults := .none, kwdefaults := .none, doc := .none, pyModule := .none, annotations := none, code := .none, closureTuple := .none, builtins := 0 } : FuncData), slots := #[] }
def o20a5 (P : Params) : Obj := { cls := .type "code", data := .fields #[.str (Str.ofString "_grouping_intervals") 191, .str (Str.ofString "_grouping_intervals") 192, .str (Str.ofString "/claim/cut.py") 193, .int 3 0, .int 1 0, .int 0 0, .int 0 0, .int 35 0, .ref 15, .bool true, .int 181 0, .ref 16, .none, .ref 17, .ref 18, .ref 19, .int 197 0, .int 3 0, .str (Str.ofString "/claim/cut.py") 198] }
def o21a5 (P : Params) : Obj := { cls := .type "function", dict := none, data := .func ({ name := Str.ofString "_grouping_intervals", qualname := Str.ofString "_grouping_intervals", params := fnParams (stmt 2), body := .stmts (fnBody (stmt 2)), scope := fnScope (stmt 2), globals := 3, closure := [], defaults := .none, kwdefaults := .none, doc := .none, pyModule := .str (Str.ofString "cpy313.locale") 187, annotations := none, code := .ref 20, closureTuple := .none, builtins := 0 } : FuncData), slots := #[] }
def o22a5 (P : Params) : Obj := { cls := .type "tuple", data := .seq #[] }
def o23a5 (P : Params) : Obj := { cls := .none, data := .fields #[] }
def o24a5 (P : Params) : Obj := { cls := .type "tuple", data := .seq #[.str (Str.ofString "s") 203, .str (Str.ofString "amount") 204, .str (Str.ofString "lpos") 205, .str (Str.ofString "rpos") 206] }
def o25a5 (P : Params) : Obj := { cls := .type "tuple", data := .seq #[] }
def o26a5 (P : Params) : Obj := { cls := .none, dict := none, data := .func ({ name := Str.ofString "_strip_padding", qualname := Str.ofString "_strip_padding", params := fnParams (stmt 3), body := .stmts (fnBody (stmt 3)), scope := fnScope (stmt 3), globals := 0, closure := [], defaults := .none, kwdefaults := .none, doc := .none, pyModule := .none, annotations := none, code := .none, closureTuple := .none, builtins := 0 } : FuncData), slots := #[] }
def o27a5 (P : Params) : Obj := { cls := .type "code", data := .fields #[.str (Str.ofString "_strip_padding") 200, .str (Str.ofString "_strip_padding") 201, .str (Str.ofString "/claim/cut.py") 202, .int 15 0, .int 2 0, .int 0 0, .int 0 0, .int 3 0, .ref 22, .bool true, .int 181 0, .ref 23, .none, .ref 24, .ref 25, .ref 26, .int 207 0, .int 15 0, .str (Str.ofString "/claim/cut.py") 208] }
def o28a5 (P : Params) : Obj := { cls := .type "function", dict := none, data := .func ({ name := Str.ofString "_strip_padding", qualname := Str.ofString "_strip_padding", params := fnParams (stmt 3), body := .stmts (fnBody (stmt 3)), scope := fnScope (stmt 3), globals := 3, closure := [], defaults := .none, kwdefaults := .none, doc := .none, pyModule := .str (Str.ofString "cpy313.locale") 187, annotations := none, code := .ref 27, closureTuple := .none, builtins := 0 } : FuncData), slots := #[] }
def o3a6 (P : Params) : Obj := { cls := .type "dict", data := .dict #[{ hash := PyData.keyHash P (Str.ofString "__name__"), key := .str (Str.ofString "__name__") 165, val := .str (Str.ofString "cpy313.stringprep") 210 }, { hash := PyData.keyHash P (Str.ofString "__doc__"), key := .str (Str.ofString "__doc__") 166, val := .none }, { hash := PyData.keyHash P (Str.ofString "__package__"), key := .str (Str.ofString "__package__") 167, val := .none }, { hash := PyData.keyHash P (Str.ofString "__loader__"), key := .str (Str.ofString "__loader__") 168, val := .builtin "__main__.__loader__#opaque" }, { hash := PyData.keyHash P (Str.ofString "__spec__"), key := .str (Str.ofString "__spec__") 169, val := .none }, { hash := PyData.keyHash P (Str.ofString "__annotations__"), key := .str (Str.ofString "__annotations__") 170, val := .ref 6 }, { hash := PyData.keyHash P (Str.ofString "__builtins__"), key := .str (Str.ofString "__builtins__") 171, val := .ref 4 }, { hash := PyData.keyHash P (Str.ofString "__file__"), key := .str (Str.ofString "__file__") 173, val := .str (Str.ofString "/claim/cut.py") 172 }, { hash := PyData.keyHash P (Str.ofString "__cached__"), key := .str (Str.ofString "__cached__") 174, val := .none }, { hash := PyData.keyHash P (Str.ofString "CHAR_MAX"), key := .str (Str.ofString "CHAR_MAX") 190, val := .int 127 189 }, { hash := PyData.keyHash P (Str.ofString "_grouping_intervals"), key := .str (Str.ofString "_grouping_intervals") 199, val := .ref 21 }, { hash := PyData.keyHash P (Str.ofString "_strip_padding"), key := .str (Str.ofString "_strip_padding") 209, val := .ref 28 }, { hash := PyData.keyHash P (Str.ofString "b1_set"), key := .str (Str.ofString "b1_set") 271, val := .ref 36 }] 13 }
def o29a6 (P : Params) : Obj := { cls := .type "list", data := .seq #[.int 173 212, .int 847 213, .int 6150 214, .int 6155 215, .int 6156 216, .int 6157 217, .int 8203 218, .int 8204 219, .int 8205 220, .int 8288 221, .int 65279 222] }
def o30a6 (P : Params) : Obj := { cls := .type "range", data := .fields #[.int 65024 223, .int 65040 224, .int 1 225] }
def o31a6 (P : Params) : Obj := { cls := .type "list", data := .seq #[.int 65024 228, .int 65025 229, .int 65026 230, .int 65027 231, .int 65028 232, .int 65029 233, .int 65030 234, .int 65031 235, .int 65032 236, .int 65033 237, .int 65034 238, .int 65035 239, .int 65036 240, .int 65037 241, .int 65038 242, .int 65039 243] 18 }
def o32a6 (P : Params) : Obj := { cls := .type "range_iterator", data := .fields #[.int 65040 0, .int 0 0, .int 1 0] }
def o33a6 (P : Params) : Obj := { cls := .type "tuple", data := .seq #[] }
def o34a6 (P : Params) : Obj := { cls := .type "StopIteration", data := .fields #[.ref 33, .none, .none, .none, .bool false, .none] }
def o35a6 (P : Params) : Obj := { cls := .type "list", data := .seq #[.int 173 212, .int 847 213, .int 6150 214, .int 6155 215, .int 6156 216, .int 6157 217, .int 8203 218, .int 8204 219, .int 8205 220, .int 8288 221, .int 65279 222, .int 65024 228, .int 65025 229, .int 65026 230, .int 65027 231, .int 65028 232, .int 65029 233, .int 65030 234, .int 65031 235, .int 65032 236, .int 65033 237, .int 65034 238, .int 65035 239, .int 65036 240, .int 65037 241, .int 65038 242, .int 65039 243] }
def o36a6 (P : Params) : Obj := { cls := .type "set", dict := none, data := .set #[(65024, .int 65024 228), (65025, .int 65025 229), (65026, .int 65026 230), (65027, .int 65027 231), (65028, .int 65028 232), (65029, .int 65029 233), (6150, .int 6150 214), (65030, .int 65030 234), (65031, .int 65031 235), (65032, .int 65032 236), (65033, .int 65033 237), (6155, .int 6155 215), (6156, .int 6156 216), (6157, .int 6157 217), (8203, .int 8203 218), (8204, .int 8204 219), (8205, .int 8205 220), (65034, .int 65034 238), (65035, .int 65035 239), (65036, .int 65036 240), (65037, .int 65037 241), (65038, .int 65038 242), (65039, .int 65039 243), (173, .int 173 212), (847, .int 847 213), (8288, .int 8288 221), (65279, .int 65279 222)] 29 { mask := 127, place := #[0, 1, 2, 3, 4, 5, 6, 7, 8, 9, 10, 11, 12, 13, 14, 15, 16, 17, 18, 19, 20, 21, 22, 45, 79, 96, 127], dummies := #[], finger := 0, led := !(P.followText "set-order"), moves := 2, plain := true }, slots := #[] }
def o37a6 (P : Params) : Obj := { cls := .type "list_iterator", data := .fields #[.none, .int 27 0] }
def o38a6 (P : Params) : Obj := { cls := .type "tuple", data := .seq #[] }
def o39a6 (P : Params) : Obj := { cls := .type "StopIteration", data := .fields #[.ref 38, .none, .none, .none, .bool false, .none] }
def o3a7 (P : Params) : Obj := { cls := .type "dict", data := .dict #[{ hash := PyData.keyHash P (Str.ofString "__name__"), key := .str (Str.ofString "__name__") 165, val := .str (Str.ofString "cpy313.stringprep") 210 }, { hash := PyData.keyHash P (Str.ofString "__doc__"), key := .str (Str.ofString "__doc__") 166, val := .none }, { hash := PyData.keyHash P (Str.ofString "__package__"), key := .str (Str.ofString "__package__") 167, val := .none }, { hash := PyData.keyHash P (Str.ofString "__loader__"), key := .str (Str.ofString "__loader__") 168, val := .builtin "__main__.__loader__#opaque" }, { hash := PyData.keyHash P (Str.ofString "__spec__"), key := .str (Str.ofString "__spec__") 169, val := .none }, { hash := PyData.keyHash P (Str.ofString "__annotations__"), key := .str (Str.ofString "__annotations__") 170, val := .ref 6 }, { hash := PyData.keyHash P (Str.ofString "__builtins__"), key := .str (Str.ofString "__builtins__") 171, val := .ref 4 }, { hash := PyData.keyHash P (Str.ofString "__file__"), key := .str (Str.ofString "__file__") 173, val := .str (Str.ofString "/claim/cut.py") 172 }, { hash := PyData.keyHash P (Str.ofString "__cached__"), key := .str (Str.ofString "__cached__") 174, val := .none }, { hash := PyData.keyHash P (Str.ofString "CHAR_MAX"), key := .str (Str.ofString "CHAR_MAX") 190, val := .int 127 189 }, { hash := PyData.keyHash P (Str.ofString "_grouping_intervals"), key := .str (Str.ofString "_grouping_intervals") 199, val := .ref 21 }, { hash := PyData.keyHash P (Str.ofString "_strip_padding"), key := .str (Str.ofString "_strip_padding") 209, val := .ref 28 }, { hash := PyData.keyHash P (Str.ofString "b1_set"), key := .str (Str.ofString "b1_set") 271, val := .ref 36 }, { hash := PyData.keyHash P (Str.ofString "in_table_b1"), key := .str (Str.ofString "in_table_b1") 278, val := .ref 46 }] 14 }
def o12a7 (P : Params) : Obj := { cls := .none, data := .fields #[.int 3 0, .int 0 0, .ref 20, .int 15 0, .int 0 0, .ref 27, .int 27 0, .int 0 0, .ref 45] }
def o40a7 (P : Params) : Obj := { cls := .type "tuple", data := .seq #[] }
def o41a7 (P : Params) : Obj := { cls := .none, data := .fields #[] }
def o42a7 (P : Params) : Obj := { cls := .type "tuple", data := .seq #[.str (Str.ofString "code") 275] }
def o43a7 (P : Params) : Obj := { cls := .type "tuple", data := .seq #[] }
def o44a7 (P : Params) : Obj := { cls := .none, dict := none, data := .func ({ name := Str.ofString "in_table_b1", qualname := Str.ofString "in_table_b1", params := fnParams (stmt 6), body := .stmts (fnBody (stmt 6)), scope := fnScope (stmt 6), globals := 0, closure := [], defaults := .none, kwdefaults := .none, doc := .none, pyModule := .none, annotations := none, code := .none, closureTuple := .none, builtins := 0 } : FuncData), slots := #[] }
def o45a7 (P : Params) : Obj := { cls := .type "code", data := .fields #[.str (Str.ofString "in_table_b1") 272, .str (Str.ofString "in_table_b1") 273, .str (Str.ofString "/claim/cut.py") 274, .int 27 0, .int 1 0, .int 0 0, .int 0 0, .int 3 0, .ref 40, .bool true, .int 181 0, .ref 41, .none, .ref 42, .ref 43, .ref 44, .int 276 0, .int 27 0, .str (Str.ofString "/claim/cut.py") 277] }
def o46a7 (P : Params) : Obj := { cls := .type "function", dict := none, data := .func ({ name := Str.ofString "in_table_b1", qualname := Str.ofString "in_table_b1", params := fnParams (stmt 6), body := .stmts (fnBody (stmt 6)), scope := fnScope (stmt 6), globals := 3, closure := [], defaults := .none, kwdefaults := .none, doc := .none, pyModule := .str (Str.ofString "cpy313.stringprep") 210, annotations := none, code := .ref 45, closureTuple := .none, builtins := 0 } : FuncData), slots := #[] }
def o3a8 (P : Params) : Obj := { cls := .type "dict", data := .dict #[{ hash := PyData.keyHash P (Str.ofString "__name__"), key := .str (Str.ofString "__name__") 165, val := .str (Str.ofString "cpy313.stringprep") 210 }, { hash := PyData.keyHash P (Str.ofString "__doc__"), key := .str (Str.ofString "__doc__") 166, val := .none }, { hash := PyData.keyHash P (Str.ofString "__package__"), key := .str (Str.ofString "__package__") 167, val := .none }, { hash := PyData.keyHash P (Str.ofString "__loader__"), key := .str (Str.ofString "__loader__") 168, val := .builtin "__main__.__loader__#opaque" }, { hash := PyData.keyHash P (Str.ofString "__spec__"), key := .str (Str.ofString "__spec__") 169, val := .none }, { hash := PyData.keyHash P (Str.ofString "__annotations__"), key := .str (Str.ofString "__annotations__") 170, val := .ref 6 }, { hash := PyData.keyHash P (Str.ofString "__builtins__"), key := .str (Str.ofString "__builtins__") 171, val := .ref 4 }, { hash := PyData.keyHash P (Str.ofString "__file__"), key := .str (Str.ofString "__file__") 173, val := .str (Str.ofString "/claim/cut.py") 172 }, { hash := PyData.keyHash P (Str.ofString "__cached__"), key := .str (Str.ofString "__cached__") 174, val := .none }, { hash := PyData.keyHash P (Str.ofString "CHAR_MAX"), key := .str (Str.ofString "CHAR_MAX") 190, val := .int 127 189 }, { hash := PyData.keyHash P (Str.ofString "_grouping_intervals"), key := .str (Str.ofString "_grouping_intervals") 199, val := .ref 21 }, { hash := PyData.keyHash P (Str.ofString "_strip_padding"), key := .str (Str.ofString "_strip_padding") 209, val := .ref 28 }, { hash := PyData.keyHash P (Str.ofString "b1_set"), key := .str (Str.ofString "b1_set") 271, val := .ref 36 }, { hash := PyData.keyHash P (Str.ofString "in_table_b1"), key := .str (Str.ofString "in_table_b1") 278, val := .ref 46 }, { hash := PyData.keyHash P (Str.ofString "b3_exceptions"), key := .str (Str.ofString "b3_exceptions") 2229, val := .ref 47 }] 15 }
def o3a16 (P : Params) : Obj := { cls := .type "dict", data := .dict #[{ hash := PyData.keyHash P (Str.ofString "__name__"), key := .str (Str.ofString "__name__") 165, val := .str (Str.ofString "law_pe0193_01") 2245 }, { hash := PyData.keyHash P (Str.ofString "__doc__"), key := .str (Str.ofString "__doc__") 166, val := .none }, { hash := PyData.keyHash P (Str.ofString "__package__"), key := .str (Str.ofString "__package__") 167, val := .none }, { hash := PyData.keyHash P (Str.ofString "__loader__"), key := .str (Str.ofString "__loader__") 168, val := .builtin "__main__.__loader__#opaque" }, { hash := PyData.keyHash P (Str.ofString "__spec__"), key := .str (Str.ofString "__spec__") 169, val := .none }, { hash := PyData.keyHash P (Str.ofString "__annotations__"), key := .str (Str.ofString "__annotations__") 170, val := .ref 6 }, { hash := PyData.keyHash P (Str.ofString "__builtins__"), key := .str (Str.ofString "__builtins__") 171, val := .ref 4 }, { hash := PyData.keyHash P (Str.ofString "__file__"), key := .str (Str.ofString "__file__") 173, val := .str (Str.ofString "/claim/cut.py") 172 }, { hash := PyData.keyHash P (Str.ofString "__cached__"), key := .str (Str.ofString "__cached__") 174, val := .none }, { hash := PyData.keyHash P (Str.ofString "CHAR_MAX"), key := .str (Str.ofString "CHAR_MAX") 190, val := .int 127 189 }, { hash := PyData.keyHash P (Str.ofString "_grouping_intervals"), key := .str (Str.ofString "_grouping_intervals") 199, val := .ref 21 }, { hash := PyData.keyHash P (Str.ofString "_strip_padding"), key := .str (Str.ofString "_strip_padding") 209, val := .ref 28 }, { hash := PyData.keyHash P (Str.ofString "b1_set"), key := .str (Str.ofString "b1_set") 271, val := .ref 36 }, { hash := PyData.keyHash P (Str.ofString "in_table_b1"), key := .str (Str.ofString "in_table_b1") 278, val := .ref 46 }, { hash := PyData.keyHash P (Str.ofString "b3_exceptions"), key := .str (Str.ofString "b3_exceptions") 2229, val := .ref 47 }, { hash := PyData.keyHash P (Str.ofString "map_table_b3"), key := .str (Str.ofString "map_table_b3") 2237, val := .ref 92 }, { hash := PyData.keyHash P (Str.ofString "in_table_c11"), key := .str (Str.ofString "in_table_c11") 2244, val := .ref 99 }, { hash := PyData.keyHash P (Str.ofString "_law_figure"), key := .str (Str.ofString "_law_figure") 2255, val := .ref 106 }, { hash := PyData.keyHash P (Str.ofString "_law_typed"), key := .str (Str.ofString "_law_typed") 2265, val := .ref 113 }, { hash := PyData.keyHash P (Str.ofString "_law_cut"), key := .str (Str.ofString "_law_cut") 2279, val := .ref 120 }, { hash := PyData.keyHash P (Str.ofString "_law_line_is_right"), key := .str (Str.ofString "_law_line_is_right") 2285, val := .ref 125 }, { hash := PyData.keyHash P (Str.ofString "law"), key := .str (Str.ofString "law") 2291, val := .ref 130 }] 22 }
def o12a16 (P : Params) : Obj := { cls := .none, data := .fields #[.int 3 0, .int 0 0, .ref 20, .int 15 0, .int 0 0, .ref 27, .int 27 0, .int 0 0, .ref 45, .int 30 0, .int 0 0, .ref 91, .int 35 0, .int 0 0, .ref 98, .int 38 0, .int 0 0, .ref 105, .int 45 0, .int 0 0, .ref 112, .int 53 0, .int 0 0, .ref 119, .int 66 0, .int 0 0, .ref 124, .int 103 0, .int 0 0, .ref 129] }
def o86a16 (P : Params) : Obj := { cls := .type "tuple", data := .seq #[] }
def o87a16 (P : Params) : Obj := { cls := .none, data := .fields #[] }
def o88a16 (P : Params) : Obj := { cls := .type "tuple", data := .seq #[.str (Str.ofString "code") 2233, .str (Str.ofString "r") 2234] }
def o89a16 (P : Params) : Obj := { cls := .type "tuple", data := .seq #[] }
def o90a16 (P : Params) : Obj := { cls := .none, dict := none, data := .func ({ name := Str.ofString "map_table_b3", qualname := Str.ofString "map_table_b3", params := fnParams (stmt 8), body := .stmts (fnBody (stmt 8)), scope := fnScope (stmt 8), globals := 0, closure := [], defaults := .none, kwdefaults := .none, doc := .none, pyModule := .none, annotations := none, code := .none, closureTuple := .none, builtins := 0 } : FuncData), slots := #[] }
def o91a16 (P : Params) : Obj := { cls := .type "code", data := .fields #[.str (Str.ofString "map_table_b3") 2230, .str (Str.ofString "map_table_b3") 2231, .str (Str.ofString "/claim/cut.py") 2232, .int 30 0, .int 1 0, .int 0 0, .int 0 0, .int 3 0, .ref 86, .bool true, .int 181 0, .ref 87, .none, .ref 88, .ref 89, .ref 90, .int 2235 0, .int 30 0, .str (Str.ofString "/claim/cut.py") 2236] }
def o92a16 (P : Params) : Obj := { cls := .type "function", dict := none, data := .func ({ name := Str.ofString "map_table_b3", qualname := Str.ofString "map_table_b3", params := fnParams (stmt 8), body := .stmts (fnBody (stmt 8)), scope := fnScope (stmt 8), globals := 3, closure := [], defaults := .none, kwdefaults := .none, doc := .none, pyModule := .str (Str.ofString "cpy313.stringprep") 210, annotations := none, code := .ref 91, closureTuple := .none, builtins := 0 } : FuncData), slots := #[] }
def o93a16 (P : Params) : Obj := { cls := .type "tuple", data := .seq #[] }
def o94a16 (P : Params) : Obj := { cls := .none, data := .fields #[] }
def o95a16 (P : Params) : Obj := { cls := .type "tuple", data := .seq #[.str (Str.ofString "code") 2241] }
def o96a16 (P : Params) : Obj := { cls := .type "tuple", data := .seq #[] }
def o97a16 (P : Params) : Obj := { cls := .none, dict := none, data := .func ({ name := Str.ofString "in_table_c11", qualname := Str.ofString "in_table_c11", params := fnParams (stmt 9), body := .stmts (fnBody (stmt 9)), scope := fnScope (stmt 9), globals := 0, closure := [], defaults := .none, kwdefaults := .none, doc := .none, pyModule := .none, annotations := none, code := .none, closureTuple := .none, builtins := 0 } : FuncData), slots := #[] }
def o98a16 (P : Params) : Obj := { cls := .type "code", data := .fields #[.str (Str.ofString "in_table_c11") 2238, .str (Str.ofString "in_table_c11") 2239, .str (Str.ofString "/claim/cut.py") 2240, .int 35 0, .int 1 0, .int 0 0, .int 0 0, .int 3 0, .ref 93, .bool true, .int 181 0, .ref 94, .none, .ref 95, .ref 96, .ref 97, .int 2242 0, .int 35 0, .str (Str.ofString "/claim/cut.py") 2243] }
def o99a16 (P : Params) : Obj := { cls := .type "function", dict := none, data := .func ({ name := Str.ofString "in_table_c11", qualname := Str.ofString "in_table_c11", params := fnParams (stmt 9), body := .stmts (fnBody (stmt 9)), scope := fnScope (stmt 9), globals := 3, closure := [], defaults := .none, kwdefaults := .none, doc := .none, pyModule := .str (Str.ofString "cpy313.stringprep") 210, annotations := none, code := .ref 98, closureTuple := .none, builtins := 0 } : FuncData), slots := #[] }
def o100a16 (P : Params) : Obj := { cls := .type "tuple", data := .seq #[] }
def o101a16 (P : Params) : Obj := { cls := .none, data := .fields #[] }
def o102a16 (P : Params) : Obj := { cls := .type "tuple", data := .seq #[.str (Str.ofString "figure") 2250, .str (Str.ofString "writing") 2251, .str (Str.ofString "alphabets") 2252] }
def o103a16 (P : Params) : Obj := { cls := .type "tuple", data := .seq #[] }
def o104a16 (P : Params) : Obj := { cls := .none, dict := none, data := .func ({ name := Str.ofString "_law_figure", qualname := Str.ofString "_law_figure", params := fnParams (stmt 11), body := .stmts (fnBody (stmt 11)), scope := fnScope (stmt 11), globals := 0, closure := [], defaults := .none, kwdefaults := .none, doc := .none, pyModule := .none, annotations := none, code := .none, closureTuple := .none, builtins := 0 } : FuncData), slots := #[] }
def o105a16 (P : Params) : Obj := { cls := .type "code", data := .fields #[.str (Str.ofString "_law_figure") 2247, .str (Str.ofString "_law_figure") 2248, .str (Str.ofString "/claim/cut.py") 2249, .int 38 0, .int 2 0, .int 0 0, .int 0 0, .int 3 0, .ref 100, .bool true, .int 181 0, .ref 101, .none, .ref 102, .ref 103, .ref 104, .int 2253 0, .int 38 0, .str (Str.ofString "/claim/cut.py") 2254] }
def o106a16 (P : Params) : Obj := { cls := .type "function", dict := none, data := .func ({ name := Str.ofString "_law_figure", qualname := Str.ofString "_law_figure", params := fnParams (stmt 11), body := .stmts (fnBody (stmt 11)), scope := fnScope (stmt 11), globals := 3, closure := [], defaults := .none, kwdefaults := .none, doc := .none, pyModule := .str (Str.ofString "law_pe0193_01") 2245, annotations := none, code := .ref 105, closureTuple := .none, builtins := 0 } : FuncData), slots := #[] }
def o107a16 (P : Params) : Obj := { cls := .type "tuple", data := .seq #[] }
def o108a16 (P : Params) : Obj := { cls := .none, data := .fields #[] }
def o109a16 (P : Params) : Obj := { cls := .type "tuple", data := .seq #[.str (Str.ofString "value") 2259, .str (Str.ofString "seed") 2260, .str (Str.ofString "typed") 2261, .str (Str.ofString "k") 2262] }
def o110a16 (P : Params) : Obj := { cls := .type "tuple", data := .seq #[] }
def o111a16 (P : Params) : Obj := { cls := .none, dict := none, data := .func ({ name := Str.ofString "_law_typed", qualname := Str.ofString "_law_typed", params := fnParams (stmt 12), body := .stmts (fnBody (stmt 12)), scope := fnScope (stmt 12), globals := 0, closure := [], defaults := .none, kwdefaults := .none, doc := .none, pyModule := .none, annotations := none, code := .none, closureTuple := .none, builtins := 0 } : FuncData), slots := #[] }
def o112a16 (P : Params) : Obj := { cls := .type "code", data := .fields #[.str (Str.ofString "_law_typed") 2256, .str (Str.ofString "_law_typed") 2257, .str (Str.ofString "/claim/cut.py") 2258, .int 45 0, .int 2 0, .int 0 0, .int 0 0, .int 3 0, .ref 107, .bool true, .int 181 0, .ref 108, .none, .ref 109, .ref 110, .ref 111, .int 2263 0, .int 45 0, .str (Str.ofString "/claim/cut.py") 2264] }
def o113a16 (P : Params) : Obj := { cls := .type "function", dict := none, data := .func ({ name := Str.ofString "_law_typed", qualname := Str.ofString "_law_typed", params := fnParams (stmt 12), body := .stmts (fnBody (stmt 12)), scope := fnScope (stmt 12), globals := 3, closure := [], defaults := .none, kwdefaults := .none, doc := .none, pyModule := .str (Str.ofString "law_pe0193_01") 2245, annotations := none, code := .ref 112, closureTuple := .none, builtins := 0 } : FuncData), slots := #[] }
def o114a16 (P : Params) : Obj := { cls := .type "tuple", data := .seq #[] }
def o115a16 (P : Params) : Obj := { cls := .none, data := .fields #[] }
def o116a16 (P : Params) : Obj := { cls := .type "tuple", data := .seq #[.str (Str.ofString "typed") 2269, .str (Str.ofString "sizes") 2270, .str (Str.ofString "seed") 2271, .str (Str.ofString "nothing") 2272, .str (Str.ofString "written") 2273, .str (Str.ofString "put") 2274, .str (Str.ofString "told") 2275, .str (Str.ofString "size") 2276] }
def o117a16 (P : Params) : Obj := { cls := .type "tuple", data := .seq #[] }
def o118a16 (P : Params) : Obj := { cls := .none, dict := none, data := .func ({ name := Str.ofString "_law_cut", qualname := Str.ofString "_law_cut", params := fnParams (stmt 13), body := .stmts (fnBody (stmt 13)), scope := fnScope (stmt 13), globals := 0, closure := [], defaults := .none, kwdefaults := .none, doc := .none, pyModule := .none, annotations := none, code := .none, closureTuple := .none, builtins := 0 } : FuncData), slots := #[] }
def o119a16 (P : Params) : Obj := { cls := .type "code", data := .fields #[.str (Str.ofString "_law_cut") 2266, .str (Str.ofString "_law_cut") 2267, .str (Str.ofString "/claim/cut.py") 2268, .int 53 0, .int 3 0, .int 0 0, .int 0 0, .int 3 0, .ref 114, .bool true, .int 181 0, .ref 115, .none, .ref 116, .ref 117, .ref 118, .int 2277 0, .int 53 0, .str (Str.ofString "/claim/cut.py") 2278] }
def o120a16 (P : Params) : Obj := { cls := .type "function", dict := none, data := .func ({ name := Str.ofString "_law_cut", qualname := Str.ofString "_law_cut", params := fnParams (stmt 13), body := .stmts (fnBody (stmt 13)), scope := fnScope (stmt 13), globals := 3, closure := [], defaults := .none, kwdefaults := .none, doc := .none, pyModule := .str (Str.ofString "law_pe0193_01") 2245, annotations := none, code := .ref 119, closureTuple := .none, builtins := 0 } : FuncData), slots := #[] }
def o121a16 (P : Params) : Obj := { cls := .type "tuple", data := .seq #[] }
def o122a16 (P : Params) : Obj := { cls := .none, data := .fields #[] }
def o123a16 (P : Params) : Obj := { cls := .none, dict := none, data := .func ({ name := Str.ofString "_law_line_is_right", qualname := Str.ofString "_law_line_is_right", params := fnParams (stmt 14), body := .stmts (fnBody (stmt 14)), scope := fnScope (stmt 14), globals := 0, closure := [], defaults := .none, kwdefaults := .none, doc := .none, pyModule := .none, annotations := none, code := .none, closureTuple := .none, builtins := 0 } : FuncData), slots := #[] }
def o124a16 (P : Params) : Obj := { cls := .type "code", data := .fields #[.str (Str.ofString "_law_line_is_right") 2280, .str (Str.ofString "_law_line_is_right") 2281, .str (Str.ofString "/claim/cut.py") 2282, .int 66 0, .int 1 0, .int 0 0, .int 0 0, .int 3 0, .ref 121, .bool true, .int 181 0, .ref 122, .none, .none, .none, .ref 123, .int 2283 0, .int 66 0, .str (Str.ofString "/claim/cut.py") 2284] }
def o125a16 (P : Params) : Obj := { cls := .type "function", dict := none, data := .func ({ name := Str.ofString "_law_line_is_right", qualname := Str.ofString "_law_line_is_right", params := fnParams (stmt 14), body := .stmts (fnBody (stmt 14)), scope := fnScope (stmt 14), globals := 3, closure := [], defaults := .none, kwdefaults := .none, doc := .none, pyModule := .str (Str.ofString "law_pe0193_01") 2245, annotations := none, code := .ref 124, closureTuple := .none, builtins := 0 } : FuncData), slots := #[] }
def o126a16 (P : Params) : Obj := { cls := .type "tuple", data := .seq #[] }
def o127a16 (P : Params) : Obj := { cls := .none, data := .fields #[] }
def o128a16 (P : Params) : Obj := { cls := .none, dict := none, data := .func ({ name := Str.ofString "law", qualname := Str.ofString "law", params := fnParams (stmt 15), body := .stmts (fnBody (stmt 15)), scope := fnScope (stmt 15), globals := 0, closure := [], defaults := .none, kwdefaults := .none, doc := .none, pyModule := .none, annotations := none, code := .none, closureTuple := .none, builtins := 0 } : FuncData), slots := #[] }
def o129a16 (P : Params) : Obj := { cls := .type "code", data := .fields #[.str (Str.ofString "law") 2286, .str (Str.ofString "law") 2287, .str (Str.ofString "/claim/cut.py") 2288, .int 103 0, .int 1 0, .int 0 0, .int 0 0, .int 3 0, .ref 126, .bool true, .int 181 0, .ref 127, .none, .none, .none, .ref 128, .int 2289 0, .int 103 0, .str (Str.ofString "/claim/cut.py") 2290] }
def o130a16 (P : Params) : Obj := { cls := .type "function", dict := none, data := .func ({ name := Str.ofString "law", qualname := Str.ofString "law", params := fnParams (stmt 15), body := .stmts (fnBody (stmt 15)), scope := fnScope (stmt 15), globals := 3, closure := [], defaults := .none, kwdefaults := .none, doc := .none, pyModule := .str (Str.ofString "law_pe0193_01") 2245, annotations := none, code := .ref 129, closureTuple := .none, builtins := 0 } : FuncData), slots := #[] }
noncomputable def l_pre (P : Params) : List Obj := [boot_o_0 P, boot_o_1 P, boot_o_2 P, boot_o_3 P, boot_o_4 P, boot_o_5 P, boot_o_6 P, boot_o_7 P, boot_o_8 P, boot_o_9 P, boot_o_10 P, o11pre P, o12pre P, o13pre P, o14pre P]
noncomputable def l_a5 (P : Params) : List Obj := [boot_o_0 P, boot_o_1 P, boot_o_2 P, o3a5 P, boot_o_4 P, boot_o_5 P, boot_o_6 P, boot_o_7 P, boot_o_8 P, boot_o_9 P, boot_o_10 P, o11pre P, o12a5 P, o13pre P, o14pre P, o15a5 P, o16a5 P, o17a5 P, o18a5 P, o19a5 P, o20a5 P, o21a5 P, o22a5 P, o23a5 P, o24a5 P, o25a5 P, o26a5 P, o27a5 P, o28a5 P]
noncomputable def l_a6 (P : Params) : List Obj := [boot_o_0 P, boot_o_1 P, boot_o_2 P, o3a6 P, boot_o_4 P, boot_o_5 P, boot_o_6 P, boot_o_7 P, boot_o_8 P, boot_o_9 P, boot_o_10 P, o11pre P, o12a5 P, o13pre P, o14pre P, o15a5 P, o16a5 P, o17a5 P, o18a5 P, o19a5 P, o20a5 P, o21a5 P, o22a5 P, o23a5 P, o24a5 P, o25a5 P, o26a5 P, o27a5 P, o28a5 P, o29a6 P, o30a6 P, o31a6 P, o32a6 P, o33a6 P, o34a6 P, o35a6 P, o36a6 P, o37a6 P, o38a6 P, o39a6 P]
noncomputable def l_a7 (P : Params) : List Obj := [boot_o_0 P, boot_o_1 P, boot_o_2 P, o3a7 P, boot_o_4 P, boot_o_5 P, boot_o_6 P, boot_o_7 P, boot_o_8 P, boot_o_9 P, boot_o_10 P, o11pre P, o12a7 P, o13pre P, o14pre P, o15a5 P, o16a5 P, o17a5 P, o18a5 P, o19a5 P, o20a5 P, o21a5 P, o22a5 P, o23a5 P, o24a5 P, o25a5 P, o26a5 P, o27a5 P, o28a5 P, o29a6 P, o30a6 P, o31a6 P, o32a6 P, o33a6 P, o34a6 P, o35a6 P, o36a6 P, o37a6 P, o38a6 P, o39a6 P, o40a7 P, o41a7 P, o42a7 P, o43a7 P, o44a7 P, o45a7 P, o46a7 P]
noncomputable def l_a8 (P : Params) : List Obj := [boot_o_0 P, boot_o_1 P, boot_o_2 P, o3a8 P, boot_o_4 P, boot_o_5 P, boot_o_6 P, boot_o_7 P, boot_o_8 P, boot_o_9 P, boot_o_10 P, o11pre P, o12a7 P, o13pre P, o14pre P, o15a5 P, o16a5 P, o17a5 P, o18a5 P, o19a5 P, o20a5 P, o21a5 P, o22a5 P, o23a5 P, o24a5 P, o25a5 P, o26a5 P, o27a5 P, o28a5 P, o29a6 P, o30a6 P, o31a6 P, o32a6 P, o33a6 P, o34a6 P, o35a6 P, o36a6 P, o37a6 P, o38a6 P, o39a6 P, o40a7 P, o41a7 P, o42a7 P, o43a7 P, o44a7 P, o45a7 P, o46a7 P]
noncomputable def l_a16 (P : Params) : List Obj := [boot_o_0 P, boot_o_1 P, boot_o_2 P, o3a16 P, boot_o_4 P, boot_o_5 P, boot_o_6 P, boot_o_7 P, boot_o_8 P, boot_o_9 P, boot_o_10 P, o11pre P, o12a16 P, o13pre P, o14pre P, o15a5 P, o16a5 P, o17a5 P, o18a5 P, o19a5 P, o20a5 P, o21a5 P, o22a5 P, o23a5 P, o24a5 P, o25a5 P, o26a5 P, o27a5 P, o28a5 P, o29a6 P, o30a6 P, o31a6 P, o32a6 P, o33a6 P, o34a6 P, o35a6 P, o36a6 P, o37a6 P, o38a6 P, o39a6 P, o40a7 P, o41a7 P, o42a7 P, o43a7 P, o44a7 P, o45a7 P, o46a7 P]
noncomputable def l_new (P : Params) : List Obj := [o86a16 P, o87a16 P, o88a16 P, o89a16 P, o90a16 P, o91a16 P, o92a16 P, o93a16 P, o94a16 P, o95a16 P, o96a16 P, o97a16 P, o98a16 P, o99a16 P, o100a16 P, o101a16 P, o102a16 P, o103a16 P, o104a16 P, o105a16 P, o106a16 P, o107a16 P, o108a16 P, o109a16 P, o110a16 P, o111a16 P, o112a16 P, o113a16 P, o114a16 P, o115a16 P, o116a16 P, o117a16 P, o118a16 P, o119a16 P, o120a16 P, o121a16 P, o122a16 P, o123a16 P, o124a16 P, o125a16 P, o126a16 P, o127a16 P, o128a16 P, o129a16 P, o130a16 P]
def env : Env := { scope := prog.main.scope, locals := mainNs, globals := mainNs, cells := [], code := .ref 13, frame := some 14 }
def cE : Code := .body (behindTheImports prog) env
def bS : List Frame := [topFrame ⟨0, 0, 0, 0⟩]
abbrev shr (l : List Obj) (n : Nat) (os : OsState) : Shared := ⟨⟨l.toArray, {}⟩, #[], {}, n, os⟩
def sts (i n : Nat) : List Stmt := (prog.main.body.drop i).take n
end Mine
end
section
set_option maxRecDepth 100000
open PySem PySem.W PyProof.Rows
namespace Mine
theorem piece_pre (w : World) (os : OsState) : topGo treeTable prog w 11 ann6 12 ⟨boot_heap w.params, #[], boot_drawn, boot_toks, os⟩ (topStub prog) =
    some (shr (l_pre w.params) 187 os, ⟨denote treeTable cE, cE, ⟨0, 0, 0, 0⟩, bS⟩) := by
  kernel_rfl
theorem piece_start (w : World) (os : OsState) : segRun treeTable prog w 11 ann6 1 1 (shr (l_pre w.params) 187 os) (blockOf (behindTheImports prog) env cE ⟨0, 0, 0, 0⟩ bS) =
    some (.next, shr (l_pre w.params) 187 os, cE, ⟨0, 0, 0, 0⟩) := by
  kernel_rfl
theorem piece_5 (w : World) (os : OsState) : segRun treeTable prog w 11 ann6 1 91 (shr (l_pre w.params) 187 os) (piecesOf (sts 0 5) env cE ⟨0, 0, 0, 0⟩ bS) =
    some (.next, shr (l_a5 w.params) 212 os, cE, ⟨25, 0, 25, 8⟩) := by
  kernel_rfl
theorem piece_7 (w : World) (os : OsState) : segRun treeTable prog w 11 ann6 1 30 (shr (l_a6 w.params) 272 os) (piecesOf (sts 6 1) env cE ⟨26, 0, 26, 6⟩ bS) =
    some (.next, shr (l_a7 w.params) 279 os, cE, ⟨27, 0, 28, 30⟩) := by
  kernel_rfl
theorem piece_16 (w : World) (os : OsState) (d : Nat → Obj) : segRun treeTable prog w 11 ann6 1 220 (shr (l_a8 w.params ++ (List.range 39).map d) 2230 os) (piecesOf (sts 8 8) env cE ⟨29, 0, 29, 13⟩ bS) =
    some (.next, shr (l_a16 w.params ++ ((List.range 39).map d ++ l_new w.params)) 2292 os, cE, ⟨103, 0, 108, 15⟩) := by
  kernel_rfl
end Mine
end
section
set_option maxRecDepth 100000
open PySem PySem.W PyProof.Rows
namespace Mine
def P6 (w : World) : Prop := ∀ os : OsState, segRun treeTable prog w 11 ann6 1 999 (shr (l_a5 w.params) 212 os) (piecesOf (sts 5 1) env cE ⟨25, 0, 25, 8⟩ bS) =
    some (.next, shr (l_a6 w.params) 272 os, cE, ⟨26, 0, 26, 6⟩)
theorem p6_f (w : World) : P6 (w.withFollow "special-get-raises" false) := by
  intro os
  unfold piecesOf
  rw [PySem.W.Fast.te14374325043358763698, PySem.W.Fast.te14364793385576792824, PySem.W.Fast.te12563942051412417395]
  kernel_rfl
theorem p6_t (w : World) : P6 (w.withFollow "special-get-raises" true) := by
  intro os
  unfold piecesOf
  rw [PySem.W.Fast.te14374325043358763698, PySem.W.Fast.te14364793385576792824, PySem.W.Fast.te12563942051412417395]
  kernel_rfl
theorem piece_6 (w : World) : P6 w := by
  have e1 := World.withFollow_self w "special-get-raises"
  rw [← e1]
  generalize w.params.followText "special-get-raises" = a
  cases a
  · exact p6_f w
  · exact p6_t w
end Mine
end
section
set_option maxRecDepth 100000
set_option linter.unusedVariables false
open PySem PySem.W PyProof.Rows
namespace Mine
def dictKV : Stmt → List (Option Expr) × List Expr × Pos
  | .Assign _ (.Dict ks vs pos) _ => (ks, vs, pos)
  | _ => ([], [], default)
def kvOf : List (Option Expr) → List Expr → List (Int × Str)
  | some (.Constant (.int k) _ _) :: ks, .Constant (.str s) _ _ :: vs => (k, s) :: kvOf ks vs
  | _, _ => []
/-- the pairs of the text's own table -/
def pairs : List (Int × Str) := kvOf (dictKV (stmt 7)).1 (dictKV (stmt 7)).2.1
def dpos : Pos := (dictKV (stmt 7)).2.2
def itemsOf (ks : List (Option Expr)) (vs : List Expr) (pos : Pos) : List (Option (Sem Value) × Sem Value) :=
  (evalEachOpt ks env).zip ((evalEach vs env).map fun v => do let x ← v; standAt pos; pure x)
theorem items_eq : itemsOf (dictKV (stmt 7)).1 (dictKV (stmt 7)).2.1 dpos = pairs.map (itS dpos) := by kernel_rfl
theorem pairs_length : pairs.length = 650 := by kernel_rfl
def rising : List (Int × Str) → Bool
  | a :: b :: r => decide (a.1 < b.1) && rising (b :: r)
  | _ => true
theorem pairs_rising : rising pairs = true := by kernel_rfl
theorem pairs_small : (pairs.all fun x => decide (0 ≤ x.1) && decide (x.1 < 1000000)) = true := by kernel_rfl
theorem stmt7 : sts 7 1 = [.Assign [.Name (Str.ofString "b3_exceptions") ⟨29, 0, 29, 13⟩] (.Dict (dictKV (stmt 7)).1 (dictKV (stmt 7)).2.1 dpos) (stmt 7).pos] := by kernel_rfl
theorem exec_dict (ks : List (Option Expr)) (vs : List Expr) (pos np ap : Pos) (nm : Str) : exec (.Assign [.Name nm np] (.Dict ks vs pos) ap) env =
    (standAt ap >>= fun _ => (standAt pos >>= fun _ => dictDisplay (itemsOf ks vs pos)) >>= fun v => (assign (.Name nm np) env v >>= fun _ => (Pure.pure Flow.next : Sem Flow))) := by kernel_rfl

theorem tail_8 (p : Program) (w : World) (os : OsState) (d : Nat → Obj) (K : Flow → Sem Fin) (H : Value → Sem Fin) (gd : Bool → Bool) (lv : List Value → List Value) (code : Code) (q : Pos) (f : Frame) (st : List Frame) :
    topGo treeTable p w 11 ann6 7 (shr (l_a7 w.params ++ (List.range 39).map d) 2229 os) ⟨(assign (.Name (Str.ofString "b3_exceptions") ⟨29, 0, 29, 13⟩) env (.ref 47) >>= fun _ => (Pure.pure Flow.next : Sem Flow)).wrap K H gd lv, code, q, f :: st⟩ =
      some (shr (l_a8 w.params ++ (List.range 39).map d) 2230 os, ⟨K .next, code, ⟨29, 0, 29, 13⟩, f :: st⟩) := by kernel_rfl

def chunks : Nat → List (Int × Str) → List (List (Int × Str))
  | 0, _ => []
  | n + 1, l => l.take 17 :: chunks n (l.drop 17)
theorem chunks_flatten : ∀ (n : Nat) (l : List (Int × Str)), (chunks n l).flatten = l.take (17 * n)
  | 0, l => by simp [chunks]
  | n + 1, l => by
    rw [chunks, List.flatten_cons, chunks_flatten n, show 17 * (n + 1) = 17 + 17 * n by omega, List.take_add]
theorem chunks_length : ∀ (n : Nat) (l : List (Int × Str)), (chunks n l).length = n
  | 0, l => rfl
  | n + 1, l => by rw [chunks, List.length_cons, chunks_length n]
theorem chunks_each : ∀ (n : Nat) (l : List (Int × Str)), 17 * n ≤ l.length → ∀ c ∈ chunks n l, c.length = 17 ∧ ∀ x ∈ c, x ∈ l
  | 0, l, _, c, hc => by simp [chunks] at hc
  | n + 1, l, h, c, hc => by
    simp only [chunks, List.mem_cons] at hc
    rcases hc with rfl | hc
    · exact ⟨by rw [List.length_take]; omega, fun x hx => List.mem_of_mem_take hx⟩
    · obtain ⟨a, b⟩ := chunks_each n (l.drop 17) (by rw [List.length_drop]; omega) c hc
      exact ⟨a, fun x hx => List.mem_of_mem_drop (b x hx)⟩

def tab0 : List (Int × Str) := pairs.take 17
def tabC : List (List (Int × Str)) := chunks 37 (pairs.drop 17)
def tabT : List (Int × Str) := pairs.drop 646
theorem tab_eq : tab0 ++ (tabC.flatten ++ tabT) = pairs := by
  unfold tab0 tabC tabT
  rw [chunks_flatten, ← List.append_assoc, show 17 * 37 = 629 from rfl, ← List.take_add]
  exact List.take_append_drop 646 pairs
theorem small_of {l : List (Int × Str)} (h : ∀ x ∈ l, x ∈ pairs) : Small l := by
  intro x hx
  have := List.all_eq_true.mp pairs_small x (h x hx)
  simpa using this
theorem ents_hash : ∀ (l : List (Int × Str)) (n : Nat), (ents n l).map (·.hash) = l.map (·.1)
  | [], _ => rfl
  | x :: r, n => by simp [ents, ents_hash r]
theorem ents2_hash : ∀ (l : List (Int × Str)) (n : Nat), (ents2 n l).map (·.hash) = l.map (·.1)
  | [], _ => rfl
  | x :: r, n => by simp [ents2, ents2_hash r]
theorem rising_pair : ∀ (l : List (Int × Str)), rising l = true → (l.map (·.1)).Pairwise (· < ·)
  | [], _ => .nil
  | [x], _ => by simp
  | a :: b :: r, h => by
    simp only [rising, Bool.and_eq_true, decide_eq_true_eq] at h
    have ih := rising_pair (b :: r) h.2
    rw [List.map_cons]
    refine List.pairwise_cons.mpr ⟨fun y hy => ?_, ih⟩
    rw [List.map_cons] at ih hy
    rcases List.mem_cons.mp hy with rfl | hy
    · exact h.1
    · exact Int.lt_trans h.1 ((List.pairwise_cons.mp ih).1 y hy)

/-- the table's entries; the dicts that the display leaves behind -/
def tabE : List DictEntry := ents 279 tab0 ++ ents 330 tabC.flatten ++ ents2 2217 tabT
def tabL : List Obj := dob tabE :: (subsOf 330 tabC ++ [dob (ents2 2217 tabT)])

theorem tabE_hash : tabE.map (·.hash) = pairs.map (·.1) := by
  unfold tabE
  rw [List.map_append, List.map_append, ents_hash, ents_hash, ents2_hash, List.append_assoc, ← List.map_append, ← List.map_append, tab_eq]
theorem tabE_inc : Inc tabE := by
  have := rising_pair pairs pairs_rising
  rw [← tabE_hash] at this
  exact List.pairwise_map.mp this
theorem subs_length : ∀ (cs : List (List (Int × Str))) (n : Nat), (subsOf n cs).length = cs.length
  | [], _ => rfl
  | c :: cs, n => by rw [subsOf, List.length_cons, List.length_cons, subs_length cs]
theorem tabL_length : tabL.length = 39 := by
  unfold tabL tabC
  simp [subs_length, chunks_length]
theorem as_range {α : Type} [Inhabited α] (l : List α) : l = (List.range l.length).map fun i => l.getD i default := by
  apply List.ext_getElem
  · simp
  · intro i h1 h2
    simp [List.getD_eq_getElem?_getD, List.getElem?_eq_getElem h1]

theorem goes_stmt8 {p : Program} {w : World} {os : OsState} {q : Pos} :
    Goes p w 14000 (exec (.Assign [.Name (Str.ofString "b3_exceptions") ⟨29, 0, 29, 13⟩] (.Dict (dictKV (stmt 7)).1 (dictKV (stmt 7)).2.1 dpos) (stmt 7).pos) env)
      (shr (l_a7 w.params) 279 os) q .next (shr (l_a8 w.params ++ tabL) 2230 os) ⟨29, 0, 29, 13⟩ := by
  rw [exec_dict, items_eq]
  refine Goes.weaken (c := 1 + ((1 + (600 + 330 * tabC.length)) + 7)) ?_ (by unfold tabC; rw [chunks_length]; decide)
  refine Goes.bnd goes_stand ?_
  refine Goes.bnd (a := .ref 47) (s' := shr (l_a7 w.params ++ tabL) 2229 os) (q' := dpos) ?_ ?_
  · refine Goes.bnd goes_stand ?_
    have hl := pairs_length
    have g := goes_display (p := p) (w := w) (base := l_a7 w.params) (n := 279) (os := os) (pos := dpos) (by show 11 ≤ 47; omega) tab0 tabC tabT
      (by unfold tab0; rw [List.length_take, hl]; rfl) (fun c hc => (chunks_each 37 _ (by rw [List.length_drop, hl]; decide) c hc).1)
      (by intro h; have : tabT.length = 0 := by rw [h]; rfl
          unfold tabT at this; rw [List.length_drop, hl] at this; omega)
      (by unfold tabT; rw [List.length_drop, hl]; decide) (small_of fun x hx => List.mem_of_mem_take hx)
      (fun c hc => small_of fun x hx => List.mem_of_mem_drop ((chunks_each 37 _ (by rw [List.length_drop, hl]; decide) c hc).2 x hx)) (small_of fun x hx => List.mem_of_mem_drop hx)
      (by unfold tabC; rw [chunks_length]; decide)
      (by have e := tabE_inc; unfold tabE at e; rw [show tabC.length = 37 from chunks_length 37 _]; exact e)
    rw [tab_eq] at g
    have e : mid (l_a7 w.params) (dob (ents 279 tab0 ++ ents (279 + 51) tabC.flatten ++ ents2 (279 + 51 + 51 * tabC.length) tabT)) (subsOf (279 + 51) tabC ++ [dob (ents2 (279 + 51 + 51 * tabC.length) tabT)]) (279 + 51 + 51 * tabC.length + 3 * tabT.length) os =
        shr (l_a7 w.params ++ tabL) 2229 os := by
      rw [show tabC.length = 37 from chunks_length 37 _, show tabT.length = 4 by unfold tabT; rw [List.length_drop, hl]]
      rfl
    rw [e] at g
    exact g
  · intro K H gd lv code f st b r e
    have t := tail_8 p w os (fun i => tabL.getD i default) K H gd lv code dpos f st
    have ea := as_range tabL
    rw [tabL_length] at ea
    rw [← ea] at t
    exact Ends.go t e
end Mine
end
section
set_option linter.unusedVariables false
set_option maxRecDepth 100000
open PySem PySem.W PyProof.Rows
namespace Mine
/-- the part of the heap behind the top that the walk knows -/
noncomputable def K (P : Params) : Frag := (nat_lit 2, boot_o_2 P) :: (nat_lit 3, o3a16 P) :: (nat_lit 6, boot_o_6 P) :: (nat_lit 15, o15a5 P) :: (nat_lit 17, o17a5 P) :: (nat_lit 18, o18a5 P) :: (nat_lit 20, o20a5 P) :: (nat_lit 21, o21a5 P) :: (nat_lit 22, o22a5 P) :: (nat_lit 24, o24a5 P) :: (nat_lit 25, o25a5 P) :: (nat_lit 27, o27a5 P) :: (nat_lit 28, o28a5 P) :: (nat_lit 36, o36a6 P) :: (nat_lit 40, o40a7 P) :: (nat_lit 42, o42a7 P) :: (nat_lit 43, o43a7 P) :: (nat_lit 45, o45a7 P) :: (nat_lit 46, o46a7 P) :: (nat_lit 47, dob tabE) :: (nat_lit 86, o86a16 P) :: (nat_lit 88, o88a16 P) :: (nat_lit 89, o89a16 P) :: (nat_lit 91, o91a16 P) :: (nat_lit 92, o92a16 P) :: (nat_lit 93, o93a16 P) :: (nat_lit 95, o95a16 P) :: (nat_lit 96, o96a16 P) :: (nat_lit 98, o98a16 P) :: (nat_lit 99, o99a16 P) :: (nat_lit 100, o100a16 P) :: (nat_lit 102, o102a16 P) :: (nat_lit 103, o103a16 P) :: (nat_lit 105, o105a16 P) :: (nat_lit 106, o106a16 P) :: (nat_lit 107, o107a16 P) :: (nat_lit 109, o109a16 P) :: (nat_lit 110, o110a16 P) :: (nat_lit 112, o112a16 P) :: (nat_lit 113, o113a16 P) :: (nat_lit 114, o114a16 P) :: (nat_lit 116, o116a16 P) :: (nat_lit 117, o117a16 P) :: (nat_lit 119, o119a16 P) :: (nat_lit 120, o120a16 P) :: (nat_lit 121, o121a16 P) :: (nat_lit 124, o124a16 P) :: (nat_lit 125, o125a16 P) :: (nat_lit 126, o126a16 P) :: (nat_lit 129, o129a16 P) :: (nat_lit 130, o130a16 P) :: []
def kAs : List Addr := [nat_lit 2, nat_lit 3, nat_lit 6, nat_lit 15, nat_lit 17, nat_lit 18, nat_lit 20, nat_lit 21, nat_lit 22, nat_lit 24, nat_lit 25, nat_lit 27, nat_lit 28, nat_lit 36, nat_lit 40, nat_lit 42, nat_lit 43, nat_lit 45, nat_lit 46, nat_lit 47, nat_lit 86, nat_lit 88, nat_lit 89, nat_lit 91, nat_lit 92, nat_lit 93, nat_lit 95, nat_lit 96, nat_lit 98, nat_lit 99, nat_lit 100, nat_lit 102, nat_lit 103, nat_lit 105, nat_lit 106, nat_lit 107, nat_lit 109, nat_lit 110, nat_lit 112, nat_lit 113, nat_lit 114, nat_lit 116, nat_lit 117, nat_lit 119, nat_lit 120, nat_lit 121, nat_lit 124, nat_lit 125, nat_lit 126, nat_lit 129, nat_lit 130]
noncomputable abbrev kH : Hook := kHook K kAs (fun _ => by kernel_rfl)
def qv : Program := view prog [1, 2, 3, 6, 8, 9, 11, 12, 13, 14, 15]
def looseN : List Str := [Str.ofString "b1_set", Str.ofString "b3_exceptions"]
def xt (s : Shared) : Bool := xlAt qv [] s && recOk [] s
noncomputable def lF (P : Params) (d : Nat → Obj) : List Obj := l_a16 P ++ ((dob tabE :: (List.range 38).map d) ++ l_new P)

theorem look1 (w : World) (d : Nat → Obj) (os : OsState) : staticsOk (importedModules prog.main.body) (boot_heap w.params) (shr (lF w.params d) 2292 os).heap = true := by kernel_rfl
theorem look2 (w : World) (d : Nat → Obj) (os : OsState) : namesBound prog (shr (lF w.params d) 2292 os).heap = true := by kernel_rfl
theorem look3 (w : World) (d : Nat → Obj) (os : OsState) : gensDone (shr (lF w.params d) 2292 os) = true := by kernel_rfl
theorem look4 (w : World) (d : Nat → Obj) (os : OsState) : laidKept (boot_heap w.params) (shr (lF w.params d) 2292 os).heap = true := by kernel_rfl
theorem look5 (w : World) (d : Nat → Obj) (os : OsState) : kH.obs (shr (lF w.params d) 2292 os) = kH.val w := by kernel_rfl
end Mine
end
section
set_option linter.unusedVariables false
set_option maxRecDepth 100000
open PySem PySem.W PyProof.Rows
namespace Mine
noncomputable abbrev sF (w : World) (d : Nat → Obj) (os : OsState) : Shared := shr (lF w.params d) 2292 os
theorem seen1 (w : World) (d : Nat → Obj) (os : OsState) : seen ((recsOf qv).map (·.name)) (ownsOf qv) [] { sF w d os with gens := #[] } = expectedOf qv := by kernel_rfl
theorem seen2 (w : World) (d : Nat → Obj) (os : OsState) : (sF w d os).heap.bltView = bltViewBooted := by kernel_rfl
theorem seen3 (w : World) (d : Nat → Obj) (os : OsState) : ((sF w d os).heap.keysOk (looseW qv looseN) ((recsOf qv).map (·.name)) ((litsOf qv).map (·.1)) ((clssOf qv (looseW qv looseN)).map (·.name)) && (sF w d os).heap.accountedOkI (importedModules prog.main.body) && (sF w d os).heap.isNs mainGlobals && (sF w d os).heap.isNs builtinsNs && tablesOk qv (sF w d os).heap && xt (sF w d os) && (if true then (sF w d os).gens.size == 0 else !leftWithCleanup (sF w d os).gens)) = true := by kernel_rfl
theorem seen4 (w : World) (d : Nat → Obj) (os : OsState) : tabsOk qv (sF w d os) = true := by kernel_rfl
theorem seen5 (w : World) (d : Nat → Obj) (os : OsState) : pinSeenD qv (drecsOf qv) (sF w d os) = pinGoodD (drecsOf qv) := by kernel_rfl
theorem seen6 (w : World) (d : Nat → Obj) (os : OsState) : plainSeenE qv (looseW qv looseN) (sF w d os) = plainGoodE qv (looseW qv looseN) := by kernel_rfl
theorem seen7 (w : World) (d : Nat → Obj) (os : OsState) : plainSeenD qv looseN (sF w d os) = plainGoodD qv looseN := by kernel_rfl
theorem seen8 (w : World) (d : Nat → Obj) (os : OsState) : wideSeen qv (sF w d os) = wideGood qv := by kernel_rfl
theorem seen9 (w : World) (d : Nat → Obj) (os : OsState) : clsSeenW qv looseN (sF w d os) = clsGoodW qv looseN := by kernel_rfl
end Mine
end
section
set_option linter.unusedVariables false
set_option maxRecDepth 100000
open PySem PySem.W PyProof.Rows
namespace Mine
theorem body_eq : behindTheImports prog = sts 0 5 ++ (sts 5 1 ++ (sts 6 1 ++ (sts 7 1 ++ (sts 8 8 ++ [])))) := by kernel_rfl
theorem end_run (w : World) (os : OsState) (l : List Obj) (r : Shared) (e : r = shr l 2292 os) : topRun treeTable prog w 11 ann6 2 (shr l 2292 os) (restOf [] env cE ⟨103, 0, 108, 15⟩ bS) = some r := by
  subst e
  kernel_rfl

theorem d_tab : ∃ d : Nat → Obj, tabL = dob tabE :: (List.range 38).map d := by
  refine ⟨fun i => (subsOf 330 tabC ++ [dob (ents2 2217 tabT)]).getD i default, ?_⟩
  have e := as_range (subsOf 330 tabC ++ [dob (ents2 2217 tabT)])
  rw [show (subsOf 330 tabC ++ [dob (ents2 2217 tabT)]).length = 38 by simp [subs_length, tabC, chunks_length]] at e
  rw [← e]
  rfl

theorem piece16 (w : World) (os : OsState) : segRun treeTable prog w 11 ann6 1 220 (shr (l_a8 w.params ++ tabL) 2230 os) (piecesOf (sts 8 8) env cE ⟨29, 0, 29, 13⟩ bS) =
    some (.next, shr (l_a16 w.params ++ (tabL ++ l_new w.params)) 2292 os, cE, ⟨103, 0, 108, 15⟩) := by
  have t := piece_16 w os (fun i => tabL.getD i default)
  have ea := as_range tabL
  rw [tabL_length] at ea
  rw [← ea] at t
  exact t

theorem top_run (w : World) (os : OsState) : ∃ n, n ≤ 16000 ∧ topRun treeTable prog w 11 ann6 n ⟨boot_heap w.params, #[], boot_drawn, boot_toks, os⟩ (topStub prog) = some (shr (l_a16 w.params ++ (tabL ++ l_new w.params)) 2292 os) := by
  have h16 := piece_app (q := ⟨0, 0, 0, 0⟩) (piece16 w os) (end_run w os _ _ rfl)
  have e8 : Ends prog w (222 + 14000) (shr (l_a7 w.params) 279 os) (restOf (sts 7 1 ++ (sts 8 8 ++ [])) env cE ⟨27, 0, 28, 30⟩ bS) (shr (l_a16 w.params ++ (tabL ++ l_new w.params)) 2292 os) := by
    unfold restOf
    rw [stmt7, List.singleton_append, execs_cons_wrap]
    exact goes_stmt8 _ _ _ _ _ _ _ _ _ ⟨222, Nat.le_refl _, h16⟩
  obtain ⟨n8, l8, h8⟩ := e8
  have h7 := piece_app (q := ⟨0, 0, 0, 0⟩) (piece_7 w os) h8
  have h6 := piece_app (q := ⟨0, 0, 0, 0⟩) (piece_6 w os) h7
  have h5 := piece_app (q := ⟨0, 0, 0, 0⟩) (piece_5 w os) h6
  rw [← body_eq] at h5
  have hb := piece_block (q := ⟨0, 0, 0, 0⟩) (piece_start w os) h5
  exact ⟨_, by omega, go_top (piece_pre w os) hb⟩

theorem opening_eq : opening prog = plainProg prog.main.scope.names := by kernel_rfl
theorem fence_eq (s : Shared) : fenceModules? prog s = some s := by kernel_rfl

theorem left : LeftO prog qv looseN xt kH.obs kH.val 16000 := by
  obtain ⟨d, hd⟩ := d_tab
  refine LeftO.of_pieces (H₀ := boot_heap) (H₁ := fun P => ⟨(lF P d).toArray, {}⟩) (gs₀ := #[]) (gs₁ := #[]) (d₀ := boot_drawn) (d₁ := {}) (k₀ := boot_toks) (k₁ := 2292) (m₀ := 11) (ann := ann6) (M := 16000)
    (boot_open opening_eq (by decide) fence_eq) (fun w => by kernel_rfl) (fun w os => ?_) (by decide) fun w => ?_
  · obtain ⟨n, l, h⟩ := top_run w os
    have m := topRun_mono (16000 - n) _ _ _ _ h
    rw [show n + (16000 - n) = 16000 by omega, hd] at m
    exact m
  · funext os
    have l1 := look1 w d os
    have l2 := look2 w d os
    have l3 := look3 w d os
    have l4 := look4 w d os
    have l5 := look5 w d os
    refine Prod.ext ?_ (Prod.ext ?_ l5)
    · exact Bool.and_eq_true_iff.mpr ⟨Bool.and_eq_true_iff.mpr ⟨Bool.and_eq_true_iff.mpr ⟨l1, l2⟩, l3⟩, l4⟩
    · exact Prod.ext (seen1 w d os) (Prod.ext (seen2 w d os) (Prod.ext (seen3 w d os) (Prod.ext (seen4 w d os) (Prod.ext (seen5 w d os) (Prod.ext (seen6 w d os) (Prod.ext (seen7 w d os) (Prod.ext (seen8 w d os) (seen9 w d os))))))))
end Mine
end
section
set_option linter.unusedVariables false
open PySem PySem.W PyProof.Rows
set_option Elab.async false
namespace Mine
abbrev rprog : Program := PySem.Challenge.rw_pe0193_01.row.prog
abbrev looseF : List Str := looseW qv looseN
/-- what a def's call does: whatever frame calls it, with room for r frames and u units of C's stack -/
abbrev Cl (r u : Nat) (w : World) (mean : ExcName → Option Value) (mg mb : Str → Option Value) (f : Addr) (news : List (Addr × Obj)) (pre : Prop) (vs : List Value) (R : Tok → Value) : Prop :=
  ∀ (dp un : Nat) (gd : Option (List Code)) (cn : Str) (cs : Scope) (a : Addr) (ccd : Value) (cl : List (Str × Addr)) (outer : List Env) (A₀ : Around) (base h₀ : Heap) (L : Addr) (m : Str → Option Value) (s : Shared) (Q E : Value → Shared → Prop),
    Below A₀ base outer h₀ → Fr h₀ L s.heap m → (K w.params).In h₀ → News h₀ L s.heap news → Top qv looseF mean mg mb h₀ → cs.kind = .function →
    pre → dp + r < recursionLimit → un + u < cLine → CbRet h₀ L m news s Q R →
      wpAny (model PySem.Challenge.rw_pe0193_01.row.prog w) (ktrTop dp un gd cn cs L a ccd cl outer) (call (.ref f) vs) Q E s
theorem cl_use {r u : Nat} {w : World} {mean : ExcName → Option Value} {mg mb : Str → Option Value} {f : Addr} {news : List (Addr × Obj)} {pre : Prop} {vs : List Value} {R : Tok → Value}
    (C : Cl r u w mean mg mb f news pre vs R) {dp un : Nat} {gd : Option (List Code)} {cn : Str} {cs : Scope} {a : Addr} {ccd : Value} {cl : List (Str × Addr)} {outer : List Env} {A₀ : Around} {base h₀ : Heap} {L : Addr} {m : Str → Option Value} {s : Shared} {Q E : Value → Shared → Prop}
    (B : Below A₀ base outer h₀) (F : Fr h₀ L s.heap m) (X : (K w.params).In h₀) (N : News h₀ L s.heap news) (T : Top qv looseF mean mg mb h₀) (hk : cs.kind = .function) (hp : pre) (hd : dp + r < recursionLimit) (hu : un + u < cLine) (h : CbRet h₀ L m news s Q R) :
    wpAny (model PySem.Challenge.rw_pe0193_01.row.prog w) (ktrTop dp un gd cn cs L a ccd cl outer) (call (.ref f) vs) Q E s := C _ _ _ _ _ _ _ _ _ _ _ _ _ _ _ _ _ B F X N T hk hp hd hu h

def figTab : List Int := [65, 119808, 119860, 119912, 120016, 120172, 120224, 120276, 120328, 120380, 120432]
def figC (f w : Int) : Nat := if f < 10 then (48 + f).toNat else if w = 0 then (87 + f).toNat else (figTab.getD (w - 1).toNat 0 + f - 10).toNat
def figS (f w : Int) : Str := ⟨#[figC f w]⟩
theorem figTab_bound (i : Nat) : 0 ≤ figTab.getD i 0 ∧ figTab.getD i 0 ≤ 120432 := by
  unfold figTab
  rcases i with _ | _ | _ | _ | _ | _ | _ | _ | _ | _ | _ | i <;> simp
set_option maxRecDepth 100000 in
set_option maxHeartbeats 8000000 in
theorem fig_spec (w : World) (mean : ExcName → Option Value) (mg mb : Str → Option Value) (news : List (Addr × Obj)) (fg : Int) (t1 : Tok) (wr : Int) (t2 : Tok) :
    Cl 2 20 w mean mg mb 106 news (0 ≤ fg ∧ fg < 16 ∧ 0 ≤ wr ∧ wr < 12) [.int fg t1, .int wr t2] (fun t => .str (figS fg wr) t) := by

  dsimp only [Cl, CbRet]
  k_fill
  intros
  rename_i hret
  have hA := figTab_bound (wr - 1).toNat
  unfold figTab at hA
  w_on
  refine wpAny_call ?_
  k_dflt cell_enter
  k_steps
  all_goals refine cb_retS hret ?_ (by k_asm) (by first | k_asm | exact cb_drop (by assumption) (by kcj_all))
  all_goals unfold figS figC figTab
  · rw [if_pos (by assumption)]
  · rw [if_neg (by assumption), if_pos (by assumption)]
  · rw [if_neg (by assumption), if_neg (by assumption)]
end Mine
end
section
set_option linter.unusedVariables false
open PySem PySem.W PyProof.Rows
set_option Elab.async false
namespace Mine

def tyP (v sd : Int) : Nat → Str
  | 0 => ⟨#[]⟩
  | k + 1 => figS (v / 16 ^ k % 16) (sd / 12 ^ k % 12) ++ tyP v sd k
def ndig (v : Int) : Nat := if v < 16 then 1 else if v < 256 then 2 else if v < 4096 then 3 else if v < 65536 then 4 else if v < 1048576 then 5 else if v < 16777216 then 6 else if v < 268435456 then 7 else 8
def typedS (v sd : Int) : Str := tyP v sd (ndig v)
theorem figS_len (a b : Int) : (figS a b).length = 1 := rfl
theorem tyP_len (v sd : Int) : ∀ k, (tyP v sd k).length = k
  | 0 => rfl
  | k + 1 => by rw [tyP, Str.length_append, tyP_len, figS_len]; omega
theorem ndig_bound (v : Int) : 1 ≤ ndig v ∧ ndig v ≤ 8 := by unfold ndig; (repeat' split) <;> omega

def TyInv (v sd : Int) (typed : Str) (k value : Int) : Prop := ∃ j : Nat, k = j ∧ value = v / 16 ^ j ∧ typed = tyP v sd j ∧ j ≤ ndig v
theorem ty_start (v sd : Int) : TyInv v sd ⟨#[]⟩ 0 v := ⟨0, rfl, by simp, rfl, by have := ndig_bound v; omega⟩
theorem ndig_hi {v : Int} (h1 : v < 4294967296) : v < 16 ^ ndig v := by
  unfold ndig
  (repeat' split) <;> simp <;> omega
theorem ndig_lo {v : Int} (h0 : 0 ≤ v) {j : Nat} (h : j < ndig v) (hj : j ≠ 0) : (16 : Int) ^ j ≤ v := by
  have e : ∀ n : Nat, j ≤ n → (16 : Int) ^ n ≤ v → (16 : Int) ^ j ≤ v := fun n hn hv => Int.le_trans (by have := Nat.pow_le_pow_right (n := 16) (by omega) hn; exact_mod_cast this) hv
  unfold ndig at h
  split at h
  · omega
  split at h
  · exact e 1 (by omega) (by simp; omega)
  split at h
  · exact e 2 (by omega) (by simp; omega)
  split at h
  · exact e 3 (by omega) (by simp; omega)
  split at h
  · exact e 4 (by omega) (by simp; omega)
  split at h
  · exact e 5 (by omega) (by simp; omega)
  split at h
  · exact e 6 (by omega) (by simp; omega)
  · exact e 7 (by omega) (by simp; omega)
theorem pow16_pos (k : Nat) : (0 : Int) < 16 ^ k := Int.pow_pos (by omega)
theorem ty_end {v sd k value : Int} {typed : Str} (h : TyInv v sd typed k value) (h0 : 0 ≤ v) (hk : k ≠ 0) (hv : ¬ value > 0) : typed = typedS v sd := by
  obtain ⟨j, rfl, rfl, rfl, hj⟩ := h
  suffices j = ndig v by rw [this]; rfl
  apply Classical.byContradiction
  intro hne
  have hlo := ndig_lo h0 (j := j) (by omega) (by omega)
  have : 1 ≤ v / 16 ^ j := (Int.le_ediv_iff_mul_le (pow16_pos j)).mpr (by omega)
  omega
theorem ty_turn {v sd k value : Int} {typed : Str} (h : TyInv v sd typed k value) (h0 : 0 ≤ v) (h1 : v < 4294967296) (hk : k = 0 ∨ value > 0) :
    TyInv v sd (figS (value % 16) (sd / 12 ^ k.toNat % 12) ++ typed) (k + 1) (value / 16) ∧ k ≤ 7 := by
  obtain ⟨j, rfl, rfl, rfl, hj⟩ := h
  have hb := ndig_bound v
  have hlt : j < ndig v := by
    rcases hk with hk | hk
    · omega
    · apply Classical.byContradiction
      intro hne
      have e : j = ndig v := by omega
      have := ndig_hi h1
      rw [← e] at this
      rw [Int.ediv_eq_zero_of_lt h0 this] at hk
      omega
  refine ⟨⟨j + 1, by simp, ?_, by simp [tyP], by omega⟩, by omega⟩
  rw [Int.pow_succ, Int.ediv_ediv_of_nonneg (Int.le_of_lt (pow16_pos j))]
theorem ty_bounds {v sd k value : Int} {typed : Str} (h : TyInv v sd typed k value) (h0 : 0 ≤ v) (h1 : v < 4294967296) : 0 ≤ k ∧ k ≤ 8 ∧ 0 ≤ value ∧ value < 4294967296 ∧ typed.length ≤ 8 := by
  obtain ⟨j, rfl, rfl, rfl, hj⟩ := h
  have hj8 := (ndig_bound v).2
  have hp := pow16_pos j
  refine ⟨by omega, by omega, Int.ediv_nonneg h0 (by omega), ?_, by rw [tyP_len]; omega⟩
  exact Int.lt_of_le_of_lt (Int.ediv_le_self _ h0) h1
theorem pow12_pos (k : Nat) : (12 : Int) ^ k ≠ 0 := by
  have : (12 : Int) ^ k > 0 := Int.pow_pos (by omega)
  omega
def TyW (v sd : Int) (typed : Str) (k value : Int) : Prop := TyInv v sd typed k value ∧ 0 ≤ k ∧ k ≤ 8 ∧ 0 ≤ value ∧ value < 4294967296 ∧ typed.length ≤ 8
theorem tyW_of {v sd k value : Int} {typed : Str} (h : TyInv v sd typed k value) (h0 : 0 ≤ v) (h1 : v < 4294967296) : TyW v sd typed k value := ⟨h, ty_bounds h h0 h1⟩
theorem tyW_start {v sd : Int} (h : 0 ≤ v ∧ v < 4294967296 ∧ 0 ≤ sd ∧ sd < 10000000000000000) : TyW v sd (Str.ofString "") 0 v := tyW_of (by rw [show Str.ofString "" = ⟨#[]⟩ from by decide +kernel]; exact ty_start v sd) h.1 h.2.1
theorem tyW_turn {v sd k value : Int} {typed : Str} (h : 0 ≤ v ∧ v < 4294967296 ∧ 0 ≤ sd ∧ sd < 10000000000000000) (hi : TyInv v sd typed k value) (hk : k = 0 ∨ value > 0) :
    TyW v sd (figS (value.fmod 16) ((sd.fdiv (12 ^ k.toNat)).fmod 12) ++ typed) (k + 1) (value.fdiv 16) := by
  have t := (ty_turn hi h.1 h.2.1 hk).1
  rw [Int.fmod_eq_emod_of_nonneg _ (by omega), Int.fmod_eq_emod_of_nonneg _ (by omega), Int.fdiv_eq_ediv_of_nonneg _ (Int.le_of_lt (Int.pow_pos (by omega))), Int.fdiv_eq_ediv_of_nonneg _ (by omega)]
  exact tyW_of t h.1 h.2.1
theorem py12 {x : Int} {k : Nat} (h : k ≤ 8) : Builtin.divisionGoesByPylong x ((12 : Int) ^ k) = false := by
  refine PyProof.noPylong_small ?_
  rcases k with _ | _ | _ | _ | _ | _ | _ | _ | _ | k
  all_goals first | decide | omega
theorem py27 {x : Int} {k : Nat} (h : k ≤ 8) : Builtin.divisionGoesByPylong x ((27 : Int) ^ k) = false := by
  refine PyProof.noPylong_of_log2 ?_
  rcases k with _ | _ | _ | _ | _ | _ | _ | _ | _ | k
  all_goals first | decide +kernel | omega
theorem pow27_pos (k : Nat) : (27 : Int) ^ k ≠ 0 := by
  have : (27 : Int) ^ k > 0 := Int.pow_pos (by omega)
  omega
end Mine
end
section
set_option linter.unusedVariables false
open PySem PySem.W PyProof.Rows
set_option Elab.async false
namespace Mine
local macro_rules | `(tactic| walk_at "call ref") => `(tactic| (k_here; (with_reducible show wpAny _ _ (call (Value.ref 106) _) _ _ _); (k_dflt (refine cl_use (fig_spec _ _ _ _ _ _ _ _ _) (by k_asm) (by k_asm) (by k_asm) (by k_asm) (by k_asm) (by first | exact rfl | assumption) (by ((try dsimp only); (try law_fm); omega)) (by ktr_room) (by ktr_units) ?_)); intro t9 h9 tk9 F9 N9; (try dsimp only); (try k_fold)))
local macro_rules | `(tactic| walk_at "binaryOp FloorDiv int int") => `(tactic| ((with_reducible show wpAny _ _ (binaryOp _ (Value.int _ _) (Value.int (HPow.hPow (12 : Int) _) _)) _ _ _); (with_reducible refine floordiv_int (pow12_pos _) ?_ (Or.inl (py12 (by omega))))))
local macro_rules | `(tactic| walk_at "binaryOp Add str str") => `(tactic| ((with_reducible show wpAny _ _ (binaryOp Operator.Add (Value.str _ _) (Value.str _ _)) _ _ _); (refine KOpn.add (by simp only [figS_len]; omega) ?_); intro _ _ _))
local macro_rules | `(tactic| walk_at "exec While BoolOp") => `(tactic| k_extra "my while")
local macro_rules | `(tactic| walk_at "exec While BoolOp cons nil") => `(tactic| k_extra "my while")
set_option maxRecDepth 100000 in
set_option maxHeartbeats 8000000 in
theorem typed_spec (w : World) (mean : ExcName → Option Value) (mg mb : Str → Option Value) (news : List (Addr × Obj)) (v : Int) (t1 : Tok) (sd : Int) (t2 : Tok) :
    Cl 4 40 w mean mg mb 113 news (0 ≤ v ∧ v < 4294967296 ∧ 0 ≤ sd ∧ sd < 10000000000000000) [.int v t1, .int sd t2] (fun t => .str (typedS v sd) t) := by

  dsimp only [Cl, CbRet]
  k_fill
  intros
  rename_i hret
  w_on
  k_with_none
  k_with "my while" => k_while (fun _ typed k value => TyInv v sd typed k value ∧ 0 ≤ k ∧ k ≤ 8 ∧ 0 ≤ value ∧ value < 4294967296 ∧ typed.length ≤ 8) (fun _ typed k value => (9 - k).toNat) "typed" "k" "value"
  k_with "state" => first | exact tyW_start (by assumption) | exact tyW_turn (by assumption) (by assumption) (by omega)
  refine wpAny_call ?_
  k_dflt cell_enter
  k_steps
  refine' cb_retS hret ?e1 ?e2 ?e3
  case e2 => k_asm
  case e3 => first | k_asm | exact cb_drop (by assumption) (by kcj_all)
  case e1 => exact ty_end (by assumption) (by omega) (by omega) (by omega)
end Mine
end
section
set_option linter.unusedVariables false
open PySem PySem.W PyProof.Rows
set_option Elab.async false
namespace Mine
/-- a text by its signs' numbers -/
def tx (l : List Nat) : Str := ⟨l.toArray⟩
def bl (n : Nat) : List Nat := List.replicate n 32
theorem tx_append (a b : List Nat) : tx a ++ tx b = tx (a ++ b) := by
  apply Str.ext'
  rw [Str.cps_append]
  simp [tx]
theorem tx_length (a : List Nat) : (tx a).length = a.length := by simp [tx, Str.length]
theorem blank_is : Str.ofString " " = tx [32] := by decide +kernel
theorem tx_inj {a b : List Nat} (h : tx a = tx b) : a = b := by
  have : (tx a).cps.toList = (tx b).cps.toList := by rw [h]
  simpa [tx] using this


theorem item_tx {l : List Nat} {i : Int} (h0 : 0 ≤ i) (h1 : i < l.length) : Txt.item (tx l) i = tx [l.getD i.toNat 0] := by
  unfold Txt.item Txt.charAt
  have hs : seqIndex? i (tx l).length = some i.toNat := by
    rw [tx_length]
    unfold seqIndex?
    simp only
    (repeat' split) <;> first | rfl | omega | (exfalso; simp_all; done) | (exfalso; simp_all; omega)
  rw [hs]
  simp [tx, List.getD_eq_getElem?_getD]

section
variable {a b : Nat} {m : List Nat}
theorem at_left {i : Nat} (h : i < a) : (bl a ++ m ++ bl b).getD i 0 = 32 := by
  unfold bl
  rw [List.getD_eq_getElem?_getD, List.append_assoc, List.getElem?_append_left (by simpa using h)]
  simp [h]
theorem at_mid {i : Nat} (h0 : a ≤ i) (h1 : i < a + m.length) (hm : ∀ c ∈ m, c ≠ 32) : (bl a ++ m ++ bl b).getD i 0 ≠ 32 := by
  unfold bl
  rw [List.getD_eq_getElem?_getD, List.append_assoc, List.getElem?_append_right (by simpa using h0), List.getElem?_append_left (by simp; omega)]
  have : i - (List.replicate a 32).length < m.length := by simp; omega
  rw [List.getElem?_eq_getElem this]
  exact hm _ (List.getElem_mem this)
theorem at_right {i : Nat} (h0 : a + m.length ≤ i) (h1 : i < a + m.length + b) : (bl a ++ m ++ bl b).getD i 0 = 32 := by
  unfold bl
  rw [List.getD_eq_getElem?_getD, List.getElem?_append_right (by simp; omega)]
  rw [List.getElem?_replicate, if_pos (by simp; omega)]
  rfl

theorem blank_true {l : List Nat} {i : Int} (h0 : 0 ≤ i) (h1 : i < l.length) (h : (Txt.item (tx l) i == Str.ofString " ") = true) : l.getD i.toNat 0 = 32 := by
  rw [item_tx h0 h1, blank_is, beq_iff_eq] at h
  have := tx_inj h
  simpa using this
theorem blank_false {l : List Nat} {i : Int} (h0 : 0 ≤ i) (h1 : i < l.length) (h : (Txt.item (tx l) i == Str.ofString " ") = false) : l.getD i.toNat 0 ≠ 32 := by
  rw [item_tx h0 h1, blank_is] at h
  intro e
  rw [e] at h
  simp at h

theorem len_all : (bl a ++ m ++ bl b).length = a + m.length + b := by simp [bl]; omega

def StripOk (x : Str) (a b : Nat) (m : List Nat) (put : Int) : Prop := x = tx (bl a ++ m ++ bl b) ∧ (∀ c ∈ m, c ≠ 32) ∧ 0 < m.length ∧ a + m.length + b ≤ 1000 ∧ 0 ≤ put ∧ put ≤ 1000
def stripL (a b : Nat) (m : List Nat) (put : Nat) : List Nat := bl (a - put) ++ m ++ bl (b - (put - a))

theorem turn1 {x : Str} {put i : Int} (ht : (Txt.item x i == Str.ofString " ") = true) (h : StripOk x a b m put) (h0 : 0 ≤ i) (h1 : i ≤ a) : i < a := by
  obtain ⟨rfl, hm, hp, hl, _⟩ := h
  have e := blank_true h0 (by rw [len_all]; omega) ht
  apply Classical.byContradiction
  intro hn
  exact at_mid (i := i.toNat) (by omega) (by omega) hm e
theorem exit1 {x : Str} {put i : Int} (h1 : i ≤ a) (ht : (Txt.item x i == Str.ofString " ") = false) (h : StripOk x a b m put) (h0 : 0 ≤ i) : i = a := by
  obtain ⟨rfl, hm, hp, hl, _⟩ := h
  have e := blank_false h0 (by rw [len_all]; omega) ht
  apply Classical.byContradiction
  intro hn
  exact e (at_left (i := i.toNat) (by omega))
theorem turn2 {x : Str} {put i : Int} (ht : (Txt.item x i == Str.ofString " ") = true) (h : StripOk x a b m put) (h0 : (a + m.length : Int) - 1 ≤ i) (h1 : i ≤ a + m.length + b - 1) : (a + m.length : Int) ≤ i := by
  obtain ⟨rfl, hm, hp, hl, _⟩ := h
  have e := blank_true (by omega) (by rw [len_all]; omega) ht
  apply Classical.byContradiction
  intro hn
  exact at_mid (i := i.toNat) (by omega) (by omega) hm e
theorem exit2 {x : Str} {put i : Int} (h1 : i ≤ a + m.length + b - 1) (ht : (Txt.item x i == Str.ofString " ") = false) (h : StripOk x a b m put) (h0 : (a + m.length : Int) - 1 ≤ i) : i = (a + m.length : Int) - 1 := by
  obtain ⟨rfl, hm, hp, hl, _⟩ := h
  have e := blank_false (by omega) (by rw [len_all]; omega) ht
  apply Classical.byContradiction
  intro hn
  exact e (at_right (i := i.toNat) (by omega) (by omega))
theorem slice_tx {l : List Nat} {i j : Int} (h0 : 0 ≤ i) (h1 : i ≤ j) (h2 : j ≤ l.length) : Txt.slice (tx l) (some i) (some j) = tx ((l.drop i.toNat).take (j - i).toNat) := by
  have := slice_closesL (x := tx l) h0 h1 (by rw [tx_length]; exact h2)
  rw [beq_iff_eq] at this
  rw [this]
  simp [tx]
theorem strip_end {x : Str} {put lp rp : Int} (h : StripOk x a b m put) (hl : lp = min (a : Int) put) (hr : (a + m.length + b : Int) - 1 - rp = min (b : Int) (put - lp)) :
    Txt.slice x (some lp) (some (rp + 1)) = tx (stripL a b m put.toNat) := by
  obtain ⟨rfl, hm, hp, hlen, hp0, hp1⟩ := h
  rw [slice_tx (by omega) (by omega) (by rw [len_all]; omega)]
  congr 1
  unfold stripL bl
  rw [List.append_assoc, List.drop_append_of_le_length (by simp; omega), List.drop_replicate, ← List.append_assoc]
  have e1 : a - lp.toNat = a - put.toNat := by omega
  rw [e1, List.take_append]
  congr 1
  · rw [List.take_of_length_le (by simp; omega)]
  · rw [List.take_replicate]
    congr 1
    simp
    omega
end
end Mine
end
section
set_option linter.unusedVariables false
open PySem PySem.W PyProof.Rows
set_option Elab.async false
namespace Mine
local macro_rules | `(tactic| walk_at "exec While BoolOp") => `(tactic| k_extra "my while")
local macro_rules | `(tactic| walk_at "exec While BoolOp cons nil") => `(tactic| k_extra "my while")
set_option maxRecDepth 100000 in
set_option maxHeartbeats 8000000 in
theorem strip_spec (w : World) (mean : ExcName → Option Value) (mg mb : Str → Option Value) (news : List (Addr × Obj)) (x : Str) (t1 : Tok) (put : Int) (t2 : Tok) (a b : Nat) (m : List Nat) :
    Cl 4 40 w mean mg mb 28 news (StripOk x a b m put) [.str x t1, .int put t2] (fun t => .str (tx (stripL a b m put.toNat)) t) := by
  dsimp only [Cl, CbRet]
  k_fill
  intros
  rename_i hok hd hu hret
  have hlen : x.length = a + m.length + b := by rw [hok.1, tx_length, len_all]
  have hb1 := hok.2.2.1
  have hb2 := hok.2.2.2.1
  have hb3 := hok.2.2.2.2.1
  have hb4 := hok.2.2.2.2.2
  w_on
  k_with_none
  k_with "my while" => k_while (fun _ lpos amount => 0 ≤ lpos ∧ lpos ≤ (a : Int) ∧ amount = put - lpos ∧ 0 ≤ amount) (fun _ lpos amount => amount.toNat) "lpos" "amount"
  k_with "my while" => k_while_given ["lpos"] (fun lpos _ rpos amount => (a + m.length : Int) - 1 ≤ rpos ∧ rpos ≤ a + m.length + b - 1 ∧ amount = put - lpos - (a + m.length + b - 1 - rpos) ∧ 0 ≤ amount) (fun lpos _ rpos amount => amount.toNat) "rpos" "amount"
  k_with "state" => first | omega | ((have hq := turn1 (by assumption) hok (by omega) (by omega)); omega) | ((have hq := turn2 (by assumption) hok (by omega) (by omega)); omega)
  refine wpAny_call ?_
  k_dflt cell_enter
  k_steps
  all_goals (refine' cb_retS hret ?_ ?_ ?_)
  all_goals first | k_asm | exact cb_drop (by assumption) (by kcj_all) | skip
  all_goals (refine strip_end hok ?_ ?_)
  all_goals first | omega | ((have hq := exit1 (by assumption) (by assumption) hok (by omega)); omega) | ((have hq := exit2 (by assumption) (by assumption) hok (by omega)); omega) | ((have hq := exit1 (by assumption) (by assumption) hok (by omega)); (have hr := exit2 (by assumption) (by assumption) hok (by omega)); omega)
end Mine
end
section
set_option linter.unusedVariables false
open PySem PySem.W PyProof.Rows PyProof.V
set_option Elab.async false
namespace Mine
/-! the set and the table as the heap bears them -/
def setEs : Obj → List (Int × Value)
  | ⟨_, _, .set es _ _, _⟩ => es.toList
  | _ => []
def intOf : Value → Int
  | .int k _ => k
  | _ => 0
def b1L : List Int := [65024, 65025, 65026, 65027, 65028, 65029, 6150, 65030, 65031, 65032, 65033, 6155, 6156, 6157, 8203, 8204, 8205, 65034, 65035, 65036, 65037, 65038, 65039, 173, 847, 8288, 65279]
theorem set_all (P : Params) : ((setEs (o36a6 P)).all fun e => (match e.2 with | .int k _ => e.1 == hashInt k | _ => false)) = true := by kernel_rfl
theorem set_ints (P : Params) : (setEs (o36a6 P)).map (fun e => intOf e.2) = b1L := by kernel_rfl
theorem k36 (P : Params) : (K P).lookup 36 = some (o36a6 P) := by kernel_rfl
theorem k47 (P : Params) : (K P).lookup 47 = some (dob tabE) := by kernel_rfl

theorem set36 {w : World} {prog : Program} {h : Heap} (X : (K w.params).In h) : h.SetOf (intKind prog w) 36 (fun k => b1L.contains k) 27 := by
  refine ⟨o36a6 w.params, (setEs (o36a6 w.params)).toArray, _, _, X 36 _ (k36 _), ⟨rfl, rfl, rfl⟩, rfl, ?_, ?_, (by show 27 < scanBound; decide +kernel), rfl, rfl⟩
  · intro e he
    have := List.all_eq_true.mp (set_all w.params) e (by simpa using he)
    obtain ⟨hs, v⟩ := e
    cases v <;> simp at this
    rename_i k t
    exact ⟨⟨k, by show (k == k) = true; simp, this⟩, rfl⟩
  · intro k
    rw [List.contains_iff_mem, ← set_ints w.params]
    constructor
    · intro hk
      obtain ⟨e, he, rfl⟩ := List.mem_map.mp hk
      have := List.all_eq_true.mp (set_all w.params) e he
      obtain ⟨hs, v⟩ := e
      cases v <;> simp at this
      rename_i k t
      exact ⟨_, by simpa using he, by show (k == k) = true; simp⟩
    · rintro ⟨e, he, hk⟩
      refine List.mem_map.mpr ⟨e, by simpa using he, ?_⟩
      obtain ⟨hs, v⟩ := e
      cases v with
      | int i t => exact beq_iff_eq.mp (show (i == k) = true from hk)
      | _ => exact absurd (show false = true from hk) (by simp)

theorem hashInt_small {k : Int} (h0 : 0 ≤ k) (h1 : k < 1000000) : hashInt k = k := by
  have e : rawHash k = k := hashB_small h0 h1
  unfold hashInt
  rw [e, if_neg]
  simp; omega
theorem ents_keys : ∀ (l : List (Int × Str)) (n : Nat), Small l → ∀ e ∈ ents n l, ∃ k, Value.isInt k e.key = true ∧ e.hash = hashInt k
  | [], _, _, e, h => by simp [ents] at h
  | x :: r, n, hs, e, h => by
    simp only [ents, List.mem_cons] at h
    rcases h with rfl | h
    · have hx := hs x (List.mem_cons_self ..)
      exact ⟨x.1, by show (x.1 == x.1) = true; simp, (hashInt_small hx.1 hx.2).symm⟩
    · exact ents_keys r _ (fun y hy => hs y (List.mem_cons_of_mem _ hy)) e h
theorem ents2_keys : ∀ (l : List (Int × Str)) (n : Nat), Small l → ∀ e ∈ ents2 n l, ∃ k, Value.isInt k e.key = true ∧ e.hash = hashInt k
  | [], _, _, e, h => by simp [ents2] at h
  | x :: r, n, hs, e, h => by
    simp only [ents2, List.mem_cons] at h
    rcases h with rfl | h
    · have hx := hs x (List.mem_cons_self ..)
      exact ⟨x.1, by show (x.1 == x.1) = true; simp, (hashInt_small hx.1 hx.2).symm⟩
    · exact ents2_keys r _ (fun y hy => hs y (List.mem_cons_of_mem _ hy)) e h
theorem pairs_ents {prog : Program} {w : World} : ∀ (l : List (Int × Str)) (n : Nat), ∃ kvs, PySem.Pairs (intKind prog w) (ents n l) kvs ∧ kvs.map (·.1) = l.map (·.1) ∧ FlatPairs PyData.int kvs (l.map fun x => (PyData.int x.1, PyData.str x.2))
  | [], _ => ⟨[], .nil, rfl, .nil⟩
  | x :: r, n => by
    obtain ⟨kvs, a, b, c⟩ := pairs_ents r (n + 3)
    exact ⟨(x.1, .str x.2 (n + 1)) :: kvs, .cons (by show (x.1 == x.1) = true; simp) rfl a, by simp [b], .cons (Flat.str _ _) c⟩
theorem pairs_ents2 {prog : Program} {w : World} : ∀ (l : List (Int × Str)) (n : Nat), ∃ kvs, PySem.Pairs (intKind prog w) (ents2 n l) kvs ∧ kvs.map (·.1) = l.map (·.1) ∧ FlatPairs PyData.int kvs (l.map fun x => (PyData.int x.1, PyData.str x.2))
  | [], _ => ⟨[], .nil, rfl, .nil⟩
  | x :: r, n => by
    obtain ⟨kvs, a, b, c⟩ := pairs_ents2 r (n + 2)
    exact ⟨(x.1, .str x.2 (n + 1)) :: kvs, .cons (by show (x.1 == x.1) = true; simp) rfl a, by simp [b], .cons (Flat.str _ _) c⟩
theorem pairs_app {prog : Program} {w : World} {a b : List DictEntry} {x y : List (Int × Value)} (h : PySem.Pairs (intKind prog w) a x) (h' : PySem.Pairs (intKind prog w) b y) : PySem.Pairs (intKind prog w) (a ++ b) (x ++ y) := by
  induction h with
  | nil => exact h'
  | cons h1 h2 _ ih => exact .cons h1 h2 ih
theorem flat_app {x y : List (Int × Value)} {D D' : List (PyData × PyData)} (h : FlatPairs PyData.int x D) (h' : FlatPairs PyData.int y D') : FlatPairs PyData.int (x ++ y) (D ++ D') := by
  induction h with
  | nil => exact h'
  | cons h1 _ ih => exact .cons h1 ih
def tabD : List (PyData × PyData) := pairs.map fun x => (PyData.int x.1, PyData.str x.2)
theorem sm0 : Small tab0 := small_of fun x hx => List.mem_of_mem_take hx
theorem smC : Small tabC.flatten := small_of fun x hx => by
  unfold tabC at hx
  rw [chunks_flatten] at hx
  exact List.mem_of_mem_drop (List.mem_of_mem_take hx)
theorem smT : Small tabT := small_of fun x hx => List.mem_of_mem_drop hx

theorem tab47 {w : World} {prog : Program} {h : Heap} (X : (K w.params).In h) : IntTab prog w h 47 tabD := by
  obtain ⟨k1, a1, b1, c1⟩ := pairs_ents (prog := prog) (w := w) tab0 279
  obtain ⟨k2, a2, b2, c2⟩ := pairs_ents (prog := prog) (w := w) tabC.flatten 330
  obtain ⟨k3, a3, b3, c3⟩ := pairs_ents2 (prog := prog) (w := w) tabT 2217
  refine ⟨rfl, k1 ++ k2 ++ k3, ⟨dob tabE, tabE.toArray, _, X 47 _ (k47 _), ⟨rfl, rfl, rfl⟩, rfl, ?_, ?_, ?_⟩, ?_⟩
  · intro e he
    have he : e ∈ tabE := by simpa using he
    unfold tabE at he
    rw [List.mem_append, List.mem_append] at he
    rcases he with (he | he) | he
    · exact ents_keys _ _ sm0 e he
    · exact ents_keys _ _ smC e he
    · exact ents2_keys _ _ smT e he
  · show PySem.Pairs _ tabE _
    exact pairs_app (pairs_app a1 a2) a3
  · rw [List.map_append, List.map_append, b1, b2, b3, List.append_assoc, ← List.map_append, ← List.map_append, tab_eq]
    exact (rising_pair pairs pairs_rising).imp (fun h => by omega)
  · have := flat_app (flat_app c1 c2) c3
    rw [← List.map_append, ← List.map_append, List.append_assoc tab0, tab_eq] at this
    exact this

def b3F (i : Int) : Option Str := (pairs.find? fun x => x.1 == i).map (·.2)
theorem lookup_b3 (i : Int) : Spec.lookup (.int i) tabD = (b3F i).map PyData.str := by
  unfold tabD b3F
  induction pairs with
  | nil => rfl
  | cons x r ih =>
    rw [List.map_cons, Spec.lookup, PyProof.V.same_int, List.find?_cons]
    by_cases h : x.1 = i
    · simp [h]
    · have : (x.1 == i) = false := by simpa using h
      simp only [h, this, decide_false]
      exact ih
theorem get47 {prog : Program} {w : World} {A : Around} {E : Value → Shared → Prop} {s : Shared} {i : Int} {t : Tok} {Q : Value → Shared → Prop} (X : (K w.params).In s.heap)
    (h1 : ∀ x u, b3F i = some x → Q (.str x u) { s with toks := s.toks + 1 }) (h2 : b3F i = none → Q .none { s with toks := s.toks + 1 }) :
    wpAny (model prog w) A (call (.builtin "dict.get") [.ref 47, .int i t]) Q E s := by
  refine call_get1_intTab (tab47 X) fun v hv => ?_
  rw [lookup_b3] at hv
  cases e : b3F i with
  | none =>
    rw [e] at hv
    obtain rfl := Flat.none_inv hv
    exact h2 e
  | some x =>
    rw [e] at hv
    obtain ⟨u, rfl⟩ := Flat.str_inv hv
    exact h1 x u e

/-! the three looks -/
local macro_rules | `(tactic| walk_at "getMethod ref") => `(tactic| (k_here; (with_reducible show wpAny _ _ (getMethod (Value.ref 47) _ _) _ _ _); k_dflt (refine getMethod_intTab_get (tab47 (by k_in)) ?_)))
local macro_rules | `(tactic| walk_at "call builtin:dict.get") => `(tactic| (k_here; k_dflt (show wpAny _ _ (call (Value.builtin "dict.get") [Value.ref 47, Value.int _ _]) _ _ _); k_dflt (refine get47 (by k_in) ?_ ?_); (all_goals intros)))
local macro_rules | `(tactic| walk_at "compareOp In int ref") => `(tactic| (k_here; (with_reducible show wpAny _ _ (compareOp _ _ (Value.ref 36)) _ _ _); k_dflt (refine wpAny_inSet_of (knd := intKind _ _) (by exact beq_self_eq_true _) rfl (set36 (by k_in)) ?_)))
local macro_rules | `(tactic| walk_at "call builtin:str.lower") => `(tactic| (k_here; k_dflt (show wpAny _ _ (call (Value.builtin "str.lower") [Value.str _ _]) _ _ _); (refine SCL.lower (by kopn_len) ?_); intro _))
set_option maxRecDepth 100000 in
set_option maxHeartbeats 8000000 in
theorem c11_spec (w : World) (mean : ExcName → Option Value) (mg mb : Str → Option Value) (news : List (Addr × Obj)) (c : Nat) (t1 : Tok) :
    Cl 2 20 w mean mg mb 99 news True [.str ⟨#[c]⟩ t1] (fun _ => .bool ((⟨#[c]⟩ : Str) == Str.ofString " ")) := by
  dsimp only [Cl, CbRet]
  k_fill
  intros
  rename_i hret
  w_on
  refine wpAny_call ?_
  k_dflt cell_enter
  k_steps
  refine' cb_retB hret ?e1 ?e2 ?e3
  case e2 => k_asm
  case e3 => first | k_asm | exact cb_drop (by assumption) (by kcj_all)
  case e1 => rfl
set_option maxRecDepth 100000 in
set_option maxHeartbeats 8000000 in
theorem b1_spec (w : World) (mean : ExcName → Option Value) (mg mb : Str → Option Value) (news : List (Addr × Obj)) (c : Nat) (t1 : Tok) :
    Cl 2 20 w mean mg mb 46 news True [.str ⟨#[c]⟩ t1] (fun _ => .bool (b1L.contains (c : Int))) := by
  dsimp only [Cl, CbRet]
  k_fill
  intros
  rename_i hret
  w_on
  refine wpAny_call ?_
  k_dflt cell_enter
  k_steps
  refine' cb_retB hret ?e1 ?e2 ?e3
  case e2 => k_asm
  case e3 => first | k_asm | exact cb_drop (by assumption) (by kcj_all)
  case e1 => rfl
def b3S (c : Nat) : Str := match b3F c with | some x => x | none => Txt.lower ⟨#[c]⟩
set_option maxRecDepth 100000 in
set_option maxHeartbeats 8000000 in
theorem b3_spec (w : World) (mean : ExcName → Option Value) (mg mb : Str → Option Value) (news : List (Addr × Obj)) (c : Nat) (t1 : Tok) :
    Cl 2 20 w mean mg mb 92 news True [.str ⟨#[c]⟩ t1] (fun t => .str (b3S c) t) := by
  dsimp only [Cl, CbRet]
  k_fill
  intros
  rename_i hret
  w_on
  refine wpAny_call ?_
  k_dflt cell_enter
  k_steps
  all_goals (refine' cb_retS hret ?_ ?_ ?_)
  all_goals first | k_asm | exact cb_drop (by assumption) (by kcj_all) | skip
  · unfold b3S; rw [show b3F (c : Int) = some _ from by assumption]
  · unfold b3S; rw [show b3F (c : Int) = none from by assumption]
end Mine
end
section
set_option linter.unusedVariables false
open PySem PySem.W PyProof.Rows
set_option Elab.async false
namespace Mine
abbrev No : Value → Shared → Prop := fun _ _ => False
theorem noE {M : Model} {A : Around} {α : Type} {t : Sem α} {Q : α → Shared → Prop} {E : Value → Shared → Prop} {s : Shared} (h : wpAny M A t Q No s) : wpAny M A t Q E s := wpAny_mono h (fun _ _ x => x) fun _ _ x => x.elim

section
variable {prog : Program} {w : World} {A : Around} {R : GenEnd} {Y : Protocol} {n : Nat} {s₀ : Shared} {c : Code} {fs : List Frame} {s : Shared} {env : Env}
  {K : Flow → Sem Fin} {H : Value → Sem Fin} {gd : Bool → Bool} {lv : List Value → List Value}

theorem seg_stmt {st : Stmt} {rest : List Stmt} (h : wpAny (model prog w) (A.over c fs) (exec st env) (fun f s' => f = .next ∧ Seg (model prog w) A R Y n s₀ c ((execs rest env).wrap K H gd lv) fs s') No s) :
    Seg (model prog w) A R Y n s₀ c ((execs (st :: rest) env).wrap K H gd lv) fs s := by
  refine seg_execs_cons (seg_wrap (wpAny_mono h (fun f s' q => ?_) fun _ _ x => x.elim))
  obtain ⟨rfl, q⟩ := q
  exact q
theorem seg_stmt_ret {st : Stmt} {rest : List Stmt} {v : Value} (h : wpAny (model prog w) (A.over c fs) (exec st env) (fun f s' => f = .ret v ∧ Seg (model prog w) A R Y n s₀ c (K (.ret v)) fs s') No s) :
    Seg (model prog w) A R Y n s₀ c ((execs (st :: rest) env).wrap K H gd lv) fs s := by
  refine seg_execs_cons (seg_wrap (wpAny_mono h (fun f s' q => ?_) fun _ _ x => x.elim))
  obtain ⟨rfl, q⟩ := q
  exact q

theorem seg_If {test : Expr} {body orelse : List Stmt} {pos : Pos} {rest : List Stmt}
    (h : wpAny (model prog w) (A.over c fs) (isTrue test env (eval test env)) (fun b s' => b = true ∧ Seg (model prog w) A R Y n s₀ c ((execs body env).wrap (fun f => match f with | .next => (execs rest env).wrap K H gd lv | f => K f) H gd lv) fs s') No s) :
    Seg (model prog w) A R Y n s₀ c ((execs (.If test body orelse pos :: rest) env).wrap K H gd lv) fs s := by
  refine seg_execs_cons ?_
  rw [exec_If]
  refine seg_bind_wrap (wpAny_standAt (seg_bind_wrap (wpAny_mono h (fun b s' q => ?_) fun _ _ x => x.elim)))
  obtain ⟨rfl, q⟩ := q
  rw [if_pos rfl]
  exact q

theorem seg_For {x : Str} {px pos : Pos} {iter : Expr} {body rest : List Stmt}
    (h : wpAny (model prog w) (A.over c fs) (eval iter env) (fun xv s₁ => wpAny (model prog w) (A.over c fs) (pyIter xv) (fun it s₂ => ∀ (kk : Result → Sem Fin) (p : Pos), (∀ f, kk (.ok f) = (match f with | .next => (execs rest env).wrap K H gd lv | f => K f)) →
      Seg (model prog w) A R Y n s₀ (.forLoop (.Name x px) it body [] env) ((model prog w).den (.forLoop (.Name x px) it body [] env)) (.ret kk none (gd false) (lv []) c p [] :: fs) s₂) No s₁) No s)
    (hs : ∀ x, foldedSetIterable iter env x = pure x := by intro _; rfl) :
    Seg (model prog w) A R Y n s₀ c ((execs (.For (.Name x px) iter body [] pos :: rest) env).wrap K H gd lv) fs s := by
  refine seg_execs_cons ?_
  rw [exec_For]
  refine seg_bind_wrap (wpAny_standAt (seg_bind_wrap (wpAny_mono h (fun xv s₁ q => ?_) fun _ _ x => x.elim)))
  rw [hs]
  refine seg_bind_wrap (wpAny_pure (seg_bind_wrap (wpAny_standAt (seg_bind_wrap (wpAny_holding (wpAny_mono q (fun it s₂ q => ?_) fun _ _ x => x.elim))))))
  exact seg_call fun p => q _ p fun f => by cases f <;> rfl

theorem seg_forLoop {x : Str} {px : Pos} {it : Value} {body : List Stmt}
    (h : wpAny (model prog w) (A.over (.forLoop (.Name x px) it body [] env) fs) (pyNext it) (fun r s₁ => match r with
      | none => Seg (model prog w) A R Y n s₀ (.forLoop (.Name x px) it body [] env) (.pure (.again (.block [] env))) fs s₁
      | some v => wpAny (model prog w) (A.over (.forLoop (.Name x px) it body [] env) fs) (assign (.Name x px) env v) (fun _ s₂ =>
          ∀ (H' : Value → Sem Fin), Seg (model prog w) A R Y n s₀ (.forLoop (.Name x px) it body [] env) ((execs body env).wrap (fun f => match f with
            | .next | .cont => .pure (.again (.forLoop (.Name x px) it body [] env))
            | .brk => .pure (.done .next)
            | .ret v => .pure (.done (.ret v))) H' id id) fs s₂) No s₁) No s) :
    Seg (model prog w) A R Y n s₀ (.forLoop (.Name x px) it body [] env) ((model prog w).den (.forLoop (.Name x px) it body [] env)) fs s := by
  show Seg _ A R Y n s₀ _ ((forTurn (.Name x px) it body [] env).onRaise (fun x => do noteFrame x env; theTreesLotGoes x)) fs s
  unfold forTurn
  rw [Sem.onRaise_eq_wrap]
  refine seg_bind_wrap (wpAny_standAt (seg_bind_wrap (wpAny_onRaise (wpAny_mono h (fun r s₁ q => ?_) fun _ _ x => x.elim))))
  cases r with
  | none => exact q
  | some v =>
    show Seg _ A R Y n s₀ _ (Sem.wrap _ _ _ _ (letOwnedTupleGo (.Name x px) it v >>= _)) fs s₁
    refine seg_bind_wrap (wpAny_pure (seg_bind_wrap (wpAny_mono q (fun _ s₂ q => ?_) fun _ _ x => x.elim)))
    rw [Sem.bind_eq_wrap', Sem.wrap_wrap]
    have q' := q (fun e => ((do noteFrame e env; theTreesLotGoes e : Sem Unit).bind fun _ => (.raise e : Sem Fin)))
    refine cast ?_ q'
    congr 1
    refine Sem.wrap_congr _ _ _ (fun f => ?_) fun e => ?_
    · cases f <;> rfl
    · rfl
end
end Mine
end
section
set_option linter.unusedVariables false
open PySem PySem.W PyProof.Rows
set_option Elab.async false
namespace Mine
/-- the generator's names -/
def mG (li iv : Option Value) (Z : Addr) : Str → Option Value := fun y => if y = Str.ofString "interval" then iv else if y = Str.ofString "last_interval" then li else if y = Str.ofString "grouping" then some (.ref Z) else none
theorem mG_last (v : Value) (li iv : Option Value) (Z : Addr) : (fun y => if y = Str.ofString "last_interval" then some v else mG li iv Z y) = mG (some v) iv Z := by
  funext y
  unfold mG
  by_cases h1 : y = Str.ofString "last_interval"
  · subst h1
    rw [if_pos rfl, if_neg (by decide +kernel), if_pos rfl]
  · rw [if_neg h1, if_neg h1]
    by_cases h2 : y = Str.ofString "interval"
    · simp [h2]
    · simp [h1, h2]
theorem mG_int (v : Value) (li iv : Option Value) (Z : Addr) : (fun y => if y = Str.ofString "interval" then some v else mG li iv Z y) = mG li (some v) Z := by
  funext y
  unfold mG
  by_cases h2 : y = Str.ofString "interval"
  · simp [h2]
  · simp [h2]
abbrev gEnv (Lg : Addr) : Env := envOf (Str.ofString "_grouping_intervals") (fnScope (stmt 2)) Lg 21 (.ref 20)
def gSt (i : Nat) : Stmt := (fnBody (stmt 2)).getD i (.Pass default)
def forBody : Stmt → List Stmt
  | .For _ _ b _ _ => b
  | _ => []
def ifBody : Stmt → List Stmt
  | .If _ b _ _ => b
  | _ => []
def ifTest : Stmt → Expr
  | .If t _ _ _ => t
  | _ => .Constant .none 0 default
def gB (i : Nat) : Stmt := (forBody (gSt 1)).getD i (.Pass default)
def gI (i : Nat) : Stmt := (ifBody (gB 1)).getD i (.Pass default)
section
variable {w : World} {mean : ExcName → Option Value} {mg mb : Str → Option Value} {A A₀ : Around} {base h₀ : Heap} {outer : List Env} {Lg Z : Addr} {s : Shared} {ex : List (Addr × Obj)} {li iv : Option Value}
set_option maxRecDepth 100000 in
set_option maxHeartbeats 8000000 in
theorem g_assign0 {Q : Flow → Shared → Prop}  (F : Fr h₀ Lg s.heap (mG li iv Z)) (X : (K w.params).In h₀) (N : News h₀ Lg s.heap ex) (T : Top qv looseF mean mg mb h₀) 
    (h : ∀ h' tk', Fr h₀ Lg h' (mG (some .none) iv Z) → News h₀ Lg h' ex → Q .next { s with heap := h', toks := tk' }) :
    wpAny (model PySem.Challenge.rw_pe0193_01.row.prog w) A (exec (gSt 0) (gEnv Lg)) Q No s := by
  k_fill
  w_on
  k_with_none
  show wpAny _ _ (exec (Stmt.Assign _ _ _) _) _ _ _
  k_steps
  (rename Fr _ _ _ _ => F9)
  rw [mG_last] at F9
  exact h _ _ F9 (by assumption)
set_option maxRecDepth 100000 in
set_option maxHeartbeats 8000000 in
theorem g_if1 {Q : Flow → Shared → Prop} {i : Int} {t : Tok} (F : Fr h₀ Lg s.heap (mG li (some (.int i t)) Z)) (X : (K w.params).In h₀) (N : News h₀ Lg s.heap ex) (T : Top qv looseF mean mg mb h₀) (hi : i ≠ 127)
    (h : ∀ h' tk', Fr h₀ Lg h' (mG li (some (.int i t)) Z) → News h₀ Lg h' ex → Q .next { s with heap := h', toks := tk' }) :
    wpAny (model PySem.Challenge.rw_pe0193_01.row.prog w) A (exec (gB 0) (gEnv Lg)) Q No s := by
  k_fill
  w_on
  k_with_none
  show wpAny _ _ (exec (Stmt.If _ _ _ _) _) _ _ _
  k_steps
  all_goals first | exact absurd (by assumption) hi | exact absurd hi (by assumption) | exact h s.heap _ (by assumption) (by assumption) | exact h _ _ (by assumption) (by assumption)
set_option maxRecDepth 100000 in
set_option maxHeartbeats 8000000 in
theorem g_if1r {Q : Flow → Shared → Prop} {i : Int} {t : Tok} (F : Fr h₀ Lg s.heap (mG li (some (.int i t)) Z)) (X : (K w.params).In h₀) (N : News h₀ Lg s.heap ex) (T : Top qv looseF mean mg mb h₀) (hi : i = 127)
    (h : ∀ h' tk', Fr h₀ Lg h' (mG li (some (.int i t)) Z) → News h₀ Lg h' ex → Q (.ret .none) { s with heap := h', toks := tk' }) :
    wpAny (model PySem.Challenge.rw_pe0193_01.row.prog w) A (exec (gB 0) (gEnv Lg)) Q No s := by
  k_fill
  w_on
  k_with_none
  show wpAny _ _ (exec (Stmt.If _ _ _ _) _) _ _ _
  k_steps
  all_goals first | exact absurd (by assumption) hi | exact absurd hi (by assumption) | exact h s.heap _ (by assumption) (by assumption) | exact h _ _ (by assumption) (by assumption)
set_option maxRecDepth 100000 in
set_option maxHeartbeats 8000000 in
theorem g_if2 {Q : Flow → Shared → Prop} {i : Int} {t : Tok} (F : Fr h₀ Lg s.heap (mG li (some (.int i t)) Z)) (X : (K w.params).In h₀) (N : News h₀ Lg s.heap ex) (T : Top qv looseF mean mg mb h₀) (hi : i ≠ 0)
    (h : ∀ h' tk', Fr h₀ Lg h' (mG li (some (.int i t)) Z) → News h₀ Lg h' ex → Q .next { s with heap := h', toks := tk' }) :
    wpAny (model PySem.Challenge.rw_pe0193_01.row.prog w) A (exec (gB 1) (gEnv Lg)) Q No s := by
  k_fill
  w_on
  k_with_none
  show wpAny _ _ (exec (Stmt.If _ _ _ _) _) _ _ _
  k_steps
  all_goals first | exact absurd (by assumption) hi | exact absurd hi (by assumption) | exact h s.heap _ (by assumption) (by assumption) | exact h _ _ (by assumption) (by assumption)
set_option maxRecDepth 100000 in
set_option maxHeartbeats 8000000 in
theorem g_if2t {Q : Bool → Shared → Prop} {i : Int} {t : Tok} (F : Fr h₀ Lg s.heap (mG li (some (.int i t)) Z)) (X : (K w.params).In h₀) (N : News h₀ Lg s.heap ex) (T : Top qv looseF mean mg mb h₀) (hi : i = 0)
    (h : ∀ h' tk', Fr h₀ Lg h' (mG li (some (.int i t)) Z) → News h₀ Lg h' ex → Q true { s with heap := h', toks := tk' }) :
    wpAny (model PySem.Challenge.rw_pe0193_01.row.prog w) A (isTrue (ifTest (gB 1)) (gEnv Lg) (eval (ifTest (gB 1)) (gEnv Lg))) Q No s := by
  k_fill
  w_on
  k_with_none
  show wpAny _ _ (isTrue (Expr.Compare _ _ _ _) _ (eval (Expr.Compare _ _ _ _) _)) _ _ _
  k_steps
  rw [show (i == 0) = true from by rw [hi]; rfl]
  exact h _ _ (by assumption) (by assumption)
set_option maxRecDepth 100000 in
set_option maxHeartbeats 8000000 in
theorem g_if3 {Q : Flow → Shared → Prop} {j : Int} {u : Tok} (F : Fr h₀ Lg s.heap (mG (some (.int j u)) iv Z)) (X : (K w.params).In h₀) (N : News h₀ Lg s.heap ex) (T : Top qv looseF mean mg mb h₀) 
    (h : ∀ h' tk', Fr h₀ Lg h' (mG (some (.int j u)) iv Z) → News h₀ Lg h' ex → Q .next { s with heap := h', toks := tk' }) :
    wpAny (model PySem.Challenge.rw_pe0193_01.row.prog w) A (exec (gI 0) (gEnv Lg)) Q No s := by
  k_fill
  w_on
  k_with_none
  show wpAny _ _ (exec (Stmt.If _ _ _ _) _) _ _ _
  k_steps
  all_goals first | exact h s.heap _ (by assumption) (by assumption) | exact h _ _ (by assumption) (by assumption)
set_option maxRecDepth 100000 in
set_option maxHeartbeats 8000000 in
theorem g_asgn {Q : Flow → Shared → Prop} {i : Int} {t : Tok} (F : Fr h₀ Lg s.heap (mG li (some (.int i t)) Z)) (X : (K w.params).In h₀) (N : News h₀ Lg s.heap ex) (T : Top qv looseF mean mg mb h₀) 
    (h : ∀ h' tk', Fr h₀ Lg h' (mG (some (.int i t)) (some (.int i t)) Z) → News h₀ Lg h' ex → Q .next { s with heap := h', toks := tk' }) :
    wpAny (model PySem.Challenge.rw_pe0193_01.row.prog w) A (exec (gB 3) (gEnv Lg)) Q No s := by
  k_fill
  w_on
  k_with_none
  show wpAny _ _ (exec (Stmt.Assign _ _ _) _) _ _ _
  k_steps
  (rename Fr _ _ _ _ => F9)
  rw [mG_last] at F9
  exact h _ _ F9 (by assumption)
set_option maxRecDepth 100000 in
set_option maxHeartbeats 8000000 in
theorem g_bind {Q : Unit → Shared → Prop} {v : Value} {px : Pos} (F : Fr h₀ Lg s.heap (mG li iv Z)) (X : (K w.params).In h₀) (N : News h₀ Lg s.heap ex) (T : Top qv looseF mean mg mb h₀) 
    (h : ∀ h' tk', Fr h₀ Lg h' (mG li (some v) Z) → News h₀ Lg h' ex → Q () { s with heap := h', toks := tk' }) :
    wpAny (model PySem.Challenge.rw_pe0193_01.row.prog w) A (assign (.Name (Str.ofString "interval") px) (gEnv Lg) v) Q No s := by
  k_fill
  w_on
  k_with_none
  show wpAny _ _ (assign (Expr.Name _ _) _ _) _ _ _
  k_steps
  (rename Fr _ _ _ _ => F9)
  rw [mG_int] at F9
  exact h _ _ F9 (by assumption)
set_option maxRecDepth 100000 in
set_option maxHeartbeats 8000000 in
theorem g_evI {Q : Value → Shared → Prop} {v : Value} {p : Pos} (F : Fr h₀ Lg s.heap (mG li (some v) Z)) (X : (K w.params).In h₀) (h : Q v s) :
    wpAny (model PySem.Challenge.rw_pe0193_01.row.prog w) A (eval (.Name (Str.ofString "interval") p) (gEnv Lg)) Q No s := by
  k_fill
  w_on
  k_with_none
  k_steps
  exact h
set_option maxRecDepth 100000 in
set_option maxHeartbeats 8000000 in
theorem g_evL {Q : Value → Shared → Prop} {v : Value} {p : Pos} (F : Fr h₀ Lg s.heap (mG (some v) iv Z)) (X : (K w.params).In h₀) (h : Q v s) :
    wpAny (model PySem.Challenge.rw_pe0193_01.row.prog w) A (eval (.Name (Str.ofString "last_interval") p) (gEnv Lg)) Q No s := by
  k_fill
  w_on
  k_with_none
  k_steps
  exact h
set_option maxRecDepth 100000 in
set_option maxHeartbeats 8000000 in
theorem g_evG {Q : Value → Shared → Prop} {p : Pos} (F : Fr h₀ Lg s.heap (mG li iv Z)) (X : (K w.params).In h₀) (h : Q (.ref Z) s) :
    wpAny (model PySem.Challenge.rw_pe0193_01.row.prog w) A (eval (.Name (Str.ofString "grouping") p) (gEnv Lg)) Q No s := by
  k_fill
  w_on
  k_with_none
  k_steps
  exact h
end
end Mine
end
section
set_option linter.unusedVariables false
set_option maxRecDepth 100000
open PySem PySem.W PyProof.Rows
set_option Elab.async false
namespace Mine
abbrev RP : Program := PySem.Challenge.rw_pe0193_01.row.prog
def forTgt : Stmt → Pos
  | .For (.Name _ p) _ _ _ _ => p
  | _ => default
def forIt : Stmt → Expr
  | .For _ i _ _ _ => i
  | _ => .Constant .none 0 default
def gFor : Pos := forTgt (gSt 1)
theorem gbody : fnBody (stmt 2) = [gSt 0, .For (.Name (Str.ofString "interval") gFor) (forIt (gSt 1)) (forBody (gSt 1)) [] (gSt 1).pos] := by kernel_rfl
theorem gfor : forBody (gSt 1) = [gB 0, gB 1, gB 2, gB 3] := by kernel_rfl
def yE : Stmt → Expr
  | .Expr (.Yield (some e) _) _ => e
  | _ => .Constant .none 0 default
def yP : Stmt → Pos
  | .Expr (.Yield _ p) _ => p
  | _ => default
theorem gyield : gB 2 = .Expr (.Yield (some (.Name (Str.ofString "interval") (yE (gB 2)).pos)) (yP (gB 2))) (gB 2).pos := by kernel_rfl
theorem gif2 : gB 1 = .If (ifTest (gB 1)) [gI 0, gI 1] [] (gB 1).pos := by kernel_rfl
def whB : Stmt → Stmt
  | .While _ (s :: _) _ _ => s
  | s => s
theorem gwhile : gI 1 = .While (.Constant (.bool true) 0 ((match gI 1 with | .While t _ _ _ => t | _ => .Constant .none 0 default).pos)) [whB (gI 1)] [] (gI 1).pos := by kernel_rfl
theorem gwyield : whB (gI 1) = .Expr (.Yield (some (.Name (Str.ofString "last_interval") (yE (whB (gI 1))).pos)) (yP (whB (gI 1)))) (whB (gI 1)).pos := by kernel_rfl
theorem giter : forIt (gSt 1) = .Name (Str.ofString "grouping") (forIt (gSt 1)).pos := by kernel_rfl

/-- a list's iterator at its i-th item -/
def GI (o : Obj) (Z : Addr) (i : Nat) : Prop := o.cls = .type "list_iterator" ∧ o.data = .fields #[.ref Z, .int i 0]
abbrev gL (Lg it : Addr) : Code := .forLoop (.Name (Str.ofString "interval") gFor) (.ref it) (forBody (gSt 1)) [] (gEnv Lg)
abbrev gKL (Lg it : Addr) : Flow → Sem Fin := fun f => match f with
  | .next | .cont => .pure (.again (gL Lg it))
  | .brk => .pure (.done .next)
  | .ret v => .pure (.done (.ret v))

section
variable {w : World} {mean : ExcName → Option Value} {mg mb : Str → Option Value} {A : Around} {h₀ : Heap} {Lg Z it : Addr} {s s₀ : Shared} {ex : List (Addr × Obj)} {li iv : Option Value} {zo : Obj} {items : Array Value} {R : GenEnd} {Y : Protocol} {n i : Nat} {fs : List Frame}

theorem news_iter {o : Obj} {h : Heap} (hg : GI o Z i) (N : News h₀ Lg h ((it, o) :: ex)) : h.IsListIter it Z i := ⟨o, (N _ (List.mem_cons_self ..)).1, hg⟩
theorem news_list {h : Heap} (hz : zo.cls = .type "list" ∧ ∃ k, zo.data = .seq items k) (hm : (Z, zo) ∈ ex) (N : News h₀ Lg h ex) : h.IsList Z items := ⟨zo, (N _ hm).1, hz.1, hz.2⟩
theorem step_iter {o : Obj} {h h' : Heap} {m : Str → Option Value} (F : Fr h₀ Lg h m) (N : News h₀ Lg h ((it, o) :: ex)) (hne : ∀ p ∈ ex, p.1 ≠ it) (hs : Heap.SameBut it h h') (hi : h'.IsListIter it Z i) :
    Fr h₀ Lg h' m ∧ ∃ o', GI o' Z i ∧ News h₀ Lg h' ((it, o') :: ex) := by
  obtain ⟨o', ho', hc, hd⟩ := hi
  obtain ⟨h1, h2, h3⟩ := N _ (List.mem_cons_self ..)
  refine ⟨⟨F.ns.sameBut hs (fun e => h2 e.symm), fun b ob hb => ?_, F.above⟩, o', ⟨hc, hd⟩, fun p hp => ?_⟩
  · by_cases e : b = it
    · subst e
      rw [show h₀.get? b = none from h3] at hb
      cases hb
    · exact (hs.2 b e).trans (F.keep b ob hb)
  · rcases List.mem_cons.mp hp with rfl | hp
    · exact ⟨ho', h2, h3⟩
    · obtain ⟨a, b, c⟩ := N p (List.mem_cons_of_mem _ hp)
      exact ⟨(hs.2 _ (hne p hp)).trans a, b, c⟩

theorem g_turn {x : Int} {t : Tok} {o : Obj} (F : Fr h₀ Lg s.heap (mG li iv Z)) (X : (K w.params).In h₀) (T : Top qv looseF mean mg mb h₀) (hg : GI o Z i) (N : News h₀ Lg s.heap ((it, o) :: ex)) (hm : (Z, zo) ∈ ex) (hz : zo.cls = .type "list" ∧ ∃ k, zo.data = .seq items k) (hne : ∀ p ∈ ex, p.1 ≠ it)
    (hx : items[i]? = some (.int x t)) (h1 : x ≠ 127) (h2 : x ≠ 0) (hfs : splitAtGen fs = none) (hfg : fs.any Frame.guarded = false)
    (h : ∀ (h' : Heap) (tk' : Nat) (o' : Obj) (H' : Value → Sem Fin), Fr h₀ Lg h' (mG li (some (.int x t)) Z) → GI o' Z (i + 1) → News h₀ Lg h' ((it, o') :: ex) →
      ∀ kap : Resume → Shared → Prop, (∀ s'', Seg (model RP w) A R Y n s'' (gL Lg it) ((execs [gB 3] (gEnv Lg)).wrap (gKL Lg it) H' id id) fs s'' → kap (.send .none) s'') → Y n s₀ (.int x t) { s with heap := h', toks := tk' } kap) :
    Seg (model RP w) A R Y (n + 1) s₀ (gL Lg it) ((model RP w).den (gL Lg it)) fs s := by
  refine seg_forLoop ?_
  refine wpAny_pyNext_list_item (news_iter hg N) (news_list hz (List.mem_cons_of_mem _ hm) N) hx fun h9 hi9 hs9 => ?_
  obtain ⟨F1, o', hg', N1⟩ := step_iter F N hne hs9 hi9
  dsimp only
  refine g_bind (s := { s with heap := h9 }) F1 X N1 T fun h2' tk2 F2 N2 => ?_
  intro H'
  rw [show execs (forBody (gSt 1)) (gEnv Lg) = execs [gB 0, gB 1, gB 2, gB 3] (gEnv Lg) from by rw [gfor]]
  refine seg_stmt (g_if1 (s := { s with heap := h2', toks := tk2 }) F2 X N2 T h1 fun h3 tk3 F3 N3 => ⟨rfl, ?_⟩)
  refine seg_stmt (g_if2 (s := { s with heap := h3, toks := tk3 }) F3 X N3 T h2 fun h4 tk4 F4 N4 => ⟨rfl, ?_⟩)
  rw [gyield]
  refine seg_execs_cons (seg_Expr_Yield hfs rfl hfg ?_)
  refine noE (g_evI (s := { s with heap := h4, toks := tk4 }) F4 X ?_)
  intro kap hkap
  refine h h4 tk4 o' H' F4 hg' N4 kap fun s'' hs'' => ?_
  refine hkap .none s'' ?_
  exact hs''

theorem g_resume {x : Int} {t : Tok} {H' : Value → Sem Fin} (F : Fr h₀ Lg s.heap (mG li (some (.int x t)) Z)) (X : (K w.params).In h₀) (T : Top qv looseF mean mg mb h₀) (N : News h₀ Lg s.heap ex)
    (h : ∀ (h' : Heap) (tk' : Nat), Fr h₀ Lg h' (mG (some (.int x t)) (some (.int x t)) Z) → News h₀ Lg h' ex → Seg (model RP w) A R Y n s₀ (gL Lg it) ((model RP w).den (gL Lg it)) fs { s with heap := h', toks := tk' }) :
    Seg (model RP w) A R Y n s₀ (gL Lg it) ((execs [gB 3] (gEnv Lg)).wrap (gKL Lg it) H' id id) fs s := by
  refine seg_stmt (g_asgn F X N T fun h3 tk3 F3 N3 => ⟨rfl, ?_⟩)
  refine seg_execs_nil ?_
  exact seg_again rfl (h h3 tk3 F3 N3)

/-- the row is at its end -/
theorem g_end {o : Obj} {kk : Result → Sem Fin} {c : Code} {p : Pos} {gd : Bool} {l : List Value} (hf : fs = []) (hh : A.handled = none) (F : Fr h₀ Lg s.heap (mG li iv Z)) (hg : GI o Z i) (N : News h₀ Lg s.heap ((it, o) :: ex)) (hm : (Z, zo) ∈ ex) (hz : zo.cls = .type "list" ∧ ∃ k, zo.data = .seq items k)
    (hx : items[i]? = none) (h : ∀ h', Heap.ExtBut it s.heap h' → Seg (model RP w) A R Y n s₀ c (kk (.ok .next)) fs { s with heap := h' }) :
    Seg (model RP w) A R Y n s₀ (gL Lg it) ((model RP w).den (gL Lg it)) (.ret kk none gd l c p [] :: fs) s := by
  refine seg_forLoop ?_
  refine wpAny_pyNext_list_end (by subst hf; exact hh) (news_iter hg N) (news_list hz (List.mem_cons_of_mem _ hm) N) hx fun h9 hs9 => ?_
  dsimp only
  refine seg_again rfl ?_
  exact seg_leaf (.ok .next) (h h9 hs9)
/-- a 127 ends it -/
theorem g_stop {x : Int} {t : Tok} {o : Obj} {kk : Result → Sem Fin} {c : Code} {p : Pos} {gd : Bool} {l : List Value} (F : Fr h₀ Lg s.heap (mG li iv Z)) (X : (K w.params).In h₀) (T : Top qv looseF mean mg mb h₀) (hg : GI o Z i) (N : News h₀ Lg s.heap ((it, o) :: ex)) (hm : (Z, zo) ∈ ex) (hz : zo.cls = .type "list" ∧ ∃ k, zo.data = .seq items k) (hne : ∀ p ∈ ex, p.1 ≠ it)
    (hx : items[i]? = some (.int x t)) (h1 : x = 127)
    (h : ∀ (h' : Heap) (tk' : Nat) (o' : Obj), Fr h₀ Lg h' (mG li (some (.int x t)) Z) → News h₀ Lg h' ((it, o') :: ex) → Seg (model RP w) A R Y n s₀ c (kk (.ok (.ret .none))) fs { s with heap := h', toks := tk' }) :
    Seg (model RP w) A R Y n s₀ (gL Lg it) ((model RP w).den (gL Lg it)) (.ret kk none gd l c p [] :: fs) s := by
  refine seg_forLoop ?_
  refine wpAny_pyNext_list_item (news_iter hg N) (news_list hz (List.mem_cons_of_mem _ hm) N) hx fun h9 hi9 hs9 => ?_
  obtain ⟨F1, o', hg', N1⟩ := step_iter F N hne hs9 hi9
  dsimp only
  refine g_bind (s := { s with heap := h9 }) F1 X N1 T fun h2' tk2 F2 N2 => ?_
  intro H'
  rw [show execs (forBody (gSt 1)) (gEnv Lg) = execs [gB 0, gB 1, gB 2, gB 3] (gEnv Lg) from by rw [gfor]]
  refine seg_stmt_ret (v := .none) (g_if1r (s := { s with heap := h2', toks := tk2 }) F2 X N2 T h1 fun h3 tk3 F3 N3 => ⟨rfl, ?_⟩)
  exact seg_leaf (.ok (.ret .none)) (h h3 tk3 o' F3 N3)
end
end Mine
end
section
set_option linter.unusedVariables false
set_option maxRecDepth 100000
open PySem PySem.W PyProof.Rows
set_option Elab.async false
namespace Mine
def isIt (o : Obj) : Prop := o.cls = .type "list_iterator" ∧ ∃ vs, o.data = .fields vs
/-- all objects but the generator's own stand as they stood -/
def Kept (Lg : Addr) (h h' : Heap) : Prop := ∀ b o, h.get? b = some o → b ≠ Lg → (¬ isIt o ∨ b < Lg) → h'.get? b = some o
theorem Kept.trans {Lg : Addr} {a b c : Heap} (x : Kept Lg a b) (y : Kept Lg b c) : Kept Lg a c := fun d o e h1 h2 => y d o (x d o e h1 h2) h1 h2

/-- every object that is neither the generator's frame nor its iterator nor of the base -/
def exOf (h h₀ : Heap) (Lg it : Addr) : List (Addr × Obj) := (List.range h.objs.size).filterMap fun b => if b = Lg ∨ b = it ∨ (h₀.get? b).isSome then none else (h.get? b).map fun o => (b, o)
theorem mem_exOf {h h₀ : Heap} {Lg it : Addr} {p : Addr × Obj} : p ∈ exOf h h₀ Lg it ↔ h.get? p.1 = some p.2 ∧ p.1 ≠ Lg ∧ p.1 ≠ it ∧ h₀.get? p.1 = none := by
  unfold exOf
  rw [List.mem_filterMap]
  constructor
  · rintro ⟨b, hb, e⟩
    split at e
    · cases e
    · rename_i hn
      obtain ⟨o, ho, rfl⟩ := Option.map_eq_some_iff.mp e
      refine ⟨ho, fun q => hn (.inl q), fun q => hn (.inr (.inl q)), ?_⟩
      cases q : h₀.get? b with
      | none => rfl
      | some _ => exact absurd (.inr (.inr (by rw [q]; rfl))) hn
  · rintro ⟨h1, h2, h3, h4⟩
    refine ⟨p.1, List.mem_range.mpr (Heap.lt_size h1), ?_⟩
    rw [if_neg, h1]
    · rfl
    · rintro (q | q | q)
      · exact h2 q
      · exact h3 q
      · rw [h4] at q; cases q

section
variable {w : World} {mean : ExcName → Option Value} {mg mb : Str → Option Value} {A : Around} {h₀ : Heap} {Lg Z it : Addr} {s s₀ : Shared} {li iv : Option Value} {zo : Obj} {items : Array Value} {n i : Nat}

structure GH (h₀ : Heap) (Lg Z it : Addr) (zo : Obj) (h : Heap) (m : Str → Option Value) (i : Nat) : Prop where
  F : Fr h₀ Lg h m
  I : ∃ o, GI o Z i ∧ h.get? it = some o
  z : h.get? Z = some zo
  a : it ≠ Lg ∧ it ≠ Z ∧ h₀.get? it = none ∧ Z ≠ Lg ∧ h₀.get? Z = none
  lt : Lg < it

theorem GH.news {h : Heap} {m : Str → Option Value} (g : GH h₀ Lg Z it zo h m i) : ∃ o, GI o Z i ∧ News h₀ Lg h ((it, o) :: exOf h h₀ Lg it) ∧ (Z, zo) ∈ exOf h h₀ Lg it ∧ ∀ p ∈ exOf h h₀ Lg it, p.1 ≠ it := by
  obtain ⟨o, hg, ho⟩ := g.I
  obtain ⟨a1, a2, a3, a4, a5⟩ := g.a
  refine ⟨o, hg, fun p hp => ?_, mem_exOf.mpr ⟨g.z, a4, fun e => a2 e.symm, a5⟩, fun p hp => (mem_exOf.mp hp).2.2.1⟩
  rcases List.mem_cons.mp hp with rfl | hp
  · exact ⟨ho, a1, a3⟩
  · obtain ⟨b1, b2, b3, b4⟩ := mem_exOf.mp hp
    exact ⟨b1, b2, b4⟩
theorem kept_of {h h' : Heap} {m m' : Str → Option Value} {o' : Obj} (g : GH h₀ Lg Z it zo h m i) (F : Fr h₀ Lg h' m') (N : News h₀ Lg h' ((it, o') :: exOf h h₀ Lg it)) : Kept Lg h h' := by
  intro b o hb h1 h2
  by_cases e : b = it
  · subst e
    obtain ⟨o2, hg, ho⟩ := g.I
    rw [ho] at hb
    cases hb
    rcases h2 with h2 | h2
    · exact absurd ⟨hg.1, _, hg.2⟩ h2
    · exact absurd g.lt (Nat.not_lt.mpr (Nat.le_of_lt h2))
  · cases q : h₀.get? b with
    | some o2 =>
      have := g.F.keep b o2 q
      rw [hb] at this
      cases this
      exact F.keep b o q
    | none => exact (N (b, o) (List.mem_cons_of_mem _ (mem_exOf.mpr ⟨hb, h1, e, q⟩))).1
theorem GH.next {h h' : Heap} {m m' : Str → Option Value} {o' : Obj} {j : Nat} (g : GH h₀ Lg Z it zo h m i) (F : Fr h₀ Lg h' m') (hg : GI o' Z j) (N : News h₀ Lg h' ((it, o') :: exOf h h₀ Lg it)) : GH h₀ Lg Z it zo h' m' j := by
  obtain ⟨o, _, _, hz, _⟩ := g.news
  exact ⟨F, ⟨o', hg, (N _ (List.mem_cons_self ..)).1⟩, (N _ (List.mem_cons_of_mem _ hz)).1, g.a, g.lt⟩
theorem ns_same {h h' : Heap} {L : Addr} {m : Str → Option Value} {o : Obj} (x : h.Ns L m) (h1 : h.get? L = some o) (h2 : h'.get? L = some o) : h'.Ns L m := by
  obtain ⟨o', es, ep, e, r⟩ := x
  rw [h1] at e
  cases e
  exact ⟨o, es, ep, h2, r⟩
theorem GH.wake {h h' : Heap} {m : Str → Option Value} {oL oI : Obj} (g : GH h₀ Lg Z it zo h m i) (l1 : h.get? Lg = some oL) (i1 : h.get? it = some oI) (l2 : h'.get? Lg = some oL) (i2 : h'.get? it = some oI) (z2 : h'.get? Z = some zo) (k : ∀ b o, h₀.get? b = some o → h'.get? b = some o) : GH h₀ Lg Z it zo h' m i := by
  obtain ⟨o, hg, ho⟩ := g.I
  rw [i1] at ho
  cases ho
  exact ⟨⟨ns_same g.F.ns l1 l2, k, g.F.above⟩, ⟨oI, hg, i2⟩, z2, g.a, g.lt⟩

/-- what the generator tells, and what must stand for it to go on -/
def YG (h₀ : Heap) (Lg Z : Addr) (zo : Obj) (vv : Nat → Option Int) : Protocol := fun n s₀ v s₁ kap =>
  (∃ x tk, vv (n + 1) = some x ∧ v = .int x tk) ∧ ∃ h' tk', s₁ = { s₀ with heap := h', toks := tk' } ∧ Kept Lg s₀.heap h' ∧ (∀ b o, h₀.get? b = some o → h'.get? b = some o) ∧
    (n ≠ 0 → ∃ it oL oI, Lg < it ∧ it ≠ Z ∧ h₀.get? it = none ∧ h'.get? Lg = some oL ∧ h'.get? it = some oI ∧ isIt oI ∧
      ∀ s'' : Shared, s''.heap.get? Lg = some oL → s''.heap.get? it = some oI → s''.heap.get? Z = some zo → (∀ b o, h₀.get? b = some o → s''.heap.get? b = some o) → kap (.send .none) s'')
def RG (h₀ : Heap) (Lg : Addr) (vv : Nat → Option Int) : GenEnd := fun n s₀ r s₁ => r = .ok (.ret .none) ∧ (vv n = none ∧ ∃ h' tk', s₁ = { s₀ with heap := h', toks := tk' } ∧ Kept Lg s₀.heap h' ∧ ∀ b o, h₀.get? b = some o → h'.get? b = some o)

theorem yg_of {vv : Nat → Option Int} {x : Int} {tk : Tok} {m' : Str → Option Value} {h' : Heap} {tk' : Nat} {o' : Obj} {j : Nat} {kap : Resume → Shared → Prop} {i : Nat} {m : Str → Option Value}
    (g : GH h₀ Lg Z it zo s₀.heap m i) (hv : vv (n + 1) = some x) (F : Fr h₀ Lg h' m') (hg : GI o' Z j) (N : News h₀ Lg h' ((it, o') :: exOf s₀.heap h₀ Lg it))
    (hk : n ≠ 0 → ∀ s'', GH h₀ Lg Z it zo s''.heap m' j → kap (.send .none) s'') : YG h₀ Lg Z zo vv n s₀ (.int x tk) { s₀ with heap := h', toks := tk' } kap := by
  refine ⟨⟨x, tk, hv, rfl⟩, h', tk', rfl, kept_of g F N, F.keep, fun hn => ?_⟩
  have g' := g.next F hg N
  obtain ⟨oL, es, ep, eL, _⟩ := id F.ns
  obtain ⟨oI, hgi, eI⟩ := g'.I
  exact ⟨it, oL, oI, g.lt, g.a.2.1, g.a.2.2.1, eL, eI, ⟨hgi.1, _, hgi.2⟩, fun s'' l i z k => hk hn s'' (g'.wake eL eI l i z k)⟩
end
end Mine
end
section
set_option linter.unusedVariables false
set_option maxRecDepth 100000
open PySem PySem.W PyProof.Rows
set_option Elab.async false
namespace Mine
section
variable {w : World} {mean : ExcName → Option Value} {mg mb : Str → Option Value} {A : Around} {h₀ : Heap} {Lg Z it : Addr} {s s₀ : Shared} {li iv : Option Value} {zo : Obj} {items : Array Value} {n i : Nat} {vv : Nat → Option Int} {kk : Result → Sem Fin} {c : Code} {p : Pos} {fs : List Frame}

set_option maxHeartbeats 8000000 in
theorem g_true {Q : Bool → Shared → Prop} {k : Nat} {pos : Pos} (h : Q true s) : wpAny (model RP w) A (isTrue (.Constant (.bool true) k pos) (gEnv Lg) (eval (.Constant (.bool true) k pos) (gEnv Lg))) Q No s := by
  walk1
  walk1
  walk1
  exact h

abbrev wT : Expr := match gI 1 with | .While t _ _ _ => t | _ => .Constant .none 0 default
abbrev gW (Lg : Addr) : Code := .whileLoop (.Constant (.bool true) 0 wT.pos) [whB (gI 1)] [] (gEnv Lg)

/-- «while True: yield last_interval» -/
theorem g_while {j : Int} {u : Tok} (X : (K w.params).In h₀) (T : Top qv looseF mean mg mb h₀) (N' : Nat) (hv : ∀ k, k ≤ N' → vv (k + 1) = some j) (hfs : splitAtGen fs = none) (hfg : fs.any Frame.guarded = false) :
    ∀ (n : Nat), n ≤ N' → ∀ (s₀ s : Shared) (tk : Nat) (h : Heap) (o : Obj) (i₀ : Nat) (m₀ : Str → Option Value), s = { s₀ with heap := h, toks := tk } → GH h₀ Lg Z it zo s₀.heap m₀ i₀ → Fr h₀ Lg h (mG (some (.int j u)) iv Z) → GI o Z i → News h₀ Lg h ((it, o) :: exOf s₀.heap h₀ Lg it) →
      Seg (model RP w) A (RG h₀ Lg vv) (YG h₀ Lg Z zo vv) (n + 1) s₀ (gW Lg) ((model RP w).den (gW Lg)) fs s := by
  intro n
  induction n with
  | zero =>
    intro hn' s₀ s tk h o i₀ m₀ es g F hg N
    subst es
    refine seg_whileLoop (noE (g_true ?_))
    rw [if_pos rfl, gwyield]
    refine seg_execs_cons (seg_Expr_Yield hfs rfl hfg (noE (g_evL (s := { s₀ with heap := h, toks := tk }) F X ?_)))
    intro kap hkap
    exact yg_of g (hv 0 (by omega)) F hg N fun hn => absurd rfl hn
  | succ n ih =>
    intro hn' s₀ s tk h o i₀ m₀ es g F hg N
    subst es
    refine seg_whileLoop (noE (g_true ?_))
    rw [if_pos rfl, gwyield]
    refine seg_execs_cons (seg_Expr_Yield hfs rfl hfg (noE (g_evL (s := { s₀ with heap := h, toks := tk }) F X ?_)))
    intro kap hkap
    refine yg_of g (hv _ hn') F hg N fun hn s'' g'' => ?_
    refine hkap .none s'' ?_
    obtain ⟨o2, hg2, N2, _, _⟩ := g''.news
    have := ih (by omega) s'' s'' s''.toks s''.heap o2 _ _ rfl g'' g''.F hg2 N2
    refine seg_execs_nil (seg_again rfl ?_)
    rw [← gwyield]
    exact this

/-- the third wake, of a row that ends there -/
theorem g_third2 {x : Int} {t : Tok} {H' : Value → Sem Fin} (hh : A.handled = none) (X : (K w.params).In h₀) (T : Top qv looseF mean mg mb h₀) (g : GH h₀ Lg Z it zo s₀.heap (mG li (some (.int x t)) Z) i) (hz : zo.cls = .type "list" ∧ ∃ k, zo.data = .seq items k)
    (hx : items[i]? = none) (hv : vv n = none) (hk : kk (.ok .next) = .pure (.done (.ret .none))) :
    Seg (model RP w) A (RG h₀ Lg vv) (YG h₀ Lg Z zo vv) n s₀ (gL Lg it) ((execs [gB 3] (gEnv Lg)).wrap (gKL Lg it) H' id id) [.ret kk none false [] c p []] s₀ := by
  obtain ⟨o, hg, N, hm, hne⟩ := g.news
  refine g_resume g.F X T N fun h' tk' F' N' => ?_
  refine g_end (fs := []) (s := { s₀ with heap := h', toks := tk' }) rfl hh F' hg N' hm hz hx fun h2 e2 => ?_
  rw [hk]
  refine seg_end (.ok (.ret .none)) ⟨rfl, hv, h2, tk', rfl, ?_, ?_⟩
  · intro b ob hb h1 h3
    have hk1 := kept_of g F' N' b ob hb h1 h3
    refine e2 b ob (fun e => ?_) hk1
    subst e
    rw [(N' _ (List.mem_cons_self ..)).1] at hk1
    cases hk1
    rcases h3 with h3 | h3
    · exact h3 ⟨hg.1, _, hg.2⟩
    · exact absurd g.lt (Nat.not_lt.mpr (Nat.le_of_lt h3))
  · intro b ob hb
    refine e2 b ob (fun e => ?_) (F'.keep b ob hb)
    subst e
    rw [g.a.2.2.1] at hb
    cases hb
theorem g_third1 {x : Int} {t : Tok} {y : Int} {t2 : Tok} {H' : Value → Sem Fin} (X : (K w.params).In h₀) (T : Top qv looseF mean mg mb h₀) (g : GH h₀ Lg Z it zo s₀.heap (mG li (some (.int x t)) Z) i) (hz : zo.cls = .type "list" ∧ ∃ k, zo.data = .seq items k)
    (hx : items[i]? = some (.int y t2)) (hy : y = 127) (hv : vv n = none) (hk : kk (.ok (.ret .none)) = .pure (.done (.ret .none))) :
    Seg (model RP w) A (RG h₀ Lg vv) (YG h₀ Lg Z zo vv) n s₀ (gL Lg it) ((execs [gB 3] (gEnv Lg)).wrap (gKL Lg it) H' id id) [.ret kk none false [] c p []] s₀ := by
  obtain ⟨o, hg, N, hm, hne⟩ := g.news
  refine g_resume g.F X T N fun h' tk' F' N' => ?_
  refine g_stop (s := { s₀ with heap := h', toks := tk' }) F' X T hg N' hm hz hne hx hy fun h2 tk2 o2 F2 N2 => ?_
  rw [hk]
  exact seg_end (.ok (.ret .none)) ⟨rfl, hv, h2, tk2, rfl, kept_of g F2 N2, F2.keep⟩
theorem g_third0 {x : Int} {t : Tok} {y : Int} {t2 : Tok} {H' : Value → Sem Fin} (X : (K w.params).In h₀) (T : Top qv looseF mean mg mb h₀) (g : GH h₀ Lg Z it zo s₀.heap (mG li (some (.int x t)) Z) i) (hz : zo.cls = .type "list" ∧ ∃ k, zo.data = .seq items k)
    (hx : items[i]? = some (.int y t2)) (hy : y = 0) (hv : ∀ k, k ≤ n → vv (k + 1) = some x) (hfs : splitAtGen fs = none) (hfg : fs.any Frame.guarded = false) :
    Seg (model RP w) A (RG h₀ Lg vv) (YG h₀ Lg Z zo vv) (n + 1) s₀ (gL Lg it) ((execs [gB 3] (gEnv Lg)).wrap (gKL Lg it) H' id id) fs s₀ := by
  obtain ⟨o, hg, N, hm, hne⟩ := g.news
  refine g_resume g.F X T N fun h' tk' F' N' => ?_
  refine seg_forLoop ?_
  refine wpAny_pyNext_list_item (s := { s₀ with heap := h', toks := tk' }) (news_iter hg N') (news_list hz (List.mem_cons_of_mem _ hm) N') hx fun h9 hi9 hs9 => ?_
  obtain ⟨F1, o', hg', N1⟩ := step_iter F' N' hne hs9 hi9
  dsimp only
  refine g_bind (s := { s₀ with heap := h9, toks := tk' }) F1 X N1 T fun h2' tk2 F2 N2 => ?_
  intro H2
  rw [show execs (forBody (gSt 1)) (gEnv Lg) = execs [gB 0, gB 1, gB 2, gB 3] (gEnv Lg) from by rw [gfor]]
  refine seg_stmt (g_if1 (s := { s₀ with heap := h2', toks := tk2 }) F2 X N2 T (by omega) fun h3 tk3 F3 N3 => ⟨rfl, ?_⟩)
  rw [show execs [gB 1, gB 2, gB 3] (gEnv Lg) = execs [.If (ifTest (gB 1)) [gI 0, gI 1] [] (gB 1).pos, gB 2, gB 3] (gEnv Lg) from by rw [← gif2]]
  refine seg_If (g_if2t (s := { s₀ with heap := h3, toks := tk3 }) F3 X N3 T hy fun h4 tk4 F4 N4 => ⟨rfl, ?_⟩)
  refine seg_stmt (g_if3 (s := { s₀ with heap := h4, toks := tk4 }) F4 X N4 T fun h5 tk5 F5 N5 => ⟨rfl, ?_⟩)
  refine seg_execs_cons ?_
  rw [gwhile]
  refine seg_While fun p => ?_
  exact g_while X T n hv (by simp [splitAtGen, hfs]) (by simp [Frame.guarded, hfg]) n (Nat.le_refl _) s₀ _ tk5 h5 o' _ _ rfl g F5 hg' N5
end
end Mine
end
section
set_option linter.unusedVariables false
set_option maxRecDepth 100000
open PySem PySem.W PyProof.Rows
set_option Elab.async false
namespace Mine
section
variable {w : World} {mean : ExcName → Option Value} {mg mb : Str → Option Value} {A : Around} {h₀ : Heap} {Lg Z it : Addr} {s s₀ : Shared} {li iv : Option Value} {zo : Obj} {items : Array Value} {n i : Nat} {vv : Nat → Option Int} {kk : Result → Sem Fin} {c : Code} {p : Pos} {fs : List Frame}

/-- the sizes told: the first, the second; then the second for ever, or none -/
def vvG (e0 : Bool) (f sc : Int) : Nat → Option Int := fun n => if n = 20 then some f else if n = 19 then some sc else if e0 then some sc else none
/-- the row: two sizes, and behind them a nought and more, a 127 and more, or nothing -/
def Row (e0 : Bool) (f sc : Int) (items : Array Value) : Prop := ∃ t1 t2, items[0]? = some (.int f t1) ∧ items[1]? = some (.int sc t2) ∧ f ≠ 127 ∧ f ≠ 0 ∧ sc ≠ 127 ∧ sc ≠ 0 ∧
  (if e0 then ∃ t3, items[2]? = some (.int 0 t3) else items[2]? = none ∨ ∃ t3, items[2]? = some (.int 127 t3))

theorem g_second {e0 : Bool} {f sc : Int} {H' : Value → Sem Fin} (hh : A.handled = none) (X : (K w.params).In h₀) (T : Top qv looseF mean mg mb h₀) (hz : zo.cls = .type "list" ∧ ∃ k, zo.data = .seq items k) (hr : Row e0 f sc items) {t1 : Tok}
    (hk1 : kk (.ok .next) = .pure (.done (.ret .none))) (hk2 : kk (.ok (.ret .none)) = .pure (.done (.ret .none))) (g : GH h₀ Lg Z it zo s₀.heap (mG li (some (.int f t1)) Z) 1) :
    Seg (model RP w) A (RG h₀ Lg (vvG e0 f sc)) (YG h₀ Lg Z zo (vvG e0 f sc)) 19 s₀ (gL Lg it) ((execs [gB 3] (gEnv Lg)).wrap (gKL Lg it) H' id id) [.ret kk none false [] c p []] s₀ := by
  obtain ⟨_, t2, _, r2, _, _, r3, r4, r5⟩ := hr
  obtain ⟨o, hg, N, hm, hne⟩ := g.news
  refine g_resume g.F X T N fun h' tk' F' N' => ?_
  refine g_turn (s := { s₀ with heap := h', toks := tk' }) F' X T hg N' hm hz hne r2 r3 r4 rfl rfl ?_
  intro h2 tk2 o2 H2 F2 hg2 N2 kap hkap
  refine yg_of g rfl F2 hg2 N2 fun hn s'' g'' => ?_
  refine hkap s'' ?_
  cases e0 with
  | true =>
    obtain ⟨t3, r5⟩ := r5
    exact g_third0 (n := 17) X T g'' hz r5 rfl (fun k hk => by unfold vvG; rw [if_neg (by omega), if_neg (by omega)]; rfl) rfl rfl
  | false =>
    rcases r5 with r5 | ⟨t3, r5⟩
    · exact g_third2 hh X T g'' hz r5 rfl hk1
    · exact g_third1 X T g'' hz r5 rfl rfl hk2

theorem g_first {e0 : Bool} {f sc : Int} (hh : A.handled = none) (X : (K w.params).In h₀) (T : Top qv looseF mean mg mb h₀) (hz : zo.cls = .type "list" ∧ ∃ k, zo.data = .seq items k) (hr : Row e0 f sc items)
    (F : Fr h₀ Lg s₀.heap (mG none none Z)) (z : s₀.heap.get? Z = some zo) (a : Z ≠ Lg ∧ h₀.get? Z = none) :
    Seg (model RP w) A (RG h₀ Lg (vvG e0 f sc)) (YG h₀ Lg Z zo (vvG e0 f sc)) 20 s₀ (.func (fnBody (stmt 2)) (gEnv Lg)) ((model RP w).den (.func (fnBody (stmt 2)) (gEnv Lg))) [] s₀ := by
  have hr' := hr
  obtain ⟨t1, _, r1, _, r2, r3, _⟩ := hr'
  have N : News h₀ Lg s₀.heap (exOf s₀.heap h₀ Lg Lg) := fun p hp => by
    obtain ⟨b1, b2, b3, b4⟩ := mem_exOf.mp hp
    exact ⟨b1, b2, b4⟩
  have hm : (Z, zo) ∈ exOf s₀.heap h₀ Lg Lg := mem_exOf.mpr ⟨z, a.1, a.1, a.2⟩
  refine seg_func ?_
  rw [show execs (fnBody (stmt 2)) (gEnv Lg) = execs [gSt 0, .For (.Name (Str.ofString "interval") gFor) (forIt (gSt 1)) (forBody (gSt 1)) [] (gSt 1).pos] (gEnv Lg) from by rw [gbody]]
  refine seg_stmt (g_assign0 F X N T fun h1 tk1 F1 N1 => ⟨rfl, ?_⟩)
  rw [giter]
  refine seg_For ?_
  refine g_evG (s := { s₀ with heap := h1, toks := tk1 }) F1 X ?_
  refine wpAny_pyIter_list (s := { s₀ with heap := h1, toks := tk1 }) (news_list hz hm N1) ?_
  intro kk p hkk
  have hit : h1.get? h1.objs.size = none := by
    cases q : h1.get? h1.objs.size with
    | none => rfl
    | some o => exact absurd (Heap.lt_size q) (Nat.lt_irrefl _)
  have hL : h1.objs.size ≠ Lg := fun e => by
    have q := F1.ns.lt
    rw [← e] at q
    exact Nat.lt_irrefl _ q
  have h0 : h₀.get? h1.objs.size = none := by
    cases q : h₀.get? h1.objs.size with
    | none => rfl
    | some o =>
      have := F1.keep _ _ q
      rw [hit] at this
      cases this
  have hZ : h1.objs.size ≠ Z := fun e => by
    have := (N1 _ hm).1
    rw [show (Z, zo).1 = h1.objs.size from e.symm, hit] at this
    cases this
  have F2 : Fr h₀ Lg (h1.push { cls := .type "list_iterator", data := .fields #[.ref Z, .int 0 0] }) (mG (some .none) none Z) :=
    ⟨F1.ns.push _, fun b o e => Heap.get?_push_of_some _ (F1.keep b o e), F1.above⟩
  have N2 : News h₀ Lg (h1.push { cls := .type "list_iterator", data := .fields #[.ref Z, .int 0 0] }) ((h1.objs.size, { cls := .type "list_iterator", data := .fields #[.ref Z, .int 0 0] }) :: exOf s₀.heap h₀ Lg Lg) := fun p hp => by
    rcases List.mem_cons.mp hp with rfl | hp
    · exact ⟨Heap.get?_push_size _ rfl, hL, h0⟩
    · obtain ⟨b1, b2, b3⟩ := N1 p hp
      exact ⟨Heap.get?_push_of_some _ b1, b2, b3⟩
  have hne : ∀ p ∈ exOf s₀.heap h₀ Lg Lg, p.1 ≠ h1.objs.size := fun p hp e => by
    have := (N1 p hp).1
    rw [e, hit] at this
    cases this
  refine g_turn (s := { s₀ with heap := h1.push { cls := .type "list_iterator", data := .fields #[.ref Z, .int 0 0] }, toks := tk1 }) (i := 0) F2 X T ⟨rfl, rfl⟩ N2 hm hz hne r1 r2 r3 rfl rfl ?_
  intro h3 tk3 o3 H3 F3 hg3 N3 kap hkap
  obtain ⟨oL, es, ep, eL, _⟩ := id F3.ns
  have g3 : GH h₀ Lg Z h1.objs.size zo h3 (mG (some .none) (some (.int f t1)) Z) 1 := ⟨F3, ⟨o3, hg3, (N3 _ (List.mem_cons_self ..)).1⟩, (N3 _ (List.mem_cons_of_mem _ hm)).1, ⟨hL, hZ, h0, a.1, a.2⟩, F1.ns.lt⟩
  refine ⟨⟨f, t1, rfl, rfl⟩, h3, tk3, rfl, ?_, F3.keep, fun hn => ⟨h1.objs.size, oL, o3, F1.ns.lt, hZ, h0, eL, (N3 _ (List.mem_cons_self ..)).1, ⟨hg3.1, _, hg3.2⟩, fun s'' l i z k => ?_⟩⟩
  · intro b o hb e1 e2
    cases q : h₀.get? b with
    | some o2 =>
      have := F.keep b o2 q
      rw [hb] at this
      cases this
      exact F3.keep b o q
    | none => exact (N3 (b, o) (List.mem_cons_of_mem _ (mem_exOf.mpr ⟨hb, e1, e1, q⟩))).1
  · refine hkap s'' ?_
    exact g_second hh X T hz hr (by rw [hkk]; rfl) (by rw [hkk]) (g3.wake eL (N3 _ (List.mem_cons_self ..)).1 l i z k)
end
end Mine
end
section
set_option linter.unusedVariables false
open PySem PySem.W PyProof.Rows PyProof.V
set_option Elab.async false
namespace Mine
/-- the names of _law_cut -/
def mC (ty sz' sd : Value) (no wr pu to sz : Option Value) : Str → Option Value := fun y => if y = Str.ofString "size" then sz else if y = Str.ofString "told" then to else if y = Str.ofString "put" then pu else if y = Str.ofString "written" then wr else if y = Str.ofString "nothing" then no else if y = Str.ofString "seed" then some sd else if y = Str.ofString "sizes" then some sz' else if y = Str.ofString "typed" then some ty else none
abbrev cEnv (L : Addr) : Env := envOf (Str.ofString "_law_cut") (fnScope (stmt 13)) L 120 (.ref 119)
def cSt (i : Nat) : Stmt := (fnBody (stmt 13)).getD i (.Pass default)
def b1N : List Int := [173, 847, 6150, 6155, 6156, 6157, 8203, 8204, 8205, 8288, 65279] ++ rangeKs 65024 16
theorem cbody : forBody (cSt 4) = [(forBody (cSt 4)).getD 0 (.Pass default), (forBody (cSt 4)).getD 1 (.Pass default), (forBody (cSt 4)).getD 2 (.Pass default), (forBody (cSt 4)).getD 3 (.Pass default), (forBody (cSt 4)).getD 4 (.Pass default)] := by kernel_rfl
theorem b1N_bound (i : Nat) : 0 ≤ b1N.getD i 0 ∧ b1N.getD i 0 ≤ 65279 := by
  by_cases h : i < 27
  · exact (by decide +kernel : ∀ i, i < 27 → 0 ≤ b1N.getD i 0 ∧ b1N.getD i 0 ≤ 65279) i h
  · rw [List.getD_eq_getElem?_getD, List.getElem?_eq_none (show b1N.length ≤ i from (by decide +kernel : b1N.length = 27) ▸ (by omega))]
    decide
theorem b1N_hi (i : Nat) : b1N.getD i 0 ≤ 1114111 := Int.le_trans (b1N_bound i).2 (by decide)
theorem mC_told (ty z sd : Value) (no wr pu to sz : Option Value) (v : Value) : (fun y => if y = Str.ofString "told" then some v else mC ty z sd no wr pu to sz y) = mC ty z sd no wr pu (some v) sz := by
  funext y
  by_cases h1 : y = Str.ofString "told"
  · subst h1; kernel_rfl
  · unfold mC; simp only [if_neg h1]
theorem mC_size (ty z sd : Value) (no wr pu to sz : Option Value) (v : Value) : (fun y => if y = Str.ofString "size" then some v else mC ty z sd no wr pu to sz y) = mC ty z sd no wr pu to (some v) := by
  funext y
  by_cases h1 : y = Str.ofString "size"
  · subst h1; kernel_rfl
  · unfold mC; simp only [if_neg h1]
theorem mC_turn (ty z sd : Value) (no wr pu to sz : Option Value) (a b c d : Value) : (fun y => if y = Str.ofString "put" then some a else if y = Str.ofString "typed" then some b else if y = Str.ofString "written" then some c else if y = Str.ofString "told" then some d else mC ty z sd no wr pu to sz y) = mC b z sd no (some c) (some a) (some d) sz := by
  funext y
  by_cases h1 : y = Str.ofString "put"
  · subst h1; kernel_rfl
  by_cases h2 : y = Str.ofString "typed"
  · subst h2; kernel_rfl
  by_cases h3 : y = Str.ofString "written"
  · subst h3; kernel_rfl
  by_cases h4 : y = Str.ofString "told"
  · subst h4; kernel_rfl
  unfold mC; simp only [if_neg h1, if_neg h2, if_neg h3, if_neg h4]
theorem fr_m {h₀ h : Heap} {L : Addr} {m m' : Str → Option Value} (F : Fr h₀ L h m) (e : m = m') : Fr h₀ L h m' := e ▸ F
def b1At (sd pu : Int) : Nat := (b1N.getD ((sd.fdiv (27 ^ pu.toNat)).fmod 27).toNat 0).toNat
section
variable {w : World} {mean : ExcName → Option Value} {mg mb : Str → Option Value} {A : Around} {h₀ : Heap} {L Z D : Addr} {s : Shared} {ex : List (Addr × Obj)} {E : Value → Shared → Prop}
local macro_rules | `(tactic| walk_at "call builtin:chr") => `(tactic| (k_here; (refine chr_of_range (b1N_bound _).1 (b1N_hi _) ?_)))
local macro_rules | `(tactic| walk_at "binaryOp FloorDiv int int") => `(tactic| ((with_reducible show wpAny _ _ (binaryOp _ (Value.int _ _) (Value.int (HPow.hPow (27 : Int) _) _)) _ _ _); (with_reducible refine floordiv_int (pow27_pos _) ?_ (Or.inl (py27 (by omega))))))
set_option maxRecDepth 100000 in
set_option maxHeartbeats 1000000 in
theorem c_body {Q : Flow → Shared → Prop} {ty wr : Str} {sd pu to sz : Int} {t1 t2 t3 t4 t5 t6 : Tok} {us : List Value} {c : Nat} (hh : A.handled = none)
    (F : Fr h₀ L s.heap (mC (.str ty t1) (.ref Z) (.int sd t2) (some (.ref D)) (some (.str wr t3)) (some (.int pu t4)) (some (.int to t5)) (some (.int sz t6)))) (X : (K w.params).In h₀) (N : News h₀ L s.heap ex) (T : Top qv looseF mean mg mb h₀)
    (hD : (D, PySem.W.listOf us.toArray c) ∈ ex) (hI : IntsAre us b1N) (hp : ty.length ≤ 8 ∧ wr.length ≤ 100 ∧ 0 ≤ sd ∧ sd < 10000000000000000 ∧ 0 ≤ pu ∧ pu ≤ 8 ∧ 0 ≤ to ∧ to ≤ 9 ∧ 1 ≤ sz ∧ sz ≤ 4)
    (hb : (ty.length : Int) ≤ sz → ∀ h' tk' t, Fr h₀ L h' (mC (.str ty t1) (.ref Z) (.int sd t2) (some (.ref D)) (some (.str wr t3)) (some (.int pu t4)) (some (.int (to + 1) t)) (some (.int sz t6))) → News h₀ L h' ex → Q .brk { s with heap := h', toks := tk' })
    (hn : ¬ (ty.length : Int) ≤ sz → ∀ h' tk' u1 u3 u4 u5, Fr h₀ L h' (mC (.str (Txt.slice ty none (some (-sz))) u1) (.ref Z) (.int sd t2) (some (.ref D)) (some (.str (⟨#[b1At sd pu]⟩ ++ Txt.slice ty (some (-sz)) none ++ wr) u3)) (some (.int (pu + 1) u4)) (some (.int (to + 1) u5)) (some (.int sz t6))) → News h₀ L h' ex → Q .next { s with heap := h', toks := tk' }) :
    wpAny (model PySem.Challenge.rw_pe0193_01.row.prog w) A (execs (forBody (cSt 4)) (cEnv L)) Q E s := by
  obtain ⟨hp1, hp2, hp3, hp4, hp5, hp6, hp7, hp8, hp9, hp10⟩ := hp
  k_fill
  w_on
  k_with_none
  rw [cbody]
  show wpAny _ _ (execs [Stmt.Assign _ _ _, Stmt.If _ _ _ _, Stmt.Assign _ _ _, Stmt.Assign _ _ _, Stmt.Assign _ _ _] _) _ _ _
  k_steps
  · show Q Flow.brk _
    exact hb (by assumption) _ _ _ (fr_m (by assumption) (mC_told ..)) (by assumption)
  · exact hn (by assumption) _ _ _ _ _ _ (fr_m (by assumption) (mC_turn ..)) (by assumption)
end
end Mine
end
section
set_option linter.unusedVariables false
set_option maxRecDepth 100000
open PySem PySem.W PyProof.Rows PyProof.V
set_option Elab.async false
namespace Mine
theorem mG_new (Z : Addr) : (fun y => List.lookup y (List.reverse [(Str.ofString "grouping", Value.ref Z)])) = mG none none Z := by
  funext y
  show List.lookup y [(Str.ofString "grouping", Value.ref Z)] = _
  unfold mG
  by_cases h : y = Str.ofString "grouping"
  · subst h; kernel_rfl
  · rw [List.lookup_cons, beq_false_of_ne h, if_neg h]
    simp
theorem k21 (P : Params) : (K P).lookup 21 = some (o21a5 P) := by kernel_rfl
section
variable {w : World} {mean : ExcName → Option Value} {mg mb : Str → Option Value} {A : Around} {h₀ : Heap} {L Z D : Addr} {s : Shared} {ex : List (Addr × Obj)} {E : Value → Shared → Prop} {m : Str → Option Value}
def gFd : FuncData := { name := Str.ofString "_grouping_intervals", qualname := Str.ofString "_grouping_intervals", params := fnParams (stmt 2), body := .stmts (fnBody (stmt 2)), scope := fnScope (stmt 2), globals := 3, closure := [], defaults := .none, kwdefaults := .none, doc := .none, pyModule := .str (Str.ofString "cpy313.locale") 187, annotations := none, code := .ref 20, closureTuple := .none, builtins := 0 }
theorem gBind (Z : Addr) : bindArgs gFd ⟨[.ref Z], []⟩ = pure [(Str.ofString "grouping", Value.ref Z)] := by kernel_rfl
theorem gCell : (gFd.scope.names.all fun x => x.2 != .cell) = true := by kernel_rfl
theorem c_call {Q : Value → Shared → Prop} (F : Fr h₀ L s.heap m) (X : (K w.params).In h₀) (N : News h₀ L s.heap ex) (T : Top qv looseF mean mg mb h₀) (hroom : A.depth < recursionLimit)
    (h : ∀ Lg G oL gob h' tk', Fr h₀ L h' m → News h₀ L h' ex → (∀ p ∈ ex, p.1 < Lg) → L < Lg → Lg < G → h'.get? Lg = some oL → h'.get? G = some gob → ¬ isIt gob → h'.IsGen G s.gens.size → h₀.get? Lg = none → h₀.get? G = none → Fr h₀ Lg h' (mG none none Z) →
      Q (.ref G) { s with heap := h', toks := tk', gens := s.gens.push (.fresh (.func (fnBody (stmt 2)) (gEnv Lg))) }) :
    wpAny (model RP w) A (call (.ref 21) [.ref Z]) Q E s := by
  have X' := X.keeps F.keep
  refine wpAny_call ?_
  refine codeAny_call_generator (o := o21a5 w.params) (fd := gFd) (body := fnBody (stmt 2)) hroom (X' 21 _ (k21 _)) rfl (by kernel_rfl) (by kernel_rfl) rfl (codeRec_of X' (by kernel_rfl)) ?_
  refine BindsTo.of_eq (gBind Z) _ _ _ _ ?_
  refine wpAny_newFunctionEnv ?c ?l ?_ ?k
  case c =>
    intro x hx e
    have := List.all_eq_true.mp gCell x hx
    rw [e] at this
    cases this
  case l =>
    intro x hx
    rcases List.mem_cons.mp hx with rfl | hx
    · kernel_rfl
    · cases hx
  case k => kernel_rfl
  intro h' ns sb
  rw [mG_new] at ns
  have keep : ∀ b o, s.heap.get? b = some o → h'.get? b = some o := fun b o e => sb.extBut b o (Nat.ne_of_lt (Heap.lt_size e)) (Heap.get?_push_of_some _ e)
  obtain ⟨oL, es, ep, eL, er⟩ := id ns
  have hsz : h'.objs.size = s.heap.objs.size + 1 := by rw [sb.1, Heap.size_push]
  have n0 : ∀ a, s.heap.objs.size ≤ a → h₀.get? a = none := fun a ha => by
    cases q : h₀.get? a with
    | none => rfl
    | some o => exact absurd (Heap.lt_size (F.keep _ _ q)) (Nat.not_lt.mpr ha)
  refine ⟨(T.nolimit.keeps F.keep).keeps keep, ?_⟩
  refine h s.heap.objs.size h'.objs.size oL { cls := .type "generator", data := .fields #[.int s.gens.size 0, .str (Str.ofString "_grouping_intervals") _, .str (Str.ofString "_grouping_intervals") _] } _ _ ?_ ?_ ?_ F.ns.lt (by rw [hsz]; exact Nat.lt_succ_self _) (Heap.get?_push_of_some _ eL) (Heap.get?_push_size _ rfl) ?_ ?_ (n0 _ (Nat.le_refl _)) (n0 _ (by rw [hsz]; exact Nat.le_succ _)) ?_
  · exact F.keeps fun b o e => Heap.get?_push_of_some _ (keep b o e)
  · exact fun p hp => ⟨Heap.get?_push_of_some _ (keep _ _ (N p hp).1), (N p hp).2⟩
  · exact fun p hp => Heap.lt_size (N p hp).1
  · intro q
    have e : Value.type "generator" = Value.type "list_iterator" := q.1
    injection e with e
    exact absurd e (by decide)
  · exact ⟨_, _, _, Heap.get?_push_size _ rfl, rfl, rfl, rfl⟩
  · exact ⟨ns.push _, fun b o e => Heap.get?_push_of_some _ (keep b o (F.keep b o e)), Nat.le_trans F.above (Nat.le_of_lt F.ns.lt)⟩
end
end Mine
end
section
set_option linter.unusedVariables false
set_option maxRecDepth 100000
open PySem PySem.W PyProof.Rows PyProof.V
set_option Elab.async false
namespace Mine
/-- a StopIteration without arguments is made: the heap grows, and nothing else turns -/
theorem stop_made {M : Model} {A : Around} {E : Value → Shared → Prop} {s : Shared} {Q : Value → Shared → Prop}
    (h : ∀ h' e, (∀ b o, s.heap.get? b = some o → h'.get? b = some o) → Shared.TypeIs { s with heap := h' } (.ref e) "StopIteration" → Q (.ref e) { s with heap := h' }) :
    wpAny M A (newExc (.type "StopIteration") []) Q E s := by
  obtain ⟨hp, gs, d, tk, os⟩ := s
  unfold newExc newTuple
  wp_walk
  exact h _ _ (fun b o e => Heap.get?_push_of_some _ (Heap.get?_push_of_some _ e)) ⟨_, Heap.get?_push_size _ rfl, rfl⟩
section
variable {w : World} {mean : ExcName → Option Value} {mg mb : Str → Option Value} {A : Around} {h₀ : Heap} {L Lg G Z D : Addr} {s : Shared} {zo : Obj} {ex : List (Addr × Obj)} {E : Value → Shared → Prop} {m : Str → Option Value} {g n : Nat} {gs : GenState} {vv : Nat → Option Int}
/-- the waking of a def's generator, its end a raised StopIteration; what is left suspended is bare -/
theorem wake_bare {P : Nat → Shared → Shared → Prop} {Y : Protocol} {Q : Value → Shared → Prop} (hh : A.handled = none) (hl : s.heap.NoLimit) (hroom : A.depth < recursionLimit) (hg : s.heap.IsGen G g) (hgs : s.gens[g]? = some gs)
    (hgo : gs.Goes (model RP w) A (fun n s₀ r s₁ => r = .ok (.ret .none) ∧ P n s₀ s₁) Y n (.send .none) (s.setGen g .running))
    (hY : ∀ v s₁ gs', gs'.bare = true → Y (n - 1) (s.setGen g .running) v s₁ (fun r' s'' => match n with
        | 0 => False
        | m + 1 => gs'.Goes (model RP w) A (fun n s₀ r s₁ => r = .ok (.ret .none) ∧ P n s₀ s₁) Y m r' s'') → Q v (s₁.setGen g gs'))
    (hP : ∀ s₁ h' e, P n (s.setGen g .running) s₁ → (∀ b o, s₁.heap.get? b = some o → h'.get? b = some o) → Shared.TypeIs { s₁.setGen g .finished with heap := h' } (.ref e) "StopIteration" → E (.ref e) { s₁.setGen g .finished with heap := h' }) :
    wpAny (model RP w) A (Builtin.Generator.genWake (.ref G) (.send .none)) (fun fin s' => ∃ v, fin = .done (.ret v) ∧ Q v s') E s := by
  have live : (∃ c, gs = .fresh c) ∨ ∃ k l c p fs cl, gs = .suspended k l c p fs cl := by
    match gs, hgo with
    | .fresh c, _ => exact .inl ⟨c, rfl⟩
    | .suspended k l c p fs cl, _ => exact .inr ⟨k, l, c, p, fs, cl, rfl⟩
  unfold Builtin.Generator.genWake
  refine wpAny_bind (wpAny_holding (wpAny_genNumber hg ?_))
  refine wpAny_bind (wpAny_genState hgs ?_)
  rcases live with ⟨c, rfl⟩ | ⟨k, l, c, p, fs, cl, rfl⟩
  all_goals
    refine wpAny_bind (wpAny_roomToWake hl hroom ?_)
    refine wpAny_bind ?_
    refine wpAny_resumeQ hgs hgo ?_ fun v s₁ gs' hb hv => wpAny_pure (wpAny_pure ⟨v, rfl, hY v s₁ gs' hb hv⟩)
    rintro x s₁ ⟨rfl, hp⟩
    refine wpAny_pure ?_
    show wpAny _ _ (newExc (.type "StopIteration") [] >>= _) _ _ _
    exact wpAny_bind (stop_made fun h' e k1 k2 => wpAny_bind (wpAny_raiseNew_none hh (hP s₁ h' e hp k1 k2)))
/-- one next of the generator -/
theorem next_gen {P : Nat → Shared → Shared → Prop} {Y : Protocol} {Q : Option Value → Shared → Prop} (hh : A.handled = none) (hl : s.heap.NoLimit) (hroom : A.depth < recursionLimit) (hg : s.heap.IsGen G g) (hgs : s.gens[g]? = some gs)
    (hgo : gs.Goes (model RP w) A.in1 (fun n s₀ r s₁ => r = .ok (.ret .none) ∧ P n s₀ s₁) Y n (.send .none) (s.setGen g .running))
    (hY : ∀ v s₁ gs', gs'.bare = true → Y (n - 1) (s.setGen g .running) v s₁ (fun r' s'' => match n with
        | 0 => False
        | m + 1 => gs'.Goes (model RP w) A.in1 (fun n s₀ r s₁ => r = .ok (.ret .none) ∧ P n s₀ s₁) Y m r' s'') → Q (some v) (s₁.setGen g gs'))
    (hP : ∀ s₁, P n (s.setGen g .running) s₁ → ∀ h', (∀ b o, s₁.heap.get? b = some o → h'.get? b = some o) → Q none { s₁.setGen g .finished with heap := h' }) :
    wpAny (model RP w) A (pyNext (.ref G)) Q E s := by
  have hwake := wake_bare (A := A.in1) (E := fun e s' => Shared.TypeIs s' e "StopIteration" ∧ Q none s') (Q := fun v s' => Q (some v) s') hh hl hroom hg hgs hgo hY fun s₁ h' e hp k1 k2 => ⟨k2, hP s₁ hp h' k1⟩
  have hcall := wpAny_call_entry slot_gen_next hg.typeIs entry_gen_next hwake (args_gen_next _)
  refine wpAny_bind (wpAny_attempt (wpAny_mono (wpAny_callSpecial?_slot (Q := fun r s' => ∃ v, r = some v ∧ Q (some v) s') (name := Str.ofString "__next__") hg.typeIs slot_gen_next (wpAny_mono hcall (fun v s' q => ⟨v, rfl, q⟩) fun _ _ q => q)) ?_ ?_))
  · rintro r s' ⟨v, rfl, hq⟩
    exact wpAny_pure hq
  · intro e s' hq
    exact wpAny_bind (wpAny_isInstance (b := true) hq.1 isSubtype_stop (wpAny_pure hq.2))

/-- the caller's state while the generator tells -/
structure CS (w : World) (A : Around) (h₀ : Heap) (L Lg G Z : Addr) (zo : Obj) (vv : Nat → Option Int) (g : Nat) (ex : List (Addr × Obj)) (n : Nat) (s : Shared) (m : Str → Option Value) : Prop where
  F : Fr h₀ L s.heap m
  N : News h₀ L s.heap ex
  lt : ∀ p ∈ ex, p.1 < Lg
  hL : L < Lg
  nL : h₀.get? Lg = none
  z : (Z, zo) ∈ ex
  hG : ∃ gob, s.heap.get? G = some gob ∧ ¬ isIt gob
  aG : G ≠ L ∧ G ≠ Lg ∧ h₀.get? G = none
  ig : s.heap.IsGen G g
  go : ∃ own gs, News h₀ L s.heap own ∧ s.gens[g]? = some gs ∧ (n ≠ 0 → ∀ s'' : Shared, (∀ p ∈ own, s''.heap.get? p.1 = some p.2) → s''.heap.get? Z = some zo → (∀ b o, h₀.get? b = some o → s''.heap.get? b = some o) →
    gs.Goes (model RP w) A.in1 (RG h₀ Lg vv) (YG h₀ Lg Z zo vv) n (.send .none) s'')
  bare : AllBare s.gens

theorem isGen_same {h h' : Heap} {o : Obj} (x : h.IsGen G g) (h1 : h.get? G = some o) (h2 : h'.get? G = some o) : h'.IsGen G g := by
  obtain ⟨o', nm, qn, e, r⟩ := x
  rw [h1] at e
  cases e
  exact ⟨o, nm, qn, h2, r⟩

theorem CS.ledger (c : CS w A h₀ L Lg G Z zo vv g ex n s m) : ∃ own gob, News h₀ L s.heap (own ++ (G, gob) :: ex) ∧ ∀ h' tk' m', Fr h₀ L h' m' → News h₀ L h' (own ++ (G, gob) :: ex) → CS w A h₀ L Lg G Z zo vv g ex n { s with heap := h', toks := tk' } m' := by
  obtain ⟨own, gs, a1, a2, a3⟩ := c.go
  obtain ⟨gob, b1, b2⟩ := c.hG
  refine ⟨own, gob, fun p hp => ?_, fun h' tk' m' F' N' => ?_⟩
  · rcases List.mem_append.mp hp with hp | hp
    · exact a1 p hp
    · rcases List.mem_cons.mp hp with rfl | hp
      · exact ⟨b1, c.aG.1, c.aG.2.2⟩
      · exact c.N p hp
  · have hg := (N' (G, gob) (List.mem_append_right _ (List.mem_cons_self ..))).1
    exact ⟨F', fun p hp => N' p (List.mem_append_right _ (List.mem_cons_of_mem _ hp)), c.lt, c.hL, c.nL, c.z, ⟨gob, hg, b2⟩, c.aG, isGen_same c.ig b1 hg, ⟨own, gs, fun p hp => N' p (List.mem_append_left _ hp), a2, a3⟩, c.bare⟩

theorem bare_set {g : Nat} {x : GenState} {a : Array GenState} (h : AllBare a) (hx : x.bare = true) : AllBare (a.setIfInBounds g x) := fun y hy => by
  rcases Array.mem_or_eq_of_mem_setIfInBounds hy with hy | rfl
  · exact h y hy
  · exact hx

theorem kept_fr {h h' : Heap} (F : Fr h₀ L h m) (hL : L < Lg) (kp : Kept Lg h h') (kb : ∀ b o, h₀.get? b = some o → h'.get? b = some o) : Fr h₀ L h' m := by
  obtain ⟨o, es, ep, e, r⟩ := id F.ns
  exact ⟨ns_same F.ns e (kp L o e (Nat.ne_of_lt hL) (.inr hL)), kb, F.above⟩
theorem kept_news {h h' : Heap} (N : News h₀ L h ex) (lt : ∀ p ∈ ex, p.1 < Lg) (kp : Kept Lg h h') : News h₀ L h' ex := fun p hp =>
  ⟨kp _ _ (N p hp).1 (Nat.ne_of_lt (lt p hp)) (.inr (lt p hp)), (N p hp).2⟩

theorem CS.next {Q : Option Value → Shared → Prop} (hh : A.handled = none) (hroom : A.depth < recursionLimit) (T : Top qv looseF mean mg mb h₀) (c : CS w A h₀ L Lg G Z zo vv g ex (n + 1) s m)
    (h1 : ∀ x tk s', vv (n + 1) = some x → CS w A h₀ L Lg G Z zo vv g ex n s' m → s'.drawn = s.drawn → s'.os = s.os → Q (some (.int x tk)) s')
    (h2 : ∀ s', vv (n + 1) = none → Fr h₀ L s'.heap m → News h₀ L s'.heap ex → AllBare s'.gens → s'.drawn = s.drawn → s'.os = s.os → Q none s') :
    wpAny (model RP w) A (pyNext (.ref G)) Q E s := by
  obtain ⟨own, gs, a1, a2, a3⟩ := c.go
  obtain ⟨gob, b1, b2⟩ := c.hG
  refine next_gen (P := fun n s₀ s₁ => vv n = none ∧ ∃ h' tk', s₁ = { s₀ with heap := h', toks := tk' } ∧ Kept Lg s₀.heap h' ∧ ∀ b o, h₀.get? b = some o → h'.get? b = some o) (n := n + 1) (Y := YG h₀ Lg Z zo vv) hh (T.nolimit.keeps c.F.keep) hroom c.ig a2 (a3 (Nat.succ_ne_zero _) (s.setGen g .running) (fun p hp => (a1 p hp).1) (c.N _ c.z).1 c.F.keep) ?_ ?_
  · intro v s₁ gs' hb hY
    obtain ⟨⟨x, tk, hv, rfl⟩, h', tk', rfl, kp, kb, hn⟩ := hY
    have hG' := kp G gob b1 c.aG.2.1 (.inl b2)
    refine h1 x tk _ hv ⟨kept_fr c.F c.hL kp kb, kept_news c.N c.lt kp, c.lt, c.hL, c.nL, c.z, ⟨gob, hG', b2⟩, c.aG, isGen_same c.ig b1 hG', ?_, bare_set (bare_set c.bare rfl) hb⟩ rfl rfl
    have hgs' := setGen_self (x := gs') (setGen_self (x := .running) a2)
    by_cases e : n = 0
    · exact ⟨[], gs', News.nil, hgs', fun q => absurd e q⟩
    · obtain ⟨it, oL, oI, i1, i2, i3, i4, i5, i6, i7⟩ := hn e
      refine ⟨[(Lg, oL), (it, oI)], gs', ?_, hgs', fun _ s'' q1 q2 q3 => i7 s'' (q1 _ (List.mem_cons_self ..)) (q1 _ (List.mem_cons_of_mem _ (List.mem_cons_self ..))) q2 q3⟩
      intro p hp
      rcases List.mem_cons.mp hp with rfl | hp
      · exact ⟨i4, fun q => Nat.lt_irrefl _ (q ▸ c.hL), c.nL⟩
      · rcases List.mem_cons.mp hp with rfl | hp
        · exact ⟨i5, fun q => Nat.lt_irrefl _ (Nat.lt_trans (q ▸ i1 : Lg < L) c.hL), i3⟩
        · cases hp
  · rintro s₁ ⟨hv, h', tk', rfl, kp, kb⟩ h3 k3
    have kp' : Kept Lg s.heap h3 := fun b o e q1 q2 => k3 b o (kp b o e q1 q2)
    exact h2 _ hv (kept_fr c.F c.hL kp' fun b o e => k3 b o (kb b o e)) (kept_news c.N c.lt kp') (bare_set (bare_set c.bare rfl) rfl) rfl rfl
end
end Mine
end
section
set_option linter.unusedVariables false
set_option maxRecDepth 100000
open PySem PySem.W PyProof.Rows PyProof.V
set_option Elab.async false
namespace Mine
theorem slice_neg_hi (x : Str) {k : Int} (h0 : 0 < k) (h1 : k ≤ x.length) : Txt.slice x none (some (-k)) = Txt.slice x none (some (x.length - k)) := by
  unfold Txt.slice
  rw [StrLaws.sliceIdx_neg_hi none x.length (by omega) (by omega), show -k + (x.length : Int) = x.length - k by omega]
theorem slice_neg_lo (x : Str) {k : Int} (h0 : 0 < k) (h1 : k ≤ x.length) : Txt.slice x (some (-k)) none = Txt.slice x (some (x.length - k)) none := by
  unfold Txt.slice
  rw [StrLaws.sliceIdx_neg_lo none x.length (by omega) (by omega), show -k + (x.length : Int) = x.length - k by omega]
theorem slice_front {l : List Nat} {k : Int} (h0 : 0 < k) (h1 : k ≤ l.length) : Txt.slice (tx l) none (some (-k)) = tx (l.take (l.length - k.toNat)) := by
  rw [slice_neg_hi _ h0 (by rw [tx_length]; exact h1)]
  have := slice_closes_toL (x := tx l) (j := ((tx l).length : Int) - k) (by rw [tx_length]; omega) (by omega)
  rw [beq_iff_eq] at this
  rw [this]
  simp only [tx_length]
  unfold tx
  simp
  congr 1
  omega
theorem slice_back {l : List Nat} {k : Int} (h0 : 0 < k) (h1 : k ≤ l.length) : Txt.slice (tx l) (some (-k)) none = tx (l.drop (l.length - k.toNat)) := by
  rw [slice_neg_lo _ h0 (by rw [tx_length]; exact h1)]
  have := slice_closes_fromL (x := tx l) (i := ((tx l).length : Int) - k) (by rw [tx_length]; omega) (by omega) rfl
  rw [beq_iff_eq] at this
  rw [this]
  simp only [tx_length]
  unfold tx
  simp
  rw [show ((l.length : Int) - k).toNat = l.length - k.toNat by omega]
  exact List.take_of_length_le (by simp; omega)

/-- what the cutting makes: the figures ahead, the rest written, how many signs put, how many sizes told -/
def cutL (vv : Nat → Option Int) (sd : Int) : Nat → List Nat → List Nat → Int → Int → List Nat × List Nat × Int × Int
  | 0, l, r, pu, to => (l, r, pu, to)
  | n + 1, l, r, pu, to => match vv (n + 1) with
    | none => (l, r, pu, to)
    | some sz => if (l.length : Int) ≤ sz then (l, r, pu, to + 1) else
      cutL vv sd n (l.take (l.length - sz.toNat)) (b1At sd pu :: (l.drop (l.length - sz.toNat) ++ r)) (pu + 1) (to + 1)

section
variable {w : World} {mean : ExcName → Option Value} {mg mb : Str → Option Value} {A : Around} {h₀ : Heap} {L Lg G Z D : Addr} {s : Shared} {zo : Obj} {ex : List (Addr × Obj)} {E : Value → Shared → Prop} {m : Str → Option Value} {g : Nat} {vv : Nat → Option Int}
set_option maxRecDepth 100000 in
set_option maxHeartbeats 1000000 in
theorem c_store {Q : Unit → Shared → Prop} {v ty z sd : Value} {no wr pu to sz : Option Value} (F : Fr h₀ L s.heap (mC ty z sd no wr pu to sz)) (X : (K w.params).In h₀) (N : News h₀ L s.heap ex) (T : Top qv looseF mean mg mb h₀)
    (h : ∀ h' tk', Fr h₀ L h' (mC ty z sd no wr pu to (some v)) → News h₀ L h' ex → Q () { s with heap := h', toks := tk' }) :
    wpAny (model PySem.Challenge.rw_pe0193_01.row.prog w) A (storeName (cEnv L) (Str.ofString "size") v) Q E s := by
  k_fill
  w_on
  k_with_none
  k_steps
  exact h _ _ (fr_m (by assumption) (mC_size ..)) (by assumption)

theorem c_loop {Q : Flow → Shared → Prop} {sd : Int} {t2 : Tok} {us : List Value} {c : Nat} (hh : A.handled = none) (hroom : A.depth < recursionLimit) (X : (K w.params).In h₀) (T : Top qv looseF mean mg mb h₀)
    (hD : (D, PySem.W.listOf us.toArray c) ∈ ex) (hI : IntsAre us b1N) (hs : 0 ≤ sd ∧ sd < 10000000000000000) (hv : ∀ n x, vv n = some x → 1 ≤ x ∧ x ≤ 4) (k : Nat) :
    ∀ (n : Nat) (s : Shared) (l r : List Nat) (pu to : Int) (t1 t3 t4 t5 : Tok) (sz : Option Value), CS w A h₀ L Lg G Z zo vv g ex n s (mC (.str (tx l) t1) (.ref Z) (.int sd t2) (some (.ref D)) (some (.str (tx r) t3)) (some (.int pu t4)) (some (.int to t5)) sz) →
      l.length < n → 0 ≤ pu → pu + l.length ≤ 8 → to = pu → (r.length + l.length : Int) ≤ 8 + pu →
      (∀ s' l' r' pu' to' t1 t3 t4 t5 sz, cutL vv sd n l r pu to = (l', r', pu', to') → Fr h₀ L s'.heap (mC (.str (tx l') t1) (.ref Z) (.int sd t2) (some (.ref D)) (some (.str (tx r') t3)) (some (.int pu' t4)) (some (.int to' t5)) sz) → News h₀ L s'.heap ex → AllBare s'.gens → s'.drawn = s.drawn → s'.os = s.os → Q .next s') →
      OwitRest RP w A E (cEnv L) (Str.ofString "size") (forBody (cSt 4)) Q G (n + k) s
  | 0, s, l, r, pu, to, t1, t3, t4, t5, sz, c0, hn, _, _, _, _, hq => absurd hn (Nat.not_lt_zero _)
  | n + 1, s, l, r, pu, to, t1, t3, t4, t5, sz, c0, hn, hp, hp2, ht, hr, hq => by
    rw [show n + 1 + k = (n + k) + 1 by omega]
    refine OwitRest.succ ?_
    refine c0.next hh hroom T ?_ ?_
    · intro x tk s1 hx c1 d1 o1
      obtain ⟨hx1, hx2⟩ := hv _ _ hx
      obtain ⟨own, gob, N1, nx⟩ := c1.ledger
      show wpAny _ _ (storeName _ _ _) _ _ _
      refine c_store c1.F X N1 T fun h2 tk2 F2 N2 => ?_
      refine c_body (s := { s1 with heap := h2, toks := tk2 }) hh F2 X N2 T (List.mem_append_right _ (List.mem_cons_of_mem _ hD)) hI ⟨by rw [tx_length]; omega, by rw [tx_length]; omega, hs.1, hs.2, hp, by omega, by omega, by omega, hx1, hx2⟩ ?_ ?_
      · intro hle h3 tk3 t5' F3 N3
        rw [tx_length] at hle
        have c3 := nx h3 tk3 _ F3 N3
        refine hq _ l r pu (to + 1) t1 t3 t4 t5' _ ?_ F3 c3.N c3.bare d1 o1
        show (match vv (n + 1) with | none => _ | some sz => _) = _
        rw [hx]
        exact if_pos hle
      · intro hle h3 tk3 u1 u3 u4 u5 F3 N3
        rw [tx_length] at hle
        have e1 := slice_front (l := l) (k := x) (by omega) (by omega)
        have e2 := slice_back (l := l) (k := x) (by omega) (by omega)
        rw [e1, e2, show (⟨#[b1At sd pu]⟩ : Str) = tx [b1At sd pu] from rfl, tx_append, tx_append] at F3
        have c3 := nx h3 tk3 _ F3 N3
        have hl : (l.take (l.length - x.toNat)).length = l.length - x.toNat := by rw [List.length_take]; omega
        refine c_loop hh hroom X T hD hI hs hv k n _ _ _ _ _ u1 u3 u4 u5 _ c3 (by rw [hl]; omega) (by omega) (by rw [hl]; omega) (by omega) (by rw [hl]; simp; omega) ?_
        intro s' l' r' pu' to' v1 v3 v4 v5 vz hc F' N' B' d' o'
        refine hq s' l' r' pu' to' v1 v3 v4 v5 vz ?_ F' N' B' (d'.trans d1) (o'.trans o1)
        show (match vv (n + 1) with | none => _ | some sz => _) = _
        rw [hx]
        exact (if_neg hle).trans (by simpa using hc)
    · intro s1 hx F1 N1 B1 d1 o1
      refine hq s1 l r pu to t1 t3 t4 t5 sz ?_ F1 N1 B1 d1 o1
      show (match vv (n + 1) with | none => _ | some sz => _) = _
      rw [hx]
end
end Mine
end
section
set_option linter.unusedVariables false
set_option maxRecDepth 100000
open PySem PySem.W PyProof.Rows PyProof.V
set_option Elab.async false
namespace Mine
theorem mC_nothing (ty z sd : Value) (no wr pu to sz : Option Value) (v : Value) : (fun y => if y = Str.ofString "nothing" then some v else mC ty z sd no wr pu to sz y) = mC ty z sd (some v) wr pu to sz := by
  funext y
  by_cases h1 : y = Str.ofString "nothing"
  · subst h1; kernel_rfl
  · unfold mC; simp only [if_neg h1]
theorem mC_init (ty z sd : Value) (no wr pu to sz : Option Value) (a b c : Value) : (fun y => if y = Str.ofString "told" then some c else if y = Str.ofString "put" then some b else if y = Str.ofString "written" then some a else mC ty z sd no wr pu to sz y) = mC ty z sd no (some a) (some b) (some c) sz := by
  funext y
  by_cases h1 : y = Str.ofString "told"
  · subst h1; kernel_rfl
  by_cases h2 : y = Str.ofString "put"
  · subst h2; kernel_rfl
  by_cases h3 : y = Str.ofString "written"
  · subst h3; kernel_rfl
  unfold mC; simp only [if_neg h1, if_neg h2, if_neg h3]
theorem cfun : fnBody (stmt 13) = [cSt 0, cSt 1, cSt 2, cSt 3, cSt 4, cSt 5] := by kernel_rfl
section
variable {w : World} {mean : ExcName → Option Value} {mg mb : Str → Option Value} {A : Around} {h₀ : Heap} {L Lg G Z D : Addr} {s : Shared} {zo : Obj} {ex : List (Addr × Obj)} {E : Value → Shared → Prop} {m : Str → Option Value} {g : Nat} {vv : Nat → Option Int}
local macro_rules | `(tactic| walk_at "call type:list") => `(tactic| (k_here; (with_reducible show wpAny _ _ (call (Value.type _) [Value.ref _]) _ _ _); (rename IsRange _ _ _ _ _ _ _ _ => rgX); (refine' kll_range (n := 16) (by assumption) (by k_asm) (by k_asm) rgX (by decide +kernel) (by decide +kernel) (by decide) ?_); intro D' vs' c' h' tk' F' N' l1 hI'; (try k_lt l1); (try k_sweep)))
local macro_rules | `(tactic| walk_at "binaryOp Add ref ref") => `(tactic| (k_here; (refine' kmk_add_ints (by k_asm) (by k_asm) (by kmk_list) (by kmk_list) (by l_ints) (by with_reducible assumption) ?_ (by rw [rangeKs_length]; decide)); intro D' ws' h' F' N' l1 hI'; (try k_lt l1); (try k_sweep)))
set_option maxRecDepth 100000 in
set_option maxHeartbeats 1000000 in
theorem c_nothing {Q : Flow → Shared → Prop} {ty z sd : Value} {no wr pu to sz : Option Value} (hh : A.handled = none) (F : Fr h₀ L s.heap (mC ty z sd no wr pu to sz)) (X : (K w.params).In h₀) (N : News h₀ L s.heap ex) (T : Top qv looseF mean mg mb h₀)
    (h : ∀ D us c h' tk', Fr h₀ L h' (mC ty z sd (some (.ref D)) wr pu to sz) → News h₀ L h' ((D, PySem.W.listOf (List.toArray us) c) :: ex) → IntsAre us b1N → Q .next { s with heap := h', toks := tk' }) :
    wpAny (model PySem.Challenge.rw_pe0193_01.row.prog w) A (exec (cSt 0) (cEnv L)) Q E s := by
  k_fill
  w_on
  k_with_none
  show wpAny _ _ (exec (Stmt.Assign _ _ _) _) _ _ _
  k_steps
  exact h _ _ _ _ _ (fr_m (by assumption) (mC_nothing ..)) (cb_drop (by assumption) (by kcj_all)) (by assumption)
end
section
variable {w : World} {mean : ExcName → Option Value} {mg mb : Str → Option Value} {A : Around} {h₀ : Heap} {L Lg G Z D : Addr} {s : Shared} {zo : Obj} {ex : List (Addr × Obj)} {E : Value → Shared → Prop} {m : Str → Option Value} {g : Nat} {vv : Nat → Option Int}
set_option maxRecDepth 100000 in
set_option maxHeartbeats 1000000 in
theorem c_init {Q : Flow → Shared → Prop} {ty z sd : Value} {no wr pu to sz : Option Value} {rest : List Stmt} (hh : A.handled = none) (F : Fr h₀ L s.heap (mC ty z sd no wr pu to sz)) (X : (K w.params).In h₀) (N : News h₀ L s.heap ex) (T : Top qv looseF mean mg mb h₀)
    (h : ∀ t3 t4 t5 h' tk', Fr h₀ L h' (mC ty z sd no (some (.str (tx []) t3)) (some (.int 0 t4)) (some (.int 0 t5)) sz) → News h₀ L h' ex → wpAny (model PySem.Challenge.rw_pe0193_01.row.prog w) A (execs rest (cEnv L)) Q E { s with heap := h', toks := tk' }) :
    wpAny (model PySem.Challenge.rw_pe0193_01.row.prog w) A (execs (cSt 1 :: cSt 2 :: cSt 3 :: rest) (cEnv L)) Q E s := by
  k_fill
  w_on
  k_with_none
  show wpAny _ _ (execs (Stmt.Assign _ _ _ :: Stmt.Assign _ _ _ :: Stmt.Assign _ _ _ :: rest) _) _ _ _
  k_steps
  exact h _ _ _ _ _ (fr_m (by assumption) (mC_init ..)) (by assumption)
def retE : Stmt → PySem.Expr
  | .Return (some e) _ => e
  | _ => .Constant .none 0 default
set_option maxRecDepth 100000 in
set_option maxHeartbeats 1000000 in
theorem c_ret {Q : Flow → Shared → Prop} {z sd : Value} {no sz : Option Value} {l r : List Nat} {pu to : Int} {t1 t3 t4 t5 : Tok} (hh : A.handled = none) (F : Fr h₀ L s.heap (mC (.str (tx l) t1) z sd no (some (.str (tx r) t3)) (some (.int pu t4)) (some (.int to t5)) sz)) (X : (K w.params).In h₀) (N : News h₀ L s.heap ex) (T : Top qv looseF mean mg mb h₀)
    (hl : (tx l).length ≤ 100 ∧ (tx r).length ≤ 100)
    (h : ∀ D c t h' tk' m', Fr h₀ L h' m' → News h₀ L h' ((D, PySem.W.listOf #[.str (tx (l ++ r)) t, .int pu t4, .int to t5] c) :: ex) → (∀ p ∈ ex, p.1 < D) → Q (.ret (.ref D)) { s with heap := h', toks := tk' }) :
    wpAny (model PySem.Challenge.rw_pe0193_01.row.prog w) A (execs [cSt 5] (cEnv L)) Q E s := by
  obtain ⟨hl1, hl2⟩ := hl
  k_fill
  w_on
  k_with_none
  show wpAny _ _ (execs [Stmt.Return _ _] _) _ _ _
  k_steps
  show Q (Flow.ret _) _
  exact h _ _ _ _ _ _ (by assumption) (by rw [← tx_append]; assumption) (by assumption)
end
end Mine
end
section
set_option linter.unusedVariables false
set_option maxRecDepth 100000
open PySem PySem.W PyProof.Rows PyProof.V
set_option Elab.async false
namespace Mine
def cForP : Pos := forTgt (cSt 4)
theorem cfor : cSt 4 = .For (.Name (Str.ofString "size") cForP) (forIt (cSt 4)) (forBody (cSt 4)) [] (cSt 4).pos := by kernel_rfl
section
variable {w : World} {mean : ExcName → Option Value} {mg mb : Str → Option Value} {A : Around} {h₀ : Heap} {L Z D : Addr} {s : Shared} {zo : Obj} {ex : List (Addr × Obj)} {E : Value → Shared → Prop}
set_option maxRecDepth 100000 in
set_option maxHeartbeats 1000000 in
theorem c_evcall {Q : Value → Shared → Prop} {ty sd : Value} {no wr pu to sz : Option Value} (hh : A.handled = none) (F : Fr h₀ L s.heap (mC ty (.ref Z) sd no wr pu to sz)) (X : (K w.params).In h₀) (N : News h₀ L s.heap ex) (T : Top qv looseF mean mg mb h₀)
    (h : wpAny (model PySem.Challenge.rw_pe0193_01.row.prog w) A (call (.ref 21) [.ref Z]) Q E s) :
    wpAny (model PySem.Challenge.rw_pe0193_01.row.prog w) A (eval (forIt (cSt 4)) (cEnv L)) Q E s := by
  revert X
  k_fill
  intro X
  w_on
  k_with_none
  show wpAny _ _ (eval (PySem.Expr.Call _ _ _ _) _) _ _ _
  k_steps
  exact h
theorem vvG_bound {e0 : Bool} {f sc : Int} (hf : 1 ≤ f ∧ f ≤ 4) (hsc : 1 ≤ sc ∧ sc ≤ 4) (n : Nat) (x : Int) (h : vvG e0 f sc n = some x) : 1 ≤ x ∧ x ≤ 4 := by
  unfold vvG at h
  split at h
  · cases h; exact hf
  · split at h
    · cases h; exact hsc
    · split at h
      · cases h; exact hsc
      · cases h
theorem c_for {Q : Flow → Shared → Prop} {e0 : Bool} {f sc sd : Int} {l : List Nat} {items : Array Value} {t1 t2 t3 t4 t5 : Tok} {us : List Value} {c : Nat} (hh : A.handled = none) (hroom : A.depth < recursionLimit)
    (F : Fr h₀ L s.heap (mC (.str (tx l) t1) (.ref Z) (.int sd t2) (some (.ref D)) (some (.str (tx []) t3)) (some (.int 0 t4)) (some (.int 0 t5)) none)) (X : (K w.params).In h₀) (N : News h₀ L s.heap ex) (T : Top qv looseF mean mg mb h₀)
    (z : (Z, zo) ∈ ex) (hz : zo.cls = .type "list" ∧ ∃ k, zo.data = .seq items k) (hr : Row e0 f sc items) (hf : 1 ≤ f ∧ f ≤ 4) (hsc : 1 ≤ sc ∧ sc ≤ 4)
    (hD : (D, PySem.W.listOf us.toArray c) ∈ ex) (hI : IntsAre us b1N) (hs : 0 ≤ sd ∧ sd < 10000000000000000) (hl : l.length ≤ 8) (hb : AllBare s.gens) (hE : PassesOwn (model RP w) A (cEnv L) E)
    (hq : ∀ s' l' r' pu' to' t1 t3 t4 t5 sz, cutL (vvG e0 f sc) sd 20 l [] 0 0 = (l', r', pu', to') → Fr h₀ L s'.heap (mC (.str (tx l') t1) (.ref Z) (.int sd t2) (some (.ref D)) (some (.str (tx r') t3)) (some (.int pu' t4)) (some (.int to' t5)) sz) → News h₀ L s'.heap ex → AllBare s'.gens → s'.drawn = s.drawn → s'.os = s.os → Q .next s') :
    wpAny (model RP w) A (exec (cSt 4) (cEnv L)) Q E s := by
  rw [cfor]
  refine owit_for ?_ (by intro _; rfl) hE
  refine c_evcall hh F X N T ?_
  refine c_call F X N T hroom ?_
  intro Lg G oL gob h' tk' F1 N1 lt hL hG eL eG nI ig n1 n2 FL
  refine wpAny_pyIter_gen ig ?_
  refine OwitAt.intro ?_
  refine c_loop (t2 := t2) (vv := vvG e0 f sc) (Lg := Lg) (Z := Z) (zo := zo) (g := s.gens.size) (k := 44) hh hroom X T hD hI hs (vvG_bound hf hsc) 20 _ l [] 0 0 t1 t3 t4 t5 none ?_ (by omega) (by decide) (by omega) rfl (by simp; omega) ?_
  · refine ⟨F1, N1, lt, hL, n1, z, ⟨gob, eG, nI⟩, ⟨fun q => Nat.lt_irrefl _ (Nat.lt_trans hL (q ▸ hG)), fun q => Nat.lt_irrefl _ (q ▸ hG), n2⟩, ig, ?_, hb.push rfl⟩
    refine ⟨[(Lg, oL)], .fresh (.func (fnBody (stmt 2)) (gEnv Lg)), ?_, Array.getElem?_push_size .., ?_⟩
    · intro p hp
      rcases List.mem_cons.mp hp with rfl | hp
      · exact ⟨eL, fun q => Nat.lt_irrefl _ (q ▸ hL), n1⟩
      · cases hp
    · intro _ s'' q1 q2 q3
      refine ⟨rfl, ?_⟩
      exact g_first (A := A.in1) hh X T hz hr ⟨ns_same FL.ns eL (q1 _ (List.mem_cons_self ..)), q3, FL.above⟩ q2 ⟨fun q => Nat.lt_irrefl _ (lt _ z |> fun u => q ▸ u), (N1 _ z).2.2⟩
  · intro s' l' r' pu' to' u1 u3 u4 u5 sz hc F' N' B' d' o'
    exact hq s' l' r' pu' to' u1 u3 u4 u5 sz hc F' N' B' d' o'
end
end Mine
end
section
set_option linter.unusedVariables false
set_option maxRecDepth 100000
open PySem PySem.W PyProof.Rows PyProof.V
set_option Elab.async false
namespace Mine
theorem cutL_len {vv : Nat → Option Int} {sd : Int} (hv : ∀ n x, vv n = some x → 1 ≤ x ∧ x ≤ 4) : ∀ (n : Nat) (l r : List Nat) (pu to : Int) (l' r' : List Nat) (pu' to' : Int), cutL vv sd n l r pu to = (l', r', pu', to') → l'.length ≤ l.length ∧ r'.length ≤ r.length + 2 * l.length
  | 0, l, r, pu, to, l', r', pu', to', h => by
    simp only [cutL, Prod.mk.injEq] at h
    obtain ⟨rfl, rfl, _⟩ := h
    omega
  | n + 1, l, r, pu, to, l', r', pu', to', h => by
    rw [cutL] at h
    cases q : vv (n + 1) with
    | none =>
      rw [q] at h
      simp only [Prod.mk.injEq] at h
      obtain ⟨rfl, rfl, _⟩ := h
      omega
    | some x =>
      have hx := hv _ _ q
      rw [q] at h
      dsimp only at h
      split at h
      · simp only [Prod.mk.injEq] at h
        obtain ⟨rfl, rfl, _⟩ := h
        omega
      · have := cutL_len hv n _ _ _ _ _ _ _ _ h
        simp only [List.length_take, List.length_cons, List.length_append, List.length_drop] at this
        omega
theorem mC_entry (a b c : Value) (y : Str) : List.lookup y [(Str.ofString "seed", c), (Str.ofString "sizes", b), (Str.ofString "typed", a)] = mC a b c none none none none none y := by
  by_cases h1 : y = Str.ofString "seed"
  · subst h1; kernel_rfl
  by_cases h2 : y = Str.ofString "sizes"
  · subst h2; kernel_rfl
  by_cases h3 : y = Str.ofString "typed"
  · subst h3; kernel_rfl
  unfold mC
  simp only [List.lookup_cons, beq_false_of_ne h1, beq_false_of_ne h2, beq_false_of_ne h3, if_neg h1, if_neg h2, if_neg h3]
  simp
theorem mem_skip {α : Type} {p a b : α} {r : List α} (h : p ∈ a :: r) : p ∈ a :: b :: r := by
  rcases List.mem_cons.mp h with rfl | h
  · exact List.mem_cons_self ..
  · exact List.mem_cons_of_mem _ (List.mem_cons_of_mem _ h)
set_option maxHeartbeats 1000000 in
theorem cut_spec {w : World} {mean : ExcName → Option Value} {mg mb : Str → Option Value} {news : List (Addr × Obj)} {l : List Nat} {t1 t2 : Tok} {Z : Addr} {zo : Obj} {items : Array Value} {sd f sc : Int} {e0 : Bool}
    {dp un : Nat} {gd : Option (List Code)} {cn : Str} {cs : Scope} {a : Addr} {ccd : Value} {cl : List (Str × Addr)} {outer : List Env} {A₀ : Around} {base h₀ : Heap} {L : Addr} {m : Str → Option Value} {s : Shared} {Q E : Value → Shared → Prop}
    (B : Below A₀ base outer h₀) (F : Fr h₀ L s.heap m) (X : (K w.params).In h₀) (N : News h₀ L s.heap news) (T : Top qv looseF mean mg mb h₀) (hk : cs.kind = .function)
    (z : (Z, zo) ∈ news) (hz : zo.cls = .type "list" ∧ ∃ k, zo.data = .seq items k) (hr : Row e0 f sc items) (hf : 1 ≤ f ∧ f ≤ 4) (hsc : 1 ≤ sc ∧ sc ≤ 4) (hs : 0 ≤ sd ∧ sd < 10000000000000000) (hl : l.length ≤ 8) (hb : AllBare s.gens)
    (hd : dp + 4 < recursionLimit) (hu : un + 60 < cLine)
    (h : ∀ D c t t4 t5 h' tk' gens' l' r' pu' to', cutL (vvG e0 f sc) sd 20 l [] 0 0 = (l', r', pu', to') → Fr h₀ L h' m → News h₀ L h' ((D, PySem.W.listOf #[.str (tx (l' ++ r')) t, .int pu' t4, .int to' t5] c) :: news) → AllBare gens' → Q (.ref D) { heap := h', gens := gens', drawn := s.drawn, toks := tk', os := s.os }) :
    wpAny (model PySem.Challenge.rw_pe0193_01.row.prog w) (ktrTop dp un gd cn cs L a ccd cl outer) (call (.ref 120) [.str (tx l) t1, .ref Z, .int sd t2]) Q E s := by
  revert X
  k_fill
  intro X
  w_on
  k_with_none
  refine wpAny_call ?_
  k_dflt cell_enter
  rename_i g' L' h1 FG F1 N1 B1 X1 T1
  have F2 : Fr g' L' h1 (mC (.str (tx l) t1) (.ref Z) (.int sd t2) none none none none none) := by
    refine fr_m F1 ?_
    funext y
    exact (congrArg (List.lookup y) (show _ = [(Str.ofString "seed", Value.int sd t2), (Str.ofString "sizes", Value.ref Z), (Str.ofString "typed", Value.str (tx l) t1)] from by kernel_rfl)).trans (mC_entry _ _ _ y)
  clear F1
  rw [cfun]
  refine wpAny_execs_cons ?_
  refine @c_nothing w mean mg mb _ g' L' ⟨h1, s.gens, s.drawn, _, s.os⟩ news _ _ (.str (tx l) t1) (.ref Z) (.int sd t2) none none none none none rfl F2 X1 N1 T1 ?_
  intro D us c h2 tk2 F3 N3 hI
  refine @c_init w mean mg mb _ g' L' ⟨h2, s.gens, s.drawn, tk2, s.os⟩ _ _ _ (.str (tx l) t1) (.ref Z) (.int sd t2) (some (.ref D)) none none none none _ rfl F3 X1 N3 T1 ?_
  intro t3 t4 t5 h3 tk3 F4 N4
  refine wpAny_execs_cons ?_
  refine @c_for w mean mg mb _ g' L' Z D ⟨h3, s.gens, s.drawn, tk3, s.os⟩ zo _ _ _ e0 f sc sd l items t1 t2 t3 t4 t5 us c rfl ?rm F4 X1 N4 T1 (List.mem_cons_of_mem _ z) hz hr hf hsc (List.mem_cons_self ..) hI hs hl hb ?pe ?_
  case rm => show dp + 1 < recursionLimit; omega
  case pe => passes_own
  intro s5 l' r' pu' to' u1 u3 u4 u5 sz hc F5 N5 B5 d5 o5
  have hlen := cutL_len (vvG_bound hf hsc) 20 l [] 0 0 l' r' pu' to' hc
  simp only [List.length_nil] at hlen
  refine @c_ret w mean mg mb _ g' L' s5 _ _ _ (.ref Z) (.int sd t2) (some (.ref D)) sz l' r' pu' to' u1 u3 u4 u5 rfl F5 X1 N5 T1 ⟨by rw [tx_length]; omega, by rw [tx_length]; omega⟩ ?_
  intro D6 c6 t6 h6 tk6 m6 F6 N6 lt6
  refine ⟨_, _, _, F6, N6, fun F7 N7 => ?_⟩
  obtain ⟨h5, g5, dr5, tk5, os5⟩ := s5
  obtain rfl : dr5 = s.drawn := d5
  obtain rfl : os5 = s.os := o5
  exact h D6 c6 t6 u4 u5 h6 tk6 g5 l' r' pu' to' hc F7 (fun p hp => N7 p (mem_skip hp)) B5
end Mine
end
section
set_option linter.unusedVariables false
set_option maxRecDepth 100000
open PySem PySem.W PyProof.Rows PyProof.V
set_option Elab.async false
namespace Mine
def c11Fd : FuncData := { name := Str.ofString "in_table_c11", qualname := Str.ofString "in_table_c11", params := fnParams (stmt 9), body := .stmts (fnBody (stmt 9)), scope := fnScope (stmt 9), globals := 3, closure := [], defaults := .none, kwdefaults := .none, doc := .none, pyModule := .str (Str.ofString "cpy313.stringprep") 210, annotations := none, code := .ref 98, closureTuple := .none, builtins := 0 }
theorem k99 (P : Params) : (K P).lookup 99 = some (o99a16 P) := by kernel_rfl
theorem c11Cell : (c11Fd.scope.names.all fun x => x.2 != .cell) = true := by kernel_rfl
theorem c11Bind (v : Value) : bindArgs c11Fd ⟨[v], []⟩ = pure [(Str.ofString "code", v)] := by kernel_rfl
def mV (v : Value) : Str → Option Value := fun y => if y = Str.ofString "code" then some v else none
theorem mV_new (v : Value) : (fun y => List.lookup y (List.reverse [(Str.ofString "code", v)])) = mV v := by
  funext y
  show List.lookup y [(Str.ofString "code", v)] = _
  unfold mV
  by_cases h : y = Str.ofString "code"
  · subst h; kernel_rfl
  · rw [List.lookup_cons, beq_false_of_ne h, if_neg h]
    simp
section
variable {w : World} {mean : ExcName → Option Value} {mg mb : Str → Option Value} {A : Around} {s : Shared} {E : Value → Shared → Prop}
set_option maxHeartbeats 1000000 in
/-- in_table_c11 of one sign, whatever else lies in the heap: all of it stays -/
theorem c11_keeps {Q : Value → Shared → Prop} {c : Nat} {t : Tok} (hroom : A.depth < recursionLimit) (X : (K w.params).In s.heap) (T : Top qv looseF mean mg mb s.heap)
    (h : ∀ h' tk', (∀ b o, s.heap.get? b = some o → h'.get? b = some o) → Q (.bool ((⟨#[c]⟩ : Str) == Str.ofString " ")) { s with heap := h', toks := tk' }) :
    wpAny (model PySem.Challenge.rw_pe0193_01.row.prog w) A (call (.ref 99) [.str ⟨#[c]⟩ t]) Q E s := by
  revert X
  k_fill
  intro X
  w_on
  k_with_none
  refine wpAny_call ?_
  refine codeAny_call_def (o := o99a16 w.params) (fd := c11Fd) (body := fnBody (stmt 9)) (binds := [(Str.ofString "code", Value.str ⟨#[c]⟩ t)]) hroom (X 99 _ (k99 _)) rfl T.nolimit (codeRec_of X (by kernel_rfl)) rfl (BindsTo.of_eq (c11Bind _)) ?c ?l ?_ (by kernel_rfl) (by kernel_rfl) (by kernel_rfl)
  case c =>
    intro x hx e
    have := List.all_eq_true.mp c11Cell x hx
    rw [e] at this
    cases this
  case l =>
    intro x hx
    rcases List.mem_cons.mp hx with rfl | hx
    · kernel_rfl
    · cases hx
  intro h1 ns keep
  rw [mV_new] at ns
  have F : Fr s.heap s.heap.objs.size h1 (mV (.str ⟨#[c]⟩ t)) := ⟨ns, keep, Nat.le_refl _⟩
  have N : News s.heap s.heap.objs.size h1 [] := News.nil
  show wpAny _ (A.deeper (envOf (Str.ofString "in_table_c11") (fnScope (stmt 9)) s.heap.objs.size 99 (.ref 98))) (execs (fnBody (stmt 9)) (envOf (Str.ofString "in_table_c11") (fnScope (stmt 9)) s.heap.objs.size 99 (.ref 98))) _ _ _
  clear ns keep
  k_steps
  exact h _ _ F.keep
end
end Mine
end
section
set_option linter.unusedVariables false
set_option maxRecDepth 100000
open PySem PySem.W PyProof.Rows PyProof.V
set_option Elab.async false
namespace Mine
def mL (l : List (Str × Value)) : Str → Option Value := fun y => List.lookup y l
theorem mL_cons (k : Str) (v : Value) (l : List (Str × Value)) : (fun y => if y = k then some v else mL l y) = mL ((k, v) :: l) := by
  funext y
  unfold mL
  rw [List.lookup_cons]
  by_cases h : y = k
  · rw [if_pos h, h, beq_self_eq_true]
  · rw [if_neg h, beq_false_of_ne h]
theorem mL_if {k : Str} {v : Value} {f : Str → Option Value} {l : List (Str × Value)} (h : ∀ y, f y = mL l y) : ∀ y, (if y = k then some v else f y) = mL ((k, v) :: l) y := fun y => by
  rw [← mL_cons k v l, h y]
def eV (n : Int) : Int := n.fmod 3
def fV (n : Int) : Int := 1 + (n.fdiv 3).fmod 4
def sV (n : Int) : Int := 1 + (n.fdiv 12).fmod 4
def aV (n : Int) : Int := (n.fdiv 48).fmod 5
def bV (n : Int) : Int := (n.fdiv 240).fmod 4
def vV (n : Int) : Int := (n.fdiv 960).fmod (16 ^ Int.toNat 8)
def dV (n : Int) : Int := (n.fdiv 960).fdiv (16 ^ Int.toNat 8)
abbrev iEnv (L : Addr) : Env := envOf (Str.ofString "_law_line_is_right") (fnScope (stmt 14)) L 125 (.ref 124)
def iSt (i : Nat) : Stmt := (fnBody (stmt 14)).getD i (.Pass default)
section
variable {w : World} {mean : ExcName → Option Value} {mg mb : Str → Option Value} {A : Around} {h₀ : Heap} {L : Addr} {s : Shared} {ex : List (Addr × Obj)} {E : Value → Shared → Prop}
set_option maxHeartbeats 1000000 in
theorem i_ints {Q : Flow → Shared → Prop} {n : Int} {t : Tok} {rest : List Stmt} (hn : 0 ≤ n ∧ n < 10000000000000000000000000) (F : Fr h₀ L s.heap (mL [(Str.ofString "n", .int n t)])) (X : (K w.params).In h₀) (N : News h₀ L s.heap ex) (T : Top qv looseF mean mg mb h₀)
    (h : ∀ t1 t2 t3 t4 t5 t6 t7 h' tk', Fr h₀ L h' (mL [(Str.ofString "seed", .int (dV n) t7), (Str.ofString "value", .int (vV n) t6), (Str.ofString "behind", .int (bV n) t5), (Str.ofString "ahead", .int (aV n) t4), (Str.ofString "second", .int (sV n) t3), (Str.ofString "first", .int (fV n) t2), (Str.ofString "ending", .int (eV n) t1), (Str.ofString "n", .int n t)]) → News h₀ L h' ex →
      wpAny (model PySem.Challenge.rw_pe0193_01.row.prog w) A (execs rest (iEnv L)) Q E { s with heap := h', toks := tk' }) :
    wpAny (model PySem.Challenge.rw_pe0193_01.row.prog w) A (execs (iSt 0 :: iSt 1 :: iSt 2 :: iSt 3 :: iSt 4 :: iSt 5 :: iSt 6 :: rest) (iEnv L)) Q E s := by
  obtain ⟨hn0, hn1⟩ := hn
  revert X
  k_fill
  intro X
  w_on
  k_with_none
  show wpAny _ _ (execs (Stmt.Assign _ _ _ :: Stmt.Assign _ _ _ :: Stmt.Assign _ _ _ :: Stmt.Assign _ _ _ :: Stmt.Assign _ _ _ :: Stmt.Assign _ _ _ :: Stmt.Assign _ _ _ :: rest) _) _ _ _
  k_steps
  (rename Fr _ _ _ _ => F9)
  exact h _ _ _ _ _ _ _ _ _ (fr_m F9 (funext (mL_if (mL_if (mL_if (mL_if (mL_if (mL_if (mL_if (fun _ => rfl)))))))))) (by assumption)
end
end Mine
end
section
set_option linter.unusedVariables false
set_option maxRecDepth 100000
open PySem PySem.W PyProof.Rows PyProof.V
set_option Elab.async false
namespace Mine
abbrev iA (dp un : Nat) (gd : Option (List Code)) (L : Addr) (outer : List Env) : Around := ktrTop dp un gd (Str.ofString "_law_line_is_right") (fnScope (stmt 14)) L 125 (.ref 124) [] outer
abbrev iM (n : Int) (t t1 t2 t3 t4 t5 t6 t7 : Tok) : List (Str × Value) := [(Str.ofString "seed", .int (dV n) t7), (Str.ofString "value", .int (vV n) t6), (Str.ofString "behind", .int (bV n) t5), (Str.ofString "ahead", .int (aV n) t4), (Str.ofString "second", .int (sV n) t3), (Str.ofString "first", .int (fV n) t2), (Str.ofString "ending", .int (eV n) t1), (Str.ofString "n", .int n t)]
theorem vV_bound (n : Int) (h : 0 ≤ n ∧ n < 10000000000000000000000000) : 0 ≤ vV n ∧ vV n < 4294967296 ∧ 0 ≤ dV n ∧ dV n < 10000000000000000 := by
  unfold vV dV
  rw [show (16 : Int) ^ Int.toNat 8 = 4294967296 from by decide]
  rw [Int.fdiv_eq_ediv_of_nonneg _ (by decide), Int.fmod_eq_emod_of_nonneg _ (by decide), Int.fdiv_eq_ediv_of_nonneg _ (by decide)]
  omega
section
variable {w : World} {mean : ExcName → Option Value} {mg mb : Str → Option Value} {A₀ : Around} {base h₀ : Heap} {L : Addr} {s : Shared} {ex : List (Addr × Obj)} {E : Value → Shared → Prop} {dp un : Nat} {gd : Option (List Code)} {outer : List Env}
local macro_rules | `(tactic| walk_at "call ref") => `(tactic| (k_here; (with_reducible show wpAny _ _ (call (Value.ref 113) _) _ _ _); (k_dflt (refine cl_use (typed_spec _ _ _ _ _ _ _ _ _) (by k_asm) (by k_asm) (by k_asm) (by k_asm) (by k_asm) (by first | exact rfl | assumption) (by assumption) (by ktr_room) (by ktr_units) ?_)); intro t9 h9 tk9 F9 N9; (try dsimp only); (try k_fold)))
set_option maxHeartbeats 1000000 in
theorem i_typed {Q : Flow → Shared → Prop} {n : Int} {t t1 t2 t3 t4 t5 t6 t7 : Tok} {rest : List Stmt} (hn : 0 ≤ vV n ∧ vV n < 4294967296 ∧ 0 ≤ dV n ∧ dV n < 10000000000000000) (hl : (typedS (vV n) (dV n)).length ≤ 8) (B : Below A₀ base outer h₀) (F : Fr h₀ L s.heap (mL (iM n t t1 t2 t3 t4 t5 t6 t7))) (X : (K w.params).In h₀) (N : News h₀ L s.heap ex) (T : Top qv looseF mean mg mb h₀) (hd : dp + 8 < recursionLimit) (hu : un + 100 < cLine)
    (h : ∀ t8 t9 h' tk', Fr h₀ L h' (mL ((Str.ofString "count", .int (typedS (vV n) (dV n)).length t9) :: (Str.ofString "typed", .str (typedS (vV n) (dV n)) t8) :: iM n t t1 t2 t3 t4 t5 t6 t7)) → News h₀ L h' ex →
      wpAny (model PySem.Challenge.rw_pe0193_01.row.prog w) (iA dp un gd L outer) (execs rest (iEnv L)) Q E { s with heap := h', toks := tk' }) :
    wpAny (model PySem.Challenge.rw_pe0193_01.row.prog w) (iA dp un gd L outer) (execs (iSt 7 :: iSt 8 :: rest) (iEnv L)) Q E s := by
  revert X
  k_fill
  intro X
  w_on
  k_with_none
  show wpAny _ _ (execs (Stmt.Assign _ _ _ :: Stmt.Assign _ _ _ :: rest) _) _ _ _
  k_steps
  (rename Fr _ _ _ _ => F9)
  exact h _ _ _ _ (fr_m F9 (funext (mL_if (mL_if (fun _ => rfl))))) (by assumption)
end
end Mine
end
section
set_option linter.unusedVariables false
set_option maxRecDepth 100000
open PySem PySem.W PyProof.Rows PyProof.V
set_option Elab.async false
namespace Mine
/-- the names behind the cutting's premises -/
abbrev iM2 (n : Int) (e : Int) (ct : Int) (ty : Str) (t t1 t2 t3 t4 t5 t6 t7 t8 t9 : Tok) : List (Str × Value) := [(Str.ofString "count", .int ct t9), (Str.ofString "typed", .str ty t8), (Str.ofString "seed", .int (dV n) t7), (Str.ofString "value", .int (vV n) t6), (Str.ofString "behind", .int (bV n) t5), (Str.ofString "ahead", .int (aV n) t4), (Str.ofString "second", .int (sV n) t3), (Str.ofString "first", .int (fV n) t2), (Str.ofString "ending", .int e t1), (Str.ofString "n", .int n t)]
section
variable {w : World} {mean : ExcName → Option Value} {mg mb : Str → Option Value} {A₀ : Around} {base h₀ : Heap} {L : Addr} {s : Shared} {ex : List (Addr × Obj)} {E : Value → Shared → Prop} {dp un : Nat} {gd : Option (List Code)} {outer : List Env}
set_option maxHeartbeats 1000000 in
theorem i_sizes0 {Q : Flow → Shared → Prop} {n ct : Int} {ty : Str} {t t1 t2 t3 t4 t5 t6 t7 t8 t9 : Tok} (B : Below A₀ base outer h₀) (F : Fr h₀ L s.heap (mL (iM2 n 0 ct ty t t1 t2 t3 t4 t5 t6 t7 t8 t9))) (X : (K w.params).In h₀) (N : News h₀ L s.heap ex) (T : Top qv looseF mean mg mb h₀)
    (h : ∀ Z c u1 u2 h' tk', Fr h₀ L h' (mL ((Str.ofString "sizes", .ref Z) :: iM2 n 0 ct ty t t1 t2 t3 t4 t5 t6 t7 t8 t9)) → News h₀ L h' ((Z, PySem.W.listOf #[.int (fV n) t2, .int (sV n) t3, .int 0 u1, .int 7 u2] c) :: ex) → Q .next { s with heap := h', toks := tk' }) :
    wpAny (model PySem.Challenge.rw_pe0193_01.row.prog w) (iA dp un gd L outer) (exec (iSt 9) (iEnv L)) Q E s := by
  revert X
  k_fill
  intro X
  w_on
  k_with_none
  show wpAny _ _ (exec (Stmt.Assign _ _ _) _) _ _ _
  k_steps
  (rename Fr _ _ _ _ => F9)
  exact h _ _ _ _ _ _ (fr_m F9 (funext (mL_if (fun _ => rfl)))) (cb_drop (by assumption) (by kcj_all))
set_option maxHeartbeats 1000000 in
theorem i_sizes1 {Q : Flow → Shared → Prop} {n ct : Int} {ty : Str} {t t1 t2 t3 t4 t5 t6 t7 t8 t9 : Tok} (B : Below A₀ base outer h₀) (F : Fr h₀ L s.heap (mL (iM2 n 1 ct ty t t1 t2 t3 t4 t5 t6 t7 t8 t9))) (X : (K w.params).In h₀) (N : News h₀ L s.heap ex) (T : Top qv looseF mean mg mb h₀)
    (h : ∀ Z c u1 u2 h' tk', Fr h₀ L h' (mL ((Str.ofString "sizes", .ref Z) :: iM2 n 1 ct ty t t1 t2 t3 t4 t5 t6 t7 t8 t9)) → News h₀ L h' ((Z, PySem.W.listOf #[.int (fV n) t2, .int (sV n) t3, .int 127 u1, .int 1 u2] c) :: ex) → Q .next { s with heap := h', toks := tk' }) :
    wpAny (model PySem.Challenge.rw_pe0193_01.row.prog w) (iA dp un gd L outer) (exec (iSt 9) (iEnv L)) Q E s := by
  revert X
  k_fill
  intro X
  w_on
  k_with_none
  show wpAny _ _ (exec (Stmt.Assign _ _ _) _) _ _ _
  k_steps
  (rename Fr _ _ _ _ => F9)
  exact h _ _ _ _ _ _ (fr_m F9 (funext (mL_if (fun _ => rfl)))) (cb_drop (by assumption) (by kcj_all))
set_option maxHeartbeats 1000000 in
theorem i_sizes2 {Q : Flow → Shared → Prop} {n ct : Int} {ty : Str} {t t1 t2 t3 t4 t5 t6 t7 t8 t9 : Tok} (B : Below A₀ base outer h₀) (F : Fr h₀ L s.heap (mL (iM2 n 2 ct ty t t1 t2 t3 t4 t5 t6 t7 t8 t9))) (X : (K w.params).In h₀) (N : News h₀ L s.heap ex) (T : Top qv looseF mean mg mb h₀)
    (h : ∀ Z c h' tk', Fr h₀ L h' (mL ((Str.ofString "sizes", .ref Z) :: iM2 n 2 ct ty t t1 t2 t3 t4 t5 t6 t7 t8 t9)) → News h₀ L h' ((Z, PySem.W.listOf #[.int (fV n) t2, .int (sV n) t3] c) :: ex) → Q .next { s with heap := h', toks := tk' }) :
    wpAny (model PySem.Challenge.rw_pe0193_01.row.prog w) (iA dp un gd L outer) (exec (iSt 9) (iEnv L)) Q E s := by
  revert X
  k_fill
  intro X
  w_on
  k_with_none
  show wpAny _ _ (exec (Stmt.Assign _ _ _) _) _ _ _
  k_steps
  (rename Fr _ _ _ _ => F9)
  exact h _ _ _ _ (fr_m F9 (funext (mL_if (fun _ => rfl)))) (cb_drop (by assumption) (by kcj_all))
end
end Mine
end
section
set_option linter.unusedVariables false
set_option maxRecDepth 100000
open PySem PySem.W PyProof.Rows PyProof.V
set_option Elab.async false
namespace Mine
section
variable {w : World} {mean : ExcName → Option Value} {mg mb : Str → Option Value} {A₀ : Around} {base h₀ : Heap} {L : Addr} {s : Shared} {ex : List (Addr × Obj)} {E : Value → Shared → Prop} {dp un : Nat} {gd : Option (List Code)} {outer : List Env}
local macro_rules | `(tactic| walk_at "call ref") => `(tactic| (k_here; (with_reducible show wpAny _ _ (call (Value.ref 120) _) _ _ _); (k_dflt (refine cut_spec (by k_asm) (by k_asm) (by k_asm) (by k_asm) (by k_asm) (by exact rfl) (by assumption) (by assumption) (by assumption) (by assumption) (by assumption) (by assumption) (by assumption) (by assumption) (by ktr_room) (by ktr_units) ?_)); intro D9 c9 u9 u4 u5 h9 tk9 gens9 l9 r9 pu9 to9 hc9 F9 N9 B9; (try dsimp only); (try k_fold)))
set_option maxHeartbeats 1000000 in
theorem i_cut {Q : Flow → Shared → Prop} {n e ct : Int} {l : List Nat} {e0 : Bool} {items : Array Value} {Z : Addr} {zo : Obj} {t t1 t2 t3 t4 t5 t6 t7 t8 t9 : Tok} (B : Below A₀ base outer h₀) (F : Fr h₀ L s.heap (mL ((Str.ofString "sizes", .ref Z) :: iM2 n e ct (tx l) t t1 t2 t3 t4 t5 t6 t7 t8 t9))) (X : (K w.params).In h₀) (N : News h₀ L s.heap ex) (T : Top qv looseF mean mg mb h₀)
    (z : (Z, zo) ∈ ex) (hz : zo.cls = .type "list" ∧ ∃ k, zo.data = .seq items k) (hr : Row e0 (fV n) (sV n) items) (hf : 1 ≤ fV n ∧ fV n ≤ 4) (hsc : 1 ≤ sV n ∧ sV n ≤ 4) (hs : 0 ≤ dV n ∧ dV n < 10000000000000000) (hl : l.length ≤ 8) (hb : AllBare s.gens)
    (hd : dp + 8 < recursionLimit) (hu : un + 100 < cLine)
    (h : ∀ l' r' pu to u1 u2 u3 h' tk' gens', cutL (vvG e0 (fV n) (sV n)) (dV n) 20 l [] 0 0 = (l', r', pu, to) → Fr h₀ L h' (mL ((Str.ofString "told", .int to u3) :: (Str.ofString "put", .int pu u2) :: (Str.ofString "written", .str (tx (l' ++ r')) u1) :: (Str.ofString "sizes", .ref Z) :: iM2 n e ct (tx l) t t1 t2 t3 t4 t5 t6 t7 t8 t9)) → News h₀ L h' ex → AllBare gens' → Q .next { heap := h', gens := gens', drawn := s.drawn, toks := tk', os := s.os }) :
    wpAny (model PySem.Challenge.rw_pe0193_01.row.prog w) (iA dp un gd L outer) (exec (iSt 10) (iEnv L)) Q E s := by
  revert X
  k_fill
  intro X
  w_on
  k_with_none
  show wpAny _ _ (exec (Stmt.Assign _ _ _) _) _ _ _
  k_steps
  (rename Fr _ _ _ _ => F9)
  exact h _ _ _ _ _ _ _ _ _ _ (by assumption) (fr_m F9 (funext (mL_if (mL_if (mL_if (fun _ => rfl)))))) (cb_drop (by assumption) (by kcj_all)) (by assumption)
end
end Mine
end
section
set_option linter.unusedVariables false
set_option maxRecDepth 100000
open PySem PySem.W PyProof.Rows PyProof.V
set_option Elab.async false
namespace Mine
abbrev iM3 (n e ct : Int) (ty wr : Str) (pu to : Int) (Z : Addr) (t t1 t2 t3 t4 t5 t6 t7 t8 t9 u1 u2 u3 : Tok) : List (Str × Value) := (Str.ofString "told", .int to u3) :: (Str.ofString "put", .int pu u2) :: (Str.ofString "written", .str wr u1) :: (Str.ofString "sizes", .ref Z) :: iM2 n e ct ty t t1 t2 t3 t4 t5 t6 t7 t8 t9
def lV (n pu : Int) : Int := if aV n - pu > 0 then aV n - pu else 0
def rV (n pu : Int) : Int := if (bV n - if pu - aV n > 0 then pu - aV n else 0) > 0 then bV n - if pu - aV n > 0 then pu - aV n else 0 else 0
section
variable {w : World} {mean : ExcName → Option Value} {mg mb : Str → Option Value} {A₀ : Around} {base h₀ : Heap} {L : Addr} {s : Shared} {ex : List (Addr × Obj)} {E : Value → Shared → Prop} {dp un : Nat} {gd : Option (List Code)} {outer : List Env}
local macro_rules | `(tactic| walk_at "my mark") => `(tactic| fail)
local macro_rules | `(tactic| walk_at "call ref") => `(tactic| (k_here; (with_reducible show wpAny _ _ (call (Value.ref 28) _) _ _ _); (k_dflt (refine cl_use (strip_spec _ _ _ _ _ _ _ _ _ _ _ _) (by k_asm) (by k_asm) (by k_asm) (by k_asm) (by k_asm) (by first | exact rfl | assumption) (by assumption) (by ktr_room) (by ktr_units) ?_)); intro t9 h9 tk9 F9 N9; (try dsimp only); (try k_fold)))
set_option maxHeartbeats 1000000 in
theorem i_line {Q : Flow → Shared → Prop} {n e ct pu to : Int} {ty wr : Str} {Z : Addr} {t t1 t2 t3 t4 t5 t6 t7 t8 t9 u1 u2 u3 : Tok} (B : Below A₀ base outer h₀) (F : Fr h₀ L s.heap (mL (iM3 n e ct ty wr pu to Z t t1 t2 t3 t4 t5 t6 t7 t8 t9 u1 u2 u3))) (X : (K w.params).In h₀) (N : News h₀ L s.heap ex) (T : Top qv looseF mean mg mb h₀)
    (ha : 0 ≤ aV n ∧ aV n ≤ 4) (hb : 0 ≤ bV n ∧ bV n ≤ 3) (hw : wr.length ≤ 100) (hd : dp + 8 < recursionLimit) (hu : un + 100 < cLine) {a b : Nat} {m : List Nat} (hS : StripOk (Txt.mul (Str.ofString " ") (aV n) ++ wr ++ Txt.mul (Str.ofString " ") (bV n)) a b m pu)
    (h : ∀ v1 h' tk', Fr h₀ L h' (mL ((Str.ofString "line", .str (tx (stripL a b m pu.toNat)) v1) :: iM3 n e ct ty wr pu to Z t t1 t2 t3 t4 t5 t6 t7 t8 t9 u1 u2 u3)) → News h₀ L h' ex → Q .next { s with heap := h', toks := tk' }) :
    wpAny (model PySem.Challenge.rw_pe0193_01.row.prog w) (iA dp un gd L outer) (exec (iSt 11) (iEnv L)) Q E s := by
  obtain ⟨ha0, ha1⟩ := ha
  obtain ⟨hb0, hb1⟩ := hb
  revert X
  k_fill
  intro X
  w_on
  k_with_none
  show wpAny _ _ (exec (Stmt.Assign _ _ _) _) _ _ _
  k_steps
  (rename Fr _ _ _ _ => F9)
  exact h _ _ _ (fr_m F9 (funext (mL_if (fun _ => rfl)))) (by assumption)
set_option maxHeartbeats 1000000 in
theorem i_sides {Q : Flow → Shared → Prop} {n e ct pu to : Int} {ty wr li : Str} {Z : Addr} {t t1 t2 t3 t4 t5 t6 t7 t8 t9 u1 u2 u3 v1 : Tok} {rest : List Stmt} (B : Below A₀ base outer h₀) (F : Fr h₀ L s.heap (mL ((Str.ofString "line", .str li v1) :: iM3 n e ct ty wr pu to Z t t1 t2 t3 t4 t5 t6 t7 t8 t9 u1 u2 u3))) (X : (K w.params).In h₀) (N : News h₀ L s.heap ex) (T : Top qv looseF mean mg mb h₀)
    (ha : 0 ≤ aV n ∧ aV n ≤ 4) (hb : 0 ≤ bV n ∧ bV n ≤ 3) (hp : 0 ≤ pu ∧ pu ≤ 8) (hd : dp + 8 < recursionLimit) (hu : un + 100 < cLine)
    (h : ∀ v2 v3 h' tk', Fr h₀ L h' (mL ((Str.ofString "right", .int (rV n pu) v3) :: (Str.ofString "left", .int (lV n pu) v2) :: (Str.ofString "line", .str li v1) :: iM3 n e ct ty wr pu to Z t t1 t2 t3 t4 t5 t6 t7 t8 t9 u1 u2 u3)) → News h₀ L h' ex → wpAny (model PySem.Challenge.rw_pe0193_01.row.prog w) (iA dp un gd L outer) (execs rest (iEnv L)) Q E { s with heap := h', toks := tk' }) :
    wpAny (model PySem.Challenge.rw_pe0193_01.row.prog w) (iA dp un gd L outer) (execs (iSt 12 :: iSt 13 :: rest) (iEnv L)) Q E s := by
  obtain ⟨ha0, ha1⟩ := ha
  obtain ⟨hb0, hb1⟩ := hb
  obtain ⟨hp0, hp1⟩ := hp
  revert X
  k_fill
  intro X
  w_on
  k_with_none
  show wpAny _ _ (execs (Stmt.Assign _ _ _ :: Stmt.Assign _ _ _ :: rest) _) _ _ _
  k_steps
  (rename Fr _ _ _ _ => F9)
  exact h _ _ _ _ (fr_m F9 (funext (mL_if (mL_if (fun _ => rfl))))) (by assumption)
end
end Mine
end
section
set_option linter.unusedVariables false
set_option maxRecDepth 100000
open PySem PySem.Calls PySem.W PyProof.Rows PyProof.V
set_option Elab.async false
namespace Mine
def asgE : Stmt → PySem.Expr
  | .Assign _ e _ => e
  | _ => .Constant .none 0 default
def lcElt : PySem.Expr → PySem.Expr
  | .ListComp e _ _ _ => e
  | _ => .Constant .none 0 default
def lcScope : PySem.Expr → Scope
  | .ListComp _ _ s _ => s
  | _ => fnScope (stmt 14)
def lcE : PySem.Expr := lcElt (asgE (iSt 14))
def lcS : Scope := lcScope (asgE (iSt 14))
def callF : PySem.Expr → Pos
  | .Call f _ _ _ => f.pos
  | _ => default
def callA : PySem.Expr → Pos
  | .Call _ (a :: _) _ _ => a.pos
  | _ => default
theorem lcE_eq : lcE = .Call (.Name (Str.ofString "in_table_c11") (callF lcE)) [.Name (Str.ofString "sign") (callA lcE)] [] lcE.pos := by kernel_rfl
section
variable {w : World} {mean : ExcName → Option Value} {mg mb : Str → Option Value} {A : Around} {s : Shared} {E : Value → Shared → Prop} {L : Addr}
theorem elt_c11 {Q : Value → Shared → Prop} {C : Addr} {m : Str → Option Value} {c : Nat} {u : Tok} (hroom : A.depth < recursionLimit) (X : (K w.params).In s.heap) (T : Top qv looseF mean mg mb s.heap) (hn : s.heap.Ns C m) (hm : m (Str.ofString "sign") = some (.str ⟨#[c]⟩ u))
    (h : ∀ h' tk', (∀ b o, s.heap.get? b = some o → h'.get? b = some o) → Q (.bool ((⟨#[c]⟩ : Str) == Str.ofString " ")) { s with heap := h', toks := tk' }) :
    wpAny (model PySem.Challenge.rw_pe0193_01.row.prog w) A (eval lcE (compEnv lcS C (iEnv L))) Q E s := by
  rw [lcE_eq]
  refine Call_ ?_
  refine Name_function_global (by kernel_rfl) (by kernel_rfl) (loadGlobal_global (env := compEnv lcS C (iEnv L)) T.g (mg_of X T.g (show nsIn (K w.params) mainGlobals (Str.ofString "in_table_c11") = some (some (.ref 99)) by kernel_rfl)) ?_) (by decide)
  refine Calls.callWith_function (o := o99a16 w.params) (fd := c11Fd) ?_
  refine evalArgs_plain ?_
  refine spliced_cons (wpAny_Name (wpAny_loadName_local (by kernel_rfl) (by kernel_rfl) hn hm ?_) (by decide))
  refine spliced_nil ⟨⟨X 99 _ (k99 _), rfl⟩, ?_⟩
  exact c11_keeps hroom X T h
end
end Mine
end
section
set_option linter.unusedVariables false
set_option maxRecDepth 100000
open PySem PySem.Calls PySem.W PyProof.Rows PyProof.V
set_option Elab.async false
namespace Mine
def lcPos : PySem.Expr → Pos
  | .ListComp _ _ _ p => p
  | _ => default
def lcTgt : PySem.Expr → Pos
  | .ListComp _ (⟨.Name _ p, _, _, _⟩ :: _) _ _ => p
  | _ => default
def lcIt : PySem.Expr → Pos
  | .ListComp _ (⟨_, .Name _ p, _, _⟩ :: _) _ _ => p
  | _ => default
def asgP : Stmt → Pos
  | .Assign (.Name _ p :: _) _ _ => p
  | _ => default
theorem i14 : iSt 14 = .Assign [.Name (Str.ofString "blanks") (asgP (iSt 14))] (.ListComp lcE [⟨.Name (Str.ofString "sign") (lcTgt (asgE (iSt 14))), .Name (Str.ofString "line") (lcIt (asgE (iSt 14))), [], 0⟩] lcS (lcPos (asgE (iSt 14)))) (iSt 14).pos := by kernel_rfl
theorem lc_free : (lcS.names.all fun x => x.2 != .free) = true := by kernel_rfl
theorem lc_cell : (lcS.names.all fun x => x.2 != .cell) = true := by kernel_rfl
theorem lc_loc : (lcS.names.all fun x => x.2 != .local || lcS.names.lookup x.1 == some .local) = true := by kernel_rfl
theorem lc_swap (L : Addr) : swapsWith (.ListComp lcE [⟨.Name (Str.ofString "sign") (lcTgt (asgE (iSt 14))), .Name (Str.ofString "line") (lcIt (asgE (iSt 14))), [], 0⟩] lcS (lcPos (asgE (iSt 14)))) (some (.Name (Str.ofString "blanks") (asgP (iSt 14)))) (iSt 14).pos.line (iEnv L) = pure true := by kernel_rfl
def isB (c : Nat) : Bool := (⟨#[c]⟩ : Str) == Str.ofString " "
theorem paired_map {x : Str} : ∀ (vs : List Value) (ys : List Value) (k : Nat) (cs : List Nat), Paired (fun (v y : Value) => ∀ (c : Nat) (u : Tok), v = Value.str ⟨#[c]⟩ u → y = Value.bool (isB c)) vs ys → vs.length = cs.length → (∀ (j : Nat) (v : Value), vs[j]? = some v → ∃ (c : Nat) (u : Tok), cs[j]? = some c ∧ v = Value.str ⟨#[c]⟩ u) → ys = cs.map fun c => Value.bool (isB c)
  | [], _, _, [], .nil, _, _ => rfl
  | v :: vs, y :: ys, k, c :: cs, .cons h1 h2, hl, hv => by
    obtain ⟨c', u, e1, e2⟩ := hv 0 v rfl
    simp at e1
    subst e1
    rw [List.map_cons, h1 _ _ e2, paired_map (x := x) vs ys (k + 1) cs h2 (by simpa using hl) fun j v hj => by simpa using hv (j + 1) v (by simpa using hj)]
section
variable {w : World} {mean : ExcName → Option Value} {mg mb : Str → Option Value} {A : Around} {h₀ : Heap} {s : Shared} {E : Value → Shared → Prop} {L : Addr} {ex : List (Addr × Obj)}
theorem i_blanks {Q : Flow → Shared → Prop} {M : List (Str × Value)} {li : List Nat} {v1 : Tok} (hh : A.handled = none) (hroom : A.depth < recursionLimit) (F : Fr h₀ L s.heap (mL M)) (hM : mL M (Str.ofString "line") = some (.str (tx li) v1)) (X : (K w.params).In h₀) (N : News h₀ L s.heap ex) (T : Top qv looseF mean mg mb h₀) (hl : li.length ≤ 1000)
    (h : ∀ D c h' tk', Fr h₀ L h' (mL ((Str.ofString "blanks", .ref D) :: M)) → News h₀ L h' ((D, PySem.W.listOf (li.map fun c => Value.bool (isB c)).toArray c) :: ex) → Q .next { s with heap := h', toks := tk' }) :
    wpAny (model PySem.Challenge.rw_pe0193_01.row.prog w) A (exec (iSt 14) (iEnv L)) Q E s := by
  rw [i14]
  have hsz : (tx li).cps.size = li.length := by simp [tx]
  have n0 : ∀ a, s.heap.objs.size ≤ a → h₀.get? a = none := fun a ha => by
    cases q : h₀.get? a with
    | none => rfl
    | some o => exact absurd (Heap.lt_size (F.keep _ _ q)) (Nat.not_lt.mpr ha)
  refine wpAny_Assign_ListComp_walk (fun _ => true) (fun (v y : Value) => ∀ (c : Nat) (u : Tok), v = Value.str ⟨#[c]⟩ u → y = Value.bool (isB c)) (lc_swap L) ?_ ?_ (by kernel_rfl) ?_ (by kernel_rfl) (by kernel_rfl) (by kernel_rfl) ?_
  · intro z hz e
    have := List.all_eq_true.mp lc_free z hz
    rw [e] at this
    cases this
  · intro z hz e
    have := List.all_eq_true.mp lc_cell z hz
    rw [e] at this
    cases this
  · intro z hz e
    have := List.all_eq_true.mp lc_loc z hz
    rw [e] at this
    simpa using this
  refine wpAny_Name (wpAny_loadName_local (by kernel_rfl) (by kernel_rfl) F.ns hM ?_) (by decide)
  refine wpAny_pyIter_str fun o St W st => ?_
  refine ⟨s.heap.objs.size, [s.heap.objs.size], [s.heap.objs.size], (tx li).cps.size, SignAt (tx li), St, mL M, rfl, W A hh, ?_, st, ?_, ?_, F.ns.push _, ⟨?_, ?_⟩, ?_⟩
  · rw [hsz, sizeLine_eq]; omega
  · intro b hb
    rw [List.mem_singleton.mp hb, Heap.size_push]
    exact Nat.lt_succ_self _
  · intro hb
    have := F.ns.lt
    rw [show (iEnv L).locals = L from rfl] at hb
    rw [List.mem_singleton.mp hb] at this
    exact Nat.lt_irrefl _ this
  · intro C i v s₃ m₃ E' _ _ _ _ _
    exact wpAny_pure ⟨rfl, s₃.heap, s₃.toks, rfl, fun _ _ e => e⟩
  · intro C i v s₃ m₃ E' hP _ hn hm hk _
    obtain ⟨c, u, e1, rfl⟩ := hP
    have kp : ∀ b o, h₀.get? b = some o → s₃.heap.get? b = some o := fun b o e =>
      hk b o (fun hb => by rw [List.mem_singleton.mp hb, n0 _ (Nat.le_refl _)] at e; cases e) (Heap.get?_push_of_some _ (F.keep b o e))
    refine elt_c11 hroom (X.keeps kp) (T.keeps kp) hn hm fun h' tk' kp' => ⟨?_, h', tk', rfl, kp'⟩
    intro c' u' e
    cases e
    rfl
  · intro D h' tk ys vs hD hl' hpl hlen hP hF hns hk
    have e : ys.toList = li.map fun c => Value.bool (isB c) := by
      refine paired_map (x := tx li) vs ys.toList 0 li (by rw [filter_true'] at hF; exact hF) (by rw [hlen, hsz]) fun j v hj => ?_
      obtain ⟨c, u, e1, e2⟩ := hP j v hj
      exact ⟨c, u, by simpa [tx] using e1, e2⟩
    obtain ⟨k, ek⟩ := hpl
    have kp : ∀ b o, b ≠ L → s.heap.get? b = some o → h'.get? b = some o := fun b o hb e =>
      hk b o hb (fun q => by rw [List.mem_singleton.mp q] at e; exact Nat.lt_irrefl _ (Heap.lt_size e)) (Heap.get?_push_of_some _ e)
    refine h D k h' tk ?_ ?_
    · exact fr_m ⟨hns, fun b o e => kp b o (Nat.ne_of_lt (Nat.lt_of_lt_of_le (Heap.lt_size e) F.above)) (F.keep b o e), F.above⟩ (mL_cons ..)
    · intro p hp
      rcases List.mem_cons.mp hp with rfl | hp
      · refine ⟨?_, ?_, ?_⟩
        · show h'.get? D = some (PySem.W.listOf _ _)
          rw [← e]
          exact ek
        · intro q
          obtain ⟨oL, es, ep, eL, _⟩ := id F.ns
          have q' : D = L := q
          subst q'
          rw [Heap.get?_push_of_some _ eL] at hD
          cases hD
        · show h₀.get? D = none
          cases q : h₀.get? D with
          | none => rfl
          | some o' =>
            rw [Heap.get?_push_of_some _ (F.keep _ _ q)] at hD
            cases hD
      · exact ⟨kp _ _ (N p hp).2.1 (N p hp).1, (N p hp).2⟩
end
end Mine
end
section
set_option linter.unusedVariables false
set_option maxRecDepth 100000
open PySem PySem.W PyProof.Rows PyProof.V
set_option Elab.async false
namespace Mine
/-! the line read from its end -/
def hexT : Str := Str.ofString "0123456789abcdef"
def digV (c : Nat) : Int := Txt.find hexT (b3S c)
def scanS (st : List Int × Int × Int) (c : Nat) : List Int × Int × Int :=
  if b1L.contains (c : Int) then (st.1 ++ [st.2.1], st.2.1, st.2.2)
  else if isB c then st else (st.1, st.2.1 + 1, st.2.2 + digV c * 16 ^ st.2.1.toNat)
def Fig (c : Nat) : Prop := b1L.contains (c : Int) = false ∧ isB c = false
theorem fig_nat : ∀ i, i < 16 → ∀ j, j < 12 → (b1L.contains (figC (i : Nat) (j : Nat) : Int) = false ∧ isB (figC (i : Nat) (j : Nat)) = false) := by decide +kernel
theorem dig_lo : ∀ i, i < 10 → digV (48 + i) = (i : Int) := by decide +kernel
theorem dig_pl : ∀ i, i < 6 → digV (97 + i) = (10 + i : Int) := by decide +kernel
theorem dig_a0 : ∀ i, i < 6 → digV ((figTab.getD 0 0).toNat + i) = (10 + i : Int) := by decide +kernel
theorem dig_a1 : ∀ i, i < 6 → digV ((figTab.getD 1 0).toNat + i) = (10 + i : Int) := by decide +kernel
theorem dig_a2 : ∀ i, i < 6 → digV ((figTab.getD 2 0).toNat + i) = (10 + i : Int) := by decide +kernel
theorem dig_a3 : ∀ i, i < 6 → digV ((figTab.getD 3 0).toNat + i) = (10 + i : Int) := by decide +kernel
theorem dig_a4 : ∀ i, i < 6 → digV ((figTab.getD 4 0).toNat + i) = (10 + i : Int) := by decide +kernel
theorem dig_a5 : ∀ i, i < 6 → digV ((figTab.getD 5 0).toNat + i) = (10 + i : Int) := by decide +kernel
theorem dig_a6 : ∀ i, i < 6 → digV ((figTab.getD 6 0).toNat + i) = (10 + i : Int) := by decide +kernel
theorem dig_a7 : ∀ i, i < 6 → digV ((figTab.getD 7 0).toNat + i) = (10 + i : Int) := by decide +kernel
theorem dig_a8 : ∀ i, i < 6 → digV ((figTab.getD 8 0).toNat + i) = (10 + i : Int) := by decide +kernel
theorem dig_a9 : ∀ i, i < 6 → digV ((figTab.getD 9 0).toNat + i) = (10 + i : Int) := by decide +kernel
theorem dig_a10 : ∀ i, i < 6 → digV ((figTab.getD 10 0).toNat + i) = (10 + i : Int) := by decide +kernel
theorem dig_al : ∀ j, j < 11 → ∀ i, i < 6 → digV ((figTab.getD j 0).toNat + i) = (10 + i : Int)
  | 0, _ => dig_a0
  | 1, _ => dig_a1
  | 2, _ => dig_a2
  | 3, _ => dig_a3
  | 4, _ => dig_a4
  | 5, _ => dig_a5
  | 6, _ => dig_a6
  | 7, _ => dig_a7
  | 8, _ => dig_a8
  | 9, _ => dig_a9
  | 10, _ => dig_a10
  | n + 11, h => absurd h (by omega)
theorem dig_nat (i : Nat) (hi : i < 16) (j : Nat) (hj : j < 12) : digV (figC (i : Nat) (j : Nat)) = (i : Int) := by
  unfold figC
  by_cases h : (i : Int) < 10
  · rw [if_pos h, show (48 + (i : Int)).toNat = 48 + i by omega]
    exact dig_lo i (by omega)
  · rw [if_neg h]
    by_cases h0 : (j : Int) = 0
    · rw [if_pos h0, show (87 + (i : Int)).toNat = 97 + (i - 10) by omega, dig_pl (i - 10) (by omega)]
      omega
    · rw [if_neg h0, show ((j : Int) - 1).toNat = j - 1 by omega]
      have hp := (figTab_bound (j - 1)).1
      rw [show (figTab.getD (j - 1) 0 + (i : Int) - 10).toNat = (figTab.getD (j - 1) 0).toNat + (i - 10) by omega, dig_al (j - 1) (by omega) (i - 10) (by omega)]
      omega
theorem fig_is {f w : Int} (hf : 0 ≤ f ∧ f < 16) (hw : 0 ≤ w ∧ w < 12) : Fig (figC f w) ∧ digV (figC f w) = f := by
  have h1 := fig_nat f.toNat (by omega) w.toNat (by omega)
  have h2 := dig_nat f.toNat (by omega) w.toNat (by omega)
  rw [show ((f.toNat : Nat) : Int) = f by omega, show ((w.toNat : Nat) : Int) = w by omega] at h1 h2
  exact ⟨h1, h2⟩
theorem b1N_is : ∀ i, i < 27 → b1L.contains (((b1N.getD i 0).toNat : Nat) : Int) = true ∧ isB (b1N.getD i 0).toNat = false := by decide +kernel
theorem b1At_is (sd pu : Int) : b1L.contains (b1At sd pu : Int) = true ∧ isB (b1At sd pu) = false := by
  refine b1N_is _ ?_
  have h1 := Int.fmod_nonneg_of_pos (sd.fdiv (27 ^ pu.toNat)) (show (0 : Int) < 27 by omega)
  have h2 := Int.fmod_lt_of_pos (sd.fdiv (27 ^ pu.toNat)) (show (0 : Int) < 27 by omega)
  omega
theorem blank_scan (st : List Int × Int × Int) : scanS st 32 = st := by
  unfold scanS
  rw [if_neg (by decide +kernel), if_pos (by decide +kernel)]
theorem blanks_scan (st : List Int × Int × Int) : ∀ k, (bl k).foldl scanS st = st
  | 0 => rfl
  | k + 1 => by
    show (List.replicate (k + 1) 32).foldl scanS st = st
    rw [List.replicate_succ, List.foldl_cons, blank_scan]
    exact blanks_scan st k
def nf : List Nat → Int → Int → Int
  | [], _, m => m
  | c :: r, s, m => nf r (s + 1) (m + digV c * 16 ^ s.toNat)
theorem nf_append : ∀ (a b : List Nat) (s m : Int), nf (a ++ b) s m = nf b (s + a.length) (nf a s m)
  | [], b, s, m => by simp [nf]
  | c :: r, b, s, m => by
    simp only [List.cons_append, nf, nf_append r b, List.length_cons]
    congr 1
    omega
theorem figs_scan : ∀ (l : List Nat) (cu : List Int) (s m : Int), (∀ c ∈ l, Fig c) → l.foldl scanS (cu, s, m) = (cu, s + l.length, nf l s m)
  | [], cu, s, m, _ => by simp [nf]
  | c :: r, cu, s, m, h => by
    obtain ⟨h1, h2⟩ := h c (List.mem_cons_self ..)
    rw [List.foldl_cons, scanS, h1, h2]
    simp only [Bool.false_eq_true, if_false]
    rw [figs_scan r _ _ _ fun x hx => h x (List.mem_cons_of_mem _ hx)]
    simp only [nf, List.length_cons]
    congr 2
    omega
/-- where the cutting cuts, and how many sizes are told -/
def cutPos (vv : Nat → Option Int) : Nat → Int → Int → List Int × Int
  | 0, _, _ => ([], 0)
  | n + 1, len, pos => match vv (n + 1) with
    | none => ([], 0)
    | some sz => if len ≤ sz then ([], 1) else
      ((pos + sz) :: (cutPos vv n (len - sz) (pos + sz)).1, (cutPos vv n (len - sz) (pos + sz)).2 + 1)
theorem cut_scan {vv : Nat → Option Int} {sd : Int} (hv : ∀ n x, vv n = some x → 1 ≤ x ∧ x ≤ 4) : ∀ (n : Nat) (l r : List Nat) (pu to : Int) (l' r' : List Nat) (pu' to' : Int) (st : List Int × Int × Int) (cu : List Int) (s m : Int),
    cutL vv sd n l r pu to = (l', r', pu', to') → (∀ c ∈ l, Fig c) → (∀ c ∈ r, isB c = false) → r.reverse.foldl scanS st = (cu, s, m) →
    (l' ++ r').reverse.foldl scanS st = (cu ++ (cutPos vv n l.length s).1, s + l.length, nf l.reverse s m) ∧ pu' = pu + (cutPos vv n l.length s).1.length ∧ to' = to + (cutPos vv n l.length s).2 ∧
      (l' ++ r').length = l.length + r.length + (cutPos vv n l.length s).1.length ∧ ∀ c ∈ l' ++ r', isB c = false
  | 0, l, r, pu, to, l', r', pu', to', st, cu, s, m, h, hl, hr, hs => by
    simp only [cutL, Prod.mk.injEq] at h
    obtain ⟨rfl, rfl, rfl, rfl⟩ := h
    refine ⟨?_, by simp [cutPos], by simp [cutPos], by simp [cutPos], ?_⟩
    · rw [List.reverse_append, List.foldl_append, hs, figs_scan _ _ _ _ fun c hc => hl c (by simpa using hc)]
      simp [cutPos]
    · intro c hc
      rcases List.mem_append.mp hc with hc | hc
      · exact (hl c hc).2
      · exact hr c hc
  | n + 1, l, r, pu, to, l', r', pu', to', st, cu, s, m, h, hl, hr, hs => by
    rw [cutL] at h
    rw [cutPos]
    cases q : vv (n + 1) with
    | none =>
      rw [q] at h
      simp only [Prod.mk.injEq] at h
      obtain ⟨rfl, rfl, rfl, rfl⟩ := h
      refine ⟨?_, by simp, by simp, by simp, ?_⟩
      · rw [List.reverse_append, List.foldl_append, hs, figs_scan _ _ _ _ fun c hc => hl c (by simpa using hc)]
        simp
      · intro c hc
        rcases List.mem_append.mp hc with hc | hc
        · exact (hl c hc).2
        · exact hr c hc
    | some x =>
      have hx := hv _ _ q
      rw [q] at h
      dsimp only at h ⊢
      split at h
      · rename_i hle
        rw [if_pos hle]
        simp only [Prod.mk.injEq] at h
        obtain ⟨rfl, rfl, rfl, rfl⟩ := h
        refine ⟨?_, by simp, by simp, by simp, ?_⟩
        · rw [List.reverse_append, List.foldl_append, hs, figs_scan _ _ _ _ fun c hc => hl c (by simpa using hc)]
          simp
        · intro c hc
          rcases List.mem_append.mp hc with hc | hc
          · exact (hl c hc).2
          · exact hr c hc
      · rename_i hle
        rw [if_neg hle]
        have hlt : (l.take (l.length - x.toNat)).length = l.length - x.toNat := by rw [List.length_take]; omega
        have hld : (l.drop (l.length - x.toNat)).length = x.toNat := by rw [List.length_drop]; omega
        have ih := cut_scan hv n _ _ _ _ l' r' pu' to' st (cu ++ [s + x]) (s + x) (nf (l.drop (l.length - x.toNat)).reverse s m) h
          (fun c hc => hl c (List.mem_of_mem_take hc))
          (fun c hc => by
            rcases List.mem_cons.mp hc with rfl | hc
            · exact (b1At_is sd pu).2
            · rcases List.mem_append.mp hc with hc | hc
              · exact (hl c (List.mem_of_mem_drop hc)).2
              · exact hr c hc)
          (by
            rw [List.reverse_cons, List.reverse_append, List.foldl_append, List.foldl_append, hs, figs_scan (l.drop (l.length - x.toNat)).reverse _ _ _ fun c hc => hl c (List.mem_of_mem_drop (List.mem_reverse.mp hc))]
            simp only [List.foldl_cons, List.foldl_nil, List.length_reverse, hld]
            rw [scanS, (b1At_is sd pu).1]
            simp only [if_true]
            rw [show s + ((x.toNat : Nat) : Int) = s + x by omega])
        rw [hlt] at ih
        rw [show (((l.length - x.toNat : Nat)) : Int) = (l.length : Int) - x by omega] at ih
        obtain ⟨i1, i2, i3, i4, i5⟩ := ih
        refine ⟨?_, ?_, ?_, ?_, i5⟩
        · rw [i1]
          simp only [List.append_assoc, List.cons_append, List.nil_append]
          congr 2
          · omega
          · conv => rhs; rw [← List.take_append_drop (l.length - x.toNat) l, List.reverse_append, nf_append]
            rw [List.length_reverse, hld]
            congr 1
            omega
        · rw [i2]; simp only [List.length_cons]; omega
        · rw [i3]; omega
        · rw [i4]; simp only [List.length_cons, List.length_append, hld]; omega
/-! the figures -/
def tyL (v sd : Int) : Nat → List Nat
  | 0 => []
  | k + 1 => figC (v / 16 ^ k % 16) (sd / 12 ^ k % 12) :: tyL v sd k
theorem tyP_tx (v sd : Int) : ∀ k, tyP v sd k = tx (tyL v sd k)
  | 0 => rfl
  | k + 1 => by rw [tyP, tyL, tyP_tx v sd k, show figS (v / 16 ^ k % 16) (sd / 12 ^ k % 12) = tx [figC (v / 16 ^ k % 16) (sd / 12 ^ k % 12)] from rfl, tx_append]; rfl
theorem tyL_len (v sd : Int) : ∀ k, (tyL v sd k).length = k
  | 0 => rfl
  | k + 1 => by rw [tyL, List.length_cons, tyL_len]
theorem tyL_fig (v sd : Int) : ∀ k, ∀ c ∈ tyL v sd k, Fig c
  | 0, c, h => by cases h
  | k + 1, c, h => by
    rcases List.mem_cons.mp h with rfl | h
    · exact (fig_is (by omega) (by omega)).1
    · exact tyL_fig v sd k c h
theorem tyL_num {v sd : Int} (h0 : 0 ≤ v) : ∀ k, nf (tyL v sd k).reverse 0 0 = v % 16 ^ k
  | 0 => by simp [tyL, nf]
  | k + 1 => by
    rw [tyL, List.reverse_cons, nf_append, tyL_num h0 k, List.length_reverse, tyL_len]
    simp only [nf]
    rw [(fig_is (f := v / 16 ^ k % 16) (w := sd / 12 ^ k % 12) (by omega) (by omega)).2, show ((0 : Int) + (k : Int)).toNat = k by omega]
    have h1 := Int.mul_ediv_add_emod v (16 ^ k)
    have h2 := Int.mul_ediv_add_emod (v / 16 ^ k) 16
    have h3 := Int.mul_ediv_add_emod v (16 ^ (k + 1))
    have h4 : v / 16 ^ (k + 1) = v / 16 ^ k / 16 := by rw [Int.pow_succ, Int.ediv_ediv_of_nonneg (Int.le_of_lt (pow16_pos k))]
    rw [h4, Int.pow_succ] at h3
    have e : v = 16 ^ k * (16 * (v / 16 ^ k / 16) + v / 16 ^ k % 16) + v % 16 ^ k := by rw [h2, h1]
    rw [Int.mul_add, ← Int.mul_assoc] at e
    rw [Int.pow_succ, Int.mul_comm (v / 16 ^ k % 16)]
    omega
/-! the due places -/
def dueC (f sc e c : Int) : Bool := decide (c = f) || decide (c = f + sc) || (decide (e = 0) && decide (c > f) && decide ((c - f).fmod sc = 0))
def dueL (f sc e : Int) (k : Nat) : List Int := (rangeKs 1 k).filter (dueC f sc e)
theorem due_nat : ∀ f, f < 4 → ∀ sc, sc < 4 → ∀ e, e < 3 → ∀ k, k < 8 → ((cutPos (vvG (decide ((e : Nat) = 0)) ((f : Nat) + 1 : Int) ((sc : Nat) + 1 : Int)) 20 ((k : Nat) + 1 : Int) 0).1 = dueL (f + 1 : Int) (sc + 1 : Int) (e : Int) k ∧
    (cutPos (vvG (decide ((e : Nat) = 0)) ((f : Nat) + 1 : Int) ((sc : Nat) + 1 : Int)) 20 ((k : Nat) + 1 : Int) 0).2 = (if e = 0 then ((dueL (f + 1 : Int) (sc + 1 : Int) (e : Int) k).length : Int) + 1 else min 2 (((dueL (f + 1 : Int) (sc + 1 : Int) (e : Int) k).length : Int) + 1))) := by decide +kernel
end Mine
end
section
set_option linter.unusedVariables false
set_option maxRecDepth 100000
open PySem PySem.Calls PySem.W PyProof.Rows PyProof.V
set_option Elab.async false
namespace Mine
abbrev iM4 (n e ct : Int) (ty wr li : Str) (pu to lf rt : Int) (Z D : Addr) (t t1 t2 t3 t4 t5 t6 t7 t8 t9 u1 u2 u3 v1 v2 v3 : Tok) : List (Str × Value) := (Str.ofString "blanks", .ref D) :: (Str.ofString "right", .int rt v3) :: (Str.ofString "left", .int lf v2) :: (Str.ofString "line", .str li v1) :: iM3 n e ct ty wr pu to Z t t1 t2 t3 t4 t5 t6 t7 t8 t9 u1 u2 u3
theorem nb_canLay : ∀ bs : List Bool, PyData.canLayAll0 (bs.map PyData.bool) = true
  | [] => rfl
  | _ :: r => by simp [PyData.canLayAll0, PyData.canLay0, nb_canLay r]
theorem nb_depth : ∀ bs : List Bool, PyData.depthAll (bs.map PyData.bool) = 0
  | [] => rfl
  | _ :: r => by simp [PyData.depthAll, PyData.depth, nb_depth r]
theorem nb_shaped (bs : List Bool) : SeqAt.shaped (.list (bs.map PyData.bool)) = true := by
  simp [SeqAt.shaped, PyData.canLay0, PyData.depth, nb_canLay, nb_depth]
theorem nb_sameAll : ∀ bs : List Bool, PySem.Spec.sameAll (bs.map PyData.bool) (bs.map PyData.bool) = true
  | [] => by simp [PySem.Spec.sameAll]
  | a :: r => by simp only [List.map_cons, PySem.Spec.sameAll, PySem.Spec.same, nb_sameAll r]; simp
theorem nb_same (bs : List Bool) : PySem.Spec.same (.list (bs.map PyData.bool)) (.list (bs.map PyData.bool)) = true := by
  simp only [PySem.Spec.same]; exact nb_sameAll bs
theorem nb_carried : ∀ bs : List Bool, CarriedAll (bs.map Value.bool) (bs.map PyData.bool)
  | [] => .nil
  | _ :: r => .cons (.bool _) (nb_carried r)
section
variable {prog : Program} {w : World} {A : Around} {E : Value → Shared → Prop} {s : Shared} {a b : Addr} {xs ys : List Value} {bs : List Bool} {Q : Value → Shared → Prop}
theorem ne_bools (ha : s.heap.IsList a xs.toArray) (hb : s.heap.IsList b ys.toArray) (hx : xs = bs.map Value.bool) (hy : ys = bs.map Value.bool) (hu : A.units + 64 < cLine) (h : Q (.bool false) s) :
    wpAny (model prog w) A (compareOp .NotEq (.ref a) (.ref b)) Q E s := by
  subst hx hy
  exact ne_dataH_same (reads_newData ha (nb_carried bs)) (reads_newData hb (nb_carried bs)) (nb_shaped _) (nb_shaped _) hu (SeqAt.noMix_of_shape (.list .bool) rfl _ _ (list_map_has fun _ => rfl) (list_map_has fun _ => rfl)) (by rw [nb_same]; exact h)
end
section
variable {w : World} {mean : ExcName → Option Value} {mg mb : Str → Option Value} {A₀ : Around} {base h₀ : Heap} {L : Addr} {s : Shared} {ex : List (Addr × Obj)} {E : Value → Shared → Prop} {dp un : Nat} {gd : Option (List Code)} {outer : List Env}
theorem rep_flat (n : Nat) (v : Value) : (List.replicate n [v]).flatten = List.replicate n v := by simp
local macro_rules | `(tactic| walk_at "binaryOp Mult ref int") => `(tactic| (k_here; (with_reducible show wpAny _ _ (binaryOp Operator.Mult (Value.ref _) (Value.int _ _)) _ _ _); (k_dflt (refine' KMa.mul (by k_asm) (by k_asm) (by is_list) (by omega) (by omega) (by simp only [List.length_cons, List.length_nil]; omega) (rep_flat _ _) ?_)); intro D' h' F' N' l1; (try k_lt l1); (try k_sweep)))
local macro_rules | `(tactic| walk_at "binaryOp Add ref ref") => `(tactic| (k_here; (with_reducible show wpAny _ _ (binaryOp _ (Value.ref _) (Value.ref _)) _ _ _); (k_dflt (refine' kmk_add_lit (by k_asm) (by k_asm) (by kmk_list) (by kmk_list) (by exact rfl) ?_ (by simp only [sizeLine_eq, List.length_replicate, List.length_append]; omega))); intro D' h' F' N' l1; (try k_lt l1); (try k_sweep)))
local macro_rules | `(tactic| walk_at "compareOp NotEq ref ref") => `(tactic| (k_here; (with_reducible show wpAny _ _ (compareOp CmpOp.NotEq (Value.ref _) (Value.ref _)) _ _ _); k_dflt (refine' ne_bools (by is_list) (by is_list) rfl (by simp only [*, List.map_append, List.map_replicate]) (by ke_room) ?_)))
set_option maxHeartbeats 400000 in
theorem i_if {Q : Flow → Shared → Prop} {n e ct pu to lf rt : Int} {ty wr li : Str} {Z D : Addr} {t t1 t2 t3 t4 t5 t6 t7 t8 t9 u1 u2 u3 v1 v2 v3 : Tok} {bs : List Bool} {c : Nat} (B : Below A₀ base outer h₀) (F : Fr h₀ L s.heap (mL (iM4 n e ct ty wr li pu to lf rt Z D t t1 t2 t3 t4 t5 t6 t7 t8 t9 u1 u2 u3 v1 v2 v3))) (X : (K w.params).In h₀) (N : News h₀ L s.heap ((D, PySem.W.listOf (bs.map Value.bool).toArray c) :: ex)) (T : Top qv looseF mean mg mb h₀)
    (hbs : bs = List.replicate lf.toNat true ++ List.replicate (ct + pu).toNat false ++ List.replicate rt.toNat true) (hl : 0 ≤ lf ∧ lf ≤ 4) (hr : 0 ≤ rt ∧ rt ≤ 3) (hc : 0 ≤ ct ∧ ct ≤ 8) (hp : 0 ≤ pu ∧ pu ≤ 8) (hu : un + 100 < cLine)
    (h : ∀ h' tk', Fr h₀ L h' (mL (iM4 n e ct ty wr li pu to lf rt Z D t t1 t2 t3 t4 t5 t6 t7 t8 t9 u1 u2 u3 v1 v2 v3)) → News h₀ L h' ex → Q .next { s with heap := h', toks := tk' }) :
    wpAny (model PySem.Challenge.rw_pe0193_01.row.prog w) (iA dp un gd L outer) (exec (iSt 15) (iEnv L)) Q E s := by
  obtain ⟨hl0, hl1⟩ := hl
  obtain ⟨hr0, hr1⟩ := hr
  obtain ⟨hc0, hc1⟩ := hc
  obtain ⟨hp0, hp1⟩ := hp
  revert X
  k_fill
  intro X
  w_on
  k_with_none
  show wpAny _ _ (exec (Stmt.If _ _ _ _) _) _ _ _
  k_steps
  exact h _ _ (by assumption) (cb_drop (by assumption) (by kcj_all))
end
end Mine
end
section
set_option linter.unusedVariables false
set_option maxRecDepth 100000
open PySem PySem.Calls PySem.W PyProof.Rows PyProof.V
set_option Elab.async false
namespace Mine
section
variable {w : World} {mean : ExcName → Option Value} {mg mb : Str → Option Value} {news : List (Addr × Obj)} {li : List Nat} {i : Int} {t1 : Tok}
theorem b1_item : Cl 2 20 w mean mg mb 46 news (0 ≤ i ∧ i < li.length) [.str (Txt.item (tx li) i) t1] (fun _ => .bool (b1L.contains (li.getD i.toNat 0 : Int))) := by
  intro dp un gd cn cs a ccd cl outer A₀ base h₀ L m s Q E B F X N T hk hp hd hu h
  rw [item_tx hp.1 hp.2]
  exact cl_use (b1_spec _ _ _ _ _ (li.getD i.toNat 0) _) B F X N T hk trivial hd hu h
theorem c11_item : Cl 2 20 w mean mg mb 99 news (0 ≤ i ∧ i < li.length) [.str (Txt.item (tx li) i) t1] (fun _ => .bool (isB (li.getD i.toNat 0))) := by
  intro dp un gd cn cs a ccd cl outer A₀ base h₀ L m s Q E B F X N T hk hp hd hu h
  rw [item_tx hp.1 hp.2]
  exact cl_use (c11_spec _ _ _ _ _ (li.getD i.toNat 0) _) B F X N T hk trivial hd hu h
theorem b3_item : Cl 2 20 w mean mg mb 92 news (0 ≤ i ∧ i < li.length) [.str (Txt.item (tx li) i) t1] (fun t => .str (b3S (li.getD i.toNat 0)) t) := by
  intro dp un gd cn cs a ccd cl outer A₀ base h₀ L m s Q E B F X N T hk hp hd hu h
  rw [item_tx hp.1 hp.2]
  exact cl_use (b3_spec _ _ _ _ _ (li.getD i.toNat 0) _) B F X N T hk trivial hd hu h
end
/-- the names while the line is read -/
def mR (b : List (Str × Value)) (k sg : Option Value) (nu se cu : Value) : Str → Option Value := fun y => if y = Str.ofString "sign" then sg else if y = Str.ofString "k" then k else if y = Str.ofString "seen" then some se else if y = Str.ofString "number" then some nu else if y = Str.ofString "cuts" then some cu else mL b y
theorem mR_k (b : List (Str × Value)) (k sg : Option Value) (nu se cu v : Value) : (fun y => if y = Str.ofString "k" then some v else mR b k sg nu se cu y) = mR b (some v) sg nu se cu := by
  funext y
  by_cases h1 : y = Str.ofString "k"
  · subst h1
    rw [if_pos rfl]
    unfold mR
    rw [if_neg (by decide +kernel), if_pos rfl]
  · unfold mR; simp only [if_neg h1]
theorem mR_sign (b : List (Str × Value)) (k sg : Option Value) (nu se cu v : Value) : (fun y => if y = Str.ofString "sign" then some v else mR b k sg nu se cu y) = mR b k (some v) nu se cu := by
  funext y
  by_cases h1 : y = Str.ofString "sign"
  · subst h1
    rw [if_pos rfl]
    unfold mR
    rw [if_pos rfl]
  · unfold mR; simp only [if_neg h1]
theorem mR_turn (b : List (Str × Value)) (k sg : Option Value) (nu se cu v s' n' : Value) : (fun y => if y = Str.ofString "seen" then some s' else if y = Str.ofString "number" then some n' else if y = Str.ofString "sign" then some v else mR b k sg nu se cu y) = mR b k (some v) n' s' cu := by
  funext y
  by_cases h1 : y = Str.ofString "seen"
  · subst h1
    rw [if_pos rfl]
    unfold mR
    rw [if_neg (by decide +kernel), if_neg (by decide +kernel), if_pos rfl]
  by_cases h2 : y = Str.ofString "number"
  · subst h2
    rw [if_neg (by decide +kernel), if_pos rfl]
    unfold mR
    rw [if_neg (by decide +kernel), if_neg (by decide +kernel), if_neg (by decide +kernel), if_pos rfl]
  by_cases h3 : y = Str.ofString "sign"
  · subst h3
    rw [if_neg (by decide +kernel), if_neg (by decide +kernel), if_pos rfl]
    unfold mR
    rw [if_pos rfl]
  unfold mR; simp only [if_neg h1, if_neg h2, if_neg h3]
theorem find_ok (y : Str) (b : Int) : IntMulOk (Txt.find (Str.ofString "0123456789abcdef") y) b := by
  have h := fact_find (Str.ofString "0123456789abcdef") y
  have e : (Str.ofString "0123456789abcdef").length = 16 := by decide +kernel
  rw [e] at h
  exact IntMulOk.of_left (intBits_le_64 (by omega) (by omega))
theorem scan_b1 {cu : List Int} {se nu : Int} {c : Nat} (h : b1L.contains (c : Int) = true) : scanS (cu, se, nu) c = (cu ++ [se], se, nu) := by
  unfold scanS
  rw [if_pos h]
theorem scan_bl {cu : List Int} {se nu : Int} {c : Nat} (h : b1L.contains (c : Int) = false) (h' : isB c = true) : scanS (cu, se, nu) c = (cu, se, nu) := by
  unfold scanS
  rw [if_neg (by rw [h]; simp), if_pos h']
theorem scan_fig {cu : List Int} {se nu : Int} {c : Nat} (h : b1L.contains (c : Int) = false) (h' : isB c = false) : scanS (cu, se, nu) c = (cu, se + 1, nu + Txt.find (Str.ofString "0123456789abcdef") (b3S c) * 16 ^ se.toNat) := by
  unfold scanS
  rw [if_neg (by rw [h]; simp), if_neg (by rw [h']; simp)]
  rfl
theorem rbody : forBody (iSt 19) = [(forBody (iSt 19)).getD 0 (.Pass default), (forBody (iSt 19)).getD 1 (.Pass default)] := by kernel_rfl
section
variable {w : World} {mean : ExcName → Option Value} {mg mb : Str → Option Value} {A₀ : Around} {base h₀ : Heap} {L C : Addr} {s : Shared} {ex : List (Addr × Obj)} {E : Value → Shared → Prop} {dp un : Nat} {gd : Option (List Code)} {outer : List Env}
local macro_rules | `(tactic| walk_at "call ref") => `(tactic| (k_here; (with_reducible show wpAny _ _ (call (Value.ref 46) _) _ _ _); (k_dflt (refine cl_use b1_item (by k_asm) (by k_asm) (by k_asm) (by k_asm) (by k_asm) (by first | exact rfl | assumption) (by omega) (by ktr_room) (by ktr_units) ?_)); intro t9 h9 tk9 F9 N9; (try dsimp only); (try k_fold)))
local macro_rules | `(tactic| walk_at "call ref") => `(tactic| (k_here; (with_reducible show wpAny _ _ (call (Value.ref 99) _) _ _ _); (k_dflt (refine cl_use c11_item (by k_asm) (by k_asm) (by k_asm) (by k_asm) (by k_asm) (by first | exact rfl | assumption) (by omega) (by ktr_room) (by ktr_units) ?_)); intro t9 h9 tk9 F9 N9; (try dsimp only); (try k_fold)))
local macro_rules | `(tactic| walk_at "call ref") => `(tactic| (k_here; (with_reducible show wpAny _ _ (call (Value.ref 92) _) _ _ _); (k_dflt (refine cl_use b3_item (by k_asm) (by k_asm) (by k_asm) (by k_asm) (by k_asm) (by first | exact rfl | assumption) (by omega) (by ktr_room) (by ktr_units) ?_)); intro t9 h9 tk9 F9 N9; (try dsimp only); (try k_fold)))
local macro_rules | `(tactic| walk_at "binaryOp Mult int int") => `(tactic| ((with_reducible show wpAny _ _ (binaryOp _ (Value.int (Txt.find _ _) _) (Value.int _ _)) _ _ _); (refine mul_int ?_ (find_ok _ _))))
local macro_rules | `(tactic| walk_at "call builtin:list.append") => `(tactic| (k_here; k_dflt (show wpAny _ _ (call (Value.builtin "list.append") [Value.ref _, _]) _ _ _); k_dflt (refine' append_K (by k_asm) (by k_asm) (Upd.head (by assumption)) ?_ (by simp only [List.size_toArray, sizeLine_eq]; omega)); intro h' F' N'; (try k_sweep)))
set_option maxHeartbeats 1000000 in
theorem r_body {Q : Flow → Shared → Prop} {n e ct pu to lf rt : Int} {ty wr : Str} {li : List Nat} {Z D : Addr} {t t1 t2 t3 t4 t5 t6 t7 t8 t9 u1 u2 u3 v1 v2 v3 : Tok} {sg : Option Value} {k nu se : Int} {p1 p2 p3 : Tok} {vs : List Value} {cu : List Int} {c : Nat}
    (B : Below A₀ base outer h₀) (F : Fr h₀ L s.heap (mR (iM4 n e ct ty wr (tx li) pu to lf rt Z D t t1 t2 t3 t4 t5 t6 t7 t8 t9 u1 u2 u3 v1 v2 v3) (some (.int k p1)) sg (.int nu p2) (.int se p3) (.ref C))) (X : (K w.params).In h₀) (N : News h₀ L s.heap ((C, PySem.W.listOf vs.toArray c) :: ex)) (T : Top qv looseF mean mg mb h₀)
    (hC : ∀ p ∈ ex, p.1 ≠ C) (hI : IntsAre vs cu) (hv : vs.length ≤ 30) (hlen : (tx li).length ≤ 30) (hlen' : (tx li).length = li.length) (hk0 : 0 ≤ k) (hk1 : k < (tx li).length) (hs0 : 0 ≤ se) (hs1 : se ≤ 30) (hd : dp + 8 < recursionLimit) (hu : un + 100 < cLine)
    (h : ∀ q1 q2 q3 se' nu' vs' cu' c' h' tk', scanS (cu, se, nu) (li.getD (((tx li).length : Int) - 1 - k).toNat 0) = (cu', se', nu') → Fr h₀ L h' (mR (iM4 n e ct ty wr (tx li) pu to lf rt Z D t t1 t2 t3 t4 t5 t6 t7 t8 t9 u1 u2 u3 v1 v2 v3) (some (.int k p1)) (some (.str (Txt.item (tx li) (((tx li).length : Int) - 1 - k)) q1)) (.int nu' q2) (.int se' q3) (.ref C)) → News h₀ L h' ((C, PySem.W.listOf (List.toArray vs') c') :: ex) → IntsAre vs' cu' → vs'.length ≤ vs.length + 1 → Q .next { s with heap := h', toks := tk' }) :
    wpAny (model PySem.Challenge.rw_pe0193_01.row.prog w) (iA dp un gd L outer) (execs (forBody (iSt 19)) (iEnv L)) Q E s := by
  revert X
  k_fill
  intro X
  w_on
  k_with_none
  rw [rbody]
  show wpAny _ _ (execs [Stmt.Assign _ _ _, Stmt.If _ _ _ _] _) _ _ _
  k_steps
  · exact h _ _ _ _ _ _ _ _ _ _ (scan_b1 (by assumption)) (fr_m (by assumption) (mR_sign ..)) (by rw [← List.push_toArray]; assumption) (hI.append (.cons _ _ .nil)) (by simp)
  · exact h _ _ _ _ _ _ _ _ _ _ (scan_bl (by assumption) (by assumption)) (fr_m (by assumption) (mR_sign ..)) (by assumption) hI (by omega)
  · exact h _ _ _ _ _ _ _ _ _ _ (scan_fig (by assumption) (by assumption)) (fr_m (by assumption) (mR_turn ..)) (by assumption) hI (by omega)
end
end Mine
end
section
set_option linter.unusedVariables false
set_option maxRecDepth 100000
open PySem PySem.Calls PySem.W PyProof.Rows PyProof.V
set_option Elab.async false
namespace Mine
theorem mR_init (b : List (Str × Value)) (nu se cu : Value) (h1 : mL b (Str.ofString "sign") = none) (h2 : mL b (Str.ofString "k") = none) : (fun y => if y = Str.ofString "number" then some nu else if y = Str.ofString "seen" then some se else if y = Str.ofString "cuts" then some cu else mL b y) = mR b none none nu se cu := by
  funext y
  unfold mR
  by_cases e1 : y = Str.ofString "sign"
  · subst e1
    rw [if_neg (by decide +kernel), if_neg (by decide +kernel), if_neg (by decide +kernel), if_pos rfl, h1]
  by_cases e2 : y = Str.ofString "k"
  · subst e2
    rw [if_neg (by decide +kernel), if_neg (by decide +kernel), if_neg (by decide +kernel), if_neg (by decide +kernel), if_pos rfl, h2]
  by_cases e3 : y = Str.ofString "seen"
  · subst e3
    rw [if_neg (by decide +kernel), if_pos rfl, if_neg (by decide +kernel), if_neg (by decide +kernel), if_pos rfl]
  simp only [if_neg e1, if_neg e2, if_neg e3]
theorem mR_kst (b : List (Str × Value)) (kk : Option Value) (u : Str → Option Value) (n0 s0 nu se cu : Value) : (fun y => if y = Str.ofString "k" then kk else kstB (fun z => if ([Str.ofString "sign"] : List Str).contains z then u z else mR b none none n0 s0 cu z) [(Str.ofString "seen", se), (Str.ofString "number", nu)] y) = mR b kk (u (Str.ofString "sign")) nu se cu := by
  funext y
  show (if y = Str.ofString "k" then kk else if y = Str.ofString "seen" then some se else if y = Str.ofString "number" then some nu else if ([Str.ofString "sign"] : List Str).contains y then u y else mR b none none n0 s0 cu y) = _
  unfold mR
  by_cases e1 : y = Str.ofString "sign"
  · subst e1
    rw [if_neg (by decide +kernel), if_neg (by decide +kernel), if_neg (by decide +kernel), if_pos (by decide +kernel), if_pos rfl]
  have hc : ([Str.ofString "sign"] : List Str).contains y = false := by
    simp [e1]
  by_cases e2 : y = Str.ofString "k"
  · rw [if_pos e2, if_neg e1, if_pos e2]
  by_cases e3 : y = Str.ofString "seen"
  · rw [if_neg e2, if_pos e3, if_neg e1, if_neg e2, if_pos e3]
  by_cases e4 : y = Str.ofString "number"
  · rw [if_neg e2, if_neg e3, if_pos e4, if_neg e1, if_neg e2, if_neg e3, if_pos e4]
  simp only [if_neg e1, if_neg e2, if_neg e3, if_neg e4, hc, Bool.false_eq_true, if_false]
theorem if_self (x : Str) (u g : Str → Option Value) : (fun y => if y = x then u y else g y) = (fun y => if y = x then u x else g y) := by
  funext y
  by_cases h : y = x
  · rw [if_pos h, if_pos h, h]
  · rw [if_neg h, if_neg h]
/-- what a turn of the reading turns -/
structure RS where
  vs : List Value
  cu : List Int
  c : Nat
  se : Int
  ts : Tok
  nu : Int
  tn : Tok
theorem scan_seen {cu cu' : List Int} {se se' nu nu' : Int} {c : Nat} (h : scanS (cu, se, nu) c = (cu', se', nu')) : se ≤ se' ∧ se' ≤ se + 1 := by
  unfold scanS at h
  split at h
  · simp only [Prod.mk.injEq] at h; omega
  · split at h
    · simp only [Prod.mk.injEq] at h; omega
    · simp only [Prod.mk.injEq] at h; omega
theorem rev_take {li : List Nat} {k : Nat} (h : k < li.length) : li.reverse.take (k + 1) = li.reverse.take k ++ [li.getD ((li.length : Int) - 1 - k).toNat 0] := by
  rw [List.take_add_one, List.getElem?_reverse h, show ((li.length : Int) - 1 - k).toNat = li.length - 1 - k by omega, List.getD_eq_getElem?_getD, List.getElem?_eq_getElem (show li.length - 1 - k < li.length by omega)]
  rfl
theorem rfor : iSt 19 = .For (.Name (Str.ofString "k") (forTgt (iSt 19))) (forIt (iSt 19)) (forBody (iSt 19)) [] (iSt 19).pos := by kernel_rfl
section
variable {w : World} {mean : ExcName → Option Value} {mg mb : Str → Option Value} {A₀ : Around} {base h₀ : Heap} {L C : Addr} {s : Shared} {ex : List (Addr × Obj)} {E : Value → Shared → Prop} {dp un : Nat} {gd : Option (List Code)} {outer : List Env}
set_option maxHeartbeats 1000000 in
theorem r_init {Q : Flow → Shared → Prop} {n e ct pu to lf rt : Int} {ty wr : Str} {li : List Nat} {Z D : Addr} {t t1 t2 t3 t4 t5 t6 t7 t8 t9 u1 u2 u3 v1 v2 v3 : Tok} {rest : List Stmt}
    (B : Below A₀ base outer h₀) (F : Fr h₀ L s.heap (mL (iM4 n e ct ty wr (tx li) pu to lf rt Z D t t1 t2 t3 t4 t5 t6 t7 t8 t9 u1 u2 u3 v1 v2 v3))) (X : (K w.params).In h₀) (N : News h₀ L s.heap ex) (T : Top qv looseF mean mg mb h₀)
    (h : ∀ C p2 p3 h' tk', (∀ p ∈ ex, p.1 < C) → Fr h₀ L h' (mR (iM4 n e ct ty wr (tx li) pu to lf rt Z D t t1 t2 t3 t4 t5 t6 t7 t8 t9 u1 u2 u3 v1 v2 v3) none none (.int 0 p2) (.int 0 p3) (.ref C)) → News h₀ L h' ((C, PySem.W.listOf #[] 0) :: ex) → wpAny (model PySem.Challenge.rw_pe0193_01.row.prog w) (iA dp un gd L outer) (execs rest (iEnv L)) Q E { s with heap := h', toks := tk' }) :
    wpAny (model PySem.Challenge.rw_pe0193_01.row.prog w) (iA dp un gd L outer) (execs (iSt 16 :: iSt 17 :: iSt 18 :: rest) (iEnv L)) Q E s := by
  revert X
  k_fill
  intro X
  w_on
  k_with_none
  show wpAny _ _ (execs (Stmt.Assign _ _ _ :: Stmt.Assign _ _ _ :: Stmt.Assign _ _ _ :: rest) _) _ _ _
  k_steps
  exact h _ _ _ _ _ (by assumption) (fr_m (by assumption) (mR_init _ _ _ _ (by kernel_rfl) (by kernel_rfl))) (by assumption)
set_option maxHeartbeats 1000000 in
theorem r_range {Q : Value → Shared → Prop} {n e ct pu to lf rt : Int} {ty wr : Str} {li : List Nat} {Z D : Addr} {t t1 t2 t3 t4 t5 t6 t7 t8 t9 u1 u2 u3 v1 v2 v3 : Tok} {sg kk : Option Value} {nu se : Int} {p2 p3 : Tok}
    (B : Below A₀ base outer h₀) (F : Fr h₀ L s.heap (mR (iM4 n e ct ty wr (tx li) pu to lf rt Z D t t1 t2 t3 t4 t5 t6 t7 t8 t9 u1 u2 u3 v1 v2 v3) kk sg (.int nu p2) (.int se p3) (.ref C))) (X : (K w.params).In h₀) (N : News h₀ L s.heap ex) (T : Top qv looseF mean mg mb h₀) (hlen : (tx li).length ≤ 30)
    (h : ∀ r a1 a2 a3 h' tk', IsRange h' r 0 ((tx li).length : Int) 1 a1 a2 a3 → Fr h₀ L h' (mR (iM4 n e ct ty wr (tx li) pu to lf rt Z D t t1 t2 t3 t4 t5 t6 t7 t8 t9 u1 u2 u3 v1 v2 v3) kk sg (.int nu p2) (.int se p3) (.ref C)) → News h₀ L h' ex → Q (.ref r) { s with heap := h', toks := tk' }) :
    wpAny (model PySem.Challenge.rw_pe0193_01.row.prog w) (iA dp un gd L outer) (eval (forIt (iSt 19)) (iEnv L)) Q E s := by
  revert X
  k_fill
  intro X
  w_on
  k_with_none
  show wpAny _ _ (eval (PySem.Expr.Call _ _ _ _) _) _ _ _
  k_steps
  exact h _ _ _ _ _ _ (by assumption) (by assumption) (by assumption)
set_option maxHeartbeats 1000000 in
theorem r_for {Q : Flow → Shared → Prop} {n e ct pu to lf rt : Int} {ty wr : Str} {li : List Nat} {Z D : Addr} {t t1 t2 t3 t4 t5 t6 t7 t8 t9 u1 u2 u3 v1 v2 v3 : Tok} {p2 p3 : Tok}
    (B : Below A₀ base outer h₀) (F : Fr h₀ L s.heap (mR (iM4 n e ct ty wr (tx li) pu to lf rt Z D t t1 t2 t3 t4 t5 t6 t7 t8 t9 u1 u2 u3 v1 v2 v3) none none (.int 0 p2) (.int 0 p3) (.ref C))) (X : (K w.params).In h₀) (N : News h₀ L s.heap ((C, PySem.W.listOf #[] 0) :: ex)) (T : Top qv looseF mean mg mb h₀)
    (hC : ∀ p ∈ ex, p.1 < C) (hlen : li.length ≤ 30) (hd : dp + 8 < recursionLimit) (hu : un + 100 < cLine) (hE : PassesOwn (model PySem.Challenge.rw_pe0193_01.row.prog w) (iA dp un gd L outer) (iEnv L) E)
    (h : ∀ kk sg q2 q3 se nu vs cu c h' tk', li.reverse.foldl scanS ([], 0, 0) = (cu, se, nu) → Fr h₀ L h' (mR (iM4 n e ct ty wr (tx li) pu to lf rt Z D t t1 t2 t3 t4 t5 t6 t7 t8 t9 u1 u2 u3 v1 v2 v3) kk sg (.int nu q2) (.int se q3) (.ref C)) → News h₀ L h' ((C, PySem.W.listOf (List.toArray vs) c) :: ex) → IntsAre vs cu → vs.length ≤ 30 → Q .next { s with heap := h', toks := tk' }) :
    wpAny (model PySem.Challenge.rw_pe0193_01.row.prog w) (iA dp un gd L outer) (exec (iSt 19) (iEnv L)) Q E s := by
  have hlen' := tx_length li
  rw [rfor]
  refine For_invVF F (by kernel_rfl) (by kernel_rfl) ?_ (by intro _; rfl) hE
  refine r_range B F X N T (by omega) ?_
  intro r a1 a2 a3 h1 tk1 R F1 N1
  refine kst_range (s := { s with heap := h1, toks := tk1 }) (n := li.length) (fun c : RS => (C, PySem.W.listOf c.vs.toArray c.c) :: ex) (fun c => [(Str.ofString "seen", .int c.se c.ts), (Str.ofString "number", .int c.nu c.tn)]) (fun c => IntsAre c.vs c.cu) [Str.ofString "sign"]
    (fun pre c => (li.reverse.take pre.length).foldl scanS ([], 0, 0) = (c.cu, c.se, c.nu) ∧ 0 ≤ c.se ∧ c.se ≤ (pre.length : Int) ∧ c.vs.length ≤ pre.length) ⟨[], [], 0, 0, p3, 0, p2⟩ rfl R (small_one (by omega) (by omega) (by omega) (by omega)) (by rw [rangeSize_nat]; omega) F1 N1 .nil ?_ ?_ ?_ ?_
  · intro p hp
    simp only [List.mem_cons, List.not_mem_nil, or_false] at hp
    rcases hp with rfl | rfl <;> kernel_rfl
  · exact ⟨rfl, Int.le_refl _, Int.le_refl _, Nat.le_refl _⟩
  · rintro ⟨vs, cu, c, se, ts, nu, tn⟩ pre k tk u h2 tk2 own hk hlt hoff hI ⟨hsc, hs0, hs1, hv⟩ F2 N2
    dsimp only at hI hsc hs0 hs1 hv F2 N2
    rw [mR_kst] at F2
    refine r_body (s := { s with heap := h2, toks := tk2 }) (ex := ex ++ own) B F2 X N2 T ?_ hI (by omega) (by omega) hlen' (by omega) (by omega) hs0 (by omega) hd hu ?_
    · intro p hp
      rcases List.mem_append.mp hp with hp | hp
      · exact Nat.ne_of_lt (hC p hp)
      · exact hoff p hp _ (List.mem_cons_self ..)
    · intro q1 q2 q3 se' nu' vs' cu' c' h3 tk3 hs' F3 N3 hI' hv'
      have hse := scan_seen hs'
      refine kst_end (⟨vs', cu', c', se', q3, nu', q2⟩ : RS) F3 N3 (fun p hp => List.mem_append_left own hp) (fun p hp => List.mem_append_right (_ :: ex) hp) rfl hI' ?_ ?_ ?_
      · intro p hp
        simp only [List.mem_cons, List.not_mem_nil, or_false] at hp
        rcases hp with rfl | rfl <;> kernel_rfl
      · intro z hz hn hc
        have e1 : z ≠ Str.ofString "seen" := hn _ (List.mem_cons_self ..)
        have e2 : z ≠ Str.ofString "number" := hn _ (List.mem_cons_of_mem _ (List.mem_cons_self ..))
        have e3 : z ≠ Str.ofString "sign" := by
          intro q
          rw [q] at hc
          exact absurd hc (by decide +kernel)
        unfold mR
        simp only [if_neg e1, if_neg e2, if_neg e3, if_neg hz]
      · dsimp only
        rw [List.length_append, List.length_singleton]
        refine ⟨?_, by omega, by omega, by omega⟩
        rw [rev_take hlt, List.foldl_append, hsc]
        rw [hlen', hk, show (0 : Int) + (pre.length : Int) = (pre.length : Int) by omega] at hs'
        exact hs'
  · rintro ⟨vs, cu, c, se, ts, nu, tn⟩ u h2 tk2 hI ⟨hsc, hs0, hs1, hv⟩ F2 N2
    dsimp only at hI hsc hs0 hs1 hv F2 N2
    rw [if_self, mR_kst] at F2
    rw [rangeKs_length] at hsc hv
    rw [List.take_of_length_le (by simp)] at hsc
    exact h _ _ _ _ _ _ _ _ _ _ _ hsc F2 N2 hI (by omega)
end
end Mine
end
section
set_option linter.unusedVariables false
set_option maxRecDepth 100000
open PySem PySem.Calls PySem.W PyProof.Rows PyProof.V
set_option Elab.async false
namespace Mine
/-- the names while the due places are reckoned -/
def mU (m : Str → Option Value) (c : Option Value) (du : Value) : Str → Option Value := fun y => if y = Str.ofString "c" then c else if y = Str.ofString "due" then some du else m y
theorem mU_c (m : Str → Option Value) (c : Option Value) (du v : Value) : (fun y => if y = Str.ofString "c" then some v else mU m c du y) = mU m (some v) du := by
  funext y
  by_cases h1 : y = Str.ofString "c"
  · rw [if_pos h1]; unfold mU; rw [if_pos h1]
  · unfold mU; simp only [if_neg h1]
theorem due_t {f sc e x : Int} {du : List Int} (h : (x = f ∨ x = f + sc) ∨ (e = 0 ∧ x > f) ∧ (x - f).fmod sc = 0) : du ++ [x] = (if dueC f sc e x then du ++ [x] else du) := by
  rw [if_pos]
  simp only [dueC, Bool.or_eq_true, Bool.and_eq_true, decide_eq_true_eq]
  exact h
theorem due_f {f sc e x : Int} {du : List Int} (h : ¬ ((x = f ∨ x = f + sc) ∨ (e = 0 ∧ x > f) ∧ (x - f).fmod sc = 0)) : du = (if dueC f sc e x then du ++ [x] else du) := by
  rw [if_neg]
  simp only [dueC, Bool.or_eq_true, Bool.and_eq_true, decide_eq_true_eq]
  exact h
theorem dbody : forBody (iSt 21) = [(forBody (iSt 21)).getD 0 (.Pass default)] := by kernel_rfl
section
variable {w : World} {mean : ExcName → Option Value} {mg mb : Str → Option Value} {A₀ : Around} {base h₀ : Heap} {L C U : Addr} {s : Shared} {ex : List (Addr × Obj)} {E : Value → Shared → Prop} {dp un : Nat} {gd : Option (List Code)} {outer : List Env}
local macro_rules | `(tactic| walk_at "call builtin:list.append") => `(tactic| (k_here; k_dflt (show wpAny _ _ (call (Value.builtin "list.append") [Value.ref _, _]) _ _ _); k_dflt (refine' append_K (by k_asm) (by k_asm) (Upd.head (by assumption)) ?_ (by simp only [List.size_toArray, sizeLine_eq]; omega)); intro h' F' N'; (try k_sweep)))
set_option maxHeartbeats 1000000 in
theorem d_body {Q : Flow → Shared → Prop} {n e ct pu to lf rt : Int} {ty wr : Str} {li : List Nat} {Z D : Addr} {t t1 t2 t3 t4 t5 t6 t7 t8 t9 u1 u2 u3 v1 v2 v3 : Tok} {kk sg : Option Value} {x nu se : Int} {p1 p2 p3 : Tok} {vs : List Value} {du : List Int} {c : Nat}
    (B : Below A₀ base outer h₀) (F : Fr h₀ L s.heap (mU (mR (iM4 n e ct ty wr (tx li) pu to lf rt Z D t t1 t2 t3 t4 t5 t6 t7 t8 t9 u1 u2 u3 v1 v2 v3) kk sg (.int nu p2) (.int se p3) (.ref C)) (some (.int x p1)) (.ref U))) (X : (K w.params).In h₀) (N : News h₀ L s.heap ((U, PySem.W.listOf vs.toArray c) :: ex)) (T : Top qv looseF mean mg mb h₀)
    (hU : ∀ p ∈ ex, p.1 ≠ U) (hI : IntsAre vs du) (hv : vs.length ≤ 30) (hx0 : 1 ≤ x) (hx1 : x ≤ 8) (hf0 : 1 ≤ fV n) (hf1 : fV n ≤ 4) (hs0 : 1 ≤ sV n) (hs1 : sV n ≤ 4) (he0 : 0 ≤ e) (he1 : e ≤ 2) (hd : dp + 8 < recursionLimit) (hu : un + 100 < cLine)
    (h : ∀ vs' du' c' h' tk', du' = (if dueC (fV n) (sV n) e x then du ++ [x] else du) → Fr h₀ L h' (mU (mR (iM4 n e ct ty wr (tx li) pu to lf rt Z D t t1 t2 t3 t4 t5 t6 t7 t8 t9 u1 u2 u3 v1 v2 v3) kk sg (.int nu p2) (.int se p3) (.ref C)) (some (.int x p1)) (.ref U)) → News h₀ L h' ((U, PySem.W.listOf (List.toArray vs') c') :: ex) → IntsAre vs' du' → vs'.length ≤ vs.length + 1 → Q .next { s with heap := h', toks := tk' }) :
    wpAny (model PySem.Challenge.rw_pe0193_01.row.prog w) (iA dp un gd L outer) (execs (forBody (iSt 21)) (iEnv L)) Q E s := by
  revert X
  k_fill
  intro X
  w_on
  k_with_none
  rw [dbody]
  show wpAny _ _ (execs [Stmt.If _ _ _ _] _) _ _ _
  k_steps
  all_goals first
    | exact h _ _ _ _ _ (due_t (by first | exact Or.inl (Or.inl (by assumption)) | exact Or.inl (Or.inr (by assumption)) | exact Or.inr ⟨⟨by assumption, by assumption⟩, by assumption⟩)) (by assumption) (by rw [← List.push_toArray]; assumption) (hI.append (.cons _ _ .nil)) (by simp)
    | exact h _ _ _ _ _ (due_f (by rintro ((hc | hc) | ⟨⟨hc, hc'⟩, hc''⟩) <;> first | omega | contradiction)) (by assumption) (by assumption) hI (by omega)
end
end Mine
end
section
set_option linter.unusedVariables false
set_option maxRecDepth 100000
open PySem PySem.Calls PySem.W PyProof.Rows PyProof.V
set_option Elab.async false
namespace Mine
theorem mU_init (m : Str → Option Value) (du : Value) (h1 : m (Str.ofString "c") = none) : (fun y => if y = Str.ofString "due" then some du else m y) = mU m none du := by
  funext y
  unfold mU
  by_cases e1 : y = Str.ofString "c"
  · subst e1
    rw [if_neg (by decide +kernel), if_pos rfl, h1]
  simp only [if_neg e1]
theorem mU_kst (m : Str → Option Value) (cc : Option Value) (u : Str → Option Value) (du : Value) : (fun y => if y = Str.ofString "c" then cc else kstB (fun z => if ([] : List Str).contains z then u z else mU m none du z) [] y) = mU m cc du := by
  funext y
  show (if y = Str.ofString "c" then cc else if ([] : List Str).contains y then u y else mU m none du y) = _
  unfold mU
  by_cases e1 : y = Str.ofString "c"
  · simp only [if_pos e1]
  · simp only [if_neg e1, List.contains_nil, Bool.false_eq_true, if_false]
/-- what a turn of the due places turns -/
structure DuS where
  vs : List Value
  du : List Int
  c : Nat
theorem due_take {f sc e : Int} {k m : Nat} (h : k < m) : (rangeKs 1 m).take (k + 1) = (rangeKs 1 m).take k ++ [1 + (k : Int)] := by
  rw [List.take_add_one, show (rangeKs 1 m)[k]? = some (1 + (k : Int)) from by simp [rangeKs, h]]
  rfl
theorem due_next {f sc e x : Int} {l : List Int} : (if dueC f sc e x then l.filter (dueC f sc e) ++ [x] else l.filter (dueC f sc e)) = (l ++ [x]).filter (dueC f sc e) := by
  rw [List.filter_append]
  by_cases h : dueC f sc e x = true
  · rw [if_pos h]; simp [h]
  · rw [if_neg h]; simp [h]
theorem dfor : iSt 21 = .For (.Name (Str.ofString "c") (forTgt (iSt 21))) (forIt (iSt 21)) (forBody (iSt 21)) [] (iSt 21).pos := by kernel_rfl
section
variable {w : World} {mean : ExcName → Option Value} {mg mb : Str → Option Value} {A₀ : Around} {base h₀ : Heap} {L C U : Addr} {s : Shared} {ex : List (Addr × Obj)} {E : Value → Shared → Prop} {dp un : Nat} {gd : Option (List Code)} {outer : List Env}
set_option maxHeartbeats 1000000 in
theorem d_init {Q : Flow → Shared → Prop} {n e ct pu to lf rt : Int} {ty wr : Str} {li : List Nat} {Z D : Addr} {t t1 t2 t3 t4 t5 t6 t7 t8 t9 u1 u2 u3 v1 v2 v3 : Tok} {kk sg : Option Value} {nu se : Int} {p2 p3 : Tok}
    (B : Below A₀ base outer h₀) (F : Fr h₀ L s.heap (mR (iM4 n e ct ty wr (tx li) pu to lf rt Z D t t1 t2 t3 t4 t5 t6 t7 t8 t9 u1 u2 u3 v1 v2 v3) kk sg (.int nu p2) (.int se p3) (.ref C))) (X : (K w.params).In h₀) (N : News h₀ L s.heap ex) (T : Top qv looseF mean mg mb h₀)
    (h : ∀ U h' tk', (∀ p ∈ ex, p.1 < U) → Fr h₀ L h' (mU (mR (iM4 n e ct ty wr (tx li) pu to lf rt Z D t t1 t2 t3 t4 t5 t6 t7 t8 t9 u1 u2 u3 v1 v2 v3) kk sg (.int nu p2) (.int se p3) (.ref C)) none (.ref U)) → News h₀ L h' ((U, PySem.W.listOf #[] 0) :: ex) → Q .next { s with heap := h', toks := tk' }) :
    wpAny (model PySem.Challenge.rw_pe0193_01.row.prog w) (iA dp un gd L outer) (exec (iSt 20) (iEnv L)) Q E s := by
  revert X
  k_fill
  intro X
  w_on
  k_with_none
  show wpAny _ _ (exec (Stmt.Assign _ _ _) _) _ _ _
  k_steps
  exact h _ _ _ (by assumption) (fr_m (by assumption) (mU_init _ _ (by kernel_rfl))) (by assumption)
set_option maxHeartbeats 1000000 in
theorem d_range {Q : Value → Shared → Prop} {n e ct pu to lf rt : Int} {ty wr : Str} {li : List Nat} {Z D : Addr} {t t1 t2 t3 t4 t5 t6 t7 t8 t9 u1 u2 u3 v1 v2 v3 : Tok} {kk sg cc : Option Value} {nu se : Int} {p2 p3 : Tok}
    (B : Below A₀ base outer h₀) (F : Fr h₀ L s.heap (mU (mR (iM4 n e ct ty wr (tx li) pu to lf rt Z D t t1 t2 t3 t4 t5 t6 t7 t8 t9 u1 u2 u3 v1 v2 v3) kk sg (.int nu p2) (.int se p3) (.ref C)) cc (.ref U))) (X : (K w.params).In h₀) (N : News h₀ L s.heap ex) (T : Top qv looseF mean mg mb h₀) (hc0 : 1 ≤ ct) (hc1 : ct ≤ 8)
    (h : ∀ r a1 a2 a3 h' tk', IsRange h' r 1 ct 1 a1 a2 a3 → Fr h₀ L h' (mU (mR (iM4 n e ct ty wr (tx li) pu to lf rt Z D t t1 t2 t3 t4 t5 t6 t7 t8 t9 u1 u2 u3 v1 v2 v3) kk sg (.int nu p2) (.int se p3) (.ref C)) cc (.ref U)) → News h₀ L h' ex → Q (.ref r) { s with heap := h', toks := tk' }) :
    wpAny (model PySem.Challenge.rw_pe0193_01.row.prog w) (iA dp un gd L outer) (eval (forIt (iSt 21)) (iEnv L)) Q E s := by
  revert X
  k_fill
  intro X
  w_on
  k_with_none
  show wpAny _ _ (eval (PySem.Expr.Call _ _ _ _) _) _ _ _
  k_steps
  exact h _ _ _ _ _ _ (by assumption) (by assumption) (by assumption)
set_option maxHeartbeats 1000000 in
theorem d_for {Q : Flow → Shared → Prop} {n e ct pu to lf rt : Int} {ty wr : Str} {li : List Nat} {Z D : Addr} {t t1 t2 t3 t4 t5 t6 t7 t8 t9 u1 u2 u3 v1 v2 v3 : Tok} {kk sg : Option Value} {nu se : Int} {p2 p3 : Tok}
    (B : Below A₀ base outer h₀) (F : Fr h₀ L s.heap (mU (mR (iM4 n e ct ty wr (tx li) pu to lf rt Z D t t1 t2 t3 t4 t5 t6 t7 t8 t9 u1 u2 u3 v1 v2 v3) kk sg (.int nu p2) (.int se p3) (.ref C)) none (.ref U))) (X : (K w.params).In h₀) (N : News h₀ L s.heap ((U, PySem.W.listOf #[] 0) :: ex)) (T : Top qv looseF mean mg mb h₀)
    (hU : ∀ p ∈ ex, p.1 < U) (hc0 : 1 ≤ ct) (hc1 : ct ≤ 8) (hf : 1 ≤ fV n ∧ fV n ≤ 4) (hs : 1 ≤ sV n ∧ sV n ≤ 4) (he : 0 ≤ e ∧ e ≤ 2) (hd : dp + 8 < recursionLimit) (hu : un + 100 < cLine) (hE : PassesOwn (model PySem.Challenge.rw_pe0193_01.row.prog w) (iA dp un gd L outer) (iEnv L) E)
    (h : ∀ cc vs c h' tk', Fr h₀ L h' (mU (mR (iM4 n e ct ty wr (tx li) pu to lf rt Z D t t1 t2 t3 t4 t5 t6 t7 t8 t9 u1 u2 u3 v1 v2 v3) kk sg (.int nu p2) (.int se p3) (.ref C)) cc (.ref U)) → News h₀ L h' ((U, PySem.W.listOf (List.toArray vs) c) :: ex) → IntsAre vs (dueL (fV n) (sV n) e (ct - 1).toNat) → vs.length ≤ 30 → Q .next { s with heap := h', toks := tk' }) :
    wpAny (model PySem.Challenge.rw_pe0193_01.row.prog w) (iA dp un gd L outer) (exec (iSt 21) (iEnv L)) Q E s := by
  rw [dfor]
  refine For_invVF F (by kernel_rfl) (by kernel_rfl) ?_ (by intro _; rfl) hE
  refine d_range B F X N T hc0 hc1 ?_
  intro r a1 a2 a3 h1 tk1 R F1 N1
  refine kst_range (s := { s with heap := h1, toks := tk1 }) (n := (ct - 1).toNat) (fun c : DuS => (U, PySem.W.listOf c.vs.toArray c.c) :: ex) (fun c => []) (fun c => IntsAre c.vs c.du) []
    (fun pre c => c.du = ((rangeKs 1 (ct - 1).toNat).take pre.length).filter (dueC (fV n) (sV n) e) ∧ c.vs.length ≤ pre.length) ⟨[], [], 0⟩ rfl R (small_one (by omega) (by omega) (by omega) (by omega)) (rangeSize_nat _ _) F1 N1 .nil ?_ ?_ ?_ ?_
  · intro p hp
    cases hp
  · exact ⟨rfl, Nat.le_refl _⟩
  · rintro ⟨vs, du, c⟩ pre k tk u h2 tk2 own hk hlt hoff hI ⟨hsc, hv⟩ F2 N2
    dsimp only at hI hsc hv F2 N2
    rw [mU_kst] at F2
    refine d_body (s := { s with heap := h2, toks := tk2 }) (ex := ex ++ own) B F2 X N2 T ?_ hI (by omega) (by omega) (by omega) hf.1 hf.2 hs.1 hs.2 he.1 he.2 hd hu ?_
    · intro p hp
      rcases List.mem_append.mp hp with hp | hp
      · exact Nat.ne_of_lt (hU p hp)
      · exact hoff p hp _ (List.mem_cons_self ..)
    · intro vs' du' c' h3 tk3 hs' F3 N3 hI' hv'
      refine kst_end (⟨vs', du', c'⟩ : DuS) F3 N3 (fun p hp => List.mem_append_left own hp) (fun p hp => List.mem_append_right (_ :: ex) hp) rfl hI' ?_ ?_ ?_
      · intro p hp
        cases hp
      · intro z hz hn hc
        unfold mU
        simp only [if_neg hz]
      · dsimp only
        rw [List.length_append, List.length_singleton]
        refine ⟨?_, by omega⟩
        rw [due_take (f := fV n) (sc := sV n) (e := e) hlt, ← due_next, hs', hsc, hk]
  · rintro ⟨vs, du, c⟩ u h2 tk2 hI ⟨hsc, hv⟩ F2 N2
    dsimp only at hI hsc hv F2 N2
    rw [if_self, mU_kst] at F2
    rw [rangeKs_length] at hsc hv
    rw [List.take_of_length_le (by rw [rangeKs_length]; exact Nat.le_refl _)] at hsc
    exact h _ _ _ _ _ F2 N2 (by rw [hsc] at hI; exact hI) (by omega)
end
end Mine
end
section
set_option linter.unusedVariables false
set_option maxRecDepth 100000
open PySem PySem.Calls PySem.W PyProof.Rows PyProof.V
set_option Elab.async false
namespace Mine
section
variable {w : World} {mean : ExcName → Option Value} {mg mb : Str → Option Value} {A₀ : Around} {base h₀ : Heap} {L C U : Addr} {s : Shared} {ex : List (Addr × Obj)} {E : Value → Shared → Prop} {dp un : Nat} {gd : Option (List Code)} {outer : List Env}
set_option maxHeartbeats 1000000 in
theorem f_end {Q : Flow → Shared → Prop} {n e ct pu to lf rt : Int} {ty wr : Str} {li : List Nat} {Z D : Addr} {t t1 t2 t3 t4 t5 t6 t7 t8 t9 u1 u2 u3 v1 v2 v3 : Tok} {kk sg cc : Option Value} {nu se : Int} {p2 p3 : Tok} {ds cs : List Value} {du : List Int} {c1 c2 : Nat}
    (B : Below A₀ base outer h₀) (F : Fr h₀ L s.heap (mU (mR (iM4 n e ct ty wr (tx li) pu to lf rt Z D t t1 t2 t3 t4 t5 t6 t7 t8 t9 u1 u2 u3 v1 v2 v3) kk sg (.int nu p2) (.int se p3) (.ref C)) cc (.ref U))) (X : (K w.params).In h₀) (N : News h₀ L s.heap ((U, PySem.W.listOf ds.toArray c1) :: (C, PySem.W.listOf cs.toArray c2) :: ex)) (T : Top qv looseF mean mg mb h₀)
    (hI1 : IntsAre ds du) (hI2 : IntsAre cs du) (hl : ds.length ≤ 30) (he0 : 0 ≤ e) (he1 : e ≤ 2) (hto : to = if e = 0 then (du.length : Int) + 1 else min 2 ((du.length : Int) + 1)) (hnu : nu = vV n) (hd : dp + 8 < recursionLimit) (hu : un + 100 < cLine)
    (h : ∀ h' tk' m', Fr h₀ L h' m' → News h₀ L h' ex → Q (.ret (.bool true)) { s with heap := h', toks := tk' }) :
    wpAny (model PySem.Challenge.rw_pe0193_01.row.prog w) (iA dp un gd L outer) (execs [iSt 22, iSt 23] (iEnv L)) Q E s := by
  have hlen := hI1.length
  have hb : (nu == vV n) = true := by rw [hnu]; exact beq_self_eq_true _
  revert X
  k_fill
  intro X
  w_on
  k_with_none
  show wpAny _ _ (execs [Stmt.If _ _ _ _, Stmt.Return _ _] _) _ _ _
  k_steps
  · exfalso
    (rename to ≠ _ => hne)
    rw [if_pos (by assumption)] at hto
    omega
  · rw [hb]
    exact h _ _ _ (by assumption) (cb_drop (by assumption) (by kcj_all))
  · exfalso
    (rename to ≠ _ => hne)
    rw [if_neg (by assumption)] at hto
    split at hne <;> omega
  · rw [hb]
    exact h _ _ _ (by assumption) (cb_drop (by assumption) (by kcj_all))
end
end Mine
end
section
set_option linter.unusedVariables false
set_option maxRecDepth 100000
open PySem PySem.W PyProof.Rows PyProof.V
set_option Elab.async false
namespace Mine
theorem isB32 : isB 32 = true := by decide +kernel
theorem mul_tx (k : Int) : Txt.mul (Str.ofString " ") k = tx (bl k.toNat) := by
  apply Str.ext'
  have h := mul_one_list 32 k
  rw [show (⟨#[32]⟩ : Str) = Str.ofString " " from by decide +kernel] at h
  rw [← Array.toList_inj, h]
  simp [tx, bl]
theorem small_facts (n : Int) : 0 ≤ eV n ∧ eV n ≤ 2 ∧ 1 ≤ fV n ∧ fV n ≤ 4 ∧ 1 ≤ sV n ∧ sV n ≤ 4 ∧ 0 ≤ aV n ∧ aV n ≤ 4 ∧ 0 ≤ bV n ∧ bV n ≤ 3 := by
  unfold eV fV sV aV bV
  have h1 := Int.fmod_nonneg_of_pos n (show (0 : Int) < 3 by omega)
  have h2 := Int.fmod_lt_of_pos n (show (0 : Int) < 3 by omega)
  have h3 := Int.fmod_nonneg_of_pos (n.fdiv 3) (show (0 : Int) < 4 by omega)
  have h4 := Int.fmod_lt_of_pos (n.fdiv 3) (show (0 : Int) < 4 by omega)
  have h5 := Int.fmod_nonneg_of_pos (n.fdiv 12) (show (0 : Int) < 4 by omega)
  have h6 := Int.fmod_lt_of_pos (n.fdiv 12) (show (0 : Int) < 4 by omega)
  have h7 := Int.fmod_nonneg_of_pos (n.fdiv 48) (show (0 : Int) < 5 by omega)
  have h8 := Int.fmod_lt_of_pos (n.fdiv 48) (show (0 : Int) < 5 by omega)
  have h9 := Int.fmod_nonneg_of_pos (n.fdiv 240) (show (0 : Int) < 4 by omega)
  have h10 := Int.fmod_lt_of_pos (n.fdiv 240) (show (0 : Int) < 4 by omega)
  omega
theorem due_int {f sc e ct : Int} (hf : 1 ≤ f ∧ f ≤ 4) (hs : 1 ≤ sc ∧ sc ≤ 4) (he : 0 ≤ e ∧ e ≤ 2) (hc : 1 ≤ ct ∧ ct ≤ 8) :
    (cutPos (vvG (decide (e = 0)) f sc) 20 ct 0).1 = dueL f sc e (ct - 1).toNat ∧ (cutPos (vvG (decide (e = 0)) f sc) 20 ct 0).2 = (if e = 0 then ((dueL f sc e (ct - 1).toNat).length : Int) + 1 else min 2 (((dueL f sc e (ct - 1).toNat).length : Int) + 1)) := by
  have h := due_nat (f - 1).toNat (by omega) (sc - 1).toNat (by omega) e.toNat (by omega) (ct - 1).toNat (by omega)
  rw [show (((f - 1).toNat : Nat) : Int) + 1 = f by omega, show (((sc - 1).toNat : Nat) : Int) + 1 = sc by omega, show (((ct - 1).toNat : Nat) : Int) + 1 = ct by omega, show ((e.toNat : Nat) : Int) = e by omega, show decide (e.toNat = 0) = decide (e = 0) by rw [decide_eq_decide]; omega] at h
  refine ⟨h.1, ?_⟩
  rw [h.2]
  by_cases q : e = 0
  · rw [if_pos q, if_pos (by omega)]
  · rw [if_neg q, if_neg (by omega)]
theorem line_facts {n : Int} (hn : 0 ≤ n ∧ n < 10000000000000000000000000) {l' r' : List Nat} {pu to : Int} (hc : cutL (vvG (decide (eV n = 0)) (fV n) (sV n)) (dV n) 20 (tyL (vV n) (dV n) (ndig (vV n))) [] 0 0 = (l', r', pu, to)) :
    StripOk (Txt.mul (Str.ofString " ") (aV n) ++ tx (l' ++ r') ++ Txt.mul (Str.ofString " ") (bV n)) (aV n).toNat (bV n).toNat (l' ++ r') pu ∧ 0 ≤ pu ∧ pu ≤ 8 ∧ (l' ++ r').length ≤ 16 ∧
    (stripL (aV n).toNat (bV n).toNat (l' ++ r') pu.toNat).map isB = List.replicate (lV n pu).toNat true ++ List.replicate ((ndig (vV n) : Int) + pu).toNat false ++ List.replicate (rV n pu).toNat true ∧
    (stripL (aV n).toNat (bV n).toNat (l' ++ r') pu.toNat).length ≤ 30 ∧ (0 ≤ lV n pu ∧ lV n pu ≤ 4) ∧ (0 ≤ rV n pu ∧ rV n pu ≤ 3) ∧
    (stripL (aV n).toNat (bV n).toNat (l' ++ r') pu.toNat).reverse.foldl scanS ([], 0, 0) = (dueL (fV n) (sV n) (eV n) ((ndig (vV n) : Int) - 1).toNat, (ndig (vV n) : Int), vV n) ∧
    to = (if eV n = 0 then ((dueL (fV n) (sV n) (eV n) ((ndig (vV n) : Int) - 1).toNat).length : Int) + 1 else min 2 (((dueL (fV n) (sV n) (eV n) ((ndig (vV n) : Int) - 1).toNat).length : Int) + 1)) := by
  obtain ⟨e0, e1, f0, f1, s0, s1, a0, a1, b0, b1⟩ := small_facts n
  have hv := vV_bound n hn
  have hd := ndig_bound (vV n)
  have hcs := cut_scan (vvG_bound ⟨f0, f1⟩ ⟨s0, s1⟩) 20 _ [] 0 0 l' r' pu to ([], 0, 0) [] 0 0 hc (tyL_fig _ _ _) (by intro c h; cases h) rfl
  rw [tyL_len] at hcs
  obtain ⟨du1, du2⟩ := due_int ⟨f0, f1⟩ ⟨s0, s1⟩ ⟨e0, e1⟩ (show 1 ≤ (ndig (vV n) : Int) ∧ (ndig (vV n) : Int) ≤ 8 by omega)
  rw [du1, du2, tyL_num hv.1, Int.emod_eq_of_lt hv.1 (ndig_hi hv.2.1)] at hcs
  obtain ⟨c1, c2, c3, c4, c5⟩ := hcs
  have hdl : (dueL (fV n) (sV n) (eV n) ((ndig (vV n) : Int) - 1).toNat).length ≤ 7 := by
    unfold dueL
    refine Nat.le_trans (List.length_filter_le _ _) ?_
    rw [rangeKs_length]
    omega
  have hm : (l' ++ r').length = ndig (vV n) + pu.toNat := by
    rw [c4, c2]
    simp only [List.length_nil]
    omega
  have hp0 : 0 ≤ pu := by omega
  have hp1 : pu ≤ 8 := by omega
  have hl : (lV n pu).toNat = (aV n).toNat - pu.toNat ∧ 0 ≤ lV n pu ∧ lV n pu ≤ 4 := by
    unfold lV
    split <;> omega
  have hr : (rV n pu).toNat = (bV n).toNat - (pu.toNat - (aV n).toNat) ∧ 0 ≤ rV n pu ∧ rV n pu ≤ 3 := by
    unfold rV
    split <;> split <;> omega
  have hne : ∀ c ∈ l' ++ r', c ≠ 32 := by
    intro c h q
    have := c5 c h
    rw [q, isB32] at this
    cases this
  have hlen : (stripL (aV n).toNat (bV n).toNat (l' ++ r') pu.toNat).length ≤ 30 := by
    unfold stripL
    rw [List.length_append, List.length_append, hm]
    simp only [bl, List.length_replicate]
    omega
  refine ⟨⟨?_, hne, by omega, by omega, by omega, by omega⟩, hp0, hp1, by omega, ?_, hlen, hl.2, hr.2, ?_, by omega⟩
  · rw [mul_tx, mul_tx, tx_append, tx_append]
  · unfold stripL bl
    rw [List.map_append, List.map_append, List.map_replicate, List.map_replicate, isB32, hl.1, hr.1, show ((ndig (vV n) : Int) + pu).toNat = ndig (vV n) + pu.toNat by omega, ← hm]
    congr 2
    rw [List.eq_replicate_iff]
    refine ⟨by simp, ?_⟩
    intro x hx
    obtain ⟨c, hc', rfl⟩ := List.mem_map.mp hx
    exact c5 c hc'
  · unfold stripL
    rw [List.reverse_append, List.reverse_append, List.foldl_append, List.foldl_append]
    rw [show (bl ((bV n).toNat - (pu.toNat - (aV n).toNat))).reverse = bl ((bV n).toNat - (pu.toNat - (aV n).toNat)) from List.reverse_replicate .., show (bl ((aV n).toNat - pu.toNat)).reverse = bl ((aV n).toNat - pu.toNat) from List.reverse_replicate .., blanks_scan, blanks_scan, c1]
    simp
end Mine
end
section
set_option linter.unusedVariables false
set_option maxRecDepth 100000
open PySem PySem.W PyProof.Rows PyProof.V
set_option Elab.async false
namespace Mine
theorem lfun : fnBody (stmt 14) = [iSt 0, iSt 1, iSt 2, iSt 3, iSt 4, iSt 5, iSt 6, iSt 7, iSt 8, iSt 9, iSt 10, iSt 11, iSt 12, iSt 13, iSt 14, iSt 15, iSt 16, iSt 17, iSt 18, iSt 19, iSt 20, iSt 21, iSt 22, iSt 23] := by kernel_rfl
theorem mL_entry (a : Value) (y : Str) : List.lookup y [(Str.ofString "n", a)] = mL [(Str.ofString "n", a)] y := rfl
section
variable {w : World} {mean : ExcName → Option Value} {mg mb : Str → Option Value} {A₀ : Around} {base h₀ : Heap} {L : Addr} {s : Shared} {ex : List (Addr × Obj)} {E : Value → Shared → Prop} {dp un : Nat} {gd : Option (List Code)} {outer : List Env}
set_option maxHeartbeats 1000000 in
theorem body_rest {Q : Flow → Shared → Prop} {n : Int} {items : Array Value} {c : Nat} {Z : Addr} {t t1 t2 t3 t4 t5 t6 t7 t8 t9 : Tok} (hn : 0 ≤ n ∧ n < 10000000000000000000000000) (B : Below A₀ base outer h₀)
    (F : Fr h₀ L s.heap (mL ((Str.ofString "sizes", .ref Z) :: iM2 n (eV n) (ndig (vV n) : Int) (tx (tyL (vV n) (dV n) (ndig (vV n)))) t t1 t2 t3 t4 t5 t6 t7 t8 t9))) (X : (K w.params).In h₀) (N : News h₀ L s.heap ((Z, PySem.W.listOf items c) :: ex)) (T : Top qv looseF mean mg mb h₀)
    (hr : Row (decide (eV n = 0)) (fV n) (sV n) items) (hb : AllBare s.gens) (hd : dp + 8 < recursionLimit) (hu : un + 100 < cLine) (hE : PassesOwn (model PySem.Challenge.rw_pe0193_01.row.prog w) (iA dp un gd L outer) (iEnv L) E)
    (h : ∀ h' tk' gens' m', Fr h₀ L h' m' → News h₀ L h' ex → AllBare gens' → Q (.ret (.bool true)) { heap := h', gens := gens', drawn := s.drawn, toks := tk', os := s.os }) :
    wpAny (model PySem.Challenge.rw_pe0193_01.row.prog w) (iA dp un gd L outer) (execs [iSt 10, iSt 11, iSt 12, iSt 13, iSt 14, iSt 15, iSt 16, iSt 17, iSt 18, iSt 19, iSt 20, iSt 21, iSt 22, iSt 23] (iEnv L)) Q E s := by
  obtain ⟨e0, e1, f0, f1, s0, s1, a0, a1, b0, b1⟩ := small_facts n
  have hv := vV_bound n hn
  have hg := ndig_bound (vV n)
  refine wpAny_execs_cons ?_
  refine i_cut (e0 := decide (eV n = 0)) (items := items) (zo := PySem.W.listOf items c) B F X N T (List.mem_cons_self ..) ⟨rfl, _, rfl⟩ hr ⟨f0, f1⟩ ⟨s0, s1⟩ hv.2.2 (by rw [tyL_len]; omega) hb hd hu ?_
  intro l' r' pu to u1 u2 u3 h1 tk1 gens1 hc F1 N1 B1
  obtain ⟨k1, k2, k3, k4, k5, k6, k7, k8, k9, k10⟩ := line_facts hn hc
  refine wpAny_execs_cons ?_
  refine i_line (s := { heap := h1, gens := gens1, drawn := s.drawn, toks := tk1, os := s.os }) B F1 X N1 T ⟨a0, a1⟩ ⟨b0, b1⟩ (by rw [tx_length]; omega) hd hu k1 ?_
  intro v1 h2 tk2 F2 N2
  refine i_sides (s := { heap := h2, gens := gens1, drawn := s.drawn, toks := tk2, os := s.os }) B F2 X N2 T ⟨a0, a1⟩ ⟨b0, b1⟩ ⟨k2, k3⟩ hd hu ?_
  intro v2 v3 h3 tk3 F3 N3
  refine wpAny_execs_cons ?_
  refine i_blanks (s := { heap := h3, gens := gens1, drawn := s.drawn, toks := tk3, os := s.os }) (li := stripL (aV n).toNat (bV n).toNat (l' ++ r') pu.toNat) (v1 := v1) rfl (by show dp < recursionLimit; omega) F3 (by kernel_rfl) X N3 T (by omega) ?_
  intro D c4 h4 tk4 F4 N4
  rw [show ((stripL (aV n).toNat (bV n).toNat (l' ++ r') pu.toNat).map fun c => Value.bool (isB c)) = ((stripL (aV n).toNat (bV n).toNat (l' ++ r') pu.toNat).map isB).map Value.bool from by rw [List.map_map]; rfl] at N4
  refine wpAny_execs_cons ?_
  refine i_if (s := { heap := h4, gens := gens1, drawn := s.drawn, toks := tk4, os := s.os }) B F4 X N4 T k5 k7 k8 (by omega) ⟨k2, k3⟩ hu ?_
  intro h5 tk5 F5 N5
  refine r_init (s := { heap := h5, gens := gens1, drawn := s.drawn, toks := tk5, os := s.os }) B F5 X N5 T ?_
  intro C p2 p3 h6 tk6 hC F6 N6
  refine wpAny_execs_cons ?_
  refine r_for (s := { heap := h6, gens := gens1, drawn := s.drawn, toks := tk6, os := s.os }) B F6 X N6 T hC k6 hd hu hE ?_
  intro kk sg q2 q3 se nu vs cu c7 h7 tk7 hsc F7 N7 hI7 hv7
  rw [k9] at hsc
  simp only [Prod.mk.injEq] at hsc
  obtain ⟨rfl, rfl, rfl⟩ := hsc
  refine wpAny_execs_cons ?_
  refine d_init (s := { heap := h7, gens := gens1, drawn := s.drawn, toks := tk7, os := s.os }) B F7 X N7 T ?_
  intro U h8 tk8 hU F8 N8
  refine wpAny_execs_cons ?_
  refine d_for (s := { heap := h8, gens := gens1, drawn := s.drawn, toks := tk8, os := s.os }) B F8 X N8 T hU (by omega) (by omega) ⟨f0, f1⟩ ⟨s0, s1⟩ ⟨e0, e1⟩ hd hu hE ?_
  intro cc ds c9 h9 tk9 F9 N9 hI9 hv9
  refine f_end (s := { heap := h9, gens := gens1, drawn := s.drawn, toks := tk9, os := s.os }) B F9 X N9 T hI9 hI7 hv9 e0 e1 k10 rfl hd hu ?_
  intro h10 tk10 m10 F10 N10
  exact h h10 tk10 gens1 m10 F10 (fun p hp => N10 p (List.mem_cons_of_mem _ hp)) B1
set_option maxHeartbeats 1000000 in
theorem body_spec {Q : Flow → Shared → Prop} {n : Int} {t : Tok} (hn : 0 ≤ n ∧ n < 10000000000000000000000000) (B : Below A₀ base outer h₀)
    (F : Fr h₀ L s.heap (mL [(Str.ofString "n", .int n t)])) (X : (K w.params).In h₀) (N : News h₀ L s.heap ex) (T : Top qv looseF mean mg mb h₀)
    (hb : AllBare s.gens) (hd : dp + 8 < recursionLimit) (hu : un + 100 < cLine) (hE : PassesOwn (model PySem.Challenge.rw_pe0193_01.row.prog w) (iA dp un gd L outer) (iEnv L) E)
    (h : ∀ h' tk' gens' m', Fr h₀ L h' m' → News h₀ L h' ex → AllBare gens' → Q (.ret (.bool true)) { heap := h', gens := gens', drawn := s.drawn, toks := tk', os := s.os }) :
    wpAny (model PySem.Challenge.rw_pe0193_01.row.prog w) (iA dp un gd L outer) (execs [iSt 0, iSt 1, iSt 2, iSt 3, iSt 4, iSt 5, iSt 6, iSt 7, iSt 8, iSt 9, iSt 10, iSt 11, iSt 12, iSt 13, iSt 14, iSt 15, iSt 16, iSt 17, iSt 18, iSt 19, iSt 20, iSt 21, iSt 22, iSt 23] (iEnv L)) Q E s := by
  obtain ⟨e0, e1, f0, f1, s0, s1, a0, a1, b0, b1⟩ := small_facts n
  have hv := vV_bound n hn
  have hg := ndig_bound (vV n)
  have hty : typedS (vV n) (dV n) = tx (tyL (vV n) (dV n) (ndig (vV n))) := tyP_tx _ _ _
  have hct : (typedS (vV n) (dV n)).length = ndig (vV n) := by rw [hty, tx_length, tyL_len]
  refine i_ints hn F X N T ?_
  intro t1 t2 t3 t4 t5 t6 t7 h1 tk1 F1 N1
  refine i_typed (s := { s with heap := h1, toks := tk1 }) hv (by omega) B F1 X N1 T hd hu ?_
  intro t8 t9 h2 tk2 F2 N2
  rw [hct, hty] at F2
  have F2' : Fr h₀ L h2 (mL (iM2 n (eV n) (ndig (vV n) : Int) (tx (tyL (vV n) (dV n) (ndig (vV n)))) t t1 t2 t3 t4 t5 t6 t7 t8 t9)) := F2
  clear F2
  refine wpAny_execs_cons ?_
  have he : eV n = 0 ∨ eV n = 1 ∨ eV n = 2 := by omega
  rcases he with he | he | he
  · rw [he] at F2'
    refine i_sizes0 (s := { s with heap := h2, toks := tk2 }) B F2' X N2 T ?_
    intro Z c u1 u2 h3 tk3 F3 N3
    have F3' : Fr h₀ L h3 (mL ((Str.ofString "sizes", .ref Z) :: iM2 n (eV n) (ndig (vV n) : Int) (tx (tyL (vV n) (dV n) (ndig (vV n)))) t t1 t2 t3 t4 t5 t6 t7 t8 t9)) := by rw [he]; exact F3
    refine body_rest (s := { s with heap := h3, toks := tk3 }) hn B F3' X N3 T ⟨t2, t3, rfl, rfl, by omega, by omega, by omega, by omega, ?_⟩ hb hd hu hE h
    rw [if_pos (by simpa using he)]
    exact ⟨u1, rfl⟩
  · rw [he] at F2'
    refine i_sizes1 (s := { s with heap := h2, toks := tk2 }) B F2' X N2 T ?_
    intro Z c u1 u2 h3 tk3 F3 N3
    have F3' : Fr h₀ L h3 (mL ((Str.ofString "sizes", .ref Z) :: iM2 n (eV n) (ndig (vV n) : Int) (tx (tyL (vV n) (dV n) (ndig (vV n)))) t t1 t2 t3 t4 t5 t6 t7 t8 t9)) := by rw [he]; exact F3
    refine body_rest (s := { s with heap := h3, toks := tk3 }) hn B F3' X N3 T ⟨t2, t3, rfl, rfl, by omega, by omega, by omega, by omega, ?_⟩ hb hd hu hE h
    rw [if_neg (by simp; omega)]
    exact .inr ⟨u1, rfl⟩
  · rw [he] at F2'
    refine i_sizes2 (s := { s with heap := h2, toks := tk2 }) B F2' X N2 T ?_
    intro Z c h3 tk3 F3 N3
    have F3' : Fr h₀ L h3 (mL ((Str.ofString "sizes", .ref Z) :: iM2 n (eV n) (ndig (vV n) : Int) (tx (tyL (vV n) (dV n) (ndig (vV n)))) t t1 t2 t3 t4 t5 t6 t7 t8 t9)) := by rw [he]; exact F3
    refine body_rest (s := { s with heap := h3, toks := tk3 }) hn B F3' X N3 T ⟨t2, t3, rfl, rfl, by omega, by omega, by omega, by omega, ?_⟩ hb hd hu hE h
    rw [if_neg (by simp; omega)]
    exact .inl rfl
end
set_option maxHeartbeats 1000000 in
theorem right_spec {w : World} {mean : ExcName → Option Value} {mg mb : Str → Option Value} {news : List (Addr × Obj)} {n : Int} {t1 : Tok}
    {dp un : Nat} {gd : Option (List Code)} {cn : Str} {cs : Scope} {a : Addr} {ccd : Value} {cl : List (Str × Addr)} {outer : List Env} {A₀ : Around} {base h₀ : Heap} {L : Addr} {m : Str → Option Value} {s : Shared} {Q E : Value → Shared → Prop}
    (B : Below A₀ base outer h₀) (F : Fr h₀ L s.heap m) (X : (K w.params).In h₀) (N : News h₀ L s.heap news) (T : Top qv looseF mean mg mb h₀) (hk : cs.kind = .function)
    (hn : 0 ≤ n ∧ n < 10000000000000000000000000) (hb : AllBare s.gens) (hd : dp + 12 < recursionLimit) (hu : un + 200 < cLine)
    (h : ∀ h' tk' gens', Fr h₀ L h' m → News h₀ L h' news → AllBare gens' → Q (.bool true) { heap := h', gens := gens', drawn := s.drawn, toks := tk', os := s.os }) :
    wpAny (model PySem.Challenge.rw_pe0193_01.row.prog w) (ktrTop dp un gd cn cs L a ccd cl outer) (call (.ref 125) [.int n t1]) Q E s := by
  revert X
  k_fill
  intro X
  w_on
  k_with_none
  refine wpAny_call ?_
  k_dflt cell_enter
  rename_i g' L' h1 FG F1 N1 B1 X1 T1
  have F2 : Fr g' L' h1 (mL [(Str.ofString "n", .int n t1)]) := by
    refine fr_m F1 ?_
    funext y
    exact (congrArg (List.lookup y) (show _ = [(Str.ofString "n", Value.int n t1)] from by kernel_rfl)).trans (mL_entry _ y)
  clear F1
  rw [lfun]
  refine body_spec (s := ⟨h1, s.gens, s.drawn, _, s.os⟩) hn B1 F2 X1 N1 T1 hb ?rm ?un ?pe ?_
  case rm => show dp + 1 + 8 < recursionLimit; omega
  case pe => passes_own
  case un => show un + 3 + 100 < cLine; omega
  intro h6 tk6 g6 m6 F6 N6 B6
  refine ⟨_, _, _, F6, N6, fun F7 N7 => ?_⟩
  exact h h6 tk6 g6 F7 (fun p hp => N7 p (by simpa using hp)) B6
end Mine
end
section
set_option linter.unusedVariables false
set_option maxRecDepth 100000
open PySem PySem.W PyProof.Rows PyProof.V
set_option Elab.async false
namespace Mine
abbrev lEnv (L a : Addr) (cd : Value) : Env := envOf (Str.ofString "law") (fnScope (stmt 15)) L a cd
abbrev lA (L a : Addr) (cd : Value) : Around := ktrTop 302 7 (some []) (Str.ofString "law") (fnScope (stmt 15)) L a cd [] []
theorem lA_eq (L a : Addr) (cd : Value) : callerA.deeper (lEnv L a cd) = lA L a cd := rfl
def lSt (i : Nat) : Stmt := (fnBody (stmt 15)).getD i (.Pass default)
/-- the first statement, closed to the elaborator: it would reckon its numbers out at every goal -/
@[irreducible] def lS0 : Stmt := lSt 0
theorem lS0_eq : lS0 = lSt 0 := by unfold lS0; rfl
theorem lawfun : fnBody (stmt 15) = [lS0, lSt 1, lSt 2] := by rw [lS0_eq]; kernel_rfl
section
variable {w : World} {mean : ExcName → Option Value} {mg mb : Str → Option Value} {base h₀ : Heap} {L a : Addr} {cd : Value} {s : Shared} {ex : List (Addr × Obj)} {E : Value → Shared → Prop}
end
end Mine
end
section
set_option linter.unusedVariables false
set_option maxRecDepth 100000
open PySem PySem.W PyProof.Rows PyProof.V
set_option Elab.async false
namespace Mine
theorem arith5 {prog : Program} {w : World} {A : Around} {E : Value → Shared → Prop} {s : Shared} {env : Env} {Q : Value → Shared → Prop} {a b c d e f v : Int} {k1 k2 k3 k4 k5 k6 : Nat} {p1 p2 p3 p4 p5 p6 q1 q2 q3 q4 q5 : Pos}
    (hb : b.natAbs < 2 ^ 62) (hf : f.natAbs < 2 ^ 62) (hd : d.natAbs < 2 ^ 64) (he : 0 ≤ e ∧ e ≤ 1000) (hv : a + b * (c + d ^ e.toNat * f) = v) (h : ∀ t tk, Q (.int v t) { s with toks := tk }) :
    wpAny (model prog w) A (eval (.BinOp (.Constant (.int a) k1 p1) .Add (.BinOp (.Constant (.int b) k2 p2) .Mult (.BinOp (.Constant (.int c) k3 p3) .Add (.BinOp (.BinOp (.Constant (.int d) k4 p4) .Pow (.Constant (.int e) k5 p5) q1) .Mult (.Constant (.int f) k6 p6) q2) q3) q4) q5) env) Q E s := by
  subst hv
  with_reducible refine wpAny_BinOp (wpAny_Constant_int ?_)
  with_reducible refine wpAny_BinOp (wpAny_Constant_int ?_)
  with_reducible refine wpAny_BinOp (wpAny_Constant_int ?_)
  dsimp only
  with_reducible refine wpAny_BinOp ?_
  with_reducible refine wpAny_BinOp (wpAny_Constant_int (wpAny_Constant_int ?_))
  dsimp only
  with_reducible refine pow_int_small he.1 (by omega) hd ?_
  with_reducible refine wpAny_Constant_int ?_
  dsimp only
  with_reducible refine PySem.P.mul_int ?_ (IntMulOk.of_right (intBits_le_64 (by omega) (by omega)))
  with_reducible refine PySem.P.add_int ?_
  dsimp only
  with_reducible refine PySem.P.mul_int ?_ (IntMulOk.of_left (intBits_le_64 (by omega) (by omega)))
  with_reducible refine PySem.P.add_int ?_
  dsimp only
  with_reducible exact h _ _
section
variable {w : World} {mean : ExcName → Option Value} {mg mb : Str → Option Value} {base h₀ : Heap} {L a : Addr} {cd : Value} {s : Shared} {ex : List (Addr × Obj)} {E : Value → Shared → Prop}
set_option maxHeartbeats 1000000 in
theorem own_list {Q : Flow → Shared → Prop} {Z : Addr} {a1 b1 a2 b2 : PySem.Expr} {o1 o2 : Operator} {p1 p2 p3 q1 q2 : Pos} {v1 v2 : Int} (B : Below callerA base [] h₀) (F : Fr h₀ L s.heap (mL [(Str.ofString "script", .ref Z)])) (X : (K w.params).In h₀) (N : News h₀ L s.heap ex) (T : Top qv looseF mean mg mb h₀)
    
    (g1 : ∀ (Q : Value → Shared → Prop) s, (∀ t tk, Q (.int v1 t) { s with toks := tk }) → wpAny (model PySem.Challenge.rw_pe0193_01.row.prog w) (lA L a cd) (eval (.BinOp a1 o1 b1 q1) (lEnv L a cd)) Q E s)
    (g2 : ∀ (Q : Value → Shared → Prop) s, (∀ t tk, Q (.int v2 t) { s with toks := tk }) → wpAny (model PySem.Challenge.rw_pe0193_01.row.prog w) (lA L a cd) (eval (.BinOp a2 o2 b2 q2) (lEnv L a cd)) Q E s)
    (h : ∀ D t1 t2 h' tk', Fr h₀ L h' (mL [(Str.ofString "own", .ref D), (Str.ofString "script", .ref Z)]) → News h₀ L h' ((D, PySem.W.listOf #[.int v1 t1, .int v2 t2] 0) :: ex) → Q .next { s with heap := h', toks := tk' }) :
    wpAny (model PySem.Challenge.rw_pe0193_01.row.prog w) (lA L a cd) (exec (.Assign [.Name (Str.ofString "own") p1] (.List [.BinOp a1 o1 b1 q1, .BinOp a2 o2 b2 q2] p2) p3) (lEnv L a cd)) Q E s := by
  revert X
  k_fill
  intro X
  w_on
  k_with_none
  walk1
  walk1
  refine Calls.spliced_cons (g1 _ _ ?_)
  intro t1 tk1
  refine Calls.spliced_cons (g2 _ _ ?_)
  intro t2 tk2
  refine Calls.spliced_nil ?_
  dsimp only
  k_steps
  exact h _ _ _ _ _ (fr_m (by assumption) (funext (mL_if (fun _ => rfl)))) (by assumption)
set_option maxHeartbeats 1000000 in
theorem m_own {Q : Flow → Shared → Prop} {Z : Addr} (B : Below callerA base [] h₀) (F : Fr h₀ L s.heap (mL [(Str.ofString "script", .ref Z)])) (X : (K w.params).In h₀) (N : News h₀ L s.heap ex) (T : Top qv looseF mean mg mb h₀)
    (h : ∀ D t1 t2 h' tk', Fr h₀ L h' (mL [(Str.ofString "own", .ref D), (Str.ofString "script", .ref Z)]) → News h₀ L h' ((D, PySem.W.listOf #[.int 509033159384790464946 t1, .int 164926805804173 t2] 0) :: ex) → Q .next { s with heap := h', toks := tk' }) :
    wpAny (model PySem.Challenge.rw_pe0193_01.row.prog w) (lA L a cd) (exec lS0 (lEnv L a cd)) Q E s := by
  have e : ∃ p1 p2 p3 q1 q2 r1 r2 r3 r4 r5 r6 r7 r8 u1 u2 u3 u4 u5 u6 u7 u8 u9 v1 v2 v3 v4 v5 v6 v7 v8 v9 z1 z2 z3, lS0 = .Assign [.Name (Str.ofString "own") p1] (.List [.BinOp (.Constant (.int 306) u1 q1) .Add (.BinOp (.Constant (.int 960) u2 q2) .Mult (.BinOp (.Constant (.int 3134984190) u3 r1) .Add (.BinOp (.BinOp (.Constant (.int 16) u4 r2) .Pow (.Constant (.int 8) u5 r3) r4) .Mult (.Constant (.int 123456789) u6 r5) r6) r7) r8) z1, .BinOp (.Constant (.int 13) u7 v1) .Add (.BinOp (.Constant (.int 960) u8 v2) .Mult (.BinOp (.Constant (.int 64206) u9 v3) .Add (.BinOp (.BinOp (.Constant (.int 16) 0 v4) .Pow (.Constant (.int 8) 0 v5) v6) .Mult (.Constant (.int 40) 0 v7) v8) v9) z2) z3] p2) p3 := by
    rw [lS0_eq]
    exact ⟨_, _, _, _, _, _, _, _, _, _, _, _, _, _, _, _, _, _, _, _, _, _, _, _, _, _, _, _, _, _, _, _, _, _, rfl⟩
  obtain ⟨p1, p2, p3, q1, q2, r1, r2, r3, r4, r5, r6, r7, r8, u1, u2, u3, u4, u5, u6, u7, u8, u9, v1, v2, v3, v4, v5, v6, v7, v8, v9, z1, z2, z3, e⟩ := e
  rw [e]
  with_reducible refine own_list B F X N T ?_ ?_ h
  · intro Q s hq
    with_reducible refine arith5 (v := 509033159384790464946) ?_ ?_ ?_ ?_ ?_ hq
    · decide
    · decide
    · decide
    · decide
    · decide +kernel
  · intro Q s hq
    with_reducible refine arith5 (v := 164926805804173) ?_ ?_ ?_ ?_ ?_ hq
    · decide
    · decide
    · decide
    · decide
    · decide +kernel
end
end Mine
end
section
set_option linter.unusedVariables false
set_option maxRecDepth 100000
open PySem PySem.W PyProof.Rows PyProof.V
set_option Elab.async false
namespace Mine
theorem filt_true {α : Type} (l : List α) : l.filter (fun _ => true) = l := List.filter_eq_self.mpr (fun _ _ => rfl)
theorem own_range (ns : List Int) (x : Int) (h : x ∈ ((ns.take 3).map fun a => a.fmod (10 ^ Int.toNat 25)) ++ [509033159384790464946, 164926805804173]) : 0 ≤ x ∧ x < 10000000000000000000000000 := by
  rcases List.mem_append.mp h with h | h
  · obtain ⟨y, _, rfl⟩ := List.mem_map.mp h
    rw [show (10 : Int) ^ Int.toNat 25 = 10000000000000000000000000 from by decide +kernel]
    exact ⟨Int.fmod_nonneg_of_pos _ (by decide), Int.fmod_lt_of_pos _ (by decide)⟩
  · simp only [List.mem_cons, List.not_mem_nil, or_false] at h
    omega
section
variable {w : World} {mean : ExcName → Option Value} {mg mb : Str → Option Value} {base h₀ : Heap} {L a : Addr} {cd : Value} {s : Shared} {ex : List (Addr × Obj)} {E : Value → Shared → Prop}
set_option maxHeartbeats 1000000 in
theorem m_iter {Q : Value → Shared → Prop} {Z D : Addr} {vs : List Value} {ns : List Int} {c : Nat} {t1 t2 : Tok} (B : Below callerA base [] h₀) (F : Fr h₀ L s.heap (mL [(Str.ofString "own", .ref D), (Str.ofString "script", .ref Z)])) (X : (K w.params).In h₀) (N : News h₀ L s.heap ((D, PySem.W.listOf #[.int 509033159384790464946 t1, .int 164926805804173 t2] c) :: ex)) (T : Top qv looseF mean mg mb h₀)
    (hl : h₀.IsList Z vs.toArray) (hI : IntsAre vs ns) (h63 : ns.length ≤ 63)
    (h : ∀ U us ks h' tk', IntsAre us ks → (∀ x ∈ ks, 0 ≤ x ∧ x < 10000000000000000000000000) → ks.length ≤ 5 → Fr h₀ L h' (mL [(Str.ofString "own", .ref D), (Str.ofString "script", .ref Z)]) → News h₀ L h' [(U, PySem.W.listOf (List.toArray us) 0)] → Q (.ref U) { s with heap := h', toks := tk' }) :
    wpAny (model PySem.Challenge.rw_pe0193_01.row.prog w) (lA L a cd) (eval (forIt (lSt 1)) (lEnv L a cd)) Q E s := by
  revert X
  k_fill
  intro X
  w_on
  k_with_none
  show wpAny _ _ (eval (PySem.Expr.BinOp _ _ _ _) _) _ _ _
  k_steps
  (rename CarriedAll _ _ => hC)
  (rename NewPlain _ _ _ _ => hP)
  (rename Fr _ _ _ _ => F9)
  (rename News _ _ _ _ => N9)
  rw [filt_true] at hC
  have hI9 := CarriedAll.intsOf hC
  have hl9 := News.isList N9 (.tail _ (.head _))
  refine kmk_add_ints (ms := [509033159384790464946, 164926805804173]) F9 N9 (by assumption) hl9 hI9 (.cons _ _ (.cons _ _ .nil)) ?_ ?_
  · intro U us h9 F10 N10 _ hI10
    exact h _ _ _ _ _ hI10 (own_range ns) (by simp; omega) F10 (cb_drop N10 (by kcj_all))
  · simp [sizeLine_eq]
    omega
end
end Mine
end
section
set_option linter.unusedVariables false
set_option maxRecDepth 100000
open PySem PySem.W PyProof.Rows PyProof.V
set_option Elab.async false
namespace Mine
def mN (D Z : Addr) (v : Option Value) : Str → Option Value := fun y => if y = Str.ofString "n" then v else mL [(Str.ofString "own", .ref D), (Str.ofString "script", .ref Z)] y
theorem mN_none (D Z : Addr) : mL [(Str.ofString "own", .ref D), (Str.ofString "script", .ref Z)] = mN D Z none := by
  funext y
  unfold mN
  by_cases h : y = Str.ofString "n"
  · subst h; kernel_rfl
  · rw [if_neg h]
theorem mN_store (D Z : Addr) (v : Option Value) (x : Value) : (fun y => if y = Str.ofString "n" then some x else mN D Z v y) = mN D Z (some x) := by
  funext y
  unfold mN
  by_cases h : y = Str.ofString "n"
  · rw [if_pos h, if_pos h]
  · rw [if_neg h, if_neg h, if_neg h]
section
variable {w : World} {mean : ExcName → Option Value} {mg mb : Str → Option Value} {base h₀ : Heap} {L a : Addr} {cd : Value} {s : Shared} {ex : List (Addr × Obj)} {E : Value → Shared → Prop}
set_option maxHeartbeats 1000000 in
theorem m_store {Q : Unit → Shared → Prop} {D Z : Addr} {v : Option Value} {n : Int} {t : Tok} (F : Fr h₀ L s.heap (mN D Z v)) (X : (K w.params).In h₀) (N : News h₀ L s.heap ex) (T : Top qv looseF mean mg mb h₀)
    (h : ∀ h' tk', Fr h₀ L h' (mN D Z (some (.int n t))) → News h₀ L h' ex → Q () { s with heap := h', toks := tk' }) :
    wpAny (model PySem.Challenge.rw_pe0193_01.row.prog w) (lA L a cd) (storeName (lEnv L a cd) (Str.ofString "n") (.int n t)) Q E s := by
  k_fill
  w_on
  k_with_none
  k_steps
  exact h _ _ (fr_m (by assumption) (mN_store ..)) (by assumption)
local macro_rules | `(tactic| walk_at "call ref") => `(tactic| (k_here; (with_reducible show wpAny _ _ (call (Value.ref 125) _) _ _ _); (k_dflt (refine right_spec (by k_asm) (by k_asm) (by k_asm) (by k_asm) (by k_asm) (by exact rfl) (by assumption) (by assumption) (by ktr_room) (by ktr_units) ?_)); intro h9 tk9 gens9 F9 N9 B9; (try dsimp only); (try k_fold)))
set_option maxHeartbeats 1000000 in
theorem m_turn {Q : Flow → Shared → Prop} {D Z : Addr} {n : Int} {t : Tok} (B : Below callerA base [] h₀) (F : Fr h₀ L s.heap (mN D Z (some (.int n t)))) (X : (K w.params).In h₀) (N : News h₀ L s.heap ex) (T : Top qv looseF mean mg mb h₀)
    (hn : 0 ≤ n ∧ n < 10000000000000000000000000) (hb : AllBare s.gens)
    (h : ∀ h' tk' gens', Fr h₀ L h' (mN D Z (some (.int n t))) → News h₀ L h' ex → AllBare gens' → Q .next { heap := h', gens := gens', drawn := s.drawn, toks := tk', os := s.os }) :
    wpAny (model PySem.Challenge.rw_pe0193_01.row.prog w) (lA L a cd) (execs (forBody (lSt 1)) (lEnv L a cd)) Q E s := by
  revert X
  k_fill
  intro X
  w_on
  k_with_none
  show wpAny _ _ (execs [Stmt.If _ _ _ _] _) _ _ _
  k_steps
  exact h _ _ _ (by assumption) (by assumption) (by assumption)
end
end Mine
end
section
set_option linter.unusedVariables false
set_option maxRecDepth 100000
open PySem PySem.W PyProof.Rows PyProof.V
set_option Elab.async false
namespace Mine
theorem fr_ext {h₀ h h' : Heap} {L I : Addr} {m : Str → Option Value} (F : Fr h₀ L h m) (hs : Heap.ExtBut I h h') (hL : I ≠ L) (hn : h₀.get? I = none) : Fr h₀ L h' m := by
  obtain ⟨o, es, ep, eL, r⟩ := id F.ns
  exact ⟨ns_same F.ns eL (hs L o hL.symm eL), fun b o e => hs b o (by rintro rfl; rw [hn] at e; cases e) (F.keep b o e), F.above⟩
theorem lfor : lSt 1 = .For (.Name (Str.ofString "n") (forTgt (lSt 1))) (forIt (lSt 1)) (forBody (lSt 1)) [] (lSt 1).pos := by kernel_rfl
section
variable {w : World} {mean : ExcName → Option Value} {mg mb : Str → Option Value} {base h₀ : Heap} {L a I U D Z : Addr} {cd : Value} {s : Shared} {ex : List (Addr × Obj)} {E : Value → Shared → Prop}
theorem m_loop {Q : Flow → Shared → Prop} {us : List Value} {ks : List Int} {c : Nat} {os : OsState} (B : Below callerA base [] h₀) (X : (K w.params).In h₀) (T : Top qv looseF mean mg mb h₀)
    (hI : IntsAre us ks) (hr : ∀ x ∈ ks, 0 ≤ x ∧ x < 10000000000000000000000000) (k : Nat) (hq : ∀ s' v, Fr h₀ L s'.heap (mN D Z v) → AllBare s'.gens → s'.os = os → Q .next s') :
    ∀ (n i : Nat) (s : Shared) (v : Option Value) (oI : Obj), ks.length = i + n → Fr h₀ L s.heap (mN D Z v) → News h₀ L s.heap [(I, oI), (U, PySem.W.listOf us.toArray c)] → oI.cls = .type "list_iterator" → oI.data = .fields #[.ref U, .int i 0] → AllBare s.gens → s.os = os →
      OwitRest PySem.Challenge.rw_pe0193_01.row.prog w (lA L a cd) E (lEnv L a cd) (Str.ofString "n") (forBody (lSt 1)) Q I (n + 1 + k) s
  | n, i, s, v, oI, hn, F, N, hc, hd, hb, ho => by
    rw [show n + 1 + k = (n + k) + 1 by omega]
    refine OwitRest.succ ?_
    have eI := N _ (List.mem_cons_self ..)
    have eU := N _ (List.mem_cons_of_mem _ (List.mem_cons_self ..))
    have hit : s.heap.IsListIter I U i := ⟨oI, eI.1, hc, hd⟩
    have hl : s.heap.IsList U us.toArray := ⟨_, eU.1, rfl, _, rfl⟩
    have hUI : U ≠ I := by
      rintro rfl
      have e1 := eI.1
      have e2 := eU.1
      dsimp only at e1 e2
      rw [e1] at e2
      cases e2
      cases hd
    cases n with
    | zero =>
      refine wpAny_pyNext_list_end rfl hit hl (by have := hI.length; simp; omega) fun h' hs => ?_
      exact hq _ v (fr_ext F hs eI.2.1 eI.2.2) hb ho
    | succ n =>
      have hlt : i < ks.length := by omega
      obtain ⟨t, ht⟩ := hI.get i ks[i] (List.getElem?_eq_getElem hlt)
      refine wpAny_pyNext_list_item hit hl (by simpa using ht) fun h' hit' hs => ?_
      obtain ⟨oJ, eJ, cJ, dJ⟩ := hit'
      show wpAny _ _ (storeName _ _ _) _ _ _
      have F1 : Fr h₀ L h' (mN D Z v) := fr_ext F hs.extBut eI.2.1 eI.2.2
      have N1 : News h₀ L h' [(I, oJ), (U, PySem.W.listOf us.toArray c)] := by
        intro p hp
        simp only [List.mem_cons, List.not_mem_nil, or_false] at hp
        rcases hp with rfl | rfl
        · exact ⟨eJ, eI.2⟩
        · exact ⟨hs.extBut _ _ hUI eU.1, eU.2⟩
      refine m_store (s := { s with heap := h' }) F1 X N1 T fun h2 tk2 F2 N2 => ?_
      refine m_turn (s := { s with heap := h2, toks := tk2 }) B F2 X N2 T (hr _ (List.getElem_mem hlt)) hb fun h3 tk3 gens3 F3 N3 B3 => ?_
      show OwitRest _ _ _ _ _ _ _ _ _ _ _
      rw [show n + 1 + k = n + 1 + k from rfl]
      exact m_loop B X T hI hr k hq n (i + 1) ⟨h3, gens3, s.drawn, tk3, s.os⟩ _ oJ (by omega) F3 N3 cJ dJ B3 ho
set_option maxHeartbeats 1000000 in
theorem m_for {Q : Flow → Shared → Prop} {vs : List Value} {ns : List Int} {t1 t2 : Tok} {c : Nat} (B : Below callerA base [] h₀) (F : Fr h₀ L s.heap (mL [(Str.ofString "own", .ref D), (Str.ofString "script", .ref Z)])) (X : (K w.params).In h₀) (N : News h₀ L s.heap ((D, PySem.W.listOf #[.int 509033159384790464946 t1, .int 164926805804173 t2] c) :: ex)) (T : Top qv looseF mean mg mb h₀)
    (hl : h₀.IsList Z vs.toArray) (hI : IntsAre vs ns) (h63 : ns.length ≤ 63) (hb : AllBare s.gens) (hE : PassesOwn (model PySem.Challenge.rw_pe0193_01.row.prog w) (lA L a cd) (lEnv L a cd) E)
    (hq : ∀ s' v, Fr h₀ L s'.heap (mN D Z v) → AllBare s'.gens → s'.os = s.os → Q .next s') :
    wpAny (model PySem.Challenge.rw_pe0193_01.row.prog w) (lA L a cd) (exec (lSt 1) (lEnv L a cd)) Q E s := by
  rw [lfor]
  refine owit_for ?_ (by intro _; rfl) hE
  refine m_iter B F X N T hl hI h63 ?_
  intro U us ks h1 tk1 hI1 hr hk F1 N1
  refine wpAny_pyIter_list (News.isList N1 (.head _)) ?_
  refine OwitAt.intro ?_
  rw [show (64 : Nat) = ks.length + 1 + (63 - ks.length) by omega]
  have n0 : h₀.get? h1.objs.size = none := by
    cases q : h₀.get? h1.objs.size with
    | none => rfl
    | some o => exact absurd (Heap.lt_size (F1.keep _ _ q)) (Nat.lt_irrefl _)
  refine m_loop (c := 0) (us := us) (U := U) B X T hI1 hr _ hq ks.length 0 _ none { cls := .type "list_iterator", data := .fields #[.ref U, .int 0 0] } (by omega) ?_ ?_ rfl rfl hb rfl
  · rw [← mN_none]
    exact F1.push _
  · intro p hp
    rcases List.mem_cons.mp hp with rfl | hp
    · exact ⟨Heap.get?_push_size _ rfl, fun q => Nat.lt_irrefl _ (q ▸ F1.ns.lt), n0⟩
    · exact ⟨Heap.get?_push_of_some _ (N1 p hp).1, (N1 p hp).2⟩
set_option maxHeartbeats 1000000 in
theorem m_ret {Q : Flow → Shared → Prop} {m : Str → Option Value} (h : Q (.ret (.bool true)) s) : wpAny (model PySem.Challenge.rw_pe0193_01.row.prog w) (lA L a cd) (execs [lSt 2] (lEnv L a cd)) Q E s := by
  show wpAny _ _ (execs [Stmt.Return (some (PySem.Expr.Constant (Const.bool true) _ _)) _] _) _ _ _
  w_on
  k_with_none
  k_steps
  exact h
set_option maxHeartbeats 1000000 in
theorem m_law {Q : Flow → Shared → Prop} {vs : List Value} {ns : List Int} (B : Below callerA base [] h₀) (F : Fr h₀ L s.heap (mL [(Str.ofString "script", .ref Z)])) (X : (K w.params).In h₀) (N : News h₀ L s.heap []) (T : Top qv looseF mean mg mb h₀)
    (hl : h₀.IsList Z vs.toArray) (hI : IntsAre vs ns) (h63 : ns.length ≤ 63) (hb : AllBare s.gens) (hE : PassesOwn (model PySem.Challenge.rw_pe0193_01.row.prog w) (lA L a cd) (lEnv L a cd) E)
    (hq : ∀ s' m', Fr h₀ L s'.heap m' → AllBare s'.gens → s'.os = s.os → Q (.ret (.bool true)) s') :
    wpAny (model PySem.Challenge.rw_pe0193_01.row.prog w) (lA L a cd) (execs (fnBody (stmt 15)) (lEnv L a cd)) Q E s := by
  rw [lawfun]
  with_reducible refine wpAny_execs_cons ?_
  with_reducible refine m_own B F X N T ?_
  intro D t1 t2 h1 tk1 F1 N1
  with_reducible refine wpAny_execs_cons ?_
  with_reducible refine m_for (s := { s with heap := h1, toks := tk1 }) B F1 X N1 T hl hI h63 hb hE ?_
  intro s' v F2 B2 o2
  with_reducible exact m_ret (m := fun _ => none) (hq s' _ F2 B2 o2)
end
end Mine
end
set_option linter.unusedVariables false
set_option maxRecDepth 100000
open PySem PySem.W PyProof.Rows
set_option Elab.async false
set_option maxHeartbeats 8000000 in
theorem PySem.Challenge.cw_pe0193_01_holds : PySem.Challenge.rw_pe0193_01.Holds := by
  w_on
  o_law
  refine holds_open (q := Mine.qv) (loose := Mine.looseN) (Xt := Mine.xt) (XP := XL Mine.qv []) (Yf := Hook.obs Mine.kH) (Ya := Hook.val Mine.kH) (YP := Hook.says Mine.kH) (N := 16000) Mine.left (Hook.of Mine.kH) (Hook.keeps Mine.kH) (fun s e => xl_of s (Bool.and_eq_true_iff.mp e).1) XL.keeps (by rfl) (by rfl) (by rfl) (fun s e => recFacts_of (Bool.and_eq_true_iff.mp e).2) (by rfl) (by first | assumption | decide +kernel) (by decide +kernel) ⟨rfl, rfl, rfl, rfl, rfl, by decide +kernel⟩ ?hw ?hc
  case hw => w_witness2
  k_fill
  intro w s₀ s₁ mg mb G Y fa o pm cd doc dV kV ho hd hcd hD hmg hg args vals as hpre hlay hrd hwl hlo
  have KX := kIn_of Y
  refine Ground.open G ?_
  intro T B D TE TW
  wrow_args hpre hlay hrd hwl hlo
  refine enter_call ?_
  have K0 := below_caller (Top.heap T)
  w_call any ho hd hcd hD T F
  clear hd hD hcd
  (rename IntsAre _ _ => hI)
  (rename Heap.IsList _ _ _ => hl)
  (rename News _ _ _ _ => N)
  rename (¬ _ < _) => h63
  have F9 : Fr s₁.heap s₁.heap.objs.size _ (Mine.mL [(Str.ofString "script", _)]) := F
  show wpAny _ (Mine.lA s₁.heap.objs.size fa cd) (execs (Mine.fnBody (Mine.stmt 15)) (Mine.lEnv s₁.heap.objs.size fa cd)) _ _ _
  with_reducible refine Mine.m_law K0 F9 KX N T hl hI (by omega) (.of_eq hg) ?_ ?_
  · passes_own
  · intro s' m' F' B' o'
    exact ⟨.inl ⟨_, _, [], rfl, fun _ => rfl, ReadsW.bool true, by wrow_post, fun _ => ⟨List.nodup_nil, fun _ hm => nomatch hm⟩⟩, .of_keep F'.keep, o', B'⟩
