import PyProof.Rows.All
import Wide.All
import OpenK.AllK
import Wide.FinOn
import PySem.Challenge.RW_mq0480_01
set_option Elab.async false
set_option maxRecDepth 100000
section
open PySem PySem.W PySem.Calls PyProof.Rows
namespace Mine

theorem wrap_id {α : Type} (x : Sem α) : x.wrap .pure .raise id id = x := by
  induction x <;> simp only [Sem.wrap, id, *]

section
variable {p : Program} {w : World} {n₀ : Nat} {ann : Option Value}

/-- from s at q the tree x goes on to a, at s', q', in n steps, whatever stands behind it -/
def Go (p : Program) (w : World) (n₀ : Nat) (ann : Option Value) {α : Type} (c : Code) (x : Sem α) (s : Shared) (q : Pos) (n : Nat) (a : α) (s' : Shared) (q' : Pos) : Prop :=
  ∀ (K : α → Sem Fin) (H : Value → Sem Fin) (gd : Bool → Bool) (lv : List Value → List Value) (B : List Frame) (N : Nat) (r : Shared),
    topRun treeTable p w n₀ ann N s' ⟨K a, c, q', B⟩ = some r → topRun treeTable p w n₀ ann (n + N) s ⟨x.wrap K H gd lv, c, q, B⟩ = some r

variable {α β : Type} {c : Code} {s s₁ s₂ : Shared} {q q₁ q₂ : Pos} {n m : Nat} {a : α} {b : β}

theorem Go.pure (a : α) : Go p w n₀ ann c (.pure a) s q 0 a s q := by
  intro K H gd lv B N r h
  rw [Nat.zero_add]; exact h
theorem Go.bind {x : Sem α} {f : α → Sem β} (h1 : Go p w n₀ ann c x s q n a s₁ q₁) (h2 : Go p w n₀ ann c (f a) s₁ q₁ m b s₂ q₂) : Go p w n₀ ann c (x >>= f) s q (n + m) b s₂ q₂ := by
  intro K H gd lv B N r h
  rw [Sem.bind_eq_wrap', Sem.wrap_wrap, Nat.add_assoc]
  exact h1 _ _ _ _ _ _ _ (h2 _ _ _ _ _ _ _ h)
theorem Go.keep {x : Sem α} {vs : List Value} (h1 : Go p w n₀ ann c x s q n a s₁ q₁) : Go p w n₀ ann c (x.keep vs) s q n a s₁ q₁ := by
  intro K H gd lv B N r h
  rw [Sem.keep_eq_wrap, Sem.wrap_wrap]
  exact h1 _ _ _ _ _ _ _ h
theorem Go.holding {x : Sem α} {vs : List Value} (h1 : Go p w n₀ ann c x s q n a s₁ q₁) : Go p w n₀ ann c (PySem.holding vs x) s q n a s₁ q₁ := by
  unfold PySem.holding
  split
  · exact h1
  · exact h1.keep
theorem Go.onRaise {x : Sem α} {k : Value → Sem Unit} (h1 : Go p w n₀ ann c x s q n a s₁ q₁) : Go p w n₀ ann c (x.onRaise k) s q n a s₁ q₁ := by
  intro K H gd lv B N r h
  rw [Sem.onRaise_eq_wrap, Sem.wrap_wrap]
  exact h1 _ _ _ _ _ _ _ h
theorem Go.tryCatch {x : Sem α} {k : Value → Sem α} (h1 : Go p w n₀ ann c x s q n a s₁ q₁) : Go p w n₀ ann c (x.tryCatch k) s q n a s₁ q₁ := by
  intro K H gd lv B N r h
  rw [Sem.tryCatch_eq_wrap, Sem.wrap_wrap]
  exact h1 _ _ _ _ _ _ _ h
theorem Go.load {ad : Addr} {part : Option Value} {k : Obj → Sem α} {o : Obj} (ho : s.heap.get? ad = some o) (h1 : Go p w n₀ ann c (k o) s q n a s₁ q₁) : Go p w n₀ ann c (.load ad part k) s q (n + 1) a s₁ q₁ := by
  intro K H gd lv B N r h
  have := h1 K H gd lv B N r h
  rw [show n + 1 + N = (n + N) + 1 by omega]
  unfold topRun
  obtain ⟨heap, gens, drawn, toks, os⟩ := s
  have ho' : heap.get? ad = some o := ho
  simp only [Sem.wrap, through, Bool.and_false, stepOk, Thread.calm, Thread.atCollectorCode, Thread.atExit, Thread.yieldsInsideHandler, Bool.not_false, Bool.true_or, Bool.and_true, step, ho']
  exact this
theorem Go.update {ad : Addr} {part : Option Value} {f : Obj → Obj} {k : Unit → Sem α} {o : Obj} (ho : s.heap.get? ad = some o) (hn : Nat.ble n₀ ad = true) (h1 : Go p w n₀ ann c (k ()) { s with heap := s.heap.update ad f } q n a s₁ q₁) :
    Go p w n₀ ann c (.update ad part f k) s q (n + 1) a s₁ q₁ := by
  intro K H gd lv B N r h
  have := h1 K H gd lv B N r h
  rw [show n + 1 + N = (n + N) + 1 by omega]
  unfold topRun
  obtain ⟨heap, gens, drawn, toks, os⟩ := s
  have ho' : heap.get? ad = some o := ho
  simp only [Sem.wrap, through, Bool.and_false, stepOk, Thread.calm, Thread.atCollectorCode, Thread.atExit, Thread.yieldsInsideHandler, Bool.not_false, Bool.true_or, Bool.and_true, Bool.true_and, hn, step, ho', Option.isSome_some, if_true]
  exact this
theorem Go.alloc {o : Obj} {k : Addr → Sem α} (h1 : Go p w n₀ ann c (k s.heap.objs.size) { s with heap := s.heap.push o } q n a s₁ q₁) : Go p w n₀ ann c (.alloc o k) s q (n + 1) a s₁ q₁ := by
  intro K H gd lv B N r h
  have := h1 K H gd lv B N r h
  rw [show n + 1 + N = (n + N) + 1 by omega]
  unfold topRun
  obtain ⟨heap, gens, drawn, toks, os⟩ := s
  simp only [Sem.wrap, through, Bool.and_false, stepOk, Thread.calm, Thread.atCollectorCode, Thread.atExit, Thread.yieldsInsideHandler, Bool.not_false, Bool.true_or, Bool.and_true, step]
  exact this
theorem Go.fresh {k : Tok → Sem α} (h1 : Go p w n₀ ann c (k s.toks) { s with toks := s.toks + 1 } q n a s₁ q₁) : Go p w n₀ ann c (.fresh k) s q (n + 1) a s₁ q₁ := by
  intro K H gd lv B N r h
  have := h1 K H gd lv B N r h
  rw [show n + 1 + N = (n + N) + 1 by omega]
  unfold topRun
  obtain ⟨heap, gens, drawn, toks, os⟩ := s
  simp only [Sem.wrap, through, Bool.and_false, stepOk, Thread.calm, Thread.atCollectorCode, Thread.atExit, Thread.yieldsInsideHandler, Bool.not_false, Bool.true_or, Bool.and_true, step]
  exact this
theorem Go.rule {t : String} {k : Unit → Sem α} (h1 : Go p w n₀ ann c (k ()) s q n a s₁ q₁) : Go p w n₀ ann c (.rule t k) s q (n + 1) a s₁ q₁ := by
  intro K H gd lv B N r h
  have := h1 K H gd lv B N r h
  rw [show n + 1 + N = (n + N) + 1 by omega]
  unfold topRun
  obtain ⟨heap, gens, drawn, toks, os⟩ := s
  simp only [Sem.wrap, through, Bool.and_false, stepOk, Thread.calm, Thread.atCollectorCode, Thread.atExit, Thread.yieldsInsideHandler, Bool.not_false, Bool.true_or, Bool.and_true, step]
  exact this
theorem Go.stand {q' : Pos} {k : Unit → Sem α} (h1 : Go p w n₀ ann c (k ()) s q' n a s₁ q₁) : Go p w n₀ ann c (.at q' k) s q (n + 1) a s₁ q₁ := by
  intro K H gd lv B N r h
  have := h1 K H gd lv B N r h
  rw [show n + 1 + N = (n + N) + 1 by omega]
  unfold topRun
  obtain ⟨heap, gens, drawn, toks, os⟩ := s
  simp only [Sem.wrap, through, Bool.and_false, stepOk, Thread.calm, Thread.atCollectorCode, Thread.atExit, Thread.yieldsInsideHandler, Bool.not_false, Bool.true_or, Bool.and_true, step]
  exact this
theorem Go.ask {k : Setting → Sem α} (h1 : Go p w n₀ ann c (k ⟨p, w.params⟩) s q n a s₁ q₁) : Go p w n₀ ann c (.ask k) s q (n + 1) a s₁ q₁ := by
  intro K H gd lv B N r h
  have := h1 K H gd lv B N r h
  rw [show n + 1 + N = (n + N) + 1 by omega]
  unfold topRun
  obtain ⟨heap, gens, drawn, toks, os⟩ := s
  simp only [Sem.wrap, through, Bool.and_false, stepOk, Thread.calm, Thread.atCollectorCode, Thread.atExit, Thread.yieldsInsideHandler, Bool.not_false, Bool.true_or, Bool.and_true, step]
  exact this

/-- a call of a built-in: its check, the built-in itself, and back -/
theorem Go.callB {id : String} {args : Args} {h₁ : Option Value} {g : Bool} {l : List Value} {k : PySem.Result → Sem α} {f : Flow} {bi : Builtin} {q' : Pos}
    (hc : checkBuiltinCall id args = Pure.pure ()) (hb : entryFor table id = some bi) (hq : id.startsWith "lifetime." = false)
    (hin : Go p w n₀ ann (.builtin id args) (bi args) s q n (.done f) s₁ q')
    (hk : Go p w n₀ ann c (k (.ok f)) s₁ q m a s₂ q₂) : Go p w n₀ ann c (.call (.call (.builtin id) args) h₁ g l k) s q (n + m + 3) a s₂ q₂ := by
  intro K H gd lv B N r h
  have h2 := hk K H gd lv B N r h
  rw [show n + m + 3 + N = (n + ((m + N) + 1) + 1) + 1 by omega]
  unfold topRun
  obtain ⟨heap, gens, drawn, toks, os⟩ := s
  simp only [Sem.wrap, through, Bool.and_false, stepOk, Thread.calm, Thread.atCollectorCode, Thread.atExit, Thread.yieldsInsideHandler, Bool.not_false, Bool.true_or, Bool.and_true, step]
  have e1 : denote treeTable (.call (.builtin id) args) = .pure (.again (.builtin id args)) := by
    show (do checkBuiltinCall id args; again (.builtin id args) : Sem Fin) = _
    rw [hc]; rfl
  rw [e1]
  unfold topRun
  have e2 : denote treeTable (.builtin id args) = bi args := by
    show (match entryFor treeTable id with | some b => b args | none => unsupported ((withoutEnding? id "#data").getD id)) = _
    rw [← table_eq_tree, hb]
  have hst : ∀ fr : Frame, through ⟨.pure (.again (.builtin id args)), .call (.builtin id) args, q, fr :: B⟩ = false := fun fr => rfl
  rw [hst]
  have hok : ∀ fr : Frame, stepOk n₀ ann ⟨.pure (.again (.builtin id args)), .call (.builtin id) args, q, fr :: B⟩ = true := fun fr => by
    simp only [stepOk, Thread.calm, Thread.atCollectorCode, hq, Bool.not_false, Bool.true_or, Thread.yieldsInsideHandler, Bool.and_true]
  rw [hok]
  simp only [step, e2]
  have h3 := hin .pure .raise _root_.id _root_.id
  rw [wrap_id] at h3
  refine h3 _ _ _ ?_
  unfold topRun
  simp only [through, List.isEmpty_cons, Bool.false_and, stepOk, Thread.calm, Thread.atCollectorCode, Thread.yieldsInsideHandler, Bool.not_false, Bool.true_or, Bool.and_true, step]
  obtain ⟨heap', gens', drawn', toks', os'⟩ := s₁
  simp only [step]
  exact h2
end
end Mine
end
section
open PySem PySem.W PySem.Calls PyProof.Rows
namespace Mine
section
variable {p : Program} {w : World} {n₀ : Nat} {ann : Option Value}
variable {α β : Type} {c : Code} {s s₁ s₂ : Shared} {q q₁ q₂ : Pos} {n m : Nat} {a : α} {b : β}

theorem Go.cast {x : Sem α} (h : Go p w n₀ ann c x s q n a s₁ q₁) (e : n = m) : Go p w n₀ ann c x s q m a s₁ q₁ := e ▸ h
theorem Go.of_eq {x y : Sem α} (e : y = x) (h : Go p w n₀ ann c x s q n a s₁ q₁) : Go p w n₀ ann c y s q n a s₁ q₁ := e ▸ h

theorem check_hash (k : Int) (t : Tok) : checkBuiltinCall "int.__hash__" ⟨[.int k t], []⟩ = Pure.pure () := by kernel_rfl

theorem special_hash (k : Int) (t : Tok) : specialOf (.int k t) "__hash__" = Pure.pure (some (.builtin "int.__hash__")) := by
  unfold specialOf
  show (Pure.pure (Value.type "int") >>= fun x => typeLookup x "__hash__") = _
  show typeLookup (Value.type "int") "__hash__" = _
  exact slot_int_hash.lookup

theorem Go.bp {x : Sem α} {f : α → Sem β} {v : α} (e : x = Pure.pure v) (h : Go p w n₀ ann c (f v) s q n b s₁ q₁) : Go p w n₀ ann c (x >>= f) s q n b s₁ q₁ := by
  subst e; exact h

theorem go_hash (k : Int) (t : Tok) : Go p w n₀ ann c (pyHash (.int k t)) s q 5 (hashInt k) { s with toks := s.toks + 1 } q := by
  have hr := rawHash_range k
  show Go p w n₀ ann c (pyHashByItsType (.int k t)) s q 5 (hashInt k) { s with toks := s.toks + 1 } q
  unfold pyHashByItsType
  have e1 : cRoomFor "hash" [Value.int k t] = Pure.pure () := rfl
  refine Go.bp e1 (Go.bp (special_hash k t) ?_)
  dsimp only
  rw [if_neg (by rw [beq_builtin_none]; exact Bool.false_ne_true)]
  refine Go.bp (special_hash k t) ?_
  rw [if_neg (by simp)]
  refine Go.cast (Go.bind (n := 5) (m := 0) (a := some (.int (rawHash k) s.toks)) (s₁ := { s with toks := s.toks + 1 }) (q₁ := q) ?_ ?_) rfl
  · unfold callSpecialIfBoundUnlessNone?
    refine Go.holding ?_
    refine Go.cast (Go.bind (n := 1) (m := 4) (a := some (.builtin "int.__hash__", [.int k t])) (s₁ := s) (q₁ := q) ?_ ?_) rfl
    · unfold bindSpecialIfBound?
      refine Go.bp (special_hash k t) ?_
      refine Go.ask ?_
      rw [slot_int_hash.bind]
      show Go p w n₀ ann c (if _ then _ else _) s q 0 _ s q
      split
      · exact Go.pure _
      · exact Go.tryCatch (Go.pure _)
    · dsimp only
      rw [if_neg (by rw [builtin_beq_none]; exact Bool.false_ne_true)]
      refine Go.cast (Go.bind (n := 4) (m := 0) (a := .int (rawHash k) s.toks) (s₁ := { s with toks := s.toks + 1 }) (q₁ := q) ?_ (Go.pure _)) rfl
      unfold PySem.call PySem.runValue
      refine Go.cast (Go.callB (n := 1) (m := 0) (f := .ret (.int (rawHash k) s.toks)) (s₁ := { s with toks := s.toks + 1 }) (q' := q) (check_hash k t) entry_int_hash (by decide +kernel) ?_ ?_) rfl
      · show Go p w n₀ ann _ (do ret (← mkInt (rawHash k)) : Sem Fin) s q 1 _ _ q
        exact Go.fresh (Go.pure _)
      · exact Go.pure _
  · show Go p w n₀ ann c (pyHashByItsType.reduced (rawHash k)) _ q 0 (hashInt k) _ q
    unfold pyHashByItsType.reduced
    rw [if_pos (by rw [decide_eq_true hr.1, decide_eq_true hr.2]; rfl)]
    exact Go.pure _

/-- the plain dict that a display makes -/
abbrev dO (es : List DictEntry) (ep : Nat) : Obj := { cls := .type "dict", data := .dict ⟨es⟩ ep }
/-- s with these objects and so many tokens drawn -/
abbrev stL (s : Shared) (L : List Obj) (tk : Nat) : Shared := { s with heap := ⟨⟨L⟩, s.heap.life⟩, toks := tk }

theorem get_mid (A R : List Obj) (es : List DictEntry) (ep : Nat) (l : Life) : (⟨⟨A ++ dO es ep :: R⟩, l⟩ : Heap).get? A.length = some (dO es ep) := by
  unfold Heap.get?
  have : (⟨A ++ dO es ep :: R⟩ : Array Obj)[A.length]? = some (dO es ep) := by simp
  simp only [this]
theorem mod_mid (R : List Obj) (o : Obj) (f : Obj → Obj) : ∀ A : List Obj, (A ++ o :: R).modify A.length f = A ++ f o :: R
  | [] => rfl
  | a :: A => by
    have := mod_mid R o f A
    simp [this]
theorem upd_mid (A R : List Obj) (o : Obj) (f : Obj → Obj) (l : Life) : (⟨⟨A ++ o :: R⟩, l⟩ : Heap).update A.length f = ⟨⟨A ++ f o :: R⟩, l⟩ := by
  have : (⟨A ++ o :: R⟩ : Array Obj).modify A.length f = ⟨A ++ f o :: R⟩ := by
    apply Array.ext'
    simp [mod_mid]
  show (⟨(⟨A ++ o :: R⟩ : Array Obj).modify A.length f, l⟩ : Heap) = _
  rw [this]

theorem places_none (es : List DictEntry) (h : Int) (hne : ∀ e ∈ es, e.hash ≠ h) : placesWithHash (Array.size ⟨es⟩) (fun i => (⟨es⟩ : Array DictEntry)[i]?.map (·.hash)) h = [] := by
  unfold placesWithHash
  rw [List.filter_eq_nil_iff]
  intro i _
  simp only [beq_iff_eq, Option.map_eq_some_iff, not_exists, not_and]
  intro e he
  simp only [List.getElem?_toArray] at he
  exact hne e (List.mem_of_getElem? he)

theorem go_find {d : Addr} {es : List DictEntry} {ep : Nat} {k : Int} {t : Tok} {h : Int} (ho : s.heap.get? d = some (dO es ep)) (hne : ∀ e ∈ es, e.hash ≠ h) :
    Go p w n₀ ann c (dictFind d (.int k t) h) s q 1 none s q := by
  unfold dictFind
  refine Go.holding ?_
  refine Go.cast (Go.bind (n := 1) (m := 0) (a := ⟨es⟩) (s₁ := s) (q₁ := q) ?_ ?_) rfl
  · unfold dictEntries loadPart
    exact Go.load ho (Go.pure _)
  · dsimp only
    rw [places_none es h hne]
    exact Go.pure _

theorem go_updKeys {A R : List Obj} {es : List DictEntry} {ep tk : Nat} {e : DictEntry} {part : Option Value} (hn : Nat.ble n₀ A.length = true) (hsz : es.length < sizeLine) :
    Go p w n₀ ann c (updateDictKeys A.length (·.push e) part) (stL s (A ++ dO es ep :: R) tk) q 3 () (stL s (A ++ dO (es ++ [e]) (ep + 1) :: R) tk) q := by
  unfold updateDictKeys loadPart updatePart lookBehind loadPart
  refine Go.cast (Go.bind (n := 1) (m := 2) (a := dO es ep) (s₁ := stL s (A ++ dO es ep :: R) tk) (q₁ := q) (Go.load (get_mid A R es ep _) (Go.pure _)) ?_) rfl
  dsimp only
  have hu : (⟨⟨A ++ dO es ep :: R⟩, s.heap.life⟩ : Heap).update A.length (Obj.mapDictKeys (·.push e)) = ⟨⟨A ++ dO (es ++ [e]) (ep + 1) :: R⟩, s.heap.life⟩ := by
    rw [upd_mid]
    show (⟨⟨A ++ ({ cls := .type "dict", data := .dict ((⟨es⟩ : Array DictEntry).push e) (ep + 1) } : Obj) :: R⟩, s.heap.life⟩ : Heap) = _
    rw [show (⟨es⟩ : Array DictEntry).push e = ⟨es ++ [e]⟩ by simp]
  refine Go.cast (Go.bind (n := 1) (m := 1) (a := ()) (s₁ := stL s (A ++ dO (es ++ [e]) (ep + 1) :: R) tk) (q₁ := q) (Go.update (get_mid A R es ep _) hn ?_) ?_) rfl
  · show Go p w n₀ ann c (Sem.pure ()) { stL s (A ++ dO es ep :: R) tk with heap := (⟨⟨A ++ dO es ep :: R⟩, s.heap.life⟩ : Heap).update A.length (Obj.mapDictKeys (·.push e)) } q 0 () _ q
    rw [hu]
    exact Go.pure _
  · refine Go.cast (Go.bind (n := 1) (m := 0) (a := dO (es ++ [e]) (ep + 1)) (s₁ := stL s (A ++ dO (es ++ [e]) (ep + 1) :: R) tk) (q₁ := q) (Go.load (get_mid A R _ _ _) (Go.pure _)) ?_) rfl
    have hp : (dO (es ++ [e]) (ep + 1)).data.pastItsLine = none := by
      unfold Data.pastItsLine
      dsimp only
      rw [if_neg]
      simp
      omega
    rw [hp]
    exact Go.pure _

theorem go_put {A R : List Obj} {es : List DictEntry} {ep tk : Nat} {k : Int} {t : Tok} {v : Value} {h : Int} (hn : Nat.ble n₀ A.length = true) (hsz : es.length < sizeLine) (hne : ∀ e ∈ es, e.hash ≠ h) :
    Go p w n₀ ann c (dictPut A.length h (.int k t) v) (stL s (A ++ dO es ep :: R) tk) q 4 () (stL s (A ++ dO (es ++ [⟨h, .int k t, v⟩]) (ep + 1) :: R) tk) q := by
  unfold dictPut
  exact Go.cast (Go.bind (n := 1) (m := 3) (go_find (get_mid A R es ep _) hne) (go_updKeys hn hsz)) rfl

theorem go_set {A R : List Obj} {es : List DictEntry} {ep tk : Nat} {k : Int} {t : Tok} {v : Value} (hn : Nat.ble n₀ A.length = true) (hsz : es.length < sizeLine) (hne : ∀ e ∈ es, e.hash ≠ hashInt k) :
    Go p w n₀ ann c (dictSet A.length (.int k t) v) (stL s (A ++ dO es ep :: R) tk) q 10 () (stL s (A ++ dO (es ++ [⟨hashInt k, .int k t, v⟩]) (ep + 1) :: R) (tk + 1)) q := by
  unfold dictSet
  refine Go.holding (Go.cast (Go.bind (n := 5) (m := 5) (go_hash k t) ?_) rfl)
  unfold dictSetHashed
  refine Go.holding (Go.cast (Go.bind (n := 1) (m := 4) (go_find (get_mid A R es ep _) hne) ?_) rfl)
  exact Go.cast (Go.bind (n := 1) (m := 3) (Go.rule (Go.pure ())) (go_updKeys (s := s) (tk := tk + 1) hn hsz)) rfl
end
end Mine
end
section
open PySem PySem.W PySem.Calls PyProof.Rows
namespace Mine
section
variable {p : Program} {w : World} {n₀ : Nat} {ann : Option Value}
variable {α β : Type} {c : Code} {s s₁ s₂ : Shared} {q q₁ q₂ : Pos} {n m : Nat} {a : α} {b : β}

/-- a pair of the display: the key's tree and the value's -/
abbrev pr (pos : Pos) (x : Int × Str) : Sem Value × Sem Value := (mkInt x.1, do let v ← mkText x.2; standAt pos; pure v)
abbrev hs (x : Int × Str) : Int := hashInt x.1

def entsL : Nat → List (Int × Str) → List DictEntry
  | _, [] => []
  | tk, x :: r => ⟨hs x, .int x.1 tk, .str x.2 (tk + 1)⟩ :: entsL (tk + 3) r
def entsS : Nat → List (Int × Str) → List DictEntry
  | _, [] => []
  | tk, x :: r => ⟨hs x, .int x.1 tk, .str x.2 (tk + 1)⟩ :: entsS (tk + 2) r

theorem entsL_length : ∀ (kvs : List (Int × Str)) (tk : Nat), (entsL tk kvs).length = kvs.length
  | [], _ => rfl
  | x :: r, tk => by simp [entsL, entsL_length r]
theorem entsS_length : ∀ (kvs : List (Int × Str)) (tk : Nat), (entsS tk kvs).length = kvs.length
  | [], _ => rfl
  | x :: r, tk => by simp [entsS, entsS_length r]
theorem entsL_hash : ∀ (kvs : List (Int × Str)) (tk : Nat), (entsL tk kvs).map (·.hash) = kvs.map hs
  | [], _ => rfl
  | x :: r, tk => by simp [entsL, entsL_hash r]
theorem entsS_hash : ∀ (kvs : List (Int × Str)) (tk : Nat), (entsS tk kvs).map (·.hash) = kvs.map hs
  | [], _ => rfl
  | x :: r, tk => by simp [entsS, entsS_hash r]
theorem entsL_int : ∀ (kvs : List (Int × Str)) (tk : Nat), ∀ e ∈ entsL tk kvs, ∃ k t, e.key = .int k t
  | [], _, e, h => by simp [entsL] at h
  | x :: r, tk, e, h => by
    rcases List.mem_cons.mp h with rfl | h
    · exact ⟨_, _, rfl⟩
    · exact entsL_int r _ e h
theorem entsS_int : ∀ (kvs : List (Int × Str)) (tk : Nat), ∀ e ∈ entsS tk kvs, ∃ k t, e.key = .int k t
  | [], _, e, h => by simp [entsS] at h
  | x :: r, tk, e, h => by
    rcases List.mem_cons.mp h with rfl | h
    · exact ⟨_, _, rfl⟩
    · exact entsS_int r _ e h

theorem nd_head {es : List DictEntry} {h : Int} {r : List Int} (nd : (es.map (·.hash) ++ h :: r).Nodup) : ∀ e ∈ es, e.hash ≠ h := by
  intro e he q
  rw [List.nodup_append] at nd
  exact nd.2.2 e.hash (List.mem_map.mpr ⟨e, he, rfl⟩) h (by simp) q
theorem nd_next {es : List DictEntry} {e : DictEntry} {h : Int} {r : List Int} (eh : e.hash = h) (nd : (es.map (·.hash) ++ h :: r).Nodup) : ((es ++ [e]).map (·.hash) ++ r).Nodup := by
  subst eh
  simpa [List.append_assoc] using nd

theorem go_loopL (pos : Pos) (A R : List Obj) (hn : Nat.ble n₀ A.length = true) (f : Sem Value × Sem Value → PUnit → Sem (ForInStep PUnit))
    (hf : ∀ (x : Int × Str) (es : List DictEntry) (ep tk : Nat), es.length < sizeLine → (∀ e ∈ es, e.hash ≠ hs x) →
      Go p w n₀ ann c (f (pr pos x) ⟨⟩) (stL s (A ++ dO es ep :: R) tk) pos 13 (.yield ⟨⟩) (stL s (A ++ dO (es ++ [⟨hs x, .int x.1 tk, .str x.2 (tk + 1)⟩]) (ep + 1) :: R) (tk + 3)) pos) :
    ∀ (kvs : List (Int × Str)) (es : List DictEntry) (ep tk : Nat), es.length + kvs.length ≤ sizeLine → (es.map (·.hash) ++ kvs.map hs).Nodup →
      Go p w n₀ ann c (forIn (kvs.map (pr pos)) PUnit.unit f) (stL s (A ++ dO es ep :: R) tk) pos (13 * kvs.length) ⟨⟩ (stL s (A ++ dO (es ++ entsL tk kvs) (ep + kvs.length) :: R) (tk + 3 * kvs.length)) pos
  | [], es, ep, tk, _, _ => by
    simp only [List.map_nil, List.forIn_nil, entsL, List.append_nil, List.length_nil, Nat.mul_zero, Nat.add_zero]
    exact Go.pure _
  | x :: kvs, es, ep, tk, hl, nd => by
    rw [List.map_cons, List.forIn_cons]
    simp only [List.length_cons] at hl
    have h1 := hf x es ep tk (by omega) (nd_head nd)
    have h2 := go_loopL pos A R hn f hf kvs (es ++ [⟨hs x, .int x.1 tk, .str x.2 (tk + 1)⟩]) (ep + 1) (tk + 3) (by simp; omega) (nd_next (e := ⟨hs x, .int x.1 tk, .str x.2 (tk + 1)⟩) (h := hs x) rfl nd)
    refine Go.cast (Go.bind h1 (m := 13 * kvs.length) ?_) (by simp only [List.length_cons]; omega)
    simp only [List.append_assoc, List.singleton_append] at h2
    rw [show ep + 1 + kvs.length = ep + (kvs.length + 1) by omega, show tk + 3 + 3 * kvs.length = tk + 3 * (kvs.length + 1) by omega] at h2
    exact h2

theorem go_loopL0 (pos : Pos) (A R : List Obj) (hn : Nat.ble n₀ A.length = true) (f : Sem Value × Sem Value → PUnit → Sem (ForInStep PUnit)) (kvs : List (Int × Str)) (tk : Nat) (hl : kvs.length ≤ sizeLine) (nd : (kvs.map hs).Nodup)
    (hf : ∀ (x : Int × Str) (es : List DictEntry) (ep tk : Nat), es.length < sizeLine → (∀ e ∈ es, e.hash ≠ hs x) →
      Go p w n₀ ann c (f (pr pos x) ⟨⟩) (stL s (A ++ dO es ep :: R) tk) pos 13 (.yield ⟨⟩) (stL s (A ++ dO (es ++ [⟨hs x, .int x.1 tk, .str x.2 (tk + 1)⟩]) (ep + 1) :: R) (tk + 3)) pos) :
    Go p w n₀ ann c (forIn (kvs.map (pr pos)) PUnit.unit f) (stL s (A ++ dO [] 0 :: R) tk) pos (13 * kvs.length) ⟨⟩ (stL s (A ++ dO (entsL tk kvs) kvs.length :: R) (tk + 3 * kvs.length)) pos := by
  have h := go_loopL pos A R hn f hf kvs [] 0 tk (by simpa using hl) (by simpa using nd)
  simp only [List.nil_append, Nat.zero_add] at h
  exact h

theorem push_obj (L : List Obj) (o : Obj) (l : Life) : (⟨⟨L⟩, l⟩ : Heap).push o = ⟨⟨L ++ [o]⟩, l⟩ := by
  show (⟨(⟨L⟩ : Array Obj).push o, l⟩ : Heap) = _
  rw [show (⟨L⟩ : Array Obj).push o = ⟨L ++ [o]⟩ by simp]

theorem go_alloc (L : List Obj) (tk : Nat) (o : Obj) : Go p w n₀ ann c (PySem.alloc o) (stL s L tk) q 1 L.length (stL s (L ++ [o]) tk) q := by
  unfold PySem.alloc
  refine Go.alloc ?_
  show Go p w n₀ ann c (Sem.pure (Array.size ⟨L⟩)) { stL s L tk with heap := (⟨⟨L⟩, s.heap.life⟩ : Heap).push o } q 0 L.length (stL s (L ++ [o]) tk) q
  rw [push_obj]
  exact Go.pure _

theorem go_subL (pos : Pos) (L : List Obj) (hn : Nat.ble n₀ L.length = true) (kvs : List (Int × Str)) (tk : Nat) (h15 : ¬ kvs.length ≤ 15) (hl : kvs.length ≤ sizeLine) (nd : (kvs.map hs).Nodup) :
    Go p w n₀ ann c (subDict (kvs.map (pr pos))) (stL s L tk) pos (13 * kvs.length + 2) L.length (stL s (L ++ [dO (entsL tk kvs) kvs.length]) (tk + 3 * kvs.length)) pos := by
  unfold subDict
  refine Go.cast (Go.bind (n := 1) (m := 13 * kvs.length + 1) (go_alloc L tk _) ?_) (by omega)
  refine Go.cast (Go.bind (n := 13 * kvs.length + 1) (m := 0) (a := ()) (Go.holding ?_) (Go.pure _)) (by omega)
  rw [List.length_map, if_neg h15]
  refine Go.cast (Go.bind (n := 1) (m := 13 * kvs.length) (Go.rule (Go.pure ())) ?_) (by omega)
  refine Go.cast (Go.bind (n := 13 * kvs.length) (m := 0) (a := ⟨⟩) (go_loopL0 pos L [] hn _ kvs tk hl nd (fun x es ep tk hsz hne => ?_)) (Go.pure _)) (by omega)
  · dsimp only
    refine Go.cast (Go.bind (n := 1) (m := 12) (a := .int x.1 tk) (s₁ := stL s (L ++ dO es ep :: []) (tk + 1)) (q₁ := pos) (Go.fresh (Go.pure _)) ?_) rfl
    refine Go.cast (Go.bind (n := 2) (m := 10) (a := .str x.2 (tk + 1)) (s₁ := stL s (L ++ dO es ep :: []) (tk + 2)) (q₁ := pos) (Go.holding ?_) ?_) rfl
    · exact Go.cast (Go.bind (n := 1) (m := 1) (Go.fresh (Go.pure _)) (Go.bind (n := 1) (m := 0) (Go.stand (Go.pure _)) (Go.pure _))) rfl
    · exact Go.cast (Go.bind (n := 10) (m := 0) (Go.holding (go_set (tk := tk + 2) hn hsz hne)) (Go.pure _)) rfl
end
end Mine
end
section
open PySem PySem.W PySem.Calls PyProof.Rows
namespace Mine
section
variable {p : Program} {w : World} {n₀ : Nat} {ann : Option Value}
variable {α β : Type} {c : Code} {s s₁ s₂ : Shared} {q q₁ q₂ : Pos} {n m : Nat} {a : α} {b : β}

def valsS : Nat → List (Int × Str) → List (Value × Value)
  | _, [] => []
  | tk, x :: r => (.int x.1 tk, .str x.2 (tk + 1)) :: valsS (tk + 2) r

theorem go_evalPairs (pos : Pos) (L : List Obj) : ∀ (kvs : List (Int × Str)) (tk : Nat),
    Go p w n₀ ann c (evalPairs (kvs.map (pr pos))) (stL s L tk) pos (3 * kvs.length) (valsS tk kvs) (stL s L (tk + 2 * kvs.length)) pos
  | [], tk => Go.pure _
  | x :: kvs, tk => by
    rw [List.map_cons, evalPairs]
    refine Go.cast (Go.bind (n := 1) (m := 2 + 3 * kvs.length) (a := .int x.1 tk) (s₁ := stL s L (tk + 1)) (q₁ := pos) (Go.fresh (Go.pure _)) ?_) (by simp only [List.length_cons]; omega)
    refine Go.cast (Go.bind (n := 2) (m := 3 * kvs.length) (a := .str x.2 (tk + 1)) (s₁ := stL s L (tk + 2)) (q₁ := pos) (Go.holding ?_) ?_) (by omega)
    · exact Go.cast (Go.bind (n := 1) (m := 1) (Go.fresh (Go.pure _)) (Go.bind (n := 1) (m := 0) (Go.stand (Go.pure _)) (Go.pure _))) rfl
    · have h := go_evalPairs pos L kvs (tk + 2)
      rw [show tk + 2 + 2 * kvs.length = tk + 2 * (kvs.length + 1) by omega] at h
      exact Go.cast (Go.bind (Go.holding h) (m := 0) (Go.pure _)) (by omega)

theorem go_loopS (pos : Pos) (A R : List Obj) (f : Value × Value → PUnit → Sem (ForInStep PUnit))
    (hf : ∀ (x : Int × Str) (t : Tok) (es : List DictEntry) (ep tk : Nat), es.length < sizeLine → (∀ e ∈ es, e.hash ≠ hs x) →
      Go p w n₀ ann c (f (.int x.1 t, .str x.2 (t + 1)) ⟨⟩) (stL s (A ++ dO es ep :: R) tk) pos 10 (.yield ⟨⟩) (stL s (A ++ dO (es ++ [⟨hs x, .int x.1 t, .str x.2 (t + 1)⟩]) (ep + 1) :: R) (tk + 1)) pos) :
    ∀ (kvs : List (Int × Str)) (t : Tok) (es : List DictEntry) (ep tk : Nat), es.length + kvs.length ≤ sizeLine → (es.map (·.hash) ++ kvs.map hs).Nodup →
      Go p w n₀ ann c (forIn (valsS t kvs) PUnit.unit f) (stL s (A ++ dO es ep :: R) tk) pos (10 * kvs.length) ⟨⟩ (stL s (A ++ dO (es ++ entsS t kvs) (ep + kvs.length) :: R) (tk + kvs.length)) pos
  | [], t, es, ep, tk, _, _ => by
    simp only [valsS, List.forIn_nil, entsS, List.append_nil, List.length_nil, Nat.mul_zero, Nat.add_zero]
    exact Go.pure _
  | x :: kvs, t, es, ep, tk, hl, nd => by
    rw [valsS, List.forIn_cons]
    simp only [List.length_cons] at hl
    have h1 := hf x t es ep tk (by omega) (nd_head nd)
    have h2 := go_loopS pos A R f hf kvs (t + 2) (es ++ [⟨hs x, .int x.1 t, .str x.2 (t + 1)⟩]) (ep + 1) (tk + 1) (by simp; omega) (nd_next (e := ⟨hs x, .int x.1 t, .str x.2 (t + 1)⟩) (h := hs x) rfl nd)
    refine Go.cast (Go.bind h1 (m := 10 * kvs.length) ?_) (by simp only [List.length_cons]; omega)
    simp only [List.append_assoc, List.singleton_append] at h2
    rw [show ep + 1 + kvs.length = ep + (kvs.length + 1) by omega, show tk + 1 + kvs.length = tk + (kvs.length + 1) by omega] at h2
    exact h2
theorem go_loopS0 (pos : Pos) (A R : List Obj) (f : Value × Value → PUnit → Sem (ForInStep PUnit)) (kvs : List (Int × Str)) (t : Tok) (tk : Nat) (hl : kvs.length ≤ sizeLine) (nd : (kvs.map hs).Nodup)
    (hf : ∀ (x : Int × Str) (t : Tok) (es : List DictEntry) (ep tk : Nat), es.length < sizeLine → (∀ e ∈ es, e.hash ≠ hs x) →
      Go p w n₀ ann c (f (.int x.1 t, .str x.2 (t + 1)) ⟨⟩) (stL s (A ++ dO es ep :: R) tk) pos 10 (.yield ⟨⟩) (stL s (A ++ dO (es ++ [⟨hs x, .int x.1 t, .str x.2 (t + 1)⟩]) (ep + 1) :: R) (tk + 1)) pos) :
    Go p w n₀ ann c (forIn (valsS t kvs) PUnit.unit f) (stL s (A ++ dO [] 0 :: R) tk) pos (10 * kvs.length) ⟨⟩ (stL s (A ++ dO (entsS t kvs) kvs.length :: R) (tk + kvs.length)) pos := by
  have h := go_loopS pos A R f hf kvs t [] 0 tk (by simpa using hl) (by simpa using nd)
  simp only [List.nil_append, Nat.zero_add] at h
  exact h

theorem go_subS (pos : Pos) (L : List Obj) (hn : Nat.ble n₀ L.length = true) (kvs : List (Int × Str)) (tk : Nat) (h15 : kvs.length ≤ 15) (hl : kvs.length ≤ sizeLine) (nd : (kvs.map hs).Nodup) :
    Go p w n₀ ann c (subDict (kvs.map (pr pos))) (stL s L tk) pos (13 * kvs.length + 1) L.length (stL s (L ++ [dO (entsS tk kvs) kvs.length]) (tk + 3 * kvs.length)) pos := by
  unfold subDict
  refine Go.cast (Go.bind (n := 1) (m := 13 * kvs.length) (go_alloc L tk _) ?_) (by omega)
  refine Go.cast (Go.bind (n := 13 * kvs.length) (m := 0) (a := ()) (Go.holding ?_) (Go.pure _)) (by omega)
  rw [List.length_map, if_pos h15]
  refine Go.cast (Go.bind (n := 3 * kvs.length) (m := 10 * kvs.length) (go_evalPairs pos _ kvs tk) ?_) (by omega)
  have h := go_loopS0 (p := p) (w := w) (n₀ := n₀) (ann := ann) (c := c) (s := s) pos L [] (fun x _ => match x with | (k, v) => do dictSet L.length k v; pure (ForInStep.yield PUnit.unit)) kvs tk (tk + 2 * kvs.length) hl nd
    (fun x t es ep tk hsz hne => Go.cast (Go.bind (n := 10) (m := 0) (go_set hn hsz hne) (Go.pure _)) rfl)
  rw [show tk + 2 * kvs.length + kvs.length = tk + 3 * kvs.length by omega] at h
  exact Go.holding (Go.cast (Go.bind (n := 10 * kvs.length) (m := 0) (a := ⟨⟩) h (Go.pure _)) (by omega))

theorem get_last (A R : List Obj) (es new : List DictEntry) (ep nn : Nat) (l : Life) : (⟨⟨A ++ dO es ep :: (R ++ [dO new nn])⟩, l⟩ : Heap).get? (A.length + (R.length + 1)) = some (dO new nn) := by
  have h := get_mid (A ++ dO es ep :: R) [] new nn l
  simp only [List.length_append, List.length_cons, List.append_assoc, List.cons_append] at h
  exact h

theorem go_mergeLoop (A R : List Obj) (pos : Pos) (tk : Nat) (new : List DictEntry) (nn : Nat) (f : Nat → PUnit → Sem (ForInStep PUnit))
    (hf : ∀ (i : Nat) (e : DictEntry) (es : List DictEntry) (ep : Nat), new[i]? = some e → es.length < sizeLine → (∀ e' ∈ es, e'.hash ≠ e.hash) →
      Go p w n₀ ann c (f i ⟨⟩) (stL s (A ++ dO es ep :: (R ++ [dO new nn])) tk) pos 6 (.yield ⟨⟩) (stL s (A ++ dO (es ++ [e]) (ep + 1) :: (R ++ [dO new nn])) tk) pos) :
    ∀ (post pre : List DictEntry) (es : List DictEntry) (ep : Nat), new = pre ++ post → es.length + post.length ≤ sizeLine → (es.map (·.hash) ++ post.map (·.hash)).Nodup →
      Go p w n₀ ann c (forIn (List.range' pre.length post.length) PUnit.unit f) (stL s (A ++ dO es ep :: (R ++ [dO new nn])) tk) pos (6 * post.length) ⟨⟩ (stL s (A ++ dO (es ++ post) (ep + post.length) :: (R ++ [dO new nn])) tk) pos
  | [], pre, es, ep, _, _, _ => by
    simp only [List.length_nil, List.range'_zero, List.forIn_nil, List.append_nil, Nat.mul_zero, Nat.add_zero]
    exact Go.pure _
  | e :: post, pre, es, ep, hN, hl, nd => by
    rw [List.length_cons, List.range'_succ, List.forIn_cons]
    simp only [List.length_cons] at hl
    have hi : new[pre.length]? = some e := by rw [hN]; simp
    have h1 := hf pre.length e es ep hi (by omega) (nd_head nd)
    have h2 := go_mergeLoop A R pos tk new nn f hf post (pre ++ [e]) (es ++ [e]) (ep + 1) (by rw [hN]; simp) (by simp; omega) (nd_next rfl nd)
    refine Go.cast (Go.bind h1 (m := 6 * post.length) ?_) (by omega)
    simp only [List.append_assoc, List.singleton_append, List.length_append, List.length_cons, List.length_nil, Nat.zero_add] at h2
    rw [show ep + 1 + post.length = ep + (post.length + 1) by omega] at h2
    exact h2

theorem sub_dict : isSubtype (.type "dict") (.type "dict") = Pure.pure true := by kernel_rfl
theorem iter_dict : typeLookup (.type "dict") "__iter__" = Pure.pure (some (.builtin "dict.__iter__")) := by kernel_rfl

theorem go_merge (A R : List Obj) (pos : Pos) (tk : Nat) (es new : List DictEntry) (ep nn : Nat) (hn : Nat.ble n₀ A.length = true) (hsys : (A.length + (R.length + 1) == sysModules) = false) (he : es ≠ [])
    (hint : ∀ e ∈ new, ∃ k t, e.key = .int k t) (hl : es.length + new.length ≤ sizeLine) (nd : (es.map (·.hash) ++ new.map (·.hash)).Nodup) :
    Go p w n₀ ann c (mergeMapping A.length (.ref (A.length + (R.length + 1))) false) (stL s (A ++ dO es ep :: (R ++ [dO new nn])) tk) pos (6 * new.length + 5) ()
      (stL s (A ++ dO (es ++ new) (ep + new.length) :: (R ++ [dO new nn])) tk) pos := by
  unfold mergeMapping
  have hg : ∀ es ep, (stL s (A ++ dO es ep :: (R ++ [dO new nn])) tk).heap.get? (A.length + (R.length + 1)) = some (dO new nn) := fun es ep => get_last A R es new ep nn _
  refine Go.cast (Go.bind (n := 1) (m := 6 * new.length + 4) (a := true) (s₁ := stL s (A ++ dO es ep :: (R ++ [dO new nn])) tk) (q₁ := pos) ?_ ?_) (by omega)
  · unfold isInstance
    refine Go.cast (Go.bind (n := 1) (m := 0) (a := .type "dict") (s₁ := stL s (A ++ dO es ep :: (R ++ [dO new nn])) tk) (q₁ := pos) ?_ ?_) rfl
    · unfold typeOf loadPart
      exact Go.load (hg es ep) (Go.pure _)
    · rw [sub_dict]; exact Go.pure _
  rw [if_pos rfl]
  refine Go.cast (Go.bind (n := 1) (m := 6 * new.length + 3) (a := some (.builtin "dict.__iter__")) (s₁ := stL s (A ++ dO es ep :: (R ++ [dO new nn])) tk) (q₁ := pos) ?_ ?_) (by omega)
  · unfold specialOf
    refine Go.cast (Go.bind (n := 1) (m := 0) (a := .type "dict") (s₁ := stL s (A ++ dO es ep :: (R ++ [dO new nn])) tk) (q₁ := pos) ?_ ?_) rfl
    · unfold typeOf loadPart
      exact Go.load (hg es ep) (Go.pure _)
    · rw [iter_dict]; exact Go.pure _
  rw [show (some (Value.builtin "dict.__iter__") == some (Value.builtin "dict.__iter__")) = true from by simp]
  refine Go.bp rfl ?_
  dsimp only
  rw [if_neg (by rw [hsys]; exact Bool.false_ne_true)]
  refine Go.cast (Go.bind (n := 1) (m := 6 * new.length + 2) (a := ⟨es⟩) (s₁ := stL s (A ++ dO es ep :: (R ++ [dO new nn])) tk) (q₁ := pos) ?_ ?_) (by omega)
  · unfold dictEntries loadPart
    exact Go.load (get_mid A _ es ep _) (Go.pure _)
  rw [if_neg (by simpa using he)]
  refine Go.cast (Go.bind (n := 1) (m := 6 * new.length + 1) (a := ⟨new⟩) (s₁ := stL s (A ++ dO es ep :: (R ++ [dO new nn])) tk) (q₁ := pos) ?_ ?_) (by omega)
  · unfold dictEntries loadPart
    exact Go.load (hg es ep) (Go.pure _)
  refine Go.cast (Go.bind (n := 1) (m := 6 * new.length) (a := nn) (s₁ := stL s (A ++ dO es ep :: (R ++ [dO new nn])) tk) (q₁ := pos) ?_ ?_) (by omega)
  · unfold dictEpoch loadPart
    exact Go.load (hg es ep) (Go.pure _)
  refine Go.cast (Go.bind (n := 6 * new.length) (m := 0) (a := ⟨⟩) ?_ (Go.pure _)) (by omega)
  have hsz : (Array.size ⟨new⟩ : Nat) = new.length := rfl
  rw [hsz, List.range_eq_range']
  refine go_mergeLoop A R pos tk new nn _ (fun i e es' ep' hi hs' hne => ?_) new [] es ep rfl hl nd
  refine Go.cast (Go.bind (n := 1) (m := 5) (a := ⟨new⟩) (s₁ := stL s (A ++ dO es' ep' :: (R ++ [dO new nn])) tk) (q₁ := pos) ?_ ?_) rfl
  · unfold dictEntries loadPart
    exact Go.load (hg es' ep') (Go.pure _)
  have hi' : (⟨new⟩ : Array DictEntry)[i]? = some e := by simpa using hi
  rw [hi']
  dsimp only
  obtain ⟨k, t, hk⟩ := hint e (List.mem_of_getElem? hi)
  obtain ⟨eh, ek, ev⟩ := e
  dsimp only at hk hne ⊢
  subst hk
  rw [if_neg Bool.false_ne_true]
  refine Go.cast (Go.bind (n := 4) (m := 1) (Go.holding (go_put hn hs' hne)) ?_) rfl
  refine Go.cast (Go.bind (n := 1) (m := 0) (a := nn) (s₁ := stL s (A ++ dO (es' ++ [⟨eh, .int k t, ev⟩]) (ep' + 1) :: (R ++ [dO new nn])) tk) (q₁ := pos) ?_ ?_) rfl
  · unfold dictEpoch loadPart
    exact Go.load (hg _ _) (Go.pure _)
  rw [if_neg (by simp)]
  exact Go.pure _
end
end Mine
end
section
open PySem PySem.W PySem.Calls PyProof.Rows
namespace Mine
section
variable {p : Program} {w : World} {n₀ : Nat} {ann : Option Value}
variable {α β : Type} {c : Code} {s s₁ s₂ : Shared} {q q₁ q₂ : Pos} {n m : Nat} {a : α} {b : β}

/-- what the display makes of the pairs that are left: the entries, the dicts between, the tokens, the pairs of the last run -/
def fill : List (Int × Str) → List (Int × Str) → List DictEntry → List Obj → Nat → List DictEntry × List Obj × Nat × List (Int × Str)
  | [], run, es, R, tk => (es, R, tk, run)
  | x :: r, run, es, R, tk => match Nat.beq run.length 16 with
    | true => fill r [] (es ++ entsL tk (run ++ [x])) (R ++ [dO (entsL tk (run ++ [x])) 17]) (tk + 51)
    | false => fill r (run ++ [x]) es R tk
def fill0 : List (Int × Str) → List (Int × Str) → Nat → List DictEntry × List Obj × Nat × List (Int × Str)
  | [], run, tk => ([], [], tk, run)
  | x :: r, run, tk => match Nat.beq run.length 16 with
    | true => fill r [] (entsL tk (run ++ [x])) [] (tk + 51)
    | false => fill0 r (run ++ [x]) tk
def cost : List (Int × Str) → Nat → Nat
  | [], _ => 0
  | _ :: r, k => match Nat.beq k 16 with
    | true => 330 + cost r 0
    | false => cost r (k + 1)
def cost0 : List (Int × Str) → Nat → Nat
  | [], _ => 0
  | _ :: r, k => match Nat.beq k 16 with
    | true => 223 + cost r 0
    | false => cost0 r (k + 1)


abbrev it (pos : Pos) (x : Int × Str) : Option (Sem Value) × Sem Value := (some (pr pos x).1, (pr pos x).2)

theorem len_at (A R : List Obj) (o : Obj) : (A ++ o :: R).length = A.length + (R.length + 1) := by simp

/-- a run that is full: its own dict, and that into the first one -/
theorem go_flush (pos : Pos) (A R : List Obj) (es : List DictEntry) (ep tk : Nat) (run : List (Int × Str)) (g : Value → Sem Unit) (hn : Nat.ble n₀ A.length = true) (hs1 : (A.length + (R.length + 1) == sysModules) = false) (he : es ≠ [])
    (hl : es.length + run.length ≤ sizeLine) (h17 : run.length = 17) (nd : (es.map (·.hash) ++ run.map hs).Nodup) :
    Go p w n₀ ann c (do
      let sub ← holding [.ref A.length] (subDict (run.map (pr pos)))
      (holding [.ref A.length, .ref sub] (mergeMapping A.length (.ref sub) false)).onRaise g
      pure (some A.length)) (stL s (A ++ dO es ep :: R) tk) pos 330 (some A.length) (stL s (A ++ dO (es ++ entsL tk run) (ep + 17) :: (R ++ [dO (entsL tk run) 17])) (tk + 51)) pos := by
  have hn' : Nat.ble n₀ (A ++ dO es ep :: R).length = true := by
    rw [Nat.ble_eq] at hn ⊢
    rw [len_at]; omega
  have h1 := go_subL (p := p) (w := w) (n₀ := n₀) (ann := ann) (c := c) (s := s) pos (A ++ dO es ep :: R) hn' run tk (by omega) (by omega) (List.nodup_append.mp nd).2.1
  rw [h17, len_at, List.append_assoc, List.cons_append] at h1
  have h2 := go_merge (p := p) (w := w) (n₀ := n₀) (ann := ann) (c := c) (s := s) A R pos (tk + 3 * 17) es (entsL tk run) ep 17 hn hs1 he (entsL_int run tk) (by rw [entsL_length]; exact hl) (by rw [entsL_hash]; exact nd)
  rw [entsL_length, h17] at h2
  exact Go.cast (Go.bind (n := 13 * 17 + 2) (m := 6 * 17 + 5) (Go.holding h1) (Go.cast (Go.bind (n := 6 * 17 + 5) (m := 0) (Go.onRaise (Go.holding h2)) (Go.pure _)) rfl)) rfl

/-- the last run, of fifteen pairs or fewer -/
theorem go_flushLast (pos : Pos) (A R : List Obj) (es : List DictEntry) (ep tk : Nat) (run : List (Int × Str)) (g : Value → Sem Unit) (hn : Nat.ble n₀ A.length = true) (hs1 : (A.length + (R.length + 1) == sysModules) = false) (he : es ≠ [])
    (hl : es.length + run.length ≤ sizeLine) (h15 : run.length ≤ 15) (nd : (es.map (·.hash) ++ run.map hs).Nodup) :
    Go p w n₀ ann c (do
      let sub ← holding [.ref A.length] (subDict (run.map (pr pos)))
      (holding [.ref A.length, .ref sub] (mergeMapping A.length (.ref sub) false)).onRaise g
      pure (some A.length)) (stL s (A ++ dO es ep :: R) tk) pos (19 * run.length + 6) (some A.length) (stL s (A ++ dO (es ++ entsS tk run) (ep + run.length) :: (R ++ [dO (entsS tk run) run.length])) (tk + 3 * run.length)) pos := by
  have hn' : Nat.ble n₀ (A ++ dO es ep :: R).length = true := by
    rw [Nat.ble_eq] at hn ⊢
    rw [len_at]; omega
  have h1 := go_subS (p := p) (w := w) (n₀ := n₀) (ann := ann) (c := c) (s := s) pos (A ++ dO es ep :: R) hn' run tk h15 (by omega) (List.nodup_append.mp nd).2.1
  rw [len_at, List.append_assoc, List.cons_append] at h1
  have h2 := go_merge (p := p) (w := w) (n₀ := n₀) (ann := ann) (c := c) (s := s) A R pos (tk + 3 * run.length) es (entsS tk run) ep run.length hn hs1 he (entsS_int run tk) (by rw [entsS_length]; exact hl) (by rw [entsS_hash]; exact nd)
  rw [entsS_length] at h2
  exact Go.cast (Go.bind (n := 13 * run.length + 1) (m := 6 * run.length + 5) (Go.holding h1) (Go.cast (Go.bind (n := 6 * run.length + 5) (m := 0) (Go.onRaise (Go.holding h2)) (Go.pure _)) (by omega))) (by omega)

theorem nodup_mid {es : List DictEntry} {tk : Nat} {run r : List (Int × Str)} {x : Int × Str} (nd : (es.map (·.hash) ++ (run ++ x :: r).map hs).Nodup) :
    (es.map (·.hash) ++ (run ++ [x]).map hs).Nodup ∧ ((es ++ entsL tk (run ++ [x])).map (·.hash) ++ ([] ++ r).map hs).Nodup ∧ (es.map (·.hash) ++ ((run ++ [x]) ++ r).map hs).Nodup := by
  have e : (es.map (·.hash) ++ (run ++ x :: r).map hs) = (es.map (·.hash) ++ (run ++ [x]).map hs) ++ r.map hs := by simp
  rw [e] at nd
  refine ⟨(List.nodup_append.mp nd).1, ?_, ?_⟩
  · rw [List.map_append, entsL_hash, List.nil_append]; exact nd
  · rw [List.map_append (l₁ := run ++ [x]), ← List.append_assoc]; exact nd

theorem go_loop (pos : Pos) (A : List Obj) (f : (Option (Sem Value) × Sem Value) → (Option Addr × List (Sem Value × Sem Value)) → Sem (ForInStep (Option Addr × List (Sem Value × Sem Value))))
    (hsys : ∀ k : Nat, (A.length + k == sysModules) = false)
    (hf1 : ∀ (x : Int × Str) (main : Option Addr) (run : List (Int × Str)), Nat.beq run.length 16 = false → f (it pos x) (main, run.map (pr pos)) = pure (.yield (main, (run ++ [x]).map (pr pos))))
    (hf2 : ∀ (x : Int × Str) (run : List (Int × Str)) (R : List Obj) (es : List DictEntry) (ep tk : Nat), run.length = 16 → es ≠ [] → es.length + 17 ≤ sizeLine → (es.map (·.hash) ++ (run ++ [x]).map hs).Nodup →
      Go p w n₀ ann c (f (it pos x) (some A.length, run.map (pr pos))) (stL s (A ++ dO es ep :: R) tk) pos 330 (.yield (some A.length, []))
        (stL s (A ++ dO (es ++ entsL tk (run ++ [x])) (ep + 17) :: (R ++ [dO (entsL tk (run ++ [x])) 17])) (tk + 51)) pos) :
    ∀ (kvs run : List (Int × Str)) (es : List DictEntry) (R : List Obj) (tk : Nat), run.length < 17 → es ≠ [] → es.length + run.length + kvs.length ≤ sizeLine → (es.map (·.hash) ++ (run ++ kvs).map hs).Nodup →
      Go p w n₀ ann c (forIn (kvs.map (it pos)) (some A.length, run.map (pr pos)) f) (stL s (A ++ dO es es.length :: R) tk) pos (cost kvs run.length)
        (some A.length, (fill kvs run es R tk).2.2.2.map (pr pos)) (stL s (A ++ dO (fill kvs run es R tk).1 (fill kvs run es R tk).1.length :: (fill kvs run es R tk).2.1) (fill kvs run es R tk).2.2.1) pos
  | [], run, es, R, tk, _, _, _, _ => Go.pure _
  | x :: r, run, es, R, tk, hr, he, hl, nd => by
    rw [List.map_cons, List.forIn_cons]
    simp only [List.length_cons] at hl
    obtain ⟨n1, n2, n3⟩ := nodup_mid (tk := tk) nd
    cases h16 : Nat.beq run.length 16 with
    | true =>
      have e16 := Nat.eq_of_beq_eq_true h16
      have h1 := hf2 x run R es es.length tk e16 he (by omega) n1
      have h2 := go_loop pos A f hsys hf1 hf2 r [] (es ++ entsL tk (run ++ [x])) (R ++ [dO (entsL tk (run ++ [x])) 17]) (tk + 51) (by simp) (by simp [he]) (by simp [entsL_length]; omega) n2
      have el : (es ++ entsL tk (run ++ [x])).length = es.length + 17 := by simp [entsL_length]; omega
      simp only [fill, cost, h16]
      rw [el] at h2
      exact Go.bind h1 h2
    | false =>
      rw [hf1 x _ run h16]
      have h2 := go_loop pos A f hsys hf1 hf2 r (run ++ [x]) es R tk (by have := Nat.ne_of_beq_eq_false h16; simp; omega) he (by simp; omega) n3
      simp only [fill, cost, h16]
      rw [List.length_append, List.length_cons, List.length_nil, Nat.zero_add] at h2
      exact Go.bp rfl h2
end
end Mine
end
section
open PySem PySem.W PySem.Calls PyProof.Rows
namespace Mine
section
variable {p : Program} {w : World} {n₀ : Nat} {ann : Option Value}
variable {α β : Type} {c : Code} {s s₁ s₂ : Shared} {q q₁ q₂ : Pos} {n m : Nat} {a : α} {b : β}

theorem go_loop0 (pos : Pos) (A : List Obj) (f : (Option (Sem Value) × Sem Value) → (Option Addr × List (Sem Value × Sem Value)) → Sem (ForInStep (Option Addr × List (Sem Value × Sem Value))))
    (hsys : ∀ k : Nat, (A.length + k == sysModules) = false)
    (hf0 : ∀ (x : Int × Str) (run : List (Int × Str)) (tk : Nat), run.length = 16 → ((run ++ [x]).map hs).Nodup →
      Go p w n₀ ann c (f (it pos x) (none, run.map (pr pos))) (stL s A tk) pos 223 (.yield (some A.length, [])) (stL s (A ++ [dO (entsL tk (run ++ [x])) 17]) (tk + 51)) pos)
    (hf1 : ∀ (x : Int × Str) (main : Option Addr) (run : List (Int × Str)), Nat.beq run.length 16 = false → f (it pos x) (main, run.map (pr pos)) = pure (.yield (main, (run ++ [x]).map (pr pos))))
    (hf2 : ∀ (x : Int × Str) (run : List (Int × Str)) (R : List Obj) (es : List DictEntry) (ep tk : Nat), run.length = 16 → es ≠ [] → es.length + 17 ≤ sizeLine → (es.map (·.hash) ++ (run ++ [x]).map hs).Nodup →
      Go p w n₀ ann c (f (it pos x) (some A.length, run.map (pr pos))) (stL s (A ++ dO es ep :: R) tk) pos 330 (.yield (some A.length, []))
        (stL s (A ++ dO (es ++ entsL tk (run ++ [x])) (ep + 17) :: (R ++ [dO (entsL tk (run ++ [x])) 17])) (tk + 51)) pos) :
    ∀ (kvs run : List (Int × Str)) (tk : Nat), run.length < 17 → 17 ≤ run.length + kvs.length → run.length + kvs.length ≤ sizeLine → ((run ++ kvs).map hs).Nodup →
      Go p w n₀ ann c (forIn (kvs.map (it pos)) (none, run.map (pr pos)) f) (stL s A tk) pos (cost0 kvs run.length)
        (some A.length, (fill0 kvs run tk).2.2.2.map (pr pos)) (stL s (A ++ dO (fill0 kvs run tk).1 (fill0 kvs run tk).1.length :: (fill0 kvs run tk).2.1) (fill0 kvs run tk).2.2.1) pos
  | [], run, tk, hr, h17, _, _ => by simp at h17; omega
  | x :: r, run, tk, hr, h17, hl, nd => by
    rw [List.map_cons, List.forIn_cons]
    simp only [List.length_cons] at hl h17
    obtain ⟨n1, n2, n3⟩ := nodup_mid (es := []) (tk := tk) (by simpa using nd)
    cases h16 : Nat.beq run.length 16 with
    | true =>
      have e16 := Nat.eq_of_beq_eq_true h16
      have h1 := hf0 x run tk e16 (by simpa using n1)
      have h2 := go_loop (p := p) (w := w) (n₀ := n₀) (ann := ann) (c := c) (s := s) pos A f hsys hf1 hf2 r [] (entsL tk (run ++ [x])) [] (tk + 51) (by simp) (by intro e; have := congrArg List.length e; simp [entsL_length] at this) (by simp [entsL_length]; omega) (by simpa using n2)
      have el : (entsL tk (run ++ [x])).length = 17 := by simp [entsL_length]; omega
      simp only [fill0, cost0, h16]
      rw [el] at h2
      exact Go.bind h1 h2
    | false =>
      rw [hf1 x _ run h16]
      have h2 := go_loop0 pos A f hsys hf0 hf1 hf2 r (run ++ [x]) tk (by have := Nat.ne_of_beq_eq_false h16; simp; omega) (by simp; omega) (by simp; omega) (by simpa using n3)
      simp only [fill0, cost0, h16]
      rw [List.length_append, List.length_cons, List.length_nil, Nat.zero_add] at h2
      exact Go.bp rfl h2

/-- the entries, the dicts between, and the tokens, when all is done -/
def endEs (kvs : List (Int × Str)) (tk : Nat) : List DictEntry := let r := fill0 kvs [] tk; r.1 ++ entsS r.2.2.1 r.2.2.2
def endR (kvs : List (Int × Str)) (tk : Nat) : List Obj := let r := fill0 kvs [] tk; r.2.1 ++ [dO (entsS r.2.2.1 r.2.2.2) r.2.2.2.length]
def endTk (kvs : List (Int × Str)) (tk : Nat) : Nat := let r := fill0 kvs [] tk; r.2.2.1 + 3 * r.2.2.2.length
def endCost (kvs : List (Int × Str)) (tk : Nat) : Nat := cost0 kvs 0 + (19 * (fill0 kvs [] tk).2.2.2.length + 6)

theorem fill_facts : ∀ (kvs run : List (Int × Str)) (es : List DictEntry) (R : List Obj) (tk : Nat), es ≠ [] →
    (fill kvs run es R tk).1 ≠ [] ∧ (fill kvs run es R tk).1.length + (fill kvs run es R tk).2.2.2.length = es.length + run.length + kvs.length ∧
      (fill kvs run es R tk).1.map (·.hash) ++ (fill kvs run es R tk).2.2.2.map hs = es.map (·.hash) ++ (run ++ kvs).map hs
  | [], run, es, R, tk, he => ⟨he, by simp [fill], by simp [fill]⟩
  | x :: r, run, es, R, tk, he => by
    simp only [fill]
    cases h16 : Nat.beq run.length 16 with
    | true =>
      obtain ⟨a, b, c⟩ := fill_facts r [] (es ++ entsL tk (run ++ [x])) (R ++ [dO (entsL tk (run ++ [x])) 17]) (tk + 51) (by simp [he])
      refine ⟨a, ?_, ?_⟩
      · rw [b]; simp [entsL_length]; omega
      · rw [c, List.map_append, entsL_hash]; simp
    | false =>
      obtain ⟨a, b, c⟩ := fill_facts r (run ++ [x]) es R tk he
      refine ⟨a, ?_, ?_⟩
      · rw [b]; simp; omega
      · rw [c]; simp
theorem fill0_facts : ∀ (kvs run : List (Int × Str)) (tk : Nat), run.length < 17 → 17 ≤ run.length + kvs.length →
    (fill0 kvs run tk).1 ≠ [] ∧ (fill0 kvs run tk).1.length + (fill0 kvs run tk).2.2.2.length = run.length + kvs.length ∧
      (fill0 kvs run tk).1.map (·.hash) ++ (fill0 kvs run tk).2.2.2.map hs = (run ++ kvs).map hs
  | [], run, tk, h, h' => by simp at h'; omega
  | x :: r, run, tk, h, h' => by
    simp only [fill0]
    cases h16 : Nat.beq run.length 16 with
    | true =>
      obtain ⟨a, b, c⟩ := fill_facts r [] (entsL tk (run ++ [x])) [] (tk + 51) (by intro e; have := congrArg List.length e; simp [entsL_length] at this)
      refine ⟨a, ?_, ?_⟩
      · rw [b]; simp [entsL_length]; omega
      · rw [c, entsL_hash]; simp
    | false =>
      obtain ⟨a, b, c⟩ := fill0_facts r (run ++ [x]) tk (by have := Nat.ne_of_beq_eq_false h16; simp; omega) (by simp at h' ⊢; omega)
      refine ⟨a, ?_, ?_⟩
      · rw [b]; simp; omega
      · rw [c]; simp

theorem go_display (pos : Pos) (A : List Obj) (kvs : List (Int × Str)) (tk : Nat) (hn : Nat.ble n₀ A.length = true) (hsys : ∀ k : Nat, (A.length + k == sysModules) = false) (h17 : 17 ≤ kvs.length) (hl : kvs.length ≤ sizeLine) (nd : (kvs.map hs).Nodup)
    (h15 : (fill0 kvs [] tk).2.2.2.length ≤ 15) (h0 : (fill0 kvs [] tk).2.2.2 ≠ []) :
    Go p w n₀ ann c (dictDisplay (kvs.map (it pos))) (stL s A tk) pos (endCost kvs tk) (.ref A.length) (stL s (A ++ dO (endEs kvs tk) (endEs kvs tk).length :: endR kvs tk) (endTk kvs tk)) pos := by
  obtain ⟨f1, f2, f3⟩ := fill0_facts kvs [] tk (by simp) (by simpa using h17)
  unfold dictDisplay
  dsimp only
  refine Go.bind (n := cost0 kvs 0) (go_loop0 pos A _ hsys ?_ ?_ ?_ kvs [] tk (by simp) (by simpa using h17) (by simpa using hl) (by simpa using nd)) ?_
  · intro x run tk h16 nd1
    have e : (run.map (pr pos) ++ [(pr pos x)]) = (run ++ [x]).map (pr pos) := by simp
    have hlen : ((run.map (pr pos) ++ [(pr pos x)]).length == 17) = true := by simp [h16]
    have h1 := go_subL (p := p) (w := w) (n₀ := n₀) (ann := ann) (c := c) (s := s) pos A hn (run ++ [x]) tk (by simp [h16]) (by simp [h16, sizeLine]) nd1
    rw [show (run ++ [x]).length = 17 by simp [h16]] at h1
    dsimp only
    rw [if_pos hlen, if_neg (by simp), e]
    exact Go.cast (Go.bind (n := 223) (m := 0) (Go.cast (Go.bind (n := 223) (m := 0) h1 (Go.pure _)) rfl) (Go.pure _)) rfl
  · intro x main run h16
    have hne := Nat.ne_of_beq_eq_false h16
    have hlen : ¬ ((run.map (pr pos) ++ [(pr pos x)]).length == 17) = true := by simp; omega
    have e : (run.map (pr pos) ++ [(pr pos x)]) = (run ++ [x]).map (pr pos) := by simp
    dsimp only
    rw [if_neg hlen, e]
  · intro x run R es ep tk h16 he hl2 nd2
    have e : (run.map (pr pos) ++ [(pr pos x)]) = (run ++ [x]).map (pr pos) := by simp
    have hlen : ((run.map (pr pos) ++ [(pr pos x)]).length == 17) = true := by simp [h16]
    dsimp only
    rw [if_pos hlen, if_neg (by simp), e]
    exact Go.cast (Go.bind (n := 330) (m := 0) (go_flush pos A R es ep tk (run ++ [x]) _ hn (hsys _) he (by simp [h16]; omega) (by simp [h16]) nd2) (Go.pure _)) rfl
  · dsimp only
    rw [if_neg (by simpa using h0)]
    have h := go_flushLast (p := p) (w := w) (n₀ := n₀) (ann := ann) (c := c) (s := s) pos A (fill0 kvs [] tk).2.1 (fill0 kvs [] tk).1 (fill0 kvs [] tk).1.length (fill0 kvs [] tk).2.2.1 (fill0 kvs [] tk).2.2.2
      (fun x => do let _ ← holding [Value.ref A.length, x] (runValue (.builtin "proto.let_go" {}))) hn (hsys _) f1 (by simp at f2; omega) h15 (by rw [f3]; simpa using nd)
    have el : (endEs kvs tk).length = (fill0 kvs [] tk).1.length + (fill0 kvs [] tk).2.2.2.length := by simp [endEs, entsS_length]
    rw [el]
    exact Go.cast (Go.bind (n := 19 * (fill0 kvs [] tk).2.2.2.length + 6) (m := 0) h (Go.pure _)) (by omega)
end
end Mine
end
section
open PySem PySem.W PyProof.Rows
namespace Mine
abbrev pw : Program := PySem.Challenge.pw_mq0480_01
/-- the text's pairs, read off its display -/
def kvOf : List (Option Expr) → List Expr → List (Int × Str)
  | some (.Constant (.int k) _ _) :: ks, .Constant (.str v) _ _ :: vs => (k, v) :: kvOf ks vs
  | _, _ => []
def okKV : List (Option Expr) → List Expr → Bool
  | some (.Constant (.int _) _ _) :: ks, .Constant (.str _) _ _ :: vs => okKV ks vs
  | [], [] => true
  | _, _ => false
def stAt (i : Nat) : Stmt := (pw.main.body[i]?).getD (.Pass ⟨0, 0, 0, 0⟩)
def dKeysOf : Stmt → List (Option Expr)
  | .Assign _ (.Dict ks _ _) _ => ks
  | _ => []
def dValsOf : Stmt → List Expr
  | .Assign _ (.Dict _ vs _) _ => vs
  | _ => []
def fArgs : Stmt → Arguments
  | .FunctionDef _ a _ _ _ _ _ _ _ _ => a
  | _ => default
def fBody : Stmt → List Stmt
  | .FunctionDef _ _ b _ _ _ _ _ _ _ => b
  | _ => []
def fScope : Stmt → Scope
  | .FunctionDef _ _ _ _ _ _ sc _ _ _ => sc
  | _ => default
def dKeys : List (Option Expr) := dKeysOf (stAt 1)
def dVals : List Expr := dValsOf (stAt 1)
def kvs : List (Int × Str) := kvOf dKeys dVals
def dObj : Obj := dO (endEs kvs 189) 650
abbrev fA2 : Arguments := fArgs (stAt 2)
abbrev fB2 : List Stmt := fBody (stAt 2)
abbrev fS2 : Scope := fScope (stAt 2)
abbrev fA4 : Arguments := fArgs (stAt 4)
abbrev fB4 : List Stmt := fBody (stAt 4)
abbrev fS4 : Scope := fScope (stAt 4)
abbrev fA5 : Arguments := fArgs (stAt 5)
abbrev fB5 : List Stmt := fBody (stAt 5)
abbrev fS5 : Scope := fScope (stAt 5)
abbrev fA6 : Arguments := fArgs (stAt 6)
abbrev fB6 : List Stmt := fBody (stAt 6)
abbrev fS6 : Scope := fScope (stAt 6)
abbrev fA7 : Arguments := fArgs (stAt 7)
abbrev fB7 : List Stmt := fBody (stAt 7)
abbrev fS7 : Scope := fScope (stAt 7)
/-- what the walk is told of the heap behind the top -/
def KF (P : Params) : Frag := by
  apply (fun (A2 : Arguments) (_ : fA2 = A2) (B2 : List Stmt) (_ : fB2 = B2) (S2 : Scope) (_ : fS2 = S2) (A4 : Arguments) (_ : fA4 = A4) (B4 : List Stmt) (_ : fB4 = B4) (S4 : Scope) (_ : fS4 = S4) (A5 : Arguments) (_ : fA5 = A5) (B5 : List Stmt) (_ : fB5 = B5) (S5 : Scope) (_ : fS5 = S5) (A6 : Arguments) (_ : fA6 = A6) (B6 : List Stmt) (_ : fB6 = B6) (S6 : Scope) (_ : fS6 = S6) (A7 : Arguments) (_ : fA7 = A7) (B7 : List Stmt) (_ : fB7 = B7) (S7 : Scope) (_ : fS7 = S7) => ([
    (nat_lit 2, ({ cls := Value.none, data := Data.dict #[] } : Obj)),
    (nat_lit 3, ({ cls := Value.type "dict", data := Data.dict #[{ hash := PyData.keyHash P (Str.ofString "__name__"), key := Value.str (Str.ofString "__name__") 165, val := Value.str (Str.ofString "law_mq0480_01") 2148 }, { hash := PyData.keyHash P (Str.ofString "__doc__"), key := Value.str (Str.ofString "__doc__") 166, val := Value.none }, { hash := PyData.keyHash P (Str.ofString "__package__"), key := Value.str (Str.ofString "__package__") 167, val := Value.none }, { hash := PyData.keyHash P (Str.ofString "__loader__"), key := Value.str (Str.ofString "__loader__") 168, val := Value.builtin "__main__.__loader__#opaque" }, { hash := PyData.keyHash P (Str.ofString "__spec__"), key := Value.str (Str.ofString "__spec__") 169, val := Value.none }, { hash := PyData.keyHash P (Str.ofString "__annotations__"), key := Value.str (Str.ofString "__annotations__") 170, val := Value.ref 6 }, { hash := PyData.keyHash P (Str.ofString "__builtins__"), key := Value.str (Str.ofString "__builtins__") 171, val := Value.ref 4 }, { hash := PyData.keyHash P (Str.ofString "__file__"), key := Value.str (Str.ofString "__file__") 173, val := Value.str (Str.ofString "/claim/cut.py") 172 }, { hash := PyData.keyHash P (Str.ofString "__cached__"), key := Value.str (Str.ofString "__cached__") 174, val := Value.none }, { hash := PyData.keyHash P (Str.ofString "b3_exceptions"), key := Value.str (Str.ofString "b3_exceptions") 2139, val := Value.ref 15 }, { hash := PyData.keyHash P (Str.ofString "map_table_b3"), key := Value.str (Str.ofString "map_table_b3") 2147, val := Value.ref 60 }, { hash := PyData.keyHash P (Str.ofString "_law_runs"), key := Value.str (Str.ofString "_law_runs") 2155, val := Value.ref 67 }, { hash := PyData.keyHash P (Str.ofString "_law_stretches"), key := Value.str (Str.ofString "_law_stretches") 2161, val := Value.ref 74 }, { hash := PyData.keyHash P (Str.ofString "_law_small"), key := Value.str (Str.ofString "_law_small") 2173, val := Value.ref 81 }, { hash := PyData.keyHash P (Str.ofString "law"), key := Value.str (Str.ofString "law") 2179, val := Value.ref 86 }] 15 } : Obj)),
    (nat_lit 6, ({ cls := Value.type "dict", data := Data.dict #[] } : Obj)),
    (nat_lit 15, (dObj : Obj)),
    (nat_lit 54, ({ cls := Value.type "tuple", data := Data.seq #[] } : Obj)),
    (nat_lit 56, ({ cls := Value.type "tuple", data := Data.seq #[Value.str (Str.ofString "code") 2143, Value.str (Str.ofString "r") 2144] } : Obj)),
    (nat_lit 57, ({ cls := Value.type "tuple", data := Data.seq #[] } : Obj)),
    (nat_lit 59, ({ cls := Value.type "code", data := Data.fields #[Value.str (Str.ofString "map_table_b3") 2140, Value.str (Str.ofString "map_table_b3") 2141, Value.str (Str.ofString "/claim/cut.py") 2142, Value.int 3 0, Value.int 1 0, Value.int 0 0, Value.int 0 0, Value.int 3 0, Value.ref 54, Value.bool true, Value.int 181 0, Value.ref 55, Value.none, Value.ref 56, Value.ref 57, Value.ref 58, Value.int 2145 0, Value.int 3 0, Value.str (Str.ofString "/claim/cut.py") 2146] } : Obj)),
    (nat_lit 60, ({ cls := Value.type "function", data := Data.func { name := Str.ofString "map_table_b3", qualname := Str.ofString "map_table_b3", params := A2, body := FuncBody.stmts B2, scope := S2, globals := 3, closure := [], defaults := Value.none, kwdefaults := Value.none, pyModule := Value.str (Str.ofString "cpy313.stringprep") 187, code := Value.ref 59 } } : Obj)),
    (nat_lit 61, ({ cls := Value.type "tuple", data := Data.seq #[] } : Obj)),
    (nat_lit 63, ({ cls := Value.type "tuple", data := Data.seq #[] } : Obj)),
    (nat_lit 64, ({ cls := Value.type "tuple", data := Data.seq #[] } : Obj)),
    (nat_lit 66, ({ cls := Value.type "code", data := Data.fields #[Value.str (Str.ofString "_law_runs") 2150, Value.str (Str.ofString "_law_runs") 2151, Value.str (Str.ofString "/claim/cut.py") 2152, Value.int 9 0, Value.int 0 0, Value.int 0 0, Value.int 0 0, Value.int 3 0, Value.ref 61, Value.bool true, Value.int 181 0, Value.ref 62, Value.none, Value.ref 63, Value.ref 64, Value.ref 65, Value.int 2153 0, Value.int 9 0, Value.str (Str.ofString "/claim/cut.py") 2154] } : Obj)),
    (nat_lit 67, ({ cls := Value.type "function", data := Data.func { name := Str.ofString "_law_runs", qualname := Str.ofString "_law_runs", params := A4, body := FuncBody.stmts B4, scope := S4, globals := 3, closure := [], defaults := Value.none, kwdefaults := Value.none, pyModule := Value.str (Str.ofString "law_mq0480_01") 2148, code := Value.ref 66 } } : Obj)),
    (nat_lit 68, ({ cls := Value.type "tuple", data := Data.seq #[] } : Obj)),
    (nat_lit 70, ({ cls := Value.type "tuple", data := Data.seq #[] } : Obj)),
    (nat_lit 71, ({ cls := Value.type "tuple", data := Data.seq #[] } : Obj)),
    (nat_lit 73, ({ cls := Value.type "code", data := Data.fields #[Value.str (Str.ofString "_law_stretches") 2156, Value.str (Str.ofString "_law_stretches") 2157, Value.str (Str.ofString "/claim/cut.py") 2158, Value.int 11 0, Value.int 0 0, Value.int 0 0, Value.int 0 0, Value.int 3 0, Value.ref 68, Value.bool true, Value.int 181 0, Value.ref 69, Value.none, Value.ref 70, Value.ref 71, Value.ref 72, Value.int 2159 0, Value.int 11 0, Value.str (Str.ofString "/claim/cut.py") 2160] } : Obj)),
    (nat_lit 74, ({ cls := Value.type "function", data := Data.func { name := Str.ofString "_law_stretches", qualname := Str.ofString "_law_stretches", params := A5, body := FuncBody.stmts B5, scope := S5, globals := 3, closure := [], defaults := Value.none, kwdefaults := Value.none, pyModule := Value.str (Str.ofString "law_mq0480_01") 2148, code := Value.ref 73 } } : Obj)),
    (nat_lit 75, ({ cls := Value.type "tuple", data := Data.seq #[] } : Obj)),
    (nat_lit 77, ({ cls := Value.type "tuple", data := Data.seq #[Value.str (Str.ofString "code") 2165, Value.str (Str.ofString "alphabets") 2166, Value.str (Str.ofString "start") 2167, Value.str (Str.ofString "end") 2168, Value.str (Str.ofString "stride") 2169, Value.str (Str.ofString "shift") 2170] } : Obj)),
    (nat_lit 78, ({ cls := Value.type "tuple", data := Data.seq #[] } : Obj)),
    (nat_lit 80, ({ cls := Value.type "code", data := Data.fields #[Value.str (Str.ofString "_law_small") 2162, Value.str (Str.ofString "_law_small") 2163, Value.str (Str.ofString "/claim/cut.py") 2164, Value.int 13 0, Value.int 2 0, Value.int 0 0, Value.int 0 0, Value.int 3 0, Value.ref 75, Value.bool true, Value.int 181 0, Value.ref 76, Value.none, Value.ref 77, Value.ref 78, Value.ref 79, Value.int 2171 0, Value.int 13 0, Value.str (Str.ofString "/claim/cut.py") 2172] } : Obj)),
    (nat_lit 81, ({ cls := Value.type "function", data := Data.func { name := Str.ofString "_law_small", qualname := Str.ofString "_law_small", params := A6, body := FuncBody.stmts B6, scope := S6, globals := 3, closure := [], defaults := Value.none, kwdefaults := Value.none, pyModule := Value.str (Str.ofString "law_mq0480_01") 2148, code := Value.ref 80 } } : Obj)),
    (nat_lit 82, ({ cls := Value.type "tuple", data := Data.seq #[] } : Obj)),
    (nat_lit 85, ({ cls := Value.type "code", data := Data.fields #[Value.str (Str.ofString "law") 2174, Value.str (Str.ofString "law") 2175, Value.str (Str.ofString "/claim/cut.py") 2176, Value.int 18 0, Value.int 1 0, Value.int 0 0, Value.int 0 0, Value.int 3 0, Value.ref 82, Value.bool true, Value.int 181 0, Value.ref 83, Value.none, Value.none, Value.none, Value.ref 84, Value.int 2177 0, Value.int 18 0, Value.str (Str.ofString "/claim/cut.py") 2178] } : Obj)),
    (nat_lit 86, ({ cls := Value.type "function", data := Data.func { name := Str.ofString "law", qualname := Str.ofString "law", params := A7, body := FuncBody.stmts B7, scope := S7, globals := 3, closure := [], defaults := Value.none, kwdefaults := Value.none, pyModule := Value.str (Str.ofString "law_mq0480_01") 2148, code := Value.ref 85 } } : Obj))] : Frag))
  all_goals first
    | (conv => lhs; whnf)
def view : Program := { pw with main := { pw.main with body := (pw.main.body.drop 2).take 1 ++ pw.main.body.drop 4 } }
abbrev loose : List Str := [Str.ofString "b3_exceptions"]
abbrev hk : Hook := kHook KF [nat_lit 2, nat_lit 3, nat_lit 6, nat_lit 15, nat_lit 54, nat_lit 56, nat_lit 57, nat_lit 59, nat_lit 60, nat_lit 61, nat_lit 63, nat_lit 64, nat_lit 66, nat_lit 67, nat_lit 68, nat_lit 70, nat_lit 71, nat_lit 73, nat_lit 74, nat_lit 75, nat_lit 77, nat_lit 78, nat_lit 80, nat_lit 81, nat_lit 82, nat_lit 85, nat_lit 86] (fun _ => by kernel_rfl)
def ob11 (_ : Params) : Obj := { cls := Value.type "tuple", data := Data.seq #[] }
def ob12 (_ : Params) : Obj := { cls := Value.none, data := Data.fields #[] }
def ob13 (_ : Params) : Obj := { cls := Value.type "code", data := Data.fields #[Value.str (Str.ofString "<module>") 182, Value.str (Str.ofString "<module>") 183, Value.str (Str.ofString "/claim/cut.py") 184, Value.int 1 0, Value.int 0 0, Value.int 0 0, Value.int 0 0, Value.int 0 0, Value.ref 11, Value.bool false, Value.int 181 0, Value.ref 12, Value.none, Value.none, Value.none, Value.none, Value.int 185 0, Value.int 1 0, Value.str (Str.ofString "/claim/cut.py") 186] }
def ob14 (_ : Params) : Obj := { cls := Value.type "frame", slots := #[some (Value.ref 13), some (Value.ref 3), some (Value.ref 3), none, some (Value.str (Str.ofString "__main__") 164), none, some (Value.ref 0)] }
def ob3a (P : Params) : Obj := { cls := Value.type "dict", data := Data.dict #[{ hash := PyData.keyHash P (Str.ofString "__name__"), key := Value.str (Str.ofString "__name__") 165, val := Value.str (Str.ofString "cpy313.stringprep") 187 }, { hash := PyData.keyHash P (Str.ofString "__doc__"), key := Value.str (Str.ofString "__doc__") 166, val := Value.none }, { hash := PyData.keyHash P (Str.ofString "__package__"), key := Value.str (Str.ofString "__package__") 167, val := Value.none }, { hash := PyData.keyHash P (Str.ofString "__loader__"), key := Value.str (Str.ofString "__loader__") 168, val := Value.builtin "__main__.__loader__#opaque" }, { hash := PyData.keyHash P (Str.ofString "__spec__"), key := Value.str (Str.ofString "__spec__") 169, val := Value.none }, { hash := PyData.keyHash P (Str.ofString "__annotations__"), key := Value.str (Str.ofString "__annotations__") 170, val := Value.ref 6 }, { hash := PyData.keyHash P (Str.ofString "__builtins__"), key := Value.str (Str.ofString "__builtins__") 171, val := Value.ref 4 }, { hash := PyData.keyHash P (Str.ofString "__file__"), key := Value.str (Str.ofString "__file__") 173, val := Value.str (Str.ofString "/claim/cut.py") 172 }, { hash := PyData.keyHash P (Str.ofString "__cached__"), key := Value.str (Str.ofString "__cached__") 174, val := Value.none }] 9 }
def ob3z (P : Params) : Obj := { cls := Value.type "dict", data := Data.dict #[{ hash := PyData.keyHash P (Str.ofString "__name__"), key := Value.str (Str.ofString "__name__") 165, val := Value.str (Str.ofString "law_mq0480_01") 2148 }, { hash := PyData.keyHash P (Str.ofString "__doc__"), key := Value.str (Str.ofString "__doc__") 166, val := Value.none }, { hash := PyData.keyHash P (Str.ofString "__package__"), key := Value.str (Str.ofString "__package__") 167, val := Value.none }, { hash := PyData.keyHash P (Str.ofString "__loader__"), key := Value.str (Str.ofString "__loader__") 168, val := Value.builtin "__main__.__loader__#opaque" }, { hash := PyData.keyHash P (Str.ofString "__spec__"), key := Value.str (Str.ofString "__spec__") 169, val := Value.none }, { hash := PyData.keyHash P (Str.ofString "__annotations__"), key := Value.str (Str.ofString "__annotations__") 170, val := Value.ref 6 }, { hash := PyData.keyHash P (Str.ofString "__builtins__"), key := Value.str (Str.ofString "__builtins__") 171, val := Value.ref 4 }, { hash := PyData.keyHash P (Str.ofString "__file__"), key := Value.str (Str.ofString "__file__") 173, val := Value.str (Str.ofString "/claim/cut.py") 172 }, { hash := PyData.keyHash P (Str.ofString "__cached__"), key := Value.str (Str.ofString "__cached__") 174, val := Value.none }, { hash := PyData.keyHash P (Str.ofString "b3_exceptions"), key := Value.str (Str.ofString "b3_exceptions") 2139, val := Value.ref 15 }, { hash := PyData.keyHash P (Str.ofString "map_table_b3"), key := Value.str (Str.ofString "map_table_b3") 2147, val := Value.ref 60 }, { hash := PyData.keyHash P (Str.ofString "_law_runs"), key := Value.str (Str.ofString "_law_runs") 2155, val := Value.ref 67 }, { hash := PyData.keyHash P (Str.ofString "_law_stretches"), key := Value.str (Str.ofString "_law_stretches") 2161, val := Value.ref 74 }, { hash := PyData.keyHash P (Str.ofString "_law_small"), key := Value.str (Str.ofString "_law_small") 2173, val := Value.ref 81 }, { hash := PyData.keyHash P (Str.ofString "law"), key := Value.str (Str.ofString "law") 2179, val := Value.ref 86 }] 15 }
def ob12z (_ : Params) : Obj := { cls := Value.none, data := Data.fields #[Value.int 3 0, Value.int 0 0, Value.ref 59, Value.int 9 0, Value.int 0 0, Value.ref 66, Value.int 11 0, Value.int 0 0, Value.ref 73, Value.int 13 0, Value.int 0 0, Value.ref 80, Value.int 18 0, Value.int 0 0, Value.ref 85] }
def ob54z (_ : Params) : Obj := { cls := Value.type "tuple", data := Data.seq #[] }
def ob55z (_ : Params) : Obj := { cls := Value.none, data := Data.fields #[] }
def ob56z (_ : Params) : Obj := { cls := Value.type "tuple", data := Data.seq #[Value.str (Str.ofString "code") 2143, Value.str (Str.ofString "r") 2144] }
def ob57z (_ : Params) : Obj := { cls := Value.type "tuple", data := Data.seq #[] }
def ob58z (_ : Params) : Obj := { cls := Value.none, data := Data.func { name := Str.ofString "map_table_b3", qualname := Str.ofString "map_table_b3", params := fA2, body := FuncBody.stmts fB2, scope := fS2, globals := 0, closure := [], defaults := Value.none, kwdefaults := Value.none } }
def ob59z (_ : Params) : Obj := { cls := Value.type "code", data := Data.fields #[Value.str (Str.ofString "map_table_b3") 2140, Value.str (Str.ofString "map_table_b3") 2141, Value.str (Str.ofString "/claim/cut.py") 2142, Value.int 3 0, Value.int 1 0, Value.int 0 0, Value.int 0 0, Value.int 3 0, Value.ref 54, Value.bool true, Value.int 181 0, Value.ref 55, Value.none, Value.ref 56, Value.ref 57, Value.ref 58, Value.int 2145 0, Value.int 3 0, Value.str (Str.ofString "/claim/cut.py") 2146] }
def ob60z (_ : Params) : Obj := { cls := Value.type "function", data := Data.func { name := Str.ofString "map_table_b3", qualname := Str.ofString "map_table_b3", params := fA2, body := FuncBody.stmts fB2, scope := fS2, globals := 3, closure := [], defaults := Value.none, kwdefaults := Value.none, pyModule := Value.str (Str.ofString "cpy313.stringprep") 187, code := Value.ref 59 } }
def ob61z (_ : Params) : Obj := { cls := Value.type "tuple", data := Data.seq #[] }
def ob62z (_ : Params) : Obj := { cls := Value.none, data := Data.fields #[] }
def ob63z (_ : Params) : Obj := { cls := Value.type "tuple", data := Data.seq #[] }
def ob64z (_ : Params) : Obj := { cls := Value.type "tuple", data := Data.seq #[] }
def ob65z (_ : Params) : Obj := { cls := Value.none, data := Data.func { name := Str.ofString "_law_runs", qualname := Str.ofString "_law_runs", params := fA4, body := FuncBody.stmts fB4, scope := fS4, globals := 0, closure := [], defaults := Value.none, kwdefaults := Value.none } }
def ob66z (_ : Params) : Obj := { cls := Value.type "code", data := Data.fields #[Value.str (Str.ofString "_law_runs") 2150, Value.str (Str.ofString "_law_runs") 2151, Value.str (Str.ofString "/claim/cut.py") 2152, Value.int 9 0, Value.int 0 0, Value.int 0 0, Value.int 0 0, Value.int 3 0, Value.ref 61, Value.bool true, Value.int 181 0, Value.ref 62, Value.none, Value.ref 63, Value.ref 64, Value.ref 65, Value.int 2153 0, Value.int 9 0, Value.str (Str.ofString "/claim/cut.py") 2154] }
def ob67z (_ : Params) : Obj := { cls := Value.type "function", data := Data.func { name := Str.ofString "_law_runs", qualname := Str.ofString "_law_runs", params := fA4, body := FuncBody.stmts fB4, scope := fS4, globals := 3, closure := [], defaults := Value.none, kwdefaults := Value.none, pyModule := Value.str (Str.ofString "law_mq0480_01") 2148, code := Value.ref 66 } }
def ob68z (_ : Params) : Obj := { cls := Value.type "tuple", data := Data.seq #[] }
def ob69z (_ : Params) : Obj := { cls := Value.none, data := Data.fields #[] }
def ob70z (_ : Params) : Obj := { cls := Value.type "tuple", data := Data.seq #[] }
def ob71z (_ : Params) : Obj := { cls := Value.type "tuple", data := Data.seq #[] }
def ob72z (_ : Params) : Obj := { cls := Value.none, data := Data.func { name := Str.ofString "_law_stretches", qualname := Str.ofString "_law_stretches", params := fA5, body := FuncBody.stmts fB5, scope := fS5, globals := 0, closure := [], defaults := Value.none, kwdefaults := Value.none } }
def ob73z (_ : Params) : Obj := { cls := Value.type "code", data := Data.fields #[Value.str (Str.ofString "_law_stretches") 2156, Value.str (Str.ofString "_law_stretches") 2157, Value.str (Str.ofString "/claim/cut.py") 2158, Value.int 11 0, Value.int 0 0, Value.int 0 0, Value.int 0 0, Value.int 3 0, Value.ref 68, Value.bool true, Value.int 181 0, Value.ref 69, Value.none, Value.ref 70, Value.ref 71, Value.ref 72, Value.int 2159 0, Value.int 11 0, Value.str (Str.ofString "/claim/cut.py") 2160] }
def ob74z (_ : Params) : Obj := { cls := Value.type "function", data := Data.func { name := Str.ofString "_law_stretches", qualname := Str.ofString "_law_stretches", params := fA5, body := FuncBody.stmts fB5, scope := fS5, globals := 3, closure := [], defaults := Value.none, kwdefaults := Value.none, pyModule := Value.str (Str.ofString "law_mq0480_01") 2148, code := Value.ref 73 } }
def ob75z (_ : Params) : Obj := { cls := Value.type "tuple", data := Data.seq #[] }
def ob76z (_ : Params) : Obj := { cls := Value.none, data := Data.fields #[] }
def ob77z (_ : Params) : Obj := { cls := Value.type "tuple", data := Data.seq #[Value.str (Str.ofString "code") 2165, Value.str (Str.ofString "alphabets") 2166, Value.str (Str.ofString "start") 2167, Value.str (Str.ofString "end") 2168, Value.str (Str.ofString "stride") 2169, Value.str (Str.ofString "shift") 2170] }
def ob78z (_ : Params) : Obj := { cls := Value.type "tuple", data := Data.seq #[] }
def ob79z (_ : Params) : Obj := { cls := Value.none, data := Data.func { name := Str.ofString "_law_small", qualname := Str.ofString "_law_small", params := fA6, body := FuncBody.stmts fB6, scope := fS6, globals := 0, closure := [], defaults := Value.none, kwdefaults := Value.none } }
def ob80z (_ : Params) : Obj := { cls := Value.type "code", data := Data.fields #[Value.str (Str.ofString "_law_small") 2162, Value.str (Str.ofString "_law_small") 2163, Value.str (Str.ofString "/claim/cut.py") 2164, Value.int 13 0, Value.int 2 0, Value.int 0 0, Value.int 0 0, Value.int 3 0, Value.ref 75, Value.bool true, Value.int 181 0, Value.ref 76, Value.none, Value.ref 77, Value.ref 78, Value.ref 79, Value.int 2171 0, Value.int 13 0, Value.str (Str.ofString "/claim/cut.py") 2172] }
def ob81z (_ : Params) : Obj := { cls := Value.type "function", data := Data.func { name := Str.ofString "_law_small", qualname := Str.ofString "_law_small", params := fA6, body := FuncBody.stmts fB6, scope := fS6, globals := 3, closure := [], defaults := Value.none, kwdefaults := Value.none, pyModule := Value.str (Str.ofString "law_mq0480_01") 2148, code := Value.ref 80 } }
def ob82z (_ : Params) : Obj := { cls := Value.type "tuple", data := Data.seq #[] }
def ob83z (_ : Params) : Obj := { cls := Value.none, data := Data.fields #[] }
def ob84z (_ : Params) : Obj := { cls := Value.none, data := Data.func { name := Str.ofString "law", qualname := Str.ofString "law", params := fA7, body := FuncBody.stmts fB7, scope := fS7, globals := 0, closure := [], defaults := Value.none, kwdefaults := Value.none } }
def ob85z (_ : Params) : Obj := { cls := Value.type "code", data := Data.fields #[Value.str (Str.ofString "law") 2174, Value.str (Str.ofString "law") 2175, Value.str (Str.ofString "/claim/cut.py") 2176, Value.int 18 0, Value.int 1 0, Value.int 0 0, Value.int 0 0, Value.int 3 0, Value.ref 82, Value.bool true, Value.int 181 0, Value.ref 83, Value.none, Value.none, Value.none, Value.ref 84, Value.int 2177 0, Value.int 18 0, Value.str (Str.ofString "/claim/cut.py") 2178] }
def ob86z (_ : Params) : Obj := { cls := Value.type "function", data := Data.func { name := Str.ofString "law", qualname := Str.ofString "law", params := fA7, body := FuncBody.stmts fB7, scope := fS7, globals := 3, closure := [], defaults := Value.none, kwdefaults := Value.none, pyModule := Value.str (Str.ofString "law_mq0480_01") 2148, code := Value.ref 85 } }
end Mine
end
section
open PySem PySem.W PySem.Calls PyProof.Rows
namespace Mine
section
variable {p : Program} {w : World} {n₀ : Nat} {ann : Option Value} {c : Code} {s : Shared} {q : Pos}

theorem items_eq (env : Env) (pos : Pos) : ∀ (keys : List (Option Expr)) (vals : List Expr), okKV keys vals = true →
    (evalEachOpt keys env).zip ((evalEach vals env).map fun v => do let x ← v; standAt pos; pure x) = (kvOf keys vals).map (it pos)
  | [], [], _ => rfl
  | some (.Constant (.int k) _ _) :: ks, .Constant (.str v) _ _ :: vs, h => by
    have ih := items_eq env pos ks vs h
    show (some (mkInt k), (do let x ← mkText v; standAt pos; pure x)) :: (evalEachOpt ks env).zip ((evalEach vs env).map fun v => do let x ← v; standAt pos; pure x) = _
    rw [ih]
    rfl

theorem go_evalDict (env : Env) (keys : List (Option Expr)) (vals : List Expr) (pos : Pos) (A : List Obj) (tk : Nat) (hok : okKV keys vals = true) (hn : Nat.ble n₀ A.length = true) (hsys : ∀ k : Nat, (A.length + k == sysModules) = false)
    (h17 : 17 ≤ (kvOf keys vals).length) (hl : (kvOf keys vals).length ≤ sizeLine) (nd : ((kvOf keys vals).map hs).Nodup) (h15 : (fill0 (kvOf keys vals) [] tk).2.2.2.length ≤ 15) (h0 : (fill0 (kvOf keys vals) [] tk).2.2.2 ≠ []) :
    Go p w n₀ ann c (eval (.Dict keys vals pos) env) (stL s A tk) q (1 + endCost (kvOf keys vals) tk) (.ref A.length)
      (stL s (A ++ dO (endEs (kvOf keys vals) tk) (endEs (kvOf keys vals) tk).length :: endR (kvOf keys vals) tk) (endTk (kvOf keys vals) tk)) pos := by
  rw [arm_eval_Dict, items_eq env pos keys vals hok]
  exact Go.bind (Go.stand (Go.pure ())) (go_display pos A (kvOf keys vals) tk hn hsys h17 hl nd h15 h0)
end

/-- keys that climb, from lo on, below 2^60 -/
def climbs : Int → List (Int × Str) → Bool
  | _, [] => true
  | lo, x :: r => decide (lo < x.1) && decide (x.1 < 1152921504606846976) && climbs x.1 r
theorem hash_small {k : Int} (h0 : 0 ≤ k) (h1 : k < 1152921504606846976) : hashInt k = k := by
  have e : rawHash k = k := by
    unfold rawHash
    have hk : ((k.natAbs : Nat) : Int) = k := by omega
    have hm : (((k.natAbs : Nat) : Int) % ((2 ^ 61 - 1 : Nat) : Int)) = k := by
      rw [hk]
      exact Int.emod_eq_of_lt h0 (by have : ((2 ^ 61 - 1 : Nat) : Int) = 2305843009213693951 := by decide
                                     omega)
    simp only [hm]
    rw [if_neg (by omega : ¬ k < 0), if_neg (by simp; omega)]
  unfold hashInt
  rw [e, if_neg (by simp; omega)]
theorem climbs_lt : ∀ (l : List (Int × Str)) (lo : Int), climbs lo l = true → ∀ x ∈ l, lo < x.1 ∧ x.1 < 1152921504606846976
  | [], _, _, x, hx => by simp at hx
  | y :: r, lo, h, x, hx => by
    simp only [climbs, Bool.and_eq_true, decide_eq_true_eq] at h
    rcases List.mem_cons.mp hx with rfl | hx
    · exact ⟨h.1.1, h.1.2⟩
    · have := climbs_lt r y.1 h.2 x hx
      exact ⟨by omega, this.2⟩
theorem climbs_nodup : ∀ (l : List (Int × Str)) (lo : Int), 0 ≤ lo → climbs lo l = true → (l.map hs).Nodup
  | [], _, _, _ => by simp
  | y :: r, lo, h0, h => by
    have h' := h
    simp only [climbs, Bool.and_eq_true, decide_eq_true_eq] at h'
    rw [List.map_cons, List.nodup_cons]
    refine ⟨?_, climbs_nodup r y.1 (by omega) h'.2⟩
    intro hm
    obtain ⟨x, hx, he⟩ := List.mem_map.mp hm
    have := climbs_lt r y.1 h'.2 x hx
    unfold hs at he
    rw [hash_small (by omega) this.2, hash_small (by omega) h'.1.2] at he
    omega

theorem ok_pairs : okKV dKeys dVals = true := by decide +kernel
theorem kvs_climb : climbs 0 kvs = true := by decide +kernel
theorem kvs_len : kvs.length = 650 := by decide +kernel
theorem last_len : (fill0 kvs [] 189).2.2.2.length = 4 := by decide +kernel
theorem end_tk : endTk kvs 189 = 2139 := by decide +kernel
end Mine
end
section
open PySem PySem.W PySem.Calls PyProof.Rows
namespace Mine
abbrev ann0 : Option Value := some (.ref 6)
abbrev envT : Env := { scope := pw.main.scope, locals := mainNs, globals := mainNs, cells := [], code := .ref 13, frame := some 14 }
abbrev q0 : Pos := ⟨0, 0, 0, 0⟩
abbrev cE : Code := .body (behindTheImports pw) envT
noncomputable def AL0 (P : Params) : List Obj := [boot_o_0 P, boot_o_1 P, boot_o_2 P, boot_o_3 P, boot_o_4 P, boot_o_5 P, boot_o_6 P, boot_o_7 P, boot_o_8 P, boot_o_9 P, boot_o_10 P, ob11 P, ob12 P, ob13 P, ob14 P]
noncomputable def AL1 (P : Params) : List Obj := [boot_o_0 P, boot_o_1 P, boot_o_2 P, ob3a P, boot_o_4 P, boot_o_5 P, boot_o_6 P, boot_o_7 P, boot_o_8 P, boot_o_9 P, boot_o_10 P, ob11 P, ob12 P, ob13 P, ob14 P]
noncomputable def ALZ (P : Params) : List Obj := [boot_o_0 P, boot_o_1 P, boot_o_2 P, ob3z P, boot_o_4 P, boot_o_5 P, boot_o_6 P, boot_o_7 P, boot_o_8 P, boot_o_9 P, boot_o_10 P, ob11 P, ob12z P, ob13 P, ob14 P] ++ dObj :: (endR kvs 189 ++ [ob54z P, ob55z P, ob56z P, ob57z P, ob58z P, ob59z P, ob60z P, ob61z P, ob62z P, ob63z P, ob64z P, ob65z P, ob66z P, ob67z P, ob68z P, ob69z P, ob70z P, ob71z P, ob72z P, ob73z P, ob74z P, ob75z P, ob76z P, ob77z P, ob78z P, ob79z P, ob80z P, ob81z P, ob82z P, ob83z P, ob84z P, ob85z P, ob86z P])
abbrev gs0 : Array GenState := Array.mk []
noncomputable abbrev S0 (w : World) (os : OsState) : Shared := ⟨boot_heap w.params, gs0, boot_drawn, boot_toks, os⟩
noncomputable abbrev Sa (w : World) (os : OsState) : Shared := ⟨⟨⟨AL0 w.params⟩, {}⟩, gs0, boot_drawn, 187, os⟩
noncomputable abbrev S1 (w : World) (os : OsState) : Shared := ⟨⟨⟨AL1 w.params⟩, {}⟩, gs0, boot_drawn, 189, os⟩
noncomputable def HZ (P : Params) : Heap := ⟨⟨ALZ P⟩, {}⟩
noncomputable abbrev SZ (w : World) (os : OsState) : Shared := ⟨HZ w.params, gs0, boot_drawn, 2180, os⟩
def rest6 : List Stmt := pw.main.body.drop 2

theorem run_pre (w : World) (os : OsState) : topGo treeTable pw w 11 ann0 12 (S0 w os) (topStub pw) = some (Sa w os, ⟨denote treeTable cE, cE, q0, [topFrame q0]⟩) := by
  rw [PySem.W.Fast.te15667345088766844465, PySem.W.Fast.te11892475500146522536, PySem.W.Fast.te14364793385576792824]
  kernel_rfl
theorem run_block (w : World) (os : OsState) : segRun treeTable pw w 11 ann0 1 1 (Sa w os) (blockOf (behindTheImports pw) envT cE q0 [topFrame q0]) = some (.next, Sa w os, cE, q0) := by
  unfold blockOf
  rw [PySem.W.Fast.te14374325043358763698, PySem.W.Fast.te14364793385576792824, PySem.W.Fast.te1066825118222455980]
  kernel_rfl
theorem run_first (w : World) (os : OsState) : segRun treeTable pw w 11 ann0 1 10 (Sa w os) (piecesOf [stAt 0] envT cE q0 [topFrame q0]) = some (.next, S1 w os, cE, ⟨1, 0, 1, 8⟩) := by
  unfold piecesOf
  rw [PySem.W.Fast.te14374325043358763698, PySem.W.Fast.te14364793385576792824, PySem.W.Fast.te12563942051412417395]
  kernel_rfl
end Mine
end
section
open PySem PySem.W PySem.Calls PyProof.Rows
namespace Mine
theorem Go.app {p : Program} {w : World} {n₀ : Nat} {ann : Option Value} {α β : Type} {c : Code} {s s₁ : Shared} {q q₁ : Pos} {n : Nat} {a : α} {x : Sem α} {f : α → Sem β} (h : Go p w n₀ ann c x s q n a s₁ q₁)
    {K : β → Sem Fin} {H : Value → Sem Fin} {gd : Bool → Bool} {lv : List Value → List Value} {B : List Frame} {N : Nat} {r : Shared}
    (k : topRun treeTable p w n₀ ann N s₁ ⟨(f a).wrap K H gd lv, c, q₁, B⟩ = some r) : topRun treeTable p w n₀ ann (n + N) s ⟨(x >>= f).wrap K H gd lv, c, q, B⟩ = some r := by
  rw [Sem.bind_eq_wrap', Sem.wrap_wrap]
  exact h _ _ _ _ _ _ _ k

noncomputable abbrev S2 (w : World) (os : OsState) : Shared := stL (S1 w os) (AL1 w.params ++ dO (endEs kvs 189) (endEs kvs 189).length :: endR kvs 189) (endTk kvs 189)
abbrev xB3 : Str := Str.ofString "b3_exceptions"
theorem body_eq : behindTheImports pw = [stAt 0] ++ (stAt 1 :: rest6) := by kernel_rfl
theorem st1_eq : stAt 1 = .Assign [.Name xB3 ⟨2, 0, 2, 13⟩] (.Dict dKeys dVals ⟨2, 16, 2, 8704⟩) ⟨2, 0, 2, 8704⟩ := by kernel_rfl

theorem run_last (w : World) (os : OsState) : topRun treeTable pw w 11 ann0 400 (S2 w os)
    ⟨(do standAt ⟨2, 0, 2, 13⟩; bindName envT xB3 (.ref 15); pure Flow.next : Sem Flow).wrap (fun f => match f with | .next => (execs rest6 envT).wrap doneF (leaveH envT) id id | f => doneF f) (leaveH envT) id id,
      cE, ⟨2, 16, 2, 8704⟩, [topFrame q0]⟩ = some (SZ w os) := by
  unfold leaveH
  rw [PySem.W.Fast.te14082659384304107361, PySem.W.Fast.te14364793385576792824, PySem.W.Fast.te12563942051412417395, PySem.W.Fast.te9442747609961115081, PySem.W.Fast.te7536695828754713326]
  kernel_rfl
end Mine
end
section
open PySem PySem.W PySem.Calls PyProof.Rows
namespace Mine
theorem AL1_len (P : Params) : (AL1 P).length = 15 := rfl
theorem sys_off (P : Params) (k : Nat) : ((AL1 P).length + k == sysModules) = false := by
  rw [AL1_len]
  have h : sysModules ≤ 14 := by decide
  simp only [beq_eq_false_iff_ne, ne_eq]
  intro e
  rw [← e] at h
  exact absurd (Nat.le_trans (Nat.le_add_right 15 k) h) (by decide)
theorem last_ne : (fill0 kvs [] 189).2.2.2 ≠ [] := by
  intro e
  have := last_len
  rw [e] at this
  simp at this

abbrev mD : Nat := 1 + ((1 + endCost kvs 189) + 400)
theorem run_dict (w : World) (os : OsState) : topRun treeTable pw w 11 ann0 mD (S1 w os) (restOf (stAt 1 :: rest6) envT cE ⟨1, 0, 1, 8⟩ [topFrame q0]) = some (SZ w os) := by
  unfold restOf
  rw [execs_cons_wrap, st1_eq, exec_Assign_Name _ _ _ _ _ rfl]
  refine Go.app (n := 1) (Go.stand (Go.pure ())) ?_
  refine Go.app (n := 1 + endCost kvs 189) (go_evalDict (s := S1 w os) envT dKeys dVals ⟨2, 16, 2, 8704⟩ (AL1 w.params) 189 ok_pairs (by rw [AL1_len]; rfl) (sys_off _) ?_ ?_ ?_ ?_ last_ne) (run_last w os)
  · have := kvs_len; unfold kvs at this; omega
  · have := kvs_len; unfold kvs at this; rw [this]; decide
  · exact climbs_nodup kvs 0 (by omega) kvs_climb
  · have := last_len; unfold kvs at this; omega
abbrev mAll : Nat := 12 + (1 + (10 + mD))
theorem run_all (w : World) (os : OsState) : topRun treeTable pw w 11 ann0 mAll (S0 w os) (topStub pw) = some (SZ w os) := by
  refine go_top (run_pre w os) (piece_block (run_block w os) ?_)
  rw [body_eq]
  refine piece_app (n := 10) (l := [stAt 0]) ?_ (run_dict w os)
  exact run_first w os
end Mine
end
section
open PySem PySem.W PySem.Calls PyProof.Rows
namespace Mine
abbrev XtF : Shared → Bool := fun s => xlAt view [] s && recOk (RowW.records PySem.Challenge.rw_mq0480_01.row.toRowW) s
theorem open_eq : opening pw = plainProg pw.main.scope.names := by kernel_rfl
theorem fence_eq (s : Shared) : fenceModules? pw s = some s := by kernel_rfl
theorem size_ok (w : World) : ((boot_heap w.params).isNs mainGlobals && gs0.size == 0, (boot_heap w.params).objs.size, (boot_heap w.params).nsMap mainGlobals "__annotations__") = (true, 11, ann0) := by kernel_rfl
theorem all_le : Nat.ble mAll 25502 = true := by decide +kernel
theorem look1 (w : World) (os : OsState) : (staticsOk (importedModules pw.main.body) (boot_heap w.params) (HZ w.params) && namesBound pw (HZ w.params) && gensDone (SZ w os) && laidKept (boot_heap w.params) (HZ w.params)) = true := by kernel_rfl
theorem look3 (w : World) (os : OsState) : Hook.obs hk (SZ w os) = Hook.val hk w := by kernel_rfl
end Mine
end
section
open PySem PySem.W PySem.Calls PyProof.Rows
namespace Mine
theorem look2 (w : World) (os : OsState) : openSeen view loose (importedModules pw.main.body) XtF true (SZ w os) = openGood view loose := by
  rw [PySem.W.Fast.te4187177175401517315]
  kernel_rfl
theorem left : LeftO pw view loose XtF (Hook.obs hk) (Hook.val hk) 25502 :=
  LeftO.of_pieces (H₀ := boot_heap) (H₁ := HZ) (gs₀ := gs0) (gs₁ := gs0) (d₀ := boot_drawn) (d₁ := boot_drawn) (k₀ := boot_toks) (k₁ := 2180) (m₀ := 11) (ann := ann0) (M := mAll)
    (boot_open open_eq (by rfl) fence_eq) size_ok run_all all_le (fun w => funext fun os => looks_pair (look1 w os) (looks_pair (look2 w os) (look3 w os)))
end Mine
end
section
open PySem PySem.W PySem.Calls PyProof.Rows PyProof.V
namespace Mine
def EntOf (e : DictEntry) (x : Int × Str) : Prop := ∃ t t', e = ⟨hs x, .int x.1 t, .str x.2 t'⟩
inductive EntsOf : List DictEntry → List (Int × Str) → Prop
  | nil : EntsOf [] []
  | cons {e : DictEntry} {x : Int × Str} {es : List DictEntry} {l : List (Int × Str)} : EntOf e x → EntsOf es l → EntsOf (e :: es) (x :: l)
theorem entsL_of : ∀ (l : List (Int × Str)) (tk : Nat), EntsOf (entsL tk l) l
  | [], _ => .nil
  | _ :: r, tk => .cons ⟨_, _, rfl⟩ (entsL_of r _)
theorem entsS_of : ∀ (l : List (Int × Str)) (tk : Nat), EntsOf (entsS tk l) l
  | [], _ => .nil
  | _ :: r, tk => .cons ⟨_, _, rfl⟩ (entsS_of r _)
theorem f2_app {a₁ a₂ : List DictEntry} {b₁ b₂ : List (Int × Str)} (h1 : EntsOf a₁ b₁) (h2 : EntsOf a₂ b₂) : EntsOf (a₁ ++ a₂) (b₁ ++ b₂) := by
  induction h1 with
  | nil => exact h2
  | cons h _ ih => exact .cons h ih
theorem fill_of : ∀ (k run : List (Int × Str)) (es : List DictEntry) (R : List Obj) (tk : Nat) (l : List (Int × Str)), EntsOf es l → ∃ l', EntsOf (fill k run es R tk).1 l' ∧ l' ++ (fill k run es R tk).2.2.2 = l ++ (run ++ k)
  | [], run, es, R, tk, l, h => ⟨l, h, by simp [fill]⟩
  | x :: r, run, es, R, tk, l, h => by
    simp only [fill]
    cases h16 : Nat.beq run.length 16 with
    | true =>
      obtain ⟨l', a, b⟩ := fill_of r [] (es ++ entsL tk (run ++ [x])) (R ++ [dO (entsL tk (run ++ [x])) 17]) (tk + 51) (l ++ (run ++ [x])) (f2_app h (entsL_of _ _))
      exact ⟨l', a, by rw [b]; simp⟩
    | false =>
      obtain ⟨l', a, b⟩ := fill_of r (run ++ [x]) es R tk l h
      exact ⟨l', a, by rw [b]; simp⟩
theorem fill0_of : ∀ (k run : List (Int × Str)) (tk : Nat), ∃ l', EntsOf (fill0 k run tk).1 l' ∧ l' ++ (fill0 k run tk).2.2.2 = run ++ k
  | [], run, tk => ⟨[], .nil, by simp [fill0]⟩
  | x :: r, run, tk => by
    simp only [fill0]
    cases h16 : Nat.beq run.length 16 with
    | true =>
      obtain ⟨l', a, b⟩ := fill_of r [] (entsL tk (run ++ [x])) [] (tk + 51) (run ++ [x]) (entsL_of _ _)
      exact ⟨l', a, by rw [b]; simp⟩
    | false =>
      obtain ⟨l', a, b⟩ := fill0_of r (run ++ [x]) tk
      exact ⟨l', a, by rw [b]; simp⟩
theorem endEs_of (k : List (Int × Str)) (tk : Nat) : EntsOf (endEs k tk) k := by
  obtain ⟨l', a, b⟩ := fill0_of k [] tk
  have := f2_app a (entsS_of (fill0 k [] tk).2.2.2 (fill0 k [] tk).2.2.1)
  rw [b, List.nil_append] at this
  exact this

theorem ents_pairs (prog : Program) (w : World) {es : List DictEntry} {l : List (Int × Str)} (h : EntsOf es l) :
    ∃ kv : List (Int × Value), Pairs (intKind prog w) es kv ∧ FlatPairs PyData.int kv ((l.map fun x => (x.1, PyData.str x.2)).map fun p => (PyData.int p.1, p.2)) ∧ kv.map (·.1) = l.map (·.1) := by
  induction h with
  | nil => exact ⟨[], .nil, .nil, rfl⟩
  | @cons e x es l he _ ih =>
    obtain ⟨kv, a, b, c⟩ := ih
    obtain ⟨t, t', rfl⟩ := he
    exact ⟨(x.1, .str x.2 t') :: kv, .cons (by simp [intKind, Value.isInt]) rfl a, .cons (Flat.str _ _) b, by simp [c]⟩
theorem ents_keys (prog : Program) (w : World) {es : List DictEntry} {l : List (Int × Str)} (h : EntsOf es l) : ∀ e ∈ es, ∃ k, (intKind prog w).is k e.key = true ∧ e.hash = (intKind prog w).hash k := by
  induction h with
  | nil => intro e he; simp at he
  | @cons e x es l he _ ih =>
    intro e' he'
    rcases List.mem_cons.mp he' with rfl | he'
    · obtain ⟨t, t', rfl⟩ := he
      exact ⟨x.1, by simp [intKind, Value.isInt], rfl⟩
    · exact ih e' he'
theorem climbs_keys : ∀ (l : List (Int × Str)) (lo : Int), climbs lo l = true → (l.map (·.1)).Nodup
  | [], _, _ => by simp
  | y :: r, lo, h => by
    have h' := h
    simp only [climbs, Bool.and_eq_true, decide_eq_true_eq] at h'
    rw [List.map_cons, List.nodup_cons]
    refine ⟨?_, climbs_keys r y.1 h'.2⟩
    intro hm
    obtain ⟨x, hx, he⟩ := List.mem_map.mp hm
    have := climbs_lt r y.1 h'.2 x hx
    omega
/-- the table, as the dict rules want it -/
def tabD : List (Int × PyData) := kvs.map fun x => (x.1, PyData.str x.2)
theorem tab_keyed {h : Heap} (ho : h.get? 15 = some dObj) : KTD.Keyed h 15 tabD := by
  intro prog w
  obtain ⟨kv, a, b, c⟩ := ents_pairs prog w (endEs_of kvs 189)
  refine ⟨by decide, kv, ⟨dObj, ⟨endEs kvs 189⟩, 650, ho, ⟨rfl, rfl, rfl⟩, rfl, ?_, a, ?_⟩, b⟩
  · intro e he
    exact ents_keys prog w (endEs_of kvs 189) e (by simpa using he)
  · rw [c]; exact climbs_keys kvs 0 kvs_climb
end Mine
end
section
open PySem PySem.W PySem.Calls PyProof.Rows PyProof.V
namespace Mine
def look (k : Int) : List (Int × Str) → Option Str
  | [] => none
  | x :: r => if k = x.1 then some x.2 else look k r
def mapF (cp : Nat) : Str := match look cp kvs with
  | some x => x
  | none => Txt.lower ⟨#[cp]⟩
theorem mapF_some {cp : Nat} {x : Str} (h : look cp kvs = some x) : mapF cp = x := by unfold mapF; rw [h]
theorem mapF_none {cp : Nat} (h : look cp kvs = none) : mapF cp = Txt.lower ⟨#[cp]⟩ := by unfold mapF; rw [h]
theorem datum_look (k : Int) : ∀ l : List (Int × Str), KTD.datumAt k (l.map fun x => (x.1, PyData.str x.2)) = (look k l).map PyData.str
  | [] => rfl
  | x :: r => by
    show (if decide (k = x.1) = true then some (PyData.str x.2) else KTD.datumAt k (r.map fun x => (x.1, PyData.str x.2))) = _
    rw [datum_look k r]
    show _ = Option.map PyData.str (if k = x.1 then some x.2 else look k r)
    by_cases h : k = x.1 <;> simp [h]
section
variable {prog : Program} {w : World} {A : Around} {E : Value → Shared → Prop} {s : Shared}
theorem tab_get {k : Int} {tk : Tok} {Q : Value → Shared → Prop} (ho : s.heap.get? 15 = some dObj)
    (h : ∀ v, ((v = .none ∧ look k kvs = none) ∨ ∃ x t, v = .str x t ∧ look k kvs = some x) → Q v { s with toks := s.toks + 1 }) :
    wpAny (model prog w) A (call (.builtin "dict.get") [.ref 15, .int k tk]) Q E s :=
  call_get1_intTab (tab_keyed ho prog w) fun v hv => by
    rw [KTD.lookup_keyed, tabD, datum_look] at hv
    refine h v ?_
    cases hl : look k kvs with
    | none =>
      rw [hl] at hv
      exact .inl ⟨Flat.none_inv hv, rfl⟩
    | some x =>
      rw [hl] at hv
      obtain ⟨t, rfl⟩ := Flat.str_inv hv
      exact .inr ⟨x, t, rfl, rfl⟩
theorem tab_meth {pl : Sem Bool} {Q : Value × List Value → Shared → Prop} (ho : s.heap.get? 15 = some dObj) (h : Q (.builtin "dict.get", [.ref 15]) s) : wpAny (model prog w) A (getMethod (.ref 15) "get" pl) Q E s :=
  KTD.getMethod_keyed (tab_keyed ho) (fun _ _ e => e) h
end
theorem in_d {P : Params} {h : Heap} (X : (KF P).In h) : h.get? 15 = some dObj := X 15 dObj (by kernel_rfl)
theorem tab_at {P : Params} {g h : Heap} {L : Addr} {m : Str → Option Value} (F : Fr g L h m) (X : (KF P).In g) : h.get? 15 = some dObj := F.keep _ _ (in_d X)
end Mine
end
section
open PySem PySem.W PySem.Calls PyProof.Rows PyProof.V
namespace Mine
local macro_rules | `(tactic| walk_at "getMethod ref") => `(tactic| (k_here; (with_reducible show wpAny _ _ (getMethod (Value.ref _) _ _) _ _ _); (with_unfolding_all refine' tab_meth ?k1 ?_; (case k1 => (refine' tab_at ?kF ?kX; (case kF => k_asm); (case kX => k_in))); k_whole)))
local macro_rules | `(tactic| walk_at "call builtin:dict.get") => `(tactic| (k_here; (with_unfolding_all refine' tab_get ?k1 ?_; (case k1 => (refine' tab_at ?kF ?kX; (case kF => k_asm); (case kX => k_in))); k_whole); intro v9 hv9; (rcases hv9 with ⟨e9, hl9⟩ | ⟨x9, t9, e9, hl9⟩ <;> subst e9)))
local macro_rules | `(tactic| walk_at "call builtin:ord") => `(tactic| (k_here; (with_reducible show wpAny _ _ (call (Value.builtin "ord") [Value.str _ _]) _ _ _); (refine P.ord_of_char ?_)))
local macro_rules | `(tactic| walk_at "call builtin:str.lower") => `(tactic| (k_here; (with_unfolding_all refine' SCL.lower ?k1 ?_; (case k1 => exact Nat.le_of_ble_eq_true rfl); k_whole); intro _))
set_option maxHeartbeats 8000000 in
theorem map_claim (w : World) (mean : ExcName → Option Value) (mg mb : Str → Option Value) (news : List (Addr × Obj)) (cp : Nat) (t : Tok) :
    CbClaim (PySem.Challenge.rw_mq0480_01.row.prog) w (KF w.params) view (looseW view loose) mean mg mb 60 news [] True [.str ⟨#[cp]⟩ t] (fun t => .str (mapF cp) t) := by
  w_on
  k_fill
  dsimp only [CbClaim, CbLists, CbRet]
  intros
  rename_i hret
  refine wpAny_call ?_
  k_dflt cell_enter
  w_strict (k_steps)
  · exact cb_retS hret (mapF_none (by assumption)).symm (by k_asm) (by k_asm)
  · exact cb_retS hret (mapF_some (by assumption)).symm (by k_asm) (by k_asm)
end Mine
end
section
open PySem PySem.W PySem.Calls PyProof.Rows PyProof.V
namespace Mine
abbrev Run := Int × Int × Int × Int
abbrev tupO (vs : List Value) : Obj := { cls := .type "tuple", data := .seq vs.toArray }
def RunsAt (news : List (Addr × Obj)) : List Value → List Run → Prop
  | [], [] => True
  | v :: vs, r :: rs => (∃ T t1 t2 t3 t4, v = .ref T ∧ (T, ({ cls := .type "tuple", data := .seq #[.int r.1 t1, .int r.2.1 t2, .int r.2.2.1 t3, .int r.2.2.2 t4] } : Obj)) ∈ news) ∧ RunsAt news vs rs
  | _, _ => False
def small (p : Int) : List Run → Int
  | [] => p
  | r :: rs => if (r.1 ≤ p ∧ p ≤ r.2.1) ∧ Int.fmod (p - r.1) r.2.2.1 = 0 then p + r.2.2.2 else small p rs
theorem small_yes {p : Int} {r : Run} {rs : List Run} (h : (r.1 ≤ p ∧ p ≤ r.2.1) ∧ Int.fmod (p - r.1) r.2.2.1 = 0) : small p (r :: rs) = p + r.2.2.2 := if_pos h
theorem small_no {p : Int} {r : Run} {rs : List Run} (h : ¬ ((r.1 ≤ p ∧ p ≤ r.2.1) ∧ Int.fmod (p - r.1) r.2.2.1 = 0)) : small p (r :: rs) = small p rs := if_neg h
theorem items_code {prog : Program} {w : World} {A : Around} {E : Value → Shared → Prop} {h₀ : Heap} {env : Env} {target : Expr} {body : List Stmt} {Q : Flow → Shared → Prop} {s : Shared} {ws : List (Addr × String)} {keep : List (Addr × Obj)} {xs : List Itm} {m : Str → Option Value} {news : List (Addr × Obj)} {v : Value}
    (e : m (Str.ofString "code") = some v) (h : ∀ u : Str → Option Value, ItemsRest prog w A E h₀ env target body Q s ws keep xs (fun y => if y = Str.ofString "code" then some v else u y) news) : ItemsRest prog w A E h₀ env target body Q s ws keep xs m news := by
  have e' : (fun y => if y = Str.ofString "code" then some v else m y) = m := by
    funext y
    by_cases h1 : y = Str.ofString "code"
    · subst h1; simp [e]
    · simp [h1]
  exact e' ▸ h m
set_option maxHeartbeats 8000000 in
theorem small_claim (w : World) (mean : ExcName → Option Value) (mg mb : Str → Option Value) (news : List (Addr × Obj)) (p : Int) (t : Tok) (R : Addr) (vs : List Value) (rs : List Run)
    (hR : (R, tupO vs) ∈ news) (hr : RunsAt news vs rs) (hp : 0 ≤ p ∧ p < 2000000) (hrs : ∀ r ∈ rs, 0 < r.2.2.1 ∧ r.2.2.1 < 10 ∧ 0 ≤ r.1 ∧ r.1 < 200000 ∧ 0 ≤ r.2.1 ∧ r.2.1 < 200000 ∧ -200000 ≤ r.2.2.2 ∧ r.2.2.2 ≤ 200000) :
    CbClaim (PySem.Challenge.rw_mq0480_01.row.prog) w (KF w.params) view (looseW view loose) mean mg mb 81 news [] True [.int p t, .ref R] (fun t => .int (small p rs) t) := by
  w_on
  k_fill
  dsimp only [CbClaim, CbLists, CbRet]
  intros
  rename_i hret
  refine wpAny_call ?_
  k_dflt cell_enter
  w_strict (k_steps)
  (rename Fr _ _ _ _ => lF')
  (rename News _ _ _ _ => lN')
  k_here
  with_unfolding_all refine' For_turns lF' ?_
  k_whole
  k_dflt (refine ld lF' (by rfl) ?_)
  with_unfolding_all refine' iter_tupTurns (lo := tupO vs) (vs := vs) (by rfl) lF' lN' hR rfl rfl ?_
  intro I hI
  refine items_code (v := .int p t) (by rfl) ?_
  generalize hk : (R, tupO vs) = kp at *
  obtain ⟨z, hz⟩ : ∃ z, z = small p rs := ⟨_, rfl⟩
  rw [← hz] at hret
  revert hr hrs hz
  clear hk
  induction rs generalizing vs with
  | nil =>
    intro hr hrs hz u
    cases vs with
    | cons v vs => exact hr.elim
    | nil =>
      refine ItemsRest.zero (fun h' tk' F' N' => ?_)
      clear lF' lN'
      k_steps
      exact cb_retI hret hz.symm (by k_asm) (by k_asm)
  | cons r rs ih =>
    intro hr hrs hz u
    cases vs with
    | nil => exact hr.elim
    | cons v vs =>
      obtain ⟨⟨T, t1, t2, t3, t4, rfl, hm⟩, hr'⟩ := hr
      obtain ⟨b1, b2, b3, b4, b5, b6, b7, b8⟩ := hrs r (List.mem_cons_self ..)
      have ih' := ih vs hr' (fun r hr => hrs r (List.mem_cons_of_mem _ hr))
      clear ih hrs hr'
      obtain ⟨a, b, c, d⟩ := r
      dsimp only at hm b1 b2 b3 b4 b5 b6 b7 b8
      refine ItemsRest.val (fun h' tk' F' => ?_)
      refine AllObj.cons (fun o' hc' => ?_)
      refine AllObj.nil (fun N' => ?_)
      dsimp only at hc'
      simp only [List.cons_append, List.nil_append] at N'
      have hT := News.isTup N' (List.mem_cons_of_mem _ hm)
      clear lF' lN'
      k_steps
      · exact cb_retI hret (hz.trans (small_yes ⟨⟨by assumption, by assumption⟩, by assumption⟩)).symm (by k_asm) (cb_drop (by k_asm) fun p hp => List.mem_cons_of_mem _ hp)
      all_goals
        refine ⟨_, _, _, news, rfl, by k_asm, by k_asm, (fun p hp q hq => by rw [List.mem_singleton.mp hq]; exact Nat.ne_of_lt (hI p hp)), And.intro hR trivial, items_code (by rfl) (ih' ?_)⟩
        refine hz.trans (small_no ?_)
        intro hx
        first
        | exact absurd hx.1.1 (by assumption)
        | exact absurd hx.1.2 (by assumption)
        | exact absurd hx.2 (by assumption)
end Mine
end
section
open PySem PySem.W PySem.Calls PyProof.Rows PyProof.V
namespace Mine
def RunVal (news : List (Addr × Obj)) (v : Value) (r : Run) : Prop := ∃ T t1 t2 t3 t4, v = .ref T ∧ (T, ({ cls := .type "tuple", data := .seq #[.int r.1 t1, .int r.2.1 t2, .int r.2.2.1 t3, .int r.2.2.2 t4] } : Obj)) ∈ news
theorem runs_at {news : List (Addr × Obj)} : ∀ {vs : List Value} {rs : List Run}, RunsAt news vs rs → ∀ (i : Nat) (v : Value), vs[i]? = some v → ∃ r, RunVal news v r
  | [], [], _, i, v, h => by simp at h
  | [], _ :: _, h, _, _, _ => h.elim
  | _ :: _, [], h, _, _, _ => h.elim
  | v :: vs, r :: rs, h, 0, v', e => by
    simp only [List.getElem?_cons_zero, Option.some.injEq] at e
    subst e
    exact ⟨r, h.1⟩
  | v :: vs, r :: rs, h, i + 1, v', e => runs_at h.2 i v' (by simpa using e)
theorem runs_len {news : List (Addr × Obj)} : ∀ {vs : List Value} {rs : List Run}, RunsAt news vs rs → vs.length = rs.length
  | [], [], _ => rfl
  | [], _ :: _, h => h.elim
  | _ :: _, [], h => h.elim
  | _ :: _, _ :: _, h => by simp [runs_len h.2]
theorem ints_of {news : List (Addr × Obj)} {g : Run → Int} : ∀ {vs : List Value} {rs : List Run} {ys : List Value}, RunsAt news vs rs → Paired (fun v y => ∀ r, RunVal news v r → ∃ t, y = .int (g r) t) vs ys → IntsAre ys (rs.map g)
  | [], [], _, _, .nil => .nil
  | [], _ :: _, _, h, _ => h.elim
  | _ :: _, [], _, h, _ => h.elim
  | v :: vs, r :: rs, _, h, .cons h1 h2 => by
    obtain ⟨t, rfl⟩ := h1 r h.1
    exact .cons _ t (ints_of h.2 h2)
theorem comp_col {prog : Program} {w : World} {A : Around} {E : Value → Shared → Prop} {s₁ : Shared} {h₀ : Heap} {L : Addr} {m : Str → Option Value} {news : List (Addr × Obj)} {env : Env} {x : Str} {p1 p2 pos : Pos} {kd : Nat} {scope : Scope}
    {Q : Value → Shared → Prop} {R : Addr} {vs : List Value} {rs : List Run} {k : Int} (j : Nat) (g : Run → Int)
    (hh : A.handled = none) (F : Fr h₀ L s₁.heap m) (N : News h₀ L s₁.heap news) (hR : (R, tupO vs) ∈ news) (hr : RunsAt news vs rs) (hlen : rs.length < 1000)
    (hk1 : -(2 ^ 63) ≤ k) (hk2 : k < 2 ^ 63) (hj : seqIndex? k 4 = some j)
    (hg : ∀ (r : Run) (t1 t2 t3 t4 : Tok), ∃ t, [Value.int r.1 t1, .int r.2.1 t2, .int r.2.2.1 t3, .int r.2.2.2 t4][j]? = some (.int (g r) t))
    (hkind : scope.kind = .function) (hx : ∀ C, (compEnv scope C env).kindOf x = some .local) (hd : (x == ("__debug__" : Str)) = false)
    (hs : ∀ T u, subscripted (.Constant (.int k) kd p2) false (.ref T) (.int k u) = operate [.ref T, .int k u] (getItem (.ref T) (.int k u)))
    (h : ∀ D (ys : List Value) n h' tk, Fr h₀ L h' m → News h₀ L h' ((D, { cls := .type "list", data := .seq ys.toArray n }) :: news) → IntsAre ys (rs.map g) → (∀ p ∈ news, p.1 ≠ D) → Q (.ref D) { s₁ with heap := h', toks := tk }) :
    wpAny (model prog w) A (pyIter (.ref R)) (CompPost prog w A env scope x [] (.Subscript (.Name x p1) (.Constant (.int k) kd p2) pos) Q) E s₁ := by
  have hl : s₁.heap.IsTuple R vs.toArray := News.isTup N hR
  have hlt : R < s₁.heap.objs.size := Heap.lt_size (N _ hR).1
  refine wpAny_pyIter_tuple hl ?_
  have up : ∀ (h' : Heap), (∀ b o', b ∉ [s₁.heap.objs.size] → (s₁.heap.push { cls := .type "tuple_iterator", data := .fields #[.ref R, .int 0 0] }).get? b = some o' → h'.get? b = some o') → ∀ b o', s₁.heap.get? b = some o' → h'.get? b = some o' :=
    fun h' hk b o' e => hk b o' (fun hm => by rw [List.mem_singleton.mp hm] at e; exact absurd (Heap.lt_size e) (Nat.lt_irrefl _)) (Heap.get?_push_of_some _ e)
  refine ⟨fun _ => true, fun v y => ∀ r, RunVal news v r → ∃ t, y = .int (g r) t, s₁.heap.objs.size, [s₁.heap.objs.size, R], [s₁.heap.objs.size], vs.toArray.size, _, _, rfl, Walks.tuple hh _ R (Nat.ne_of_lt hlt) vs.toArray,
    (by rw [List.size_toArray, runs_len hr, sizeLine_eq]; omega), ⟨⟨_, Heap.get?_push_size _ rfl, rfl, rfl⟩, hl.at fun o e => Heap.get?_push_of_some _ e⟩, ?_, ⟨?_, ?_⟩, ?_⟩
  · intro b hb
    show b < (s₁.heap.push _).objs.size
    rw [Heap.size_push]
    rcases List.mem_cons.mp hb with rfl | hb
    · exact Nat.lt_succ_self _
    · rw [List.mem_singleton.mp hb]; exact Nat.lt_succ_of_lt hlt
  · intro C i v s₃ m₃ E' hP hn hm hkk htk
    exact wpAny_pure ⟨rfl, _, _, rfl, fun _ _ e => e⟩
  · intro C i v s₃ m₃ E' hP _ hn hm hkk htk
    obtain ⟨r, T, t1, t2, t3, t4, rfl, hT⟩ := runs_at hr i v (by simpa using hP)
    have N₃ : News h₀ L s₃.heap news := N.grown (up s₃.heap hkk)
    refine Subscript_ (wpAny_Name (wpAny_loadName_local hkind (hx C) hn hm ?_) hd)
    refine wpAny_Constant_int ?_
    obtain ⟨t, ht⟩ := hg r t1 t2 t3 t4
    refine item_tupleT (l := [Value.int r.1 t1, .int r.2.1 t2, .int r.2.2.1 t3, .int r.2.2.2 t4]) (j := j) (x := .int (g r) t) (News.isTup N₃ hT) hk1 hk2 hj ht ?_ (hs T _)
    refine ⟨?_, _, _, rfl, fun _ _ e => e⟩
    rintro r' ⟨T', u1, u2, u3, u4, e, hT'⟩
    cases e
    have e := (N _ hT).1.symm.trans (N _ hT').1
    simp only [Option.some.injEq, Obj.mk.injEq, Data.seq.injEq, true_and, and_true, Array.mk.injEq, List.cons.injEq, Value.int.injEq] at e
    obtain ⟨u, hu⟩ := hg r' u1 u2 u3 u4
    obtain ⟨⟨e1, f1⟩, ⟨e2, f2⟩, ⟨e3, f3⟩, ⟨e4, f4⟩⟩ := e
    rw [← e1, ← e2, ← e3, ← e4, ← f1, ← f2, ← f3, ← f4, ht] at hu
    exact ⟨u, Option.some.inj hu⟩
  · intro D h' tk ys vs' hnew hlD hplD hlen hP hF hk
    have e' : vs' = vs := by simpa using walked_is hlen hP
    subst e'
    obtain ⟨n, hn⟩ := hplD
    have e2 : vs'.filter (fun _ => true) = vs' := List.filter_eq_self.mpr fun _ _ => rfl
    rw [e2] at hF
    have old : ∀ b o, s₁.heap.get? b = some o → b ≠ D := fun b o e q => by
      have := Heap.get?_push_of_some (o := { cls := .type "tuple_iterator", data := .fields #[.ref R, .int 0 0] }) (h := s₁.heap) (by exact e)
      rw [q] at this
      rw [this] at hnew
      cases hnew
    refine h D ys.toList n h' tk (F.keeps (up h' hk)) ?_ (ints_of hr hF) (fun p hp => old _ _ (N p hp).1)
    intro p hp
    rcases List.mem_cons.mp hp with rfl | hp
    · refine ⟨by rw [Array.toArray_toList]; exact hn, ?_, ?_⟩
      · obtain ⟨o, _, _, ho, _⟩ := F.ns
        exact fun q => old _ _ ho q.symm
      · show h₀.get? D = none
        cases e : h₀.get? D with
        | none => rfl
        | some o' => exact absurd rfl (old _ _ (F.keep _ _ e))
    · exact N.grown (up h' hk) p hp
end Mine
end
section
open PySem PySem.W PySem.Calls PyProof.Rows PyProof.V
namespace Mine
theorem ints_map {g : Int → Int} : ∀ {ws ys : List Value} {ks : List Int}, IntsAre ws ks → Paired (fun v y => ∀ n t, v = Value.int n t → ∃ t', y = Value.int (g n) t') ws ys → IntsAre ys (ks.map g)
  | _, _, _, .nil, .nil => .nil
  | _, _, _, .cons n t h, .cons h1 h2 => by
    obtain ⟨t', rfl⟩ := h1 n t rfl
    exact .cons _ t' (ints_map h h2)
theorem comp_ints {prog : Program} {w : World} {A : Around} {E : Value → Shared → Prop} {s₁ : Shared} {h₀ : Heap} {L : Addr} {m : Str → Option Value} {led : List (Addr × Obj)} {env : Env} {x : Str} {elt : Expr} {scope : Scope}
    {Q : Value → Shared → Prop} {l : Addr} {ws : List Value} {ks : List Int} (g : Int → Int)
    (hh : A.handled = none) (F : Fr h₀ L s₁.heap m) (N : News h₀ L s₁.heap led) (hl : s₁.heap.IsList l ws.toArray) (hi : IntsAre ws ks) (hlen : ks.length < 1000)
    (helt : ∀ C n t s₃ m₃ E', Fr h₀ L s₃.heap m → s₃.heap.Ns C m₃ → m₃ x = some (.int n t) →
      wpAny (model prog w) A (eval elt (compEnv scope C env)) (fun y s₄ => (∃ t, y = Value.int (g n) t) ∧ Keeps s₃ s₄) E' s₃)
    (h : ∀ D (ys : List Value) n h' tk, Fr h₀ L h' m → News h₀ L h' ((D, { cls := .type "list", data := .seq ys.toArray n }) :: led) → IntsAre ys (ks.map g) → (∀ p ∈ led, p.1 ≠ D) → Q (.ref D) { s₁ with heap := h', toks := tk }) :
    wpAny (model prog w) A (pyIter (.ref l)) (CompPost prog w A env scope x [] elt Q) E s₁ := by
  have hlt : l < s₁.heap.objs.size := by obtain ⟨o, e, _⟩ := hl; exact Heap.lt_size e
  refine wpAny_pyIter_list hl ?_
  have up : ∀ (h' : Heap), (∀ b o', b ∉ [s₁.heap.objs.size] → (s₁.heap.push { cls := .type "list_iterator", data := .fields #[.ref l, .int 0 0] }).get? b = some o' → h'.get? b = some o') → ∀ b o', s₁.heap.get? b = some o' → h'.get? b = some o' :=
    fun h' hk b o' e => hk b o' (fun hm => by rw [List.mem_singleton.mp hm] at e; exact absurd (Heap.lt_size e) (Nat.lt_irrefl _)) (Heap.get?_push_of_some _ e)
  refine ⟨fun _ => true, fun v y => ∀ n t, v = Value.int n t → ∃ t', y = Value.int (g n) t', s₁.heap.objs.size, [s₁.heap.objs.size, l], [s₁.heap.objs.size], ws.toArray.size, _, _, rfl, Walks.list hh _ l (Nat.ne_of_lt hlt) ws.toArray,
    (by rw [List.size_toArray, hi.length, sizeLine_eq]; omega), ⟨⟨_, Heap.get?_push_size _ rfl, rfl, rfl⟩, hl.at fun o e => Heap.get?_push_of_some _ e⟩, ?_, ⟨?_, ?_⟩, ?_⟩
  · intro b hb
    show b < (s₁.heap.push _).objs.size
    rw [Heap.size_push]
    rcases List.mem_cons.mp hb with rfl | hb
    · exact Nat.lt_succ_self _
    · rw [List.mem_singleton.mp hb]; exact Nat.lt_succ_of_lt hlt
  · intro C i v s₃ m₃ E' hP hn hm hkk htk
    exact wpAny_pure ⟨rfl, _, _, rfl, fun _ _ e => e⟩
  · intro C i v s₃ m₃ E' hP _ hn hm hkk htk
    obtain ⟨n, t, rfl, _⟩ := hi.at i v (by simpa using hP)
    refine wpAny_mono (helt C n t s₃ m₃ E' (F.keeps (up s₃.heap hkk)) hn hm) (fun y s₄ h₄ => ⟨?_, h₄.2⟩) fun _ _ e => e
    obtain ⟨t', rfl⟩ := h₄.1
    intro n' u e
    cases e
    exact ⟨t', rfl⟩
  · intro D h' tk ys vs' hnew hlD hplD hlen hP hF hk
    have e' : vs' = ws := by simpa using walked_is hlen hP
    subst e'
    obtain ⟨n, hn⟩ := hplD
    have e2 : vs'.filter (fun _ => true) = vs' := List.filter_eq_self.mpr fun _ _ => rfl
    rw [e2] at hF
    have old : ∀ b o, s₁.heap.get? b = some o → b ≠ D := fun b o e q => by
      have := Heap.get?_push_of_some (o := { cls := .type "list_iterator", data := .fields #[.ref l, .int 0 0] }) (h := s₁.heap) (by exact e)
      rw [q] at this
      rw [this] at hnew
      cases hnew
    refine h D ys.toList n h' tk (F.keeps (up h' hk)) ?_ (ints_map hi hF) (fun p hp => old _ _ (N p hp).1)
    intro p hp
    rcases List.mem_cons.mp hp with rfl | hp
    · refine ⟨by rw [Array.toArray_toList]; exact hn, ?_, ?_⟩
      · obtain ⟨o, _, _, ho, _⟩ := F.ns
        exact fun q => old _ _ ho q.symm
      · show h₀.get? D = none
        cases e : h₀.get? D with
        | none => rfl
        | some o' => exact absurd rfl (old _ _ (F.keep _ _ e))
    · exact N.grown (up h' hk) p hp
section
variable {M : Model} {A : Around} {E : Value → Shared → Prop} {s : Shared} {K : Frag} {C L : Addr} {h₀ : Heap} {m m₂ mg mb : Str → Option Value} {scope : Scope} {env : Env} {p : Program} {loose : List Str} {mean : ExcName → Option Value} {x : Str} {pos : Pos} {v : Value} {Q : Value → Shared → Prop}
theorem ldc_own (hC : s.heap.Ns C m₂) (hx : m₂ x = some v) (h : Q v s)
    (hk : (compEnv scope C env).scope.kind = .function := by rfl) (hl : (compEnv scope C env).kindOf x = some .local := by rfl) (hd : (x == ("__debug__" : Str)) = false := by decide) :
    wpAny M A (eval (.Name x pos) (compEnv scope C env)) Q E s := wpAny_Name (wpAny_loadName_local hk hl hC hx h) hd
theorem ldc_built (F : Fr h₀ L s.heap m) (X : K.In h₀) (T : Top p loose mean mg mb h₀) (e : nsIn K mainGlobals x = some none) (hv : bootBuiltins x = some v) (hn : x ≠ "__name__") (h : Q v s) (hg : env.globals = mainGlobals := by rfl) (hb : env.builtins = builtinsNs := by rfl)
    (hk : (compEnv scope C env).scope.kind = .function := by rfl) (hx : (compEnv scope C env).kindOf x = some .globalImplicit := by rfl) (hd : (x == ("__debug__" : Str)) = false := by decide) :
    wpAny M A (eval (.Name x pos) (compEnv scope C env)) Q E s :=
  Name_function_global hk hx (loadGlobal_builtin (env := compEnv scope C env) (show s.heap.Ns env.globals mg from hg ▸ (T.keeps F.keep).g) (mg_none_of X T.g e) (show s.heap.Ns env.builtins mb from hb ▸ (T.keeps F.keep).b) ((T.builtins x hn).trans hv) h) hd
end
end Mine
end
section
open PySem PySem.W PySem.Calls PyProof.Rows PyProof.V
namespace Mine
def PairsAt (news : List (Addr × Obj)) : List Value → List (Int × Int) → Prop
  | [], [] => True
  | v :: vs, r :: rs => (∃ T t1 t2, v = .ref T ∧ (T, ({ cls := .type "tuple", data := .seq #[.int r.1 t1, .int r.2 t2] } : Obj)) ∈ news) ∧ PairsAt news vs rs
  | _, _ => False
abbrev lawEnv (sc : Scope) (L fa : Addr) (cd : Value) : Env := envOf (Str.ofString "law") sc L fa cd
theorem call_map {w : World} {mean : ExcName → Option Value} {mg mb : Str → Option Value} {news : List (Addr × Obj)} {cp : Nat} {t : Tok} {h₀ : Heap} {L fa : Addr} {cd : Value} {sc : Scope} {m : Str → Option Value} {s : Shared} {Q E : Value → Shared → Prop}
    (F : Fr h₀ L s.heap m) (X : (KF w.params).In h₀) (N : News h₀ L s.heap news) (T : Top view (looseW view loose) mean mg mb h₀) (hk : sc.kind = .function)
    (h : ∀ t h' tk', Fr h₀ L h' m → News h₀ L h' news → Q (.str (mapF cp) t) { s with heap := h', toks := tk' }) :
    wpAny (model PySem.Challenge.rw_mq0480_01.row.prog w) (callerA.deeper (lawEnv sc L fa cd)) (call (.ref 60) [.str ⟨#[cp]⟩ t]) Q E s :=
  map_claim w mean mg mb news cp t _ _ _ _ _ _ _ [] [] callerA h₀ h₀ L m s Q E (below_caller h₀) F X N T hk trivial (by decide) (by decide) h
theorem call_small {w : World} {mean : ExcName → Option Value} {mg mb : Str → Option Value} {news : List (Addr × Obj)} {p : Int} {t : Tok} {R : Addr} {vs : List Value} {rs : List Run} {h₀ : Heap} {L fa : Addr} {cd : Value} {sc : Scope} {m : Str → Option Value} {s : Shared} {Q E : Value → Shared → Prop}
    (F : Fr h₀ L s.heap m) (X : (KF w.params).In h₀) (N : News h₀ L s.heap news) (T : Top view (looseW view loose) mean mg mb h₀) (hk : sc.kind = .function)
    (hR : (R, tupO vs) ∈ news) (hr : RunsAt news vs rs) (hp : 0 ≤ p ∧ p < 2000000) (hrs : ∀ r ∈ rs, 0 < r.2.2.1 ∧ r.2.2.1 < 10 ∧ 0 ≤ r.1 ∧ r.1 < 200000 ∧ 0 ≤ r.2.1 ∧ r.2.1 < 200000 ∧ -200000 ≤ r.2.2.2 ∧ r.2.2.2 ≤ 200000)
    (h : ∀ t h' tk', Fr h₀ L h' m → News h₀ L h' news → Q (.int (small p rs) t) { s with heap := h', toks := tk' }) :
    wpAny (model PySem.Challenge.rw_mq0480_01.row.prog w) (callerA.deeper (lawEnv sc L fa cd)) (call (.ref 81) [.int p t, .ref R]) Q E s :=
  small_claim w mean mg mb news p t R vs rs hR hr hp hrs _ _ _ _ _ _ _ [] [] callerA h₀ h₀ L m s Q E (below_caller h₀) F X N T hk trivial (by decide) (by decide) h
theorem runs_mono {news led : List (Addr × Obj)} (hsub : ∀ p ∈ news, p ∈ led) : ∀ {vs : List Value} {rs : List Run}, RunsAt news vs rs → RunsAt led vs rs
  | [], [], _ => trivial
  | [], _ :: _, h => h.elim
  | _ :: _, [], h => h.elim
  | _ :: _, _ :: _, h => by
    obtain ⟨⟨T, t1, t2, t3, t4, e, hm⟩, h2⟩ := h
    exact ⟨⟨T, t1, t2, t3, t4, e, hsub _ hm⟩, runs_mono hsub h2⟩
theorem comp_colL {prog : Program} {w : World} {A : Around} {E : Value → Shared → Prop} {s₁ : Shared} {h₀ : Heap} {L : Addr} {m : Str → Option Value} {news led : List (Addr × Obj)} {env : Env} {x : Str} {p1 p2 pos : Pos} {kd : Nat} {scope : Scope}
    {Q : Value → Shared → Prop} {R : Addr} {vs : List Value} {rs : List Run} {k : Int} (j : Nat) (g : Run → Int)
    (hR : (R, tupO vs) ∈ news) (hr : RunsAt news vs rs) (hlen : rs.length = 27) (hsub : ∀ p ∈ news, p ∈ led) (hh : A.handled = none) (F : Fr h₀ L s₁.heap m) (N : News h₀ L s₁.heap led)
    (hk1 : -(2 ^ 63) ≤ k) (hk2 : k < 2 ^ 63) (hj : seqIndex? k 4 = some j)
    (hg : ∀ (r : Run) (t1 t2 t3 t4 : Tok), ∃ t, [Value.int r.1 t1, .int r.2.1 t2, .int r.2.2.1 t3, .int r.2.2.2 t4][j]? = some (.int (g r) t))
    (hkind : scope.kind = .function) (hx : ∀ C, (compEnv scope C env).kindOf x = some .local) (hd : (x == ("__debug__" : Str)) = false)
    (hs : ∀ T u, subscripted (.Constant (.int k) kd p2) false (.ref T) (.int k u) = operate [.ref T, .int k u] (getItem (.ref T) (.int k u)))
    (h : ∀ D (ys : List Value) n h' tk, Fr h₀ L h' m → News h₀ L h' ((D, { cls := .type "list", data := .seq ys.toArray n }) :: led) → IntsAre ys (rs.map g) → (∀ p ∈ led, p.1 ≠ D) → Q (.ref D) { s₁ with heap := h', toks := tk }) :
    wpAny (model prog w) A (pyIter (.ref R)) (CompPost prog w A env scope x [] (.Subscript (.Name x p1) (.Constant (.int k) kd p2) pos) Q) E s₁ :=
  comp_col j g hh F N (hsub _ hR) (runs_mono hsub hr) (by omega) hk1 hk2 hj hg hkind hx hd hs h
theorem call_smallL {w : World} {mean : ExcName → Option Value} {mg mb : Str → Option Value} {news led : List (Addr × Obj)} {p : Int} {t : Tok} {R : Addr} {vs : List Value} {rs : List Run} {h₀ : Heap} {L fa : Addr} {cd : Value} {sc : Scope} {m : Str → Option Value} {s : Shared} {Q E : Value → Shared → Prop}
    (hR : (R, tupO vs) ∈ news) (hr : RunsAt news vs rs) (hsub : ∀ p ∈ news, p ∈ led)
    (F : Fr h₀ L s.heap m) (X : (KF w.params).In h₀) (N : News h₀ L s.heap led) (T : Top view (looseW view loose) mean mg mb h₀) (hk : sc.kind = .function)
    (hp : 0 ≤ p ∧ p < 2000000) (hrs : ∀ r ∈ rs, 0 < r.2.2.1 ∧ r.2.2.1 < 10 ∧ 0 ≤ r.1 ∧ r.1 < 200000 ∧ 0 ≤ r.2.1 ∧ r.2.1 < 200000 ∧ -200000 ≤ r.2.2.2 ∧ r.2.2.2 ≤ 200000)
    (h : ∀ t h' tk', Fr h₀ L h' m → News h₀ L h' led → Q (.int (small p rs) t) { s with heap := h', toks := tk' }) :
    wpAny (model PySem.Challenge.rw_mq0480_01.row.prog w) (callerA.deeper (lawEnv sc L fa cd)) (call (.ref 81) [.int p t, .ref R]) Q E s :=
  call_small F X N T hk (hsub _ hR) (runs_mono hsub hr) hp hrs h
end Mine
end
section
open PySem PySem.W PySem.Calls PyProof.Rows PyProof.V
namespace Mine
theorem pairs_get {news : List (Addr × Obj)} : ∀ {us : List Value} {ps : List (Int × Int)}, PairsAt news us ps → ∀ i, i < ps.length → ∃ T t1 t2 r, us[i]? = some (.ref T) ∧ r ∈ ps ∧ (T, ({ cls := .type "tuple", data := .seq #[.int r.1 t1, .int r.2 t2] } : Obj)) ∈ news
  | [], [], _, i, h => absurd h (Nat.not_lt_zero _)
  | [], _ :: _, h, _, _ => h.elim
  | _ :: _, [], h, _, _ => h.elim
  | v :: us, r :: ps, h, 0, _ => by
    obtain ⟨⟨T, t1, t2, rfl, hm⟩, _⟩ := h
    exact ⟨T, t1, t2, r, rfl, List.mem_cons_self .., hm⟩
  | v :: us, r :: ps, h, i + 1, hi => by
    obtain ⟨T, t1, t2, r', e, hr, hm⟩ := pairs_get h.2 i (Nat.lt_of_succ_lt_succ hi)
    exact ⟨T, t1, t2, r', by simpa using e, List.mem_cons_of_mem _ hr, hm⟩
theorem pairs_len {news : List (Addr × Obj)} : ∀ {us : List Value} {ps : List (Int × Int)}, PairsAt news us ps → us.length = ps.length
  | [], [], _ => rfl
  | [], _ :: _, h => h.elim
  | _ :: _, [], h => h.elim
  | _ :: _, _ :: _, h => by simp [pairs_len h.2]
theorem item_pair {prog : Program} {w : World} {A : Around} {E : Value → Shared → Prop} {s : Shared} {value slice : Expr} {h₀ : Heap} {L S : Addr} {news led : List (Addr × Obj)} {us : List Value} {ps : List (Int × Int)} {k : Int} {u : Tok} {Q : Value → Shared → Prop}
    (hS : (S, tupO us) ∈ news) (hs : PairsAt news us ps) (hlps : ps.length = 14) (hps : ∀ p ∈ ps, 0 ≤ p.1 ∧ p.1 < p.2 ∧ p.2 < 200000) (N : News h₀ L s.heap led) (hsub : ∀ p ∈ news, p ∈ led) (h0 : 0 ≤ k) (h1 : k < 14)
    (h : ∀ T t1 t2 a b, (a, b) ∈ ps → 0 ≤ a → a < b → b < 200000 → IsTup s.heap T #[.int a t1, .int b t2] → Q (.ref T) s)
    (hx : subscripted slice false (.ref S) (.int k u) = operate [.ref S, .int k u] (getItem (.ref S) (.int k u)) := by with_unfolding_all rfl) :
    wpAny (model prog w) A (subscriptTail value slice (.ref S) (.int k u)) Q E s := by
  obtain ⟨T, t1, t2, r, e, hr, hm⟩ := pairs_get hs k.toNat (by omega)
  have hb := hps r hr
  refine item_tupleT (l := us) (j := k.toNat) (x := .ref T) (News.isTup N (hsub _ hS)) (by omega) (by omega) ?_ e (h T t1 t2 r.1 r.2 hr hb.1 hb.2.1 hb.2.2 (News.isTup N (hsub _ hm))) hx
  have hl : us.length = 14 := (pairs_len hs).trans hlps
  rw [hl]
  unfold seqIndex?
  simp
  omega
end Mine
end
section
open PySem PySem.W PySem.Calls PyProof.Rows PyProof.V
namespace Mine
abbrev lstO (vs : List Value) (n : Nat) : Obj := { cls := .type "list", data := .seq vs.toArray n }
theorem app_rule {prog : Program} {w : World} {A : Around} {E : Value → Shared → Prop} {s : Shared} {h₀ : Heap} {L I Dd : Addr} {m : Str → Option Value} {o : Obj} {ws : List Value} {n : Nat} {rest : List (Addr × Obj)} {x : Value} {Q : Value → Shared → Prop}
    (F : Fr h₀ L s.heap m) (N : News h₀ L s.heap ((I, o) :: (Dd, lstO ws n) :: rest)) (hI : I ≠ Dd) (hrest : ∀ p ∈ rest, p.1 ≠ Dd) (hsz : ws.length ≤ sizeLine)
    (h : ∀ h', Fr h₀ L h' m → News h₀ L h' ((I, o) :: (Dd, lstO (ws ++ [x]) (n + 1)) :: rest) → Q .none { s with heap := h' }) :
    wpAny (model prog w) A (call (.builtin "list.append") [.ref Dd, x]) Q E s := by
  have hd := N (Dd, lstO ws n) (List.mem_cons_of_mem _ (List.mem_cons_self ..))
  refine append_at hd.1 (fun h' hs hD => ?_) (by rw [List.size_toArray]; exact hsz)
  refine h h' (F.change hs hd.2.1 hd.2.2) ?_
  intro p hp
  rcases List.mem_cons.mp hp with rfl | hp
  · have z := N (I, o) (List.mem_cons_self ..)
    exact ⟨hs.extBut _ _ hI z.1, z.2⟩
  · rcases List.mem_cons.mp hp with rfl | hp
    · refine ⟨?_, hd.2⟩
      rw [hD, List.push_toArray]
    · have z := N p (List.mem_cons_of_mem _ (List.mem_cons_of_mem _ hp))
      exact ⟨hs.extBut _ _ (hrest p hp) z.1, z.2⟩
theorem allLt_all {d : Nat} : ∀ {l : List (Addr × Obj)}, AllLt d l → ∀ p ∈ l, p.1 < d
  | [], _, _, h => nomatch h
  | _ :: _, h, p, hp => by
    rcases List.mem_cons.mp hp with rfl | hp
    · exact h.1
    · exact allLt_all h.2 p hp
theorem loop1_facts {P : Prop} {h₀ h : Heap} {L Dk Dsl Dd D2 D1 : Addr} {ksv wv : List Value} {nk nd : Nat} {osl o2 o1 : Obj} {news : List (Addr × Obj)} {ks ds : List Int}
    (N : News h₀ L h ((Dk, lstO ksv nk) :: (Dsl, osl) :: (Dd, lstO wv nd) :: (D2, o2) :: (D1, o1) :: news)) (hik : IntsAre ksv ks) (hiw : IntsAre wv ds)
    (l1 : D2 < Dd ∧ D1 < Dd ∧ AllLt Dd news) (ho : ∀ p ∈ ((Dsl, osl) :: (Dd, lstO wv nd) :: (D2, o2) :: (D1, o1) :: news), p.1 ≠ Dk)
    (k : News h₀ L h ((Dd, lstO wv nd) :: (Dk, lstO ksv nk) :: news) → (∀ p ∈ ((Dk, lstO ksv nk) :: news), p.1 ≠ Dd) → P) : P := by
  refine k (fun p hp => N p ?_) fun p hp => ?_
  · simp only [List.mem_cons] at hp ⊢
    rcases hp with h | h | h
    · exact .inr (.inr (.inl h))
    · exact .inl h
    · exact .inr (.inr (.inr (.inr (.inr h))))
  · rcases List.mem_cons.mp hp with rfl | hp
    · exact (ho (Dd, lstO wv nd) (by simp)).symm
    · exact Nat.ne_of_lt (allLt_all l1.2.2 p hp)
theorem items_three {prog : Program} {w : World} {A : Around} {E : Value → Shared → Prop} {h₀ : Heap} {env : Env} {target : Expr} {body : List Stmt} {Q : Flow → Shared → Prop} {s : Shared} {ws : List (Addr × String)} {keep : List (Addr × Obj)} {xs : List Itm} {m : Str → Option Value} {news : List (Addr × Obj)} {v1 v2 v3 : Value}
    (e1 : m (Str.ofString "drawn") = some v1) (e2 : m (Str.ofString "runs") = some v2) (e3 : m (Str.ofString "stretches") = some v3)
    (h : ∀ u : Str → Option Value, ItemsRest prog w A E h₀ env target body Q s ws keep xs (fun y => if y = Str.ofString "drawn" then some v1 else if y = Str.ofString "runs" then some v2 else if y = Str.ofString "stretches" then some v3 else u y) news) : ItemsRest prog w A E h₀ env target body Q s ws keep xs m news := by
  have e' : (fun y => if y = Str.ofString "drawn" then some v1 else if y = Str.ofString "runs" then some v2 else if y = Str.ofString "stretches" then some v3 else m y) = m := by
    funext y
    by_cases h1 : y = Str.ofString "drawn"
    · subst h1; simp [e1]
    · by_cases h2 : y = Str.ofString "runs"
      · subst h2; simp [h1, e2]
      · by_cases h3 : y = Str.ofString "stretches"
        · subst h3; simp [h1, h2, e3]
        · simp [h1, h2, h3]
  exact e' ▸ h m
theorem ints_snoc {x : Int} {tx : Tok} : ∀ {wv : List Value} {ds : List Int}, IntsAre wv ds → IntsAre (wv ++ [.int x tx]) (ds ++ [x])
  | _, _, .nil => .cons x tx .nil
  | _, _, .cons n t h => .cons n t (ints_snoc h)
theorem items_ind {prog : Program} {w : World} {A : Around} {E : Value → Shared → Prop} {h₀ : Heap} {env : Env} {target : Expr} {body : List Stmt} {Q : Flow → Shared → Prop} {s : Shared} {ws : List (Addr × String)} {keep : List (Addr × Obj)} {v1 v2 v3 : Value} {Dd : Addr} {tail : List (Addr × Obj)} {GoodP : Int → Prop}
    (turn : ∀ (n : Int) (t : Tok) (r : List Value) (wv : List Value) (ds : List Int) (nd : Nat), IntsAre wv ds → (∀ d ∈ ds, GoodP d) → ds.length ≤ 999 →
      (∀ (x : Int) (tx : Tok) (nd' : Nat), GoodP x → ∀ u : Str → Option Value, ItemsRest prog w A E h₀ env target body Q s ws keep (r.map .val) (fun y => if y = Str.ofString "drawn" then some v1 else if y = Str.ofString "runs" then some v2 else if y = Str.ofString "stretches" then some v3 else u y) ((Dd, lstO (wv ++ [.int x tx]) nd') :: tail)) →
      ∀ u : Str → Option Value, ItemsRest prog w A E h₀ env target body Q s ws keep (.val (.int n t) :: r.map .val) (fun y => if y = Str.ofString "drawn" then some v1 else if y = Str.ofString "runs" then some v2 else if y = Str.ofString "stretches" then some v3 else u y) ((Dd, lstO wv nd) :: tail))
    (done : ∀ (wv : List Value) (ds : List Int) (nd : Nat), IntsAre wv ds → (∀ d ∈ ds, GoodP d) → ds.length ≤ 1000 →
      ∀ u : Str → Option Value, ItemsRest prog w A E h₀ env target body Q s ws keep [] (fun y => if y = Str.ofString "drawn" then some v1 else if y = Str.ofString "runs" then some v2 else if y = Str.ofString "stretches" then some v3 else u y) ((Dd, lstO wv nd) :: tail)) :
    ∀ {ksv : List Value} {ks : List Int}, IntsAre ksv ks → ∀ {wv : List Value} {ds : List Int} {nd : Nat}, IntsAre wv ds → (∀ d ∈ ds, GoodP d) → ds.length + ks.length ≤ 1000 →
      ∀ u : Str → Option Value, ItemsRest prog w A E h₀ env target body Q s ws keep (ksv.map .val) (fun y => if y = Str.ofString "drawn" then some v1 else if y = Str.ofString "runs" then some v2 else if y = Str.ofString "stretches" then some v3 else u y) ((Dd, lstO wv nd) :: tail) := by
  intro ksv ks hik
  induction hik with
  | nil => intro wv ds nd h1 h2 h3 u; exact done wv ds nd h1 h2 (by simpa using h3) u
  | @cons n t vs ns h ih =>
    intro wv ds nd h1 h2 h3 u
    rw [List.length_cons] at h3
    refine turn n t vs wv ds nd h1 h2 (by omega) (fun x tx nd' hx u' => ?_) u
    refine ih (ints_snoc h1) (fun d hd => ?_) (by rw [List.length_append, List.length_singleton]; omega) u'
    · rcases List.mem_append.mp hd with hd | hd
      · exact h2 d hd
      · rw [List.mem_singleton.mp hd]; exact hx
theorem off_of {I Dd : Addr} {o : Obj} {tail : List (Addr × Obj)} (hI : ∀ p ∈ (Dd, o) :: tail, p.1 < I) {o2 o' : Obj} : ∀ p ∈ (Dd, o2) :: tail, ∀ q ∈ [(I, o')], p.1 ≠ q.1 := by
  intro p hp q hq
  rw [List.mem_singleton.mp hq]
  rcases List.mem_cons.mp hp with rfl | hp
  · exact Nat.ne_of_lt (hI (Dd, o) (List.mem_cons_self ..))
  · exact Nat.ne_of_lt (hI _ (List.mem_cons_of_mem _ hp))
theorem good_sum {GoodP : Int → Prop} {ps : List (Int × Int)} (hgp : ∀ p ∈ ps, ∀ v, p.1 ≤ v → v < p.2 → GoodP v) {a b x : Int} (hm : (a, b) ∈ ps) (hab : a < b) : GoodP (a + Int.fmod x (b - a)) := by
  have h0 := Int.fmod_nonneg_of_pos x (b := b - a) (by omega)
  have h1 := Int.fmod_lt_of_pos x (b := b - a) (by omega)
  exact hgp _ hm _ (by show a ≤ _; omega) (by show _ < b; omega)
theorem call_mapE {w : World} {mean : ExcName → Option Value} {mg mb : Str → Option Value} {news : List (Addr × Obj)} {cp : Nat} {y : Str} {t : Tok} {h₀ : Heap} {L fa : Addr} {cd : Value} {sc : Scope} {m : Str → Option Value} {s : Shared} {Q E : Value → Shared → Prop}
    (e : mapF cp = y) (F : Fr h₀ L s.heap m) (X : (KF w.params).In h₀) (N : News h₀ L s.heap news) (T : Top view (looseW view loose) mean mg mb h₀) (hk : sc.kind = .function)
    (h : ∀ t h' tk', Fr h₀ L h' m → News h₀ L h' news → Q (.str y t) { s with heap := h', toks := tk' }) :
    wpAny (model PySem.Challenge.rw_mq0480_01.row.prog w) (callerA.deeper (lawEnv sc L fa cd)) (call (.ref 60) [.str ⟨#[cp]⟩ t]) Q E s :=
  call_map F X N T hk (fun t h' tk' F' N' => e ▸ h t h' tk' F' N')
theorem str_ne_self (x : Str) (h : (x != x) = true) : False := by simp at h
end Mine
end
section
open PySem PySem.W PySem.Calls PyProof.Rows PyProof.V
namespace Mine
local macro_rules | `(tactic| walk_at "call ref") => `(tactic| (k_here; k_dflt (first
  | ((with_unfolding_all refine' call_mapE ?e ?k1 ?k2 ?k3 ?k4 ?k5 ?_); (case e => assumption); (case k1 => k_asm); (case k2 => k_asm); (case k3 => k_asm); (case k4 => k_asm); (case k5 => rfl); k_whole; intro t9 h9 tk9 F9 N9)
  | ((with_unfolding_all refine' call_smallL ?hR ?hr ?hsub ?k1 ?k2 ?k3 ?k4 ?k5 ?k8 ?k9 ?_); (case hR => assumption); (case hr => assumption); (case k1 => k_asm); (case k2 => k_asm); (case k3 => k_asm); (case k4 => k_asm); (case k5 => rfl); (case hsub => (intro p9 hp9; repeat (first | exact hp9 | exact List.mem_append_left _ hp9 | apply List.mem_cons_of_mem))); (case k8 => assumption); (case k9 => assumption); k_whole; intro t9 h9 tk9 F9 N9))))
local macro_rules | `(tactic| walk_at "call builtin:chr") => `(tactic| (k_here; k_dflt ((with_unfolding_all refine' chr_of_range ?k1 ?k2 ?_); (case k1 => omega); (case k2 => omega); k_whole)))
local macro_rules | `(tactic| walk_at "pyIter ref") => `(tactic| (k_here; (with_reducible show wpAny _ _ (pyIter (Value.ref _)) (CompPost _ _ _ _ _ _ _ _ _) _ _); k_dflt ((with_unfolding_all refine' comp_ints (fun n => Int.fmod n 14000) ?hh ?F ?N ?hl ?hi ?hlen ?helt ?_); (case hh => exact rfl); (case F => k_asm); (case N => k_asm); (case hl => is_list); (case hi => assumption); (case hlen => omega); (case helt => skip; intro C9 n9 t9 s9 m9 E9 F9 hC9 hx9; k_steps; all_goals exact ⟨_, _, rfl, fun _ _ e => e⟩); k_whole; intro D9 ys9 n9 h9 tk9 F9 N9 hi9 ho9)))
local macro_rules | `(tactic| walk_at "pyIter ref") => `(tactic| (k_here; (with_reducible show wpAny _ _ (pyIter (Value.ref _)) (CompPost _ _ _ _ _ _ _ _ _) _ _); k_dflt (first
  | ((with_unfolding_all refine' comp_colL 0 (fun r => r.1) ?hR ?hr ?hlen ?hsub ?hh ?F ?N ?hk1 ?hk2 ?hj ?hg ?hkind ?hx ?hd ?hs ?_); (case hj => exact rfl); (case hh => exact rfl); (case F => k_asm); (case N => k_asm); (case hR => assumption); (case hr => assumption); (case hlen => assumption); (case hsub => (intro p9 hp9; repeat (first | exact hp9 | exact List.mem_append_left _ hp9 | apply List.mem_cons_of_mem))); (case hk1 => decide); (case hk2 => decide); (case hg => exact fun r t1 t2 t3 t4 => ⟨_, rfl⟩); (case hkind => rfl); (case hx => intro C; rfl); (case hd => decide); (case hs => intro T u; with_unfolding_all rfl); k_whole; intro D9 ys9 n9 h9 tk9 F9 N9 hi9 ho9)
  | ((with_unfolding_all refine' comp_colL 1 (fun r => r.2.1) ?hR ?hr ?hlen ?hsub ?hh ?F ?N ?hk1 ?hk2 ?hj ?hg ?hkind ?hx ?hd ?hs ?_); (case hj => exact rfl); (case hh => exact rfl); (case F => k_asm); (case N => k_asm); (case hR => assumption); (case hr => assumption); (case hlen => assumption); (case hsub => (intro p9 hp9; repeat (first | exact hp9 | exact List.mem_append_left _ hp9 | apply List.mem_cons_of_mem))); (case hk1 => decide); (case hk2 => decide); (case hg => exact fun r t1 t2 t3 t4 => ⟨_, rfl⟩); (case hkind => rfl); (case hx => intro C; rfl); (case hd => decide); (case hs => intro T u; with_unfolding_all rfl); k_whole; intro D9 ys9 n9 h9 tk9 F9 N9 hi9 ho9))))
local macro_rules | `(tactic| walk_at "eval Name") => `(tactic| (k_here; (with_reducible show wpAny _ _ (eval (Expr.Name _ _) (compEnv _ _ _)) _ _ _); k_dflt (first
  | refine ldc_own (by assumption) (by assumption) ?_
  | refine ldc_built (by k_asm) (by k_asm) (by k_asm) (by k_is) (by boot_by_name) (by decide) ?_)))
local macro_rules | `(tactic| walk_at "subscriptTail") => `(tactic| (k_here; (with_reducible show wpAny _ _ (subscriptTail _ _ (Value.ref _) (Value.int _ _)) _ _ _); k_dflt ((with_unfolding_all refine' item_pair ?hS ?hs ?hlps ?hps ?N ?hsub ?h0 ?h1 ?_ ?hx); (case hS => assumption); (case hs => assumption); (case hlps => assumption); (case hps => assumption); (case N => k_asm); (case hsub => (intro p9 hp9; repeat (first | exact hp9 | exact List.mem_append_left _ hp9 | apply List.mem_cons_of_mem))); (case h0 => first | omega | exact fmod_lo _ (by decide)); (case h1 => first | omega | exact fmod_hi _ (by decide)); (case hx => with_unfolding_all rfl); k_whole; intro T9 t91 t92 a9 b9 hm9 ha9 hb9 hc9 hT9)))
local macro_rules | `(tactic| walk_at "exec For Name ListComp") => `(tactic| (k_here; (rename Fr _ _ _ _ => lF'); k_dflt (with_unfolding_all refine' For_turns lF' ?_); k_whole))
local macro_rules | `(tactic| walk_at "call builtin:list.append") => `(tactic| (k_here; k_dflt ((with_unfolding_all refine' app_rule ?F ?N ?hI ?hrest ?hsz ?_); (case F => k_asm); (case N => k_asm); (case hI => assumption); (case hrest => assumption); (case hsz => rw [sizeLine_eq]; omega); k_whole; intro h9 F9 N9)))
set_option maxHeartbeats 8000000 in
theorem body_rest {w : World} {mean : ExcName → Option Value} {mg mb : Str → Option Value} {news : List (Addr × Obj)} {R S : Addr} {vs us : List Value} {rs : List Run} {ps : List (Int × Int)} {h₀ : Heap} {L fa : Addr} {cd : Value} {s : Shared} {Q : Flow → Shared → Prop} {E : Value → Shared → Prop}
    {l : Addr} {cs : List Value} {ns : List Int}
    (F : Fr h₀ L s.heap (fun y => if y = Str.ofString "runs" then some (.ref R) else if y = Str.ofString "stretches" then some (.ref S) else List.lookup y [(Str.ofString "script", .ref l)].reverse)) (X : (KF w.params).In h₀) (N : News h₀ L s.heap news) (T : Top view (looseW view loose) mean mg mb h₀)
    (hl : h₀.IsList l cs.toArray) (hi : IntsAre cs ns) (hlen : ns.length ≤ 63)
    (hR : (R, tupO vs) ∈ news) (hr : RunsAt news vs rs) (hS : (S, tupO us) ∈ news) (hs : PairsAt news us ps)
    (hrs : ∀ r ∈ rs, 0 < r.2.2.1 ∧ r.2.2.1 < 10 ∧ 0 ≤ r.1 ∧ r.1 < 200000 ∧ 0 ≤ r.2.1 ∧ r.2.1 < 200000 ∧ -200000 ≤ r.2.2.2 ∧ r.2.2.2 ≤ 200000)
    (hps : ∀ p ∈ ps, 0 ≤ p.1 ∧ p.1 < p.2 ∧ p.2 < 200000) (hlps : ps.length = 14) (hlrs : rs.length = 27)
    {GoodP : Int → Prop} (hgr : ∀ r ∈ rs, GoodP r.1 ∧ GoodP r.2.1) (hgp : ∀ p ∈ ps, ∀ v, p.1 ≤ v → v < p.2 → GoodP v)
    (hgood : ∀ v, GoodP v → (0 ≤ v ∧ v < 200000) ∧ (0 ≤ small v rs ∧ small v rs < 200000) ∧ mapF v.toNat = ⟨#[(small v rs).toNat]⟩ ∧ mapF (small v rs).toNat = ⟨#[(small v rs).toNat]⟩)
    (hE : PassesOwn (model PySem.Challenge.rw_mq0480_01.row.prog w) (callerA.deeper (lawEnv fS7 L fa cd)) (lawEnv fS7 L fa cd) E)
    (hret : ∀ h tk m', Fr h₀ L h m' → Q (.ret (.bool true)) { s with heap := h, toks := tk }) :
    wpAny (model PySem.Challenge.rw_mq0480_01.row.prog w) (callerA.deeper (lawEnv fS7 L fa cd)) (execs (fB7.drop 1) (lawEnv fS7 L fa cd)) Q E s := by
  revert hE X
  obtain ⟨SC, hSC⟩ : ∃ B, fS7 = B := ⟨_, rfl⟩
  obtain ⟨B, hB⟩ : ∃ B, fB7.drop 1 = B := ⟨_, rfl⟩
  rw [hSC, hB]
  conv at hSC => lhs; whnf
  conv at hB => lhs; whnf
  subst hSC hB
  w_on
  k_fill
  intro hE X
  k_with "pyIter ref" => (k_of "point" => k_search (fun pre => True))
  w_strict (k_steps)
  (rename News _ _ _ _ => lN')
  (rename Fr _ _ _ _ => lF')
  k_here
  refine loop1_facts lN' (by assumption) (by assumption) (by assumption) (by assumption) ?_
  intro N1 hd1
  refine iter_listTurns (by rfl) lF' N1 (List.mem_cons_of_mem _ (List.mem_cons_self ..)) rfl rfl ?_
  intro I hI
  refine items_three (by rfl) (by rfl) (by rfl) ?_
  refine items_ind (GoodP := GoodP) ?turn ?done (by assumption) (by assumption) ?hg ?hl
  case hg =>
    intro d hd
    rcases List.mem_append.mp hd with hd | hd
    · obtain ⟨r, hr, rfl⟩ := List.mem_map.mp hd
      exact (hgr r hr).1
    · obtain ⟨r, hr, rfl⟩ := List.mem_map.mp hd
      exact (hgr r hr).2
  case hl =>
    rw [List.length_append, List.length_map, List.length_map, List.length_map, hlrs]
    omega
  case turn =>
    intro n t r wv ds nd h1 h2 h3 ih u
    have hne := (Nat.ne_of_lt (hI _ (List.mem_cons_self ..))).symm
    dsimp only at hne
    refine ItemsRest.val (fun h' tk' F' => ?_)
    refine AllObj.cons (fun o' hc' => ?_)
    refine AllObj.nil (fun N' => ?_)
    dsimp only at hc'
    simp only [List.cons_append, List.nil_append] at N'
    have hlw := h1.length
    clear lN' lF' N1
    w_strict (k_steps)
    refine ⟨_, _, _, _, rfl, by k_asm, by k_asm, off_of hI, And.intro (List.mem_cons_of_mem _ (List.mem_cons_self ..)) trivial, items_three (by rfl) (by rfl) (by rfl) (ih _ _ _ (good_sum hgp (by assumption) (by assumption)))⟩
  case done =>
    intro wv ds nd h1 h2 h3 u
    refine ItemsRest.zero (fun h' tk' F' N' => ?_)
    clear lN' lF' N1
    w_strict (k_steps)
    · have hf := hgood _ (h2 _ (by assumption))
      obtain ⟨⟨g1, g2⟩, ⟨g3, g4⟩, g5, g6⟩ := hf
      have g0 := And.intro g1 (Int.lt_trans g2 (by decide : (200000 : Int) < 2000000))
      w_strict (k_steps)
      exact (str_ne_self _ (by assumption)).elim
    · exact hret _ _ _ (by assumption)
end Mine
end
section
open PySem PySem.W PySem.Calls PyProof.Rows PyProof.V
namespace Mine
def intOf : Expr → Int
  | .Constant (.int k) _ _ => k
  | .UnaryOp _ (.Constant (.int k) _ _) _ => -k
  | _ => 0
def tupOf : Expr → List Expr
  | .Tuple es _ _ => es
  | _ => []
def retOf : List Stmt → List Expr
  | .Return (some e) _ :: _ => tupOf e
  | _ => []
def runOf (e : Expr) : Run := match tupOf e with
  | [a, b, c, d] => (intOf a, intOf b, intOf c, intOf d)
  | _ => (0, 0, 0, 0)
def pairOf (e : Expr) : Int × Int := match tupOf e with
  | [a, b] => (intOf a, intOf b)
  | _ => (0, 0)
def RUNS : List Run := (retOf fB4).map runOf
def STRS : List (Int × Int) := (retOf fB5).map pairOf
theorem runs_27 : RUNS.length = 27 := by decide +kernel
theorem strs_14 : STRS.length = 14 := by decide +kernel
def trim (a : Nat) : List (Nat × Nat × Nat) → List (Nat × Nat × Nat)
  | [] => []
  | e :: r => if (Nat.ble e.1 e.2.1 && Nat.blt e.2.1 a) = true then trim a r else e :: r
theorem shifted_trim {a c : Nat} (h : a ≤ c) : ∀ l, Unicode.shifted l c = Unicode.shifted (trim a l) c
  | [] => rfl
  | (x, y, t) :: r => by
    unfold trim
    split
    · rename_i hc
      simp only [Bool.and_eq_true, Nat.ble_eq, Nat.blt_eq] at hc
      rw [← shifted_trim h r]
      show (if c < x then none else if c ≤ y then some (t + (c - x)) else Unicode.shifted r c) = _
      rw [if_neg (by omega), if_neg (by omega)]
    · rfl
def lowT (T : List (Nat × Nat × Nat)) (c : Nat) : Nat := (Unicode.shifted T c).getD c
def hitN (c : Nat) (r : Run) : Bool := and (Nat.ble r.1.toNat c) (and (Nat.ble c r.2.1.toNat) (Nat.beq ((c - r.1.toNat) % r.2.2.1.toNat) 0))
def smallN (c : Nat) : List Run → Int
  | [] => c
  | r :: rs => cond (hitN c r) ((c : Int) + r.2.2.2) (smallN c rs)
theorem hit_iff {c : Nat} {r : Run} (h1 : 0 < r.2.2.1) (h2 : 0 ≤ r.1) (h3 : 0 ≤ r.2.1) : hitN c r = true ↔ ((r.1 ≤ (c : Int) ∧ (c : Int) ≤ r.2.1) ∧ Int.fmod ((c : Int) - r.1) r.2.2.1 = 0) := by
  have hm : ∀ _ : r.1 ≤ (c : Int), Int.fmod ((c : Int) - r.1) r.2.2.1 = (((c - r.1.toNat) % r.2.2.1.toNat : Nat) : Int) := by
    intro h
    rw [Int.fmod_eq_emod_of_nonneg _ (Int.le_of_lt h1), Int.natCast_emod, Int.toNat_of_nonneg (Int.le_of_lt h1)]
    congr 1
    omega
  unfold hitN
  simp only [Bool.and_eq_true, Nat.ble_eq, Nat.beq_eq]
  constructor
  · rintro ⟨a, b, d⟩
    have ha : r.1 ≤ (c : Int) := by omega
    refine ⟨⟨ha, by omega⟩, ?_⟩
    rw [hm ha, d]; rfl
  · rintro ⟨⟨a, b⟩, d⟩
    rw [hm a] at d
    exact ⟨by omega, by omega, by exact_mod_cast d⟩
theorem small_eqN (c : Nat) : ∀ {rs : List Run}, (∀ r ∈ rs, 0 < r.2.2.1 ∧ 0 ≤ r.1 ∧ 0 ≤ r.2.1) → small (c : Int) rs = smallN c rs
  | [], _ => rfl
  | r :: rs, h => by
    have hr := h r (List.mem_cons_self ..)
    have ih := small_eqN c (rs := rs) fun r hr => h r (List.mem_cons_of_mem _ hr)
    have hi := hit_iff (c := c) hr.1 hr.2.1 hr.2.2
    unfold smallN
    cases hh : hitN c r with
    | true => exact small_yes (hi.mp hh)
    | false =>
      rw [small_no (fun q => by rw [hi.mpr q] at hh; cases hh), ih]
      rfl
def inSN (c : Nat) : List (Int × Int) → Bool
  | [] => false
  | p :: r => or (and (Nat.ble p.1.toNat c) (Nat.blt c p.2.toNat)) (inSN c r)
theorem inSN_of {c : Nat} : ∀ {l : List (Int × Int)}, (∀ p ∈ l, 0 ≤ p.1 ∧ 0 ≤ p.2) → inSN c l = true → ∃ p ∈ l, p.1 ≤ (c : Int) ∧ (c : Int) < p.2
  | [], _, h => by simp [inSN] at h
  | p :: r, hp, h => by
    have h0 := hp p (List.mem_cons_self ..)
    simp only [inSN, Bool.or_eq_true, Bool.and_eq_true, Nat.ble_eq, Nat.blt_eq] at h
    rcases h with h | h
    · exact ⟨p, List.mem_cons_self .., by omega, by omega⟩
    · obtain ⟨q, hq, h'⟩ := inSN_of (fun p hp' => hp p (List.mem_cons_of_mem _ hp')) h
      exact ⟨q, List.mem_cons_of_mem _ hq, h'⟩
def ptT (T : List (Nat × Nat × Nat)) (c : Nat) : Bool :=
  and (decide (smallN c RUNS = (lowT T c : Nat))) (and (decide (smallN (lowT T c) RUNS = (lowT T c : Nat))) (inSN (lowT T c) STRS))
def upTo (f : Nat → Bool) : Nat → Nat → Bool
  | 0, _ => true
  | n + 1, a => and (f a) (upTo f n (a + 1))
theorem upTo_of {f : Nat → Bool} : ∀ {n a : Nat}, upTo f n a = true → ∀ c, a ≤ c → c < a + n → f c = true
  | 0, a, _, c, h1, h2 => by omega
  | n + 1, a, h, c, h1, h2 => by
    simp only [upTo, Bool.and_eq_true] at h
    by_cases e : c = a
    · rw [e]; exact h.1
    · exact upTo_of h.2 c (by omega) (by omega)
def stOk (p : Int × Int) : Bool := upTo (ptT (trim p.1.toNat UnicodeData.oneLower)) (p.2 - p.1).toNat p.1.toNat
def allOk : List (Int × Int) → Bool
  | [] => true
  | p :: r => stOk p && allOk r
def stAtI (i : Nat) : Int × Int := (STRS[i]?).getD (0, 0)
theorem s0 : stOk (stAtI 0) = true := by decide +kernel
theorem s1 : stOk (stAtI 1) = true := by decide +kernel
theorem s2 : stOk (stAtI 2) = true := by decide +kernel
theorem s3 : stOk (stAtI 3) = true := by decide +kernel
theorem s4 : stOk (stAtI 4) = true := by decide +kernel
theorem s5 : stOk (stAtI 5) = true := by decide +kernel
theorem s6 : stOk (stAtI 6) = true := by decide +kernel
theorem s7 : stOk (stAtI 7) = true := by decide +kernel
theorem s8 : stOk (stAtI 8) = true := by decide +kernel
theorem s9 : stOk (stAtI 9) = true := by decide +kernel
theorem s10 : stOk (stAtI 10) = true := by decide +kernel
theorem s11 : stOk (stAtI 11) = true := by decide +kernel
theorem s12 : stOk (stAtI 12) = true := by decide +kernel
theorem s13 : stOk (stAtI 13) = true := by decide +kernel
end Mine
end
section
open PySem PySem.W PySem.Calls PyProof.Rows PyProof.V
namespace Mine
def GoodP (v : Int) : Prop := (∃ p ∈ STRS, p.1 ≤ v ∧ v < p.2) ∨ v = 181 ∨ v = 962
def runOk (r : Run) : Bool := decide (0 < r.2.2.1 ∧ r.2.2.1 < 10 ∧ 0 ≤ r.1 ∧ r.1 < 200000 ∧ 0 ≤ r.2.1 ∧ r.2.1 < 200000 ∧ -200000 ≤ r.2.2.2 ∧ r.2.2.2 ≤ 200000)
theorem runs_ok : RUNS.all runOk = true := by decide +kernel
theorem hrs_all : ∀ r ∈ RUNS, 0 < r.2.2.1 ∧ r.2.2.1 < 10 ∧ 0 ≤ r.1 ∧ r.1 < 200000 ∧ 0 ≤ r.2.1 ∧ r.2.1 < 200000 ∧ -200000 ≤ r.2.2.2 ∧ r.2.2.2 ≤ 200000 :=
  fun r hr => of_decide_eq_true (List.all_eq_true.mp runs_ok r hr)
def strOk (p : Int × Int) : Bool := decide (931 < p.1 ∧ p.1 < p.2 ∧ p.2 < 200000)
theorem strs_ok : STRS.all strOk = true := by decide +kernel
theorem hps_all : ∀ p ∈ STRS, 931 < p.1 ∧ p.1 < p.2 ∧ p.2 < 200000 := fun p hp => of_decide_eq_true (List.all_eq_true.mp strs_ok p hp)
def endOk (v : Int) : Bool := or (inSN v.toNat STRS) (or (decide (v = 181)) (decide (v = 962)))
theorem ends_ok : RUNS.all (fun r => and (endOk r.1) (endOk r.2.1)) = true := by decide +kernel
theorem good_end {v : Int} (h0 : 0 ≤ v) (h : endOk v = true) : GoodP v := by
  unfold endOk at h
  simp only [Bool.or_eq_true, decide_eq_true_eq] at h
  rcases h with h | h | h
  · obtain ⟨p, hp, h1⟩ := inSN_of (fun p hp => by have := hps_all p hp; omega) h
    exact .inl ⟨p, hp, by omega⟩
  · exact .inr (.inl h)
  · exact .inr (.inr h)
theorem hgr_all : ∀ r ∈ RUNS, GoodP r.1 ∧ GoodP r.2.1 := fun r hr => by
  have h := List.all_eq_true.mp ends_ok r hr
  have hb := hrs_all r hr
  simp only [Bool.and_eq_true] at h
  exact ⟨good_end (by omega) h.1, good_end (by omega) h.2⟩
theorem hgp_all : ∀ p ∈ STRS, ∀ v, p.1 ≤ v → v < p.2 → GoodP v := fun p hp v h1 h2 => .inl ⟨p, hp, h1, h2⟩
def noKey (x : Int × Str) : Bool := not (inSN x.1.toNat STRS)
theorem keys_ok : kvs.all noKey = true := by decide +kernel
theorem keys_lo : ∀ x ∈ kvs, 0 ≤ x.1 := fun x hx => by have := climbs_lt kvs 0 kvs_climb x hx; omega
theorem inSN_mk {c : Nat} {p : Int × Int} : ∀ {l : List (Int × Int)}, p ∈ l → p.1 ≤ (c : Int) → (c : Int) < p.2 → inSN c l = true
  | [], h, _, _ => nomatch h
  | q :: r, h, h1, h2 => by
    simp only [inSN, Bool.or_eq_true, Bool.and_eq_true, Nat.ble_eq, Nat.blt_eq]
    rcases List.mem_cons.mp h with rfl | h
    · exact .inl ⟨by omega, by omega⟩
    · exact .inr (inSN_mk h h1 h2)
theorem look_none {v : Int} : ∀ {l : List (Int × Str)}, (∀ x ∈ l, v ≠ x.1) → look v l = none
  | [], _ => rfl
  | x :: r, h => by
    show (if v = x.1 then some x.2 else look v r) = none
    rw [if_neg (h x (List.mem_cons_self ..)), look_none fun x hx => h x (List.mem_cons_of_mem _ hx)]
theorem look_str {c : Nat} {p : Int × Int} (hp : p ∈ STRS) (h1 : p.1 ≤ (c : Int)) (h2 : (c : Int) < p.2) : look c kvs = none := by
  refine look_none fun x hx e => ?_
  have hk := List.all_eq_true.mp keys_ok x hx
  have h0 := keys_lo x hx
  have := inSN_mk (c := x.1.toNat) hp (by omega) (by omega)
  unfold noKey at hk
  rw [this] at hk
  cases hk
theorem low_one {c : Nat} (h1 : c ≠ 931) (h2 : c ≠ 304) : Txt.lower ⟨#[c]⟩ = ⟨#[lowT UnicodeData.oneLower c]⟩ := by
  have e1 : Unicode.lowerAt #[c] 0 = [lowT UnicodeData.oneLower c] := by
    show (if (c == 0x3A3 && Unicode.endsWord #[c] 0) = true then [0x3C2] else Unicode.lowerOf c) = _
    rw [if_neg (by simp [h1])]
    show (match UnicodeData.severalLower.lookup c with | some cs => cs | none => [(Unicode.shifted UnicodeData.oneLower c).getD c]) = _
    have e2 : UnicodeData.severalLower.lookup c = none := by
      show List.lookup c [(304, _)] = none
      have : (c == 304) = false := by simp [h2]
      simp [List.lookup, this]
    rw [e2]; rfl
  show (⟨placed ⟨#[c]⟩ fun i _ => Unicode.lowerAt #[c] i⟩ : Str) = _
  have e3 : placed ⟨#[c]⟩ (fun i _ => Unicode.lowerAt #[c] i) = (Unicode.lowerAt #[c] 0).toArray := by simp [placed]
  rw [e3, e1]
theorem st_all : ∀ p ∈ STRS, stOk p = true := by
  have h : ∀ i, i < 14 → stOk (stAtI i) = true := by
    intro i hi
    match i, hi with
    | 0, _ => exact s0
    | 1, _ => exact s1
    | 2, _ => exact s2
    | 3, _ => exact s3
    | 4, _ => exact s4
    | 5, _ => exact s5
    | 6, _ => exact s6
    | 7, _ => exact s7
    | 8, _ => exact s8
    | 9, _ => exact s9
    | 10, _ => exact s10
    | 11, _ => exact s11
    | 12, _ => exact s12
    | 13, _ => exact s13
    | i + 14, h => omega
  intro p hp
  obtain ⟨i, hi, rfl⟩ := List.mem_iff_getElem.mp hp
  have := h i (by rw [← strs_14]; exact hi)
  unfold stAtI at this
  rw [List.getElem?_eq_getElem hi] at this
  exact this
theorem pt_of {v : Int} {p : Int × Int} (hp : p ∈ STRS) (h1 : p.1 ≤ v) (h2 : v < p.2) :
    small v RUNS = (lowT UnicodeData.oneLower v.toNat : Nat) ∧ small (small v RUNS) RUNS = small v RUNS ∧ ∃ q ∈ STRS, q.1 ≤ small v RUNS ∧ small v RUNS < q.2 := by
  have hb := hps_all p hp
  have h := upTo_of (st_all p hp) v.toNat (by omega) (by omega)
  have et : lowT (trim p.1.toNat UnicodeData.oneLower) v.toNat = lowT UnicodeData.oneLower v.toNat := by
    unfold lowT
    rw [← shifted_trim (by omega)]
  unfold ptT at h
  rw [et] at h
  simp only [Bool.and_eq_true, decide_eq_true_eq] at h
  have hr : ∀ r ∈ RUNS, 0 < r.2.2.1 ∧ 0 ≤ r.1 ∧ 0 ≤ r.2.1 := fun r hr => by have := hrs_all r hr; omega
  have ev : small v RUNS = (lowT UnicodeData.oneLower v.toNat : Nat) := by
    have := small_eqN v.toNat hr
    rw [Int.toNat_of_nonneg (by omega)] at this
    rw [this]; exact h.1
  refine ⟨ev, ?_, ?_⟩
  · rw [ev, small_eqN _ hr]; exact h.2.1
  · rw [ev]
    exact inSN_of (fun p hp => by have := hps_all p hp; omega) h.2.2
theorem map_pt {v : Int} {p : Int × Int} (hp : p ∈ STRS) (h1 : p.1 ≤ v) (h2 : v < p.2) : mapF v.toNat = ⟨#[(small v RUNS).toNat]⟩ := by
  have hb := hps_all p hp
  rw [mapF_none (look_str hp (by omega) (by omega)), low_one (by omega) (by omega), (pt_of hp h1 h2).1]
  rfl
theorem map_181 : mapF 181 = ⟨#[956]⟩ := by decide +kernel
theorem map_956 : mapF 956 = ⟨#[956]⟩ := by
  rw [mapF_none (by decide +kernel), low_one (by decide) (by decide)]
  decide +kernel
theorem map_962 : mapF 962 = ⟨#[963]⟩ := by decide +kernel
theorem map_963 : mapF 963 = ⟨#[963]⟩ := by
  rw [mapF_none (by decide +kernel), low_one (by decide) (by decide)]
  decide +kernel
theorem small_181 : small 181 RUNS = 956 := by decide +kernel
theorem small_962 : small 962 RUNS = 963 := by decide +kernel
theorem hgood_all : ∀ v, GoodP v → (0 ≤ v ∧ v < 200000) ∧ (0 ≤ small v RUNS ∧ small v RUNS < 200000) ∧ mapF v.toNat = ⟨#[(small v RUNS).toNat]⟩ ∧ mapF (small v RUNS).toNat = ⟨#[(small v RUNS).toNat]⟩ := by
  rintro v (⟨p, hp, h1, h2⟩ | rfl | rfl)
  · have hb := hps_all p hp
    obtain ⟨_, e2, q, hq, h3, h4⟩ := pt_of hp h1 h2
    have hc := hps_all q hq
    refine ⟨by omega, by omega, map_pt hp h1 h2, ?_⟩
    have := map_pt hq h3 h4
    rw [e2] at this
    exact this
  · rw [small_181]
    exact ⟨by decide, by decide, map_181, map_956⟩
  · rw [small_962]
    exact ⟨by decide, by decide, map_962, map_963⟩
end Mine
end
open PySem PySem.W PySem.Calls PyProof.Rows PyProof.V
namespace Mine
def StopAt (P : Prop) : Prop := P
theorem StopAt.out {P : Prop} (h : StopAt P) : P := h
theorem runs_cons {news : List (Addr × Obj)} {T : Addr} {a b c d : Int} {t1 t2 t3 t4 : Tok} {vs : List Value} {rs : List Run} (hm : (T, ({ cls := .type "tuple", data := .seq #[.int a t1, .int b t2, .int c t3, .int d t4] } : Obj)) ∈ news) (h : RunsAt news vs rs) : RunsAt news (.ref T :: vs) ((a, b, c, d) :: rs) :=
  ⟨⟨T, t1, t2, t3, t4, rfl, hm⟩, h⟩
theorem runs_nil {news : List (Addr × Obj)} : RunsAt news [] [] := trivial
theorem runs_cast {news : List (Addr × Obj)} {vs : List Value} {rs rs' : List Run} (h : RunsAt news vs rs) (e : rs = rs') : RunsAt news vs rs' := e ▸ h
theorem pairs_cons {news : List (Addr × Obj)} {T : Addr} {a b : Int} {t1 t2 : Tok} {vs : List Value} {rs : List (Int × Int)} (hm : (T, ({ cls := .type "tuple", data := .seq #[.int a t1, .int b t2] } : Obj)) ∈ news) (h : PairsAt news vs rs) : PairsAt news (.ref T :: vs) ((a, b) :: rs) :=
  ⟨⟨T, t1, t2, rfl, hm⟩, h⟩
theorem pairs_nil {news : List (Addr × Obj)} : PairsAt news [] [] := trivial
theorem pairs_cast {news : List (Addr × Obj)} {vs : List Value} {rs rs' : List (Int × Int)} (h : PairsAt news vs rs) (e : rs = rs') : PairsAt news vs rs' := e ▸ h
theorem hps_low : ∀ p ∈ STRS, 0 ≤ p.1 ∧ p.1 < p.2 ∧ p.2 < 200000 := fun p hp => by have := hps_all p hp; omega
end Mine
open Mine
local macro_rules | `(tactic| walk_at "execs cons") => `(tactic| (k_here; (with_reducible show wpAny _ _ (execs (Stmt.Assign [Expr.Name (Str.ofString "drawn") _] _ _ :: _) _) _ _ _); refine StopAt.out ?_))
set_option maxHeartbeats 8000000 in
theorem PySem.Challenge.cw_mq0480_01_holds : PySem.Challenge.rw_mq0480_01.Holds := by
  w_on
  o_law
  refine holds_open (q := view) (loose := loose) (Xt := fun s => xlAt view [] s && recOk (RowW.records PySem.Challenge.rw_mq0480_01.row.toRowW) s) (XP := XL view []) (Yf := Hook.obs hk) (Ya := Hook.val hk) (YP := Hook.says hk) (N := 25502) left (Hook.of hk) (Hook.keeps hk)
    (fun s e => xl_of s (Bool.and_eq_true_iff.mp e).1) XL.keeps (by rfl) (by rfl) (by rfl) (fun s e => recFacts_of (Bool.and_eq_true_iff.mp e).2) (by rfl) (by first | assumption | decide +kernel) (by decide +kernel) ⟨rfl, rfl, rfl, rfl, rfl, by decide +kernel⟩ ?hw ?hc
  case hw => w_witness2
  rename_i said9; clear said9
  delta hk
  w_strict (k_go0; (all_goals try k_fold); k_steps)
  unfold StopAt
  (rename News _ _ _ _ => lN')
  (rename Fr _ _ _ _ => lF')
  with_unfolding_all refine' body_rest (rs := RUNS) (ps := STRS) (GoodP := GoodP) lF' ?X lN' ?T ?hl ?hi ?hlen ?hR ?hr ?hS ?hs hrs_all hps_low strs_14 runs_27 hgr_all hgp_all hgood_all ?hE ?hret
  case X => assumption
  case T => assumption
  case hl => assumption
  case hi => assumption
  case hlen => omega
  case hR => k_mem
  case hS => k_mem
  case hr =>
    refine' runs_cast ?zh9 ?ze9
    case zh9 =>
      repeat (apply runs_cons; (case hm => k_mem))
      exact runs_nil
    case ze9 => kernel_rfl
  case hs =>
    refine' pairs_cast ?zh8 ?ze8
    case zh8 =>
      repeat (apply pairs_cons; (case hm => k_mem))
      exact pairs_nil
    case ze8 => kernel_rfl
  case hE => passes_own
  case hret =>
    intro h9 tk9 m9 F9
    w_strict (k_steps)
