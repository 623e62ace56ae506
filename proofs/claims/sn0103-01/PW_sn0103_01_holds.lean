import PyProof.Rows.All
import Wide.All
import OpenK.AllK
import Wide.FinOn
import KE.KTurns
import PyProof.WalksPairs
import PyProof.DictCompW
import KE.KEqDict
import KE.KxSplit
import PyProof.EqAt
import KE.KSortTup
import KE.KItem
import PyProof.Rows.SetFrom
import PyProof.Rows.SortStr
import KE.KDictSum
import KE.KxMul
import Lean
import PySem.Challenge.RW_sn0103_01
set_option Elab.async false
section
open PySem PySem.W PyProof.Rows
set_option maxRecDepth 100000
namespace Mine
theorem sub_step {a i : Nat} (h : i < a) : a - i = a - (i + 1) + 1 := (Nat.succ_pred_eq_of_pos (Nat.sub_pos_of_lt h)).symm
section
variable (tb : String → Option Builtin) (p : Program) (w : World) (n₀ : Nat) (ann : Option Value)

/-- an exact big step of the top's run, in at most k steps, whatever stands behind it -/
noncomputable def Goes {α : Type} (k : Nat) (t : Sem α) (s : Shared) (a : α) (s' : Shared) : Prop :=
  ∀ (K : α → Sem Fin) (H : Value → Sem Fin) (gd : Bool → Bool) (lv : List Value → List Value) (c : Code) (pos : Pos) (f : Frame) (st : List Frame),
    ∃ n pos', n ≤ k ∧ ∀ N, topRun tb p w n₀ ann (n + N) s ⟨t.wrap K H gd lv, c, pos, f :: st⟩ = topRun tb p w n₀ ann N s' ⟨K a, c, pos', f :: st⟩
end

section
variable {tb : String → Option Builtin} {p : Program} {w : World} {n₀ : Nat} {ann : Option Value} {α β : Type} {s s₁ s' : Shared}

theorem goes_le {k k' : Nat} {t : Sem α} {a : α} (h : Goes tb p w n₀ ann k t s a s') (hk : k ≤ k') : Goes tb p w n₀ ann k' t s a s' :=
  fun K H gd lv c pos f st => let ⟨n, pos', hn, h'⟩ := h K H gd lv c pos f st; ⟨n, pos', Nat.le_trans hn hk, h'⟩

theorem goes_pure {a : α} : Goes tb p w n₀ ann 0 (pure a) s a s := fun _ _ _ _ _ pos _ _ => ⟨0, pos, Nat.le_refl _, fun N => by rw [Nat.zero_add]; rfl⟩

theorem goes_bind {k₁ k₂ : Nat} {m : Sem α} {g : α → Sem β} {a : α} {b : β} (h₁ : Goes tb p w n₀ ann k₁ m s a s₁) (h₂ : Goes tb p w n₀ ann k₂ (g a) s₁ b s') :
    Goes tb p w n₀ ann (k₁ + k₂) (m >>= g) s b s' := by
  intro K H gd lv c pos f st
  rw [Sem.bind_eq_wrap', Sem.wrap_wrap]
  obtain ⟨n, pos₁, hn, e⟩ := h₁ (fun a => (g a).wrap K H gd lv) (fun e => (Sem.raise e : Sem β).wrap K H gd lv) (fun g => gd (id g)) (fun l => lv (id l)) c pos f st
  obtain ⟨m', pos', hm, e'⟩ := h₂ K H gd lv c pos₁ f st
  refine ⟨n + m', pos', Nat.add_le_add hn hm, fun N => ?_⟩
  rw [Nat.add_assoc, e, e']

theorem goes_wrapped {k : Nat} {m : Sem α} {a : α} {H₀ : Value → Sem α} {gd₀ : Bool → Bool} {lv₀ : List Value → List Value} (h : Goes tb p w n₀ ann k m s a s') :
    Goes tb p w n₀ ann k (m.wrap .pure H₀ gd₀ lv₀) s a s' := by
  intro K H gd lv c pos f st
  rw [Sem.wrap_wrap]
  exact h (fun a => (Sem.pure a : Sem α).wrap K H gd lv) _ _ _ c pos f st
theorem goes_onRaise {k : Nat} {m : Sem α} {a : α} {hd : Value → Sem Unit} (h : Goes tb p w n₀ ann k m s a s') : Goes tb p w n₀ ann k (m.onRaise hd) s a s' := by
  rw [Sem.onRaise_eq_wrap]; exact goes_wrapped h
theorem goes_tryCatch {k : Nat} {m : Sem α} {a : α} {hd : Value → Sem α} (h : Goes tb p w n₀ ann k m s a s') : Goes tb p w n₀ ann k (tryCatch m hd) s a s' := by
  show Goes tb p w n₀ ann k (m.tryCatch hd) s a s'
  rw [Sem.tryCatch_eq_wrap]; exact goes_wrapped h
theorem goes_holding {k : Nat} {m : Sem α} {a : α} {vs : List Value} (h : Goes tb p w n₀ ann k m s a s') : Goes tb p w n₀ ann k (holding vs m) s a s' := by
  unfold holding
  split
  · exact h
  · rw [Sem.keep_eq_wrap]; exact goes_wrapped h

theorem goes_rule {tag : String} : Goes tb p w n₀ ann 1 (rule tag) s () s := fun _ _ _ _ _ pos _ _ => ⟨1, pos, Nat.le_refl _, fun N => by rw [Nat.add_comm]; rfl⟩
theorem goes_at {q : Pos} : Goes tb p w n₀ ann 1 (standAt q) s () s := fun _ _ _ _ _ _ _ _ => ⟨1, q, Nat.le_refl _, fun N => by rw [Nat.add_comm]; rfl⟩
theorem goes_point : Goes tb p w n₀ ann 1 point s () s := fun _ _ _ _ _ pos _ _ => ⟨1, pos, Nat.le_refl _, fun N => by rw [Nat.add_comm]; rfl⟩
theorem goes_fresh : Goes tb p w n₀ ann 1 fresh s s.toks { s with toks := s.toks + 1 } := fun _ _ _ _ _ pos _ _ => ⟨1, pos, Nat.le_refl _, fun N => by rw [Nat.add_comm]; rfl⟩
theorem goes_ask : Goes tb p w n₀ ann 1 ask s ⟨p, w.params⟩ s := fun _ _ _ _ _ pos _ _ => ⟨1, pos, Nat.le_refl _, fun N => by rw [Nat.add_comm]; rfl⟩
theorem goes_alloc {o : Obj} : Goes tb p w n₀ ann 1 (alloc o) s s.heap.objs.size { s with heap := s.heap.push o } := fun _ _ _ _ _ pos _ _ => ⟨1, pos, Nat.le_refl _, fun N => by rw [Nat.add_comm]; rfl⟩
theorem goes_loadPart {a : Addr} {part : Option Value} {o : Obj} (ho : s.heap.get? a = some o) : Goes tb p w n₀ ann 1 (loadPart a part) s o s := by
  intro K H gd lv c pos f st
  refine ⟨1, pos, Nat.le_refl _, fun N => ?_⟩
  obtain ⟨heap, gens, drawn, toks, os⟩ := s
  dsimp only at ho
  rw [Nat.add_comm]
  show (match step (denote tb) p w ⟨heap, gens, drawn, toks, os⟩ ⟨.load a part fun x => (Sem.pure x : Sem Obj).wrap K H gd lv, c, pos, f :: st⟩ with | .go s' t' => topRun tb p w n₀ ann N s' t' | .halt _ _ => none) = _
  simp only [step, ho]
  rfl
theorem goes_updatePart {a : Addr} {part : Option Value} {g : Obj → Obj} {o : Obj} (ho : s.heap.get? a = some o) (ha : (Nat.ble n₀ a || a == mainNs || a == cStatics || ann == some (.ref a)) = true) :
    Goes tb p w n₀ ann 1 (updatePart a part g) s () { s with heap := s.heap.update a g } := by
  intro K H gd lv c pos f st
  refine ⟨1, pos, Nat.le_refl _, fun N => ?_⟩
  obtain ⟨heap, gens, drawn, toks, os⟩ := s
  dsimp only at ho
  rw [Nat.add_comm]
  show (match (true && (Nat.ble n₀ a || a == mainNs || a == cStatics || ann == some (.ref a))) with
    | false => none
    | true => match step (denote tb) p w ⟨heap, gens, drawn, toks, os⟩ ⟨.update a part g fun x => (Sem.pure x : Sem Unit).wrap K H gd lv, c, pos, f :: st⟩ with | .go s' t' => topRun tb p w n₀ ann N s' t' | .halt _ _ => none) = _
  rw [ha]
  simp only [step, ho, Option.isSome_some, if_true, Bool.and_self]
  rfl
theorem goes_mkInt {i : Int} : Goes tb p w n₀ ann 1 (mkInt i) s (.int i s.toks) { s with toks := s.toks + 1 } := goes_bind (k₁ := 1) (k₂ := 0) (g := fun t => pure (Value.int i t)) goes_fresh goes_pure
theorem goes_mkText {x : Str} : Goes tb p w n₀ ann 1 (mkText x) s (.str x s.toks) { s with toks := s.toks + 1 } := goes_bind (k₁ := 1) (k₂ := 0) (g := fun t => pure (Value.str x t)) goes_fresh goes_pure

theorem wrap_self (t : Sem α) : t.wrap .pure .raise id id = t := by
  rw [← Sem.bind_eq_wrap]
  induction t <;> simp only [Sem.bind, *]

theorem goes_callBuiltin {id : String} {b : Builtin} {args : List Value} {v : Value} {k : Nat} (hck : checkBuiltinCall id ⟨args, []⟩ = pure ()) (he : entryFor tb id = some b)
    (hq : id.startsWith "lifetime." = false) (hb : Goes tb p w n₀ ann k (b ⟨args, []⟩) s (.done (.ret v)) s') : Goes tb p w n₀ ann (k + 3) (call (.builtin id) args) s v s' := by
  intro K H gd lv c pos f st
  obtain ⟨c1, hc1⟩ : ∃ kept : List Value → List Value, ∀ (k0 : Result → Sem Fin) (g : Bool) (l : List Value) (N : Nat), topRun tb p w n₀ ann (N + 1) s ⟨.call (.call (.builtin id) ⟨args, []⟩) none g l k0, c, pos, f :: st⟩ =
      topRun tb p w n₀ ann N s ⟨denote tb (.call (.builtin id) ⟨args, []⟩), .call (.builtin id) ⟨args, []⟩, pos, .ret k0 none g l c pos (kept l) :: f :: st⟩ := ⟨_, fun _ _ _ _ => rfl⟩
  have hden : denote tb (.call (.builtin id) ⟨args, []⟩) = .pure (.again (.builtin id ⟨args, []⟩)) := by
    show (do checkBuiltinCall id ⟨args, []⟩; again (.builtin id ⟨args, []⟩)) = _
    rw [hck]; rfl
  obtain ⟨c2, hc2⟩ : ∃ kept : List Value → List Value → List Value, ∀ (k0 : Result → Sem Fin) (g : Bool) (l : List Value) (cd : Code) (q : Pos) (kp : List Value) (N : Nat),
      topRun tb p w n₀ ann (N + 1) s ⟨.pure (.again (.builtin id ⟨args, []⟩)), .call (.builtin id) ⟨args, []⟩, pos, .ret k0 none g l cd q kp :: f :: st⟩ =
      topRun tb p w n₀ ann N s ⟨denote tb (.builtin id ⟨args, []⟩), .builtin id ⟨args, []⟩, pos, .ret k0 none g l cd q (kept l kp) :: f :: st⟩ := ⟨_, fun k0 g l cd q kp N => by
    show (match ((!(id.startsWith "lifetime.") || Thread.atExit ⟨.pure (.again (.builtin id ⟨args, []⟩)), .call (.builtin id) ⟨args, []⟩, pos, .ret k0 none g l cd q kp :: f :: st⟩) && true && true) && true with
      | false => none
      | true => _) = _
    rw [hq]; rfl⟩
  have hden2 : denote tb (.builtin id ⟨args, []⟩) = b ⟨args, []⟩ := by
    show (match entryFor tb id with | some b => b ⟨args, []⟩ | none => unsupported ((withoutEnding? id "#data").getD id)) = _
    rw [he]
  obtain ⟨n, pos', hn, e⟩ := hb .pure .raise _root_.id _root_.id (.builtin id ⟨args, []⟩) pos
    (.ret (fun r => Sem.wrap K H gd lv (((match r with | .ok f => Sem.pure f | .error e => Sem.raise e) : Sem Flow) >>= fun fl => match fl with | .ret v => pure v | _ => unsupported "internal:call-without-return-value")) none (gd false) (lv []) c pos (c2 (lv []) (c1 (lv [])))) (f :: st)
  refine ⟨n + 3, pos, by omega, fun N => ?_⟩
  have hw : (call (.builtin id) args).wrap K H gd lv = .call (.call (.builtin id) ⟨args, []⟩) none (gd false) (lv []) (fun r => Sem.wrap K H gd lv (((match r with | .ok f => Sem.pure f | .error e => Sem.raise e) : Sem Flow) >>= fun fl => match fl with | .ret v => pure v | _ => unsupported "internal:call-without-return-value")) := rfl
  rw [hw, show n + 3 + N = (n + N + 1 + 1) + 1 by omega, hc1, hden, hc2, hden2]
  rw [wrap_self] at e
  rw [show n + N + 1 = n + (N + 1) by omega, e]
  rfl
end
end Mine
end
section
open PySem PySem.W PyProof.Rows
set_option maxRecDepth 100000
namespace Mine
section
variable {tb : String → Option Builtin} {p : Program} {w : World} {n₀ : Nat} {ann : Option Value} {α β : Type} {s s₁ s' : Shared}

theorem goes_eq {k : Nat} {t t' : Sem α} {a : α} (e : t = t') (h : Goes tb p w n₀ ann k t' s a s') : Goes tb p w n₀ ann k t s a s' := e ▸ h
theorem check_int_hash (k : Int) (t : Tok) : checkBuiltinCall "int.__hash__" ⟨[.int k t], []⟩ = pure () := by kernel_rfl
theorem special_int_hash (k : Int) (t : Tok) : specialOf (.int k t) "__hash__" = pure (some (.builtin "int.__hash__")) := slot_int_hash.lookup

theorem goes_hashCall (he : entryFor tb "int.__hash__" = some Builtin.«int.__hash__») {k : Int} {t : Tok} : Goes tb p w n₀ ann 4 (call (.builtin "int.__hash__") [.int k t]) s (.int (rawHash k) s.toks) { s with toks := s.toks + 1 } :=
  goes_callBuiltin (check_int_hash k t) he (by decide +kernel)
    (show Goes tb p w n₀ ann 1 (do ret (← mkInt (rawHash k))) s (.done (.ret (.int (rawHash k) s.toks))) _ from goes_bind (k₁ := 1) (k₂ := 0) goes_mkInt goes_pure)

theorem goes_hashSpecial (he : entryFor tb "int.__hash__" = some Builtin.«int.__hash__») {k : Int} {t : Tok} {refuse : Sem Value} :
    Goes tb p w n₀ ann 5 (callSpecialIfBoundUnlessNone? (.int k t) "__hash__" refuse) s (some (.int (rawHash k) s.toks)) { s with toks := s.toks + 1 } := by
  unfold callSpecialIfBoundUnlessNone? bindSpecialIfBound?
  rw [special_int_hash]
  refine goes_holding ?_
  refine goes_bind (k₁ := 1) (k₂ := 4) (a := some (.builtin "int.__hash__", [.int k t])) (s₁ := s) ?_ ?_
  · show Goes tb p w n₀ ann 1 (ask >>= fun S => if S.params.followText "special-get-raises" = true then _ else _) s _ s
    refine goes_bind (k₁ := 1) (k₂ := 0) goes_ask ?_
    split
    · exact goes_pure
    · exact goes_tryCatch goes_pure
  · show Goes tb p w n₀ ann 4 (if (Value.builtin "int.__hash__" == Value.none) = true then _ else _) s _ _
    rw [if_neg (by rw [builtin_beq_none]; exact Bool.false_ne_true)]
    exact goes_bind (k₁ := 4) (k₂ := 0) (goes_hashCall he) goes_pure

theorem goes_pyHash (he : entryFor tb "int.__hash__" = some Builtin.«int.__hash__») {k : Int} {t : Tok} : Goes tb p w n₀ ann 5 (pyHash (.int k t)) s (hashInt k) { s with toks := s.toks + 1 } := by
  have hr := rawHash_range k
  show Goes tb p w n₀ ann 5 (pyHashByItsType (.int k t)) s (hashInt k) _
  unfold pyHashByItsType
  rw [special_int_hash]
  refine goes_bind (k₁ := 0) (k₂ := 5) (a := ()) (s₁ := s) ?_ ?_
  · rw [cRoomFor, if_neg (by rw [show [Value.int k t].any Value.onHeap = false from rfl]; exact Bool.false_ne_true)]; exact goes_pure
  simp only [pure_bind, PySem.beq_builtin_none, Option.isNone_some, Bool.false_eq_true, if_false]
  refine goes_bind (k₁ := 5) (k₂ := 0) (goes_hashSpecial he) ?_
  show Goes tb p w n₀ ann 0 (if (decide (-(2 : Int) ^ 63 ≤ rawHash k) && decide (rawHash k < 2 ^ 63)) = true then _ else _) _ _ _
  rw [if_pos (by rw [decide_eq_true hr.1, decide_eq_true hr.2]; rfl)]
  exact goes_pure

theorem goes_dictEntries {d : Addr} {part : Option Value} {o : Obj} {es : Array DictEntry} {n : Nat} (ho : s.heap.get? d = some o) (hd : o.data = .dict es n) :
    Goes tb p w n₀ ann 1 (dictEntries d part) s es s := by
  unfold dictEntries
  refine goes_bind (k₁ := 1) (k₂ := 0) (goes_loadPart ho) ?_
  rw [hd]; exact goes_pure
theorem goes_dictEpoch {d : Addr} {part : Option Value} {o : Obj} {es : Array DictEntry} {n : Nat} (ho : s.heap.get? d = some o) (hd : o.data = .dict es n) :
    Goes tb p w n₀ ann 1 (dictEpoch d part) s n s := by
  unfold dictEpoch
  refine goes_bind (k₁ := 1) (k₂ := 0) (goes_loadPart ho) ?_
  rw [hd]; exact goes_pure
theorem goes_dictFind {d : Addr} {k : Int} {t : Tok} {h : Int} {o : Obj} {es : Array DictEntry} {n : Nat} (ho : s.heap.get? d = some o) (hd : o.data = .dict es n)
    (hno : ∀ e ∈ es.toList, e.hash ≠ h) : Goes tb p w n₀ ann 1 (dictFind d (.int k t) h) s none s := by
  unfold dictFind
  refine goes_holding (goes_bind (k₁ := 1) (k₂ := 0) (goes_dictEntries ho hd) ?_)
  have hp : placesWithHash es.size (fun i => es[i]?.map (·.hash)) h = [] := by
    unfold placesWithHash
    rw [List.filter_eq_nil_iff]
    intro i hi hc
    rw [List.mem_range] at hi
    dsimp only at hc
    rw [Array.getElem?_eq_getElem hi] at hc
    have := eq_of_beq hc
    exact hno es[i] (by simp) (Option.some.inj this)
  dsimp only
  rw [hp]
  exact goes_pure
theorem goes_lookBehind {a : Addr} {part : Option Value} {o : Obj} (ho : s.heap.get? a = some o) (hp : o.data.pastItsLine = none) : Goes tb p w n₀ ann 1 (lookBehind a part) s () s := by
  unfold lookBehind
  refine goes_bind (k₁ := 1) (k₂ := 0) (goes_loadPart ho) ?_
  rw [hp]; exact goes_pure
theorem goes_updateDictKeys {d : Addr} {part : Option Value} {c : Value} {dd : Option Addr} {sl : Array (Option Value)} {es : Array DictEntry} {n : Nat} {g : Array DictEntry → Array DictEntry} (ho : s.heap.get? d = some ⟨c, dd, .dict es n, sl⟩)
    (ha : (Nat.ble n₀ d || d == mainNs || d == cStatics || ann == some (.ref d)) = true) (hz : (g es).size ≤ sizeLine + 1) :
    Goes tb p w n₀ ann 3 (updateDictKeys d g part) s () { s with heap := s.heap.update d (Obj.mapDictKeys g) } := by
  unfold updateDictKeys
  refine goes_bind (k₁ := 1) (k₂ := 2) (goes_loadPart ho) ?_
  dsimp only
  refine goes_bind (k₁ := 1) (k₂ := 1) (goes_updatePart ho ha) ?_
  refine goes_lookBehind (o := ⟨c, dd, .dict (g es) (n + 1), sl⟩) (Heap.get?_update_self _ ho rfl) ?_
  show (if (g es).size > sizeLine + 1 then some "dict:memory" else none) = none
  rw [if_neg (by omega)]
theorem goes_dictSet (he : entryFor tb "int.__hash__" = some Builtin.«int.__hash__») {d : Addr} {k : Int} {t : Tok} {v : Value} {c : Value} {dd : Option Addr} {sl : Array (Option Value)} {es : Array DictEntry} {n : Nat}
    (ho : s.heap.get? d = some ⟨c, dd, .dict es n, sl⟩) (ha : (Nat.ble n₀ d || d == mainNs || d == cStatics || ann == some (.ref d)) = true) (hz : es.size ≤ sizeLine) (hno : ∀ e ∈ es.toList, e.hash ≠ hashInt k) :
    Goes tb p w n₀ ann 10 (dictSet d (.int k t) v) s () { s with heap := s.heap.update d (Obj.mapDictKeys (·.push ⟨hashInt k, .int k t, v⟩)), toks := s.toks + 1 } := by
  unfold dictSet
  refine goes_holding (goes_bind (k₁ := 5) (k₂ := 5) (goes_pyHash he) ?_)
  unfold dictSetHashed
  refine goes_holding (goes_bind (k₁ := 1) (k₂ := 4) (s₁ := { s with toks := s.toks + 1 }) (goes_dictFind (o := ⟨c, dd, .dict es n, sl⟩) ho rfl hno) ?_)
  dsimp only
  exact goes_bind (k₁ := 1) (k₂ := 3) goes_rule (goes_updateDictKeys (s := { s with toks := s.toks + 1 }) ho ha (by simp; omega))
theorem goes_dictPut {d : Addr} {k : Int} {t : Tok} {h : Int} {v : Value} {c : Value} {dd : Option Addr} {sl : Array (Option Value)} {es : Array DictEntry} {n : Nat}
    (ho : s.heap.get? d = some ⟨c, dd, .dict es n, sl⟩) (ha : (Nat.ble n₀ d || d == mainNs || d == cStatics || ann == some (.ref d)) = true) (hz : es.size ≤ sizeLine) (hno : ∀ e ∈ es.toList, e.hash ≠ h) :
    Goes tb p w n₀ ann 4 (dictPut d h (.int k t) v) s () { s with heap := s.heap.update d (Obj.mapDictKeys (·.push ⟨h, .int k t, v⟩)) } := by
  unfold dictPut
  refine goes_bind (k₁ := 1) (k₂ := 3) (goes_dictFind (o := ⟨c, dd, .dict es n, sl⟩) ho rfl hno) ?_
  exact goes_updateDictKeys ho ha (by simp; omega)

/-- a list's for: an invariant over what is left -/
theorem goes_forIn {γ σ : Type} {f : γ → σ → Sem (ForInStep σ)} {k : Nat} (I : List γ → σ → Shared → Prop)
    (step : ∀ x rest b s, I (x :: rest) b s → ∃ b' s', Goes tb p w n₀ ann k (f x b) s (.yield b') s' ∧ I rest b' s') :
    ∀ (l : List γ) (b : σ) (s : Shared), I l b s → ∃ b' s', Goes tb p w n₀ ann (k * l.length) (forIn l b f) s b' s' ∧ I [] b' s'
  | [], b, s, h => ⟨b, s, by rw [List.forIn_nil]; exact goes_le goes_pure (Nat.zero_le _), h⟩
  | x :: l, b, s, h => by
    obtain ⟨b₁, s₁, g₁, h₁⟩ := step x l b s h
    obtain ⟨b₂, s₂, g₂, h₂⟩ := goes_forIn I step l b₁ s₁ h₁
    refine ⟨b₂, s₂, ?_, h₂⟩
    rw [List.forIn_cons]
    refine goes_le (goes_bind g₁ g₂) ?_
    rw [List.length_cons, Nat.mul_add, Nat.mul_one, Nat.add_comm]
    exact Nat.le_refl _
end
end Mine
end
section
open PySem PySem.W PyProof.Rows
set_option maxRecDepth 100000
namespace Mine

theorem modify_app {α : Type} (f : α → α) (b : List α) (i : Nat) : ∀ a : List α, (a ++ b).modify (a.length + i) f = a ++ b.modify i f
  | [] => by simp
  | x :: a => by
    rw [List.cons_append, List.length_cons, show a.length + 1 + i = a.length + i + 1 by omega, List.modify_succ_cons, modify_app f b i a, List.cons_append]
theorem modify_at {α : Type} (f : α → α) : ∀ (l : List α) (i : Nat) (a : α), l[i]? = some a → l.modify i f = l.set i (f a)
  | [], _, _, h => by simp at h
  | x :: l, 0, a, h => by simp at h; subst h; rfl
  | x :: l, i + 1, a, h => by rw [List.modify_succ_cons, List.set_cons_succ, modify_at f l i a (by simpa using h)]
/-- a heap and objects of one's own behind it -/
noncomputable def hp (h : Heap) (l : List Obj) : Heap := ⟨h.objs ++ l.toArray, h.life⟩
theorem hp_nil (h : Heap) : hp h [] = h := by obtain ⟨o, l⟩ := h; simp [hp]
theorem hp_size (h : Heap) (l : List Obj) : (hp h l).objs.size = h.objs.size + l.length := by simp [hp]
theorem hp_push (h : Heap) (l : List Obj) (o : Obj) : (hp h l).push o = hp h (l ++ [o]) := by
  unfold hp
  show (⟨(h.objs ++ l.toArray).push o, h.life⟩ : Heap) = _
  congr 1
  rw [← Array.append_singleton, Array.append_assoc]; congr 1; simp
theorem hp_update (h : Heap) (l : List Obj) (i : Nat) (f : Obj → Obj) : (hp h l).update (h.objs.size + i) f = hp h (l.modify i f) := by
  unfold hp
  show (⟨(h.objs ++ l.toArray).modify (h.objs.size + i) f, h.life⟩ : Heap) = _
  congr 1
  apply Array.ext'
  rw [Array.toList_modify, Array.toList_append, Array.toList_append]
  rw [show h.objs.size + i = h.objs.toList.length + i by simp, modify_app]
theorem hp_get {h : Heap} {l : List Obj} {i : Nat} {o : Obj} (e : l[i]? = some o) (hf : o.isFreed = false) : (hp h l).get? (h.objs.size + i) = some o := by
  have : (hp h l).objs[h.objs.size + i]? = some o := by
    show (h.objs ++ l.toArray)[h.objs.size + i]? = some o
    rw [Array.getElem?_append_right (by omega)]
    simpa using e
  unfold Heap.get?
  rw [this]
  obtain ⟨c, d, dt, sl⟩ := o
  cases dt <;> first | rfl | (cases hf)

noncomputable def dob (es : List DictEntry) (n : Nat) : Obj := ⟨.type "dict", none, .dict es.toArray n, #[]⟩
theorem dob_push (es : List DictEntry) (n : Nat) (e : DictEntry) : Obj.mapDictKeys (·.push e) (dob es n) = dob (es ++ [e]) (n + 1) := by
  show (⟨.type "dict", none, .dict (es.toArray.push e) (n + 1), #[]⟩ : Obj) = _
  unfold dob
  congr 2
  simp

noncomputable abbrev Pr := Int × Str
noncomputable def treePair (q : Pos) (kx : Pr) : Sem Value × Sem Value := (mkInt kx.1, do let v ← mkText kx.2; standAt q; pure v)
noncomputable def ent (kx : Pr) (a b : Nat) : DictEntry := ⟨hashInt kx.1, .int kx.1 a, .str kx.2 b⟩
noncomputable def entsL : Nat → List Pr → List DictEntry
  | _, [] => []
  | t, kx :: r => ent kx t (t + 1) :: entsL (t + 3) r
noncomputable def entsS : Nat → List Pr → List DictEntry
  | _, [] => []
  | t, kx :: r => ent kx t (t + 1) :: entsS (t + 2) r
theorem entsL_snoc (kx : Pr) : ∀ (c : List Pr) (t : Nat), entsL t (c ++ [kx]) = entsL t c ++ [ent kx (t + 3 * c.length) (t + 3 * c.length + 1)]
  | [], t => rfl
  | y :: c, t => by
    rw [List.cons_append, entsL, entsL, entsL_snoc kx c (t + 3), List.cons_append, List.length_cons, show t + 3 + 3 * c.length = t + 3 * (c.length + 1) by omega]
theorem entsL_hash : ∀ (c : List Pr) (t : Nat), (entsL t c).map (·.hash) = c.map fun kx => hashInt kx.1
  | [], _ => rfl
  | y :: c, t => by rw [entsL, List.map_cons, List.map_cons, entsL_hash c]; rfl
theorem entsS_hash : ∀ (c : List Pr) (t : Nat), (entsS t c).map (·.hash) = c.map fun kx => hashInt kx.1
  | [], _ => rfl
  | y :: c, t => by rw [entsS, List.map_cons, List.map_cons, entsS_hash c]; rfl
theorem entsL_length : ∀ (c : List Pr) (t : Nat), (entsL t c).length = c.length
  | [], _ => rfl
  | y :: c, t => by rw [entsL, List.length_cons, List.length_cons, entsL_length c]
theorem entsS_length : ∀ (c : List Pr) (t : Nat), (entsS t c).length = c.length
  | [], _ => rfl
  | y :: c, t => by rw [entsS, List.length_cons, List.length_cons, entsS_length c]

section
variable {tb : String → Option Builtin} {p : Program} {w : World} {n₀ : Nat} {ann : Option Value}

/-- a state: a heap, so many tokens -/
noncomputable def at_ (s : Shared) (h : Heap) (t : Nat) : Shared := { s with heap := h, toks := t }

theorem goes_store (he : entryFor tb "int.__hash__" = some Builtin.«int.__hash__») {s : Shared} {h : Heap} (hn : n₀ ≤ h.objs.size) {l : List Obj} {i t : Nat} {es : List DictEntry} {n : Nat} {kx : Pr} {a b : Nat}
    (hl : l[i]? = some (dob es n)) (hz : es.length ≤ sizeLine) (hno : ∀ e ∈ es, e.hash ≠ hashInt kx.1) :
    Goes tb p w n₀ ann 10 (dictSet (h.objs.size + i) (.int kx.1 a) (.str kx.2 b)) (at_ s (hp h l) t) () (at_ s (hp h (l.set i (dob (es ++ [ent kx a b]) (n + 1)))) (t + 1)) := by
  have g := goes_dictSet (tb := tb) (p := p) (w := w) (n₀ := n₀) (ann := ann) he (s := at_ s (hp h l) t) (d := h.objs.size + i) (k := kx.1) (t := a) (v := .str kx.2 b) (es := es.toArray) (n := n)
    (hp_get (o := dob es n) hl rfl) (by rw [show Nat.ble n₀ (h.objs.size + i) = true from Nat.ble_eq_true_of_le (by omega)]; simp) (by simpa using hz) (by simpa using hno)
  have e : (hp h l).update (h.objs.size + i) (Obj.mapDictKeys (·.push ⟨hashInt kx.1, .int kx.1 a, .str kx.2 b⟩)) = hp h (l.set i (dob (es ++ [ent kx a b]) (n + 1))) := by
    rw [hp_update]
    congr 1
    rw [modify_at _ _ _ _ hl]
    show (l.set i (Obj.mapDictKeys (·.push (ent kx a b)) (dob es n))) = _
    rw [dob_push]
  have e2 : ({ at_ s (hp h l) t with heap := (at_ s (hp h l) t).heap.update (h.objs.size + i) (Obj.mapDictKeys (·.push ⟨hashInt kx.1, .int kx.1 a, .str kx.2 b⟩)), toks := (at_ s (hp h l) t).toks + 1 } : Shared) =
      at_ s (hp h (l.set i (dob (es ++ [ent kx a b]) (n + 1)))) (t + 1) := by
    show at_ s ((hp h l).update _ _) (t + 1) = _
    rw [e]
  rw [← e2]
  exact g

theorem set_last {α : Type} (l : List α) (a b : α) : (l ++ [a]).set l.length b = l ++ [b] := by
  rw [List.set_append_right _ _ (Nat.le_refl _)]; simp
theorem get_last {α : Type} (l : List α) (a : α) : (l ++ [a])[l.length]? = some a := by simp

theorem goes_subLong (he : entryFor tb "int.__hash__" = some Builtin.«int.__hash__») {s : Shared} {h : Heap} (hn : n₀ ≤ h.objs.size) (q : Pos) (l : List Obj) (t : Nat) (c : List Pr) (hc : ¬ c.length ≤ 15) (hsz : c.length ≤ sizeLine)
    (hd : (c.map fun kx => hashInt kx.1).Nodup) :
    Goes tb p w n₀ ann (2 + 14 * c.length) (subDict (c.map (treePair q))) (at_ s (hp h l) t) (h.objs.size + l.length) (at_ s (hp h (l ++ [dob (entsL t c) c.length])) (t + 3 * c.length)) := by
  unfold subDict
  refine goes_le (goes_bind (k₁ := 1) (k₂ := 1 + 14 * c.length) (a := h.objs.size + l.length) (s₁ := at_ s (hp h (l ++ [dob [] 0])) t) ?_ ?_) (by omega)
  · have := goes_alloc (tb := tb) (p := p) (w := w) (n₀ := n₀) (ann := ann) (s := at_ s (hp h l) t) (o := { cls := .type "dict", data := .dict #[] })
    have e : (at_ s (hp h l) t).heap.objs.size = h.objs.size + l.length := hp_size h l
    rw [e] at this
    have e2 : ({ at_ s (hp h l) t with heap := (at_ s (hp h l) t).heap.push { cls := .type "dict", data := .dict #[] } } : Shared) = at_ s (hp h (l ++ [dob [] 0])) t := by
      show at_ s ((hp h l).push _) t = _
      rw [hp_push]; rfl
    rw [e2] at this
    exact this
  rw [if_neg (by rw [List.length_map]; exact hc)]
  refine goes_bind (k₁ := 1 + 14 * c.length) (k₂ := 0) (a := ()) (s₁ := at_ s (hp h (l ++ [dob (entsL t c) c.length])) (t + 3 * c.length)) ?_ goes_pure
  refine goes_holding (goes_bind (k₁ := 1) (k₂ := 14 * c.length) goes_rule ?_)
  obtain ⟨b', s', g, done, todo, e1, e2, e3⟩ := goes_forIn (tb := tb) (p := p) (w := w) (n₀ := n₀) (ann := ann) (k := 14) (f := fun (x : Sem Value × Sem Value) (_ : PUnit) =>
      match x with
      | (k, v) => do
        let kv ← k
        let vv ← holding [kv] v
        holding [kv, vv] (dictSet (h.objs.size + l.length) kv vv)
        pure (ForInStep.yield PUnit.unit))
    (fun rest _ s' => ∃ done todo, c = done ++ todo ∧ rest = todo.map (treePair q) ∧ s' = at_ s (hp h (l ++ [dob (entsL t done) done.length])) (t + 3 * done.length)) (by
      rintro x rest b s' ⟨done, todo, e1, e2, rfl⟩
      cases todo with
      | nil => cases e2
      | cons kx todo =>
        rw [List.map_cons] at e2
        obtain ⟨rfl, rfl⟩ := List.cons.inj e2
        refine ⟨PUnit.unit, at_ s (hp h (l ++ [dob (entsL t (done ++ [kx])) (done ++ [kx]).length])) (t + 3 * (done ++ [kx]).length), ?_, done ++ [kx], todo, by rw [e1]; simp, rfl, rfl⟩
        show Goes tb p w n₀ ann 14 (do
          let kv ← mkInt kx.1
          let vv ← holding [kv] (do let v ← mkText kx.2; standAt q; pure v)
          holding [kv, vv] (dictSet (h.objs.size + l.length) kv vv)
          pure (ForInStep.yield PUnit.unit)) _ _ _
        have hlen : done.length ≤ c.length := by rw [e1]; simp
        refine goes_bind (k₁ := 1) (k₂ := 13) goes_mkInt ?_
        refine goes_bind (k₁ := 2) (k₂ := 11) (goes_holding (goes_bind (k₁ := 1) (k₂ := 1) goes_mkText (goes_bind (k₁ := 1) (k₂ := 0) goes_at goes_pure))) ?_
        refine goes_le (goes_bind (k₁ := 10) (k₂ := 0) (a := ()) (goes_holding ?_) goes_pure) (by omega)
        have st := goes_store (tb := tb) (p := p) (w := w) (ann := ann) he (s := s) hn (l := l ++ [dob (entsL t done) done.length]) (i := l.length) (t := t + 3 * done.length + 2) (es := entsL t done) (n := done.length) (kx := kx)
          (a := t + 3 * done.length) (b := t + 3 * done.length + 1) (get_last _ _) (by rw [entsL_length]; omega) (by
            intro e he' hq
            have h1 : e.hash ∈ done.map fun kx => hashInt kx.1 := by rw [← entsL_hash done t]; exact List.mem_map.mpr ⟨e, he', rfl⟩
            rw [e1, List.map_append, List.map_cons] at hd
            exact (List.nodup_append.mp hd).2.2 _ h1 _ (List.mem_cons_self) hq)
        rw [set_last] at st
        have e5 : (done ++ [kx]).length = done.length + 1 := by simp
        rw [entsL_snoc, e5, show t + 3 * (done.length + 1) = t + 3 * done.length + 2 + 1 by omega]
        exact st) (c.map (treePair q)) PUnit.unit (at_ s (hp h (l ++ [dob [] 0])) t) ⟨[], c, rfl, rfl, rfl⟩
  have e4 : todo = [] := by cases todo with | nil => rfl | cons => cases e2
  subst e4
  rw [List.append_nil] at e1
  subst e1 e3
  rw [List.length_map] at g
  refine goes_bind (k₁ := 14 * c.length) (k₂ := 0) g ?_
  exact goes_pure
end
end Mine
end
section
open PySem PySem.W PyProof.Rows
set_option maxRecDepth 100000
namespace Mine
theorem entsS_snoc (kx : Pr) : ∀ (c : List Pr) (t : Nat), entsS t (c ++ [kx]) = entsS t c ++ [ent kx (t + 2 * c.length) (t + 2 * c.length + 1)]
  | [], t => rfl
  | y :: c, t => by
    rw [List.cons_append, entsS, entsS, entsS_snoc kx c (t + 2), List.cons_append, List.length_cons, show t + 2 + 2 * c.length = t + 2 * (c.length + 1) by omega]
noncomputable def valsS : Nat → List Pr → List (Value × Value)
  | _, [] => []
  | t, kx :: r => (.int kx.1 t, .str kx.2 (t + 1)) :: valsS (t + 2) r
theorem valsS_length : ∀ (c : List Pr) (t : Nat), (valsS t c).length = c.length
  | [], _ => rfl
  | y :: c, t => by rw [valsS, List.length_cons, List.length_cons, valsS_length c]

section
variable {tb : String → Option Builtin} {p : Program} {w : World} {n₀ : Nat} {ann : Option Value}

theorem goes_evalPairs {s : Shared} {H : Heap} (q : Pos) : ∀ (c : List Pr) (t : Nat), Goes tb p w n₀ ann (3 * c.length) (evalPairs (c.map (treePair q))) (at_ s H t) (valsS t c) (at_ s H (t + 2 * c.length))
  | [], t => goes_pure
  | kx :: c, t => by
    show Goes tb p w n₀ ann _ (do
      let kv ← mkInt kx.1
      let vv ← holding [kv] (do let v ← mkText kx.2; standAt q; pure v)
      let r ← holding [kv, vv] (evalPairs (c.map (treePair q)))
      pure ((kv, vv) :: r)) _ _ _
    refine goes_le (goes_bind (k₁ := 1) (k₂ := 2 + (3 * c.length + 0)) goes_mkInt ?_) (by rw [List.length_cons]; omega)
    refine goes_bind (k₁ := 2) (goes_holding (goes_bind (k₁ := 1) (k₂ := 1) goes_mkText (goes_bind (k₁ := 1) (k₂ := 0) goes_at goes_pure))) ?_
    have ih := goes_evalPairs (s := s) (H := H) q c (t + 2)
    rw [show t + 2 + 2 * c.length = t + 2 * (kx :: c).length by rw [List.length_cons]; omega] at ih
    exact goes_bind (goes_holding ih) goes_pure

theorem goes_newSub {s : Shared} {h : Heap} (l : List Obj) (t : Nat) : Goes tb p w n₀ ann 1 (alloc { cls := .type "dict", data := .dict #[] }) (at_ s (hp h l) t) (h.objs.size + l.length) (at_ s (hp h (l ++ [dob [] 0])) t) := by
  have := goes_alloc (tb := tb) (p := p) (w := w) (n₀ := n₀) (ann := ann) (s := at_ s (hp h l) t) (o := { cls := .type "dict", data := .dict #[] })
  have e : (at_ s (hp h l) t).heap.objs.size = h.objs.size + l.length := hp_size h l
  rw [e] at this
  have e2 : ({ at_ s (hp h l) t with heap := (at_ s (hp h l) t).heap.push { cls := .type "dict", data := .dict #[] } } : Shared) = at_ s (hp h (l ++ [dob [] 0])) t := by
    show at_ s ((hp h l).push _) t = _
    rw [hp_push]; rfl
  rw [e2] at this
  exact this

theorem goes_subShort (he : entryFor tb "int.__hash__" = some Builtin.«int.__hash__») {s : Shared} {h : Heap} (hn : n₀ ≤ h.objs.size) (q : Pos) (l : List Obj) (t : Nat) (c : List Pr) (hc : c.length ≤ 15)
    (hd : (c.map fun kx => hashInt kx.1).Nodup) :
    Goes tb p w n₀ ann (2 + 14 * c.length) (subDict (c.map (treePair q))) (at_ s (hp h l) t) (h.objs.size + l.length) (at_ s (hp h (l ++ [dob (entsS t c) c.length])) (t + 3 * c.length)) := by
  unfold subDict
  refine goes_le (goes_bind (k₁ := 1) (k₂ := 13 * c.length) (s₁ := at_ s (hp h (l ++ [dob [] 0])) t) (goes_newSub l t) ?_) (by omega)
  rw [if_pos (by rw [List.length_map]; exact hc)]
  refine goes_bind (k₁ := 13 * c.length) (k₂ := 0) (a := ()) (s₁ := at_ s (hp h (l ++ [dob (entsS t c) c.length])) (t + 3 * c.length)) ?_ goes_pure
  refine goes_holding (goes_le (goes_bind (k₁ := 3 * c.length) (k₂ := 10 * c.length) (goes_evalPairs q c t) ?_) (by omega))
  refine goes_holding ?_
  obtain ⟨b', s', g, done, todo, e1, e2, e3⟩ := goes_forIn (tb := tb) (p := p) (w := w) (n₀ := n₀) (ann := ann) (k := 10) (f := fun (x : Value × Value) (_ : PUnit) =>
      match x with
      | (k, v) => do
        dictSet (h.objs.size + l.length) k v
        pure (ForInStep.yield PUnit.unit))
    (fun rest _ s' => ∃ done todo, c = done ++ todo ∧ rest = valsS (t + 2 * done.length) todo ∧ s' = at_ s (hp h (l ++ [dob (entsS t done) done.length])) (t + 2 * c.length + done.length)) (by
      rintro x rest b s' ⟨done, todo, e1, e2, rfl⟩
      cases todo with
      | nil => cases e2
      | cons kx todo =>
        rw [valsS] at e2
        obtain ⟨rfl, rfl⟩ := List.cons.inj e2
        have e5 : (done ++ [kx]).length = done.length + 1 := by simp
        refine ⟨PUnit.unit, at_ s (hp h (l ++ [dob (entsS t (done ++ [kx])) (done ++ [kx]).length])) (t + 2 * c.length + (done ++ [kx]).length), ?_, done ++ [kx], todo, by rw [e1]; simp, by rw [e5]; rfl, rfl⟩
        show Goes tb p w n₀ ann 10 (do
          dictSet (h.objs.size + l.length) (.int kx.1 (t + 2 * done.length)) (.str kx.2 (t + 2 * done.length + 1))
          pure (ForInStep.yield PUnit.unit)) _ _ _
        have hlen : done.length ≤ c.length := by rw [e1]; simp
        refine goes_bind (k₁ := 10) (k₂ := 0) (a := ()) ?_ goes_pure
        have st := goes_store (tb := tb) (p := p) (w := w) (ann := ann) he (s := s) hn (l := l ++ [dob (entsS t done) done.length]) (i := l.length) (t := t + 2 * c.length + done.length) (es := entsS t done) (n := done.length) (kx := kx)
          (a := t + 2 * done.length) (b := t + 2 * done.length + 1) (get_last _ _) (by rw [entsS_length, sizeLine_eq]; omega) (by
            intro e he' hq
            have h1 : e.hash ∈ done.map fun kx => hashInt kx.1 := by rw [← entsS_hash done t]; exact List.mem_map.mpr ⟨e, he', rfl⟩
            rw [e1, List.map_append, List.map_cons] at hd
            exact (List.nodup_append.mp hd).2.2 _ h1 _ (List.mem_cons_self) hq)
        rw [set_last] at st
        rw [entsS_snoc, e5, show t + 2 * c.length + (done.length + 1) = t + 2 * c.length + done.length + 1 by omega]
        exact st) (valsS t c) PUnit.unit (at_ s (hp h (l ++ [dob [] 0])) (t + 2 * c.length)) ⟨[], c, rfl, rfl, rfl⟩
  have e4 : todo = [] := by cases todo with | nil => rfl | cons => cases e2
  subst e4
  rw [List.append_nil] at e1
  subst e1 e3
  rw [valsS_length] at g
  rw [show t + 2 * c.length + c.length = t + 3 * c.length by omega] at g
  exact goes_bind (k₁ := 10 * c.length) (k₂ := 0) g goes_pure

theorem goes_isDict {s : Shared} {a : Addr} {o : Obj} (ho : s.heap.get? a = some o) (hc : o.cls = .type "dict") : Goes tb p w n₀ ann 1 (isInstance (.ref a) (.type "dict")) s true s := by
  unfold isInstance
  show Goes tb p w n₀ ann 1 ((do return (← loadPart a (some headPart)).cls) >>= fun t => isSubtype t (.type "dict")) s true s
  refine goes_bind (k₁ := 1) (k₂ := 0) (goes_bind (k₁ := 1) (k₂ := 0) (goes_loadPart ho) goes_pure) ?_
  rw [hc, isSubtype_dict_dict]
  exact goes_pure
theorem goes_dictIter {s : Shared} {a : Addr} {o : Obj} (ho : s.heap.get? a = some o) (hc : o.cls = .type "dict") : Goes tb p w n₀ ann 1 (specialOf (.ref a) "__iter__") s (some (.builtin "dict.__iter__")) s := by
  unfold specialOf
  show Goes tb p w n₀ ann 1 ((do return (← loadPart a (some headPart)).cls) >>= fun t => typeLookup t "__iter__") s _ s
  refine goes_bind (k₁ := 1) (k₂ := 0) (goes_bind (k₁ := 1) (k₂ := 0) (goes_loadPart ho) goes_pure) ?_
  rw [hc, PySem.F.slot_dict_iter.lookup]
  exact goes_pure

theorem goes_merge {s : Shared} {h : Heap} (hn : n₀ ≤ h.objs.size) (hm : sysModules < h.objs.size) {l : List Obj} {j t : Nat} {es ss : List DictEntry} {n m : Nat} (h0 : l[0]? = some (dob es n)) (hj : l[j]? = some (dob ss m)) (hj0 : j ≠ 0) (hne : es ≠ [])
    (hz : es.length + ss.length ≤ sizeLine) (hd : ((es ++ ss).map (·.hash)).Nodup) (hk : ∀ e ∈ ss, ∃ k t, e.key = .int k t) :
    Goes tb p w n₀ ann (5 + 6 * ss.length) (mergeMapping (h.objs.size + 0) (.ref (h.objs.size + j)) false) (at_ s (hp h l) t) () (at_ s (hp h (l.set 0 (dob (es ++ ss) (n + ss.length)))) t) := by
  have hl : 0 < l.length := by
    cases l with
    | nil => simp at h0
    | cons => simp
  have gj : ∀ l' : List Obj, l'[j]? = some (dob ss m) → (at_ s (hp h l') t).heap.get? (h.objs.size + j) = some (dob ss m) := fun l' e => hp_get e rfl
  have g0 : (at_ s (hp h l) t).heap.get? (h.objs.size + 0) = some (dob es n) := hp_get h0 rfl
  unfold mergeMapping
  refine goes_le (goes_bind (k₁ := 1) (k₂ := 4 + 6 * ss.length) (goes_isDict (gj l hj) rfl) ?_) (by omega)
  dsimp only
  rw [if_pos rfl]
  refine goes_le (goes_bind (k₁ := 1) (k₂ := 3 + 6 * ss.length) (goes_dictIter (gj l hj) rfl) ?_) (by omega)
  refine goes_le (goes_bind (k₁ := 0) (k₂ := 3 + 6 * ss.length) (a := true) (s₁ := at_ s (hp h l) t) (goes_eq (show (pure (some (Value.builtin "dict.__iter__") == some (Value.builtin "dict.__iter__")) : Sem Bool) = pure true by rw [beq_self_eq_true]) goes_pure) ?_) (by omega)
  dsimp only
  rw [if_neg (by
    intro e
    have e' : h.objs.size + j = sysModules := eq_of_beq e
    have h' : sysModules < h.objs.size + j := Nat.lt_of_lt_of_le hm (Nat.le_add_right ..)
    rw [e'] at h'
    exact Nat.lt_irrefl _ h')]
  refine goes_le (goes_bind (k₁ := 1) (k₂ := 2 + 6 * ss.length) (goes_dictEntries (o := dob es n) g0 rfl) ?_) (by omega)
  rw [if_neg (by
    intro e
    rw [Array.isEmpty_iff] at e
    exact hne (by simpa using e))]
  refine goes_le (goes_bind (k₁ := 1) (k₂ := 1 + 6 * ss.length) (goes_dictEntries (o := dob ss m) (gj l hj) rfl) ?_) (by omega)
  refine goes_le (goes_bind (k₁ := 1) (k₂ := 6 * ss.length) (goes_dictEpoch (o := dob ss m) (gj l hj) rfl) ?_) (by omega)
  rw [List.size_toArray]
  obtain ⟨b', s', g, i, e2, e3, e4⟩ := goes_forIn (tb := tb) (p := p) (w := w) (n₀ := n₀) (ann := ann) (k := 6) (f := fun (i : Nat) (_ : PUnit) => do
      let __do_lift ← dictEntries (h.objs.size + j)
      match __do_lift[i]? with
        | some e => do
          holding [e.key, e.val] (dictPut (h.objs.size + 0) e.hash e.key e.val)
          let __do_lift ← dictEpoch (h.objs.size + j)
          if (__do_lift != m) = true then do
              unsupported "dict.changed-during-merge"
              pure (ForInStep.yield PUnit.unit)
            else pure (ForInStep.yield PUnit.unit)
        | x => do
          unsupported "dict.changed-during-merge"
          pure (ForInStep.yield PUnit.unit))
    (fun rest _ s' => ∃ i, rest = List.range' i (ss.length - i) ∧ i ≤ ss.length ∧ s' = at_ s (hp h (l.set 0 (dob (es ++ ss.take i) (n + i)))) t) (by
      rintro x rest b s' ⟨i, e1, e2, rfl⟩
      have hi : i < ss.length := by
        rcases Nat.lt_or_ge i ss.length with h' | h'
        · exact h'
        · rw [Nat.sub_eq_zero_of_le h'] at e1; cases e1
      rw [sub_step hi, List.range'_succ] at e1
      obtain ⟨rfl, rfl⟩ := List.cons.inj e1
      refine ⟨PUnit.unit, at_ s (hp h (l.set 0 (dob (es ++ ss.take (x + 1)) (n + (x + 1))))) t, ?_, x + 1, rfl, hi, rfl⟩
      have hset : (l.set 0 (dob (es ++ ss.take x) (n + x)))[j]? = some (dob ss m) := by rw [List.getElem?_set_ne (Ne.symm hj0)]; exact hj
      refine goes_bind (k₁ := 1) (k₂ := 5) (goes_dictEntries (o := dob ss m) (gj _ hset) rfl) ?_
      rw [show (ss.toArray)[x]? = some ss[x] by simp [hi]]
      dsimp only
      have hset' : (l.set 0 (dob (es ++ ss.take (x + 1)) (n + (x + 1))))[j]? = some (dob ss m) := by rw [List.getElem?_set_ne (Ne.symm hj0)]; exact hj
      refine goes_bind (k₁ := 4) (k₂ := 1) (a := ()) (s₁ := at_ s (hp h (l.set 0 (dob (es ++ ss.take (x + 1)) (n + (x + 1))))) t) (goes_holding ?_) ?_
      · obtain ⟨k, tk, hk'⟩ := hk ss[x] (List.getElem_mem hi)
        have hg : (l.set 0 (dob (es ++ ss.take x) (n + x)))[0]? = some (dob (es ++ ss.take x) (n + x)) := by rw [List.getElem?_set_self hl]
        have st := goes_dictPut (tb := tb) (p := p) (w := w) (n₀ := n₀) (ann := ann) (s := at_ s (hp h (l.set 0 (dob (es ++ ss.take x) (n + x)))) t) (d := h.objs.size + 0) (k := k) (t := tk) (h := ss[x].hash) (v := ss[x].val) (es := (es ++ ss.take x).toArray) (n := n + x)
          (hp_get (o := dob (es ++ ss.take x) (n + x)) hg rfl) (by rw [show Nat.ble n₀ (h.objs.size + 0) = true from Nat.ble_eq_true_of_le (by omega)]; simp) (by simp; omega) (by
            intro e he' hq
            have h1 : e.hash ∈ (es ++ ss.take x).map (·.hash) := List.mem_map.mpr ⟨e, by simpa using he', rfl⟩
            have h2 : es ++ ss = (es ++ ss.take x) ++ (ss[x] :: ss.drop (x + 1)) := by
              rw [List.append_assoc]; congr 1
              rw [← List.drop_eq_getElem_cons hi, List.take_append_drop]
            rw [h2, List.map_append, List.map_cons] at hd
            exact (List.nodup_append.mp hd).2.2 _ h1 _ (List.mem_cons_self) hq)
        have ekey : (⟨ss[x].hash, .int k tk, ss[x].val⟩ : DictEntry) = ss[x] := by rw [← hk']
        rw [hk']
        have e : ({ at_ s (hp h (l.set 0 (dob (es ++ ss.take x) (n + x)))) t with heap := (at_ s (hp h (l.set 0 (dob (es ++ ss.take x) (n + x)))) t).heap.update (h.objs.size + 0) (Obj.mapDictKeys (·.push ⟨ss[x].hash, .int k tk, ss[x].val⟩)) } : Shared) =
            at_ s (hp h (l.set 0 (dob (es ++ ss.take (x + 1)) (n + (x + 1))))) t := by
          show at_ s ((hp h _).update (h.objs.size + 0) _) t = _
          rw [hp_update, modify_at _ _ _ _ hg, List.set_set, ekey, dob_push, List.append_assoc, List.take_append_getElem hi]
          rfl
        rw [e] at st
        exact st
      · refine goes_bind (k₁ := 1) (k₂ := 0) (goes_dictEpoch (o := dob ss m) (gj _ hset') rfl) ?_
        rw [if_neg (by simp)]
        exact goes_pure) (List.range ss.length) PUnit.unit (at_ s (hp h l) t) ⟨0, by rw [List.range_eq_range', Nat.sub_zero], Nat.zero_le _, by
          show at_ s (hp h l) t = at_ s (hp h (l.set 0 (dob (es ++ []) (n + 0)))) t
          rw [List.append_nil, Nat.add_zero]
          congr 2
          cases l with
          | nil => cases hl
          | cons a l => simp at h0; subst h0; rfl⟩
  have e5 : i = ss.length := by
    rcases Nat.lt_or_ge i ss.length with h' | h'
    · rw [sub_step h', List.range'_succ] at e2; cases e2
    · omega
  subst e5 e4
  rw [List.length_range, List.take_of_length_le (Nat.le_refl _)] at g
  exact goes_bind (k₁ := 6 * ss.length) (k₂ := 0) g goes_pure
end
end Mine
end
section
open PySem PySem.W PyProof.Rows
set_option maxRecDepth 100000
namespace Mine
noncomputable def chunkEnts (t : Nat) (c : List Pr) : List DictEntry := if c.length ≤ 15 then entsS t c else entsL t c
theorem chunkEnts_hash (c : List Pr) (t : Nat) : (chunkEnts t c).map (·.hash) = c.map fun kx => hashInt kx.1 := by
  unfold chunkEnts; split
  · exact entsS_hash c t
  · exact entsL_hash c t
theorem chunkEnts_length (c : List Pr) (t : Nat) : (chunkEnts t c).length = c.length := by
  unfold chunkEnts; split
  · exact entsS_length c t
  · exact entsL_length c t
theorem entsS_key : ∀ (c : List Pr) (t : Nat), ∀ e ∈ entsS t c, ∃ k t, e.key = .int k t
  | [], _, _, h => by cases h
  | y :: c, t, e, h => by
    rcases List.mem_cons.mp h with rfl | h
    · exact ⟨_, _, rfl⟩
    · exact entsS_key c _ e h
theorem entsL_key : ∀ (c : List Pr) (t : Nat), ∀ e ∈ entsL t c, ∃ k t, e.key = .int k t
  | [], _, _, h => by cases h
  | y :: c, t, e, h => by
    rcases List.mem_cons.mp h with rfl | h
    · exact ⟨_, _, rfl⟩
    · exact entsL_key c _ e h
theorem chunkEnts_key (c : List Pr) (t : Nat) : ∀ e ∈ chunkEnts t c, ∃ k t, e.key = .int k t := by
  unfold chunkEnts; split
  · exact entsS_key c t
  · exact entsL_key c t
noncomputable def mainEnts : Nat → List (List Pr) → List DictEntry
  | _, [] => []
  | t, c :: cs => chunkEnts t c ++ mainEnts (t + 3 * c.length) cs
noncomputable def subObjs : Nat → List (List Pr) → List Obj
  | _, [] => []
  | t, c :: cs => dob (chunkEnts t c) c.length :: subObjs (t + 3 * c.length) cs
noncomputable def ownOf (t : Nat) : List (List Pr) → List Obj
  | [] => []
  | c :: cs => dob (mainEnts t (c :: cs)) (c :: cs).flatten.length :: subObjs (t + 3 * c.length) cs
theorem mainEnts_snoc (c : List Pr) : ∀ (cs : List (List Pr)) (t : Nat), mainEnts t (cs ++ [c]) = mainEnts t cs ++ chunkEnts (t + 3 * cs.flatten.length) c
  | [], t => by simp [mainEnts]
  | d :: cs, t => by
    rw [List.cons_append, mainEnts, mainEnts, mainEnts_snoc c cs, List.append_assoc, List.flatten_cons, List.length_append, show t + 3 * d.length + 3 * cs.flatten.length = t + 3 * (d.length + cs.flatten.length) by omega]
theorem subObjs_snoc (c : List Pr) : ∀ (cs : List (List Pr)) (t : Nat), subObjs t (cs ++ [c]) = subObjs t cs ++ [dob (chunkEnts (t + 3 * cs.flatten.length) c) c.length]
  | [], t => by simp [subObjs]
  | d :: cs, t => by
    rw [List.cons_append, subObjs, subObjs, subObjs_snoc c cs, List.cons_append, List.flatten_cons, List.length_append, show t + 3 * d.length + 3 * cs.flatten.length = t + 3 * (d.length + cs.flatten.length) by omega]
theorem mainEnts_hash : ∀ (cs : List (List Pr)) (t : Nat), (mainEnts t cs).map (·.hash) = cs.flatten.map fun kx => hashInt kx.1
  | [], _ => rfl
  | c :: cs, t => by rw [mainEnts, List.map_append, chunkEnts_hash, mainEnts_hash cs, List.flatten_cons, List.map_append]
theorem mainEnts_length (cs : List (List Pr)) (t : Nat) : (mainEnts t cs).length = cs.flatten.length := by
  have := congrArg List.length (mainEnts_hash cs t)
  rw [List.length_map, List.length_map] at this
  exact this
theorem ownOf_snoc {c : List Pr} {d : List Pr} {cs : List (List Pr)} (t : Nat) : ownOf t (d :: cs ++ [c]) =
    ((ownOf t (d :: cs)) ++ [dob (chunkEnts (t + 3 * (d :: cs).flatten.length) c) c.length]).set 0 (dob (mainEnts t (d :: cs) ++ chunkEnts (t + 3 * (d :: cs).flatten.length) c) ((d :: cs).flatten.length + c.length)) := by
  show dob (mainEnts t (d :: cs ++ [c])) (d :: cs ++ [c]).flatten.length :: subObjs (t + 3 * d.length) (cs ++ [c]) = _
  rw [mainEnts_snoc, subObjs_snoc]
  show _ = dob (mainEnts t (d :: cs) ++ chunkEnts (t + 3 * (d :: cs).flatten.length) c) ((d :: cs).flatten.length + c.length) :: (subObjs (t + 3 * d.length) cs ++ [dob (chunkEnts (t + 3 * (d :: cs).flatten.length) c) c.length])
  rw [show (d :: cs ++ [c]).flatten.length = (d :: cs).flatten.length + c.length by simp; omega, show t + 3 * d.length + 3 * cs.flatten.length = t + 3 * (d :: cs).flatten.length by simp; omega]

noncomputable def flushD (run : List (Sem Value × Sem Value)) (main : Option Addr) : Sem (Option Addr) :=
  if run.isEmpty = true then pure main
  else
    match main with
    | none => do
      let r ← subDict run
      pure (some r)
    | some d => do
      let sub ← holding [Value.ref d] (subDict run)
      (holding [Value.ref d, Value.ref sub] (mergeMapping d (Value.ref sub) false)).onRaise fun x => do
          let _ ← holding [Value.ref d, x] (runValue (Code.builtin "proto.let_go" { }))
          pure ()
      pure (some d)

section
variable {tb : String → Option Builtin} {p : Program} {w : World} {n₀ : Nat} {ann : Option Value}
theorem goes_sub (he : entryFor tb "int.__hash__" = some Builtin.«int.__hash__») {s : Shared} {h : Heap} (hn : n₀ ≤ h.objs.size) (q : Pos) (l : List Obj) (t : Nat) (c : List Pr) (hsz : c.length ≤ sizeLine)
    (hd : (c.map fun kx => hashInt kx.1).Nodup) :
    Goes tb p w n₀ ann (2 + 14 * c.length) (subDict (c.map (treePair q))) (at_ s (hp h l) t) (h.objs.size + l.length) (at_ s (hp h (l ++ [dob (chunkEnts t c) c.length])) (t + 3 * c.length)) := by
  unfold chunkEnts
  by_cases hc : c.length ≤ 15
  · rw [if_pos hc]; exact goes_subShort he hn q l t c hc hd
  · rw [if_neg hc]; exact goes_subLong he hn q l t c hc hsz hd

noncomputable def mainAt (h : Heap) : List (List Pr) → Option Addr
  | [] => none
  | _ :: _ => some (h.objs.size + 0)

theorem goes_flush (he : entryFor tb "int.__hash__" = some Builtin.«int.__hash__») {s : Shared} {h : Heap} (hn : n₀ ≤ h.objs.size) (hm : sysModules < h.objs.size) (q : Pos) (t : Nat) (cs : List (List Pr)) (c : List Pr) (hcs : ∀ d ∈ cs, d ≠ []) (hc : c ≠ [])
    (hz : (cs ++ [c]).flatten.length ≤ sizeLine) (hd : ((cs ++ [c]).flatten.map fun kx => hashInt kx.1).Nodup) :
    Goes tb p w n₀ ann (7 + 20 * c.length) (flushD (c.map (treePair q)) (mainAt h cs)) (at_ s (hp h (ownOf t cs)) (t + 3 * cs.flatten.length)) (some (h.objs.size + 0)) (at_ s (hp h (ownOf t (cs ++ [c]))) (t + 3 * (cs ++ [c]).flatten.length)) := by
  have hf : (cs ++ [c]).flatten = cs.flatten ++ c := by simp
  rw [hf] at hd hz ⊢
  rw [List.length_append] at hz
  have hdc : (c.map fun kx => hashInt kx.1).Nodup := by rw [List.map_append] at hd; exact (List.nodup_append.mp hd).2.1
  unfold flushD
  rw [if_neg (by cases c with | nil => exact absurd rfl hc | cons => simp)]
  cases cs with
  | nil =>
    show Goes tb p w n₀ ann _ (do let r ← subDict (c.map (treePair q)); pure (some r)) _ _ _
    have g := goes_sub (tb := tb) (p := p) (w := w) (ann := ann) he (s := s) hn q [] t c (by omega) hdc
    refine goes_le (goes_bind (k₁ := 2 + 14 * c.length) (k₂ := 0) g ?_) (by omega)
    have e : ownOf t ([] ++ [c]) = [] ++ [dob (chunkEnts t c) c.length] := by
      show [dob (chunkEnts t c ++ []) [c].flatten.length] = _
      simp
    rw [e, show t + 3 * (([] : List (List Pr)).flatten ++ c).length = t + 3 * c.length by simp]
    exact goes_pure
  | cons d cs =>
    show Goes tb p w n₀ ann _ (do
      let sub ← holding [Value.ref (h.objs.size + 0)] (subDict (c.map (treePair q)))
      (holding [Value.ref (h.objs.size + 0), Value.ref sub] (mergeMapping (h.objs.size + 0) (Value.ref sub) false)).onRaise fun x => do
          let _ ← holding [Value.ref (h.objs.size + 0), x] (runValue (Code.builtin "proto.let_go" { }))
          pure ()
      pure (some (h.objs.size + 0))) _ _ _
    have g := goes_sub (tb := tb) (p := p) (w := w) (ann := ann) he (s := s) hn q (ownOf t (d :: cs)) (t + 3 * (d :: cs).flatten.length) c (by omega) hdc
    refine goes_le (goes_bind (k₁ := 2 + 14 * c.length) (k₂ := 5 + 6 * c.length + 0) (goes_holding g) ?_) (by omega)
    have hlen : (ownOf t (d :: cs)).length ≠ 0 := by show (_ :: _ : List Obj).length ≠ 0; simp
    have hsl : (chunkEnts (t + 3 * (d :: cs).flatten.length) c).length = c.length := chunkEnts_length _ _
    have gm := goes_merge (tb := tb) (p := p) (w := w) (ann := ann) (s := s) hn hm (l := ownOf t (d :: cs) ++ [dob (chunkEnts (t + 3 * (d :: cs).flatten.length) c) c.length]) (j := (ownOf t (d :: cs)).length)
      (t := t + 3 * (d :: cs).flatten.length + 3 * c.length) (es := mainEnts t (d :: cs)) (ss := chunkEnts (t + 3 * (d :: cs).flatten.length) c) (n := (d :: cs).flatten.length) (m := c.length) rfl (get_last _ _) hlen (by
        intro e
        have := mainEnts_length (d :: cs) t
        rw [e] at this
        have hd' := hcs d (List.mem_cons_self)
        cases d with
        | nil => exact hd' rfl
        | cons => simp at this) (by rw [mainEnts_length, hsl]; exact hz) (by
        rw [List.map_append, mainEnts_hash, chunkEnts_hash, ← List.map_append]; exact hd) (chunkEnts_key _ _)
    rw [hsl, ← ownOf_snoc] at gm
    rw [show t + 3 * ((d :: cs).flatten ++ c).length = t + 3 * (d :: cs).flatten.length + 3 * c.length by simp; omega]
    exact goes_bind (k₁ := 5 + 6 * c.length) (k₂ := 0) (goes_onRaise (goes_holding gm)) goes_pure

noncomputable def chunkGo : List Pr → List Pr → List (List Pr)
  | [], run => if run.isEmpty then [] else [run]
  | x :: r, run => if (run ++ [x]).length = 17 then (run ++ [x]) :: chunkGo r [] else chunkGo r (run ++ [x])
noncomputable def chunks (ps : List Pr) : List (List Pr) := chunkGo ps []
theorem chunkGo_flatten : ∀ (ps run : List Pr), (chunkGo ps run).flatten = run ++ ps
  | [], run => by unfold chunkGo; split <;> simp_all
  | x :: r, run => by
    unfold chunkGo
    split
    · rw [List.flatten_cons, chunkGo_flatten r []]; simp
    · rw [chunkGo_flatten r]; simp

theorem goes_display (he : entryFor tb "int.__hash__" = some Builtin.«int.__hash__») {s : Shared} {h : Heap} (hn : n₀ ≤ h.objs.size) (hm : sysModules < h.objs.size) (q : Pos) (t : Nat) (ps : List Pr) (hp0 : ps ≠ [])
    (hz : ps.length ≤ sizeLine) (hd : (ps.map fun kx => hashInt kx.1).Nodup) :
    Goes tb p w n₀ ann (400 * ps.length + 400) (dictDisplay (ps.map fun kx => (some (treePair q kx).1, (treePair q kx).2))) (at_ s h t) (.ref h.objs.size) (at_ s (hp h (ownOf t (chunks ps))) (t + 3 * ps.length)) := by
  have hcf : (chunks ps).flatten = ps := by unfold chunks; rw [chunkGo_flatten]; rfl
  obtain ⟨f, hf, hfs⟩ : ∃ f : Option (Sem Value) × Sem Value → Option Addr × List (Sem Value × Sem Value) → Sem (ForInStep (Option Addr × List (Sem Value × Sem Value))),
      dictDisplay (ps.map fun kx => (some (treePair q kx).1, (treePair q kx).2)) = (forIn (ps.map fun kx => (some (treePair q kx).1, (treePair q kx).2)) ((none : Option Addr), ([] : List (Sem Value × Sem Value))) f >>= fun r =>
        flushD r.2 r.1 >>= fun m => match m with
          | some d => pure (Value.ref d)
          | none => newDict) ∧
      ∀ (k v : Sem Value) main (run : List (Sem Value × Sem Value)), f (some k, v) (main, run) = if ((run ++ [(k, v)]).length == 17) = true then (do
          let main ← flushD (run ++ [(k, v)]) main
          pure (ForInStep.yield (main, ([] : List (Sem Value × Sem Value))))) else pure (ForInStep.yield (main, run ++ [(k, v)])) := ⟨_, rfl, fun _ _ _ _ => rfl⟩
  rw [hf]
  obtain ⟨b', s', g, cs, done, todo, e1, e2, e3, e4, e5, e6, e7⟩ := goes_forIn (tb := tb) (p := p) (w := w) (n₀ := n₀) (ann := ann) (k := 400) (γ := Option (Sem Value) × Sem Value) (σ := Option Addr × List (Sem Value × Sem Value)) (f := f)
    (fun rest b s' => ∃ (cs : List (List Pr)) (done todo : List Pr), chunks ps = cs ++ chunkGo todo done ∧ ps = cs.flatten ++ (done ++ todo) ∧ done.length < 17 ∧ (∀ d ∈ cs, d ≠ []) ∧ rest = todo.map (fun kx => (some (treePair q kx).1, (treePair q kx).2)) ∧
      b = (mainAt h cs, done.map (treePair q)) ∧ s' = at_ s (hp h (ownOf t cs)) (t + 3 * cs.flatten.length)) (by
      rintro x rest b s' ⟨cs, done, todo, e1, e2, e3, e4, e5, rfl, rfl⟩
      cases todo with
      | nil => cases e5
      | cons kx todo =>
        rw [List.map_cons] at e5
        obtain ⟨rfl, rfl⟩ := List.cons.inj e5
        have hrun : done.map (treePair q) ++ [((treePair q kx).1, (treePair q kx).2)] = (done ++ [kx]).map (treePair q) := by simp
        by_cases h17 : (done ++ [kx]).length = 17
        · refine ⟨(some (h.objs.size + 0), []), at_ s (hp h (ownOf t (cs ++ [done ++ [kx]]))) (t + 3 * (cs ++ [done ++ [kx]]).flatten.length), ?_, cs ++ [done ++ [kx]], [], todo, ?_, ?_, by simp, ?_, rfl, ?_, rfl⟩
          · have hcz : (cs ++ [done ++ [kx]]).flatten ++ todo = ps := by rw [e2]; simp
            have gf := goes_flush (tb := tb) (p := p) (w := w) (ann := ann) he (s := s) hn hm q t cs (done ++ [kx]) e4 (by simp) (by rw [← hcz, List.length_append] at hz; omega)
              (by rw [← hcz, List.map_append] at hd; exact (List.nodup_append.mp hd).1)
            rw [h17] at gf
            rw [hfs, hrun, if_pos (by rw [List.length_map, h17]; rfl)]
            exact goes_le (goes_bind (k₁ := 7 + 20 * 17) (k₂ := 0) gf goes_pure) (by omega)
          · rw [e1, List.append_assoc]; congr 1
            conv => lhs; unfold chunkGo
            rw [if_pos h17]; rfl
          · rw [e2]; simp
          · intro d hd'
            rcases List.mem_append.mp hd' with hd' | hd'
            · exact e4 d hd'
            · rw [List.mem_singleton.mp hd']; simp
          · cases cs <;> rfl
        · refine ⟨(mainAt h cs, (done ++ [kx]).map (treePair q)), at_ s (hp h (ownOf t cs)) (t + 3 * cs.flatten.length), ?_, cs, done ++ [kx], todo, ?_, ?_, ?_, e4, rfl, rfl, rfl⟩
          · rw [hfs, hrun, if_neg (by rw [List.length_map]; simpa using h17)]
            exact goes_le goes_pure (by omega)
          · rw [e1]; congr 1
            conv => lhs; unfold chunkGo
            rw [if_neg h17]
          · rw [e2]; simp
          · simp at h17 ⊢; omega) (ps.map fun kx => (some (treePair q kx).1, (treePair q kx).2)) (none, []) (at_ s h t)
      ⟨[], [], ps, rfl, rfl, by simp, by simp, rfl, rfl, by show at_ s h t = at_ s (hp h []) (t + 0); rw [hp_nil]; rfl⟩
  have e8 : todo = [] := by cases todo with | nil => rfl | cons => cases e5
  subst e8 e6 e7
  rw [List.length_map] at g
  refine goes_le (goes_bind (k₁ := 400 * ps.length) (k₂ := 347) g ?_) (by omega)
  dsimp only
  rw [List.append_nil] at e2
  by_cases hdn : done = []
  · subst hdn
    have e9 : chunks ps = cs := by rw [e1]; show cs ++ [] = cs; simp
    rw [e9]
    rw [List.append_nil] at e2
    rw [← e2]
    refine goes_le (goes_bind (k₁ := 0) (k₂ := 0) (a := mainAt h cs) (goes_eq (show flushD ([].map (treePair q)) (mainAt h cs) = pure (mainAt h cs) from rfl) goes_pure) ?_) (by omega)
    cases cs with
    | nil => exact absurd e2 hp0
    | cons => exact goes_pure
  · have e9 : chunks ps = cs ++ [done] := by
      rw [e1]; congr 1
      show (if done.isEmpty then [] else [done]) = [done]
      rw [if_neg (by simpa using hdn)]
    have hfl : (cs ++ [done]).flatten = ps := by rw [e2]; simp
    have gf := goes_flush (tb := tb) (p := p) (w := w) (ann := ann) he (s := s) hn hm q t cs done e4 hdn (by rw [hfl]; exact hz) (by rw [hfl]; exact hd)
    rw [e9, show t + 3 * ps.length = t + 3 * (cs ++ [done]).flatten.length by rw [hfl]]
    exact goes_le (goes_bind (k₁ := 7 + 20 * done.length) (k₂ := 0) gf goes_pure) (by omega)
end
end Mine
end
section
open PySem PySem.W PyProof.Rows
set_option maxRecDepth 100000
namespace Mine
noncomputable def keyOf : Option Expr → Option Int
  | some (.Constant (.int k) _ _) => some k
  | _ => none
noncomputable def litOf : Expr → Option Str
  | .Constant (.str x) _ _ => some x
  | _ => none
theorem keyOf_some {e : Option Expr} {k : Int} (h : keyOf e = some k) : ∃ q p, e = some (.Constant (.int k) q p) := by
  unfold keyOf at h
  split at h
  · exact ⟨_, _, by rw [Option.some.inj h]⟩
  · exact nomatch h
theorem litOf_some {e : Expr} {x : Str} (h : litOf e = some x) : ∃ q p, e = .Constant (.str x) q p := by
  unfold litOf at h
  split at h
  · exact ⟨_, _, by rw [Option.some.inj h]⟩
  · exact nomatch h
noncomputable def pairsOf : List (Option Expr) → List Expr → Option (List Pr)
  | [], [] => some []
  | e :: ks, v :: vs => (keyOf e).bind fun k => (litOf v).bind fun x => (pairsOf ks vs).map ((k, x) :: ·)
  | _, _ => none
theorem pairsOf_items (env : Env) (q : Pos) (keys : List (Option Expr)) : ∀ (values : List Expr) (ps : List Pr), pairsOf keys values = some ps →
    (evalEachOpt keys env).zip ((evalEach values env).map fun v => do let x ← v; standAt q; pure x) = ps.map fun kx => (some (treePair q kx).1, (treePair q kx).2) := by
  induction keys with
  | nil =>
    intro values ps h
    cases values with
    | nil => cases h; rfl
    | cons v vs => cases h
  | cons e ks ih =>
    intro values ps h
    cases values with
    | nil => cases h
    | cons v vs =>
      obtain ⟨k, hk, h⟩ := Option.bind_eq_some_iff.mp h
      obtain ⟨x, hx, h⟩ := Option.bind_eq_some_iff.mp h
      obtain ⟨r, hr, rfl⟩ := Option.map_eq_some_iff.mp h
      obtain ⟨q1, p1, rfl⟩ := keyOf_some hk
      obtain ⟨q2, p2, rfl⟩ := litOf_some hx
      have ih := ih vs r hr
      show (some (eval (.Constant (.int k) q1 p1) env), (do let y ← eval (.Constant (.str x) q2 p2) env; standAt q; pure y)) :: (evalEachOpt ks env).zip ((evalEach vs env).map fun v => do let x ← v; standAt q; pure x) = _
      rw [ih]; rfl
section
variable {tb : String → Option Builtin} {p : Program} {w : World} {n₀ : Nat} {ann : Option Value}
noncomputable def nameHash (w : World) (x : Str) : Int := if x.cps.isEmpty then 0 else reduceHash (w.params.strHash x.cps)

theorem goes_nsSet {s : Shared} {a : Addr} {x : Str} {v : Value} {c : Value} {dd : Option Addr} {sl : Array (Option Value)} {es : Array DictEntry} {n : Nat} (ho : s.heap.get? a = some ⟨c, dd, .dict es n, sl⟩) (hr : aRefKeyMayBeTheName x es = false)
    (ha : (Nat.ble n₀ a || a == mainNs || a == cStatics || ann == some (.ref a)) = true) :
    Goes tb p w n₀ ann 4 (nsSet a x v) s () { s with heap := s.heap.update a (Obj.putName x (nameHash w x) (.str x s.toks) v), toks := s.toks + 1 } := by
  unfold nsSet
  refine goes_bind (k₁ := 1) (k₂ := 3) (a := nameHash w x) (s₁ := s) ?_ ?_
  · unfold strHash
    exact goes_bind (k₁ := 1) (k₂ := 0) goes_ask goes_pure
  refine goes_bind (k₁ := 1) (k₂ := 2) goes_mkText ?_
  refine goes_bind (k₁ := 1) (k₂ := 1) (goes_loadPart (o := ⟨c, dd, .dict es n, sl⟩) ho) ?_
  dsimp only
  rw [if_neg (by rw [hr]; exact Bool.false_ne_true)]
  exact goes_updatePart (o := ⟨c, dd, .dict es n, sl⟩) ho ha

theorem hp_old {h : Heap} {l : List Obj} {a : Addr} {o : Obj} (e : h.get? a = some o) : (hp h l).get? a = some o := by
  have lt : a < h.objs.size := Heap.lt_size e
  have : (hp h l).objs[a]? = h.objs[a]? := by
    show (h.objs ++ l.toArray)[a]? = _
    rw [Array.getElem?_append_left lt]
  unfold Heap.get? at e ⊢
  rw [this]; exact e

theorem goes_assignDict (he : entryFor tb "int.__hash__" = some Builtin.«int.__hash__») {s : Shared} {h : Heap} (hn : n₀ ≤ h.objs.size) (hm : sysModules < h.objs.size) {env : Env} {x : Str} {pos1 dpos pos : Pos} {keys : List (Option Expr)} {values : List Expr}
    {ps : List Pr} (hps : pairsOf keys values = some ps) (t : Nat) (hp0 : ps ≠ []) (hz : ps.length ≤ sizeLine) (hd : (ps.map fun kx => hashInt kx.1).Nodup)
    (hx : env.kindOf x = some .local) (hpl : (env.scope.kind == .class || (env.scope.kind == .module && env.locals != env.globals)) = false)
    {c : Value} {dd : Option Addr} {sl : Array (Option Value)} {es : Array DictEntry} {n : Nat} (ho : h.get? env.locals = some ⟨c, dd, .dict es n, sl⟩) (hr : aRefKeyMayBeTheName x es = false)
    (ha : (Nat.ble n₀ env.locals || env.locals == mainNs || env.locals == cStatics || ann == some (.ref env.locals)) = true) :
    Goes tb p w n₀ ann (400 * ps.length + 420) (exec (.Assign [.Name x pos1] (.Dict keys values dpos) pos) env) (at_ s h t) .next
      (at_ s ((hp h (ownOf t (chunks ps))).update env.locals (Obj.putName x (nameHash w x) (.str x (t + 3 * ps.length)) (.ref h.objs.size))) (t + 3 * ps.length + 1)) := by
  show Goes tb p w n₀ ann _ (do
    standAt pos
    let v ← (do standAt dpos; dictDisplay ((evalEachOpt keys env).zip ((evalEach values env).map fun v => do let x ← v; standAt dpos; pure x)))
    assignAll v [fun v => do standAt pos1; bindName env x v]
    pure Flow.next) _ _ _
  rw [pairsOf_items env dpos keys values ps hps]
  refine goes_le (goes_bind (k₁ := 1) (k₂ := 1 + (400 * ps.length + 400) + 7) goes_at ?_) (by omega)
  refine goes_bind (k₁ := 1 + (400 * ps.length + 400)) (k₂ := 7) (goes_bind goes_at (goes_display he hn hm dpos t ps hp0 hz hd)) ?_
  show Goes tb p w n₀ ann 7 (do
    (do standAt pos1; bindName env x (.ref h.objs.size))
    pure Flow.next) _ _ _
  refine goes_bind (k₁ := 7) (k₂ := 0) (a := ()) (goes_bind (k₁ := 1) (k₂ := 6) goes_at ?_) goes_pure
  unfold bindName
  refine goes_bind (k₁ := 1) (k₂ := 5) (goes_holding goes_point) ?_
  refine goes_bind (k₁ := 4) (k₂ := 1) (a := ()) ?_ goes_point
  rw [storeName_local hx hpl]
  exact goes_nsSet (s := at_ s (hp h (ownOf t (chunks ps))) (t + 3 * ps.length)) (hp_old ho) hr ha
end
end Mine
end
section
open PySem PySem.W PyProof.Rows
set_option maxRecDepth 100000
namespace Mine
noncomputable abbrev pw : Program := PySem.Challenge.pw_sn0103_01
noncomputable def bodyP : List Stmt := behindTheImports pw
noncomputable def stA : List Stmt := bodyP.take 9
noncomputable def stB : Stmt := (bodyP[9]?).getD (.Pass default)
noncomputable def stC : List Stmt := bodyP.drop 10
theorem body_split : bodyP = stA ++ stB :: stC := by kernel_rfl
noncomputable def cdV : Value := .ref 30
noncomputable def envM : Env := { scope := pw.main.scope, locals := mainNs, globals := mainNs, cells := [], code := cdV, frame := some 31 }
noncomputable def cdM : Code := .body bodyP envM
noncomputable def p00 : Pos := ⟨0, 0, 0, 0⟩
noncomputable def annM : Option Value := some (.ref 6)
noncomputable def dictParts : Stmt → Option (Str × Pos × List (Option Expr) × List Expr × Pos × Pos)
  | .Assign [.Name x p1] (.Dict ks vs dp) ps => some (x, p1, ks, vs, dp, ps)
  | _ => none
noncomputable def bParts : Str × Pos × List (Option Expr) × List Expr × Pos × Pos := (dictParts stB).getD (⟨#[]⟩, p00, [], [], p00, p00)
theorem stB_eq : stB = .Assign [.Name bParts.1 bParts.2.1] (.Dict bParts.2.2.1 bParts.2.2.2.1 bParts.2.2.2.2.1) bParts.2.2.2.2.2 := by kernel_rfl
noncomputable def psB : List Pr := (pairsOf bParts.2.2.1 bParts.2.2.2.1).getD []
theorem psB_eq : pairsOf bParts.2.2.1 bParts.2.2.2.1 = some psB := by kernel_rfl
noncomputable def rising : Int → List Pr → Bool
  | _, [] => true
  | a, kx :: r => decide (a < kx.1) && rising kx.1 r
theorem rising_ok : rising 0 psB = true := by kernel_rfl
noncomputable def below : List Pr → Bool
  | [] => true
  | kx :: r => decide (kx.1 < 1000000) && below r
theorem below_ok : below psB = true := by kernel_rfl
theorem psB_len : psB.length = 650 := by kernel_rfl

noncomputable def insAll : BT → Nat → List Obj → Option BT
  | t, _, [] => some t
  | t, n, o :: r => match ((t.ins n o).get n).isSome with
    | true => insAll (t.ins n o) (n + 1) r
    | false => none
theorem insAll_spec (life : Life) : ∀ (l : List Obj) (t : BT) (n : Nat) (t' : BT), insAll t n l = some t' → absHeap t' (n + l.length) life = hp (absHeap t n life) l
  | [], t, n, t', h => by cases h; rw [hp_nil]; rfl
  | o :: r, t, n, t', h => by
    unfold insAll at h
    cases g : ((t.ins n o).get n).isSome with
    | false => rw [g] at h; cases h
    | true =>
      rw [g] at h
      have ih := insAll_spec life r _ _ _ h
      rw [List.length_cons, show n + (r.length + 1) = n + 1 + r.length by omega, ih, absHeap_ins g]
      show (⟨((absHeap t n life).push o).objs ++ r.toArray, life⟩ : Heap) = ⟨(absHeap t n life).objs ++ (o :: r).toArray, life⟩
      congr 1
      show ((absHeap t n life).objs.push o) ++ r.toArray = _
      rw [← Array.append_singleton, Array.append_assoc]
      simp
noncomputable def toT (s : Shared) : Option SharedT := (insAll .nil 0 s.heap.objs.toList).map fun t => ⟨t, s.heap.objs.size, s.heap.life, s.gens, s.drawn, s.toks, s.os⟩
theorem toT_abs {s : Shared} {T : SharedT} (h : toT s = some T) : T.abs = s := by
  unfold toT at h
  obtain ⟨t, ht, rfl⟩ := Option.map_eq_some_iff.mp h
  have := insAll_spec s.heap.life _ _ _ _ ht
  rw [Nat.zero_add, Array.length_toList] at this
  unfold SharedT.abs
  dsimp only
  rw [this]
  obtain ⟨⟨objs, life⟩, gens, drawn, toks, os⟩ := s
  show (⟨⟨(absHeap .nil 0 life).objs ++ objs.toList.toArray, life⟩, gens, drawn, toks, os⟩ : Shared) = _
  have : (absHeap .nil 0 life).objs = #[] := rfl
  rw [this]
  simp

noncomputable def nsOk (x : Str) (o : Obj) : Bool := match o with
  | ⟨_, _, .dict es _, _⟩ => !aRefKeyMayBeTheName x es
  | _ => false
noncomputable def bumpT (w : World) (S : SharedT) : Option SharedT :=
  match Nat.ble 28 S.n with
  | false => none
  | true => match S.tree.get mainNs with
    | none => none
    | some o => match nsOk bParts.1 o with
      | false => none
      | true => (insAll S.tree S.n (ownOf S.toks (chunks psB))).bind fun t => match t.get mainNs with
        | none => none
        | some _ => some ⟨t.set mainNs (Obj.putName bParts.1 (nameHash w bParts.1) (.str bParts.1 (S.toks + 3 * psB.length)) (.ref S.n)), S.n + (ownOf S.toks (chunks psB)).length, S.life, S.gens, S.drawn, S.toks + 3 * psB.length + 1, S.os⟩
end Mine
end
section
open PySem PySem.W PyProof.Rows
set_option maxRecDepth 100000
namespace Mine
theorem hashInt_small {k : Int} (h0 : 0 ≤ k) (h1 : k < 1000000) : hashInt k = k := by
  have e : rawHash k = k := by
    have hm : ((k.natAbs : Int) % ((2 ^ 61 - 1 : Nat) : Int)) = k := by
      rw [Int.emod_eq_of_lt (by omega) (by
        have : ((2 ^ 61 - 1 : Nat) : Int) = 2305843009213693951 := rfl
        omega)]
      omega
    unfold rawHash
    dsimp only
    rw [hm, if_neg (show ¬ k < 0 by omega), if_neg (by intro h; have := eq_of_beq h; omega)]
  unfold hashInt
  rw [e, if_neg (by intro h; have := eq_of_beq h; omega)]
theorem rising_gt : ∀ (l : List Pr) (a : Int), rising a l = true → ∀ kx ∈ l, a < kx.1
  | [], _, _, _, h => by cases h
  | y :: r, a, h, kx, hk => by
    unfold rising at h
    obtain ⟨h1, h2⟩ := Bool.and_eq_true_iff.mp h
    have h1 := of_decide_eq_true h1
    rcases List.mem_cons.mp hk with rfl | hk
    · exact h1
    · have := rising_gt r y.1 h2 kx hk; omega
theorem below_lt : ∀ (l : List Pr), below l = true → ∀ kx ∈ l, kx.1 < 1000000
  | [], _, _, h => by cases h
  | y :: r, h, kx, hk => by
    unfold below at h
    obtain ⟨h1, h2⟩ := Bool.and_eq_true_iff.mp h
    rcases List.mem_cons.mp hk with rfl | hk
    · exact of_decide_eq_true h1
    · exact below_lt r h2 kx hk
theorem rising_nodup : ∀ (l : List Pr) (a : Int), 0 ≤ a → rising a l = true → below l = true → (l.map fun kx => hashInt kx.1).Nodup
  | [], _, _, _, _ => List.nodup_nil
  | y :: r, a, ha, h, hb => by
    have hg := rising_gt _ _ h
    have hl := below_lt _ hb
    unfold rising at h
    unfold below at hb
    obtain ⟨h1, h2⟩ := Bool.and_eq_true_iff.mp h
    obtain ⟨b1, b2⟩ := Bool.and_eq_true_iff.mp hb
    have hy : a < y.1 := of_decide_eq_true h1
    rw [List.map_cons, List.nodup_cons]
    refine ⟨fun hm => ?_, rising_nodup r y.1 (by omega) h2 b2⟩
    obtain ⟨z, hz, e⟩ := List.mem_map.mp hm
    have hzy := rising_gt r y.1 h2 z hz
    have hzl := hl z (List.mem_cons_of_mem _ hz)
    rw [hashInt_small (by omega) hzl, hashInt_small (by omega) (hl y List.mem_cons_self)] at e
    omega
theorem psB_nodup : (psB.map fun kx => hashInt kx.1).Nodup := rising_nodup psB 0 (Int.le_refl _) rising_ok below_ok

theorem bump_ok {w : World} {S S' : SharedT} (h : bumpT w S = some S') : Goes treeTable pw w 28 annM 300000 (exec stB envM) S.abs .next S'.abs := by
  unfold bumpT at h
  cases h1 : Nat.ble 28 S.n with
  | false => rw [h1] at h; cases h
  | true =>
  rw [h1] at h
  cases h2 : S.tree.get mainNs with
  | none => rw [h2] at h; cases h
  | some o =>
  rw [h2] at h
  dsimp only at h
  cases h3 : nsOk bParts.1 o with
  | false => rw [h3] at h; cases h
  | true =>
  rw [h3] at h
  obtain ⟨t, ht, h⟩ := Option.bind_eq_some_iff.mp h
  cases h4 : t.get mainNs with
  | none => rw [h4] at h; cases h
  | some o' =>
  rw [h4] at h
  obtain rfl := Option.some.inj h
  obtain ⟨T, n, life, gens, drawn, toks, os⟩ := S
  dsimp only at h1 h2 ht h4
  have hn : 28 ≤ (absHeap T n life).objs.size := by rw [absHeap_size]; exact Nat.le_of_ble_eq_true h1
  have hsp := insAll_spec life _ _ _ _ ht
  obtain ⟨c, dd, dt, sl⟩ := o
  cases dt with
  | dict es m =>
    have hr : aRefKeyMayBeTheName bParts.1 es = false := by
      have : (!aRefKeyMayBeTheName bParts.1 es) = true := h3
      simpa using this
    have ho : (absHeap T n life).get? mainNs = some ⟨c, dd, .dict es m, sl⟩ := by
      rw [abs_get (Nat.lt_of_lt_of_le (by decide) (Nat.le_of_ble_eq_true h1)) h2]; rfl
    have g := goes_assignDict (tb := treeTable) (p := pw) (w := w) (n₀ := 28) (ann := annM) (by rw [← table_eq_tree]; exact entry_int_hash) (s := ⟨absHeap T n life, gens, drawn, toks, os⟩) (h := absHeap T n life) hn
      (Nat.lt_of_lt_of_le (show sysModules < 28 by decide) hn) (env := envM) (x := bParts.1) (pos1 := bParts.2.1) (dpos := bParts.2.2.2.2.1) (pos := bParts.2.2.2.2.2) (keys := bParts.2.2.1) (values := bParts.2.2.2.1) psB_eq toks
      (by intro e; have := psB_len; rw [e] at this; cases this) (by rw [psB_len, sizeLine_eq]; omega) psB_nodup (by kernel_rfl) (by kernel_rfl) ho hr (by rfl)
    rw [← stB_eq, psB_len] at g
    have e : at_ (⟨absHeap T n life, gens, drawn, toks, os⟩ : Shared) ((hp (absHeap T n life) (ownOf toks (chunks psB))).update envM.locals (Obj.putName bParts.1 (nameHash w bParts.1) (.str bParts.1 (toks + 3 * 650)) (.ref (absHeap T n life).objs.size))) (toks + 3 * 650 + 1) =
        SharedT.abs ⟨t.set mainNs (Obj.putName bParts.1 (nameHash w bParts.1) (.str bParts.1 (toks + 3 * psB.length)) (.ref n)), n + (ownOf toks (chunks psB)).length, life, gens, drawn, toks + 3 * psB.length + 1, os⟩ := by
      unfold SharedT.abs at_
      dsimp only
      rw [absHeap_set h4, hsp, absHeap_size, psB_len]
      rfl
    rw [← e]
    exact goes_le g (by omega)
  | _ => cases h3
end Mine
end
section
open PySem PySem.W PyProof.Rows
set_option maxRecDepth 100000
set_option maxHeartbeats 0
namespace Mine
noncomputable def defOf : Stmt → Arguments × List Stmt × Scope
  | .FunctionDef _ a b _ _ _ sc _ _ _ => (a, b, sc)
  | _ => ((default : Arguments), [], default)
noncomputable def clsOf : Stmt → List Stmt
  | .ClassDef _ _ _ b .. => b
  | _ => []
noncomputable def topAt (i : Nat) : Stmt := (pw.main.body[i]?).getD (.Pass default)
noncomputable def methAt (i j : Nat) : Stmt := ((clsOf (topAt i))[j]?).getD (.Pass default)
noncomputable def ps5m0 : Arguments := by
  refine (?f : ((defOf (methAt 5 0)).1 = ?b) → Arguments) ?h
  case h => (conv => lhs; whnf)
  case f => exact fun _ => ?b
noncomputable def bd5m0 : List Stmt := by
  refine (?f : ((defOf (methAt 5 0)).2.1 = ?b) → List Stmt) ?h
  case h => (conv => lhs; whnf)
  case f => exact fun _ => ?b
noncomputable def sc5m0 : Scope := by
  refine (?f : ((defOf (methAt 5 0)).2.2 = ?b) → Scope) ?h
  case h => (conv => lhs; whnf)
  case f => exact fun _ => ?b
noncomputable def ps5m1 : Arguments := by
  refine (?f : ((defOf (methAt 5 1)).1 = ?b) → Arguments) ?h
  case h => (conv => lhs; whnf)
  case f => exact fun _ => ?b
noncomputable def bd5m1 : List Stmt := by
  refine (?f : ((defOf (methAt 5 1)).2.1 = ?b) → List Stmt) ?h
  case h => (conv => lhs; whnf)
  case f => exact fun _ => ?b
noncomputable def sc5m1 : Scope := by
  refine (?f : ((defOf (methAt 5 1)).2.2 = ?b) → Scope) ?h
  case h => (conv => lhs; whnf)
  case f => exact fun _ => ?b
noncomputable def ps5m7 : Arguments := by
  refine (?f : ((defOf (methAt 5 7)).1 = ?b) → Arguments) ?h
  case h => (conv => lhs; whnf)
  case f => exact fun _ => ?b
noncomputable def bd5m7 : List Stmt := by
  refine (?f : ((defOf (methAt 5 7)).2.1 = ?b) → List Stmt) ?h
  case h => (conv => lhs; whnf)
  case f => exact fun _ => ?b
noncomputable def sc5m7 : Scope := by
  refine (?f : ((defOf (methAt 5 7)).2.2 = ?b) → Scope) ?h
  case h => (conv => lhs; whnf)
  case f => exact fun _ => ?b
noncomputable def ps8 : Arguments := by
  refine (?f : ((defOf (topAt 8)).1 = ?b) → Arguments) ?h
  case h => (conv => lhs; whnf)
  case f => exact fun _ => ?b
noncomputable def bd8 : List Stmt := by
  refine (?f : ((defOf (topAt 8)).2.1 = ?b) → List Stmt) ?h
  case h => (conv => lhs; whnf)
  case f => exact fun _ => ?b
noncomputable def sc8 : Scope := by
  refine (?f : ((defOf (topAt 8)).2.2 = ?b) → Scope) ?h
  case h => (conv => lhs; whnf)
  case f => exact fun _ => ?b
noncomputable def ps11 : Arguments := by
  refine (?f : ((defOf (topAt 11)).1 = ?b) → Arguments) ?h
  case h => (conv => lhs; whnf)
  case f => exact fun _ => ?b
noncomputable def bd11 : List Stmt := by
  refine (?f : ((defOf (topAt 11)).2.1 = ?b) → List Stmt) ?h
  case h => (conv => lhs; whnf)
  case f => exact fun _ => ?b
noncomputable def sc11 : Scope := by
  refine (?f : ((defOf (topAt 11)).2.2 = ?b) → Scope) ?h
  case h => (conv => lhs; whnf)
  case f => exact fun _ => ?b
noncomputable def ps64 : Arguments := by
  refine (?f : ((defOf (topAt 64)).1 = ?b) → Arguments) ?h
  case h => (conv => lhs; whnf)
  case f => exact fun _ => ?b
noncomputable def bd64 : List Stmt := by
  refine (?f : ((defOf (topAt 64)).2.1 = ?b) → List Stmt) ?h
  case h => (conv => lhs; whnf)
  case f => exact fun _ => ?b
noncomputable def sc64 : Scope := by
  refine (?f : ((defOf (topAt 64)).2.2 = ?b) → Scope) ?h
  case h => (conv => lhs; whnf)
  case f => exact fun _ => ?b
noncomputable def ps65 : Arguments := by
  refine (?f : ((defOf (topAt 65)).1 = ?b) → Arguments) ?h
  case h => (conv => lhs; whnf)
  case f => exact fun _ => ?b
noncomputable def bd65 : List Stmt := by
  refine (?f : ((defOf (topAt 65)).2.1 = ?b) → List Stmt) ?h
  case h => (conv => lhs; whnf)
  case f => exact fun _ => ?b
noncomputable def sc65 : Scope := by
  refine (?f : ((defOf (topAt 65)).2.2 = ?b) → Scope) ?h
  case h => (conv => lhs; whnf)
  case f => exact fun _ => ?b
noncomputable def ps66 : Arguments := by
  refine (?f : ((defOf (topAt 66)).1 = ?b) → Arguments) ?h
  case h => (conv => lhs; whnf)
  case f => exact fun _ => ?b
noncomputable def bd66 : List Stmt := by
  refine (?f : ((defOf (topAt 66)).2.1 = ?b) → List Stmt) ?h
  case h => (conv => lhs; whnf)
  case f => exact fun _ => ?b
noncomputable def sc66 : Scope := by
  refine (?f : ((defOf (topAt 66)).2.2 = ?b) → Scope) ?h
  case h => (conv => lhs; whnf)
  case f => exact fun _ => ?b
noncomputable def ps68 : Arguments := by
  refine (?f : ((defOf (topAt 68)).1 = ?b) → Arguments) ?h
  case h => (conv => lhs; whnf)
  case f => exact fun _ => ?b
noncomputable def bd68 : List Stmt := by
  refine (?f : ((defOf (topAt 68)).2.1 = ?b) → List Stmt) ?h
  case h => (conv => lhs; whnf)
  case f => exact fun _ => ?b
noncomputable def sc68 : Scope := by
  refine (?f : ((defOf (topAt 68)).2.2 = ?b) → Scope) ?h
  case h => (conv => lhs; whnf)
  case f => exact fun _ => ?b
noncomputable def ps69 : Arguments := by
  refine (?f : ((defOf (topAt 69)).1 = ?b) → Arguments) ?h
  case h => (conv => lhs; whnf)
  case f => exact fun _ => ?b
noncomputable def bd69 : List Stmt := by
  refine (?f : ((defOf (topAt 69)).2.1 = ?b) → List Stmt) ?h
  case h => (conv => lhs; whnf)
  case f => exact fun _ => ?b
noncomputable def sc69 : Scope := by
  refine (?f : ((defOf (topAt 69)).2.2 = ?b) → Scope) ?h
  case h => (conv => lhs; whnf)
  case f => exact fun _ => ?b
noncomputable def ps70 : Arguments := by
  refine (?f : ((defOf (topAt 70)).1 = ?b) → Arguments) ?h
  case h => (conv => lhs; whnf)
  case f => exact fun _ => ?b
noncomputable def bd70 : List Stmt := by
  refine (?f : ((defOf (topAt 70)).2.1 = ?b) → List Stmt) ?h
  case h => (conv => lhs; whnf)
  case f => exact fun _ => ?b
noncomputable def sc70 : Scope := by
  refine (?f : ((defOf (topAt 70)).2.2 = ?b) → Scope) ?h
  case h => (conv => lhs; whnf)
  case f => exact fun _ => ?b
noncomputable def ps71 : Arguments := by
  refine (?f : ((defOf (topAt 71)).1 = ?b) → Arguments) ?h
  case h => (conv => lhs; whnf)
  case f => exact fun _ => ?b
noncomputable def bd71 : List Stmt := by
  refine (?f : ((defOf (topAt 71)).2.1 = ?b) → List Stmt) ?h
  case h => (conv => lhs; whnf)
  case f => exact fun _ => ?b
noncomputable def sc71 : Scope := by
  refine (?f : ((defOf (topAt 71)).2.2 = ?b) → Scope) ?h
  case h => (conv => lhs; whnf)
  case f => exact fun _ => ?b
noncomputable def ps72 : Arguments := by
  refine (?f : ((defOf (topAt 72)).1 = ?b) → Arguments) ?h
  case h => (conv => lhs; whnf)
  case f => exact fun _ => ?b
noncomputable def bd72 : List Stmt := by
  refine (?f : ((defOf (topAt 72)).2.1 = ?b) → List Stmt) ?h
  case h => (conv => lhs; whnf)
  case f => exact fun _ => ?b
noncomputable def sc72 : Scope := by
  refine (?f : ((defOf (topAt 72)).2.2 = ?b) → Scope) ?h
  case h => (conv => lhs; whnf)
  case f => exact fun _ => ?b
noncomputable def ps73 : Arguments := by
  refine (?f : ((defOf (topAt 73)).1 = ?b) → Arguments) ?h
  case h => (conv => lhs; whnf)
  case f => exact fun _ => ?b
noncomputable def bd73 : List Stmt := by
  refine (?f : ((defOf (topAt 73)).2.1 = ?b) → List Stmt) ?h
  case h => (conv => lhs; whnf)
  case f => exact fun _ => ?b
noncomputable def sc73 : Scope := by
  refine (?f : ((defOf (topAt 73)).2.2 = ?b) → Scope) ?h
  case h => (conv => lhs; whnf)
  case f => exact fun _ => ?b
noncomputable def ps74 : Arguments := by
  refine (?f : ((defOf (topAt 74)).1 = ?b) → Arguments) ?h
  case h => (conv => lhs; whnf)
  case f => exact fun _ => ?b
noncomputable def bd74 : List Stmt := by
  refine (?f : ((defOf (topAt 74)).2.1 = ?b) → List Stmt) ?h
  case h => (conv => lhs; whnf)
  case f => exact fun _ => ?b
noncomputable def sc74 : Scope := by
  refine (?f : ((defOf (topAt 74)).2.2 = ?b) → Scope) ?h
  case h => (conv => lhs; whnf)
  case f => exact fun _ => ?b
noncomputable def ps75 : Arguments := by
  refine (?f : ((defOf (topAt 75)).1 = ?b) → Arguments) ?h
  case h => (conv => lhs; whnf)
  case f => exact fun _ => ?b
noncomputable def bd75 : List Stmt := by
  refine (?f : ((defOf (topAt 75)).2.1 = ?b) → List Stmt) ?h
  case h => (conv => lhs; whnf)
  case f => exact fun _ => ?b
noncomputable def sc75 : Scope := by
  refine (?f : ((defOf (topAt 75)).2.2 = ?b) → Scope) ?h
  case h => (conv => lhs; whnf)
  case f => exact fun _ => ?b
noncomputable def ps76 : Arguments := by
  refine (?f : ((defOf (topAt 76)).1 = ?b) → Arguments) ?h
  case h => (conv => lhs; whnf)
  case f => exact fun _ => ?b
noncomputable def bd76 : List Stmt := by
  refine (?f : ((defOf (topAt 76)).2.1 = ?b) → List Stmt) ?h
  case h => (conv => lhs; whnf)
  case f => exact fun _ => ?b
noncomputable def sc76 : Scope := by
  refine (?f : ((defOf (topAt 76)).2.2 = ?b) → Scope) ?h
  case h => (conv => lhs; whnf)
  case f => exact fun _ => ?b
noncomputable def ps77 : Arguments := by
  refine (?f : ((defOf (topAt 77)).1 = ?b) → Arguments) ?h
  case h => (conv => lhs; whnf)
  case f => exact fun _ => ?b
noncomputable def bd77 : List Stmt := by
  refine (?f : ((defOf (topAt 77)).2.1 = ?b) → List Stmt) ?h
  case h => (conv => lhs; whnf)
  case f => exact fun _ => ?b
noncomputable def sc77 : Scope := by
  refine (?f : ((defOf (topAt 77)).2.2 = ?b) → Scope) ?h
  case h => (conv => lhs; whnf)
  case f => exact fun _ => ?b
noncomputable def ps78 : Arguments := by
  refine (?f : ((defOf (topAt 78)).1 = ?b) → Arguments) ?h
  case h => (conv => lhs; whnf)
  case f => exact fun _ => ?b
noncomputable def bd78 : List Stmt := by
  refine (?f : ((defOf (topAt 78)).2.1 = ?b) → List Stmt) ?h
  case h => (conv => lhs; whnf)
  case f => exact fun _ => ?b
noncomputable def sc78 : Scope := by
  refine (?f : ((defOf (topAt 78)).2.2 = ?b) → Scope) ?h
  case h => (conv => lhs; whnf)
  case f => exact fun _ => ?b
noncomputable def ps79 : Arguments := by
  refine (?f : ((defOf (topAt 79)).1 = ?b) → Arguments) ?h
  case h => (conv => lhs; whnf)
  case f => exact fun _ => ?b
noncomputable def bd79 : List Stmt := by
  refine (?f : ((defOf (topAt 79)).2.1 = ?b) → List Stmt) ?h
  case h => (conv => lhs; whnf)
  case f => exact fun _ => ?b
noncomputable def sc79 : Scope := by
  refine (?f : ((defOf (topAt 79)).2.2 = ?b) → Scope) ?h
  case h => (conv => lhs; whnf)
  case f => exact fun _ => ?b
noncomputable def ps80 : Arguments := by
  refine (?f : ((defOf (topAt 80)).1 = ?b) → Arguments) ?h
  case h => (conv => lhs; whnf)
  case f => exact fun _ => ?b
noncomputable def bd80 : List Stmt := by
  refine (?f : ((defOf (topAt 80)).2.1 = ?b) → List Stmt) ?h
  case h => (conv => lhs; whnf)
  case f => exact fun _ => ?b
noncomputable def sc80 : Scope := by
  refine (?f : ((defOf (topAt 80)).2.2 = ?b) → Scope) ?h
  case h => (conv => lhs; whnf)
  case f => exact fun _ => ?b
noncomputable def K0 (P : Params) : Frag :=
  ((nat_lit 2, ⟨.none, none, .dict (List.toArray (⟨(PyData.keyHash P (Str.ofString "im\x70ort.loaded._sre")), (.str (Str.ofString "im\x70ort.loaded._sre") 183), (.bool true)⟩ :: ⟨(PyData.keyHash P (Str.ofString "class._frozen_importlib.BuiltinImporter")), (.str (Str.ofString "class._frozen_importlib.BuiltinImporter") 185), (.ref 14)⟩ :: ⟨(PyData.keyHash P (Str.ofString "watched.im\x70ort")), (.str (Str.ofString "watched.im\x70ort") 206), (.ref 18)⟩ :: ⟨(PyData.keyHash P (Str.ofString "class._frozen_importlib.ModuleSpec")), (.str (Str.ofString "class._frozen_importlib.ModuleSpec") 216), (.ref 22)⟩ :: ⟨(PyData.keyHash P (Str.ofString "sys.modules.booked-epoch")), (.str (Str.ofString "sys.modules.booked-epoch") 245), (.int (3) 0)⟩ :: ⟨(PyData.keyHash P (Str.ofString "im\x70ort.later-laid._sre")), (.str (Str.ofString "im\x70ort.later-laid._sre") 270), (.bool true)⟩ :: ⟨(PyData.keyHash P (Str.ofString "watched.library")), (.str (Str.ofString "watched.library") 272), (.ref 27)⟩ :: ⟨(PyData.keyHash P (Str.ofString "watched.library-objects")), (.str (Str.ofString "watched.library-objects") 0), (.str (Str.ofString "\x0c") 0)⟩ :: ⟨(PyData.keyHash P (Str.ofString "watched.library-deep._sre")), (.str (Str.ofString "watched.library-deep._sre") 273), (.str (Str.ofString "\x04\x00\x00\x0b\x04\x00\x00\x0b\x04\x00\x00\x03\x04\x00\x00\x0b\x08\x04dict\x02") 0)⟩ :: [])) 9, #[]⟩) : Addr × Obj) ::
  ((nat_lit 3, ⟨(.type "dict"), none, .dict (List.toArray (⟨(PyData.keyHash P (Str.ofString "__name__")), (.str (Str.ofString "__name__") 165), (.str (Str.ofString "law_sn0103_01") 2702)⟩ :: ⟨(PyData.keyHash P (Str.ofString "__doc__")), (.str (Str.ofString "__doc__") 166), .none⟩ :: ⟨(PyData.keyHash P (Str.ofString "__package__")), (.str (Str.ofString "__package__") 167), .none⟩ :: ⟨(PyData.keyHash P (Str.ofString "__loader__")), (.str (Str.ofString "__loader__") 168), (.builtin "__main__.__loader__#op\x61que")⟩ :: ⟨(PyData.keyHash P (Str.ofString "__spec__")), (.str (Str.ofString "__spec__") 169), .none⟩ :: ⟨(PyData.keyHash P (Str.ofString "__annotations__")), (.str (Str.ofString "__annotations__") 170), (.ref 6)⟩ :: ⟨(PyData.keyHash P (Str.ofString "__builtins__")), (.str (Str.ofString "__builtins__") 171), (.ref 4)⟩ :: ⟨(PyData.keyHash P (Str.ofString "__file__")), (.str (Str.ofString "__file__") 173), (.str (Str.ofString "/claim/cut.py") 172)⟩ :: ⟨(PyData.keyHash P (Str.ofString "__cached__")), (.str (Str.ofString "__cached__") 174), .none⟩ :: ⟨(PyData.keyHash P (Str.ofString "_sre")), (.str (Str.ofString "_sre") 275), (.ref 12)⟩ :: ⟨(PyData.keyHash P (Str.ofString "_wall")), (.str (Str.ofString "_wall") 288), (.ref 38)⟩ :: ⟨(PyData.keyHash P (Str.ofString "_name_disallowed_re")), (.str (Str.ofString "_name_disallowed_re") 316), (.ref 43)⟩ :: ⟨(PyData.keyHash P (Str.ofString "_value_disallowed_re")), (.str (Str.ofString "_value_disallowed_re") 350), (.ref 48)⟩ :: ⟨(PyData.keyHash P (Str.ofString "Headers")), (.str (Str.ofString "Headers") 504), (.ref 169)⟩ :: ⟨(PyData.keyHash P (Str.ofString "ELLIPSIS_MARKER")), (.str (Str.ofString "ELLIPSIS_MARKER") 508), (.str (Str.ofString "...") 507)⟩ :: ⟨(PyData.keyHash P (Str.ofString "_ellipsis_match")), (.str (Str.ofString "_ellipsis_match") 520), (.ref 180)⟩ :: ⟨(PyData.keyHash P (Str.ofString "b3_exceptions")), (.str (Str.ofString "b3_exceptions") 2473), (.ref 181)⟩ :: ⟨(PyData.keyHash P (Str.ofString "map_table_b3")), (.str (Str.ofString "map_table_b3") 2481), (.ref 226)⟩ :: ⟨(PyData.keyHash P (Str.ofString "ENDMARKER")), (.str (Str.ofString "ENDMARKER") 2485), (.int (0) 2484)⟩ :: ⟨(PyData.keyHash P (Str.ofString "LPAR")), (.str (Str.ofString "LPAR") 2487), (.int (7) 2486)⟩ :: ⟨(PyData.keyHash P (Str.ofString "RPAR")), (.str (Str.ofString "RPAR") 2489), (.int (8) 2488)⟩ :: ⟨(PyData.keyHash P (Str.ofString "LSQB")), (.str (Str.ofString "LSQB") 2491), (.int (9) 2490)⟩ :: ⟨(PyData.keyHash P (Str.ofString "RSQB")), (.str (Str.ofString "RSQB") 2493), (.int (10) 2492)⟩ :: ⟨(PyData.keyHash P (Str.ofString "COLON")), (.str (Str.ofString "COLON") 2495), (.int (11) 2494)⟩ :: ⟨(PyData.keyHash P (Str.ofString "COMMA")), (.str (Str.ofString "COMMA") 2497), (.int (12) 2496)⟩ :: ⟨(PyData.keyHash P (Str.ofString "SEMI")), (.str (Str.ofString "SEMI") 2499), (.int (13) 2498)⟩ :: ⟨(PyData.keyHash P (Str.ofString "PLUS")), (.str (Str.ofString "PLUS") 2501), (.int (14) 2500)⟩ :: ⟨(PyData.keyHash P (Str.ofString "MINUS")), (.str (Str.ofString "MINUS") 2503), (.int (15) 2502)⟩ :: ⟨(PyData.keyHash P (Str.ofString "STAR")), (.str (Str.ofString "STAR") 2505), (.int (16) 2504)⟩ :: ⟨(PyData.keyHash P (Str.ofString "SLASH")), (.str (Str.ofString "SLASH") 2507), (.int (17) 2506)⟩ :: ⟨(PyData.keyHash P (Str.ofString "VBAR")), (.str (Str.ofString "VBAR") 2509), (.int (18) 2508)⟩ :: ⟨(PyData.keyHash P (Str.ofString "AMPER")), (.str (Str.ofString "AMPER") 2511), (.int (19) 2510)⟩ :: ⟨(PyData.keyHash P (Str.ofString "LESS")), (.str (Str.ofString "LESS") 2513), (.int (20) 2512)⟩ :: ⟨(PyData.keyHash P (Str.ofString "GREATER")), (.str (Str.ofString "GREATER") 2515), (.int (21) 2514)⟩ :: ⟨(PyData.keyHash P (Str.ofString "EQUAL")), (.str (Str.ofString "EQUAL") 2517), (.int (22) 2516)⟩ :: ⟨(PyData.keyHash P (Str.ofString "DOT")), (.str (Str.ofString "DOT") 2519), (.int (23) 2518)⟩ :: ⟨(PyData.keyHash P (Str.ofString "PERCENT")), (.str (Str.ofString "PERCENT") 2521), (.int (24) 2520)⟩ :: ⟨(PyData.keyHash P (Str.ofString "LBRACE")), (.str (Str.ofString "LBRACE") 2523), (.int (25) 2522)⟩ :: ⟨(PyData.keyHash P (Str.ofString "RBRACE")), (.str (Str.ofString "RBRACE") 2525), (.int (26) 2524)⟩ :: ⟨(PyData.keyHash P (Str.ofString "EQEQUAL")), (.str (Str.ofString "EQEQUAL") 2527), (.int (27) 2526)⟩ :: ⟨(PyData.keyHash P (Str.ofString "NOTEQUAL")), (.str (Str.ofString "NOTEQUAL") 2529), (.int (28) 2528)⟩ :: ⟨(PyData.keyHash P (Str.ofString "LESSEQUAL")), (.str (Str.ofString "LESSEQUAL") 2531), (.int (29) 2530)⟩ :: ⟨(PyData.keyHash P (Str.ofString "GREATEREQUAL")), (.str (Str.ofString "GREATEREQUAL") 2533), (.int (30) 2532)⟩ :: ⟨(PyData.keyHash P (Str.ofString "TILDE")), (.str (Str.ofString "TILDE") 2535), (.int (31) 2534)⟩ :: ⟨(PyData.keyHash P (Str.ofString "CIRCUMFLEX")), (.str (Str.ofString "CIRCUMFLEX") 2537), (.int (32) 2536)⟩ :: ⟨(PyData.keyHash P (Str.ofString "LEFTSHIFT")), (.str (Str.ofString "LEFTSHIFT") 2539), (.int (33) 2538)⟩ :: ⟨(PyData.keyHash P (Str.ofString "RIGHTSHIFT")), (.str (Str.ofString "RIGHTSHIFT") 2541), (.int (34) 2540)⟩ :: ⟨(PyData.keyHash P (Str.ofString "DOUBLESTAR")), (.str (Str.ofString "DOUBLESTAR") 2543), (.int (35) 2542)⟩ :: ⟨(PyData.keyHash P (Str.ofString "PLUSEQUAL")), (.str (Str.ofString "PLUSEQUAL") 2545), (.int (36) 2544)⟩ :: ⟨(PyData.keyHash P (Str.ofString "MINEQUAL")), (.str (Str.ofString "MINEQUAL") 2547), (.int (37) 2546)⟩ :: ⟨(PyData.keyHash P (Str.ofString "STAREQUAL")), (.str (Str.ofString "STAREQUAL") 2549), (.int (38) 2548)⟩ :: ⟨(PyData.keyHash P (Str.ofString "SLASHEQUAL")), (.str (Str.ofString "SLASHEQUAL") 2551), (.int (39) 2550)⟩ :: ⟨(PyData.keyHash P (Str.ofString "PERCENTEQUAL")), (.str (Str.ofString "PERCENTEQUAL") 2553), (.int (40) 2552)⟩ :: ⟨(PyData.keyHash P (Str.ofString "AMPEREQUAL")), (.str (Str.ofString "AMPEREQUAL") 2555), (.int (41) 2554)⟩ :: ⟨(PyData.keyHash P (Str.ofString "VBAREQUAL")), (.str (Str.ofString "VBAREQUAL") 2557), (.int (42) 2556)⟩ :: ⟨(PyData.keyHash P (Str.ofString "CIRCUMFLEXEQUAL")), (.str (Str.ofString "CIRCUMFLEXEQUAL") 2559), (.int (43) 2558)⟩ :: ⟨(PyData.keyHash P (Str.ofString "LEFTSHIFTEQUAL")), (.str (Str.ofString "LEFTSHIFTEQUAL") 2561), (.int (44) 2560)⟩ :: ⟨(PyData.keyHash P (Str.ofString "RIGHTSHIFTEQUAL")), (.str (Str.ofString "RIGHTSHIFTEQUAL") 2563), (.int (45) 2562)⟩ :: ⟨(PyData.keyHash P (Str.ofString "DOUBLESTAREQUAL")), (.str (Str.ofString "DOUBLESTAREQUAL") 2565), (.int (46) 2564)⟩ :: ⟨(PyData.keyHash P (Str.ofString "DOUBLESLASH")), (.str (Str.ofString "DOUBLESLASH") 2567), (.int (47) 2566)⟩ :: ⟨(PyData.keyHash P (Str.ofString "DOUBLESLASHEQUAL")), (.str (Str.ofString "DOUBLESLASHEQUAL") 2569), (.int (48) 2568)⟩ :: ⟨(PyData.keyHash P (Str.ofString "AT")), (.str (Str.ofString "AT") 2571), (.int (49) 2570)⟩ :: ⟨(PyData.keyHash P (Str.ofString "ATEQUAL")), (.str (Str.ofString "ATEQUAL") 2573), (.int (50) 2572)⟩ :: ⟨(PyData.keyHash P (Str.ofString "RARROW")), (.str (Str.ofString "RARROW") 2575), (.int (51) 2574)⟩ :: ⟨(PyData.keyHash P (Str.ofString "ELLIPSIS")), (.str (Str.ofString "ELLIPSIS") 2577), (.int (52) 2576)⟩ :: ⟨(PyData.keyHash P (Str.ofString "COLONEQUAL")), (.str (Str.ofString "COLONEQUAL") 2579), (.int (53) 2578)⟩ :: ⟨(PyData.keyHash P (Str.ofString "EXCLAMATION")), (.str (Str.ofString "EXCLAMATION") 2581), (.int (54) 2580)⟩ :: ⟨(PyData.keyHash P (Str.ofString "NT_OFFSET")), (.str (Str.ofString "NT_OFFSET") 2583), (.int (256) 2582)⟩ :: ⟨(PyData.keyHash P (Str.ofString "EXACT_TOKEN_TYPES")), (.str (Str.ofString "EXACT_TOKEN_TYPES") 2680), (.ref 227)⟩ :: ⟨(PyData.keyHash P (Str.ofString "ISTERMINAL")), (.str (Str.ofString "ISTERMINAL") 2687), (.ref 236)⟩ :: ⟨(PyData.keyHash P (Str.ofString "ISNONTERMINAL")), (.str (Str.ofString "ISNONTERMINAL") 2694), (.ref 243)⟩ :: ⟨(PyData.keyHash P (Str.ofString "ISEOF")), (.str (Str.ofString "ISEOF") 2701), (.ref 250)⟩ :: ⟨(PyData.keyHash P (Str.ofString "_law_draws")), (.str (Str.ofString "_law_draws") 2713), (.ref 257)⟩ :: ⟨(PyData.keyHash P (Str.ofString "_law_pairs")), (.str (Str.ofString "_law_pairs") 2719), (.ref 262)⟩ :: ⟨(PyData.keyHash P (Str.ofString "_law_spelled")), (.str (Str.ofString "_law_spelled") 2727), (.ref 269)⟩ :: ⟨(PyData.keyHash P (Str.ofString "_law_report")), (.str (Str.ofString "_law_report") 2738), (.ref 276)⟩ :: ⟨(PyData.keyHash P (Str.ofString "_law_symbols")), (.str (Str.ofString "_law_symbols") 2744), (.ref 281)⟩ :: ⟨(PyData.keyHash P (Str.ofString "_law_due")), (.str (Str.ofString "_law_due") 2754), (.ref 288)⟩ :: ⟨(PyData.keyHash P (Str.ofString "_law_games")), (.str (Str.ofString "_law_games") 2760), (.ref 293)⟩ :: ⟨(PyData.keyHash P (Str.ofString "_law_beaten")), (.str (Str.ofString "_law_beaten") 2766), (.ref 298)⟩ :: ⟨(PyData.keyHash P (Str.ofString "_law_paths")), (.str (Str.ofString "_law_paths") 2776), (.ref 305)⟩ :: ⟨(PyData.keyHash P (Str.ofString "_law_classes")), (.str (Str.ofString "_law_classes") 2782), (.ref 310)⟩ :: ⟨(PyData.keyHash P (Str.ofString "_law_always")), (.str (Str.ofString "_law_always") 2792), (.ref 317)⟩ :: ⟨(PyData.keyHash P (Str.ofString "_law_in_order")), (.str (Str.ofString "_law_in_order") 2804), (.ref 324)⟩ :: ⟨(PyData.keyHash P (Str.ofString "law")), (.str (Str.ofString "law") 2810), (.ref 329)⟩ :: [])) 85, #[]⟩) : Addr × Obj) ::
  ((nat_lit 42, ⟨(.type "tuple"), none, .seq #[(.int (14) 0), (.int (10) 0), (.int (4) 0), (.int (1) 0), (.int (1) 0), (.int (22) 0), (.int (0) 0), (.int (31) 0), (.int (16) 0), (.int (127) 0), (.int (0) 0), (.int (13) 0), (.int (7) 0), (.int (22) 0), (.int (0) 0), (.int (31) 0), (.int (16) 0), (.int (127) 0), (.int (0) 0), (.int (1) 0)] 0, #[]⟩) : Addr × Obj) ::
  ((nat_lit 43, ⟨(.type "re.Pattern"), none, .fields #[(.str (Str.ofString "[\\x00-\\x1F\\x7F]") 292), (.int (32) 315), (.int (0) 0), .none, .none, (.ref 42), (.int (0) 0)], #[]⟩) : Addr × Obj) ::
  ((nat_lit 47, ⟨(.type "tuple"), none, .seq #[(.int (14) 0), (.int (14) 0), (.int (4) 0), (.int (1) 0), (.int (1) 0), (.int (9) 0), (.int (4294966783) 0), (.int (0) 0), (.int (0) 0), (.int (2147483648) 0), (.int (0) 0), (.int (0) 0), (.int (0) 0), (.int (0) 0), (.int (0) 0), (.int (13) 0), (.int (11) 0), (.int (9) 0), (.int (4294966783) 0), (.int (0) 0), (.int (0) 0), (.int (2147483648) 0), (.int (0) 0), (.int (0) 0), (.int (0) 0), (.int (0) 0), (.int (0) 0), (.int (1) 0)] 0, #[]⟩) : Addr × Obj) ::
  ((nat_lit 48, ⟨(.type "re.Pattern"), none, .fields #[(.str (Str.ofString "[\\x00-\\x08\\x0A-\\x1F\\x7F]") 318), (.int (32) 349), (.int (0) 0), .none, .none, (.ref 47), (.int (0) 0)], #[]⟩) : Addr × Obj) ::
  ((nat_lit 56, ⟨(.type "tuple"), none, .seq #[.none] 0, #[]⟩) : Addr × Obj) ::
  ((nat_lit 62, ⟨(.type "code"), none, .fields #[(.str (Str.ofString "__init__") 363), (.str (Str.ofString "Headers.__init__") 364), (.str (Str.ofString "/claim/cut.py") 365), (.int (10) 0), (.int (2) 0), (.int (0) 0), (.int (0) 0), (.int (3) 0), (.ref 57), (.bool true), (.int (276) 0), (.ref 58), .none, (.ref 59), (.ref 60), (.ref 61), (.int (370) 0), (.int (10) 0), (.str (Str.ofString "/claim/cut.py") 371)], #[]⟩) : Addr × Obj) ::
  ((nat_lit 63, ⟨(.type "function"), none, .func ⟨(Str.ofString "__init__"), (Str.ofString "Headers.__init__"), ps5m0, .stmts bd5m0, sc5m0, 3, [], (.ref 56), .none, .none, (.str (Str.ofString "cpy313.wsgiref.headers") 289), none, (.ref 62), .none, 0⟩, #[]⟩) : Addr × Obj) ::
  ((nat_lit 69, ⟨(.type "code"), none, .fields #[(.str (Str.ofString "_convert_string_type") 373), (.str (Str.ofString "Headers._convert_string_type") 374), (.str (Str.ofString "/claim/cut.py") 375), (.int (20) 0), (.int (2) 0), (.int (0) 0), (.int (1) 0), (.int (3) 0), (.ref 64), (.bool true), (.int (276) 0), (.ref 65), .none, (.ref 66), (.ref 67), (.ref 68), (.int (380) 0), (.int (20) 0), (.str (Str.ofString "/claim/cut.py") 381)], #[]⟩) : Addr × Obj) ::
  ((nat_lit 70, ⟨(.type "function"), none, .func ⟨(Str.ofString "_convert_string_type"), (Str.ofString "Headers._convert_string_type"), ps5m1, .stmts bd5m1, sc5m1, 3, [], .none, .none, .none, (.str (Str.ofString "cpy313.wsgiref.headers") 289), none, (.ref 69), .none, 0⟩, #[]⟩) : Addr × Obj) ::
  ((nat_lit 107, ⟨(.type "code"), none, .fields #[(.str (Str.ofString "get_all") 421), (.str (Str.ofString "Headers.get_all") 422), (.str (Str.ofString "/claim/cut.py") 423), (.int (45) 0), (.int (2) 0), (.int (0) 0), (.int (0) 0), (.int (3) 0), (.ref 104), (.bool true), (.int (276) 0), (.ref 105), .none, .none, .none, (.ref 106), (.int (424) 0), (.int (45) 0), (.str (Str.ofString "/claim/cut.py") 425)], #[]⟩) : Addr × Obj) ::
  ((nat_lit 108, ⟨(.type "function"), none, .func ⟨(Str.ofString "get_all"), (Str.ofString "Headers.get_all"), ps5m7, .stmts bd5m7, sc5m7, 3, [], .none, .none, .none, (.str (Str.ofString "cpy313.wsgiref.headers") 289), none, (.ref 107), .none, 0⟩, #[]⟩) : Addr × Obj) ::
  ((nat_lit 168, ⟨(.type "dict"), none, .dict (List.toArray (⟨(PyData.keyHash P (Str.ofString "__module__")), (.str (Str.ofString "__module__") 358), (.str (Str.ofString "cpy313.wsgiref.headers") 289)⟩ :: ⟨(PyData.keyHash P (Str.ofString "__firstlineno__")), (.str (Str.ofString "__firstlineno__") 362), (.int (8) 361)⟩ :: ⟨(PyData.keyHash P (Str.ofString "__init__")), (.str (Str.ofString "__init__") 372), (.ref 63)⟩ :: ⟨(PyData.keyHash P (Str.ofString "_convert_string_type")), (.str (Str.ofString "_convert_string_type") 382), (.ref 70)⟩ :: ⟨(PyData.keyHash P (Str.ofString "__len__")), (.str (Str.ofString "__len__") 389), (.ref 77)⟩ :: ⟨(PyData.keyHash P (Str.ofString "__setitem__")), (.str (Str.ofString "__setitem__") 398), (.ref 84)⟩ :: ⟨(PyData.keyHash P (Str.ofString "__delitem__")), (.str (Str.ofString "__delitem__") 404), (.ref 89)⟩ :: ⟨(PyData.keyHash P (Str.ofString "__getitem__")), (.str (Str.ofString "__getitem__") 412), (.ref 96)⟩ :: ⟨(PyData.keyHash P (Str.ofString "__contains__")), (.str (Str.ofString "__contains__") 420), (.ref 103)⟩ :: ⟨(PyData.keyHash P (Str.ofString "get_all")), (.str (Str.ofString "get_all") 426), (.ref 108)⟩ :: ⟨(PyData.keyHash P (Str.ofString "get")), (.str (Str.ofString "get") 437), (.ref 116)⟩ :: ⟨(PyData.keyHash P (Str.ofString "keys")), (.str (Str.ofString "keys") 443), (.ref 121)⟩ :: ⟨(PyData.keyHash P (Str.ofString "values")), (.str (Str.ofString "values") 449), (.ref 126)⟩ :: ⟨(PyData.keyHash P (Str.ofString "items")), (.str (Str.ofString "items") 456), (.ref 133)⟩ :: ⟨(PyData.keyHash P (Str.ofString "__repr__")), (.str (Str.ofString "__repr__") 463), (.ref 140)⟩ :: ⟨(PyData.keyHash P (Str.ofString "__str__")), (.str (Str.ofString "__str__") 469), (.ref 145)⟩ :: ⟨(PyData.keyHash P (Str.ofString "__bytes__")), (.str (Str.ofString "__bytes__") 476), (.ref 152)⟩ :: ⟨(PyData.keyHash P (Str.ofString "setdefault")), (.str (Str.ofString "setdefault") 485), (.ref 159)⟩ :: ⟨(PyData.keyHash P (Str.ofString "add_header")), (.str (Str.ofString "add_header") 495), (.ref 166)⟩ :: ⟨(PyData.keyHash P (Str.ofString "__static_attributes__")), (.str (Str.ofString "__static_attributes__") 497), (.ref 167)⟩ :: ⟨(PyData.keyHash P (Str.ofString "__dict__")), (.str (Str.ofString "__dict__") 499), (.ref 170)⟩ :: ⟨(PyData.keyHash P (Str.ofString "__weakref__")), (.str (Str.ofString "__weakref__") 501), (.ref 171)⟩ :: ⟨(PyData.keyHash P (Str.ofString "__doc__")), (.str (Str.ofString "__doc__") 502), .none⟩ :: [])) 4, #[]⟩) : Addr × Obj) ::
  ((nat_lit 169, ⟨(.type "type"), none, .cls ⟨(Str.ofString "Headers"), [(.type "object")], [(.ref 169), (.type "object")], 168, (Str.ofString "Headers"), true, [], [], false, none, false⟩, #[none, none, (some (.str (Str.ofString "Headers") 351)), (some (.str (Str.ofString "Headers") 359)), (some (.builtin "object.__new__")), (some (.bool true))]⟩) : Addr × Obj) ::
  ((nat_lit 170, ⟨(.type "getset_descriptor"), none, .fields #[(.str (Str.ofString "__dict__") 498), (.ref 169), (.builtin "function.__dict__"), (.builtin "function.__dict__#set")], #[]⟩) : Addr × Obj) ::
  ((nat_lit 171, ⟨(.type "getset_descriptor"), none, .fields #[(.str (Str.ofString "__weakref__") 500), (.ref 169), (.builtin "ExceptionGroup.__weakref__"), .none], #[]⟩) : Addr × Obj) ::
  ((nat_lit 179, ⟨(.type "code"), none, .fields #[(.str (Str.ofString "_ellipsis_match") 509), (.str (Str.ofString "_ellipsis_match") 510), (.str (Str.ofString "/claim/cut.py") 511), (.int (81) 0), (.int (2) 0), (.int (0) 0), (.int (0) 0), (.int (3) 0), (.ref 174), (.bool true), (.int (276) 0), (.ref 175), .none, (.ref 176), (.ref 177), (.ref 178), (.int (518) 0), (.int (81) 0), (.str (Str.ofString "/claim/cut.py") 519)], #[]⟩) : Addr × Obj) ::
  ((nat_lit 180, ⟨(.type "function"), none, .func ⟨(Str.ofString "_ellipsis_match"), (Str.ofString "_ellipsis_match"), ps8, .stmts bd8, sc8, 3, [], .none, .none, .none, (.str (Str.ofString "cpy313.doctest") 505), none, (.ref 179), .none, 0⟩, #[]⟩) : Addr × Obj) ::
  ((nat_lit 181, dob (mainEnts 523 (chunks psB)) 650) : Addr × Obj) ::
  ((nat_lit 225, ⟨(.type "code"), none, .fields #[(.str (Str.ofString "map_table_b3") 2474), (.str (Str.ofString "map_table_b3") 2475), (.str (Str.ofString "/claim/cut.py") 2476), (.int (111) 0), (.int (1) 0), (.int (0) 0), (.int (0) 0), (.int (3) 0), (.ref 220), (.bool true), (.int (276) 0), (.ref 221), .none, (.ref 222), (.ref 223), (.ref 224), (.int (2479) 0), (.int (111) 0), (.str (Str.ofString "/claim/cut.py") 2480)], #[]⟩) : Addr × Obj) ::
  ((nat_lit 226, ⟨(.type "function"), none, .func ⟨(Str.ofString "map_table_b3"), (Str.ofString "map_table_b3"), ps11, .stmts bd11, sc11, 3, [], .none, .none, .none, (.str (Str.ofString "cpy313.stringprep") 521), none, (.ref 225), .none, 0⟩, #[]⟩) : Addr × Obj) ::
  ((nat_lit 227, ⟨(.type "dict"), none, .dict (List.toArray (⟨(PyData.keyHash P (Str.ofString "!")), (.str (Str.ofString "!") 2584), (.int (54) 2580)⟩ :: ⟨(PyData.keyHash P (Str.ofString "!=")), (.str (Str.ofString "!=") 2586), (.int (28) 2528)⟩ :: ⟨(PyData.keyHash P (Str.ofString "%")), (.str (Str.ofString "%") 2588), (.int (24) 2520)⟩ :: ⟨(PyData.keyHash P (Str.ofString "%=")), (.str (Str.ofString "%=") 2590), (.int (40) 2552)⟩ :: ⟨(PyData.keyHash P (Str.ofString "&")), (.str (Str.ofString "&") 2592), (.int (19) 2510)⟩ :: ⟨(PyData.keyHash P (Str.ofString "&=")), (.str (Str.ofString "&=") 2594), (.int (41) 2554)⟩ :: ⟨(PyData.keyHash P (Str.ofString "(")), (.str (Str.ofString "(") 2596), (.int (7) 2486)⟩ :: ⟨(PyData.keyHash P (Str.ofString ")")), (.str (Str.ofString ")") 2598), (.int (8) 2488)⟩ :: ⟨(PyData.keyHash P (Str.ofString "*")), (.str (Str.ofString "*") 2600), (.int (16) 2504)⟩ :: ⟨(PyData.keyHash P (Str.ofString "**")), (.str (Str.ofString "**") 2602), (.int (35) 2542)⟩ :: ⟨(PyData.keyHash P (Str.ofString "**=")), (.str (Str.ofString "**=") 2604), (.int (46) 2564)⟩ :: ⟨(PyData.keyHash P (Str.ofString "*=")), (.str (Str.ofString "*=") 2606), (.int (38) 2548)⟩ :: ⟨(PyData.keyHash P (Str.ofString "+")), (.str (Str.ofString "+") 2608), (.int (14) 2500)⟩ :: ⟨(PyData.keyHash P (Str.ofString "+=")), (.str (Str.ofString "+=") 2610), (.int (36) 2544)⟩ :: ⟨(PyData.keyHash P (Str.ofString ",")), (.str (Str.ofString ",") 2612), (.int (12) 2496)⟩ :: ⟨(PyData.keyHash P (Str.ofString "-")), (.str (Str.ofString "-") 2614), (.int (15) 2502)⟩ :: ⟨(PyData.keyHash P (Str.ofString "-=")), (.str (Str.ofString "-=") 2616), (.int (37) 2546)⟩ :: ⟨(PyData.keyHash P (Str.ofString "->")), (.str (Str.ofString "->") 2618), (.int (51) 2574)⟩ :: ⟨(PyData.keyHash P (Str.ofString ".")), (.str (Str.ofString ".") 2620), (.int (23) 2518)⟩ :: ⟨(PyData.keyHash P (Str.ofString "...")), (.str (Str.ofString "...") 2622), (.int (52) 2576)⟩ :: ⟨(PyData.keyHash P (Str.ofString "/")), (.str (Str.ofString "/") 2624), (.int (17) 2506)⟩ :: ⟨(PyData.keyHash P (Str.ofString "//")), (.str (Str.ofString "//") 2626), (.int (47) 2566)⟩ :: ⟨(PyData.keyHash P (Str.ofString "//=")), (.str (Str.ofString "//=") 2628), (.int (48) 2568)⟩ :: ⟨(PyData.keyHash P (Str.ofString "/=")), (.str (Str.ofString "/=") 2630), (.int (39) 2550)⟩ :: ⟨(PyData.keyHash P (Str.ofString ":")), (.str (Str.ofString ":") 2632), (.int (11) 2494)⟩ :: ⟨(PyData.keyHash P (Str.ofString ":=")), (.str (Str.ofString ":=") 2634), (.int (53) 2578)⟩ :: ⟨(PyData.keyHash P (Str.ofString ";")), (.str (Str.ofString ";") 2636), (.int (13) 2498)⟩ :: ⟨(PyData.keyHash P (Str.ofString "<")), (.str (Str.ofString "<") 2638), (.int (20) 2512)⟩ :: ⟨(PyData.keyHash P (Str.ofString "<<")), (.str (Str.ofString "<<") 2640), (.int (33) 2538)⟩ :: ⟨(PyData.keyHash P (Str.ofString "<<=")), (.str (Str.ofString "<<=") 2642), (.int (44) 2560)⟩ :: ⟨(PyData.keyHash P (Str.ofString "<=")), (.str (Str.ofString "<=") 2644), (.int (29) 2530)⟩ :: ⟨(PyData.keyHash P (Str.ofString "=")), (.str (Str.ofString "=") 2646), (.int (22) 2516)⟩ :: ⟨(PyData.keyHash P (Str.ofString "==")), (.str (Str.ofString "==") 2648), (.int (27) 2526)⟩ :: ⟨(PyData.keyHash P (Str.ofString ">")), (.str (Str.ofString ">") 2650), (.int (21) 2514)⟩ :: ⟨(PyData.keyHash P (Str.ofString ">=")), (.str (Str.ofString ">=") 2652), (.int (30) 2532)⟩ :: ⟨(PyData.keyHash P (Str.ofString ">>")), (.str (Str.ofString ">>") 2653), (.int (34) 2540)⟩ :: ⟨(PyData.keyHash P (Str.ofString ">>=")), (.str (Str.ofString ">>=") 2654), (.int (45) 2562)⟩ :: ⟨(PyData.keyHash P (Str.ofString "@")), (.str (Str.ofString "@") 2655), (.int (49) 2570)⟩ :: ⟨(PyData.keyHash P (Str.ofString "@=")), (.str (Str.ofString "@=") 2656), (.int (50) 2572)⟩ :: ⟨(PyData.keyHash P (Str.ofString "[")), (.str (Str.ofString "[") 2657), (.int (9) 2490)⟩ :: ⟨(PyData.keyHash P (Str.ofString "]")), (.str (Str.ofString "]") 2658), (.int (10) 2492)⟩ :: ⟨(PyData.keyHash P (Str.ofString "^")), (.str (Str.ofString "^") 2659), (.int (32) 2536)⟩ :: ⟨(PyData.keyHash P (Str.ofString "^=")), (.str (Str.ofString "^=") 2660), (.int (43) 2558)⟩ :: ⟨(PyData.keyHash P (Str.ofString "{")), (.str (Str.ofString "{") 2661), (.int (25) 2522)⟩ :: ⟨(PyData.keyHash P (Str.ofString "|")), (.str (Str.ofString "|") 2662), (.int (18) 2508)⟩ :: ⟨(PyData.keyHash P (Str.ofString "|=")), (.str (Str.ofString "|=") 2663), (.int (42) 2556)⟩ :: ⟨(PyData.keyHash P (Str.ofString "}")), (.str (Str.ofString "}") 2664), (.int (26) 2524)⟩ :: ⟨(PyData.keyHash P (Str.ofString "~")), (.str (Str.ofString "~") 2665), (.int (31) 2534)⟩ :: [])) 48, #[]⟩) : Addr × Obj) ::
  ((nat_lit 235, ⟨(.type "code"), none, .fields #[(.str (Str.ofString "ISTERMINAL") 2681), (.str (Str.ofString "ISTERMINAL") 2682), (.str (Str.ofString "/claim/cut.py") 2683), (.int (168) 0), (.int (1) 0), (.int (0) 0), (.int (0) 0), (.int (3) 0), (.ref 230), (.bool true), (.int (276) 0), (.ref 231), .none, (.ref 232), (.ref 233), (.ref 234), (.int (2685) 0), (.int (168) 0), (.str (Str.ofString "/claim/cut.py") 2686)], #[]⟩) : Addr × Obj) ::
  ((nat_lit 236, ⟨(.type "function"), none, .func ⟨(Str.ofString "ISTERMINAL"), (Str.ofString "ISTERMINAL"), ps64, .stmts bd64, sc64, 3, [], .none, .none, .none, (.str (Str.ofString "cpy313.token") 2482), none, (.ref 235), .none, 0⟩, #[]⟩) : Addr × Obj) ::
  ((nat_lit 242, ⟨(.type "code"), none, .fields #[(.str (Str.ofString "ISNONTERMINAL") 2688), (.str (Str.ofString "ISNONTERMINAL") 2689), (.str (Str.ofString "/claim/cut.py") 2690), (.int (170) 0), (.int (1) 0), (.int (0) 0), (.int (0) 0), (.int (3) 0), (.ref 237), (.bool true), (.int (276) 0), (.ref 238), .none, (.ref 239), (.ref 240), (.ref 241), (.int (2692) 0), (.int (170) 0), (.str (Str.ofString "/claim/cut.py") 2693)], #[]⟩) : Addr × Obj) ::
  ((nat_lit 243, ⟨(.type "function"), none, .func ⟨(Str.ofString "ISNONTERMINAL"), (Str.ofString "ISNONTERMINAL"), ps65, .stmts bd65, sc65, 3, [], .none, .none, .none, (.str (Str.ofString "cpy313.token") 2482), none, (.ref 242), .none, 0⟩, #[]⟩) : Addr × Obj) ::
  ((nat_lit 249, ⟨(.type "code"), none, .fields #[(.str (Str.ofString "ISEOF") 2695), (.str (Str.ofString "ISEOF") 2696), (.str (Str.ofString "/claim/cut.py") 2697), (.int (172) 0), (.int (1) 0), (.int (0) 0), (.int (0) 0), (.int (3) 0), (.ref 244), (.bool true), (.int (276) 0), (.ref 245), .none, (.ref 246), (.ref 247), (.ref 248), (.int (2699) 0), (.int (172) 0), (.str (Str.ofString "/claim/cut.py") 2700)], #[]⟩) : Addr × Obj) ::
  ((nat_lit 250, ⟨(.type "function"), none, .func ⟨(Str.ofString "ISEOF"), (Str.ofString "ISEOF"), ps66, .stmts bd66, sc66, 3, [], .none, .none, .none, (.str (Str.ofString "cpy313.token") 2482), none, (.ref 249), .none, 0⟩, #[]⟩) : Addr × Obj) ::
  ((nat_lit 256, ⟨(.type "code"), none, .fields #[(.str (Str.ofString "_law_draws") 2704), (.str (Str.ofString "_law_draws") 2705), (.str (Str.ofString "/claim/cut.py") 2706), (.int (175) 0), (.int (1) 0), (.int (0) 0), (.int (0) 0), (.int (3) 0), (.ref 251), (.bool true), (.int (276) 0), (.ref 252), .none, (.ref 253), (.ref 254), (.ref 255), (.int (2711) 0), (.int (175) 0), (.str (Str.ofString "/claim/cut.py") 2712)], #[]⟩) : Addr × Obj) ::
  ((nat_lit 257, ⟨(.type "function"), none, .func ⟨(Str.ofString "_law_draws"), (Str.ofString "_law_draws"), ps68, .stmts bd68, sc68, 3, [], .none, .none, .none, (.str (Str.ofString "law_sn0103_01") 2702), none, (.ref 256), .none, 0⟩, #[]⟩) : Addr × Obj) ::
  ((nat_lit 261, ⟨(.type "code"), none, .fields #[(.str (Str.ofString "_law_pairs") 2714), (.str (Str.ofString "_law_pairs") 2715), (.str (Str.ofString "/claim/cut.py") 2716), (.int (180) 0), (.int (0) 0), (.int (0) 0), (.int (0) 0), (.int (3) 0), (.ref 258), (.bool true), (.int (276) 0), (.ref 259), .none, .none, .none, (.ref 260), (.int (2717) 0), (.int (180) 0), (.str (Str.ofString "/claim/cut.py") 2718)], #[]⟩) : Addr × Obj) ::
  ((nat_lit 262, ⟨(.type "function"), none, .func ⟨(Str.ofString "_law_pairs"), (Str.ofString "_law_pairs"), ps69, .stmts bd69, sc69, 3, [], .none, .none, .none, (.str (Str.ofString "law_sn0103_01") 2702), none, (.ref 261), .none, 0⟩, #[]⟩) : Addr × Obj) ::
  ((nat_lit 268, ⟨(.type "code"), none, .fields #[(.str (Str.ofString "_law_spelled") 2720), (.str (Str.ofString "_law_spelled") 2721), (.str (Str.ofString "/claim/cut.py") 2722), (.int (182) 0), (.int (2) 0), (.int (0) 0), (.int (0) 0), (.int (3) 0), (.ref 263), (.bool true), (.int (276) 0), (.ref 264), .none, (.ref 265), (.ref 266), (.ref 267), (.int (2725) 0), (.int (182) 0), (.str (Str.ofString "/claim/cut.py") 2726)], #[]⟩) : Addr × Obj) ::
  ((nat_lit 269, ⟨(.type "function"), none, .func ⟨(Str.ofString "_law_spelled"), (Str.ofString "_law_spelled"), ps70, .stmts bd70, sc70, 3, [], .none, .none, .none, (.str (Str.ofString "law_sn0103_01") 2702), none, (.ref 268), .none, 0⟩, #[]⟩) : Addr × Obj) ::
  ((nat_lit 275, ⟨(.type "code"), none, .fields #[(.str (Str.ofString "_law_report") 2728), (.str (Str.ofString "_law_report") 2729), (.str (Str.ofString "/claim/cut.py") 2730), (.int (186) 0), (.int (1) 0), (.int (0) 0), (.int (0) 0), (.int (3) 0), (.ref 270), (.bool true), (.int (276) 0), (.ref 271), .none, (.ref 272), (.ref 273), (.ref 274), (.int (2736) 0), (.int (186) 0), (.str (Str.ofString "/claim/cut.py") 2737)], #[]⟩) : Addr × Obj) ::
  ((nat_lit 276, ⟨(.type "function"), none, .func ⟨(Str.ofString "_law_report"), (Str.ofString "_law_report"), ps71, .stmts bd71, sc71, 3, [], .none, .none, .none, (.str (Str.ofString "law_sn0103_01") 2702), none, (.ref 275), .none, 0⟩, #[]⟩) : Addr × Obj) ::
  ((nat_lit 280, ⟨(.type "code"), none, .fields #[(.str (Str.ofString "_law_symbols") 2739), (.str (Str.ofString "_law_symbols") 2740), (.str (Str.ofString "/claim/cut.py") 2741), (.int (192) 0), (.int (1) 0), (.int (0) 0), (.int (0) 0), (.int (3) 0), (.ref 277), (.bool true), (.int (276) 0), (.ref 278), .none, .none, .none, (.ref 279), (.int (2742) 0), (.int (192) 0), (.str (Str.ofString "/claim/cut.py") 2743)], #[]⟩) : Addr × Obj) ::
  ((nat_lit 281, ⟨(.type "function"), none, .func ⟨(Str.ofString "_law_symbols"), (Str.ofString "_law_symbols"), ps72, .stmts bd72, sc72, 3, [], .none, .none, .none, (.str (Str.ofString "law_sn0103_01") 2702), none, (.ref 280), .none, 0⟩, #[]⟩) : Addr × Obj) ::
  ((nat_lit 287, ⟨(.type "code"), none, .fields #[(.str (Str.ofString "_law_due") 2745), (.str (Str.ofString "_law_due") 2746), (.str (Str.ofString "/claim/cut.py") 2747), (.int (204) 0), (.int (1) 0), (.int (0) 0), (.int (0) 0), (.int (3) 0), (.ref 282), (.bool true), (.int (276) 0), (.ref 283), .none, (.ref 284), (.ref 285), (.ref 286), (.int (2752) 0), (.int (204) 0), (.str (Str.ofString "/claim/cut.py") 2753)], #[]⟩) : Addr × Obj) ::
  ((nat_lit 288, ⟨(.type "function"), none, .func ⟨(Str.ofString "_law_due"), (Str.ofString "_law_due"), ps73, .stmts bd73, sc73, 3, [], .none, .none, .none, (.str (Str.ofString "law_sn0103_01") 2702), none, (.ref 287), .none, 0⟩, #[]⟩) : Addr × Obj) ::
  ((nat_lit 292, ⟨(.type "code"), none, .fields #[(.str (Str.ofString "_law_games") 2755), (.str (Str.ofString "_law_games") 2756), (.str (Str.ofString "/claim/cut.py") 2757), (.int (209) 0), (.int (1) 0), (.int (0) 0), (.int (0) 0), (.int (3) 0), (.ref 289), (.bool true), (.int (276) 0), (.ref 290), .none, .none, .none, (.ref 291), (.int (2758) 0), (.int (209) 0), (.str (Str.ofString "/claim/cut.py") 2759)], #[]⟩) : Addr × Obj) ::
  ((nat_lit 293, ⟨(.type "function"), none, .func ⟨(Str.ofString "_law_games"), (Str.ofString "_law_games"), ps74, .stmts bd74, sc74, 3, [], .none, .none, .none, (.str (Str.ofString "law_sn0103_01") 2702), none, (.ref 292), .none, 0⟩, #[]⟩) : Addr × Obj) ::
  ((nat_lit 297, ⟨(.type "code"), none, .fields #[(.str (Str.ofString "_law_beaten") 2761), (.str (Str.ofString "_law_beaten") 2762), (.str (Str.ofString "/claim/cut.py") 2763), (.int (220) 0), (.int (1) 0), (.int (0) 0), (.int (0) 0), (.int (3) 0), (.ref 294), (.bool true), (.int (276) 0), (.ref 295), .none, .none, .none, (.ref 296), (.int (2764) 0), (.int (220) 0), (.str (Str.ofString "/claim/cut.py") 2765)], #[]⟩) : Addr × Obj) ::
  ((nat_lit 298, ⟨(.type "function"), none, .func ⟨(Str.ofString "_law_beaten"), (Str.ofString "_law_beaten"), ps75, .stmts bd75, sc75, 3, [], .none, .none, .none, (.str (Str.ofString "law_sn0103_01") 2702), none, (.ref 297), .none, 0⟩, #[]⟩) : Addr × Obj) ::
  ((nat_lit 304, ⟨(.type "code"), none, .fields #[(.str (Str.ofString "_law_paths") 2767), (.str (Str.ofString "_law_paths") 2768), (.str (Str.ofString "/claim/cut.py") 2769), (.int (223) 0), (.int (2) 0), (.int (0) 0), (.int (0) 0), (.int (3) 0), (.ref 299), (.bool true), (.int (276) 0), (.ref 300), .none, (.ref 301), (.ref 302), (.ref 303), (.int (2774) 0), (.int (223) 0), (.str (Str.ofString "/claim/cut.py") 2775)], #[]⟩) : Addr × Obj) ::
  ((nat_lit 305, ⟨(.type "function"), none, .func ⟨(Str.ofString "_law_paths"), (Str.ofString "_law_paths"), ps76, .stmts bd76, sc76, 3, [], .none, .none, .none, (.str (Str.ofString "law_sn0103_01") 2702), none, (.ref 304), .none, 0⟩, #[]⟩) : Addr × Obj) ::
  ((nat_lit 309, ⟨(.type "code"), none, .fields #[(.str (Str.ofString "_law_classes") 2777), (.str (Str.ofString "_law_classes") 2778), (.str (Str.ofString "/claim/cut.py") 2779), (.int (229) 0), (.int (1) 0), (.int (0) 0), (.int (0) 0), (.int (3) 0), (.ref 306), (.bool true), (.int (276) 0), (.ref 307), .none, .none, .none, (.ref 308), (.int (2780) 0), (.int (229) 0), (.str (Str.ofString "/claim/cut.py") 2781)], #[]⟩) : Addr × Obj) ::
  ((nat_lit 310, ⟨(.type "function"), none, .func ⟨(Str.ofString "_law_classes"), (Str.ofString "_law_classes"), ps77, .stmts bd77, sc77, 3, [], .none, .none, .none, (.str (Str.ofString "law_sn0103_01") 2702), none, (.ref 309), .none, 0⟩, #[]⟩) : Addr × Obj) ::
  ((nat_lit 316, ⟨(.type "code"), none, .fields #[(.str (Str.ofString "_law_always") 2783), (.str (Str.ofString "_law_always") 2784), (.str (Str.ofString "/claim/cut.py") 2785), (.int (242) 0), (.int (3) 0), (.int (0) 0), (.int (0) 0), (.int (3) 0), (.ref 311), (.bool true), (.int (276) 0), (.ref 312), .none, (.ref 313), (.ref 314), (.ref 315), (.int (2790) 0), (.int (242) 0), (.str (Str.ofString "/claim/cut.py") 2791)], #[]⟩) : Addr × Obj) ::
  ((nat_lit 317, ⟨(.type "function"), none, .func ⟨(Str.ofString "_law_always"), (Str.ofString "_law_always"), ps78, .stmts bd78, sc78, 3, [], .none, .none, .none, (.str (Str.ofString "law_sn0103_01") 2702), none, (.ref 316), .none, 0⟩, #[]⟩) : Addr × Obj) ::
  ((nat_lit 323, ⟨(.type "code"), none, .fields #[(.str (Str.ofString "_law_in_order") 2793), (.str (Str.ofString "_law_in_order") 2794), (.str (Str.ofString "/claim/cut.py") 2795), (.int (247) 0), (.int (2) 0), (.int (0) 0), (.int (0) 0), (.int (3) 0), (.ref 318), (.bool true), (.int (276) 0), (.ref 319), .none, (.ref 320), (.ref 321), (.ref 322), (.int (2802) 0), (.int (247) 0), (.str (Str.ofString "/claim/cut.py") 2803)], #[]⟩) : Addr × Obj) ::
  ((nat_lit 324, ⟨(.type "function"), none, .func ⟨(Str.ofString "_law_in_order"), (Str.ofString "_law_in_order"), ps79, .stmts bd79, sc79, 3, [], .none, .none, .none, (.str (Str.ofString "law_sn0103_01") 2702), none, (.ref 323), .none, 0⟩, #[]⟩) : Addr × Obj) ::
  ((nat_lit 328, ⟨(.type "code"), none, .fields #[(.str (Str.ofString "law") 2805), (.str (Str.ofString "law") 2806), (.str (Str.ofString "/claim/cut.py") 2807), (.int (253) 0), (.int (1) 0), (.int (0) 0), (.int (0) 0), (.int (3) 0), (.ref 325), (.bool true), (.int (276) 0), (.ref 326), .none, .none, .none, (.ref 327), (.int (2808) 0), (.int (253) 0), (.str (Str.ofString "/claim/cut.py") 2809)], #[]⟩) : Addr × Obj) ::
  ((nat_lit 329, ⟨(.type "function"), none, .func ⟨(Str.ofString "law"), (Str.ofString "law"), ps80, .stmts bd80, sc80, 3, [], .none, .none, .none, (.str (Str.ofString "law_sn0103_01") 2702), none, (.ref 328), .none, 0⟩, #[]⟩) : Addr × Obj) :: []
noncomputable def K : Params → Frag := by
  refine (?f : ((fun P => K0 P) = ?b) → Params → Frag) ?h
  case h => (conv => lhs; delta K0; delta ps5m0 bd5m0 sc5m0 ps5m1 bd5m1 sc5m1 ps5m7 bd5m7 sc5m7 ps8 bd8 sc8 ps11 bd11 sc11 ps64 bd64 sc64 ps65 bd65 sc65 ps66 bd66 sc66 ps68 bd68 sc68 ps69 bd69 sc69 ps70 bd70 sc70 ps71 bd71 sc71 ps72 bd72 sc72 ps73 bd73 sc73 ps74 bd74 sc74 ps75 bd75 sc75 ps76 bd76 sc76 ps77 bd77 sc77 ps78 bd78 sc78 ps79 bd79 sc79 ps80 bd80 sc80)
  case f => exact fun _ => ?b
noncomputable abbrev keepK : List Addr := nat_lit 2 :: nat_lit 3 :: nat_lit 42 :: nat_lit 43 :: nat_lit 47 :: nat_lit 48 :: nat_lit 56 :: nat_lit 62 :: nat_lit 63 :: nat_lit 69 :: nat_lit 70 :: nat_lit 107 :: nat_lit 108 :: nat_lit 168 :: nat_lit 169 :: nat_lit 170 :: nat_lit 171 :: nat_lit 179 :: nat_lit 180 :: nat_lit 181 :: nat_lit 225 :: nat_lit 226 :: nat_lit 227 :: nat_lit 235 :: nat_lit 236 :: nat_lit 242 :: nat_lit 243 :: nat_lit 249 :: nat_lit 250 :: nat_lit 256 :: nat_lit 257 :: nat_lit 261 :: nat_lit 262 :: nat_lit 268 :: nat_lit 269 :: nat_lit 275 :: nat_lit 276 :: nat_lit 280 :: nat_lit 281 :: nat_lit 287 :: nat_lit 288 :: nat_lit 292 :: nat_lit 293 :: nat_lit 297 :: nat_lit 298 :: nat_lit 304 :: nat_lit 305 :: nat_lit 309 :: nat_lit 310 :: nat_lit 316 :: nat_lit 317 :: nat_lit 323 :: nat_lit 324 :: nat_lit 328 :: nat_lit 329 :: []
theorem K_addrs (P : Params) : keepK = (K P).map (·.1) := by kernel_rfl
noncomputable abbrev HK : Hook := kHook K keepK K_addrs
end Mine
end
section
open PySem PySem.W PyProof.Rows
set_option maxRecDepth 100000
namespace Mine
noncomputable def lawS : Stmt := (bodyP.getLast?).getD (.Pass default)
noncomputable def qV : Program := { pw with main := { pw.main with body := [lawS] } }
noncomputable def looseV : List Str := (Program.boundNames pw).filter fun n => !(n == ("law" : Str))
noncomputable def xtV : Shared → Bool := fun s => xlAt qV [] s && recOk [] s
noncomputable def modsV : List Str := importedModules pw.main.body
noncomputable def bumpG (x : Str) (ps : List Pr) (w : World) (S : SharedT) : Option SharedT :=
  match Nat.ble 28 S.n with
  | false => none
  | true => match S.tree.get mainNs with
    | none => none
    | some o => match nsOk x o with
      | false => none
      | true => (insAll S.tree S.n (ownOf S.toks (chunks ps))).bind fun t => match t.get mainNs with
        | none => none
        | some _ => some ⟨t.set mainNs (Obj.putName x (nameHash w x) (.str x (S.toks + 3 * ps.length)) (.ref S.n)), S.n + (ownOf S.toks (chunks ps)).length, S.life, S.gens, S.drawn, S.toks + 3 * ps.length + 1, S.os⟩
noncomputable def megaG (pw qV : Program) (bodyP stA stC : List Stmt) (envM : Env) (cdM : Code) (looseV modsV : List Str) (bx : Str) (bps : List Pr) (keep : List Addr) (w : World) (px : Pos) :=
  (fencedOpening treeTable pw w 400000).bind fun s0 =>
  (topGo treeTable pw w 28 annM 12 s0 (topStub pw)).bind fun r1 =>
  (toT r1.1).bind fun Ta =>
  (segRunT treeTable pw w 28 annM 1 100 Ta (blockOf bodyP envM cdM p00 [topFrame p00])).bind fun r2 =>
  (segRunT treeTable pw w 28 annM 1 3000 r2.2.1 (piecesOf stA envM cdM p00 [topFrame p00])).bind fun r3 =>
  (bumpG bx bps w r3.2.1).bind fun SB =>
  (segRunT treeTable pw w 28 annM 1 4000 SB (piecesOf stC envM cdM px [topFrame p00])).bind fun r4 =>
  (topRun treeTable pw w 28 annM 3 r4.2.1.abs ⟨doneF .next, cdM, r4.2.2.2, [topFrame p00]⟩).bind fun s1 =>
  some ((s0.heap.isNs mainGlobals && s0.gens.size == 0, s0.heap.objs.size, s0.heap.nsMap mainGlobals "__annotations__"), r1.2, (r2.1, r2.2.2.1, r2.2.2.2), (r3.1, r3.2.2.1), (r4.1, r4.2.2.1),
    (staticsOk modsV s0.heap s1.heap && namesBound pw s1.heap && gensDone s1 && laidKept s0.heap s1.heap), openSeen qV looseV modsV (fun s => xlAt qV [] s && recOk [] s) true s1, keep.map s1.heap.get?)
noncomputable def megaGoodG (qV : Program) (looseV : List Str) (cdM : Code) (kk : Frag) :=
  some ((true, 28, annM), (⟨denote treeTable cdM, cdM, p00, [topFrame p00]⟩ : Thread), ((Flow.next, cdM, p00) : Flow × Code × Pos), ((Flow.next, cdM) : Flow × Code), ((Flow.next, cdM) : Flow × Code), true, openGood qV looseV, kk.map fun p => some p.2)
noncomputable def mega (w : World) (px : Pos) := megaG pw qV bodyP stA stC envM cdM looseV modsV bParts.1 psB keepK w px
noncomputable def megaGood (w : World) := megaGoodG qV looseV cdM (K w.params)
set_option maxHeartbeats 0
lay_quick Mine.megaG Mine.megaGoodG
end Mine
end
section
open PySem PySem.W PyProof.Rows
set_option maxRecDepth 100000
set_option maxHeartbeats 0
namespace Mine
theorem bind_some {α β : Type} {x : Option α} {f : α → Option β} {b : β} (h : x.bind f = some b) : ∃ a, x = some a ∧ f a = some b := Option.bind_eq_some_iff.mp h
theorem left_of (me : ∀ (w : World) (px : Pos), mega w px = megaGood w) : LeftO pw qV looseV xtV (Hook.obs HK) (Hook.val HK) 400000 := by
  intro w
  have m0 := me w p00
  unfold mega megaGood megaG megaGoodG at m0
  obtain ⟨s0, a0, m0⟩ := bind_some m0
  obtain ⟨⟨u1, t1⟩, a1, m0⟩ := bind_some m0
  obtain ⟨Ta, a2, m0⟩ := bind_some m0
  obtain ⟨⟨f2, T2, c2, p2⟩, a3, m0⟩ := bind_some m0
  obtain ⟨⟨f3, T3, c3, p3⟩, a4, m0⟩ := bind_some m0
  obtain ⟨SB, a5, _⟩ := bind_some m0
  clear m0
  have g := bump_ok a5
  obtain ⟨n, px, hn, hg⟩ := g (fun f => match f with | .next => (execs stC envM).wrap doneF (leaveH envM) id id | f => doneF f) (leaveH envM) id id cdM p3 (topFrame p00) []
  have m := me w px
  unfold mega megaGood megaG megaGoodG at m
  rw [a0] at m
  simp only [Option.bind_some] at m
  rw [a1] at m
  simp only [Option.bind_some] at m
  rw [a2] at m
  simp only [Option.bind_some] at m
  rw [a3] at m
  simp only [Option.bind_some] at m
  rw [a4] at m
  simp only [Option.bind_some] at m
  rw [a5] at m
  simp only [Option.bind_some] at m
  obtain ⟨⟨f6, T6, c6, p6⟩, a6, m⟩ := bind_some m
  obtain ⟨s1, a7, m⟩ := bind_some m
  have m := Option.some.inj m
  simp only [Prod.mk.injEq] at m
  obtain ⟨⟨z1, z2, z3⟩, y1, ⟨rfl, rfl, rfl⟩, ⟨rfl, rfl⟩, ⟨rfl, rfl⟩, k1, k2, k3⟩ := m
  have r7 := piece_nil (env := envM) a7
  have r6 := piece_app (l := stC) (rest := []) (segRun_of a6) r7
  rw [List.append_nil] at r6
  have r5 : topRun treeTable pw w 28 annM (n + (4000 + 3)) T3.abs (restOf (stB :: stC) envM cdM p3 [topFrame p00]) = some s1 := by
    unfold restOf
    rw [execs_cons_wrap]
    exact (hg _).trans r6
  have r4 := piece_app (l := stA) (rest := stB :: stC) (segRun_of a4) r5
  rw [← body_split] at r4
  have r3 := piece_block (segRun_of a3) r4
  rw [toT_abs a2] at r3
  have e1 : t1 = ⟨denote treeTable cdM, cdM, p00, [topFrame p00]⟩ := y1
  rw [e1] at a1
  have r1 := go_top a1 r3
  have r := topRun_mono (400000 - (12 + (100 + (3000 + (n + (4000 + 3)))))) _ _ _ _ r1
  rw [show 12 + (100 + (3000 + (n + (4000 + 3)))) + (400000 - (12 + (100 + (3000 + (n + (4000 + 3)))))) = 400000 by omega] at r
  have t : topFrom treeTable pw w 400000 s0 = some s1 := by
    unfold topFrom
    rw [z1, z2, z3, r]
    show (match staticsOk (importedModules pw.main.body) s0.heap s1.heap && namesBound pw s1.heap && gensDone s1 && laidKept s0.heap s1.heap with | true => _ | false => _) = _
    rw [show (staticsOk (importedModules pw.main.body) s0.heap s1.heap && namesBound pw s1.heap && gensDone s1 && laidKept s0.heap s1.heap) = true from k1]
  unfold openEnds
  rw [a0]
  show (topFrom treeTable pw w 400000 _).map _ = _
  rw [t]
  exact congrArg some (Prod.ext k2 k3)
end Mine
end
section
open PySem PySem.W PyProof.Rows
set_option maxRecDepth 100000
set_option maxHeartbeats 0
namespace Mine
theorem mega_f (w : World) (px : Pos) : PySem.W.Fast.tw11676848803355653323 pw qV bodyP stA stC envM cdM looseV modsV bParts.1 psB keepK (w.withFollow "special-get-raises" false) px = PySem.W.Fast.tw18105230926394643542 qV looseV cdM (K (w.withFollow "special-get-raises" false).params) := by kernel_rfl
theorem mega_t (w : World) (px : Pos) : PySem.W.Fast.tw11676848803355653323 pw qV bodyP stA stC envM cdM looseV modsV bParts.1 psB keepK (w.withFollow "special-get-raises" true) px = PySem.W.Fast.tw18105230926394643542 qV looseV cdM (K (w.withFollow "special-get-raises" true).params) := by kernel_rfl
theorem mega_eq (w : World) (px : Pos) : mega w px = megaGood w := by
  have h : ∀ b, mega (w.withFollow "special-get-raises" b) px = megaGood (w.withFollow "special-get-raises" b) := by
    intro b
    unfold mega megaGood
    rw [PySem.W.Fast.te11676848803355653323, PySem.W.Fast.te18105230926394643542]
    cases b
    · exact mega_f w px
    · exact mega_t w px
  have := h (w.params.followText "special-get-raises")
  rwa [World.withFollow_self] at this
end Mine
end
section
open PySem PySem.W PyProof.Rows
set_option maxRecDepth 100000
set_option maxHeartbeats 0
namespace Mine
noncomputable def lawG (p : Program) : OpenLaw := { prog := p, name := "law", about := ["Headers", "get_all"], foot := 13, most := some 63, bound := none, writes := false }
noncomputable def saidG (p : Program) : Bool := (lawG p).wellSaid
lay_quick Mine.saidG
end Mine
end
section
open PySem PySem.W PyProof.Rows
set_option maxRecDepth 100000
set_option maxHeartbeats 0
namespace Mine
theorem said_ok : PySem.W.Fast.tw1568032226376447359 pw = true := by
  delta PySem.W.Fast.tw1568032226376447359 PySem.W.Fast.tw9446332074065402090 PySem.W.Fast.tw17960256430627541270 PySem.W.Fast.tw2436336058641802641 PySem.W.Fast.tw12908688711261696721
  repeat' (with_reducible refine look_both ?_ ?_)
  all_goals (as_aux_lemma => kernel_rfl)
theorem said : PySem.Challenge.rw_sn0103_01.wellSaid = true := (congrFun PySem.W.Fast.te1568032226376447359 pw).trans said_ok
end Mine
end
section
open PySem PySem.W PySem.Calls PyProof.Rows PyProof.V PySem.Spec
set_option maxRecDepth 100000
namespace Mine
/-- a comprehension's tests -/
noncomputable abbrev testsOf (ifs : List Expr) (env : Env) : Sem Bool :=
  forIn ifs true fun c r => if r = true then do let ok ← isTrue c env (eval c env); pure (ForInStep.yield ok) else pure (ForInStep.yield r)
/-- one turn of a comprehension's loop, whatever it emits -/
noncomputable def TurnIs (e : Expr) (d : Nat) (it acc : Value) (env : Env) (target : Expr) (ifs : List Expr) (p : Pos) (inner : Sem Fin → Sem Fin) : Prop :=
  compTurn e d it acc env = (do
      standAt p
      match ← pyNext it with
      | none => pure (.done .next)
      | some v =>
        letOwnedTupleGo target it v
        assign target env v
        let ok ← testsOf ifs env
        if ok then inner (again (.compLoop e d it acc env)) else again (.compLoop e d it acc env))
noncomputable def appendTo (acc : Value) (elt : Expr) (env : Env) (k : Sem Fin) : Sem Fin := do
  (do let _ ← call (.builtin "list.append") [acc, ← eval elt env])
  k
theorem turn_list1 (elt target iter : Expr) (ifs : List Expr) (scope : Scope) (pos : Pos) (it acc : Value) (env : Env) :
    TurnIs (.ListComp elt [⟨target, iter, ifs, 0⟩] scope pos) 0 it acc env target ifs iter.pos (appendTo acc elt env) := rfl
theorem turn_list21 (elt t1 i1 target iter : Expr) (f1 ifs : List Expr) (scope : Scope) (pos : Pos) (it acc : Value) (env : Env) :
    TurnIs (.ListComp elt [⟨t1, i1, f1, 0⟩, ⟨target, iter, ifs, 0⟩] scope pos) 1 it acc env target ifs iter.pos (appendTo acc elt env) := rfl
noncomputable def innerLoop (e : Expr) (iter : Expr) (acc : Value) (env : Env) (k : Sem Fin) : Sem Fin := do
  let x ← eval iter env
  standAt iter.pos
  let x ← foldedSetIterable iter env x
  let _ ← runOwn (.compStart e 1 (← holding [x] (pyIter x)) acc env) env
  k
theorem turn_list20 (elt target iter t2 i2 : Expr) (ifs f2 : List Expr) (scope : Scope) (pos : Pos) (it acc : Value) (env : Env) :
    TurnIs (.ListComp elt [⟨target, iter, ifs, 0⟩, ⟨t2, i2, f2, 0⟩] scope pos) 0 it acc env target ifs iter.pos (innerLoop (.ListComp elt [⟨target, iter, ifs, 0⟩, ⟨t2, i2, f2, 0⟩] scope pos) i2 acc env) := rfl
noncomputable def putIn (D : Addr) (kx vx : Expr) (env : Env) (k : Sem Fin) : Sem Fin := do
  (do
    let kv ← eval kx env
    let vv ← holding [kv] (eval vx env)
    standAt { kx.pos with endLine := vx.pos.endLine, endCol := vx.pos.endCol }
    holding [kv, vv] (dictSet D kv vv))
  k
theorem turn_dict1 (kx vx target iter : Expr) (ifs : List Expr) (scope : Scope) (pos : Pos) (it : Value) (D : Addr) (env : Env) :
    TurnIs (.DictComp kx vx [⟨target, iter, ifs, 0⟩] scope pos) 0 it (.ref D) env target ifs iter.pos (putIn D kx vx env) := rfl

section
variable {prog : Program} {w : World} {A : Around} {R : Result → Shared → Prop} {s : Shared}
theorem compLoop_any {e : Expr} {d : Nat} {it acc : Value} {env : Env} {target : Expr} {ifs : List Expr} {p : Pos} {inner : Sem Fin → Sem Fin} {Inn : (Shared → Prop) → (Value → Shared → Prop) → Shared → Prop}
    (hT : TurnIs e d it acc env target ifs p inner) (hI : ∀ (k : Sem Fin) (Q : Fin → Shared → Prop) (E : Value → Shared → Prop) (s : Shared), Inn (fun s' => wpAny (model prog w) A k Q E s') E s → wpAny (model prog w) A (inner k) Q E s)
    (hIm : ∀ (Q Q' : Shared → Prop) E s, Inn Q E s → (∀ s, Q s → Q' s) → Inn Q' E s) (hfr : (Code.compLoop e d it acc env).isFrame = false) (hq : (Code.compLoop e d it acc env).quiet = true) (hA : A.under (.compLoop e d it acc env) = A) (I : Nat → Shared → Prop)
    (turn : ∀ n s, I n s → wpAny (model prog w) A (pyNext it) (fun r s₁ => match r with
      | none => R (.ok .next) s₁
      | some v => wpAny (model prog w) A (letOwnedTupleGo target it v) (fun _ s₁' => wpAny (model prog w) A (assign target env v) (fun _ s₂ =>
          wpAny (model prog w) A (testsOf ifs env) (fun ok s₃ =>
            if ok = true then Inn (fun s₄ => ∃ m, m < n ∧ I m s₄) (notedBy (model prog w) A env fun e s' => R (.error e) s') s₃
            else ∃ m, m < n ∧ I m s₃) (notedBy (model prog w) A env fun e s' => R (.error e) s') s₂) (notedBy (model prog w) A env fun e s' => R (.error e) s') s₁') (notedBy (model prog w) A env fun e s' => R (.error e) s') s₁) (notedBy (model prog w) A env fun e s' => R (.error e) s') s)
    (n : Nat) (h : I n s) : codeAny (model prog w) A (.compLoop e d it acc env) R s := by
  refine codeAny_loop hq I (fun n s hIn => ?_) n h
  have e1 : (model prog w).den (.compLoop e d it acc env) = (compTurn e d it acc env).onRaise (fun x => do noteFrame x env; theTreesLotGoes x) := by
    show (if (Code.compLoop e d it acc env).isFrame = true then _ else _) = _
    rw [hfr]; rfl
  rw [e1, hA]
  refine wpAny_noted ?_
  rw [hT]
  refine wpAny_bind (wpAny_standAt (wpAny_bind (wpAny_mono (turn n s hIn) (fun r s₁ h₁ => ?_) fun _ _ h' => h')))
  cases r with
  | none => exact wpAny_pure h₁
  | some v =>
    refine wpAny_bind (wpAny_mono h₁ (fun _ s₁' h₁' => wpAny_bind (wpAny_mono h₁' (fun _ s₂ h₂ => wpAny_bind (wpAny_mono h₂ (fun ok s₃ h₃ => ?_) fun _ _ h' => h')) fun _ _ h' => h')) fun _ _ h' => h')
    cases ok with
    | false => exact wpAny_pure ⟨rfl, h₃⟩
    | true => exact hI _ _ _ _ (hIm _ _ _ _ h₃ fun s₄ h₄ => wpAny_pure ⟨rfl, h₄⟩)
end

section
variable {prog : Program} {w : World} {A : Around} {h₀ : Heap} {L : Addr} {m : Str → Option Value}
/-- the state between two turns -/
noncomputable def CEnd (h₀ : Heap) (L : Addr) (m : Str → Option Value) (wr : List Addr) (own : List (Addr × Obj)) (J : List (Addr × Obj) → Prop) (s s' : Shared) : Prop :=
  ∃ h' tk news', s' = { s with heap := h', toks := tk } ∧ Fr h₀ L h' m ∧ News h₀ L h' (news' ++ own) ∧ (∀ p ∈ news', p.1 ∉ wr) ∧ J news'
theorem compLoop_turns {R : Result → Shared → Prop} {s : Shared} {e : Expr} {d : Nat} {acc : Value} {env : Env} {target : Expr} {ifs : List Expr} {p : Pos} {inner : Sem Fin → Sem Fin} {Inn : (Shared → Prop) → (Value → Shared → Prop) → Shared → Prop}
    {I : Addr} {fp wr : List Addr} {n : Nat} {P Md : Nat → Value → Heap → Prop} {St : Nat → Heap → Prop} {news : List (Addr × Obj)}
    (W : KTurns prog w A target I fp wr n P Md St)
    (hT : TurnIs e d (.ref I) acc env target ifs p inner) (hI : ∀ (k : Sem Fin) (Q : Fin → Shared → Prop) (E : Value → Shared → Prop) (s : Shared), Inn (fun s' => wpAny (model prog w) A k Q E s') E s → wpAny (model prog w) A (inner k) Q E s)
    (hIm : ∀ (Q Q' : Shared → Prop) E s, Inn Q E s → (∀ s, Q s → Q' s) → Inn Q' E s) (hfr : (Code.compLoop e d (.ref I) acc env).isFrame = false) (hq : (Code.compLoop e d (.ref I) acc env).quiet = true) (hA : A.under (.compLoop e d (.ref I) acc env) = A)
    (hLf : L ∉ fp) (hwr : ∀ b ∈ wr, h₀.get? b = none) (hnw : ∀ p ∈ news, p.1 ∉ wr) (hst : St 0 s.heap) (F : Fr h₀ L s.heap m) (N : News h₀ L s.heap news)
    (J : Nat → List (Addr × Obj) → Prop) (h0 : J 0 news)
    (step : ∀ i v news₁ h₁ tk₁ own (E' : Value → Shared → Prop), i < n → P i v h₁ → J i news₁ → (∀ p ∈ news₁, p.1 ∉ wr) → (∀ p ∈ own, p.1 ∈ fp) → (∀ b ∈ fp, h₀.get? b = none → ∀ o, h₁.get? b = some o → (b, o) ∈ own) → St (i + 1) h₁ →
      Fr h₀ L h₁ m → News h₀ L h₁ (news₁ ++ own) →
      wpAny (model prog w) A (assign target env v) (fun _ s₂ => wpAny (model prog w) A (testsOf ifs env) (fun ok s₃ =>
        if ok = true then Inn (fun s₄ => CEnd h₀ L m wr own (J (i + 1)) s s₄) E' s₃ else CEnd h₀ L m wr own (J (i + 1)) s s₃) E' s₂) E' { s with heap := h₁, toks := tk₁ })
    (hR : ∀ h' tk news', Fr h₀ L h' m → News h₀ L h' news' → (∀ p ∈ news', p.1 ∉ wr) → J n news' → R (.ok .next) { s with heap := h', toks := tk }) :
    codeAny (model prog w) A (.compLoop e d (.ref I) acc env) R s := by
  have hLw : L ∉ wr := fun h => hLf (W.sub _ h)
  have old : ∀ b o, h₀.get? b = some o → b ∉ wr := fun b o e hb => by rw [hwr b hb] at e; cases e
  refine compLoop_any hT hI hIm hfr hq hA
    (fun k s' => ∃ h' tk news' i, s' = { s with heap := h', toks := tk } ∧ St i h' ∧ Fr h₀ L h' m ∧ News h₀ L h' news' ∧ (∀ p ∈ news', p.1 ∉ wr) ∧ J i news' ∧ i ≤ n ∧ k = n + 1 - i) ?_ (n + 1)
    ⟨s.heap, s.toks, news, 0, rfl, hst, F, N, hnw, h0, Nat.zero_le _, rfl⟩
  rintro k s' ⟨h', tk, news', i, rfl, hst', F', N', hnw', hJ, hi, rfl⟩
  have next : ∀ h₁ : Heap, (∀ b o, b ∉ wr → h'.get? b = some o → h₁.get? b = some o) → Fr h₀ L h₁ m ∧ News h₀ L h₁ news' := fun h₁ hk₁ =>
    ⟨⟨F'.ns.at' fun o e => hk₁ _ o hLw e, fun b o e => hk₁ b o (old b o e) (F'.keep b o e), F'.above⟩, fun p hp => ⟨hk₁ _ _ (hnw' p hp) (N' p hp).1, (N' p hp).2⟩⟩
  by_cases hlt : i < n
  · refine W.item i _ _ _ hlt hst' fun v h₁ tk₁ hMd hk₁ => ?_
    refine W.go i v _ _ _ hMd fun h₂ hP hst₂ hk₂ => ?_
    obtain ⟨F₂, N₂⟩ := next h₂ fun b o hb x => hk₂ b o hb (hk₁ b o hb x)
    have Nown : News h₀ L h₂ (PyProof.Rows.ownOf h₀ fp h₂) := news_ownOf hLf
    have fin : ∀ s₄, CEnd h₀ L m wr (PyProof.Rows.ownOf h₀ fp h₂) (J (i + 1)) s s₄ → ∃ k', k' < n + 1 - i ∧ ∃ h' tk news' j, s₄ = { s with heap := h', toks := tk } ∧ St j h' ∧ Fr h₀ L h' m ∧ News h₀ L h' news' ∧ (∀ p ∈ news', p.1 ∉ wr) ∧ J j news' ∧ j ≤ n ∧ k' = n + 1 - j := by
      rintro s₄ ⟨h₃', tk₃, news₂, rfl, F₃, N₃, ha₃, hJ₃⟩
      refine ⟨n + 1 - (i + 1), by omega, h₃', tk₃, news₂, i + 1, rfl, ?_, F₃, fun p hp => N₃ p (List.mem_append_left _ hp), ha₃, hJ₃, hlt, rfl⟩
      refine W.frame _ _ _ hst₂ fun b hb o e => ?_
      cases hn : h₀.get? b with
      | some o₀ =>
        have : o₀ = o := by have q := F₂.keep b o₀ hn; rw [e] at q; exact (Option.some.inj q).symm
        exact this ▸ F₃.keep b o₀ hn
      | none => exact (N₃ _ (List.mem_append_right _ (mem_ownOf hb hn e))).1
    exact wpAny_mono (step i v news' h₂ tk₁ (PyProof.Rows.ownOf h₀ fp h₂) _ hlt hP hJ hnw' ownOf_sub (fun b hb hn o e => mem_ownOf hb hn e) hst₂ F₂ (N₂.append Nown))
      (fun _ s₂ h₂' => wpAny_mono h₂' (fun ok s₃ h₃ => by
        cases ok with
        | false => exact fin _ h₃
        | true => exact hIm _ _ _ _ h₃ fun s₄ h₄ => fin _ h₄) fun _ _ e => e) fun _ _ e => e
  · have hin : i = n := by omega
    subst hin
    refine W.done _ _ _ hst' fun h₁ tk₁ hk₁ => ?_
    obtain ⟨F₁, N₁⟩ := next h₁ hk₁
    exact hR h₁ tk₁ news' F₁ N₁ hnw' hJ
end

section
variable {prog : Program} {w : World} {A : Around}
noncomputable def InnL (prog : Program) (w : World) (A : Around) (acc : Value) (elt : Expr) (env : Env) (Q : Shared → Prop) (E : Value → Shared → Prop) (s : Shared) : Prop :=
  wpAny (model prog w) A (eval elt env) (fun x s₁ => wpAny (model prog w) A (call (.builtin "list.append") [acc, x]) (fun _ s₂ => Q s₂) E s₁) E s
theorem innL_ok {acc : Value} {elt : Expr} {env : Env} (k : Sem Fin) (Q : Fin → Shared → Prop) (E : Value → Shared → Prop) (s : Shared) (h : InnL prog w A acc elt env (fun s' => wpAny (model prog w) A k Q E s') E s) :
    wpAny (model prog w) A (appendTo acc elt env k) Q E s :=
  wpAny_bind (wpAny_bind (wpAny_mono h (fun _ _ h₁ => wpAny_bind (wpAny_mono h₁ (fun _ _ h₂ => wpAny_pure h₂) fun _ _ e => e)) fun _ _ e => e))
theorem innL_mono {acc : Value} {elt : Expr} {env : Env} (Q Q' : Shared → Prop) (E : Value → Shared → Prop) (s : Shared) (h : InnL prog w A acc elt env Q E s) (hQ : ∀ s, Q s → Q' s) : InnL prog w A acc elt env Q' E s :=
  wpAny_mono h (fun _ _ h₁ => wpAny_mono h₁ (fun _ _ h₂ => hQ _ h₂) fun _ _ e => e) fun _ _ e => e
noncomputable def InnD (prog : Program) (w : World) (A : Around) (D : Addr) (kx vx : Expr) (env : Env) (Q : Shared → Prop) (E : Value → Shared → Prop) (s : Shared) : Prop :=
  wpAny (model prog w) A (eval kx env) (fun kv s₁ => wpAny (model prog w) A (eval vx env) (fun vv s₂ => wpAny (model prog w) A (dictSet D kv vv) (fun _ s₃ => Q s₃) E s₂) E s₁) E s
theorem innD_ok {D : Addr} {kx vx : Expr} {env : Env} (k : Sem Fin) (Q : Fin → Shared → Prop) (E : Value → Shared → Prop) (s : Shared) (h : InnD prog w A D kx vx env (fun s' => wpAny (model prog w) A k Q E s') E s) :
    wpAny (model prog w) A (putIn D kx vx env k) Q E s :=
  wpAny_bind (wpAny_bind (wpAny_mono h (fun _ _ h₁ => wpAny_bind (wpAny_holding (wpAny_mono h₁ (fun _ _ h₂ => wpAny_bind (wpAny_standAt (wpAny_holding (wpAny_mono h₂ (fun _ _ h₃ => h₃) fun _ _ e => e)))) fun _ _ e => e))) fun _ _ e => e))
theorem innD_mono {D : Addr} {kx vx : Expr} {env : Env} (Q Q' : Shared → Prop) (E : Value → Shared → Prop) (s : Shared) (h : InnD prog w A D kx vx env Q E s) (hQ : ∀ s, Q s → Q' s) : InnD prog w A D kx vx env Q' E s :=
  wpAny_mono h (fun _ _ h₁ => wpAny_mono h₁ (fun _ _ h₂ => wpAny_mono h₂ (fun _ _ h₃ => hQ _ h₃) fun _ _ e => e) fun _ _ e => e) fun _ _ e => e
noncomputable def InnC (prog : Program) (w : World) (A : Around) (e : Expr) (iter : Expr) (acc : Value) (env : Env) (Q : Shared → Prop) (E : Value → Shared → Prop) (s : Shared) : Prop :=
  wpAny (model prog w) A (eval iter env) (fun x s₁ => wpAny (model prog w) A (pyIter x) (fun it s₂ =>
    codeAny (model prog w) A (.compStart e 1 it acc env) (fun r s₃ => match r with | .ok _ => Q s₃ | .error _ => False) s₂) E s₁) E s
theorem innC_ok {e iter : Expr} {acc : Value} {env : Env} (hs : ∀ x, foldedSetIterable iter env x = pure x) (k : Sem Fin) (Q : Fin → Shared → Prop) (E : Value → Shared → Prop) (s : Shared)
    (h : InnC prog w A e iter acc env (fun s' => wpAny (model prog w) A k Q E s') E s) : wpAny (model prog w) A (innerLoop e iter acc env k) Q E s := by
  unfold innerLoop
  refine wpAny_bind (wpAny_mono h (fun x s₁ h₁ => wpAny_bind (wpAny_standAt (wpAny_bind (wpAny_of_eq (hs x) (wpAny_bind (wpAny_holding (wpAny_mono h₁ (fun it s₂ h₂ => ?_) fun _ _ e => e))))))) fun _ _ e => e)
  refine wpAny_bind (wpAny_runOwn (codeAny_mono h₂ fun r s' hr => ?_))
  cases r with
  | ok f => exact hr
  | error x => exact hr.elim
theorem innC_mono {e iter : Expr} {acc : Value} {env : Env} (Q Q' : Shared → Prop) (E : Value → Shared → Prop) (s : Shared) (h : InnC prog w A e iter acc env Q E s) (hQ : ∀ s, Q s → Q' s) : InnC prog w A e iter acc env Q' E s :=
  wpAny_mono h (fun _ _ h₁ => wpAny_mono h₁ (fun _ _ h₂ => codeAny_mono h₂ fun r _ hr => by cases r with | ok f => exact hQ _ hr | error x => exact hr) fun _ _ e => e) fun _ _ e => e
theorem compStart_21 {elt t1 i1 target iter : Expr} {f1 ifs : List Expr} {scope : Scope} {pos : Pos} {it acc : Value} {env : Env} {R : Result → Shared → Prop} {s : Shared}
    (h0 : codeAny (model prog w) A (.compLoop (.ListComp elt [⟨t1, i1, f1, 0⟩, ⟨target, iter, ifs, 0⟩] scope pos) 1 it acc env) R s)
    (hself : ∀ (Q : Value → Shared → Prop) (E : Value → Shared → Prop), Q it s → wpAny (model prog w) A (pyIter it) Q E s) :
    codeAny (model prog w) A (.compStart (.ListComp elt [⟨t1, i1, f1, 0⟩, ⟨target, iter, ifs, 0⟩] scope pos) 1 it acc env) R s := by
  refine codeAny_of_tree ?_
  show wpAny _ A ((compStart (.ListComp elt [⟨t1, i1, f1, 0⟩, ⟨target, iter, ifs, 0⟩] scope pos) 1 it acc env).onRaise (fun x => do noteFrame x env; standAt theWindowsPlace)) _ _ s
  refine wpAny_notedAt ?_
  unfold compStart
  show wpAny _ _ (ask >>= _) _ _ s
  refine wpAny_bind (wpAny_askSetting (wpAny_ite ?_))
  split
  · first
      | exact wpAny_bind (wpAny_pure (wpAny_pure ⟨rfl, h0⟩))
      | exact wpAny_pure ⟨rfl, h0⟩
  · refine wpAny_bind (wpAny_rule ?_)
    show wpAny _ _ (standAt iter.pos >>= _) _ _ s
    exact wpAny_bind (wpAny_standAt (wpAny_bind (hself _ _ (wpAny_pure ⟨rfl, h0⟩))))
end
end Mine
end
section
open PySem PySem.W PySem.Calls PyProof.Rows PyProof.V PySem.Spec
set_option maxRecDepth 100000
namespace Mine
noncomputable abbrev NsO := LCg.NsObj
section
variable {prog : Program} {w : World} {A : Around} {E : Value → Shared → Prop} {s : Shared} {env : Env} {h₀ : Heap} {L : Addr} {m : Str → Option Value}
/-- what is done with the collection at its end -/
inductive CA (h₀ : Heap) (L : Addr) (Q : Value → Shared → Prop) (C : Addr) (oC : Obj) (s' : Shared) : Prop
  | mk (m' : Str → Option Value) (news' : List (Addr × Obj)) (F : Fr h₀ L s'.heap m') (N : News h₀ L s'.heap ((C, oC) :: news')) (off : ∀ p ∈ news', p.1 ≠ C)
      (k : ∀ h'', Fr h₀ L h'' m' → News h₀ L h'' news' → Q .none { s' with heap := h'' }) : CA h₀ L Q C oC s'
noncomputable def CFin (M : Model) (A : Around) (E : Value → Shared → Prop) (use : Option (Value → Sem Unit)) (h₀ : Heap) (L : Addr) (m : Str → Option Value) (Q : Value → Shared → Prop) (C : Addr) (oC : Obj) (D : Addr) (news' : List (Addr × Obj)) (s' : Shared) : Prop := match use with
  | none => ∀ h'', Fr h₀ L h'' m → News h₀ L h'' news' → Q (.ref D) { s' with heap := h'' }
  | some u => wpAny M A (u (.ref D)) (fun _ s'' => CA h₀ L Q C oC s'') E s'
/-- the end of a comprehension's loop: its own frame is let go -/
noncomputable def CPost (M : Model) (A : Around) (E : Value → Shared → Prop) (use : Option (Value → Sem Unit)) (h₀ : Heap) (L : Addr) (m : Str → Option Value) (Q : Value → Shared → Prop) (C D : Addr) (r : Result) (s' : Shared) : Prop := match r with
  | .ok _ => ∃ oC m' news', Fr h₀ L s'.heap m ∧ News h₀ L s'.heap ((C, oC) :: news') ∧ NsO oC m' ∧ (∀ p ∈ news', p.1 ≠ C) ∧ CFin M A E use h₀ L m Q C oC D news' s'
  | .error _ => False
theorem comp_block {use : Option (Value → Sem Unit)} {e : Expr} {scope : Scope} {pos : Pos} {newAcc first : Sem Value} {g : Comprehension} {gs : List Comprehension} {cl : List (Str × Addr)} {Q : Value → Shared → Prop} {oD : Obj}
    (hcl : clausesOf e = g :: gs) (hs : ∀ x, foldedSetIterable g.iter env x = pure x) (hclos : closureFor scope env = pure cl) (hkind : scope.kind = .function)
    (hnames : ∀ x ∈ scope.names, x.2 = .local → scope.names.lookup x.1 = some .local) (hcell : ∀ x ∈ scope.names, x.2 ≠ .cell)
    (hf : oD.isFreed = false) (hnew : ∀ (Q : Value → Shared → Prop) (E : Value → Shared → Prop) (s : Shared), Q (.ref s.heap.objs.size) { s with heap := s.heap.push oD } → wpAny (model prog w) A newAcc Q E s)
    (h : wpAny (model prog w) A first (fun x s₁ => wpAny (model prog w) A (pyIter x) (fun it s₂ => ∃ news, Fr h₀ L s₂.heap m ∧ News h₀ L s₂.heap news ∧
      ∀ D C oC h tk, (∀ b o, s₂.heap.get? b = some o → h.get? b = some o) → D = s₂.heap.objs.size → C = D + 1 → Fr h₀ L h m → News h₀ L h ((C, oC) :: (D, oD) :: news) → NsO oC (fun _ => none) →
        codeAny (model prog w) A (.compStart e 0 it (.ref D) (compEnvC scope cl C env)) (CPost (model prog w) A E use h₀ L m Q C D) { s₂ with heap := h, toks := tk }) E s₁) E s) :
    wpAny (model prog w) A (comprehension e scope env pos newAcc false first use) Q E s := by
  refine wpAny_comprehension_free (use := use) hcl hs hclos hkind hnames (wpAny_mono h (fun x s₁ h₁ => wpAny_mono h₁ (fun it s₂ h₂ => ?_) fun _ _ e => e) fun _ _ e => e)
  obtain ⟨news, F, N, hk⟩ := h₂
  refine hnew _ _ _ (wpAny_newFunctionEnv hcell (by intro y hy; simp at hy) (fun h₁ hns₁ hsb₁ => ?_) hkind)
  dsimp only at hns₁ hsb₁ ⊢
  have hsz : (s₂.heap.push oD).objs.size = s₂.heap.objs.size + 1 := Heap.size_push ..
  rw [hsz] at hns₁ hsb₁
  have hD2 : (s₂.heap.push oD).get? s₂.heap.objs.size = some oD := Heap.get?_push_size _ hf
  have old : ∀ b o, s₂.heap.get? b = some o → h₁.get? b = some o := fun b o e =>
    hsb₁.extBut b o (Nat.ne_of_lt (Nat.lt_succ_of_lt (Heap.lt_size e))) (Heap.get?_push_of_some _ (Heap.get?_push_of_some _ e))
  have hD₁ : h₁.get? s₂.heap.objs.size = some oD := hsb₁.extBut _ _ (Nat.ne_of_lt (Nat.lt_succ_self _)) (Heap.get?_push_of_some _ hD2)
  have fresh₀ : ∀ a, s₂.heap.objs.size ≤ a → h₀.get? a = none := fun a ha => by
    cases e : h₀.get? a with
    | none => rfl
    | some o' => exact absurd (Heap.lt_size (F.keep a o' e)) (Nat.not_lt.mpr ha)
  have hLlt : L < s₂.heap.objs.size := F.ns.lt
  obtain ⟨oC, hC₁, hoC⟩ := LCg.ns_obj hns₁
  have hm : (fun x => List.lookup x ([] : List (Str × Value)).reverse) = fun _ => none := rfl
  rw [hm] at hoC
  have N₁ : News h₀ L h₁ ((s₂.heap.objs.size + 1, oC) :: (s₂.heap.objs.size, oD) :: news) := fun p hp => by
    rcases List.mem_cons.mp hp with rfl | hp
    · exact ⟨hC₁, Nat.ne_of_gt (Nat.lt_succ_of_lt hLlt), fresh₀ _ (Nat.le_succ _)⟩
    · rcases List.mem_cons.mp hp with rfl | hp
      · exact ⟨hD₁, Nat.ne_of_gt hLlt, fresh₀ _ (Nat.le_refl _)⟩
      · exact ⟨old _ _ (N p hp).1, (N p hp).2⟩
  have key := hk s₂.heap.objs.size (s₂.heap.objs.size + 1) oC h₁ (s₂.toks + ([] : List (Str × Value)).length) old rfl rfl (F.keeps old) N₁ hoC
  show codeAny (model prog w) A (.compStart e 0 it (.ref s₂.heap.objs.size) (compEnvC scope cl (s₂.heap.push oD).objs.size env))
    (compPost (model prog w) A E use Q (.ref s₂.heap.objs.size) (s₂.heap.push oD).objs.size) _
  rw [hsz]
  refine codeAny_mono key fun r s' hr => ?_
  cases r with
  | ok f =>
    obtain ⟨oC', m', news', F', N', hoC', off, fin⟩ := hr
    cases use with
    | none =>
      have zC := N' _ List.mem_cons_self
      refine ⟨m', hoC'.ns zC.1, fun h'' hs'' => fin h'' (F'.change hs'' zC.2.1 zC.2.2) fun p hp => ?_⟩
      have z := N' p (List.mem_cons_of_mem _ hp)
      exact ⟨hs''.extBut _ _ (off p hp) z.1, z.2⟩
    | some u =>
      refine wpAny_mono fin (fun _ s'' h9 => ?_) fun _ _ e => e
      obtain ⟨m2, news2, F2, N2, off2, k2⟩ := h9
      have zC := N2 _ List.mem_cons_self
      refine ⟨m', hoC'.ns zC.1, fun h'' hs'' => k2 h'' (F2.change hs'' zC.2.1 zC.2.2) fun p hp => ?_⟩
      have z := N2 p (List.mem_cons_of_mem _ hp)
      exact ⟨hs''.extBut _ _ (off2 p hp) z.1, z.2⟩
  | error x => exact hr.elim
theorem asg_name {C : Addr} {oC : Obj} {mC : Str → Option Value} {cenv : Env} {x : Str} {px : Pos} {v : Value} {rest : List (Addr × Obj)} {Q : Unit → Shared → Prop}
    (F : Fr h₀ L s.heap m) (N : News h₀ L s.heap ((C, oC) :: rest)) (hC : NsO oC mC) (off : ∀ p ∈ rest, p.1 ≠ C) (hl : cenv.locals = C) (hx : cenv.kindOf x = some .local)
    (hp : (cenv.scope.kind == .class || (cenv.scope.kind == .module && cenv.locals != cenv.globals)) = false)
    (h : ∀ h' tk oC' mC', Fr h₀ L h' m → News h₀ L h' ((C, oC') :: rest) → NsO oC' mC' → mC' x = some v → (∀ y, y ≠ x → mC' y = mC y) → Q () { s with heap := h', toks := tk }) :
    wpAny (model prog w) A (assign (.Name x px) cenv v) Q E s := by
  subst hl
  have zC := N _ List.mem_cons_self
  refine wpAny_assign_Name (wpAny_storeName_local hx (hC.ns zC.1) (fun h₁ hn₁ hs₁ => ?_) hp)
  obtain ⟨o, ho, hO⟩ := LCg.ns_obj hn₁
  refine h h₁ _ o _ (F.change hs₁ zC.2.1 zC.2.2) (fun p hp => ?_) hO (by simp) (fun y hy => by simp [hy])
  rcases List.mem_cons.mp hp with rfl | hp
  · exact ⟨ho, zC.2⟩
  · have z := N p (List.mem_cons_of_mem _ hp)
    exact ⟨hs₁.extBut _ _ (off p hp) z.1, z.2⟩
theorem asg_pair {C T : Addr} {oC : Obj} {mC : Str → Option Value} {cenv : Env} {a b : Str} {pa pb tp : Pos} {kk : Nat} {x y : Value} {rest : List (Addr × Obj)} {Q : Unit → Shared → Prop}
    (hh : A.handled = none) (ht : s.heap.IsTuple T #[x, y])
    (F : Fr h₀ L s.heap m) (N : News h₀ L s.heap ((C, oC) :: rest)) (hC : NsO oC mC) (off : ∀ p ∈ rest, p.1 ≠ C) (hl : cenv.locals = C) (ha : cenv.kindOf a = some .local) (hb : cenv.kindOf b = some .local)
    (hp : (cenv.scope.kind == .class || (cenv.scope.kind == .module && cenv.locals != cenv.globals)) = false) (hab : a ≠ b)
    (h : ∀ h' tk oC' mC', Fr h₀ L h' m → News h₀ L h' ((C, oC') :: rest) → NsO oC' mC' → mC' a = some x → mC' b = some y → Q () { s with heap := h', toks := tk }) :
    wpAny (model prog w) A (assign (.Tuple [.Name a pa, .Name b pb] kk tp) cenv (.ref T)) Q E s := by
  subst hl
  have zC := N _ List.mem_cons_self
  refine kcp_assign hh ht ha hb hp (hC.ns zC.1) fun h₁ tk hn₁ hk₁ => ?_
  obtain ⟨o, ho, hO⟩ := LCg.ns_obj hn₁
  refine h h₁ _ o _ ⟨F.ns.at' fun o e => hk₁ _ o (Ne.symm zC.2.1) e, fun c o e => hk₁ c o (fun q => by rw [q, zC.2.2] at e; cases e) (F.keep c o e), F.above⟩ (fun p hp => ?_) hO (by simp [hab]) (by simp)
  rcases List.mem_cons.mp hp with rfl | hp
  · exact ⟨ho, zC.2⟩
  · have z := N p (List.mem_cons_of_mem _ hp)
    exact ⟨hk₁ _ _ (off p hp) z.1, z.2⟩
theorem new_list (Q : Value → Shared → Prop) (E : Value → Shared → Prop) (s : Shared) (h : Q (.ref s.heap.objs.size) { s with heap := s.heap.push (LCg.lst []) }) : wpAny (model prog w) A (newList []) Q E s :=
  wpAny_newObj_type h
theorem listComp_block {use : Option (Value → Sem Unit)} {cpos : Pos} {elt target iter : Expr} {ifs : List Expr} {gs : List Comprehension} {scope : Scope} {pos : Pos} {cl : List (Str × Addr)} {Q : Value → Shared → Prop}
    (_F₀ : Fr h₀ L s.heap m) (hclos : closureFor scope env = pure cl) (hkind : scope.kind = .function)
    (hnames : ∀ x ∈ scope.names, x.2 = .local → scope.names.lookup x.1 = some .local) (hcell : ∀ x ∈ scope.names, x.2 ≠ .cell)
    (h : wpAny (model prog w) A (eval iter env) (fun x s₁ => wpAny (model prog w) A (pyIter x) (fun it s₂ => ∃ news, Fr h₀ L s₂.heap m ∧ News h₀ L s₂.heap news ∧
      ∀ D C oC h tk, (∀ b o, s₂.heap.get? b = some o → h.get? b = some o) → D = s₂.heap.objs.size → C = D + 1 → Fr h₀ L h m → News h₀ L h ((C, oC) :: (D, LCg.lst []) :: news) → NsO oC (fun _ => none) →
        codeAny (model prog w) A (.compStart (.ListComp elt (⟨target, iter, ifs, 0⟩ :: gs) scope pos) 0 it (.ref D) (compEnvC scope cl C env)) (CPost (model prog w) A E use h₀ L m Q C D) { s₂ with heap := h, toks := tk }) E s₁) E s)
    (hs : ∀ x, foldedSetIterable iter env x = pure x := by intro _; rfl) :
    wpAny (model prog w) A (comprehension (.ListComp elt (⟨target, iter, ifs, 0⟩ :: gs) scope pos) scope env cpos (newList []) false (eval iter env) use) Q E s :=
  comp_block rfl hs hclos hkind hnames hcell rfl new_list h
end
end Mine
end
section
open PySem PySem.W PySem.Calls PyProof.Rows PyProof.V PySem.Spec
set_option maxRecDepth 100000
namespace Mine
section
variable {prog : Program} {w : World} {A : Around} {E : Value → Shared → Prop} {s : Shared} {env : Env} {h₀ : Heap} {L : Addr} {m : Str → Option Value}
/-- an iterator at hand, at its start, beside a frame and a ledger -/
noncomputable def SrcOk (prog : Program) (w : World) (A : Around) (h₀ : Heap) (L : Addr) (m : Str → Option Value) (target : Expr) (it : Value) (h : Heap) (news : List (Addr × Obj)) (av : List Addr) (n : Nat) (P : Nat → Value → Heap → Prop) : Prop :=
  ∃ (I : Addr) (fp wr : List Addr) (Md : Nat → Value → Heap → Prop) (St : Nat → Heap → Prop), it = .ref I ∧ KTurns prog w A target I fp wr n P Md St ∧
    (∀ (s : Shared) (Q : Value → Shared → Prop) (E : Value → Shared → Prop), St 0 s.heap → Q (.ref I) s → wpAny (model prog w) A (pyIter (.ref I)) Q E s) ∧
    L ∉ fp ∧ (∀ b ∈ av, b ∉ fp) ∧ (∀ b ∈ wr, h₀.get? b = none) ∧ (∀ b ∈ fp, b < h.objs.size) ∧ (∀ i h, St i h → ∀ b ∈ wr, ∃ o, h.get? b = some o) ∧ (∀ p ∈ news, p.1 ∉ wr) ∧ St 0 h ∧ Fr h₀ L h m ∧ News h₀ L h news
/-- what a turn's element hands on -/
inductive CE (h₀ : Heap) (L : Addr) (m : Str → Option Value) (own : List (Addr × Obj)) (C : Addr) (o₁ : Obj) (D : Addr) (oD : Obj) (news₁ : List (Addr × Obj)) (J : (Str → Option Value) → List (Addr × Obj) → Prop) (s s' : Shared) : Prop
  | mk (h' : Heap) (tk : Nat) (oC : Obj) (mC : Str → Option Value) (news' : List (Addr × Obj)) (e : s' = { s with heap := h', toks := tk }) (F : Fr h₀ L h' m) (N : News h₀ L h' ((C, oC) :: (D, oD) :: (news' ++ own))) (hC : NsO oC mC)
      (hn : ∀ p ∈ news', p ∈ news₁ ∨ ∀ q ∈ (C, o₁) :: (D, oD) :: (news₁ ++ own), q.1 < p.1) (hJ : J mC news') : CE h₀ L m own C o₁ D oD news₁ J s s'
noncomputable def Step1 (prog : Program) (w : World) (A : Around) (env : Env) (h₀ : Heap) (L : Addr) (m : Str → Option Value) (elt target : Expr) (ifs : List Expr) (scope : Scope) (cl : List (Str × Addr)) (s₂ : Shared) (n : Nat) (P : Nat → Value → Heap → Prop) (J : Nat → List Value → List (Addr × Obj) → Prop) : Prop :=
  ∀ i v ys news₁ C oC mC D h tk own E', i < n → P i v h → J i ys news₁ → Fr h₀ L h m → News h₀ L h ((C, oC) :: (D, LCg.lst ys) :: (news₁ ++ own)) → NsO oC mC → C ≠ D → (∀ p ∈ news₁ ++ own, p.1 ≠ C ∧ p.1 ≠ D) →
        wpAny (model prog w) A (assign target (compEnvC scope cl C env) v) (fun _ s₃ => wpAny (model prog w) A (testsOf ifs (compEnvC scope cl C env)) (fun ok s₄ =>
          if ok = true then wpAny (model prog w) A (eval elt (compEnvC scope cl C env)) (fun y s₅ => CE h₀ L m own C oC D (LCg.lst ys) news₁ (fun _ => J (i + 1) (ys ++ [y])) s₂ s₅) E' s₄
          else CE h₀ L m own C oC D (LCg.lst ys) news₁ (fun _ => J (i + 1) ys) s₂ s₄) E' s₃) E' { s₂ with heap := h, toks := tk }
/-- what stands at a comprehension's iterator: the source, the invariant, a turn, the end -/
inductive LC1U (prog : Program) (w : World) (A : Around) (E : Value → Shared → Prop) (env : Env) (h₀ : Heap) (L : Addr) (m : Str → Option Value) (use : Option (Value → Sem Unit)) (elt target : Expr) (ifs : List Expr) (scope : Scope) (cl : List (Str × Addr)) (Q : Value → Shared → Prop) (it : Value) (s₂ : Shared) : Prop
  | mk (news : List (Addr × Obj)) (n : Nat) (P : Nat → Value → Heap → Prop) (src : SrcOk prog w A h₀ L m target it s₂.heap news [] n P) (hn : n ≤ sizeLine)
      (J : Nat → List Value → List (Addr × Obj) → Prop) (h0 : J 0 [] news)
      (step : Step1 prog w A env h₀ L m elt target ifs scope cl s₂ n P J)
      (fin : ∀ ys news' C oC D h tk, J n ys news' → Fr h₀ L h m → News h₀ L h ((C, oC) :: (D, LCg.lst ys) :: news') → (∀ p ∈ (D, LCg.lst ys) :: news', p.1 ≠ C) → (∀ p ∈ news', p.1 ≠ D) → (∀ q ∈ news, q.1 < D) → CFin (model prog w) A E use h₀ L m Q C oC D ((D, LCg.lst ys) :: news') { s₂ with heap := h, toks := tk }) :
      LC1U prog w A E env h₀ L m use elt target ifs scope cl Q it s₂
inductive LC1 (prog : Program) (w : World) (A : Around) (env : Env) (h₀ : Heap) (L : Addr) (m : Str → Option Value) (elt target : Expr) (ifs : List Expr) (scope : Scope) (cl : List (Str × Addr)) (Q : Value → Shared → Prop) (it : Value) (s₂ : Shared) : Prop
  | mk (news : List (Addr × Obj)) (n : Nat) (P : Nat → Value → Heap → Prop) (src : SrcOk prog w A h₀ L m target it s₂.heap news [] n P) (hn : n ≤ sizeLine)
      (J : Nat → List Value → List (Addr × Obj) → Prop) (h0 : J 0 [] news)
      (step : Step1 prog w A env h₀ L m elt target ifs scope cl s₂ n P J)
      (fin : ∀ ys news' D h tk, J n ys news' → Fr h₀ L h m → News h₀ L h ((D, LCg.lst ys) :: news') → (∀ p ∈ news', p.1 ≠ D) → (∀ q ∈ news, q.1 < D) → Q (.ref D) { s₂ with heap := h, toks := tk }) :
      LC1 prog w A env h₀ L m elt target ifs scope cl Q it s₂
inductive LC1A (prog : Program) (w : World) (A : Around) (E : Value → Shared → Prop) (env : Env) (h₀ : Heap) (L : Addr) (m : Str → Option Value) (y : Str) (py : Pos) (elt target : Expr) (ifs : List Expr) (scope : Scope) (cl : List (Str × Addr)) (Q : Flow → Shared → Prop) (it : Value) (s₂ : Shared) : Prop
  | mk (news : List (Addr × Obj)) (n : Nat) (P : Nat → Value → Heap → Prop) (src : SrcOk prog w A h₀ L m target it s₂.heap news [] n P) (hn : n ≤ sizeLine)
      (J : Nat → List Value → List (Addr × Obj) → Prop) (h0 : J 0 [] news)
      (step : Step1 prog w A env h₀ L m elt target ifs scope cl s₂ n P J)
      (fin : ∀ ys news' C oC D h tk, J n ys news' → Fr h₀ L h m → News h₀ L h ((C, oC) :: (D, LCg.lst ys) :: news') → (∀ p ∈ (D, LCg.lst ys) :: news', p.1 ≠ C) → (∀ p ∈ news', p.1 ≠ D) → (∀ q ∈ news, q.1 < D) → wpAny (model prog w) A (assign (.Name y py) env (.ref D)) (fun _ s'' => CA h₀ L (fun _ s' => Q .next s') C oC s'') E { s₂ with heap := h, toks := tk }) :
      LC1A prog w A E env h₀ L m y py elt target ifs scope cl Q it s₂
theorem listComp1U {use : Option (Value → Sem Unit)} {cpos : Pos} {elt target iter : Expr} {ifs : List Expr} {scope : Scope} {pos : Pos} {cl : List (Str × Addr)} {Q : Value → Shared → Prop}
    (_F₀ : Fr h₀ L s.heap m) (hclos : closureFor scope env = pure cl) (hkind : scope.kind = .function)
    (hnames : ∀ x ∈ scope.names, x.2 = .local → scope.names.lookup x.1 = some .local) (hcell : ∀ x ∈ scope.names, x.2 ≠ .cell)
    (h : wpAny (model prog w) A (eval iter env) (fun x s₁ => wpAny (model prog w) A (pyIter x) (fun it s₂ => LC1U prog w A E env h₀ L m use elt target ifs scope cl Q it s₂) E s₁) E s)
    (hs : ∀ x, foldedSetIterable iter env x = pure x := by intro _; rfl) :
    wpAny (model prog w) A (comprehension (.ListComp elt [⟨target, iter, ifs, 0⟩] scope pos) scope env cpos (newList []) false (eval iter env) use) Q E s := by
  refine listComp_block _F₀ hclos hkind hnames hcell (wpAny_mono h (fun x s₁ h₁ => wpAny_mono h₁ (fun it s₂ h₂ => ?_) fun _ _ e => e) fun _ _ e => e) hs
  obtain ⟨news, n, P, ⟨I, fp, wr, Md, St, rfl, W, hself, hLf, _, hwr, hfp, hal, hnw, hst, F, N⟩, hn, J, h0, step, fin⟩ := h₂
  refine ⟨news, F, N, fun D C oC h tk old hD hC F₁ N₁ hoC => ?_⟩
  have hst₁ : St 0 h := W.frame _ _ _ hst fun b _ o e => old b o e
  have hCD : C ≠ D := by rw [hC]; exact Nat.succ_ne_self _
  have offs : ∀ b, b < s₂.heap.objs.size → b ≠ C ∧ b ≠ D := fun b hb => by
    rw [← hD] at hb
    exact ⟨Nat.ne_of_lt (hC ▸ Nat.lt_succ_of_lt hb), Nat.ne_of_lt hb⟩
  have offn : ∀ p ∈ news, p.1 ≠ C ∧ p.1 ≠ D := fun p hp => offs _ (Heap.lt_size (N p hp).1)
  have hCf : C ∉ fp := fun hm => (offs _ (hfp _ hm)).1 rfl
  have hDf : D ∉ fp := fun hm => (offs _ (hfp _ hm)).2 rfl
  have loop : codeAny (model prog w) A (.compLoop (.ListComp elt [⟨target, iter, ifs, 0⟩] scope pos) 0 (.ref I) (.ref D) (compEnvC scope cl C env)) (CPost (model prog w) A E use h₀ L m Q C D) { s₂ with heap := h, toks := tk } := by
    refine compLoop_turns (Inn := InnL prog w A (.ref D) elt (compEnvC scope cl C env)) W (turn_list1 ..) innL_ok innL_mono rfl rfl rfl hLf hwr (news := (C, oC) :: (D, LCg.lst []) :: news) (fun p hp => ?_) hst₁ F₁ N₁
      (fun i l => ∃ ys oC mC news₁, l = (C, oC) :: (D, LCg.lst ys) :: news₁ ∧ NsO oC mC ∧ (∀ p ∈ news₁, p.1 ≠ C ∧ p.1 ≠ D) ∧ ys.length ≤ i ∧ J i ys news₁) ⟨[], oC, _, news, rfl, hoC, offn, Nat.le_refl _, h0⟩ ?_ ?_
    · rcases List.mem_cons.mp hp with rfl | hp
      · exact fun hm => hCf (W.sub _ hm)
      · rcases List.mem_cons.mp hp with rfl | hp
        · exact fun hm => hDf (W.sub _ hm)
        · exact hnw p hp
    · rintro i v news₁' h₁ tk₁ own E' hi hP ⟨ys, oC₁, mC, news₁, rfl, hoC₁, off₁, hyl, hJ⟩ hnw₁ hof hown hst₂ F₂ N₂
      have offa : ∀ p ∈ news₁ ++ own, p.1 ≠ C ∧ p.1 ≠ D := fun p hp => by
        rcases List.mem_append.mp hp with hp | hp
        · exact off₁ p hp
        · exact ⟨fun q => hCf (q ▸ hof p hp), fun q => hDf (q ▸ hof p hp)⟩
      have wrown : ∀ b ∈ wr, ∃ o, (b, o) ∈ own := fun b hb => by
        obtain ⟨o, ho⟩ := hal _ _ hst₂ b hb
        exact ⟨o, hown b (W.sub b hb) (hwr b hb) o ho⟩
      have out : ∀ (news' : List (Addr × Obj)), (∀ p ∈ news', p ∈ news₁ ∨ ∀ q ∈ (C, oC₁) :: (D, LCg.lst ys) :: (news₁ ++ own), q.1 < p.1) → (∀ p ∈ news', p.1 ≠ C ∧ p.1 ≠ D) ∧ ∀ p ∈ news', p.1 ∉ wr := fun news' hh => by
        refine ⟨fun p hp => ?_, fun p hp hm => ?_⟩
        · rcases hh p hp with hq | hq
          · exact off₁ p hq
          · exact ⟨Nat.ne_of_gt (hq _ List.mem_cons_self), Nat.ne_of_gt (hq (D, LCg.lst ys) (List.mem_cons_of_mem _ List.mem_cons_self))⟩
        · rcases hh p hp with hq | hq
          · exact hnw₁ p (List.mem_cons_of_mem _ (List.mem_cons_of_mem _ hq)) hm
          · obtain ⟨o, ho⟩ := wrown _ hm
            exact Nat.lt_irrefl _ (hq (p.1, o) (List.mem_cons_of_mem _ (List.mem_cons_of_mem _ (List.mem_append_right _ ho))))
      have wrC : ∀ (o : Obj) (l : List (Addr × Obj)) (x : Obj), (∀ p ∈ l, p.1 ∉ wr) → ∀ p ∈ (C, o) :: (D, x) :: l, p.1 ∉ wr := fun o l x hl p hp => by
        rcases List.mem_cons.mp hp with rfl | hp
        · exact fun hm => hCf (W.sub _ hm)
        · rcases List.mem_cons.mp hp with rfl | hp
          · exact fun hm => hDf (W.sub _ hm)
          · exact hl p hp
      refine wpAny_mono (step i v ys news₁ C oC₁ mC D h₁ tk₁ own E' hi hP hJ F₂ N₂ hoC₁ hCD offa) (fun _ s₃ h₃ => wpAny_mono h₃ (fun ok s₄ h₄ => ?_) fun _ _ e => e) fun _ _ e => e
      cases ok with
      | false =>
        obtain ⟨h', tk', oC', mC', news', rfl, F₃, N₃, hoC', hh, hJ'⟩ := h₄
        obtain ⟨o1, o2⟩ := out _ hh
        exact ⟨h', tk', (C, oC') :: (D, LCg.lst ys) :: news', rfl, F₃, N₃, wrC _ _ _ o2, ys, oC', mC', news', rfl, hoC', o1, Nat.le_succ_of_le hyl, hJ'⟩
      | true =>
        refine wpAny_mono h₄ (fun y s₅ h₅ => ?_) fun _ _ e => e
        obtain ⟨h', tk', oC', mC', news', rfl, F₃, N₃, hoC', hh, hJ'⟩ := h₅
        obtain ⟨o1, o2⟩ := out _ hh
        have zD := N₃ (D, LCg.lst ys) (List.mem_cons_of_mem _ List.mem_cons_self)
        refine append_at (hsz := by show ys.toArray.size ≤ sizeLine; rw [List.size_toArray]; exact Nat.le_trans hyl (Nat.le_trans (Nat.le_of_lt hi) hn)) zD.1 fun h₅ hs₅ hD₅ => ?_
        refine ⟨h₅, tk', (C, oC') :: (D, LCg.lst (ys ++ [y])) :: news', rfl, F₃.change hs₅ zD.2.1 zD.2.2, fun p hp => ?_, wrC _ _ _ o2, ys ++ [y], oC', mC', news', rfl, hoC', o1, by rw [List.length_append, List.length_singleton]; exact Nat.succ_le_succ hyl, hJ'⟩
        rcases List.mem_cons.mp hp with rfl | hp
        · have z := N₃ (C, oC') List.mem_cons_self
          exact ⟨hs₅.extBut _ _ hCD z.1, z.2⟩
        · rcases List.mem_cons.mp hp with rfl | hp
          · exact ⟨hD₅.trans (congrArg some (LCg.lst_snoc ys y)), zD.2⟩
          · have z := N₃ p (List.mem_cons_of_mem _ (List.mem_cons_of_mem _ hp))
            refine ⟨hs₅.extBut _ _ ?_ z.1, z.2⟩
            rcases List.mem_append.mp hp with hp | hp
            · exact (o1 p hp).2
            · exact (offa p (List.mem_append_right _ hp)).2
    · rintro h' tk' news' F' N' hnw' ⟨ys, oC', mC', news₁, rfl, hoC', off', _, hJ'⟩
      have offC : ∀ p ∈ (D, LCg.lst ys) :: news₁, p.1 ≠ C := fun p hp => by
        rcases List.mem_cons.mp hp with rfl | hp
        · exact Ne.symm hCD
        · exact (off' p hp).1
      exact ⟨oC', mC', (D, LCg.lst ys) :: news₁, F', N', hoC', offC, fin ys news₁ C oC' D h' tk' hJ' F' N' offC (fun p hp => (off' p hp).2) fun q hq => hD ▸ Heap.lt_size (N q hq).1⟩
  exact codeAny_compStart_list loop (hself _ _ _ hst₁ loop)
theorem listComp1 {elt target iter : Expr} {ifs : List Expr} {scope : Scope} {pos : Pos} {cl : List (Str × Addr)} {Q : Value → Shared → Prop}
    (_F₀ : Fr h₀ L s.heap m) (hclos : closureFor scope env = pure cl) (hkind : scope.kind = .function)
    (hnames : ∀ x ∈ scope.names, x.2 = .local → scope.names.lookup x.1 = some .local) (hcell : ∀ x ∈ scope.names, x.2 ≠ .cell)
    (h : wpAny (model prog w) A (eval iter env) (fun x s₁ => wpAny (model prog w) A (pyIter x) (fun it s₂ => LC1 prog w A env h₀ L m elt target ifs scope cl Q it s₂) E s₁) E s)
    (hs : ∀ x, foldedSetIterable iter env x = pure x := by intro _; rfl) :
    wpAny (model prog w) A (eval (.ListComp elt [⟨target, iter, ifs, 0⟩] scope pos) env) Q E s := by
  rw [eval_ListComp]
  refine listComp1U (use := none) _F₀ hclos hkind hnames hcell (wpAny_mono h (fun x s₁ h₁ => wpAny_mono h₁ (fun it s₂ h₂ => ?_) fun _ _ e => e) fun _ _ e => e) hs
  obtain ⟨news, n, P, S, hn, J, h0, step, fin⟩ := h₂
  exact ⟨news, n, P, S, hn, J, h0, step, fun ys news' C oC D h tk hJ F N offC offD hlt h'' F'' N'' => fin ys news' D h'' tk hJ F'' N'' offD hlt⟩
theorem lc1A {use : Value → Sem Unit} {y : Str} {py : Pos} {elt target : Expr} {ifs : List Expr} {scope : Scope} {cl : List (Str × Addr)} {Q : Flow → Shared → Prop} {it : Value} {s₂ : Shared} (h : LC1A prog w A E env h₀ L m y py elt target ifs scope cl Q it s₂) (hu : ∀ v, use v = assign (.Name y py) env v := by intro _; rfl) :
    LC1U prog w A E env h₀ L m (some use) elt target ifs scope cl (fun _ s' => Q .next s') it s₂ := by
  obtain rfl : use = assign (.Name y py) env := funext hu
  obtain ⟨news, n, P, S, hn, J, h0, step, fin⟩ := h
  exact ⟨news, n, P, S, hn, J, h0, step, fin⟩
theorem listCompA1 {elt target iter : Expr} {ifs : List Expr} {scope : Scope} {pos spos py : Pos} {y : Str} {cl : List (Str × Addr)} {Q : Flow → Shared → Prop}
    (_F₀ : Fr h₀ L s.heap m) (hclos : closureFor scope env = pure cl) (hkind : scope.kind = .function)
    (hnames : ∀ x ∈ scope.names, x.2 = .local → scope.names.lookup x.1 = some .local) (hcell : ∀ x ∈ scope.names, x.2 ≠ .cell)
    (h : wpAny (model prog w) A (eval iter env) (fun x s₁ => wpAny (model prog w) A (pyIter x) (fun it s₂ => LC1A prog w A E env h₀ L m y py elt target ifs scope cl Q it s₂) E s₁) E s)
    (hsw : swapsWith (.ListComp elt [⟨target, iter, ifs, 0⟩] scope pos) (some (.Name y py)) spos.line env = pure true)
    (hs : ∀ x, foldedSetIterable iter env x = pure x := by intro _; rfl) :
    wpAny (model prog w) A (exec (.Assign [.Name y py] (.ListComp elt [⟨target, iter, ifs, 0⟩] scope pos) spos) env) Q E s := by
  rw [exec_Assign_Name_used _ _ _ _ hsw]
  refine wpAny_bind (wpAny_standAt (wpAny_bind ?_))
  show wpAny _ A (do let _ ← comprehension (.ListComp elt [⟨target, iter, ifs, 0⟩] scope pos) scope env _ (newList []) false (eval iter env) (some (assign (.Name y py) env))) _ _ s
  exact wpAny_bind (wpAny_mono (listComp1U (use := some (assign (.Name y py) env)) (Q := fun _ s' => Q .next s') _F₀ hclos hkind hnames hcell (wpAny_mono h (fun x s₁ h₁ => wpAny_mono h₁ (fun it s₂ h₂ => lc1A h₂) fun _ _ e => e) fun _ _ e => e) hs) (fun _ s' hq => wpAny_pure (wpAny_pure hq)) fun _ _ e => e)
end
end Mine
end
section
open PySem PySem.W PySem.Calls PyProof.Rows PyProof.V PySem.Spec
set_option maxRecDepth 100000
namespace Mine
/-- what stands at the inner clause's iterator -/
inductive In2 (prog : Program) (w : World) (A : Around) (h₀ : Heap) (L : Addr) (m : Str → Option Value) (elt t2 : Expr) (cenv : Env) (C : Addr) (oC : Obj) (D : Addr) (ys : List Value) (own news₁ : List (Addr × Obj)) (Ji : List Value → List (Addr × Obj) → Prop) (s₂ : Shared) (it₂ : Value) (s₅ : Shared) : Prop
  | mk (oC₂ : Obj) (mC₂ : Str → Option Value) (news₂ : List (Addr × Obj)) (n₂ : Nat) (P₂ : Nat → Value → Heap → Prop) (hC : NsO oC₂ mC₂) (hs : ∃ h₂ tk₂, s₅ = { s₂ with heap := h₂, toks := tk₂ }) (hn : ∀ p ∈ news₂, p ∈ news₁ ∨ ∀ q ∈ (C, oC) :: (D, LCg.lst ys) :: (news₁ ++ own), q.1 < p.1)
      (src : SrcOk prog w A h₀ L m t2 it₂ s₅.heap ((C, oC₂) :: (D, LCg.lst ys) :: (news₂ ++ own)) [C, D] n₂ P₂)
      (J₂ : Nat → (Str → Option Value) → List Value → List (Addr × Obj) → Prop) (h0 : J₂ 0 mC₂ ys news₂) (hz : ∀ j mC ys news, j < n₂ → J₂ j mC ys news → ys.length ≤ sizeLine)
      (step : ∀ j v₂ ys₂ news₃ oC₃ mC₃ h₃ tk₃ own₂ E'', j < n₂ → P₂ j v₂ h₃ → J₂ j mC₃ ys₂ news₃ → Fr h₀ L h₃ m → News h₀ L h₃ ((C, oC₃) :: (D, LCg.lst ys₂) :: (news₃ ++ (own ++ own₂))) → NsO oC₃ mC₃ → (∀ p ∈ news₃ ++ (own ++ own₂), p.1 ≠ C ∧ p.1 ≠ D) →
        wpAny (model prog w) A (assign t2 cenv v₂) (fun _ s₆ => wpAny (model prog w) A (eval elt cenv) (fun y s₇ =>
          CE h₀ L m (own ++ own₂) C oC₃ D (LCg.lst ys₂) news₃ (fun mC => J₂ (j + 1) mC (ys₂ ++ [y])) s₅ s₇) E'' s₆) E'' { s₅ with heap := h₃, toks := tk₃ })
      (fin : ∀ mC ys' news', J₂ n₂ mC ys' news' → Ji ys' news') : In2 prog w A h₀ L m elt t2 cenv C oC D ys own news₁ Ji s₂ it₂ s₅
noncomputable def Step2 (prog : Program) (w : World) (A : Around) (env : Env) (h₀ : Heap) (L : Addr) (m : Str → Option Value) (elt t1 t2 i2 : Expr) (scope : Scope) (cl : List (Str × Addr)) (s₂ : Shared) (n : Nat) (P : Nat → Value → Heap → Prop) (J : Nat → List Value → List (Addr × Obj) → Prop) : Prop :=
  ∀ i v ys news₁ C oC mC D h tk own E', i < n → P i v h → J i ys news₁ → Fr h₀ L h m → News h₀ L h ((C, oC) :: (D, LCg.lst ys) :: (news₁ ++ own)) → NsO oC mC → C ≠ D → (∀ p ∈ news₁ ++ own, p.1 ≠ C ∧ p.1 ≠ D) →
        wpAny (model prog w) A (assign t1 (compEnvC scope cl C env) v) (fun _ s₃ => wpAny (model prog w) A (eval i2 (compEnvC scope cl C env)) (fun x₂ s₄ => wpAny (model prog w) A (pyIter x₂) (fun it₂ s₅ =>
          In2 prog w A h₀ L m elt t2 (compEnvC scope cl C env) C oC D ys own news₁ (J (i + 1)) s₂ it₂ s₅) E' s₄) E' s₃) E' { s₂ with heap := h, toks := tk }
inductive LC2U (prog : Program) (w : World) (A : Around) (E : Value → Shared → Prop) (env : Env) (h₀ : Heap) (L : Addr) (m : Str → Option Value) (use : Option (Value → Sem Unit)) (elt t1 t2 i2 : Expr) (scope : Scope) (cl : List (Str × Addr)) (Q : Value → Shared → Prop) (it : Value) (s₂ : Shared) : Prop
  | mk (news : List (Addr × Obj)) (n : Nat) (P : Nat → Value → Heap → Prop) (src : SrcOk prog w A h₀ L m t1 it s₂.heap news [] n P)
      (J : Nat → List Value → List (Addr × Obj) → Prop) (h0 : J 0 [] news)
      (step : Step2 prog w A env h₀ L m elt t1 t2 i2 scope cl s₂ n P J)
      (fin : ∀ ys news' C oC D h tk, J n ys news' → Fr h₀ L h m → News h₀ L h ((C, oC) :: (D, LCg.lst ys) :: news') → (∀ p ∈ (D, LCg.lst ys) :: news', p.1 ≠ C) → (∀ p ∈ news', p.1 ≠ D) → (∀ q ∈ news, q.1 < D) → CFin (model prog w) A E use h₀ L m Q C oC D ((D, LCg.lst ys) :: news') { s₂ with heap := h, toks := tk }) : LC2U prog w A E env h₀ L m use elt t1 t2 i2 scope cl Q it s₂
inductive LC2 (prog : Program) (w : World) (A : Around) (env : Env) (h₀ : Heap) (L : Addr) (m : Str → Option Value) (elt t1 t2 i2 : Expr) (scope : Scope) (cl : List (Str × Addr)) (Q : Value → Shared → Prop) (it : Value) (s₂ : Shared) : Prop
  | mk (news : List (Addr × Obj)) (n : Nat) (P : Nat → Value → Heap → Prop) (src : SrcOk prog w A h₀ L m t1 it s₂.heap news [] n P)
      (J : Nat → List Value → List (Addr × Obj) → Prop) (h0 : J 0 [] news)
      (step : Step2 prog w A env h₀ L m elt t1 t2 i2 scope cl s₂ n P J)
      (fin : ∀ ys news' D h tk, J n ys news' → Fr h₀ L h m → News h₀ L h ((D, LCg.lst ys) :: news') → (∀ p ∈ news', p.1 ≠ D) → (∀ q ∈ news, q.1 < D) → Q (.ref D) { s₂ with heap := h, toks := tk }) : LC2 prog w A env h₀ L m elt t1 t2 i2 scope cl Q it s₂
inductive LC2A (prog : Program) (w : World) (A : Around) (E : Value → Shared → Prop) (env : Env) (h₀ : Heap) (L : Addr) (m : Str → Option Value) (y : Str) (py : Pos) (elt t1 t2 i2 : Expr) (scope : Scope) (cl : List (Str × Addr)) (Q : Flow → Shared → Prop) (it : Value) (s₂ : Shared) : Prop
  | mk (news : List (Addr × Obj)) (n : Nat) (P : Nat → Value → Heap → Prop) (src : SrcOk prog w A h₀ L m t1 it s₂.heap news [] n P)
      (J : Nat → List Value → List (Addr × Obj) → Prop) (h0 : J 0 [] news)
      (step : Step2 prog w A env h₀ L m elt t1 t2 i2 scope cl s₂ n P J)
      (fin : ∀ ys news' C oC D h tk, J n ys news' → Fr h₀ L h m → News h₀ L h ((C, oC) :: (D, LCg.lst ys) :: news') → (∀ p ∈ (D, LCg.lst ys) :: news', p.1 ≠ C) → (∀ p ∈ news', p.1 ≠ D) → (∀ q ∈ news, q.1 < D) → wpAny (model prog w) A (assign (.Name y py) env (.ref D)) (fun _ s'' => CA h₀ L (fun _ s' => Q .next s') C oC s'') E { s₂ with heap := h, toks := tk }) : LC2A prog w A E env h₀ L m y py elt t1 t2 i2 scope cl Q it s₂
section
variable {prog : Program} {w : World} {A : Around} {E : Value → Shared → Prop} {s : Shared} {env : Env} {h₀ : Heap} {L : Addr} {m : Str → Option Value}
/-- the second clause's loop -/
theorem innerLoop_turns {elt t1 i1 t2 i2 : Expr} {f1 f2 : List Expr} {scope : Scope} {pos : Pos} {cenv : Env} {C D : Addr} {oC : Obj} {mC : Str → Option Value} {ys : List Value} {news own : List (Addr × Obj)} {it : Value} {n : Nat} {P : Nat → Value → Heap → Prop} {wr₀ : List Addr} {Post : Shared → Prop}
    (S : SrcOk prog w A h₀ L m t2 it s.heap ((C, oC) :: (D, LCg.lst ys) :: (news ++ own)) [C, D] n P) (hoC : NsO oC mC) (hCD : C ≠ D) (off : ∀ p ∈ news ++ own, p.1 ≠ C ∧ p.1 ≠ D)
    (hwr₀ : ∀ b ∈ wr₀, ∃ o, (b, o) ∈ own) (hnw₀ : ∀ p ∈ news, p.1 ∉ wr₀)
    (J : Nat → (Str → Option Value) → List Value → List (Addr × Obj) → Prop) (h0 : J 0 mC ys news) (hsz : ∀ i mC ys news, i < n → J i mC ys news → ys.length ≤ sizeLine)
    (step : ∀ i v ys news₁ oC mC h tk own₂ E', i < n → P i v h → J i mC ys news₁ → Fr h₀ L h m → News h₀ L h ((C, oC) :: (D, LCg.lst ys) :: (news₁ ++ (own ++ own₂))) → NsO oC mC → (∀ p ∈ news₁ ++ (own ++ own₂), p.1 ≠ C ∧ p.1 ≠ D) →
        wpAny (model prog w) A (assign t2 cenv v) (fun _ s₃ => wpAny (model prog w) A (testsOf f2 cenv) (fun ok s₄ =>
          if ok = true then wpAny (model prog w) A (eval elt cenv) (fun y s₅ => CE h₀ L m (own ++ own₂) C oC D (LCg.lst ys) news₁ (fun mC => J (i + 1) mC (ys ++ [y])) s s₅) E' s₄
          else CE h₀ L m (own ++ own₂) C oC D (LCg.lst ys) news₁ (fun mC => J (i + 1) mC ys) s s₄) E' s₃) E' { s with heap := h, toks := tk })
    (fin : ∀ ys news' oC mC h tk, J n mC ys news' → NsO oC mC → Fr h₀ L h m → News h₀ L h ((C, oC) :: (D, LCg.lst ys) :: (news' ++ own)) → (∀ p ∈ news', p.1 ≠ C ∧ p.1 ≠ D) → (∀ p ∈ news', p.1 ∉ wr₀) → Post { s with heap := h, toks := tk }) :
    codeAny (model prog w) A (.compStart (.ListComp elt [⟨t1, i1, f1, 0⟩, ⟨t2, i2, f2, 0⟩] scope pos) 1 it (.ref D) cenv) (fun r s' => match r with | .ok _ => Post s' | .error _ => False) s := by
  obtain ⟨I, fp, wr, Md, St, rfl, W, hself, hLf, hav, hwr, hfp, hal, hnw, hst, F, N⟩ := S
  have hCw : C ∉ wr := hnw (C, oC) List.mem_cons_self
  have hDw : D ∉ wr := hnw (D, LCg.lst ys) (List.mem_cons_of_mem _ List.mem_cons_self)
  have howw : ∀ p ∈ own, p.1 ∉ wr := fun p hp => hnw p (List.mem_cons_of_mem _ (List.mem_cons_of_mem _ (List.mem_append_right _ hp)))
  have hnww : ∀ p ∈ news, p.1 ∉ wr := fun p hp => hnw p (List.mem_cons_of_mem _ (List.mem_cons_of_mem _ (List.mem_append_left _ hp)))
  have wrC : ∀ (o : Obj) (l : List (Addr × Obj)) (x : Obj), (∀ p ∈ l, p.1 ∉ wr) → ∀ p ∈ (C, o) :: (D, x) :: (l ++ own), p.1 ∉ wr := fun o l x hl p hp => by
    rcases List.mem_cons.mp hp with rfl | hp
    · exact hCw
    · rcases List.mem_cons.mp hp with rfl | hp
      · exact hDw
      · rcases List.mem_append.mp hp with hp | hp
        · exact hl p hp
        · exact howw p hp
  refine compStart_21 ?_ fun Q E q => hself _ Q E hst q
  refine compLoop_turns (Inn := InnL prog w A (.ref D) elt cenv) W (turn_list21 ..) innL_ok innL_mono rfl rfl rfl hLf hwr (news := (C, oC) :: (D, LCg.lst ys) :: (news ++ own)) hnw hst F N
    (fun i l => ∃ ys oC mC news₁, l = (C, oC) :: (D, LCg.lst ys) :: (news₁ ++ own) ∧ NsO oC mC ∧ (∀ p ∈ news₁, p.1 ≠ C ∧ p.1 ≠ D) ∧ (∀ p ∈ news₁, p.1 ∉ wr₀) ∧ (∀ p ∈ news₁, p.1 ∉ wr) ∧ J i mC ys news₁)
    ⟨ys, oC, _, news, rfl, hoC, fun p hp => off p (List.mem_append_left _ hp), hnw₀, hnww, h0⟩ ?_ ?_
  · rintro i v news₁' h₁ tk₁ own₂ E' hi hP ⟨ys, oC₁, mC, news₁, rfl, hoC₁, off₁, hw₁, hw₂, hJ⟩ hnw₁ hof hown hst₂ F₂ N₂
    have N₂ : News h₀ L h₁ ((C, oC₁) :: (D, LCg.lst ys) :: (news₁ ++ (own ++ own₂))) := by
      rw [← List.append_assoc]; exact N₂
    have wrown : ∀ b ∈ wr, ∃ o, (b, o) ∈ own₂ := fun b hb => by
      obtain ⟨o, ho⟩ := hal _ _ hst₂ b hb
      exact ⟨o, hown b (W.sub b hb) (hwr b hb) o ho⟩
    have offa : ∀ p ∈ news₁ ++ (own ++ own₂), p.1 ≠ C ∧ p.1 ≠ D := fun p hp => by
      rcases List.mem_append.mp hp with hp | hp
      · exact off₁ p hp
      · rcases List.mem_append.mp hp with hp | hp
        · exact off p (List.mem_append_right _ hp)
        · exact ⟨fun q => hav C (by simp) (q ▸ hof p hp), fun q => hav D (by simp) (q ▸ hof p hp)⟩
    have out : ∀ (news' : List (Addr × Obj)), (∀ p ∈ news', p ∈ news₁ ∨ ∀ q ∈ (C, oC₁) :: (D, LCg.lst ys) :: (news₁ ++ (own ++ own₂)), q.1 < p.1) → (∀ p ∈ news', p.1 ≠ C ∧ p.1 ≠ D) ∧ (∀ p ∈ news', p.1 ∉ wr₀) ∧ ∀ p ∈ news', p.1 ∉ wr := fun news' hh => by
      refine ⟨fun p hp => ?_, fun p hp hm => ?_, fun p hp hm => ?_⟩
      · rcases hh p hp with hq | hq
        · exact off₁ p hq
        · exact ⟨Nat.ne_of_gt (hq _ List.mem_cons_self), Nat.ne_of_gt (hq (D, LCg.lst ys) (List.mem_cons_of_mem _ List.mem_cons_self))⟩
      · rcases hh p hp with hq | hq
        · exact hw₁ p hq hm
        · obtain ⟨o, ho⟩ := hwr₀ _ hm
          exact Nat.lt_irrefl _ (hq (p.1, o) (List.mem_cons_of_mem _ (List.mem_cons_of_mem _ (List.mem_append_right _ (List.mem_append_left _ ho)))))
      · rcases hh p hp with hq | hq
        · exact hw₂ p hq hm
        · obtain ⟨o, ho⟩ := wrown _ hm
          exact Nat.lt_irrefl _ (hq (p.1, o) (List.mem_cons_of_mem _ (List.mem_cons_of_mem _ (List.mem_append_right _ (List.mem_append_right _ ho)))))
    refine wpAny_mono (step i v ys news₁ oC₁ mC h₁ tk₁ own₂ E' hi hP hJ F₂ N₂ hoC₁ offa) (fun _ s₃ h₃ => wpAny_mono h₃ (fun ok s₄ h₄ => ?_) fun _ _ e => e) fun _ _ e => e
    cases ok with
    | false =>
      obtain ⟨h', tk', oC', mC', news', rfl, F₃, N₃, hoC', hh, hJ'⟩ := h₄
      obtain ⟨o1, o2, o3⟩ := out _ hh
      refine ⟨h', tk', (C, oC') :: (D, LCg.lst ys) :: (news' ++ own), rfl, F₃, ?_, wrC _ _ _ o3, ys, oC', mC', news', rfl, hoC', o1, o2, o3, hJ'⟩
      rw [← List.append_assoc] at N₃
      exact N₃
    | true =>
      refine wpAny_mono h₄ (fun y s₅ h₅ => ?_) fun _ _ e => e
      obtain ⟨h', tk', oC', mC', news', rfl, F₃, N₃, hoC', hh, hJ'⟩ := h₅
      obtain ⟨o1, o2, o3⟩ := out _ hh
      have zD := N₃ (D, LCg.lst ys) (List.mem_cons_of_mem _ List.mem_cons_self)
      refine append_at (hsz := by show ys.toArray.size ≤ sizeLine; rw [List.size_toArray]; exact hsz _ _ _ _ hi hJ) zD.1 fun h₅ hs₅ hD₅ => ?_
      refine ⟨h₅, tk', (C, oC') :: (D, LCg.lst (ys ++ [y])) :: (news' ++ own), rfl, F₃.change hs₅ zD.2.1 zD.2.2, fun p hp => ?_, wrC _ _ _ o3, ys ++ [y], oC', mC', news', rfl, hoC', o1, o2, o3, hJ'⟩
      rcases List.mem_cons.mp hp with rfl | hp
      · have z := N₃ (C, oC') List.mem_cons_self
        exact ⟨hs₅.extBut _ _ hCD z.1, z.2⟩
      · rcases List.mem_cons.mp hp with rfl | hp
        · exact ⟨hD₅.trans (congrArg some (LCg.lst_snoc ys y)), zD.2⟩
        · have hp : p ∈ news' ++ (own ++ own₂) := by rw [← List.append_assoc]; exact hp
          have z := N₃ p (List.mem_cons_of_mem _ (List.mem_cons_of_mem _ hp))
          refine ⟨hs₅.extBut _ _ ?_ z.1, z.2⟩
          rcases List.mem_append.mp hp with hp | hp
          · exact (o1 p hp).2
          · exact (offa p (List.mem_append_right _ hp)).2
  · rintro h' tk' news' F' N' hnw' ⟨ys, oC', mC', news₁, rfl, hoC', off', hw₁, _, hJ'⟩
    exact fin ys news₁ oC' mC' h' tk' hJ' hoC' F' N' off' hw₁
theorem listComp2U {use : Option (Value → Sem Unit)} {cpos : Pos} {elt t1 i1 t2 i2 : Expr} {scope : Scope} {pos : Pos} {cl : List (Str × Addr)} {Q : Value → Shared → Prop}
    (_F₀ : Fr h₀ L s.heap m) (hclos : closureFor scope env = pure cl) (hkind : scope.kind = .function)
    (hnames : ∀ x ∈ scope.names, x.2 = .local → scope.names.lookup x.1 = some .local) (hcell : ∀ x ∈ scope.names, x.2 ≠ .cell)
    (h : wpAny (model prog w) A (eval i1 env) (fun x s₁ => wpAny (model prog w) A (pyIter x) (fun it s₂ => LC2U prog w A E env h₀ L m use elt t1 t2 i2 scope cl Q it s₂) E s₁) E s)
    (hs : ∀ x, foldedSetIterable i1 env x = pure x := by intro _; rfl) (hs2 : ∀ env x, foldedSetIterable i2 env x = pure x := by intro _ _; rfl) :
    wpAny (model prog w) A (comprehension (.ListComp elt [⟨t1, i1, [], 0⟩, ⟨t2, i2, [], 0⟩] scope pos) scope env cpos (newList []) false (eval i1 env) use) Q E s := by
  refine listComp_block _F₀ hclos hkind hnames hcell (wpAny_mono h (fun x s₁ h₁ => wpAny_mono h₁ (fun it s₂ h₂ => ?_) fun _ _ e => e) fun _ _ e => e) hs
  obtain ⟨news, n, P, ⟨I, fp, wr, Md, St, rfl, W, hself, hLf, _, hwr, hfp, hal, hnw, hst, F, N⟩, J, h0, step, fin⟩ := h₂
  refine ⟨news, F, N, fun D C oC h tk old hD hC F₁ N₁ hoC => ?_⟩
  have hst₁ : St 0 h := W.frame _ _ _ hst fun b _ o e => old b o e
  have hCD : C ≠ D := by rw [hC]; exact Nat.succ_ne_self _
  have offs : ∀ b, b < s₂.heap.objs.size → b ≠ C ∧ b ≠ D := fun b hb => by
    rw [← hD] at hb
    exact ⟨Nat.ne_of_lt (hC ▸ Nat.lt_succ_of_lt hb), Nat.ne_of_lt hb⟩
  have offn : ∀ p ∈ news, p.1 ≠ C ∧ p.1 ≠ D := fun p hp => offs _ (Heap.lt_size (N p hp).1)
  have hCf : C ∉ fp := fun hm => (offs _ (hfp _ hm)).1 rfl
  have hDf : D ∉ fp := fun hm => (offs _ (hfp _ hm)).2 rfl
  have loop : codeAny (model prog w) A (.compLoop (.ListComp elt [⟨t1, i1, [], 0⟩, ⟨t2, i2, [], 0⟩] scope pos) 0 (.ref I) (.ref D) (compEnvC scope cl C env)) (CPost (model prog w) A E use h₀ L m Q C D) { s₂ with heap := h, toks := tk } := by
    refine compLoop_turns (Inn := InnC prog w A (.ListComp elt [⟨t1, i1, [], 0⟩, ⟨t2, i2, [], 0⟩] scope pos) i2 (.ref D) (compEnvC scope cl C env)) W (turn_list20 ..) (innC_ok (hs2 _)) innC_mono rfl rfl rfl hLf hwr (news := (C, oC) :: (D, LCg.lst []) :: news) (fun p hp => ?_) hst₁ F₁ N₁
      (fun i l => ∃ ys oC mC news₁, l = (C, oC) :: (D, LCg.lst ys) :: news₁ ∧ NsO oC mC ∧ (∀ p ∈ news₁, p.1 ≠ C ∧ p.1 ≠ D) ∧ J i ys news₁) ⟨[], oC, _, news, rfl, hoC, offn, h0⟩ ?_ ?_
    · rcases List.mem_cons.mp hp with rfl | hp
      · exact fun hm => hCf (W.sub _ hm)
      · rcases List.mem_cons.mp hp with rfl | hp
        · exact fun hm => hDf (W.sub _ hm)
        · exact hnw p hp
    · rintro i v news₁' h₁ tk₁ own E' hi hP ⟨ys, oC₁, mC, news₁, rfl, hoC₁, off₁, hJ⟩ hnw₁ hof hown hst₂ F₂ N₂
      have offa : ∀ p ∈ news₁ ++ own, p.1 ≠ C ∧ p.1 ≠ D := fun p hp => by
        rcases List.mem_append.mp hp with hp | hp
        · exact off₁ p hp
        · exact ⟨fun q => hCf (q ▸ hof p hp), fun q => hDf (q ▸ hof p hp)⟩
      have wrown : ∀ b ∈ wr, ∃ o, (b, o) ∈ own := fun b hb => by
        obtain ⟨o, ho⟩ := hal _ _ hst₂ b hb
        exact ⟨o, hown b (W.sub b hb) (hwr b hb) o ho⟩
      refine wpAny_mono (step i v ys news₁ C oC₁ mC D h₁ tk₁ own E' hi hP hJ F₂ N₂ hoC₁ hCD offa) (fun _ s₃ h₃ => wpAny_tests_nil ?_) fun _ _ e => e
      simp only [if_true]
      refine wpAny_mono h₃ (fun x₂ s₄ h₄ => wpAny_mono h₄ (fun it₂ s₅ h₅ => ?_) fun _ _ e => e) fun _ _ e => e
      obtain ⟨oC₂, mC₂, news₂, n₂, P₂, hoC₂, ⟨h₂, tk₂, rfl⟩, hh, S₂, J₂, h02, hsz2, step2, hJ2⟩ := h₅
      have o1 : ∀ p ∈ news₂ ++ own, p.1 ≠ C ∧ p.1 ≠ D := fun p hp => by
        rcases List.mem_append.mp hp with hp | hp
        · rcases hh p hp with hq | hq
          · exact off₁ p hq
          · exact ⟨Nat.ne_of_gt (hq _ List.mem_cons_self), Nat.ne_of_gt (hq (D, LCg.lst ys) (List.mem_cons_of_mem _ List.mem_cons_self))⟩
        · exact offa p (List.mem_append_right _ hp)
      have o2 : ∀ p ∈ news₂, p.1 ∉ wr := fun p hp hm => by
        rcases hh p hp with hq | hq
        · exact hnw₁ p (List.mem_cons_of_mem _ (List.mem_cons_of_mem _ hq)) hm
        · obtain ⟨o, ho⟩ := wrown _ hm
          exact Nat.lt_irrefl _ (hq (p.1, o) (List.mem_cons_of_mem _ (List.mem_cons_of_mem _ (List.mem_append_right _ ho))))
      refine innerLoop_turns (wr₀ := wr) S₂ hoC₂ hCD o1 wrown o2 J₂ h02 hsz2 (fun j v₂ ys₂ news₃ oC₃ mC₃ h₃ tk₃ own₂ E'' a1 a2 a3 a4 a5 a6 a7 => ?_) (fun ys' news' oC' mC' h' tk' a1 a2 a3 a4 a5 a6 => ?_)
      · refine wpAny_mono (step2 j v₂ ys₂ news₃ oC₃ mC₃ h₃ tk₃ own₂ E'' a1 a2 a3 a4 a5 a6 a7) (fun _ s₆ h₆ => wpAny_tests_nil ?_) fun _ _ e => e
        simp only [if_true]
        exact h₆
      · refine ⟨h', tk', (C, oC') :: (D, LCg.lst ys') :: news', rfl, a3, a4, fun p hp => ?_, ys', oC', mC', news', rfl, a2, a5, hJ2 _ _ _ a1⟩
        rcases List.mem_cons.mp hp with rfl | hp
        · exact fun hm => hCf (W.sub _ hm)
        · rcases List.mem_cons.mp hp with rfl | hp
          · exact fun hm => hDf (W.sub _ hm)
          · exact a6 p hp
    · rintro h' tk' news' F' N' hnw' ⟨ys, oC', mC', news₁, rfl, hoC', off', hJ'⟩
      have offC : ∀ p ∈ (D, LCg.lst ys) :: news₁, p.1 ≠ C := fun p hp => by
        rcases List.mem_cons.mp hp with rfl | hp
        · exact Ne.symm hCD
        · exact (off' p hp).1
      exact ⟨oC', mC', (D, LCg.lst ys) :: news₁, F', N', hoC', offC, fin ys news₁ C oC' D h' tk' hJ' F' N' offC (fun p hp => (off' p hp).2) fun q hq => hD ▸ Heap.lt_size (N q hq).1⟩
  exact codeAny_compStart_list loop (hself _ _ _ hst₁ loop)
theorem listComp2 {elt t1 i1 t2 i2 : Expr} {scope : Scope} {pos : Pos} {cl : List (Str × Addr)} {Q : Value → Shared → Prop}
    (_F₀ : Fr h₀ L s.heap m) (hclos : closureFor scope env = pure cl) (hkind : scope.kind = .function)
    (hnames : ∀ x ∈ scope.names, x.2 = .local → scope.names.lookup x.1 = some .local) (hcell : ∀ x ∈ scope.names, x.2 ≠ .cell)
    (h : wpAny (model prog w) A (eval i1 env) (fun x s₁ => wpAny (model prog w) A (pyIter x) (fun it s₂ => LC2 prog w A env h₀ L m elt t1 t2 i2 scope cl Q it s₂) E s₁) E s)
    (hs : ∀ x, foldedSetIterable i1 env x = pure x := by intro _; rfl) (hs2 : ∀ env x, foldedSetIterable i2 env x = pure x := by intro _ _; rfl) :
    wpAny (model prog w) A (eval (.ListComp elt [⟨t1, i1, [], 0⟩, ⟨t2, i2, [], 0⟩] scope pos) env) Q E s := by
  rw [eval_ListComp]
  refine listComp2U (use := none) _F₀ hclos hkind hnames hcell (wpAny_mono h (fun x s₁ h₁ => wpAny_mono h₁ (fun it s₂ h₂ => ?_) fun _ _ e => e) fun _ _ e => e) hs hs2
  obtain ⟨news, n, P, S, J, h0, step, fin⟩ := h₂
  exact ⟨news, n, P, S, J, h0, step, fun ys news' C oC D h tk hJ F N offC offD hlt h'' F'' N'' => fin ys news' D h'' tk hJ F'' N'' offD hlt⟩
theorem lc2A {use : Value → Sem Unit} {y : Str} {py : Pos} {elt t1 t2 i2 : Expr} {scope : Scope} {cl : List (Str × Addr)} {Q : Flow → Shared → Prop} {it : Value} {s₂ : Shared} (h : LC2A prog w A E env h₀ L m y py elt t1 t2 i2 scope cl Q it s₂) (hu : ∀ v, use v = assign (.Name y py) env v := by intro _; rfl) :
    LC2U prog w A E env h₀ L m (some use) elt t1 t2 i2 scope cl (fun _ s' => Q .next s') it s₂ := by
  obtain rfl : use = assign (.Name y py) env := funext hu
  obtain ⟨news, n, P, S, J, h0, step, fin⟩ := h
  exact ⟨news, n, P, S, J, h0, step, fin⟩
theorem listCompA2 {elt t1 i1 t2 i2 : Expr} {scope : Scope} {pos spos py : Pos} {y : Str} {cl : List (Str × Addr)} {Q : Flow → Shared → Prop}
    (_F₀ : Fr h₀ L s.heap m) (hclos : closureFor scope env = pure cl) (hkind : scope.kind = .function)
    (hnames : ∀ x ∈ scope.names, x.2 = .local → scope.names.lookup x.1 = some .local) (hcell : ∀ x ∈ scope.names, x.2 ≠ .cell)
    (h : wpAny (model prog w) A (eval i1 env) (fun x s₁ => wpAny (model prog w) A (pyIter x) (fun it s₂ => LC2A prog w A E env h₀ L m y py elt t1 t2 i2 scope cl Q it s₂) E s₁) E s)
    (hsw : swapsWith (.ListComp elt [⟨t1, i1, [], 0⟩, ⟨t2, i2, [], 0⟩] scope pos) (some (.Name y py)) spos.line env = pure true)
    (hs : ∀ x, foldedSetIterable i1 env x = pure x := by intro _; rfl) (hs2 : ∀ env x, foldedSetIterable i2 env x = pure x := by intro _ _; rfl) :
    wpAny (model prog w) A (exec (.Assign [.Name y py] (.ListComp elt [⟨t1, i1, [], 0⟩, ⟨t2, i2, [], 0⟩] scope pos) spos) env) Q E s := by
  rw [exec_Assign_Name_used _ _ _ _ hsw]
  refine wpAny_bind (wpAny_standAt (wpAny_bind ?_))
  show wpAny _ A (do let _ ← comprehension (.ListComp elt [⟨t1, i1, [], 0⟩, ⟨t2, i2, [], 0⟩] scope pos) scope env _ (newList []) false (eval i1 env) (some (assign (.Name y py) env))) _ _ s
  exact wpAny_bind (wpAny_mono (listComp2U (use := some (assign (.Name y py) env)) (Q := fun _ s' => Q .next s') _F₀ hclos hkind hnames hcell (wpAny_mono h (fun x s₁ h₁ => wpAny_mono h₁ (fun it s₂ h₂ => lc2A h₂) fun _ _ e => e) fun _ _ e => e) hs hs2) (fun _ s' hq => wpAny_pure (wpAny_pure hq)) fun _ _ e => e)
end
end Mine
end
section
open PySem PySem.W PySem.Calls PyProof.Rows PyProof.V PySem.Spec
set_option maxRecDepth 100000
namespace Mine
section
variable {prog : Program} {w : World} {A : Around} {E : Value → Shared → Prop} {s : Shared} {h₀ : Heap} {L : Addr} {m : Str → Option Value} {news : List (Addr × Obj)}
theorem fresh_of (F : Fr h₀ L s.heap m) {a : Addr} (ha : s.heap.objs.size ≤ a) : h₀.get? a = none := by
  cases e : h₀.get? a with
  | none => rfl
  | some o' => exact absurd (Heap.lt_size (F.keep a o' e)) (Nat.not_lt.mpr ha)
/-- where an object stands that a loop reads -/
noncomputable def AtHand (h₀ : Heap) (news : List (Addr × Obj)) (a : Addr) : Prop := (∃ o, h₀.get? a = some o) ∨ ∃ o, (a, o) ∈ news
theorem AtHand.ne (x : AtHand h₀ news a) (F : Fr h₀ L s.heap m) (N : News h₀ L s.heap news) : a ≠ L := by
  rcases x with ⟨o, e⟩ | ⟨o, hm⟩
  · exact Nat.ne_of_lt (Nat.lt_of_lt_of_le (Heap.lt_size e) F.above)
  · exact (N _ hm).2.1
theorem AtHand.lt (x : AtHand h₀ news a) (F : Fr h₀ L s.heap m) (N : News h₀ L s.heap news) : a < s.heap.objs.size := by
  rcases x with ⟨o, e⟩ | ⟨o, hm⟩
  · exact Heap.lt_size (F.keep _ _ e)
  · exact Heap.lt_size (N _ hm).1
theorem go_name {x : Str} {px : Pos} {it v : Value} {Q : Unit → Shared → Prop} (h : Q () s) : wpAny (model prog w) A (letOwnedTupleGo (.Name x px) it v) Q E s :=
  wpAny_of_eq (show letOwnedTupleGo (.Name x px) it v = pure () from rfl) h
theorem src_range {r : Addr} {a b : Int} {t u v : Tok} {n : Nat} {av : List Addr} {Q : Value → Shared → Prop}
    (hh : A.handled = none) (F : Fr h₀ L s.heap m) (N : News h₀ L s.heap news) (hr : IsRange s.heap r a b 1 t u v) (hsm : Builtin.Range.small a b 1 = true) (hn : Builtin.Range.rangeSize a b 1 = ((n : Nat) : Int))
    (hav : ∀ b ∈ av, b < s.heap.objs.size)
    (h : ∀ h', (∀ b o, s.heap.get? b = some o → h'.get? b = some o) → (∀ (x : Str) (px : Pos), SrcOk prog w A h₀ L m (.Name x px) (.ref s.heap.objs.size) h' news av n (fun i v _ => ∃ t, v = .int (a + (i : Int)) t)) → Q (.ref s.heap.objs.size) { s with heap := h' }) :
    wpAny (model prog w) A (pyIter (.ref r)) Q E s := by
  refine wpAny_pyIter_range hr hsm ?_
  have up : ∀ c o, s.heap.get? c = some o → (s.heap.push { cls := .type "range_iterator", data := .fields #[rawInt a, rawInt (Builtin.Range.rangeSize a b 1), rawInt 1] }).get? c = some o := fun c o e => Heap.get?_push_of_some _ e
  have W := LCg.range_walks (prog := prog) (w := w) (I := s.heap.objs.size) hh a n
  refine h _ up fun x px => ⟨_, _, _, _, _, rfl, KTurns.ofWalks W fun _ _ _ _ _ _ q => go_name q, W.self 0, ?_, ?_, ?_, ?_, ?_, ?_, ?_, F.keeps up, N.grown up⟩
  · simpa using Nat.ne_of_lt F.ns.lt
  · intro b hb hm; exact Nat.ne_of_lt (hav b hb) (List.mem_singleton.mp hm)
  · intro b hb; rw [List.mem_singleton.mp hb]; exact fresh_of F (Nat.le_refl _)
  · intro b hb
    show b < (s.heap.push _).objs.size
    rw [List.mem_singleton.mp hb, Heap.size_push]; exact Nat.lt_succ_self _
  · intro i h st b hb; rw [List.mem_singleton.mp hb]; exact ⟨_, st⟩
  · intro p hp hm; exact Nat.ne_of_lt (Heap.lt_size (N p hp).1) (List.mem_singleton.mp hm)
  · show IsRangeIter _ _ _ _ _
    rw [hn]; simpa using Heap.get?_push_size s.heap rfl
theorem src_list {ax : Addr} {its : Array Value} {av : List Addr} {Q : Value → Shared → Prop}
    (hh : A.handled = none) (F : Fr h₀ L s.heap m) (N : News h₀ L s.heap news) (hl : s.heap.IsList ax its) (ha : AtHand h₀ news ax)
    (hav : ∀ b ∈ av, b < s.heap.objs.size ∧ b ≠ ax)
    (h : ∀ h', (∀ b o, s.heap.get? b = some o → h'.get? b = some o) → (∀ (x : Str) (px : Pos), SrcOk prog w A h₀ L m (.Name x px) (.ref s.heap.objs.size) h' news av its.size (fun i v _ => its[i]? = some v)) → Q (.ref s.heap.objs.size) { s with heap := h' }) :
    wpAny (model prog w) A (pyIter (.ref ax)) Q E s := by
  refine wpAny_pyIter_list hl ?_
  have up : ∀ b o, s.heap.get? b = some o → (s.heap.push { cls := .type "list_iterator", data := .fields #[.ref ax, .int 0 0] }).get? b = some o := fun b o e => Heap.get?_push_of_some _ e
  have hlt := ha.lt F N
  have W := Walks.list (prog := prog) (w := w) hh s.heap.objs.size ax (Nat.ne_of_lt hlt) its
  refine h _ up fun x px => ⟨_, _, _, _, _, rfl, KTurns.ofWalks W fun _ _ _ _ _ _ q => go_name q, W.self 0, ?_, ?_, ?_, ?_, ?_, ?_, ⟨⟨_, Heap.get?_push_size _ rfl, rfl, rfl⟩, hl.push _⟩, F.keeps up, N.grown up⟩
  · intro hm
    rcases List.mem_cons.mp hm with e | hm
    · exact Nat.ne_of_lt F.ns.lt e
    · exact ha.ne F N (List.mem_singleton.mp hm).symm
  · intro b hb hm
    rcases List.mem_cons.mp hm with e | hm
    · exact Nat.ne_of_lt (hav b hb).1 e
    · exact (hav b hb).2 (List.mem_singleton.mp hm)
  · intro b hb; rw [List.mem_singleton.mp hb]; exact fresh_of F (Nat.le_refl _)
  · intro b hb
    show b < (s.heap.push _).objs.size
    rw [Heap.size_push]
    rcases List.mem_cons.mp hb with rfl | hb
    · exact Nat.lt_succ_self _
    · rw [List.mem_singleton.mp hb]; exact Nat.lt_succ_of_lt hlt
  · intro i h st b hb; rw [List.mem_singleton.mp hb]; obtain ⟨o, e, _⟩ := st.1; exact ⟨o, e⟩
  · intro p hp hm; exact Nat.ne_of_lt (Heap.lt_size (N p hp).1) (List.mem_singleton.mp hm)
theorem src_str {y : Str} {ty : Tok} {av : List Addr} {Q : Value → Shared → Prop}
    (hh : A.handled = none) (F : Fr h₀ L s.heap m) (N : News h₀ L s.heap news) (hy : y.cps.all (· < 128) = true)
    (hav : ∀ b ∈ av, b < s.heap.objs.size)
    (h : ∀ h', (∀ b o, s.heap.get? b = some o → h'.get? b = some o) → (∀ (x : Str) (px : Pos), SrcOk prog w A h₀ L m (.Name x px) (.ref s.heap.objs.size) h' news av y.cps.size (fun i v _ => SignAt y i v)) → Q (.ref s.heap.objs.size) { s with heap := h' }) :
    wpAny (model prog w) A (pyIter (.str y ty)) Q E s := by
  refine wpAny_pyIter_ascii hy ?_
  have W := Walks.strAscii (prog := prog) (w := w) hh s.heap.objs.size y ty
  refine h _ (fun b o e => Heap.get?_push_of_some _ e) fun x px => ⟨_, _, _, _, _, rfl, KTurns.ofWalks W fun _ _ _ _ _ _ q => go_name q, W.self 0, ?_, ?_, ?_, ?_, ?_, ?_, ⟨_, Heap.get?_push_size _ rfl, rfl, rfl⟩, F.keeps fun b o e => Heap.get?_push_of_some _ e, N.grown fun b o e => Heap.get?_push_of_some _ e⟩
  · simpa using Nat.ne_of_lt F.ns.lt
  · intro b hb hm; exact Nat.ne_of_lt (hav b hb) (List.mem_singleton.mp hm)
  · intro b hb; rw [List.mem_singleton.mp hb]; exact fresh_of F (Nat.le_refl _)
  · intro b hb
    show b < (s.heap.push _).objs.size
    rw [List.mem_singleton.mp hb, Heap.size_push]; exact Nat.lt_succ_self _
  · intro i h st b hb; rw [List.mem_singleton.mp hb]; obtain ⟨o, e, _⟩ := st; exact ⟨o, e⟩
  · intro p hp hm; exact Nat.ne_of_lt (Heap.lt_size (N p hp).1) (List.mem_singleton.mp hm)
theorem zipA {n l1 l2 b : Nat} (hb : b < n) (h1 : b ≠ l1) (h2 : b ≠ l2) : b ∉ [n + 4, n + 2, n + 3, n, n + 1, l1, l2] := fun hm => by
  have k : ∀ i, b ≠ n + i := fun i => Nat.ne_of_lt (Nat.lt_of_lt_of_le hb (Nat.le_add_right n i))
  exact (List.forall_mem_cons.mpr ⟨k 4, List.forall_mem_cons.mpr ⟨k 2, List.forall_mem_cons.mpr ⟨k 3, List.forall_mem_cons.mpr ⟨k 0, List.forall_mem_cons.mpr ⟨k 1, List.forall_mem_cons.mpr ⟨h1, List.forall_mem_cons.mpr ⟨h2, fun _ h => nomatch h⟩⟩⟩⟩⟩⟩⟩ : ∀ x ∈ [n + 4, n + 2, n + 3, n, n + 1, l1, l2], b ≠ x) b hm rfl
theorem zipB {n l1 l2 b : Nat} (h1 : l1 < n) (h2 : l2 < n) (hm : b ∈ [n + 4, n + 2, n + 3, n, n + 1, l1, l2]) : b < n + 5 := by
  have k : ∀ i, i < 5 → n + i < n + 5 := fun i hi => Nat.add_lt_add_left hi n
  have q : ∀ x, x < n → x < n + 5 := fun x hx => Nat.lt_of_lt_of_le hx (Nat.le_add_right n 5)
  exact (List.forall_mem_cons.mpr ⟨k 4 (by decide), List.forall_mem_cons.mpr ⟨k 2 (by decide), List.forall_mem_cons.mpr ⟨k 3 (by decide), List.forall_mem_cons.mpr ⟨k 0 (by decide), List.forall_mem_cons.mpr ⟨k 1 (by decide), List.forall_mem_cons.mpr ⟨q _ h1, List.forall_mem_cons.mpr ⟨q _ h2, fun _ h => nomatch h⟩⟩⟩⟩⟩⟩⟩ : ∀ x ∈ [n + 4, n + 2, n + 3, n, n + 1, l1, l2], x < n + 5) b hm
theorem zipC {n b : Nat} (hm : b ∈ [n + 4, n + 3, n, n + 1]) : n ≤ b :=
  (List.forall_mem_cons.mpr ⟨Nat.le_add_right n 4, List.forall_mem_cons.mpr ⟨Nat.le_add_right n 3, List.forall_mem_cons.mpr ⟨Nat.le_refl n, List.forall_mem_cons.mpr ⟨Nat.le_add_right n 1, fun _ h => nomatch h⟩⟩⟩⟩ : ∀ x ∈ [n + 4, n + 3, n, n + 1], n ≤ x) b hm
theorem zipD {n b : Nat} (hb : b < n) : b ∉ [n + 4, n + 3, n, n + 1] := fun hm => Nat.lt_irrefl _ (Nat.lt_of_lt_of_le hb (zipC hm))
theorem src_zip {l1 l2 : Addr} {xs ys : Array Value} {av : List Addr} {Q : Value → Shared → Prop}
    (hh : A.handled = none) (F : Fr h₀ L s.heap m) (N : News h₀ L s.heap news) (hl1 : s.heap.IsList l1 xs) (hl2 : s.heap.IsList l2 ys) (ha1 : AtHand h₀ news l1) (ha2 : AtHand h₀ news l2)
    (hav : ∀ b ∈ av, b < s.heap.objs.size ∧ b ≠ l1 ∧ b ≠ l2)
    (h : ∀ I h', (∀ b o, s.heap.get? b = some o → h'.get? b = some o) → (∀ (elts : List Expr) (k : Nat) (pos : Pos), SrcOk prog w A h₀ L m (.Tuple elts k pos) (.ref I) h' news av (min xs.size ys.size) (fun i v h => ∃ T vals, v = .ref T ∧ (∃ x y, xs[i]? = some x ∧ ys[i]? = some y ∧ vals = #[x, y]) ∧ h.IsTuple T vals)) → Q (.ref I) { s with heap := h' }) :
    wpAny (model prog w) A (call (.type "zip") [.ref l1, .ref l2]) (fun xv s₁ => wpAny (model prog w) A (pyIter xv) Q E s₁) E s := by
  have hlt1 := ha1.lt F N
  have hlt2 := ha2.lt F N
  have hLs : L < s.heap.objs.size := F.ns.lt
  have D : ZipApart (s.heap.objs.size + 4) (s.heap.objs.size + 2) (s.heap.objs.size + 3) s.heap.objs.size (s.heap.objs.size + 1) l1 l2 := ktu_apart _ _ _ hlt1 hlt2
  refine call_zip_2 hl1 hl2 fun h' hz hTI hTO hi1 hi2 hsz hk => ?_
  refine wpAny_pyIter_zip hz ?_
  have W := WalksT.zip2 (prog := prog) (w := w) hh _ _ _ _ _ _ _ D xs ys
  refine h _ _ hk fun elts k pos => ⟨_, _, _, _, _, rfl, KTurns.ofWalksU W.toU, W.self 0, ?_, ?_, ?_, ?_, ?_, ?_, ⟨hz, hTI, ⟨_, _, hTO⟩, hi1, hi2, hl1.at fun o e => hk _ o e, hl2.at fun o e => hk _ o e⟩, F.keeps hk, N.grown hk⟩
  · exact zipA hLs (ha1.ne F N).symm (ha2.ne F N).symm
  · intro b hb
    obtain ⟨z0, z1, z2⟩ := hav b hb
    exact zipA z0 z1 z2
  · intro b hb
    exact fresh_of F (zipC hb)
  · intro b hb
    show b < h'.objs.size
    rw [hsz]
    exact zipB hlt1 hlt2 hb
  · rintro i h ⟨hz, hTI, ⟨a, b, hTO⟩, ⟨o1, ho1, _⟩, ⟨o2, ho2, _⟩, _⟩ b hb
    simp only [List.mem_cons, List.not_mem_nil, or_false] at hb
    rcases hb with rfl | rfl | rfl | rfl
    · exact ⟨_, hz⟩
    · exact ⟨_, hTO⟩
    · exact ⟨_, ho1⟩
    · exact ⟨_, ho2⟩
  · intro p hp
    exact zipD (Heap.lt_size (N p hp).1)
end
end Mine
end
section
open PySem PySem.W PySem.Calls PyProof.Rows PyProof.V PySem.Spec
set_option maxRecDepth 100000
namespace Mine
section
variable {prog : Program} {w : World} {A : Around} {E : Value → Shared → Prop} {s : Shared} {h₀ : Heap} {L : Addr} {m : Str → Option Value} {news : List (Addr × Obj)}
theorem in2 {n b : Nat} (hm : b ∈ [n + 1, n]) : n ≤ b ∧ b < n + 2 :=
  (List.forall_mem_cons.mpr ⟨⟨Nat.le_add_right n 1, Nat.lt_succ_self _⟩, List.forall_mem_cons.mpr ⟨⟨Nat.le_refl n, Nat.lt_add_of_pos_right (by decide)⟩, fun _ h => nomatch h⟩⟩ : ∀ x ∈ [n + 1, n], n ≤ x ∧ x < n + 2) b hm
theorem nin2 {n b : Nat} (hb : b < n) : b ∉ [n + 1, n] := fun hm => Nat.lt_irrefl _ (Nat.lt_of_lt_of_le hb (in2 hm).1)
theorem nin3 {n l b : Nat} (hb : b < n) (h : b ≠ l) : b ∉ [n + 1, n, l] := fun hm =>
  (List.forall_mem_cons.mpr ⟨Nat.ne_of_lt (Nat.lt_of_lt_of_le hb (Nat.le_add_right n 1)), List.forall_mem_cons.mpr ⟨Nat.ne_of_lt hb, List.forall_mem_cons.mpr ⟨h, fun _ h => nomatch h⟩⟩⟩ : ∀ x ∈ [n + 1, n, l], b ≠ x) b hm rfl
theorem in3 {n l b : Nat} (hl : l < n) (hm : b ∈ [n + 1, n, l]) : b < n + 2 :=
  (List.forall_mem_cons.mpr ⟨Nat.lt_succ_self _, List.forall_mem_cons.mpr ⟨Nat.lt_add_of_pos_right (by decide), List.forall_mem_cons.mpr ⟨Nat.lt_of_lt_of_le hl (Nat.le_add_right n 2), fun _ h => nomatch h⟩⟩⟩ : ∀ x ∈ [n + 1, n, l], x < n + 2) b hm
theorem src_enumStr {y : Str} {ty : Tok} {av : List Addr} {Q : Value → Shared → Prop}
    (hh : A.handled = none) (F : Fr h₀ L s.heap m) (N : News h₀ L s.heap news) (hy : y.cps.all (· < 128) = true)
    (hav : ∀ b ∈ av, b < s.heap.objs.size)
    (h : ∀ I h', (∀ b o, s.heap.get? b = some o → h'.get? b = some o) → (∀ (elts : List Expr) (k : Nat) (pos : Pos), SrcOk prog w A h₀ L m (.Tuple elts k pos) (.ref I) h' news av y.cps.size (fun i v h => ∃ T vals, v = .ref T ∧ (∃ t x, SignAt y i x ∧ vals = #[.int i t, x]) ∧ h.IsTuple T vals)) → Q (.ref I) { s with heap := h' }) :
    wpAny (model prog w) A (call (.type "enumerate") [.str y ty]) (fun xv s₁ => wpAny (model prog w) A (pyIter xv) Q E s₁) E s := by
  refine call_enumerate_str fun h' hE hI hsz hk => ?_
  rw [show strIterType y = "str_ascii_iterator" by simp only [strIterType, hy, if_true]] at hI
  refine wpAny_pyIter_enum hE ?_
  have D := Draws.strAscii (prog := prog) (w := w) (A := A.in1) hh s.heap.objs.size y ty
  have W := WalksT.enumerateD D (s.heap.objs.size + 1) (Nat.succ_ne_self _) (by simp) (by simp)
  refine h _ _ hk fun elts k pos => ⟨_, _, _, _, _, rfl, KTurns.ofWalksU W.toU, W.self 0, nin2 F.ns.lt, fun b hb => nin2 (hav b hb), fun b hb => fresh_of F (in2 hb).1, fun b hb => ?_, ?_, fun p hp => nin2 (Heap.lt_size (N p hp).1), ⟨⟨.none, hE⟩, hI⟩, F.keeps hk, N.grown hk⟩
  · show b < h'.objs.size
    rw [hsz]; exact (in2 hb).2
  · rintro i h ⟨⟨old, he⟩, o, hi, _⟩ b hb
    simp only [List.mem_cons, List.not_mem_nil, or_false] at hb
    rcases hb with rfl | rfl
    · exact ⟨_, he⟩
    · exact ⟨_, hi⟩
theorem src_enum {l : Addr} {its : Array Value} {av : List Addr} {Q : Value → Shared → Prop}
    (hh : A.handled = none) (F : Fr h₀ L s.heap m) (N : News h₀ L s.heap news) (hl : s.heap.IsList l its) (ha : AtHand h₀ news l)
    (hav : ∀ b ∈ av, b < s.heap.objs.size ∧ b ≠ l)
    (h : ∀ I h', (∀ b o, s.heap.get? b = some o → h'.get? b = some o) → (∀ (elts : List Expr) (k : Nat) (pos : Pos), SrcOk prog w A h₀ L m (.Tuple elts k pos) (.ref I) h' news av its.size (fun i v h => ∃ T vals, v = .ref T ∧ (∃ t x, its[i]? = some x ∧ vals = #[.int i t, x]) ∧ h.IsTuple T vals)) → Q (.ref I) { s with heap := h' }) :
    wpAny (model prog w) A (call (.type "enumerate") [.ref l]) (fun xv s₁ => wpAny (model prog w) A (pyIter xv) Q E s₁) E s := by
  have hlt := ha.lt F N
  refine call_enumerate_list hl fun h' hE hI hsz hk => ?_
  refine wpAny_pyIter_enum hE ?_
  have W := WalksT.enumerate (prog := prog) (w := w) hh (s.heap.objs.size + 1) s.heap.objs.size l (Nat.succ_ne_self _) (Nat.ne_of_lt (Nat.lt_succ_of_lt hlt)) (Nat.ne_of_lt hlt) its
  refine h _ _ hk fun elts k pos => ⟨_, _, _, _, _, rfl, KTurns.ofWalksU W.toU, W.self 0, nin3 F.ns.lt (ha.ne F N).symm, fun b hb => nin3 (hav b hb).1 (hav b hb).2, fun b hb => fresh_of F (in2 hb).1, fun b hb => ?_, ?_, fun p hp => nin2 (Heap.lt_size (N p hp).1), ⟨⟨.none, hE⟩, hI, hl.at fun o e => hk _ o e⟩, F.keeps hk, N.grown hk⟩
  · show b < h'.objs.size
    rw [hsz]; exact in3 hlt hb
  · rintro i h ⟨⟨old, he⟩, ⟨o, hi, _⟩, _⟩ b hb
    simp only [List.mem_cons, List.not_mem_nil, or_false] at hb
    rcases hb with rfl | rfl
    · exact ⟨_, he⟩
    · exact ⟨_, hi⟩
theorem src_pairs {ax : Addr} {its : Array Value} {Ts : Nat → Addr} {vals : Nat → Array Value} {av : List Addr} {Q : Value → Shared → Prop}
    (hh : A.handled = none) (F : Fr h₀ L s.heap m) (N : News h₀ L s.heap news) (hl : s.heap.IsList ax its) (ha : AtHand h₀ news ax)
    (hit : ∀ j, j < its.size → its[j]? = some (.ref (Ts j))) (htu : ∀ j, j < its.size → s.heap.IsTuple (Ts j) (vals j)) (hta : ∀ j, j < its.size → AtHand h₀ news (Ts j))
    (hav : ∀ b ∈ av, b < s.heap.objs.size ∧ b ≠ ax ∧ ∀ j, j < its.size → b ≠ Ts j)
    (h : ∀ h', (∀ b o, s.heap.get? b = some o → h'.get? b = some o) → (∀ (elts : List Expr) (k : Nat) (pos : Pos), SrcOk prog w A h₀ L m (.Tuple elts k pos) (.ref s.heap.objs.size) h' news av its.size (fun i v h => ∃ T vs, v = .ref T ∧ vs = vals i ∧ h.IsTuple T vs)) → Q (.ref s.heap.objs.size) { s with heap := h' }) :
    wpAny (model prog w) A (pyIter (.ref ax)) Q E s := by
  refine wpAny_pyIter_list hl ?_
  have up : ∀ b o, s.heap.get? b = some o → (s.heap.push { cls := .type "list_iterator", data := .fields #[.ref ax, .int 0 0] }).get? b = some o := fun b o e => Heap.get?_push_of_some _ e
  have hlt := ha.lt F N
  have W := WalksU.listOfTuples (prog := prog) (w := w) hh s.heap.objs.size ax (Nat.ne_of_lt hlt) its Ts vals hit fun j hj => Nat.ne_of_lt ((hta j hj).lt F N)
  have inT : ∀ {b : Addr}, b ∈ s.heap.objs.size :: ax :: (List.range its.size).map Ts → b = s.heap.objs.size ∨ b = ax ∨ ∃ j, j < its.size ∧ b = Ts j := fun {b} hb => by
    rcases List.mem_cons.mp hb with e | hb
    · exact .inl e
    · rcases List.mem_cons.mp hb with e | hb
      · exact .inr (.inl e)
      · obtain ⟨j, hj, e⟩ := List.mem_map.mp hb
        exact .inr (.inr ⟨j, List.mem_range.mp hj, e.symm⟩)
  refine h _ up fun elts k pos => ⟨_, _, _, _, _, rfl, KTurns.ofWalksU W, W.self 0, ?_, ?_, ?_, ?_, ?_, ?_, ⟨⟨_, Heap.get?_push_size _ rfl, rfl, rfl⟩, hl.push _, fun j hj => (htu j hj).at fun o e => up _ o e⟩, F.keeps up, N.grown up⟩
  · intro hm
    rcases inT hm with e | e | ⟨j, hj, e⟩
    · exact Nat.ne_of_lt F.ns.lt e
    · exact ha.ne F N e.symm
    · exact (hta j hj).ne F N e.symm
  · intro b hb hm
    obtain ⟨z0, z1, z2⟩ := hav b hb
    rcases inT hm with e | e | ⟨j, hj, e⟩
    · exact Nat.ne_of_lt z0 e
    · exact z1 e
    · exact z2 j hj e
  · intro b hb; rw [List.mem_singleton.mp hb]; exact fresh_of F (Nat.le_refl _)
  · intro b hb
    show b < (s.heap.push _).objs.size
    rw [Heap.size_push]
    rcases inT hb with rfl | rfl | ⟨j, hj, rfl⟩
    · exact Nat.lt_succ_self _
    · exact Nat.lt_succ_of_lt hlt
    · exact Nat.lt_succ_of_lt ((hta j hj).lt F N)
  · intro i h st b hb; rw [List.mem_singleton.mp hb]; obtain ⟨o, e, _⟩ := st.1; exact ⟨o, e⟩
  · intro p hp hm; exact Nat.ne_of_lt (Heap.lt_size (N p hp).1) (List.mem_singleton.mp hm)
end
end Mine
end
section
open PySem PySem.W PySem.Calls PyProof.Rows PyProof.V PySem.Spec
set_option maxRecDepth 100000
namespace Mine
section
variable {prog : Program} {w : World} {A : Around} {E : Value → Shared → Prop} {s : Shared} {env : Env} {h₀ : Heap} {m : Str → Option Value}
inductive FEN (h₀ : Heap) (L : Addr) (own news₁ : List (Addr × Obj)) (J : (Str → Option Value) → List (Addr × Obj) → Prop) (s s' : Shared) : Prop
  | mk (h' : Heap) (tk : Nat) (m' : Str → Option Value) (news' : List (Addr × Obj)) (e : s' = { s with heap := h', toks := tk }) (F : Fr h₀ L h' m') (N : News h₀ L h' (news' ++ own)) (hn : ∀ p ∈ news', (∃ q ∈ news₁, q.1 = p.1) ∨ ∀ q ∈ news₁ ++ own, q.1 < p.1) (hJ : J m' news') : FEN h₀ L own news₁ J s s'
/-- the end of a for's turn -/
noncomputable def FE (h₀ : Heap) (L : Addr) (own news₁ : List (Addr × Obj)) (J : (Str → Option Value) → List (Addr × Obj) → Prop) (Q : Flow → Shared → Prop) (s : Shared) (f : Flow) (s' : Shared) : Prop := match f with
  | .ret v => Q (.ret v) s'
  | .brk => Q .next s'
  | _ => FEN h₀ L own news₁ J s s'
/-- what stands at a for's iterator -/
inductive ForOk (prog : Program) (w : World) (A : Around) (h₀ : Heap) (env : Env) (target : Expr) (body : List Stmt) (Q : Flow → Shared → Prop) (E : Value → Shared → Prop) (it : Value) (s₂ : Shared) : Prop
  | mk (news : List (Addr × Obj)) (n : Nat) (P : Nat → Value → Heap → Prop) (m₀ : Str → Option Value) (av : List Addr) (src : SrcOk prog w A h₀ env.locals m₀ target it s₂.heap news av n P)
      (J : Nat → (Str → Option Value) → List (Addr × Obj) → Prop) (h0 : J 0 m₀ news)
      (step : ∀ i v m₁ news₁ h tk own, i < n → P i v h → J i m₁ news₁ → (∀ q ∈ own, ∀ b ∈ av, q.1 ≠ b) → Fr h₀ env.locals h m₁ → News h₀ env.locals h (news₁ ++ own) →
        wpAny (model prog w) A (assign target env v) (fun _ s₃ => wpAny (model prog w) A (execs body env) (FE h₀ env.locals own news₁ (J (i + 1)) Q s₂) E s₃) E { s₂ with heap := h, toks := tk })
      (fin : ∀ m' news' h tk, J n m' news' → Fr h₀ env.locals h m' → News h₀ env.locals h news' → Q .next { s₂ with heap := h, toks := tk }) : ForOk prog w A h₀ env target body Q E it s₂
theorem turns_of {target : Expr} {body : List Stmt} {Q : Flow → Shared → Prop} {it : Value} {s₂ : Shared}
    (h : ForOk prog w A h₀ env target body Q E it s₂) :
    TurnsAt prog w A h₀ env target body Q E it s₂ := by
  obtain ⟨news, n, P, m₀, av, ⟨I, fp, wr, Md, St, rfl, W, hself, hLf, hav, hwr, hfp, hal, hnw, hst, F, N⟩, J, h0, step, fin⟩ := h
  refine ⟨I, fp, wr, n, P, Md, St, m₀, news, J, rfl, W, hLf, hwr, hnw, hst, F, N, h0, ?_, fun h' tk m' news' F' N' _ hJ => fin m' news' h' tk hJ F' N'⟩
  intro i v m₁ news₁ h₁ tk₁ own hi hP hJ hnw₁ hof hoe hown hst₂ F₁ N₁
  have N₁' : News h₀ env.locals h₁ (news₁ ++ own) := fun p hp => N₁ p (List.mem_append.mpr (List.mem_append.mp hp).symm)
  have wrown : ∀ b ∈ wr, ∃ o, (b, o) ∈ own := fun b hb => by
    obtain ⟨o, ho⟩ := hal _ _ hst₂ b hb
    exact ⟨o, hown b (W.sub b hb) (hwr b hb) o ho⟩
  refine wpAny_mono (step i v m₁ news₁ h₁ tk₁ own hi hP hJ (fun q hq b hb e => hav b hb (e ▸ hof q hq)) F₁ N₁') (fun _ s₃ h₃ => wpAny_mono h₃ (fun f s₄ h₄ => ?_) fun _ _ e => e) fun _ _ e => e
  cases f with
  | ret v => exact h₄
  | brk => exact h₄
  | next =>
    obtain ⟨h', tk, m', news', rfl, F', N', hh, hJ'⟩ := h₄
    refine ⟨by first | exact .inl rfl | exact .inr rfl | trivial, h', tk, m', news', rfl, F', fun p hp => N' p (List.mem_append.mpr (List.mem_append.mp hp).symm), fun p hp hm => ?_, hJ'⟩
    rcases hh p hp with ⟨q, hq, e⟩ | hq
    · exact hnw₁ q hq (e ▸ hm)
    · obtain ⟨o, ho⟩ := wrown _ hm
      exact Nat.lt_irrefl _ (hq (p.1, o) (List.mem_append_right _ ho))
  | cont =>
    obtain ⟨h', tk, m', news', rfl, F', N', hh, hJ'⟩ := h₄
    refine ⟨by first | exact .inl rfl | exact .inr rfl | trivial, h', tk, m', news', rfl, F', fun p hp => N' p (List.mem_append.mpr (List.mem_append.mp hp).symm), fun p hp hm => ?_, hJ'⟩
    rcases hh p hp with ⟨q, hq, e⟩ | hq
    · exact hnw₁ q hq (e ▸ hm)
    · obtain ⟨o, ho⟩ := wrown _ hm
      exact Nat.lt_irrefl _ (hq (p.1, o) (List.mem_append_right _ ho))
theorem for_J {target iter : Expr} {body : List Stmt} {pos : Pos} {Q : Flow → Shared → Prop} (F₀ : Fr h₀ env.locals s.heap m)
    (h : wpAny (model prog w) A (eval iter env) (fun xv s₁ => wpAny (model prog w) A (pyIter xv) (fun it s₂ => ForOk prog w A h₀ env target body Q E it s₂) E s₁) E s)
    (hs : ∀ x, foldedSetIterable iter env x = pure x := by intro _; rfl)
    (hE : PassesOwn (model prog w) A env E := by passes_own) :
    wpAny (model prog w) A (exec (.For target iter body [] pos) env) Q E s := by
  exact For_turns F₀ (wpAny_mono h (fun xv s₁ h₁ => wpAny_mono h₁ (fun it s₂ h₂ => turns_of h₂) fun _ _ e => e) fun _ _ e => e) hs hE
end
end Mine
end
section
open PySem PySem.W PySem.Calls PyProof.Rows PyProof.V PySem.Spec
set_option maxRecDepth 100000
namespace Mine
noncomputable abbrev Ledger := List (Addr × Obj)
theorem sub_c {α : Type} {a : α} {r l : List α} (h : a ∈ l) (k : ∀ p ∈ r, p ∈ l) : ∀ p ∈ a :: r, p ∈ l := fun p hp => by
  cases hp with
  | head => exact h
  | tail _ hp => exact k p hp
theorem sub_a {α : Type} {a b l : List α} (h : ∀ p ∈ a, p ∈ l) (k : ∀ p ∈ b, p ∈ l) : ∀ p ∈ a ++ b, p ∈ l := fun p hp => (List.mem_append.mp hp).elim (h p) (k p)
theorem sub_n {α : Type} {l : List α} : ∀ p ∈ ([] : List α), p ∈ l := fun _ h => nomatch h
theorem news_of {h₀ h : Heap} {L : Addr} {l l' : Ledger} (N : News h₀ L h l) (hs : ∀ p ∈ l', p ∈ l) : News h₀ L h l' := fun p hp => N p (hs p hp)
/-- a tuple of two ints on the ledger -/
noncomputable abbrev tupObj (vs : Array Value) : Obj := { cls := .type "tuple", data := .seq vs }
noncomputable def TupII (l : Ledger) (v : Value) (d : Int × Int) : Prop := ∃ T t u, v = .ref T ∧ (T, tupObj #[.int d.1 t, .int d.2 u]) ∈ l
theorem TupII.mono {l l' : Ledger} (hs : ∀ p ∈ l, p ∈ l') {v : Value} {d : Int × Int} (x : TupII l v d) : TupII l' v d := by
  obtain ⟨T, t, u, h1, h2⟩ := x
  exact ⟨T, t, u, h1, hs _ h2⟩
theorem paired_mono {α β : Type} {F G : α → β → Prop} (h : ∀ a b, F a b → G a b) {l : List α} {l' : List β} (x : Paired F l l') : Paired G l l' := by
  induction x with
  | nil => exact .nil
  | cons a _ ih => exact .cons (h _ _ a) ih
section
variable {h₀ h : Heap} {L C D : Addr} {oC oD : Obj} {l : Ledger}
theorem av2 (N : News h₀ L h ((C, oC) :: (D, oD) :: l)) : ∀ b ∈ [C, D], b < h.objs.size := fun b hb => by
  rcases List.mem_cons.mp hb with rfl | hb
  · exact Heap.lt_size (N (b, oC) List.mem_cons_self).1
  · rw [List.mem_singleton.mp hb]
    exact Heap.lt_size (N (D, oD) (List.mem_cons_of_mem _ List.mem_cons_self)).1
theorem off1 {own news₁ : Ledger} (hCD : C ≠ D) (off : ∀ p ∈ news₁ ++ own, p.1 ≠ C ∧ p.1 ≠ D) : ∀ p ∈ (D, oD) :: (news₁ ++ own), p.1 ≠ C := fun p hp => by
  rcases List.mem_cons.mp hp with rfl | hp
  · exact Ne.symm hCD
  · exact (off p hp).1
theorem sub_self {news₁ : Ledger} {P : Addr × Obj → Prop} : ∀ p ∈ news₁, p ∈ news₁ ∨ P p := fun _ hp => .inl hp
theorem news_rot {T : Addr} {o : Obj} {news₁ own : Ledger} (N : News h₀ L h ((T, o) :: (C, oC) :: (D, oD) :: (news₁ ++ own))) : News h₀ L h ((C, oC) :: (D, oD) :: (((T, o) :: news₁) ++ own)) := fun p hp => by
  refine N p ?_
  simp only [List.mem_cons, List.cons_append, List.mem_append] at hp ⊢
  rcases hp with h | h | h | h | h <;> simp [h]
theorem newer {T : Addr} {o o1 o2 : Obj} {news₁ l : Ledger} (hh : C < T ∧ D < T ∧ AllLt T l) : ∀ p ∈ (T, o) :: news₁, p ∈ news₁ ∨ ∀ q ∈ (C, o1) :: (D, o2) :: l, q.1 < p.1 := fun p hp => by
  rcases List.mem_cons.mp hp with rfl | hp
  · refine .inr fun q hq => ?_
    rcases List.mem_cons.mp hq with rfl | hq
    · exact hh.1
    · rcases List.mem_cons.mp hq with rfl | hq
      · exact hh.2.1
      · exact ktn_ltOf hh.2.2 q hq
  · exact .inl hp
/-- the ledger of a def's end -/
theorem end_news {T : Addr} {o : Obj} {ex news : Ledger} (N : News h₀ L h ((T, o) :: (ex ++ news))) : News h₀ L h (news ++ ((T, o) :: ex)) := fun p hp => by
  refine N p ?_
  simp only [List.mem_cons, List.mem_append] at hp ⊢
  rcases hp with h | h | h <;> simp [h]
theorem end_ord {T : Addr} {o : Obj} {ex news : Ledger} (h1 : ∀ q ∈ news, q.1 < T) (h2 : ∀ p ∈ ex, ∀ q ∈ news, q.1 < p.1) : ∀ q ∈ news, ∀ p ∈ (T, o) :: ex, q.1 < p.1 := fun q hq p hp => by
  rcases List.mem_cons.mp hp with rfl | hp
  · exact h1 q hq
  · exact h2 p hp q hq
theorem ord_cons {T : Addr} {o : Obj} {ex news own : Ledger} (h1 : AllLt T ((ex ++ news) ++ own)) (h2 : ∀ p ∈ ex, ∀ q ∈ news, q.1 < p.1) : ∀ p ∈ (T, o) :: ex, ∀ q ∈ news, q.1 < p.1 := fun p hp q hq => by
  rcases List.mem_cons.mp hp with rfl | hp
  · exact ktn_ltOf h1 q (List.mem_append_left _ (List.mem_append_right _ hq))
  · exact h2 p hp q hq
end
noncomputable def pairsTo (i : Nat) : List (Int × Int) := (List.range i).flatMap fun (lo : Nat) => (List.range (4 - lo)).map fun (k : Nat) => ((lo : Int), (lo : Int) + 1 + (k : Int))
theorem pairsTo_succ (i : Nat) : pairsTo (i + 1) = pairsTo i ++ (List.range (4 - i)).map fun (k : Nat) => ((i : Int), (i : Int) + 1 + (k : Int)) := by
  unfold pairsTo
  rw [List.range_succ, List.flatMap_append]
  simp
theorem pairsTo_len : ∀ i, i < 6 → (pairsTo i).length ≤ 10 := by decide
section
variable {prog : Program} {w : World} {A : Around} {E : Value → Shared → Prop} {s : Shared} {env : Env} {h₀ : Heap} {L : Addr} {m : Str → Option Value} {l : Ledger}
theorem asgF_name {x : Str} {px : Pos} {v : Value} {Q : Unit → Shared → Prop} (F : Fr h₀ env.locals s.heap m) (N : News h₀ env.locals s.heap l) (hx : env.kindOf x = some .local)
    (hp : (env.scope.kind == .class || (env.scope.kind == .module && env.locals != env.globals)) = false)
    (h : ∀ h' tk m', Fr h₀ env.locals h' m' → News h₀ env.locals h' l → m' x = some v → (∀ y, y ≠ x → m' y = m y) → Q () { s with heap := h', toks := tk }) :
    wpAny (model prog w) A (assign (.Name x px) env v) Q E s := by
  refine wpAny_assign_Name (wpAny_storeName_local hx F.ns (fun h₁ hn₁ hs₁ => ?_) hp)
  refine h h₁ _ _ (F.set hn₁ hs₁) (fun p hp => ?_) (by simp) (fun y hy => by simp [hy])
  have z := N p hp
  exact ⟨hs₁.extBut _ _ z.2.1 z.1, z.2⟩
theorem asgF_pair {T : Addr} {a b : Str} {pa pb tp : Pos} {kk : Nat} {x y : Value} {Q : Unit → Shared → Prop} (hh : A.handled = none) (ht : s.heap.IsTuple T #[x, y])
    (F : Fr h₀ env.locals s.heap m) (N : News h₀ env.locals s.heap l) (ha : env.kindOf a = some .local) (hb : env.kindOf b = some .local)
    (hp : (env.scope.kind == .class || (env.scope.kind == .module && env.locals != env.globals)) = false) (hab : a ≠ b)
    (h : ∀ h' tk m', Fr h₀ env.locals h' m' → News h₀ env.locals h' l → m' a = some x → m' b = some y → (∀ z, z ≠ a → z ≠ b → m' z = m z) → Q () { s with heap := h', toks := tk }) :
    wpAny (model prog w) A (assign (.Tuple [.Name a pa, .Name b pb] kk tp) env (.ref T)) Q E s := by
  refine kcp_assign hh ht ha hb hp F.ns fun h₁ tk hn₁ hk₁ => ?_
  have old : ∀ c o, h₀.get? c = some o → c ≠ env.locals := fun c o e => Nat.ne_of_lt (Nat.lt_of_lt_of_le (Heap.lt_size e) F.above)
  refine h h₁ _ _ ⟨hn₁, fun c o e => hk₁ c o (old c o e) (F.keep c o e), F.above⟩ (fun p hp => ?_) (by simp [hab]) (by simp) (fun z h1 h2 => by simp [h1, h2])
  have z := N p hp
  exact ⟨hk₁ _ _ z.2.1 z.1, z.2⟩
end
noncomputable abbrev IsInt (v : Value) (d : Int) : Prop := ∃ t, v = .int d t
/-- a list of ints on the ledger -/
noncomputable def IntList (l : Ledger) (v : Value) (ds : List Int) : Prop := ∃ a o xs n, v = .ref a ∧ (a, o) ∈ l ∧ o.cls = .type "list" ∧ o.data = .seq (List.toArray xs) n ∧ Paired IsInt xs ds
theorem paired_get {α β : Type} {F : α → β → Prop} {l : List α} {l' : List β} (x : Paired F l l') : ∀ {i : Nat} {a : α}, l[i]? = some a → ∃ b, l'[i]? = some b ∧ F a b := by
  induction x with
  | nil => intro i a h; simp at h
  | cons hab _ ih =>
    intro i a h
    cases i with
    | zero =>
      simp only [List.length_cons, Nat.zero_lt_succ, List.getElem?_cons_zero, Option.some.injEq] at h ⊢
      exact ⟨_, rfl, h ▸ hab⟩
    | succ i =>
      simp only [List.getElem?_cons_succ] at h ⊢
      exact ih h
theorem isTuple_of {h₀ h : Heap} {L a : Addr} {l : Ledger} {vs : Array Value} (N : News h₀ L h l) (hm : (a, tupObj vs) ∈ l) : h.IsTuple a vs := ⟨_, (N _ hm).1, rfl, _, rfl⟩
theorem isList_of {h₀ h : Heap} {L a : Addr} {l : Ledger} {o : Obj} {xs : Array Value} {n : Nat} (N : News h₀ L h l) (hm : (a, o) ∈ l) (hc : o.cls = .type "list") (hd : o.data = .seq xs n) : h.IsList a xs := ⟨o, (N _ hm).1, hc, n, hd⟩
theorem ne_kind {h₀ h : Heap} {L a b : Addr} {l : Ledger} {o o' : Obj} (N : News h₀ L h l) (ha : (a, o) ∈ l) (hb : (b, o') ∈ l) (hc : o.cls ≠ o'.cls) : a ≠ b := fun e => by
  have h1 := (N _ ha).1
  have h2 := (N _ hb).1
  rw [e] at h1
  exact hc (congrArg Obj.cls (Option.some.inj (h1.symm.trans h2)))
end Mine
end
section
open PySem PySem.W PySem.Calls PyProof.Rows PyProof.V PySem.Spec
set_option maxRecDepth 100000
set_option maxHeartbeats 0
namespace Mine
theorem fillK (h : Heap) (w : World) : PySem.Challenge.rw_sn0103_01 = PySem.Challenge.rw_sn0103_01 ∧ (K w.params).In h = (K w.params).In h := by
  k_fill
  exact ⟨rfl, rfl⟩
noncomputable abbrev rwP : Program := PySem.Challenge.rw_sn0103_01.row.prog
noncomputable def cPairs : ToldN Unit where
  Rel := fun _ vs _ => vs = []
  Ok := fun _ => True
  size := fun _ => 2
  Tl := ktnAny
  Out := fun l r _ => ∃ a ys, r = .ref a ∧ (a, LCg.lst ys) ∈ l ∧ Paired (TupII l) ys (pairsTo 5)
theorem rs1 (i : Nat) (hi : i < 5) : Builtin.Range.rangeSize (0 + (i : Int) + 1) 5 1 = ((4 - i : Nat) : Int) :=
  (by decide : ∀ i : Nat, i < 5 → Builtin.Range.rangeSize (0 + (i : Int) + 1) 5 1 = ((4 - i : Nat) : Int)) i hi
theorem rs2 (i : Nat) (hi : i < 5) : Builtin.Range.small (0 + (i : Int) + 1) 5 1 = true :=
  (by decide : ∀ i : Nat, i < 5 → Builtin.Range.small (0 + (i : Int) + 1) 5 1 = true) i hi
theorem pairs_tells (w : World) (mean : ExcName → Option Value) (mg mb : Str → Option Value) : ∀ d, TellsN rwP w (K w.params) qV (looseW qV looseV) mean mg mb 262 cPairs d := by
  intro d
  unfold TellsN
  intro dp un gd cn cs a ccd cl outer A₀ base h₀ L m news s vs Q E B F X N T hk hR hok hd hu hret
  have hR : vs = [] := hR
  subst hR
  refine wpAny_call ?_
  k_dflt ktr_enter
  k_steps
  refine listComp2 (by k_asm) (by rfl) (by rfl) (by decide) (by decide) ?_
  k_steps
  refine src_range (by rfl) (by k_asm) (by k_asm) (by assumption) (by decide) (n := 5) (by decide) (av := []) (fun _ h => nomatch h) ?_
  intro h1 k1 S1
  refine ⟨_, _, _, S1 _ _, fun i ys l => ∃ ex, l = ex ++ news ∧ (∀ p ∈ ex, ∀ q ∈ news, q.1 < p.1) ∧ Paired (TupII ex) ys (pairsTo i), ⟨[], rfl, (fun _ h => nomatch h), .nil⟩, ?_, ?_⟩
  · intro i v ys news₁ C oC mC D h tk own E' hi hP hJ F1 N1 hC hCD off
    obtain ⟨t, rfl⟩ := hP
    obtain ⟨ex, rfl, hJ0, hJ⟩ := hJ
    refine asg_name F1 N1 hC (off1 hCD off) (by rfl) (by rfl) (by rfl) ?_
    intro h' tk' oC' mC' F2 N2 hC2 hx hy
    k_steps
    refine src_range (by rfl) (by k_asm) (by k_asm) (by assumption) (rs2 i hi) (n := 4 - i) (rs1 i hi) (av := [C, D]) ?_ ?_
    · exact av2 (by assumption)
    intro h2 k2 S2
    refine ⟨_, _, ex ++ news, _, _, hC2, ⟨_, _, rfl⟩, sub_self, S2 _ _, fun j mC ys l => mC (Str.ofString "low") = some (.int (0 + (i : Int)) t) ∧ ∃ ex, l = ex ++ news ∧ (∀ p ∈ ex, ∀ q ∈ news, q.1 < p.1) ∧ Paired (TupII ex) ys (pairsTo i ++ (List.range j).map fun (k : Nat) => ((i : Int), (i : Int) + 1 + (k : Int))), ⟨hx, ex, rfl, hJ0, by simpa using hJ⟩, ?_, ?_, ?_⟩
    · rintro j mC ys news hj ⟨_, _, _, _, hp⟩
      rw [hp.length, List.length_append, List.length_map, List.length_range]
      have := pairsTo_len i (by omega)
      exact Nat.le_trans (show _ ≤ 14 by omega) (by decide)
    · intro j v₂ ys₂ news₃ oC₃ mC₃ h₃ tk₃ own₂ E'' hj hP2 hJ2 F3 N3 hC3 off3
      obtain ⟨t2, rfl⟩ := hP2
      obtain ⟨hlow, ex, rfl, hJ20, hJ2⟩ := hJ2
      refine asg_name F3 N3 hC3 (off1 hCD off3) (by rfl) (by rfl) (by rfl) ?_
      intro h4 tk4 oC4 mC4 F4 N4 hC4 hx4 hy4
      have hlow4 : mC4 (Str.ofString "low") = some (.int (0 + (i : Int)) t) := (hy4 _ (by decide)).trans hlow
      k_steps
      rename_i l1
      refine ⟨_, _, oC4, mC4, _ :: (ex ++ news), rfl, by assumption, news_rot (by assumption), hC4, newer l1, hlow4, _ :: ex, rfl, ord_cons l1.2.2 hJ20, ?_⟩
      rw [List.range_succ, List.map_append, ← List.append_assoc]
      refine Paired.snoc (paired_mono (fun _ _ x => x.mono fun _ h => List.mem_cons_of_mem _ h) hJ2) ⟨_, t, t2, rfl, ?_⟩
      simp
    · rintro mC ys' news' ⟨_, ex, h4, h5, h6⟩
      exact ⟨ex, h4, h5, by rw [pairsTo_succ]; exact h6⟩
  · rintro ys news' D h tk ⟨ex, rfl, hJ0, hJ⟩ F1 N1 off hlt
    k_steps
    exact hret _ ((D, LCg.lst ys) :: ex) _ _ (by assumption) (end_news (by assumption)) (end_ord hlt hJ0) trivial ⟨D, ys, rfl, by simp, paired_mono (fun _ _ x => x.mono fun _ h => by simp [h]) hJ⟩
end Mine
end
section
open PySem PySem.W PySem.Calls PyProof.Rows PyProof.V PySem.Spec
set_option maxRecDepth 100000
namespace Mine
section
variable {prog : Program} {w : World} {A : Around} {E : Value → Shared → Prop} {s : Shared} {h₀ : Heap} {L : Addr} {m : Str → Option Value} {news : Ledger}
theorem fe_one {own rest R l6 : Ledger} {S0 : Addr} {o o0 : Obj} {m2 : Str → Option Value} {J : (Str → Option Value) → Ledger → Prop} {Q : Flow → Shared → Prop} {h6 : Heap} {tk : Nat}
    (hR : R = rest ++ own) (F : Fr h₀ L h6 m2) (N : News h₀ L h6 l6) (hm : (S0, o) ∈ l6) (hs : ∀ p ∈ R, p ∈ l6) (hJ : J m2 ((S0, o) :: rest)) :
    FE h₀ L own ((S0, o0) :: rest) J Q s .next { s with heap := h6, toks := tk } := by
  refine ⟨h6, tk, m2, (S0, o) :: rest, rfl, F, fun p hp => N p ?_, fun p hp => .inl ?_, hJ⟩
  · rcases List.mem_cons.mp hp with rfl | hp
    · exact hm
    · exact hs p (hR ▸ hp)
  · rcases List.mem_cons.mp hp with rfl | hp
    · exact ⟨_, List.mem_cons_self, rfl⟩
    · exact ⟨p, List.mem_cons_of_mem _ hp, rfl⟩
theorem news_swap {h : Heap} {p q : Addr × Obj} {l : Ledger} (N : News h₀ L h (p :: q :: l)) : News h₀ L h (q :: p :: l) := fun x hx => N x (by
  simp only [List.mem_cons] at hx ⊢
  rcases hx with h | h | h <;> simp [h])
theorem tell_one {D : Addr} {o : Obj} {l5 : Ledger} {h : Heap} (N : News h₀ L h ((D, o) :: l5)) (hs : ∀ p ∈ news, p ∈ l5) : News h₀ L h (news ++ [(D, o)]) := fun p hp => by
  rcases List.mem_append.mp hp with hp | hp
  · exact N p (List.mem_cons_of_mem _ (hs p hp))
  · rw [List.mem_singleton.mp hp]; exact N _ List.mem_cons_self
theorem ord_one {D : Addr} {o : Obj} (hs : ∀ p ∈ news, p.1 < D) : ∀ q ∈ news, ∀ p ∈ [(D, o)], q.1 < p.1 := fun q hq p hp => by
  rw [List.mem_singleton.mp hp]; exact hs q hq
theorem extend_at {D b : Addr} {its its2 : Array Value} {n n2 : Nat} {Q : Value → Shared → Prop} (hD : s.heap.get? D = some (W.listOf its n)) (hb : s.heap.get? b = some (W.listOf its2 n2)) (hsz : its.size + its2.size ≤ 100000)
    (h : ∀ h' n', Heap.SameBut D s.heap h' → h'.get? D = some (W.listOf (its ++ its2) n') → Q .none { s with heap := h' }) :
    wpAny (model prog w) A (call (.builtin "list.extend") [.ref D, .ref b]) Q E s := by
  have hz : its.size ≤ sizeLine := Nat.le_trans (Nat.le_trans (Nat.le_add_right _ _) hsz) (by decide)
  refine call_meets F.slot_list_extend ⟨_, hD, rfl⟩ F.entry_list_extend (F.args_list_extend_2 _ _) (AutoSeq1.list_extend_list_list_0 D its n b its2 n2 ?_ hz (Nat.le_trans hsz (by decide))) ⟨hD, hb, ?_⟩
  · intro e
    have := (Bool.and_eq_true_iff.mp e).2
    unfold Builtin.List.listTooLong at this
    have h2 : (100000 : Nat) ≤ sizeLine := by decide
    simp at this
    omega
  · exact h _ _ (Heap.SameBut.update ..) (Heap.get?_update_self _ hD rfl)
theorem extend_L {D b : Addr} {its its2 : Array Value} {n n2 : Nat} {news' : Nat → Ledger} {Q : Value → Shared → Prop} (F : Fr h₀ L s.heap m) (N : News h₀ L s.heap news) (hb : (b, W.listOf its2 n2) ∈ news)
    (U : ∀ n', Upd D (W.listOf its n) (W.listOf (its ++ its2) n') news (news' n')) (hsz : its.size + its2.size ≤ 100000)
    (h : ∀ h' n', Fr h₀ L h' m → News h₀ L h' (news' n') → Q .none { s with heap := h' }) :
    wpAny (model prog w) A (call (.builtin "list.extend") [.ref D, .ref b]) Q E s := by
  have z : (D, W.listOf its n) ∈ news := by
    obtain ⟨pre, post, e, _⟩ := (U 0).split
    rw [e]; simp
  refine extend_at (N _ z).1 (N _ hb).1 hsz fun h' n' hs hD' => ?_
  obtain ⟨pre, post, e1, e2, a, c⟩ := (U n').split
  refine h h' n' (F.change hs (N _ z).2.1 (N _ z).2.2) ?_
  rw [e2]
  rw [e1] at N
  exact news_set N a c hs hD'
end
end Mine
end
section
open PySem PySem.W PySem.Calls PyProof.Rows PyProof.V PySem.Spec
set_option maxRecDepth 100000
set_option maxHeartbeats 0
namespace Mine
noncomputable def dueF : List Int → List (Int × Int) → List Int
  | d :: ds, p :: ps => (256 + p.1) :: (7 + d % 48) :: (256 + p.2) :: dueF ds ps
  | _, _ => []
noncomputable def cDue : ToldN (List Int) where
  Rel := fun l vs ds => ∃ v, vs = [v] ∧ IntList l v ds
  Ok := fun ds => ds.length = 10
  size := fun _ => 4
  Tl := ktnAny
  Out := fun l r ds => IntList l r (dueF ds (pairsTo 5) ++ [0])
theorem fillK2 (h : Heap) (w : World) : PySem.Challenge.rw_sn0103_01 = PySem.Challenge.rw_sn0103_01 ∧ (K w.params).In h = (K w.params).In h := by
  k_fill
  exact ⟨rfl, rfl⟩
local macro_rules | `(tactic| walk_at $s:str) => `(tactic| k_extra $s)
local macro_rules | `(tactic| k_all) => `(tactic| assumption)
theorem dueF_take (ds : List Int) (ps : List (Int × Int)) : ∀ (i : Nat) (d : Int) (p : Int × Int), ds[i]? = some d → ps[i]? = some p → dueF (ds.take (i + 1)) (ps.take (i + 1)) = dueF (ds.take i) (ps.take i) ++ [256 + p.1, 7 + d % 48, 256 + p.2] := by
  induction ds generalizing ps with
  | nil => intro i d p h; simp at h
  | cons d ds ih =>
    intro i d' p hd hp
    cases ps with
    | nil => simp at hp
    | cons q ps =>
      cases i with
      | zero =>
        simp only [List.getElem?_cons_zero, Option.some.injEq] at hd hp
        subst hd hp
        simp [dueF]
      | succ i =>
        simp only [List.getElem?_cons_succ] at hd hp
        have := ih ps i d' p hd hp
        simp only [List.take_succ_cons, dueF, this]
        rfl
theorem cons_of {α : Type} {l : List α} {n : Nat} (h : l.length = n + 1) : ∃ a r, l = a :: r ∧ r.length = n := by
  cases l with
  | nil => cases h
  | cons a r => exact ⟨a, r, rfl, Nat.succ.inj h⟩
theorem dueF_full : ∀ (ds : List Int) (ps : List (Int × Int)), ds.length = ps.length → (dueF ds ps).length = 3 * ps.length
  | [], [], _ => rfl
  | [], _ :: _, h => nomatch h
  | _ :: _, [], h => nomatch h
  | _ :: ds, _ :: ps, h => by
    have e := dueF_full ds ps (Nat.succ.inj h)
    show (dueF ds ps).length + 1 + 1 + 1 = 3 * (ps.length + 1)
    rw [e]
    exact (Nat.mul_succ 3 _).symm
theorem dueF_len : ∀ (ds : List Int) (ps : List (Int × Int)) (i : Nat), (dueF (ds.take i) (ps.take i)).length ≤ 3 * i
  | [], _, i => by simp [dueF]
  | _ :: _, [], i => by simp; cases i <;> simp [dueF]
  | d :: ds, p :: ps, 0 => by simp [dueF]
  | d :: ds, p :: ps, i + 1 => by
    have := dueF_len ds ps i
    simp [dueF]
    omega
theorem paired_app {α β : Type} {F : α → β → Prop} {a : List α} {b : List β} {c : List α} {d : List β} (x : Paired F a b) (y : Paired F c d) : Paired F (a ++ c) (b ++ d) := by
  induction x with
  | nil => exact y
  | cons h _ ih => exact .cons h ih
theorem due_tells (w : World) (mean : ExcName → Option Value) (mg mb : Str → Option Value) : ∀ d, TellsN rwP w (K w.params) qV (looseW qV looseV) mean mg mb 288 cDue d := by
  k_with_none
  k_with "call ref" => (k_here; (with_reducible show wpAny _ _ (call (Value.ref 262) _) _ _ _); k_dflt (refine' tellsN_use ?k1 ?k2 ?k3 ?k4 ?k5 ?kK ?kR (pairs_tells _ _ _ _ ()) ?ko ?kd ?ku ?_; (case k1 => k_asm); (case k2 => k_asm); (case k3 => k_asm); (case k4 => k_asm); (case k5 => k_asm); (case kK => first | exact rfl | assumption); (case kR => exact rfl); (case ko => exact trivial); (case kd => (change _ + 2 < _; ktr_room)); (case ku => (change _ + 8 * 2 < _; ktr_units))); intro _ _ _ _ _ _ _ _ _)
  k_with "eval Name" => ((with_reducible show wpAny _ _ (eval (Expr.Name _ _) (envOf _ _ _ _ _)) _ _ _); (with_unfolding_all refine ld (by assumption) (by assumption) ?_))
  k_with "call builtin:list.extend" => (k_here; k_dflt (refine' extend_L ?k1 ?k2 ?k3 (fun n' => ?k4) ?k5 ?_; (case k1 => k_asm); (case k2 => k_asm); (case k3 => k_mem); (case k4 => k_upd); (case k5 => (simp; omega)); k_whole); intro _ _ _ _)
  k_with "binaryOp Add ref ref" => (k_here; k_dflt (refine' add_arrays ?k1 ?k2 ?k3 ?k4 ?_ ?z; (case k1 => k_asm); (case k2 => k_asm); (case k3 => exact isList_of (by k_asm) (by k_mem) rfl rfl); (case k4 => exact isList_of (by k_asm) (by k_mem) rfl rfl); (case z => first | size_fits | exact Nat.le_trans (show _ ≤ 100000 by (simp; omega)) (by decide)); k_whole); intro _ _ _)
  k_with "exec For Tuple Call" => (k_here; k_dflt (refine for_J (by k_asm) ?_))
  intro d
  unfold TellsN
  intro dp un gd cn cs a ccd cl outer A₀ base h₀ L m news s vs Q E B F X N T hk hR hok hd hu hret
  obtain ⟨v, hR, av, ov, xs, nv, rfl, hv1, hv2, hv3, hv4⟩ := hR
  subst hR
  have hd : dp + 4 < recursionLimit := hd
  have hu : un + 8 * 4 < cLine := hu
  refine wpAny_call ?_
  k_dflt ktr_enter
  k_steps
  rename_i S0 _ l1 _ _ _ r9 tl9 h9 tk9 F9 N9 hl9 ht9 ho9
  obtain ⟨av2, ys, rfl, hp1, hp2⟩ := ho9
  have hS2 : S0 ≠ av2 := by
    rintro rfl
    have e := Option.some.inj ((N9 _ hp1).1.symm.trans (N9 (S0, W.listOf #[] 0) (by simp)).1)
    have h1 := hp2.length
    have h2 : ys.toArray = #[] := by
      have := congrArg Obj.data e
      simp only [Data.seq.injEq] at this
      exact this.1
    have h3 : ys = [] := by simpa using h2
    rw [h3] at h1
    exact absurd h1 (by decide)
  refine src_zip (by rfl) F9 N9 (l1 := av) (l2 := av2) (xs := xs.toArray) (ys := ys.toArray) ?_ ?_ ?_ ?_ (av := [S0]) ?_ ?_
  · exact isList_of N9 (by simp [hv1]) hv2 hv3
  · exact isList_of N9 hp1 rfl rfl
  · exact .inr ⟨ov, by simp [hv1]⟩
  · exact .inr ⟨_, hp1⟩
  · intro b hb
    rw [List.mem_singleton.mp hb]
    exact ⟨Heap.lt_size (N9 (S0, W.listOf #[] 0) (by simp)).1, Nat.ne_of_gt (l1 _ hv1), hS2⟩
  intro I h1 k1 S1
  refine ⟨_, _, _, _, _, S1 _ _ _, fun i m₁ l => m₁ (Str.ofString "symbols") = some (.ref S0) ∧ ∃ its n, l = (S0, W.listOf its n) :: (news ++ tl9) ∧ Paired IsInt its.toList (dueF (d.take i) ((pairsTo 5).take i)), ⟨by with_unfolding_all rfl, #[], 0, rfl, by simpa [dueF] using .nil⟩, ?_, ?_⟩
  · rintro i v m₁ news₁ h tk own hi ⟨T, vals, rfl, ⟨x, y, hx, hy, rfl⟩, hT⟩ ⟨hJ1, its, n, rfl, hJ2⟩ hown F1 N1
    refine asgF_pair (by rfl) hT F1 N1 (by rfl) (by rfl) (by rfl) (by decide) ?_
    intro h2 tk2 m2 F2 N2 hx2 hy2 hz2
    obtain ⟨dx, hdx, tx, rfl⟩ := paired_get hv4 (by simpa using hx)
    obtain ⟨py, hpy, T2, t2, u2, rfl, hT2⟩ := paired_get hp2 (by simpa using hy)
    have hs2 := (hz2 (Str.ofString "symbols") (by decide) (by decide)).trans hJ1
    obtain ⟨R, hRd⟩ : ∃ R, R = (news ++ tl9) ++ own := ⟨_, rfl⟩
    have hRS : ∀ p ∈ R, p.1 ≠ S0 := fun p hp => by
      rw [hRd] at hp
      rcases List.mem_append.mp hp with hp | hp
      · rcases List.mem_append.mp hp with hp | hp
        · exact Nat.ne_of_lt (l1 p hp)
        · exact Nat.ne_of_gt (hl9 (S0, W.listOf #[] 0) (by simp) p hp)
      · exact hown p hp S0 (by simp)
    have hT2' : (T2, tupObj #[Value.int py.fst t2, Value.int py.snd u2]) ∈ R := by
      rw [hRd]
      rcases List.mem_cons.mp (show _ ∈ (S0, W.listOf #[] 0) :: (news ++ tl9) from hT2) with e | e2
      · exact absurd (congrArg (fun p => p.2.cls) e) (by simp)
      · exact List.mem_append_left _ e2
    have hTS : T2 ≠ S0 := hRS _ hT2'
    have N3 : News _ _ h2 ((T2, tupObj #[Value.int py.fst t2, Value.int py.snd u2]) :: (S0, W.listOf its n) :: R) := fun p hp => N2 p (by
      rcases List.mem_cons.mp hp with rfl | hp
      · rw [hRd] at hT2'
        exact List.mem_cons_of_mem _ hT2'
      · rw [hRd] at hp
        exact hp)
    clear N2 N1
    have hsz : its.size ≤ 30 := by
      have h1 := hJ2.length
      have h2 := dueF_len d (pairsTo 5) i
      simp at h1
      have h3 : i < 10 := Nat.lt_of_lt_of_le hi (Nat.le_trans (Nat.min_le_right _ _) (by simp [hp2.length]; decide))
      omega
    k_steps
    rename_i l5 h5 F5 N5 o5 h6 n6 F6 N6
    refine fe_one hRd (by assumption) N6 (by k_mem) (fun p hp => by simp [hp]) ⟨hs2, _, _, rfl, ?_⟩
    rw [dueF_take d (pairsTo 5) i dx py hdx hpy, Array.toList_append]
    exact paired_app hJ2 (.cons ⟨_, rfl⟩ (.cons ⟨_, by rw [Int.fmod_eq_emod_of_nonneg _ (by decide)]⟩ (.cons ⟨_, rfl⟩ .nil)))
  · rintro m₁ news' h tk ⟨hJ1, its, n, rfl, hJ2⟩ F1 N1
    have hx10 : xs.length = 10 := hv4.length.trans hok
    have hy10 : ys.length = 10 := hp2.length.trans (by decide)
    have hmin : min xs.toArray.size ys.toArray.size = 10 := by simp [hx10, hy10]
    rw [hmin, List.take_of_length_le (Nat.le_of_eq hok), List.take_of_length_le (by decide)] at hJ2
    have hsz : its.size ≤ 30 := by
      have h1 := hJ2.length
      have h2 := dueF_len d (pairsTo 5) 10
      rw [List.take_of_length_le (Nat.le_of_eq hok), List.take_of_length_le (by decide)] at h2
      simp at h1
      omega
    k_steps
    rename_i l5 h5 F5 N5 o5 h6 F6 N6 kF kN _ _
    refine hret _ _ _ _ kF (tell_one kN (fun p hp => by simp [hp])) (ord_one fun p hp => Heap.lt_size (N5 p (by simp [hp])).1) trivial ⟨_, _, its.toList ++ _, 0, rfl, List.mem_append_right _ List.mem_cons_self, rfl, rfl, paired_app hJ2 (.cons ⟨_, rfl⟩ .nil)⟩
end Mine
end
section
open PySem PySem.W PySem.Calls PyProof.Rows PyProof.V PySem.Spec
set_option maxRecDepth 100000
set_option maxHeartbeats 0
namespace Mine
theorem fillKb (h : Heap) (w : World) : PySem.Challenge.rw_sn0103_01 = PySem.Challenge.rw_sn0103_01 ∧ (K w.params).In h = (K w.params).In h := by
  k_fill
  exact ⟨rfl, rfl⟩
noncomputable def spelledF (p d : Int) : Str := if d < 2 then Txt.item (Str.ofString "abcdeABCDE") (p + 5 * d) else { cps := #[(120068 + 52 * d + p).toNat] }
noncomputable def cSpelled : ToldN (Int × Int) where
  Rel := fun _ vs d => ∃ t u, vs = [.int d.1 t, .int d.2 u]
  Ok := fun d => 0 ≤ d.1 ∧ d.1 < 5 ∧ 0 ≤ d.2 ∧ d.2 < 8
  size := fun _ => 2
  Tl := fun tl => tl = []
  Out := fun _ r d => ∃ t, r = .str (spelledF d.1 d.2) t
theorem spelled_tells (w : World) (mean : ExcName → Option Value) (mg mb : Str → Option Value) : ∀ d, TellsN rwP w (K w.params) qV (looseW qV looseV) mean mg mb 269 cSpelled d := by
  intro ⟨p, d⟩
  unfold TellsN
  intro dp un gd cn cs a ccd cl outer A₀ base h₀ L m news s vs Q E B F X N T hk hR hok hd hu hret
  obtain ⟨t, u, hR⟩ := hR
  dsimp only at hR
  subst hR
  obtain ⟨h1, h2, h3, h4⟩ := hok
  dsimp only at h1 h2 h3 h4
  refine wpAny_call ?_
  k_dflt ktr_enter
  k_steps
  all_goals (refine hret _ [] _ _ (by assumption) (ktn_tl0 (by assumption)) ktn_ord0 rfl ⟨_, congrArg (Value.str · _) ?_⟩; unfold spelledF; split <;> first | rfl | omega)
section
variable {w : World} {mean : ExcName → Option Value} {mg mb : Str → Option Value} {dp un : Nat} {gd : Option (List Code)} {cn : Str} {cs : Scope} {a : Addr} {ccd : Value} {cl : List (Str × Addr)} {outer : List Env} {A₀ : Around} {base h₀ : Heap} {L : Addr} {m : Str → Option Value} {news : List (Addr × Obj)} {s : Shared} {Q E : Value → Shared → Prop}
theorem spelled_call {p d : Int} {t u : Tok} (B : Below A₀ base outer h₀) (F : Fr h₀ L s.heap m) (X : (K w.params).In h₀) (N : News h₀ L s.heap news) (T : Top qV (looseW qV looseV) mean mg mb h₀) (hk : cs.kind = .function)
    (h1 : 0 ≤ p) (h2 : p < 5) (h3 : 0 ≤ d) (h4 : d < 8) (hd : dp + 2 < recursionLimit) (hu : un + 8 * 2 < cLine)
    (ret : ∀ t' h' tk', Fr h₀ L h' m → News h₀ L h' news → Q (.str (spelledF p d) t') { s with heap := h', toks := tk' }) :
    wpAny (model rwP w) (ktrTop dp un gd cn cs L a ccd cl outer) (call (.ref 269) [.int p t, .int d u]) Q E s := by
  refine tellsN_use (c := cSpelled) (d := (p, d)) B F X N T hk ⟨t, u, rfl⟩ (spelled_tells w mean mg mb (p, d)) ⟨h1, h2, h3, h4⟩ hd hu fun r tl h' tk' F' N' _ ht ho => ?_
  obtain ⟨t', rfl⟩ := ho
  have ht : tl = [] := ht
  subst ht
  rw [List.append_nil] at N'
  exact ret t' h' tk' F' N'
end
end Mine
end
section
open PySem PySem.W PySem.Calls PyProof.Rows PyProof.V PySem.Spec
set_option maxRecDepth 100000
set_option maxHeartbeats 0
namespace Mine
theorem fillKe (h : Heap) (w : World) : PySem.Challenge.rw_sn0103_01 = PySem.Challenge.rw_sn0103_01 ∧ (K w.params).In h = (K w.params).In h := by
  k_fill
  exact ⟨rfl, rfl⟩
noncomputable def signsT : List String := ["(", ")", "[", "]", ":", ",", ";", "+", "-", "*", "/", "|", "&", "<", ">", "=", ".", "%", "{", "}", "==", "!=", "<=", ">=", "~", "^", "<<", ">>", "**", "+=", "-=", "*=", "/=", "%=", "&=", "|=", "^=", "<<=", ">>=", "**=", "//", "//=", "@", "@=", "->", "...", ":=", "!"]
noncomputable def signF (d : Int) : Str := Str.ofString ((signsT[(d % 48).toNat]?).getD "")
noncomputable def pieceF (d : Int) (p : Int × Int) : Str := spelledF p.1 (d / 48 % 8) ++ signF d ++ spelledF p.2 (d / 384 % 8)
noncomputable def reportF : List Int → List (Int × Int) → Str
  | d :: ds, p :: ps => pieceF d p ++ reportF ds ps
  | _, _ => Str.ofString ""
noncomputable def cReport : ToldN (List Int) where
  Rel := fun l vs ds => ∃ v, vs = [v] ∧ IntList l v ds
  Ok := fun ds => ds.length = 10
  size := fun _ => 4
  Tl := fun tl => tl = []
  Out := fun _ r ds => ∃ t, r = .str (reportF ds (pairsTo 5)) t
theorem fm8 (x : Int) : 0 ≤ x.fmod 8 ∧ x.fmod 8 < 8 := by
  rw [Int.fmod_eq_emod_of_nonneg _ (by decide)]
  omega
theorem fm48 (x : Int) : 0 ≤ x.fmod 48 ∧ x.fmod 48 < 48 := by
  rw [Int.fmod_eq_emod_of_nonneg _ (by decide)]
  omega
local macro_rules | `(tactic| walk_at $s:str) => `(tactic| k_extra $s)
local macro_rules | `(tactic| k_all) => `(tactic| assumption)
theorem sign_item {prog : Program} {w : World} {A : Around} {E : Value → Shared → Prop} {s : Shared} {h₀ : Heap} {L S0 : Addr} {m : Str → Option Value} {l : Ledger} {value slice : Expr} {k : Int} {u : Tok} {sl : List (Str × Tok)} {Q : Value → Shared → Prop}
    (F : Fr h₀ L s.heap m) (N : News h₀ L s.heap l) (hm : (S0, W.listOf (strValues sl).toArray 0) ∈ l) (hk : 0 ≤ k ∧ k < 48) (hs : sl.map (·.1) = signsT.map Str.ofString)
    (h : ∀ t, Q (.str (Str.ofString ((signsT[k.toNat]?).getD "")) t) s)
    (hs' : subscripted slice false (.ref S0) (.int k u) = operate [.ref S0, .int k u] (getItem (.ref S0) (.int k u)) := by with_unfolding_all rfl) :
    wpAny (model prog w) A (subscriptTail value slice (.ref S0) (.int k u)) Q E s := by
  have hl := isList_of N hm rfl rfl
  have hlen : sl.length = 48 := by
    have h0 := congrArg List.length hs
    rw [List.length_map, List.length_map] at h0
    exact h0
  have hlt : k.toNat < sl.length := by rw [hlen]; omega
  have hx : sl[k.toNat]? = some sl[k.toNat] := List.getElem?_eq_getElem hlt
  have hw : (sl[k.toNat]).1 = Str.ofString ((signsT[k.toNat]?).getD "") := by
    have h1 := congrArg (fun l => l[k.toNat]?) hs
    simp only [List.getElem?_map, hx, Option.map_some] at h1
    cases h2 : signsT[k.toNat]? with
    | none => rw [h2] at h1; cases h1
    | some y => rw [h2] at h1; exact Option.some.inj h1
  refine tail_any hl.typeIs slot_list_getitem.lookup (wpAny_getItem_list hl hk.1 (by omega) (x := .str (sl[k.toNat]).1 (sl[k.toNat]).2) ?_ ?_) hs'
  · simp [strValues, hx]
  · rw [hw]; exact h _
theorem reportF_take (ds : List Int) (ps : List (Int × Int)) : ∀ (i : Nat) (d : Int) (p : Int × Int), ds[i]? = some d → ps[i]? = some p → reportF (ds.take (i + 1)) (ps.take (i + 1)) = reportF (ds.take i) (ps.take i) ++ pieceF d p := by
  induction ds generalizing ps with
  | nil => intro i d p h; simp at h
  | cons d ds ih =>
    intro i d' p hd hp
    cases ps with
    | nil => simp at hp
    | cons q ps =>
      cases i with
      | zero =>
        simp only [List.getElem?_cons_zero, Option.some.injEq] at hd hp
        subst hd hp
        simp only [List.take_succ_cons, List.take_zero, reportF]
        rw [show pieceF d q ++ Str.ofString "" = pieceF d q from Str.append_empty _]
        exact (Str.empty_append _).symm
      | succ i =>
        simp only [List.getElem?_cons_succ] at hd hp
        have := ih ps i d' p hd hp
        simp only [List.take_succ_cons, reportF, this]
        exact (Str.append_assoc _ _ _).symm
theorem spelled_len (p d : Int) : (spelledF p d).length ≤ 1 := by
  unfold spelledF
  split
  · exact Nat.le_of_eq rfl
  · exact Nat.le_refl _
theorem sign_len (k : Nat) : (Str.ofString ((signsT[k]?).getD "")).length ≤ 3 := by
  by_cases h : k < 48
  · revert k
    decide +kernel
  · rw [List.getElem?_eq_none (by show 48 ≤ k; omega)]
    decide +kernel
theorem piece_len (d : Int) (p : Int × Int) : (pieceF d p).length ≤ 5 := by
  unfold pieceF signF
  rw [Str.length_append, Str.length_append]
  have h1 := spelled_len p.1 (d / 48 % 8)
  have h2 := spelled_len p.2 (d / 384 % 8)
  have h3 := sign_len (d % 48).toNat
  omega
theorem reportF_len : ∀ (ds : List Int) (ps : List (Int × Int)) (i : Nat), (reportF (ds.take i) (ps.take i)).length ≤ 5 * i
  | [], _, i => by simp only [List.take_nil, reportF]; exact Nat.zero_le _
  | _ :: _, [], i => by cases i <;> (simp only [List.take_nil, List.take_succ_cons, List.take_zero, reportF]; exact Nat.zero_le _)
  | d :: ds, p :: ps, 0 => Nat.zero_le _
  | d :: ds, p :: ps, i + 1 => by
    have h1 := reportF_len ds ps i
    have h2 := piece_len d p
    simp only [List.take_succ_cons, reportF, Str.length_append]
    omega
theorem pairs_ok : ∀ p ∈ pairsTo 5, 0 ≤ p.1 ∧ p.1 < 5 ∧ 0 ≤ p.2 ∧ p.2 < 5 := by decide +kernel
theorem report_tells (w : World) (mean : ExcName → Option Value) (mg mb : Str → Option Value) : ∀ d, TellsN rwP w (K w.params) qV (looseW qV looseV) mean mg mb 276 cReport d := by
  k_with_none
  k_with "call ref" => (k_here; (with_reducible show wpAny _ _ (call (Value.ref 262) _) _ _ _); k_dflt (refine' tellsN_use ?k1 ?k2 ?k3 ?k4 ?k5 ?kK ?kR (pairs_tells _ _ _ _ ()) ?ko ?kd ?ku ?_; (case k1 => k_asm); (case k2 => k_asm); (case k3 => k_asm); (case k4 => k_asm); (case k5 => k_asm); (case kK => first | exact rfl | assumption); (case kR => exact rfl); (case ko => exact trivial); (case kd => (change _ + 2 < _; ktr_room)); (case ku => (change _ + 8 * 2 < _; ktr_units))); intro _ _ _ _ _ _ _ _ _)
  k_with "call ref" => (k_here; (with_reducible show wpAny _ _ (call (Value.ref 269) _) _ _ _); k_dflt (refine' spelled_call ?k1 ?k2 ?k3 ?k4 ?k5 ?kK ?h1 ?h2 ?h3 ?h4 ?kd ?ku ?_; (case k1 => k_asm); (case k2 => k_asm); (case k3 => k_asm); (case k4 => k_asm); (case k5 => k_asm); (case kK => first | exact rfl | assumption); (case h1 => assumption); (case h2 => assumption); (case h3 => exact (fm8 _).1); (case h4 => exact (fm8 _).2); (case kd => ktr_room); (case ku => ktr_units)); intro _ _ _ _ _)
  k_with "eval Name" => ((with_reducible show wpAny _ _ (eval (Expr.Name _ _) (envOf _ _ _ _ _)) _ _ _); (with_unfolding_all refine ld (by assumption) (by assumption) ?_))
  k_with "loadName" => (with_unfolding_all refine ldn (by assumption) (by assumption) ?_)
  k_with "subscriptTail" => (k_here; (with_reducible show wpAny _ _ (subscriptTail _ _ (Value.ref _) (Value.int (Int.fmod _ 48) _)) _ _ _); k_dflt (refine' sign_item ?k1 ?k2 ?k3 ?k4 ?k5 ?_; (case k1 => k_asm); (case k2 => k_asm); (case k3 => k_mem); (case k4 => exact fm48 _); (case k5 => assumption); k_whole); intro _)
  k_with "binaryOp Add str str" => (k_here; (with_reducible show wpAny _ _ (binaryOp _ (Value.str _ _) (Value.str _ _)) _ _ _); (refine add_str ?_ (Nat.le_trans (b := 1000) (by (simp only [Str.length_append]; omega)) (by decide))); intro _ _)
  k_with "exec For Tuple Call" => (k_here; k_dflt (refine for_J (by k_asm) ?_))
  intro d
  unfold TellsN
  intro dp un gd cn cs a ccd cl outer A₀ base h₀ L m news s vs Q E B F X N T hk hR hok hd hu hret
  obtain ⟨v, hR, av, ov, xs, nv, rfl, hv1, hv2, hv3, hv4⟩ := hR
  subst hR
  have hd : dp + 4 < recursionLimit := hd
  have hu : un + 8 * 4 < cLine := hu
  refine wpAny_call ?_
  k_dflt ktr_enter
  k_steps
  rename_i T0 S0 sl k1 tk1 sw sa l1 h2 h3 F3 N3 r9 tl9 h9 tk9 F9 N9 hl9 ht9 ho9
  obtain ⟨av2, ys, rfl, hp1, hp2⟩ := ho9
  refine src_zip (by rfl) F9 N9 (l1 := av) (l2 := av2) (xs := xs.toArray) (ys := ys.toArray) ?_ ?_ ?_ ?_ (av := []) (fun _ h => nomatch h) ?_
  · exact isList_of N9 (by simp [hv1]) hv2 hv3
  · exact isList_of N9 hp1 rfl rfl
  · exact .inr ⟨ov, by simp [hv1]⟩
  · exact .inr ⟨_, hp1⟩
  have sw' : sl.map (·.1) = signsT.map Str.ofString := sw.trans (by decide +kernel)
  intro I h4 k4 S1
  refine ⟨_, _, _, _, _, S1 _ _ _, fun i m₁ l => m₁ (Str.ofString "signs") = some (.ref S0) ∧ (∃ t, m₁ (Str.ofString "text") = some (.str (reportF (d.take i) ((pairsTo 5).take i)) t)) ∧ l = (S0, W.listOf (strValues sl).toArray 0) :: (news ++ tl9), ⟨by with_unfolding_all rfl, ⟨_, by with_unfolding_all rfl⟩, rfl⟩, ?_, ?_⟩
  · rintro i v m₁ news₁ h tk own hi ⟨T, vals, rfl, ⟨x, y, hx, hy, rfl⟩, hT⟩ ⟨hJ1, ⟨tt, hJ2⟩, rfl⟩ hown F1 N1
    refine asgF_pair (by rfl) hT F1 N1 (by rfl) (by rfl) (by rfl) (by decide) ?_
    intro h2 tk2 m2 F2 N2 hx2 hy2 hz2
    obtain ⟨dx, hdx, tx, rfl⟩ := paired_get hv4 (by simpa using hx)
    obtain ⟨py, hpy, T2, t2, u2, rfl, hT2⟩ := paired_get hp2 (by simpa using hy)
    have hs2 := (hz2 (Str.ofString "signs") (by decide) (by decide)).trans hJ1
    have ht2 := (hz2 (Str.ofString "text") (by decide) (by decide)).trans hJ2
    obtain ⟨R, hRd⟩ : ∃ R, R = (news ++ tl9) ++ own := ⟨_, rfl⟩
    have N3 : News _ _ h2 ((T2, tupObj #[Value.int py.fst t2, Value.int py.snd u2]) :: (S0, W.listOf (strValues sl).toArray 0) :: R) := fun p hp => N2 p (by
      rcases List.mem_cons.mp hp with rfl | hp
      · exact List.mem_append_left _ hT2
      · rw [hRd] at hp
        exact hp)
    clear N2 N1
    have g1 := spelled_len py.1 ((dx.fdiv 48).fmod 8)
    have g2 := spelled_len py.2 ((dx.fdiv 384).fmod 8)
    have g3 := sign_len (dx.fmod 48).toNat
    have g4 : (reportF (List.take i d) (List.take i (pairsTo 5))).length ≤ 50 := by
      have h3 : i < 10 := Nat.lt_of_lt_of_le hi (Nat.le_trans (Nat.min_le_right _ _) (by simp [hp2.length]; decide))
      exact Nat.le_trans (reportF_len d (pairsTo 5) i) (by omega)
    obtain ⟨q1, q2, q3, q4⟩ : 0 ≤ py.1 ∧ py.1 < 5 ∧ 0 ≤ py.2 ∧ py.2 < 5 := pairs_ok _ (List.mem_of_getElem? hpy)
    k_steps
    refine fe_one hRd (by assumption) (by assumption) (by k_mem) (fun p hp => by simp [hp]) ⟨?_, ?_, rfl⟩
    · exact (if_neg (by decide)).trans hs2
    · rw [reportF_take d (pairsTo 5) i dx py hdx hpy]
      refine ⟨_, (if_pos rfl).trans (congrArg (fun x => some (Value.str x _)) ?_)⟩
      unfold pieceF signF
      rw [Int.fmod_eq_emod_of_nonneg _ (by decide), Int.fmod_eq_emod_of_nonneg _ (by decide), Int.fmod_eq_emod_of_nonneg _ (by decide), Int.fdiv_eq_ediv_of_nonneg _ (by decide), Int.fdiv_eq_ediv_of_nonneg _ (by decide)]
  · rintro m₁ news' h tk ⟨hJ1, ⟨tt, hJ2⟩, rfl⟩ F1 N1
    k_steps
    have hx10 : xs.length = 10 := hv4.length.trans hok
    have hy10 : ys.length = 10 := hp2.length.trans (by decide)
    have hmin : min xs.toArray.size ys.toArray.size = 10 := by simp [hx10, hy10]
    refine hret _ [] _ _ (by assumption) (ktn_tl0 (fun p hp => (by assumption : News _ _ _ ((S0, _) :: _)) p (by simp [hp]))) ktn_ord0 rfl ⟨tt, ?_⟩
    rw [hmin, List.take_of_length_le (Nat.le_of_eq hok), List.take_of_length_le (by decide)]
end Mine
end
section
open PySem PySem.W PySem.Calls PyProof.Rows PyProof.V PySem.Spec
set_option maxRecDepth 100000
namespace Mine
section
variable {prog : Program} {w : World} {A : Around} {E : Value → Shared → Prop} {s : Shared} {h₀ : Heap} {L : Addr} {m : Str → Option Value}
theorem setitem_L {S0 : Addr} {o : Obj} {its : Array Value} {n : Nat} {R : Ledger} {k : Int} {t : Tok} {v : Value} {Q : Unit → Shared → Prop} (F : Fr h₀ L s.heap m) (N : News h₀ L s.heap ((S0, o) :: R)) (hR : ∀ p ∈ R, p.1 ≠ S0)
    (ho : o.cls = .type "list") (hd : o.data = .seq its n) (h0 : 0 ≤ k) (hfit : k < 2 ^ 63) (hn : k < its.size)
    (h : ∀ h' o' n', Fr h₀ L h' m → News h₀ L h' ((S0, o') :: R) → o'.cls = .type "list" → o'.data = .seq (its.setIfInBounds k.toNat v) n' → Q () { s with heap := h' }) :
    wpAny (model prog w) A (setItem (.ref S0) (.int k t) v) Q E s := by
  refine wpAny_setItem_list (isList_of N List.mem_cons_self ho hd) h0 hfit hn fun h' hl hs => ?_
  obtain ⟨o', e1, e2, n', e3⟩ := hl
  have z := N _ List.mem_cons_self
  refine h h' o' n' (F.change hs z.2.1 z.2.2) (fun p hp => ?_) e2 e3
  rcases List.mem_cons.mp hp with rfl | hp
  · exact ⟨e1, z.2⟩
  · have y := N p (List.mem_cons_of_mem _ hp)
    exact ⟨hs.extBut _ _ (hR p hp) y.1, y.2⟩
end
theorem paired_set {α β : Type} {F : α → β → Prop} {l : List α} {l' : List β} (x : Paired F l l') : ∀ (i : Nat) (a : α) (b : β), F a b → Paired F (l.set i a) (l'.set i b) := by
  induction x with
  | nil => intro i a b _; exact .nil
  | cons hab hr ih =>
    intro i a b h
    cases i with
    | zero => exact .cons h hr
    | succ i => exact .cons hab (ih i a b h)
end Mine
end
section
open PySem PySem.W PySem.Calls PyProof.Rows PyProof.V PySem.Spec
set_option maxRecDepth 100000
namespace Mine
noncomputable def kvOf (e : DictEntry) : Int × Value := (match e.key with | .int k _ => k | _ => 0, e.val)
noncomputable abbrev EntOk (e : DictEntry) (p : Pr) : Prop := ∃ t u, e = ⟨hashInt p.1, .int p.1 t, .str p.2 u⟩
theorem entsS_ok : ∀ (c : List Pr) (t : Nat), Paired EntOk (entsS t c) c
  | [], _ => .nil
  | _ :: c, t => .cons ⟨_, _, rfl⟩ (entsS_ok c _)
theorem entsL_ok : ∀ (c : List Pr) (t : Nat), Paired EntOk (entsL t c) c
  | [], _ => .nil
  | _ :: c, t => .cons ⟨_, _, rfl⟩ (entsL_ok c _)
theorem pairedApp {α β : Type} {F : α → β → Prop} {a : List α} {b : List β} {c : List α} {d : List β} (x : Paired F a b) (y : Paired F c d) : Paired F (a ++ c) (b ++ d) := by
  induction x with
  | nil => exact y
  | cons h _ ih => exact .cons h ih
theorem mainEnts_ok : ∀ (cs : List (List Pr)) (t : Nat), Paired EntOk (mainEnts t cs) cs.flatten
  | [], _ => .nil
  | c :: cs, t => by
    rw [mainEnts, List.flatten_cons]
    refine pairedApp ?_ (mainEnts_ok cs _)
    unfold chunkEnts
    split
    · exact entsS_ok c t
    · exact entsL_ok c t
section
variable {prog : Program} {w : World}
theorem ents_pairs {es : List DictEntry} {ps : List Pr} (x : Paired EntOk es ps) : Pairs (intKind prog w) es (es.map kvOf) := by
  induction x with
  | nil => exact .nil
  | cons h _ ih =>
    obtain ⟨t, u, rfl⟩ := h
    exact .cons (intKind_is _ _ _ _) rfl ih
theorem ents_keys {es : List DictEntry} {ps : List Pr} (x : Paired EntOk es ps) : ∀ e ∈ es, ∃ k, (intKind prog w).is k e.key = true ∧ e.hash = (intKind prog w).hash k := by
  induction x with
  | nil => exact fun _ h => nomatch h
  | cons h _ ih =>
    intro e he
    rcases List.mem_cons.mp he with rfl | he
    · obtain ⟨t, u, rfl⟩ := h
      exact ⟨_, intKind_is _ _ _ _, rfl⟩
    · exact ih e he
end
theorem ents_fst {es : List DictEntry} {ps : List Pr} (x : Paired EntOk es ps) : (es.map kvOf).map (·.1) = ps.map (·.1) := by
  induction x with
  | nil => rfl
  | cons h _ ih =>
    obtain ⟨t, u, rfl⟩ := h
    simp only [List.map_cons, ih]
    rfl
theorem ents_at {es : List DictEntry} {ps : List Pr} (x : Paired EntOk es ps) (k : Int) : match ps.find? (fun p => p.1 = k) with
    | some p => ∃ t, valueAt (es.map kvOf) k = some (.str p.2 t)
    | none => valueAt (es.map kvOf) k = none := by
  induction x with
  | nil => rfl
  | @cons e p es ps h _ ih =>
    obtain ⟨t, u, rfl⟩ := h
    unfold valueAt at ih ⊢
    rw [List.map_cons, List.find?_cons, List.find?_cons]
    by_cases e : p.1 = k
    · have e1 : decide (p.1 = k) = true := decide_eq_true e
      have e2 : decide ((kvOf ⟨hashInt p.1, .int p.1 t, .str p.2 u⟩).1 = k) = true := decide_eq_true e
      simp only [e1, e2]
      exact ⟨u, rfl⟩
    · have e1 : decide (p.1 = k) = false := decide_eq_false e
      have e2 : decide ((kvOf ⟨hashInt p.1, .int p.1 t, .str p.2 u⟩).1 = k) = false := decide_eq_false e
      simp only [e1, e2]
      exact ih
theorem chunks_flat (ps : List Pr) : (chunks ps).flatten = ps := by unfold chunks; rw [chunkGo_flatten]; rfl
theorem psB_ents : Paired EntOk (mainEnts 523 (chunks psB)) psB := by
  have := mainEnts_ok (chunks psB) 523
  rwa [chunks_flat] at this
noncomputable abbrev kvsB : List (Int × Value) := (mainEnts 523 (chunks psB)).map kvOf
theorem b3_isDict {prog : Program} {w : World} : (dob (mainEnts 523 (chunks psB)) 650).IsDictOf (intKind prog w) kvsB := by
  refine ⟨_, _, ⟨rfl, rfl, rfl⟩, rfl, ?_, ents_pairs psB_ents, ?_⟩
  · intro e he
    exact ents_keys psB_ents e (by simpa using he)
  · rw [ents_fst psB_ents]
    have := psB_nodup
    rw [show (psB.map fun kx => hashInt kx.1) = (psB.map (·.1)).map hashInt by rw [List.map_map]; rfl] at this
    exact List.Pairwise.of_map hashInt (fun a b h e => h (congrArg hashInt e)) this
theorem psB_high : (psB.all fun p => decide (128 ≤ p.1)) = true := by kernel_rfl
noncomputable def letterF (p : Nat) : Str := Txt.item (Str.ofString "abcdeABCDE") p
theorem psB_glyphs : ((List.range 5).all fun p => (List.range 6).all fun d => decide ((psB.find? (fun q => q.1 = (120172 + 52 * (d : Int) + p : Int))).map (·.2) = some (letterF p))) = true := by kernel_rfl
theorem b3_low {k : Int} (h : k < 128) : valueAt kvsB k = none := by
  have h1 := ents_at psB_ents k
  cases e : psB.find? (fun p => p.1 = k) with
  | none => rw [e] at h1; exact h1
  | some p =>
    have h2 := List.find?_some e
    have h3 := List.all_eq_true.mp psB_high p (List.mem_of_find?_eq_some e)
    have h2 := of_decide_eq_true h2
    have h3 := of_decide_eq_true h3
    omega
theorem b3_glyph {p d : Nat} (hp : p < 5) (hd : d < 6) : ∃ t, valueAt kvsB (120172 + 52 * (d : Int) + p) = some (.str (letterF p) t) := by
  have h1 := ents_at psB_ents (120172 + 52 * (d : Int) + p)
  have h2 := List.all_eq_true.mp psB_glyphs p (List.mem_range.mpr hp)
  have h3 := of_decide_eq_true (List.all_eq_true.mp h2 d (List.mem_range.mpr hd))
  cases e : psB.find? (fun q => q.1 = (120172 + 52 * (d : Int) + p : Int)) with
  | none => rw [e] at h3; cases h3
  | some q =>
    rw [e] at h1 h3
    obtain ⟨t, ht⟩ := h1
    have h4 : q.2 = letterF p := Option.some.inj h3
    exact ⟨t, ht.trans (by rw [h4])⟩
end Mine
end
section
open PySem PySem.W PySem.Calls PyProof.Rows PyProof.V PySem.Spec
set_option maxRecDepth 100000
set_option maxHeartbeats 0
namespace Mine
theorem fillKg (h : Heap) (w : World) : PySem.Challenge.rw_sn0103_01 = PySem.Challenge.rw_sn0103_01 ∧ (K w.params).In h = (K w.params).In h := by
  k_fill
  exact ⟨rfl, rfl⟩
theorem b3_of {w : World} {h : Heap} (X : (K w.params).In h) : h.DictOf (intKind rwP w) 181 kvsB := Heap.dictOf_iff.mpr ⟨_, X 181 _ (by rfl), b3_isDict⟩
section
variable {prog : Program} {w : World} {K : Type} [DecidableEq K] {knd : KeyKind prog w K} {A : Around} {E : Value → Shared → Prop} {s : Shared} {d : Addr} {kvs : List (K × Value)} {k : K} {key : Value}
theorem dg_method {pl : Sem Bool} {Q : Value × List Value → Shared → Prop} (hD : s.heap.DictOf knd d kvs) (h : Q (.builtin "dict.get", [.ref d]) s) : wpAny (model prog w) A (getMethod (.ref d) (Str.ofString "get") pl) Q E s :=
  getMethod_builtin hD.typeIs PySem.F.plainAttrs_dict PySem.F.slot_dict_get PySem.F.type_dict_get hD.mapOf.noDict h
theorem dg_get1 {Q : Value → Shared → Prop} (hD : s.heap.DictOf knd d kvs) (lo : (d == sysModules) = false) (hkey : knd.is k key = true) (x : Option Value) (hl : valueAt kvs k = x) (h : Q (x.getD .none) { s with toks := s.toks + 1 }) :
    wpAny (model prog w) A (call (.builtin "dict.get") [.ref d, key]) Q E s :=
  call_meetsIn PySem.F.slot_dict_get hD.typeIs PySem.F.entry_dict_get (PySem.F.args_dict_get_2 _ _) (meets_dict_get knd d hkey lo) ⟨_, hD.mapOf, by rw [hl]; exact h⟩
end
theorem low_ascii : ∀ c : Nat, c < 128 → Txt.lower { cps := #[c] } = { cps := #[if 65 ≤ c ∧ c ≤ 90 then c + 32 else c] } := by decide +kernel
noncomputable def b3F (c : Nat) : Str := if c < 128 then { cps := #[if 65 ≤ c ∧ c ≤ 90 then c + 32 else c] } else letterF ((c - 120172) % 52)
theorem b3F_low (c : Nat) (h : c < 128) : b3F c = { cps := #[if 65 ≤ c ∧ c ≤ 90 then c + 32 else c] } := by unfold b3F; rw [if_pos h]
theorem b3F_glyph (p d : Nat) (hp : p < 5) : b3F (120172 + 52 * d + p) = letterF p := by
  unfold b3F
  rw [if_neg (by omega), show (120172 + 52 * d + p - 120172) % 52 = p by omega]
/-- a player's glyph -/
noncomputable def isGlyph (c : Nat) (p : Nat) : Prop := c = 97 + p ∨ c = 65 + p ∨ ∃ d, d < 6 ∧ c = 120172 + 52 * d + p
section
variable {w : World} {mean : ExcName → Option Value} {mg mb : Str → Option Value} {dp un : Nat} {gd : Option (List Code)} {cn : Str} {cs : Scope} {a : Addr} {ccd : Value} {cl : List (Str × Addr)} {outer : List Env} {A₀ : Around} {base h₀ : Heap} {L : Addr} {m : Str → Option Value} {news : List (Addr × Obj)} {s : Shared} {Q E : Value → Shared → Prop}
theorem b3_call {c : Nat} {u : Tok} (B : Below A₀ base outer h₀) (F : Fr h₀ L s.heap m) (X : (K w.params).In h₀) (N : News h₀ L s.heap news) (T : Top qV (looseW qV looseV) mean mg mb h₀) (hk : cs.kind = .function)
    (hc : c < 128 ∨ ∃ p d, p < 5 ∧ d < 6 ∧ c = 120172 + 52 * d + p) (hd : dp + 2 < recursionLimit) (hu : un + 8 * 2 < cLine)
    (ret : ∀ t' h' tk', Fr h₀ L h' m → News h₀ L h' news → Q (.str (b3F c) t') { s with heap := h', toks := tk' }) :
    wpAny (model rwP w) (ktrTop dp un gd cn cs L a ccd cl outer) (call (.ref 226) [.str { cps := #[c] } u]) Q E s := by
  refine wpAny_call ?_
  k_dflt ktr_enter
  rename_i g' L' h' FG F' N' B' X' T'
  k_steps
  refine dg_method (b3_of (Frag.In.keeps X' F'.keep)) ?_
  k_steps
  have hD := b3_of (Frag.In.keeps X' F'.keep)
  rcases hc with hc | ⟨p, d, hp, hd9, rfl⟩
  · refine dg_get1 hD (by decide) (intKind_is _ _ _ _) _ (b3_low (by omega)) ?_
    dsimp only [Option.getD]
    k_steps
    refine KXw.lower (low_ascii c hc) ?_ ?_
    · rw [low_ascii c hc]; rfl
    intro t' k9
    k_steps
    rename_i kF kN _ _
    exact b3F_low c hc ▸ ret t' _ _ kF kN
  · obtain ⟨t9, ht9⟩ := b3_glyph hp hd9
    refine dg_get1 hD (by decide) (intKind_is _ _ _ _) (some (.str (letterF p) t9)) (by simpa using ht9) ?_
    dsimp only [Option.getD]
    k_steps
    rename_i kF kN _ _
    have e : b3F (120172 + 52 * d + p) = letterF p := b3F_glyph p d hp
    exact e ▸ ret t9 _ _ kF kN
end
end Mine
end
section
open PySem PySem.W PySem.Calls PyProof.Rows PyProof.V PySem.Spec
set_option maxRecDepth 100000
namespace Mine
section
variable {prog : Program} {w : World} {A : Around} {E : Value → Shared → Prop} {s : Shared} {env : Env} {h₀ : Heap} {L : Addr} {m : Str → Option Value}
/-- the end of a while's turn -/
noncomputable def WE (h₀ : Heap) (L : Addr) (J : Nat → (Str → Option Value) → Ledger → Prop) (i : Nat) (Q : Flow → Shared → Prop) (s : Shared) (f : Flow) (s' : Shared) : Prop := match f with
  | .ret v => Q (.ret v) s'
  | .brk => Q .next s'
  | _ => ∃ i' h' tk m' news', i' < i ∧ s' = { s with heap := h', toks := tk } ∧ Fr h₀ L h' m' ∧ News h₀ L h' news' ∧ J i' m' news'
theorem while_J {test : Expr} {body orelse : List Stmt} {pos : Pos} {Q : Flow → Shared → Prop} {news : Ledger} (F : Fr h₀ L s.heap m) (N : News h₀ L s.heap news)
    (n : Nat) (J : Nat → (Str → Option Value) → Ledger → Prop) (h0 : J n m news)
    (step : ∀ i m₁ news₁ h tk, J i m₁ news₁ → Fr h₀ L h m₁ → News h₀ L h news₁ →
      wpAny (model prog w) A (isTrue test env (eval test env)) (fun b s₂ => WhlIf b (wpAny (model prog w) A (execs body env) (WE h₀ L J i Q s) E s₂) (wpAny (model prog w) A (execs orelse env) Q E s₂)) E { s with heap := h, toks := tk })
    (hE : PassesOwn (model prog w) A env E := by first | passes_own | with_unfolding_all passes_own) :
    wpAny (model prog w) A (exec (.While test body orelse pos) env) Q E s := by
  refine whl_start 0 ?_
  have key : ∀ k i m₁ news₁ h tk, i < k → J i m₁ news₁ → Fr h₀ L h m₁ → News h₀ L h news₁ → WhlRest prog w A E env test body orelse Q 0 { s with heap := h, toks := tk } := by
    intro k
    induction k with
    | zero => intro i _ _ _ _ hi; exact absurd hi (Nat.not_lt_zero _)
    | succ k ih =>
      intro i m₁ news₁ h tk hi hJ F₁ N₁
      show WhlRest prog w A E env test body orelse Q (0 + 1) _
      refine whl_turn hE (wpAny_mono (step i m₁ news₁ h tk hJ F₁ N₁) (fun b s₂ h₂ => ?_) fun _ _ e => e)
      cases b with
      | false => exact h₂
      | true =>
        have h₃ : wpAny (model prog w) A (execs body env) (WE h₀ L J i Q s) E s₂ := h₂
        refine WhlIf.yes rfl (wpAny_mono h₃ (fun f s₃ h₄ => ?_) fun _ _ e => e)
        cases f with
        | ret v => exact h₄
        | brk => exact h₄
        | next =>
          obtain ⟨i', h', tk', m', news', hlt, rfl, F', N', hJ'⟩ := h₄
          exact ih i' m' news' h' tk' (by omega) hJ' F' N'
        | cont =>
          obtain ⟨i', h', tk', m', news', hlt, rfl, F', N', hJ'⟩ := h₄
          exact ih i' m' news' h' tk' (by omega) hJ' F' N'
  exact key (n + 1) n m news s.heap s.toks (Nat.lt_succ_self _) h0 F N
noncomputable def WhileAt (prog : Program) (w : World) (A : Around) (E : Value → Shared → Prop) (env : Env) (test : Expr) (body orelse : List Stmt) (Q : Flow → Shared → Prop) (h₀ : Heap) (L : Addr) (m : Str → Option Value) (s : Shared) : Prop :=
  ∃ news n J, News h₀ L s.heap news ∧ J n m news ∧ ∀ i m₁ news₁ h tk, J i m₁ news₁ → Fr h₀ L h m₁ → News h₀ L h news₁ →
      wpAny (model prog w) A (isTrue test env (eval test env)) (fun b s₂ => WhlIf b (wpAny (model prog w) A (execs body env) (WE h₀ L J i Q s) E s₂) (wpAny (model prog w) A (execs orelse env) Q E s₂)) E { s with heap := h, toks := tk }
theorem WhileAt.of {test : Expr} {body orelse : List Stmt} {Q : Flow → Shared → Prop} {news : Ledger} (n : Nat) (J : Nat → (Str → Option Value) → Ledger → Prop) (N : News h₀ L s.heap news) (h0 : J n m news)
    (step : ∀ i m₁ news₁ h tk, J i m₁ news₁ → Fr h₀ L h m₁ → News h₀ L h news₁ →
      wpAny (model prog w) A (isTrue test env (eval test env)) (fun b s₂ => WhlIf b (wpAny (model prog w) A (execs body env) (WE h₀ L J i Q s) E s₂) (wpAny (model prog w) A (execs orelse env) Q E s₂)) E { s with heap := h, toks := tk }) :
    WhileAt prog w A E env test body orelse Q h₀ L m s := ⟨news, n, J, N, h0, step⟩
theorem while_E {test : Expr} {body orelse : List Stmt} {pos : Pos} {Q : Flow → Shared → Prop} (F : Fr h₀ L s.heap m)
    (h : WhileAt prog w A E env test body orelse Q h₀ L m s)
    (hE : PassesOwn (model prog w) A env E := by first | passes_own | with_unfolding_all passes_own) :
    wpAny (model prog w) A (exec (.While test body orelse pos) env) Q E s := by
  obtain ⟨news, n, J, N, h0, step⟩ := h
  exact while_J F N n J h0 step hE
end
end Mine
end
section
open PySem PySem.W PySem.Calls PyProof.Rows PyProof.V PySem.Spec
set_option maxRecDepth 100000
namespace Mine
theorem cps_app (x y : Str) : (x ++ y).cps = x.cps ++ y.cps := rfl
theorem item_hd (g : Nat) (y : Str) : Txt.item ({ cps := #[g] } ++ y) 0 = { cps := #[g] } := by
  have h2 : ((({ cps := #[g] } : Str) ++ y).length : Int) = 1 + y.length := by
    rw [Str.length_append]; show ((1 + y.length : Nat) : Int) = _; omega
  obtain ⟨n, hn⟩ := StrLaws.some_at (x := { cps := #[g] } ++ y) (i := 0) (Int.le_refl _) (by rw [h2]; omega)
  unfold Txt.item Txt.charAt
  have e : PySem.seqIndex? 0 (({ cps := #[g] } : Str) ++ y).length = some 0 := by
    unfold PySem.seqIndex?
    simp
    rw [Str.length_append]
    show 1 + y.length ≠ 0
    omega
  rw [e]
  simp [cps_app]
  rw [Array.getElem?_append]
  simp
theorem slice_to (x : Str) (n : Nat) : Txt.slice x none (some (n : Int)) = { cps := (x.cps.toList.take n).toArray } := by
  by_cases h : n ≤ x.length
  · refine (StrLaws.sliceText_to ⟨by omega, ?_⟩).trans ?_
    · show (n : Int) ≤ _
      rw [show x.cps.toList.length = x.length by simp [Str.length]]
      omega
    · simp
  · rw [slice_to_beyond (by omega)]
    refine (StrLaws.sliceText_to ⟨by omega, ?_⟩).trans ?_
    · rw [show x.cps.toList.length = x.length by simp [Str.length]]
      exact Int.le_refl _
    · have e1 : x.cps.toList.take n = x.cps.toList := List.take_of_length_le (by rw [show x.cps.toList.length = x.length by simp [Str.length]]; omega)
      have e2 : x.cps.toList.take x.length = x.cps.toList := List.take_of_length_le (by rw [show x.cps.toList.length = x.length by simp [Str.length]]; omega)
      simp [e1, e2]
theorem slice_from (x : Str) (n : Nat) (h : n ≤ x.length) : Txt.slice x (some (n : Int)) none = { cps := (x.cps.toList.drop n).toArray } := by
  have hl : x.cps.toList.length = x.length := by simp [Str.length]
  refine (StrLaws.sliceText_from ⟨by omega, by rw [hl]; omega⟩).trans ?_
  rw [hl]
  have e : List.take ((x.length : Int) - n).toNat (List.drop (n : Int).toNat x.cps.toList) = List.drop n x.cps.toList := by
    rw [show (n : Int).toNat = n by simp]
    refine List.take_of_length_le ?_
    rw [List.length_drop, hl]
    omega
  rw [e]
theorem slice_drop (x y : Str) (n : Nat) (h : x.length = n) : Txt.slice (x ++ y) (some (n : Int)) none = y := by
  subst h
  rw [slice_from _ _ (by rw [Str.length_append]; omega), cps_app]
  have : x.cps.toList.length = x.length := by simp [Str.length]
  apply Str.ext'
  simp [← this]
theorem slice_take (x y : Str) (n : Nat) (h : x.length = n) : Txt.slice (x ++ y) none (some (n : Int)) = x := by
  subst h
  rw [slice_to, cps_app]
  have : x.cps.toList.length = x.length := by simp [Str.length]
  apply Str.ext'
  simp [← this]
end Mine
end
section
open PySem PySem.W PySem.Calls PyProof.Rows PyProof.V PySem.Spec
set_option maxRecDepth 100000
namespace Mine
section
variable {prog : Program} {w : World} {A : Around} {E : Value → Shared → Prop} {s : Shared} {h₀ : Heap} {L : Addr} {m : Str → Option Value} {news : Ledger}
theorem src_tuple {ax : Addr} {its : Array Value} {av : List Addr} {Q : Value → Shared → Prop}
    (hh : A.handled = none) (F : Fr h₀ L s.heap m) (N : News h₀ L s.heap news) (hl : s.heap.IsTuple ax its) (ha : AtHand h₀ news ax)
    (hav : ∀ b ∈ av, b < s.heap.objs.size ∧ b ≠ ax)
    (h : ∀ h', (∀ b o, s.heap.get? b = some o → h'.get? b = some o) → (∀ (x : Str) (px : Pos), SrcOk prog w A h₀ L m (.Name x px) (.ref s.heap.objs.size) h' news av its.size (fun i v _ => its[i]? = some v)) → Q (.ref s.heap.objs.size) { s with heap := h' }) :
    wpAny (model prog w) A (pyIter (.ref ax)) Q E s := by
  refine wpAny_pyIter_tuple hl ?_
  have up : ∀ b o, s.heap.get? b = some o → (s.heap.push { cls := .type "tuple_iterator", data := .fields #[.ref ax, .int 0 0] }).get? b = some o := fun b o e => Heap.get?_push_of_some _ e
  have hlt := ha.lt F N
  have W := Walks.tuple (prog := prog) (w := w) hh s.heap.objs.size ax (Nat.ne_of_lt hlt) its
  refine h _ up fun x px => ⟨_, _, _, _, _, rfl, KTurns.ofWalks W fun _ _ _ _ _ _ q => go_name q, W.self 0, ?_, ?_, ?_, ?_, ?_, ?_, ⟨⟨_, Heap.get?_push_size _ rfl, rfl, rfl⟩, hl.push _⟩, F.keeps up, N.grown up⟩
  · intro hm
    rcases List.mem_cons.mp hm with e | hm
    · exact Nat.ne_of_lt F.ns.lt e
    · exact ha.ne F N (List.mem_singleton.mp hm).symm
  · intro b hb hm
    rcases List.mem_cons.mp hm with e | hm
    · exact Nat.ne_of_lt (hav b hb).1 e
    · exact (hav b hb).2 (List.mem_singleton.mp hm)
  · intro b hb; rw [List.mem_singleton.mp hb]; exact fresh_of F (Nat.le_refl _)
  · intro b hb
    show b < (s.heap.push _).objs.size
    rw [Heap.size_push]
    rcases List.mem_cons.mp hb with rfl | hb
    · exact Nat.lt_succ_self _
    · rw [List.mem_singleton.mp hb]; exact Nat.lt_succ_of_lt hlt
  · intro i h st b hb; rw [List.mem_singleton.mp hb]; obtain ⟨o, e, _⟩ := st.1; exact ⟨o, e⟩
  · intro p hp hm; exact Nat.ne_of_lt (Heap.lt_size (N p hp).1) (List.mem_singleton.mp hm)
theorem in_yes {x y : Str} {u t : Tok} {Q : Value → Shared → Prop} (ho : (Builtin.Str.occurrences x y 0 x.length 1).isEmpty = false) (h : Q (.bool true) s) : wpAny (model prog w) A (compareOp .In (.str y u) (.str x t)) Q E s :=
  in_str (by rw [ho]; exact h)
theorem in_no {x y : Str} {u t : Tok} {Q : Value → Shared → Prop} (ho : (Builtin.Str.occurrences x y 0 x.length 1).isEmpty = true) (h : Q (.bool false) s) : wpAny (model prog w) A (compareOp .In (.str y u) (.str x t)) Q E s :=
  in_str (by rw [ho]; exact h)
theorem ce_of {own news₁ l6 : Ledger} {C D : Addr} {o₁ oD oC' : Obj} {mC : Str → Option Value} {J : (Str → Option Value) → Ledger → Prop} {h' : Heap} {tk : Nat}
    (F : Fr h₀ L h' m) (N : News h₀ L h' l6) (hC : (C, oC') ∈ l6) (hD : (D, oD) ∈ l6) (hs : ∀ p ∈ news₁ ++ own, p ∈ l6) (hN : NsO oC' mC) (hJ : J mC news₁) :
    CE h₀ L m own C o₁ D oD news₁ J s { s with heap := h', toks := tk } := by
  refine ⟨h', tk, oC', mC, news₁, rfl, F, fun p hp => N p ?_, hN, fun p hp => .inl hp, hJ⟩
  rcases List.mem_cons.mp hp with rfl | hp
  · exact hC
  · rcases List.mem_cons.mp hp with rfl | hp
    · exact hD
    · exact hs p hp
theorem ldC {name : Str} {scope : Scope} {a : Addr} {cd : Value} {x : Str} {pos : Pos} {v : Value} {Q : Value → Shared → Prop} (F : Fr h₀ L s.heap m) (hv : m x = some v) (h : Q v s)
    (hk : scope.kind = .function := by rfl) (hl : (envOfC name scope L a cd).kindOf x = some .local := by rfl) (hd : (x == ("__debug__" : Str)) = false := by decide) :
    wpAny (model prog w) A (eval (.Name x pos) (envOfC name scope L a cd)) Q E s := wpAny_Name (wpAny_loadName_local hk hl F.ns hv h) hd
end
end Mine
end
section
open PySem PySem.W PySem.Calls PyProof.Rows PyProof.V PySem.Spec
set_option maxRecDepth 100000
set_option maxHeartbeats 0
namespace Mine
noncomputable def esE (P : Params) : List DictEntry := match (K P).lookup 227 with | some ⟨_, _, .dict es _, _⟩ => es.toList | _ => []
noncomputable def skv (e : DictEntry) : Str × Value := (match e.key with | .str x _ => x | _ => Str.ofString "", e.val)
noncomputable def kvsE (P : Params) : List (Str × Value) := (esE P).map skv
theorem keysE (P : Params) : KeysLit P (esE P) := by
  unfold esE
  repeat (first | exact True.intro | refine And.intro ⟨_, _, rfl, rfl⟩ ?_)
noncomputable def intOf : Value → Option Int | .int c _ => some c | _ => none
noncomputable def exactT : List (Str × Option Int) := [(Str.ofString "!", some 54), (Str.ofString "!=", some 28), (Str.ofString "%", some 24), (Str.ofString "%=", some 40), (Str.ofString "&", some 19), (Str.ofString "&=", some 41), (Str.ofString "(", some 7), (Str.ofString ")", some 8), (Str.ofString "*", some 16), (Str.ofString "**", some 35), (Str.ofString "**=", some 46), (Str.ofString "*=", some 38), (Str.ofString "+", some 14), (Str.ofString "+=", some 36), (Str.ofString ",", some 12), (Str.ofString "-", some 15), (Str.ofString "-=", some 37), (Str.ofString "->", some 51), (Str.ofString ".", some 23), (Str.ofString "...", some 52), (Str.ofString "/", some 17), (Str.ofString "//", some 47), (Str.ofString "//=", some 48), (Str.ofString "/=", some 39), (Str.ofString ":", some 11), (Str.ofString ":=", some 53), (Str.ofString ";", some 13), (Str.ofString "<", some 20), (Str.ofString "<<", some 33), (Str.ofString "<<=", some 44), (Str.ofString "<=", some 29), (Str.ofString "=", some 22), (Str.ofString "==", some 27), (Str.ofString ">", some 21), (Str.ofString ">=", some 30), (Str.ofString ">>", some 34), (Str.ofString ">>=", some 45), (Str.ofString "@", some 49), (Str.ofString "@=", some 50), (Str.ofString "[", some 9), (Str.ofString "]", some 10), (Str.ofString "^", some 32), (Str.ofString "^=", some 43), (Str.ofString "{", some 25), (Str.ofString "|", some 18), (Str.ofString "|=", some 42), (Str.ofString "}", some 26), (Str.ofString "~", some 31)]
theorem kvsE_eq (P : Params) : (kvsE P).map (fun kv => (kv.1, intOf kv.2)) = exactT := by kernel_rfl
theorem nodupE (P : Params) : ((kvsE P).map (·.1)).Nodup := by
  have e : (kvsE P).map (·.1) = exactT.map (·.1) := by
    rw [← kvsE_eq P, List.map_map]
    rfl
  rw [e]
  decide +kernel
noncomputable def exactF (x : Str) : Option Int := ((exactT.find? fun p => p.1 = x).map (·.2)).getD none
theorem valueAt_exact {P : Params} {x : Str} {c : Int} (h : exactF x = some c) : ∃ t, valueAt (kvsE P) x = some (.int c t) := by
  unfold exactF at h
  rw [← kvsE_eq P, List.find?_map] at h
  unfold valueAt
  have e : ((fun p : Str × Option Int => decide (p.1 = x)) ∘ fun kv : Str × Value => (kv.1, intOf kv.2)) = fun kv => decide (kv.1 = x) := rfl
  rw [e] at h
  cases hf : (kvsE P).find? fun kv => decide (kv.1 = x) with
  | none => rw [hf] at h; cases h
  | some kv =>
    rw [hf] at h
    have h2 : intOf kv.2 = some c := h
    cases hv : kv.2 with
    | int c' t =>
      rw [hv] at h2
      have : c' = c := Option.some.inj h2
      subst this
      exact ⟨t, by rw [Option.map_some, hv]⟩
    | _ => rw [hv] at h2; cases h2
theorem valueAt_some {P : Params} {x : Str} : (valueAt (kvsE P) x).isSome = exactT.any fun p => decide (p.1 = x) := by
  unfold valueAt
  rw [Option.isSome_map, List.isSome_find?, ← kvsE_eq P, List.any_map]
  rfl
theorem pairsE {prog : Program} {w : World} {P : Params} : ∀ {es : List DictEntry}, KeysLit P es → Pairs (strKind prog w) es (es.map skv)
  | [], _ => .nil
  | e :: r, h => .cons (by obtain ⟨⟨x, t, hx, _⟩, _⟩ := h; unfold skv; rw [hx]; exact strKind_is _ _ _ _) rfl (pairsE h.2)
theorem exact_of {w : World} {h : Heap} (X : (K w.params).In h) : h.DictOf (strKind rwP w) 227 (kvsE w.params) := by
  refine Heap.dictOf_iff.mpr ⟨_, X 227 _ (by rfl), (esE w.params).toArray, _, ⟨rfl, rfl, rfl⟩, rfl, ?_, pairsE (keysE _), nodupE _⟩
  intro e he
  obtain ⟨x, t, h1, h2⟩ := (keysE w.params).all e (by simpa using he)
  exact ⟨x, by rw [h1]; exact strKind_is _ _ _ _, h2⟩
end Mine
end
section
open PySem PySem.W PySem.Calls PyProof.Rows PyProof.V PySem.Spec
set_option maxRecDepth 100000
set_option maxHeartbeats 0
namespace Mine
noncomputable def exactHas (x : Str) : Bool := exactT.any fun p => decide (p.1 = x)
noncomputable def signK (k : Nat) : Str := Str.ofString ((signsT[k]?).getD "")
theorem exact_plain : (exactT.all fun p => p.1.cps.toList.all fun c => decide (c < 65) || (decide (90 < c) && decide (c < 97)) || (decide (122 < c) && decide (c < 128))) = true := by decide +kernel
theorem sign_exact : ∀ k, k < 48 → exactF (signK k) = some (7 + (k : Int)) := by decide +kernel
noncomputable def b2K (k : Nat) : Bool := decide (2 ≤ (signK k).length) && exactHas { cps := ((signK k).cps.toList.take 2).toArray }
noncomputable def b3K (k : Nat) : Bool := decide (3 ≤ (signK k).length) && exactHas { cps := ((signK k).cps.toList.take 3).toArray }
theorem size_K : ∀ k, k < 48 → (signK k).length = if b3K k then 3 else if b2K k then 2 else 1 := by decide +kernel
theorem glyph_no {x : Str} {g p : Nat} (hp : p < 5) (hg : isGlyph g p) (hm : g ∈ x.cps.toList) : exactHas x = false := by
  unfold exactHas
  rw [List.any_eq_false]
  intro q hq he
  have e := of_decide_eq_true he
  have h1 := List.all_eq_true.mp exact_plain q hq
  rw [e] at h1
  have h2 := List.all_eq_true.mp h1 g hm
  simp only [Bool.or_eq_true, Bool.and_eq_true, decide_eq_true_eq] at h2
  rcases hg with rfl | rfl | ⟨d, hd, rfl⟩
  · exact (by decide : ∀ p, p < 5 → ¬ ((97 + p < 65 ∨ 90 < 97 + p ∧ 97 + p < 97) ∨ 122 < 97 + p ∧ 97 + p < 128)) p hp h2
  · exact (by decide : ∀ p, p < 5 → ¬ ((65 + p < 65 ∨ 90 < 65 + p ∧ 65 + p < 97) ∨ 122 < 65 + p ∧ 65 + p < 128)) p hp h2
  · have hx : 128 ≤ 120172 + 52 * d + p := Nat.le_trans (Nat.le_trans (by decide) (Nat.le_add_right 120172 _)) (Nat.le_add_right _ p)
    rcases h2 with (h2 | h2) | h2
    · exact absurd (Nat.le_trans hx (Nat.le_of_lt h2)) (by decide)
    · exact absurd (Nat.le_trans hx (Nat.le_of_lt h2.2)) (by decide)
    · exact Nat.lt_irrefl _ (Nat.lt_of_le_of_lt hx h2.2)
theorem has_take {k g p : Nat} {y : Str} (hp : p < 5) (hg : isGlyph g p) (n : Nat) :
    exactHas (Txt.slice (signK k ++ ({ cps := #[g] } ++ y)) none (some (n : Int))) = (decide (n ≤ (signK k).length) && exactHas { cps := ((signK k).cps.toList.take n).toArray }) := by
  rw [slice_to]
  have hl : (signK k).cps.toList.length = (signK k).length := by simp [Str.length]
  have e : (signK k ++ (({ cps := #[g] } : Str) ++ y)).cps.toList = (signK k).cps.toList ++ g :: y.cps.toList := by
    rw [cps_app, cps_app]; simp
  rw [e]
  by_cases h : n ≤ (signK k).length
  · rw [decide_eq_true h, Bool.true_and, List.take_append_of_le_length (by rw [hl]; exact h)]
  · rw [decide_eq_false h, Bool.false_and]
    refine glyph_no hp hg ?_
    show g ∈ (List.take n ((signK k).cps.toList ++ g :: y.cps.toList)).toArray.toList
    rw [List.toList_toArray, List.take_append, hl]
    refine List.mem_append_right _ ?_
    obtain ⟨j, hj⟩ : ∃ j, n - (signK k).length = j + 1 := ⟨n - (signK k).length - 1, (Nat.succ_pred_eq_of_pos (Nat.sub_pos_of_lt (Nat.lt_of_not_le h))).symm⟩
    rw [hj, List.take_succ_cons]
    exact List.mem_cons_self
theorem sign_first : ∀ k, k < 48 → ∃ c0 y0, (c0 < 128 ∧ (c0 < 97 ∨ 101 < c0) ∧ (c0 < 65 ∨ 90 < c0)) ∧ signK k = { cps := #[c0] } ++ { cps := y0 } := by
  have key : ∀ k, k < 48 → (match (signK k).cps.toList with | [] => false | c0 :: _ => decide (c0 < 128 ∧ (c0 < 97 ∨ 101 < c0) ∧ (c0 < 65 ∨ 90 < c0))) = true := by decide +kernel
  intro k hk
  have h := key k hk
  cases e : (signK k).cps.toList with
  | nil => rw [e] at h; cases h
  | cons c0 r =>
    rw [e] at h
    refine ⟨c0, r.toArray, of_decide_eq_true h, ?_⟩
    apply Str.ext'
    rw [cps_app]
    apply Array.toList_inj.mp
    rw [e]
    simp
section
variable {w : World} {A : Around} {E : Value → Shared → Prop} {s : Shared} {h₀ : Heap} {L : Addr} {m : Str → Option Value}
theorem in_exact {x : Str} {t : Tok} {b : Bool} {Q : Value → Shared → Prop} (F : Fr h₀ L s.heap m) (X : (K w.params).In h₀) (hb : exactHas x = b) (h : Q (.bool b) { s with toks := s.toks + 1 }) :
    wpAny (model rwP w) A (compareOp .In (.str x t) (.ref 227)) Q E s :=
  wpAny_in_of (strKind_is _ _ _ _) (by decide) (exact_of (X.keeps F.keep)).mapOf (by rw [valueAt_some]; rw [show (exactT.any fun p => decide (p.1 = x)) = b from hb]; exact h)
theorem item_exact {value slice : Expr} {x : Str} {t : Tok} {c : Int} {Q : Value → Shared → Prop} (F : Fr h₀ L s.heap m) (X : (K w.params).In h₀) (hc : exactF x = some c) (h : ∀ t', Q (.int c t') { s with toks := s.toks + 1 })
    (hs : subscripted slice false (.ref 227) (.str x t) = operate [.ref 227, .str x t] (getItem (.ref 227) (.str x t)) := by with_unfolding_all rfl) (hg : ∀ r, letTemporaryGo value (.ref 227) r = pure () := by intro _; with_unfolding_all rfl) :
    wpAny (model rwP w) A (subscriptTail value slice (.ref 227) (.str x t)) Q E s := by
  obtain ⟨t', ht'⟩ := valueAt_exact (P := w.params) hc
  have hD := exact_of (X.keeps F.keep)
  exact subscriptTail_builtin hD.typeIs slot_dict_getitem.lookup (wpAny_getItem_of (strKind_is _ _ _ _) hD.mapOf ht' (h t')) hs hg
end
end Mine
end
section
open PySem PySem.W PySem.Calls PyProof.Rows PyProof.V PySem.Spec
set_option maxRecDepth 100000
set_option maxHeartbeats 0
namespace Mine
noncomputable abbrev Piece := Str × Int × Bool
noncomputable def pieces : List Int → List (Int × Int) → List Piece
  | d :: ds, p :: ps => (spelledF p.1 (d / 48 % 8), 256 + p.1, true) :: (signF d, 7 + d % 48, false) :: (spelledF p.2 (d / 384 % 8), 256 + p.2, true) :: pieces ds ps
  | _, _ => []
noncomputable def textOf : List Piece → Str
  | [] => Str.ofString ""
  | p :: r => p.1 ++ textOf r
noncomputable def WF : List Piece → Prop
  | [] => True
  | (x, c, true) :: r => (∃ p g : Nat, p < 5 ∧ isGlyph g p ∧ x = { cps := #[g] } ∧ c = 256 + (p : Int)) ∧ WF r
  | (x, c, false) :: r => (∃ k : Nat, k < 48 ∧ x = signK k ∧ c = 7 + (k : Int)) ∧ (∃ y e r', r = (y, e, true) :: r') ∧ WF r
theorem spelled_is (p d : Int) (h1 : 0 ≤ p) (h2 : p < 5) (h3 : 0 ≤ d) (h4 : d < 8) : ∃ g : Nat, isGlyph g p.toNat ∧ spelledF p d = { cps := #[g] } := by
  obtain ⟨p, rfl⟩ := Int.eq_ofNat_of_zero_le h1
  obtain ⟨d, rfl⟩ := Int.eq_ofNat_of_zero_le h3
  by_cases hd : d < 2
  · have key : ∀ p d : Nat, p < 5 → d < 2 → spelledF p d = { cps := #[if d = 0 then 97 + p else 65 + p] } := by
      intro p d hp hd
      have : ∀ p, p < 5 → ∀ d, d < 2 → spelledF (p : Nat) (d : Nat) = { cps := #[if d = 0 then 97 + p else 65 + p] } := by decide +kernel
      exact this p hp d hd
    refine ⟨_, ?_, key p d (by omega) hd⟩
    show isGlyph _ p
    by_cases h0 : d = 0
    · rw [if_pos h0]; exact .inl rfl
    · rw [if_neg h0]; exact .inr (.inl rfl)
  · refine ⟨120068 + 52 * d + p, .inr (.inr ⟨d - 2, by omega, ?_⟩), ?_⟩
    · show 120068 + 52 * d + p = 120172 + 52 * (d - 2) + p
      omega
    · unfold spelledF
      rw [if_neg (by omega)]
      have : (120068 + 52 * (d : Int) + (p : Int)).toNat = 120068 + 52 * d + p := by omega
      rw [this]
theorem pieces_wf : ∀ (ds : List Int) (ps : List (Int × Int)), (∀ p ∈ ps, 0 ≤ p.1 ∧ p.1 < 5 ∧ 0 ≤ p.2 ∧ p.2 < 5) → WF (pieces ds ps)
  | [], _, _ => by simp [pieces, WF]
  | _ :: _, [], _ => by simp [pieces, WF]
  | d :: ds, p :: ps, h => by
    have hp := h p List.mem_cons_self
    obtain ⟨g1, hg1, e1⟩ := spelled_is p.1 (d / 48 % 8) hp.1 hp.2.1 (by omega) (by omega)
    obtain ⟨g2, hg2, e2⟩ := spelled_is p.2 (d / 384 % 8) hp.2.2.1 hp.2.2.2 (by omega) (by omega)
    refine ⟨⟨p.1.toNat, g1, by omega, hg1, e1, by omega⟩, ⟨(d % 48).toNat, by omega, rfl, by omega⟩, ⟨_, _, _, rfl⟩, ⟨p.2.toNat, g2, by omega, hg2, e2, by omega⟩, ?_⟩
    exact pieces_wf ds ps fun q hq => h q (List.mem_cons_of_mem _ hq)
theorem pieces_text : ∀ (ds : List Int) (ps : List (Int × Int)), textOf (pieces ds ps) = reportF ds ps
  | [], _ => rfl
  | _ :: _, [] => rfl
  | d :: ds, p :: ps => by
    show spelledF p.1 (d / 48 % 8) ++ (signF d ++ (spelledF p.2 (d / 384 % 8) ++ textOf (pieces ds ps))) = pieceF d p ++ reportF ds ps
    rw [pieces_text ds ps]
    unfold pieceF
    exact ((Str.append_assoc _ _ _).trans (Str.append_assoc _ _ _)).symm
theorem text_ne {x : Str} {c : Int × Bool} {r : List Piece} (h : 0 < x.length) : (textOf ((x, c) :: r) != Str.ofString "") = true := by
  simp only [bne_iff_ne, ne_eq]
  intro e
  have h1 := congrArg Str.length e
  have h2 : (textOf ((x, c) :: r)).length = x.length + (textOf r).length := Str.length_append _ _
  rw [h2] at h1
  have h3 : (Str.ofString "").length = 0 := rfl
  omega
theorem pieces_code : ∀ (ds : List Int) (ps : List (Int × Int)), (pieces ds ps).map (·.2.1) = dueF ds ps
  | [], _ => rfl
  | _ :: _, [] => rfl
  | d :: ds, p :: ps => by
    simp only [pieces, List.map_cons, dueF, pieces_code ds ps]
theorem pieces_len : ∀ (ds : List Int) (ps : List (Int × Int)), (pieces ds ps).length ≤ 3 * ds.length
  | [], _ => Nat.le_refl _
  | _ :: _, [] => Nat.zero_le _
  | d :: ds, p :: ps => by
    have := pieces_len ds ps
    simp only [pieces, List.length_cons]
    omega
theorem paired_intsAre {vs : List Value} {ns : List Int} (x : Paired IsInt vs ns) : IntsAre vs ns := by
  induction x with
  | nil => exact .nil
  | cons h _ ih => obtain ⟨t, rfl⟩ := h; exact .cons _ _ ih
theorem max_is {b2 b3 : Bool} {M : Int} (h : M ∈ (1 :: ((if b2 then [2] else []) ++ (if b3 then [3] else [])) : List Int)) (hm : ∀ a ∈ (1 :: ((if b2 then [2] else []) ++ (if b3 then [3] else [])) : List Int), a ≤ M) : M = ((if b3 then 3 else if b2 then 2 else 1 : Nat) : Int) := by
  cases b2 <;> cases b3 <;> simp at h hm ⊢ <;> omega
section
variable {prog : Program} {w : World} {A : Around} {E : Value → Shared → Prop} {s : Shared} {h₀ : Heap} {L : Addr} {m : Str → Option Value} {news : Ledger}
theorem max_K {l : Addr} {its : Array Value} {ns : List Int} {z : Int} {Q : Value → Shared → Prop} (hh : A.handled = none) (F : Fr h₀ L s.heap m) (N : News h₀ L s.heap news)
    (hl : s.heap.IsList l its) (hi : IntsAre its.toList ns) (hne : 0 < ns.length) (hz : ∀ M, M ∈ ns → (∀ a ∈ ns, a ≤ M) → M = z)
    (h : ∀ h' (t : Tok) tk, Fr h₀ L h' m → News h₀ L h' news → Q (.int z t) { s with heap := h', toks := tk }) :
    wpAny (model prog w) A (call (.builtin "max") [.ref l]) Q E s :=
  max_list_N (vs := its.toList) hh F N (by simpa using hl) hi hne fun h' M t tk F' N' a b => hz M a b ▸ h h' t tk F' N'
theorem tell_first {D : Addr} {o : Obj} {l5 : Ledger} {h : Heap} (N : News h₀ L h ((D, o) :: l5)) (hs : ∀ p ∈ news, p ∈ l5) : News h₀ L h ((D, o) :: news) := fun p hp => by
  rcases List.mem_cons.mp hp with rfl | hp
  · exact N _ List.mem_cons_self
  · exact N p (List.mem_cons_of_mem _ (hs p hp))
theorem we_two {J : Nat → (Str → Option Value) → Ledger → Prop} {i i' : Nat} {Q : Flow → Shared → Prop} {h' : Heap} {tk : Nat} {m' : Str → Option Value} {c S : Addr} {oc oS : Obj} {rest l6 : Ledger} (F : Fr h₀ L h' m') (N : News h₀ L h' l6) (hc : (c, oc) ∈ l6) (hS : (S, oS) ∈ l6) (hs : ∀ p ∈ rest, p ∈ l6) (hlt : i' < i) (hJ : J i' m' ((c, oc) :: (S, oS) :: rest)) :
    WE h₀ L J i Q s .next { s with heap := h', toks := tk } := ⟨i', h', tk, m', _, hlt, rfl, F, fun p hp => N p (by
      rcases List.mem_cons.mp hp with rfl | hp
      · exact hc
      · rcases List.mem_cons.mp hp with rfl | hp
        · exact hS
        · exact hs p hp), hJ⟩
theorem add_L {l b : Addr} {its its2 : Array Value} {Q : Value → Shared → Prop} (F : Fr h₀ L s.heap m) (N : News h₀ L s.heap news) (hl : s.heap.IsList l its) (hb : s.heap.IsList b its2)
    (h : ∀ D h', Fr h₀ L h' m → News h₀ L h' ((D, W.listOf (its.toList ++ its2.toList).toArray 0) :: news) → (∀ p ∈ news, p.1 < D) → Q (.ref D) { s with heap := h' })
    (hsz : its.size + its2.size ≤ sizeLine) :
    wpAny (model prog w) A (binaryOp .Add (.ref l) (.ref b)) Q E s :=
  add_arrays F N hl hb (fun h' F' N' => h _ h' F' N' fun p hp => Heap.lt_size (N p hp).1) hsz
theorem we_of {J : Nat → (Str → Option Value) → Ledger → Prop} {i i' : Nat} {Q : Flow → Shared → Prop} {h' : Heap} {tk : Nat} {m' : Str → Option Value} {news' l6 : Ledger} (F : Fr h₀ L h' m') (N : News h₀ L h' l6) (hs : ∀ p ∈ news', p ∈ l6) (hlt : i' < i) (hJ : J i' m' news') :
    WE h₀ L J i Q s .next { s with heap := h', toks := tk } := ⟨i', h', tk, m', news', hlt, rfl, F, fun p hp => N p (hs p hp), hJ⟩
end
end Mine
end
section
open PySem PySem.W PySem.Calls PyProof.Rows PyProof.V PySem.Spec
set_option maxRecDepth 100000
set_option maxHeartbeats 0
namespace Mine
section
variable {prog : Program} {w : World} {A : Around} {E : Value → Shared → Prop} {s : Shared} {h₀ : Heap} {L : Addr} {m : Str → Option Value} {news : Ledger}
theorem src_rangeC {r : Addr} {a b c : Int} {t u v : Tok} {n : Nat} {av : List Addr} {Q : Value → Shared → Prop}
    (hh : A.handled = none) (F : Fr h₀ L s.heap m) (N : News h₀ L s.heap news) (hr : IsRange s.heap r a b c t u v) (hsm : Builtin.Range.small a b c = true) (hn : Builtin.Range.rangeSize a b c = ((n : Nat) : Int))
    (hav : ∀ b ∈ av, b < s.heap.objs.size)
    (h : ∀ h', (∀ b o, s.heap.get? b = some o → h'.get? b = some o) → (∀ (x : Str) (px : Pos), SrcOk prog w A h₀ L m (.Name x px) (.ref s.heap.objs.size) h' news av n (fun i v _ => ∃ t, v = .int (a + (i : Int) * c) t)) → Q (.ref s.heap.objs.size) { s with heap := h' }) :
    wpAny (model prog w) A (pyIter (.ref r)) Q E s := by
  refine wpAny_pyIter_range hr hsm ?_
  have up : ∀ d o, s.heap.get? d = some o → (s.heap.push { cls := .type "range_iterator", data := .fields #[rawInt a, rawInt (Builtin.Range.rangeSize a b c), rawInt c] }).get? d = some o := fun d o e => Heap.get?_push_of_some _ e
  have W := Walks.range (prog := prog) (w := w) (I := s.heap.objs.size) hh a c n
  refine h _ up fun x px => ⟨_, _, _, _, _, rfl, KTurns.ofWalks W fun _ _ _ _ _ _ q => go_name q, W.self 0, ?_, ?_, ?_, ?_, ?_, ?_, ?_, F.keeps up, N.grown up⟩
  · simpa using Nat.ne_of_lt F.ns.lt
  · intro b hb hm; exact Nat.ne_of_lt (hav b hb) (List.mem_singleton.mp hm)
  · intro b hb; rw [List.mem_singleton.mp hb]; exact fresh_of F (Nat.le_refl _)
  · intro b hb
    show b < (s.heap.push _).objs.size
    rw [List.mem_singleton.mp hb, Heap.size_push]; exact Nat.lt_succ_self _
  · intro i h st b hb; rw [List.mem_singleton.mp hb]; exact ⟨_, st⟩
  · intro p hp hm; exact Nat.ne_of_lt (Heap.lt_size (N p hp).1) (List.mem_singleton.mp hm)
  · show IsRangeIter _ _ _ _ _
    rw [hn]
    have e : a + (((0 : Nat) : Int)) * c = a := by simp
    rw [e]
    simpa using Heap.get?_push_size s.heap rfl
theorem item_lst2 {value slice : Expr} {S0 : Addr} {o : Obj} {its : Array Value} {n : Nat} {k : Int} {u : Tok} {x : Value} {Q : Value → Shared → Prop} (N : News h₀ L s.heap news) (hm : (S0, o) ∈ news) (ho : o.cls = .type "list") (hd : o.data = .seq its n) (hk : 0 ≤ k) (hk2 : k < 1000) (hx : its[k.toNat]? = some x) (h : Q x s)
    (hs' : subscripted slice false (.ref S0) (.int k u) = operate [.ref S0, .int k u] (getItem (.ref S0) (.int k u)) := by with_unfolding_all rfl) :
    wpAny (model prog w) A (subscriptTail value slice (.ref S0) (.int k u)) Q E s :=
  have hl := isList_of N hm ho hd
  tail_any hl.typeIs slot_list_getitem.lookup (wpAny_getItem_list hl hk (by omega) hx h) hs'
theorem slice3 {value slice : Expr} {S0 : Addr} {its : Array Value} {n : Nat} {k j : Int} {u u' : Tok} {x y z : Value} {Q : Value → Shared → Prop} (F : Fr h₀ L s.heap m) (N : News h₀ L s.heap news) (hm : (S0, W.listOf its n) ∈ news) (hk : 0 ≤ k) (hj : j = k + 3) (hk2 : its.size ≤ 1000) (hx : its[k.toNat]? = some x) (hy : its[k.toNat + 1]? = some y) (hz : its[k.toNat + 2]? = some z)
    (h : ∀ D h', Fr h₀ L h' m → News h₀ L h' ((D, W.listOf #[x, y, z] 0) :: news) → (∀ p ∈ news, p.1 < D) → Q (.ref D) { s with heap := h' })
    (hs : subscripted slice false (.ref S0) (.ref s.heap.objs.size) = operate [.ref s.heap.objs.size, .ref S0] (getItem (.ref S0) (.ref s.heap.objs.size)) := by with_unfolding_all rfl) (ht : ∀ r, letTemporaryGo value (.ref S0) r = pure () := by intro _; with_unfolding_all rfl) :
    wpAny (model prog w) A (subscriptTail value slice (.ref S0) (.ref s.heap.objs.size)) Q E { s with heap := s.heap.push { cls := .type "slice", data := .fields #[.int k u, .int j u', .none] } } := by
  obtain ⟨k, rfl⟩ := Int.eq_ofNat_of_zero_le hk
  subst hj
  have hx' : its[k]? = some x := hx
  have hy' : its[k + 1]? = some y := hy
  have hz' : its[k + 2]? = some z := hz
  have hlt : k + 2 < its.size := by
    by_cases h9 : k + 2 < its.size
    · exact h9
    · rw [Array.getElem?_eq_none (by omega)] at hz'; cases hz'
  refine kmk_slice_lit (zs := [x, y, z]) F N (isList_of N hm rfl rfl) (.int _ _) (.int _ _) ?_ h hs ht (Nat.le_trans hk2 (by decide))
  have e := slicePick_run its k (k + 3) (by omega) (by omega)
  have e2 : ((k : Int) + 3) = ((k + 3 : Nat) : Int) := by omega
  rw [e2]
  refine (congrArg Array.toList e).trans ?_
  rw [List.toList_toArray, show k + 3 - k = 3 by omega]
  have d : its.toList.drop k = x :: y :: z :: its.toList.drop (k + 3) := by
    rw [List.drop_eq_getElem_cons (by simp; omega), List.drop_eq_getElem_cons (by simp; omega), List.drop_eq_getElem_cons (by simp; omega)]
    simp only [Array.getElem_toList]
    rw [Array.getElem?_eq_getElem (by omega)] at hx' hy' hz'
    rw [Option.some.inj hx', Option.some.inj hy', Option.some.inj hz']
  rw [d]
  rfl
end
end Mine
end
section
open PySem PySem.W PySem.Calls PyProof.Rows PyProof.V PySem.Spec
set_option maxRecDepth 100000
set_option maxHeartbeats 0
namespace Mine
theorem fillKi (h : Heap) (w : World) : PySem.Challenge.rw_sn0103_01 = PySem.Challenge.rw_sn0103_01 ∧ (K w.params).In h = (K w.params).In h := by
  k_fill
  exact ⟨rfl, rfl⟩
section
variable {w : World} {mean : ExcName → Option Value} {mg mb : Str → Option Value} {dp un : Nat} {gd : Option (List Code)} {cn : Str} {cs : Scope} {a : Addr} {ccd : Value} {cl : List (Str × Addr)} {outer : List Env} {A₀ : Around} {base h₀ : Heap} {L : Addr} {m : Str → Option Value} {news : List (Addr × Obj)} {s : Shared} {Q E : Value → Shared → Prop}
theorem isnt_call {x : Int} {u : Tok} (B : Below A₀ base outer h₀) (F : Fr h₀ L s.heap m) (X : (K w.params).In h₀) (N : News h₀ L s.heap news) (T : Top qV (looseW qV looseV) mean mg mb h₀) (hk : cs.kind = .function)
    {b : Bool} (hb : decide (x ≥ 256) = b) (hd : dp + 2 < recursionLimit) (_hu : un + 8 * 2 < cLine)
    (ret : ∀ h' tk', Fr h₀ L h' m → News h₀ L h' news → Q (.bool b) { s with heap := h', toks := tk' }) :
    wpAny (model rwP w) (ktrTop dp un gd cn cs L a ccd cl outer) (call (.ref 243) [.int x u]) Q E s := by
  subst hb
  refine wpAny_call ?_
  k_dflt ktr_enter
  k_steps
  rename_i kF kN _ _
  exact ret _ _ kF kN
theorem ist_call {x : Int} {u : Tok} (B : Below A₀ base outer h₀) (F : Fr h₀ L s.heap m) (X : (K w.params).In h₀) (N : News h₀ L s.heap news) (T : Top qV (looseW qV looseV) mean mg mb h₀) (hk : cs.kind = .function)
    {b : Bool} (hb : decide (x < 256) = b) (hd : dp + 2 < recursionLimit) (_hu : un + 8 * 2 < cLine)
    (ret : ∀ h' tk', Fr h₀ L h' m → News h₀ L h' news → Q (.bool b) { s with heap := h', toks := tk' }) :
    wpAny (model rwP w) (ktrTop dp un gd cn cs L a ccd cl outer) (call (.ref 236) [.int x u]) Q E s := by
  subst hb
  refine wpAny_call ?_
  k_dflt ktr_enter
  k_steps
  rename_i kF kN _ _
  exact ret _ _ kF kN
theorem iseof_call {x : Int} {u : Tok} (B : Below A₀ base outer h₀) (F : Fr h₀ L s.heap m) (X : (K w.params).In h₀) (N : News h₀ L s.heap news) (T : Top qV (looseW qV looseV) mean mg mb h₀) (hk : cs.kind = .function)
    {b : Bool} (hb : decide (x = 0) = b) (hd : dp + 2 < recursionLimit) (_hu : un + 8 * 2 < cLine)
    (ret : ∀ h' tk', Fr h₀ L h' m → News h₀ L h' news → Q (.bool b) { s with heap := h', toks := tk' }) :
    wpAny (model rwP w) (ktrTop dp un gd cn cs L a ccd cl outer) (call (.ref 250) [.int x u]) Q E s := by
  subst hb
  refine wpAny_call ?_
  k_dflt ktr_enter
  k_steps
  rename_i kF kN _ _
  exact ret _ _ kF kN
end
end Mine
end
section
open PySem PySem.W PySem.Calls PyProof.Rows PyProof.V PySem.Spec
set_option maxRecDepth 100000
set_option maxHeartbeats 0
namespace Mine
theorem paired_rev {α β : Type} {F : α → β → Prop} {l : List α} {l' : List β} (x : Paired F l l') : ∀ {i : Nat} {b : β}, l'[i]? = some b → ∃ a, l[i]? = some a ∧ F a b := by
  induction x with
  | nil => intro i a h; simp at h
  | cons hab _ ih =>
    intro i a h
    cases i with
    | zero =>
      simp only [List.getElem?_cons_zero, Option.some.injEq] at h ⊢
      exact ⟨_, rfl, h ▸ hab⟩
    | succ i =>
      simp only [List.getElem?_cons_succ] at h ⊢
      exact ih h
theorem dueF_at (ds : List Int) (ps : List (Int × Int)) : ∀ (i : Nat) (d : Int) (p : Int × Int), ds[i]? = some d → ps[i]? = some p → (dueF ds ps)[3 * i]? = some (256 + p.1) ∧ (dueF ds ps)[3 * i + 1]? = some (7 + d % 48) ∧ (dueF ds ps)[3 * i + 2]? = some (256 + p.2) := by
  induction ds generalizing ps with
  | nil => intro i d p h; simp at h
  | cons d ds ih =>
    intro i d' p hd hp
    cases ps with
    | nil => simp at hp
    | cons q ps =>
      cases i with
      | zero =>
        simp only [List.getElem?_cons_zero, Option.some.injEq] at hd hp
        subst hd hp
        exact ⟨rfl, rfl, rfl⟩
      | succ i =>
        simp only [List.getElem?_cons_succ] at hd hp
        exact ih ps i d' p hd hp
theorem app_some {α : Type} {l l' : List α} {i : Nat} {x : α} (h : l[i]? = some x) : (l ++ l')[i]? = some x := by
  have hlt : i < l.length := by
    by_cases h9 : i < l.length
    · exact h9
    · rw [List.getElem?_eq_none (by omega)] at h; cases h
  rw [List.getElem?_append_left hlt]; exact h
theorem due_item {its : Array Value} {ds : List Int} {ps : List (Int × Int)} {i : Nat} {d : Int} {p : Int × Int} (x : Paired IsInt its.toList (dueF ds ps ++ [0])) (hd : ds[i]? = some d) (hp : ps[i]? = some p) :
    ∃ t u v, its[3 * i]? = some (.int (256 + p.1) t) ∧ its[3 * i + 1]? = some (.int (7 + d % 48) u) ∧ its[3 * i + 2]? = some (.int (256 + p.2) v) := by
  obtain ⟨h1, h2, h3⟩ := dueF_at ds ps i d p hd hp
  obtain ⟨a, ha, t, rfl⟩ := paired_rev x (app_some h1)
  obtain ⟨b, hb, u, rfl⟩ := paired_rev x (app_some h2)
  obtain ⟨c, hc, v, rfl⟩ := paired_rev x (app_some h3)
  exact ⟨t, u, v, by simpa using ha, by simpa using hb, by simpa using hc⟩
section
variable {s : Shared} {h₀ : Heap} {L : Addr}
theorem fe_tup {own rest R l6 : Ledger} {S0 SY T : Addr} {o o0 oY oT : Obj} {m2 : Str → Option Value} {J : (Str → Option Value) → Ledger → Prop} {Q : Flow → Shared → Prop} {h6 : Heap} {tk : Nat}
    (hR : R = rest ++ own) (F : Fr h₀ L h6 m2) (N : News h₀ L h6 l6) (hS : (S0, o) ∈ l6) (hY : (SY, oY) ∈ l6) (hT : (T, oT) ∈ l6) (hs : ∀ p ∈ R, p ∈ l6) (l1 : S0 < T) (l2 : SY < T) (l3 : ∀ p ∈ R, p.1 < T) (hJ : J m2 ((S0, o) :: (SY, oY) :: (T, oT) :: rest)) :
    FE h₀ L own ((S0, o0) :: (SY, oY) :: rest) J Q s .next { s with heap := h6, toks := tk } := by
  refine ⟨h6, tk, m2, _, rfl, F, fun p hp => N p ?_, fun p hp => ?_, hJ⟩
  · simp only [List.cons_append, List.mem_cons] at hp
    rcases hp with rfl | rfl | rfl | hp
    · exact hS
    · exact hY
    · exact hT
    · exact hs p (hR ▸ hp)
  · simp only [List.mem_cons] at hp
    rcases hp with rfl | rfl | rfl | hp
    · exact .inl ⟨_, List.mem_cons_self, rfl⟩
    · exact .inl ⟨_, List.mem_cons_of_mem _ List.mem_cons_self, rfl⟩
    · refine .inr fun q hq => ?_
      simp only [List.cons_append, List.mem_cons] at hq
      rcases hq with rfl | rfl | hq
      · exact l1
      · exact l2
      · exact l3 q (hR ▸ hq)
    · exact .inl ⟨p, List.mem_cons_of_mem _ (List.mem_cons_of_mem _ hp), rfl⟩
end
end Mine
end
section
open PySem PySem.W PySem.Calls PyProof.Rows PyProof.V PySem.Spec
set_option maxRecDepth 100000
namespace Mine
theorem cut {M : Model} {A : Around} {α : Type} {t : Sem α} {Q : α → Shared → Prop} {E : Value → Shared → Prop} {s : Shared} {h0 : Heap} {tk0 : Nat} (P : Heap → Prop) (hP : P h0)
    (k : ∀ h tk, P h → wpAny M A t Q E { s with heap := h, toks := tk }) : wpAny M A t Q E { s with heap := h0, toks := tk0 } := k h0 tk0 hP
end Mine
namespace Mine
open PySem PySem.W PySem.Calls PyProof.Rows PyProof.V PySem.Spec
theorem off1_all {D : Addr} (l : Ledger) (h : LCg.Off1 D l) : ∀ p ∈ l, p.1 ≠ D := by
  induction l with
  | nil => exact fun _ hm => nomatch hm
  | cons q r ih =>
    intro p hp
    rcases List.mem_cons.mp hp with rfl | hp
    · exact h.1
    · exact ih h.2 p hp
end Mine
end
section
open PySem PySem.W PySem.Calls PyProof.Rows PyProof.V PySem.Spec
set_option maxRecDepth 100000
namespace Mine
open PySem.Builtin.Re
noncomputable def driveN : Nat → Sre.M → Option Sre.M
  | 0, _ => none
  | k + 1, m => if (m.runFor reTurnSteps).outcome.isSome then some (m.runFor reTurnSteps) else driveN k (m.runFor reTurnSteps)
section
variable {M : Model} {A : Around} {E : Value → Shared → Prop} {s : Shared}
theorem drive_any {m' : Sre.M} {Q : Sre.M → Shared → Prop} (hQ : Q m' s) : ∀ (k n : Nat) (m : Sre.M), driveN k m = some m' → k ≤ n → wpAny M A (reDrive n m) Q E s
  | 0, _, _, h, _ => by cases h
  | k + 1, n, m, h, hk => by
    obtain ⟨n, rfl⟩ : ∃ j, n = j + 1 := ⟨n - 1, by omega⟩
    show wpAny M A (if (m.runFor reTurnSteps).outcome.isSome then pure (m.runFor reTurnSteps) else do rule "sre.turn"; reDrive n (m.runFor reTurnSteps)) Q E s
    unfold driveN at h
    split
    · rename_i ho
      rw [if_pos ho] at h
      cases h
      exact wpAny_pure hQ
    · rename_i ho
      rw [if_neg ho] at h
      exact wpAny_bind (wpAny_rule (drive_any hQ k n _ h (by omega)))
theorem seen_any {m : Sre.M} {Q : PUnit → Shared → Prop} (hQ : Q PUnit.unit s) : ∀ l : List Nat, wpAny M A (forIn l PUnit.unit fun i (_ : PUnit) => if m.seen.has i = true then (rule (Sre.names.getD i "") >>= fun _ => pure (ForInStep.yield PUnit.unit)) else pure (ForInStep.yield PUnit.unit)) Q E s
  | [] => wpAny_pure hQ
  | i :: l => by
    rw [List.forIn_cons]
    by_cases hh : m.seen.has i = true
    · rw [if_pos hh]
      exact wpAny_bind (wpAny_bind (wpAny_rule (wpAny_pure (seen_any hQ l))))
    · rw [if_neg hh]
      exact wpAny_bind (wpAny_pure (seen_any hQ l))
theorem run_none {m m' : Sre.M} {k : Nat} {Q : Option Sre.M → Shared → Prop} (h : driveN k m = some m') (hk : k ≤ 2 ^ 64) (ho : m'.outcome = some .failed) (hQ : Q none s) : wpAny M A (reRunToEnd m) Q E s := by
  unfold reRunToEnd
  refine wpAny_bind (drive_any ?_ k _ m h hk)
  refine wpAny_bind (wpAny_mono (seen_any (m := m') (Q := fun _ s' => s' = s) rfl _) (fun _ s' e => ?_) fun _ _ e => e)
  subst e
  rw [ho]
  exact wpAny_pure hQ
end
noncomputable def cod43 : Array Nat := #[14, 10, 4, 1, 1, 22, 0, 31, 16, 127, 0, 13, 7, 22, 0, 31, 16, 127, 0, 1]
noncomputable def cod48 : Array Nat := #[14, 14, 4, 1, 1, 9, 4294966783, 0, 0, 2147483648, 0, 0, 0, 0, 0, 13, 11, 9, 4294966783, 0, 0, 2147483648, 0, 0, 0, 0, 0, 1]
noncomputable def names11 : List Str := ["a", "b", "c", "d", "e", "A", "B", "C", "D", "E", "abcde"].map Str.ofString
noncomputable def endsNone (code : Array Nat) (x : Str) : Bool := match driveN 100 (Sre.forSearch code x.cps 0 0 x.cps.size false) with
  | some m => (match m.outcome with | some .failed => true | _ => false)
  | none => false
theorem ends_get {code : Array Nat} {x : Str} (h : endsNone code x = true) : ∃ m', driveN 100 (Sre.forSearch code x.cps 0 0 x.cps.size false) = some m' ∧ m'.outcome = some .failed := by
  unfold endsNone at h
  split at h
  · rename_i m hm
    refine ⟨m, hm, ?_⟩
    split at h
    · assumption
    · cases h
  · cases h
theorem none43 : (names11.all (endsNone cod43)) = true := by decide +kernel
theorem none48 : (names11.all (endsNone cod48)) = true := by decide +kernel
end Mine
end
section
open PySem PySem.W PySem.Calls PyProof.Rows PyProof.V PySem.Spec
set_option maxRecDepth 100000
namespace Mine
theorem re_plain : PlainAttrs "re.Pattern" :=
  ⟨⟨"object.__getattribute__", by rw [typeLookup_type, builtinLookup_eq_fast]; kernel_rfl, by decide +kernel⟩, by rw [typeLookup_type, builtinLookup_eq_fast]; kernel_rfl⟩
theorem re_slot : Slot "re.Pattern" "search" "re.Pattern.search" :=
  .of (owner := "re.Pattern") (n := "search") (by rw [typeLookup_type, builtinLookup_eq_fast]; kernel_rfl) (by decide +kernel) (by decide +kernel) (by decide +kernel)
    (by first | exact .inl (by decide +kernel) | exact .inr (by decide +kernel)) (by rw [isSubtype_type]; kernel_rfl)
theorem re_type : typeOf (.builtin "re.Pattern.search") = pure (.type "method_descriptor") := by show builtinType _ = _; rw [builtinType_eq_fast]; kernel_rfl
theorem re_entry : entryFor table "re.Pattern.search" = some Builtin.«re.Pattern.search» := entryFor_of_tree (by kernel_rfl)
theorem re_args (a b : Value) : argsOk "re.Pattern.search" ⟨[a, b], []⟩ := by
  unfold argsOk; kernel_rfl
end Mine
end
section
open PySem PySem.W PySem.Calls PyProof.Rows PyProof.V PySem.Spec
set_option maxRecDepth 100000
namespace Mine
open PySem.Builtin.Re
section
variable {prog : Program} {w : World} {A : Around} {E : Value → Shared → Prop} {s : Shared}
theorem re_target {P C : Addr} {o oC : Obj} {pat fl : Value} {tg tk9 : Tok} {items : Array Value} {n : Nat} {x : Str} {t : Tok} {Q : ReTarget → Shared → Prop} (ho : s.heap.get? P = some o) (hd : o.data = .fields #[pat, fl, .int 0 tg, .none, .none, .ref C, .int 0 tk9])
    (hC : s.heap.get? C = some oC) (hCd : oC.data = .seq items n)
    (h : Q { pattern := .ref P, string := .str x t, code := (items.map reRawOf).map (·.toNat), text := x.cps, kind := 0, groups := 0, pos := min (0 : Int).toNat x.cps.size, lim := min (2 ^ 63 - 1 : Int).toNat x.cps.size } s) :
    wpAny (model prog w) A (reTarget "re.Pattern.search" "search" ⟨[.ref P, .str x t], []⟩) Q E s := by
  unfold reTarget
  refine wpAny_bind (wpAny_of_eq (a := [some (.str x t), none, none]) (by rfl) ?_)
  refine wpAny_bind (wpAny_pure ?_)
  refine wpAny_bind (wpAny_pure ?_)
  refine wpAny_bind (wpAny_fieldsOf ho hd ?_)
  refine wpAny_bind (wpAny_of_eq (a := (x.cps, 0)) (by rfl) ?_)
  refine wpAny_bind (wpAny_of_eq (a := ()) (by rfl) ?_)
  unfold reRawItems
  refine wpAny_bind (wpAny_bind (wpAny_seqItems hC hCd (wpAny_pure ?_)))
  exact wpAny_pure h
theorem re_none {P C : Addr} {o oC : Obj} {pat fl : Value} {tg tk9 : Tok} {items : Array Value} {n : Nat} {x : Str} {t : Tok} {code : Array Nat} {Q : Value → Shared → Prop} (ho : s.heap.get? P = some o) (hc : o.cls = .type "re.Pattern") (hd : o.data = .fields #[pat, fl, .int 0 tg, .none, .none, .ref C, .int 0 tk9])
    (hC : s.heap.get? C = some oC) (hCd : oC.data = .seq items n) (hcode : (items.map reRawOf).map (·.toNat) = code) (hx : x.cps.size ≤ 1000) (he : endsNone code x = true) (h : Q .none s) :
    wpAny (model prog w) A (call (.builtin "re.Pattern.search") [.ref P, .str x t]) Q E s := by
  refine wpAny_call_entry re_slot ⟨o, ho, hc⟩ re_entry ?_ (re_args _ _)
  show wpAny _ _ (reTarget "re.Pattern.search" "search" ⟨[.ref P, .str x t], []⟩ >>= fun t => reAnswer t (Sre.forSearch t.code t.text t.groups t.pos t.lim false)) _ _ s
  refine wpAny_bind (re_target ho hd hC hCd ?_)
  obtain ⟨m', h1, h2⟩ := ends_get he
  unfold reAnswer
  have e1 : min (0 : Int).toNat x.cps.size = 0 := by simp
  have e2 : min (2 ^ 63 - 1 : Int).toNat x.cps.size = x.cps.size := Nat.min_eq_right (Nat.le_trans hx (by decide))
  dsimp only
  rw [e1, e2, hcode]
  refine wpAny_bind (run_none h1 (by decide) h2 ?_)
  exact wpAny_pure ⟨_, rfl, h⟩
theorem re_method {P : Addr} {o : Obj} {pl : Sem Bool} {Q : Value × List Value → Shared → Prop} (ho : s.heap.get? P = some o) (hc : o.cls = .type "re.Pattern") (hdn : o.dict = none) (h : Q (.builtin "re.Pattern.search", [.ref P]) s) : wpAny (model prog w) A (getMethod (.ref P) (Str.ofString "search") pl) Q E s :=
  getMethod_builtin (T := "re.Pattern") ⟨o, ho, hc⟩ re_plain re_slot re_type (fun a e => by cases e; exact ⟨o, ho, hdn⟩) h
end
end Mine
end
section
open PySem PySem.W PySem.Calls PyProof.Rows PyProof.V PySem.Spec
set_option maxRecDepth 100000
set_option maxHeartbeats 0
namespace Mine
theorem fillKk (h : Heap) (w : World) : PySem.Challenge.rw_sn0103_01 = PySem.Challenge.rw_sn0103_01 ∧ (K w.params).In h = (K w.params).In h := by
  k_fill
  exact ⟨rfl, rfl⟩
theorem sz11 : ∀ x ∈ names11, x.cps.size ≤ 1000 := by decide +kernel
section
variable {w : World} {mean : ExcName → Option Value} {mg mb : Str → Option Value} {dp un : Nat} {gd : Option (List Code)} {cn : Str} {cs : Scope} {a : Addr} {ccd : Value} {cl : List (Str × Addr)} {outer : List Env} {A₀ : Around} {base h₀ : Heap} {L : Addr} {m : Str → Option Value} {news : List (Addr × Obj)} {s : Shared} {Q E : Value → Shared → Prop}
theorem conv_call {x : Str} {self : Value} {u : Tok} {b : Bool} (B : Below A₀ base outer h₀) (F : Fr h₀ L s.heap m) (X : (K w.params).In h₀) (N : News h₀ L s.heap news) (T : Top qV (looseW qV looseV) mean mg mb h₀) (hk : cs.kind = .function)
    (hx : x ∈ names11) (hd : dp + 2 < recursionLimit) (_hu : un + 8 * 2 < cLine)
    (ret : ∀ t' h' tk', Fr h₀ L h' m → News h₀ L h' news → Q (.str x t') { s with heap := h', toks := tk' }) :
    wpAny (model rwP w) (ktrTop dp un gd cn cs L a ccd cl outer) (call (.ref 70) [self, .str x u] [(Str.ofString "name", .bool b)]) Q E s := by
  refine wpAny_call ?_
  k_dflt ktr_enter
  rename_i g' L' h' FG F' N' B' X' T'
  have hsz : x.cps.size ≤ 1000 := sz11 x hx
  have e43 := List.all_eq_true.mp none43 x hx
  have e48 := List.all_eq_true.mp none48 x hx
  k_steps
  · rename_i F9 _
    have K9 : (K w.params).In _ := X'.keeps (by first | exact F9.keep | exact F'.keep)
    refine re_method (K9 43 _ (by rfl)) rfl rfl ?_
    k_steps
    refine re_none (code := cod43) (K9 43 _ (by rfl)) rfl rfl (K9 42 _ (by rfl)) rfl (by decide +kernel) hsz e43 ?_
    k_steps
    rename_i kF kN _ _
    exact ret _ _ _ kF kN
  · rename_i F9 _
    have K9 : (K w.params).In _ := X'.keeps (by first | exact F9.keep | exact F'.keep)
    refine re_method (K9 48 _ (by rfl)) rfl rfl ?_
    k_steps
    refine re_none (code := cod48) (K9 48 _ (by rfl)) rfl rfl (K9 47 _ (by rfl)) rfl (by decide +kernel) hsz e48 ?_
    k_steps
    rename_i kF kN _ _
    exact ret _ _ _ kF kN
end
end Mine
end
section
open PySem PySem.W PySem.Calls PyProof.Rows PyProof.V PySem.Spec
set_option maxRecDepth 100000
set_option maxHeartbeats 0
namespace Mine
theorem fillKj (h : Heap) (w : World) : PySem.Challenge.rw_sn0103_01 = PySem.Challenge.rw_sn0103_01 ∧ (K w.params).In h = (K w.params).In h := by
  k_fill
  exact ⟨rfl, rfl⟩
noncomputable def nameF (p : Int) : Str := Txt.item (Str.ofString "abcde") p
noncomputable def gameAt (i : Nat) (d : Int) (p : Int × Int) : Str × Str := (if i % 2 = 1 then Txt.upper (nameF (if d % 2 = 1 then p.2 else p.1)) else nameF (if d % 2 = 1 then p.2 else p.1), nameF (if d % 2 = 1 then p.1 else p.2))
noncomputable def gamesTo (ds : List Int) (i : Nat) : List (Str × Str) := (Str.ofString "abcde", Str.ofString "e") :: (List.range i).map fun j => gameAt j (ds.getD j 0) ((pairsTo 5).getD j (0, 0))
noncomputable def TupSS (l : Ledger) (v : Value) (d : Str × Str) : Prop := ∃ T t u, v = .ref T ∧ (T, tupObj #[.str d.1 t, .str d.2 u]) ∈ l
theorem gamesTo_succ {ds : List Int} {i : Nat} {d : Int} {p : Int × Int} (hd : ds[i]? = some d) (hp : (pairsTo 5)[i]? = some p) : gamesTo ds (i + 1) = gamesTo ds i ++ [gameAt i d p] := by
  unfold gamesTo
  rw [List.range_succ, List.map_append, List.map_singleton, List.getD_eq_getElem?_getD, List.getD_eq_getElem?_getD, hd, hp]
  rfl
theorem par_yes {d : Int} (h : (7 + d % 48).fmod 2 = 0) : d % 2 = 1 := by
  rw [Int.fmod_eq_emod_of_nonneg _ (by decide)] at h
  omega
theorem par_no {d : Int} (h : ¬ (7 + d % 48).fmod 2 = 0) : ¬ d % 2 = 1 := by
  rw [Int.fmod_eq_emod_of_nonneg _ (by decide)] at h
  omega
theorem idx_yes {a : Int} {i : Nat} (ha : a = 0 + (i : Int) * 3) (h : a.fmod 2 = 1) : i % 2 = 1 := by
  rw [Int.fmod_eq_emod_of_nonneg _ (by decide)] at h
  omega
theorem idx_no {a : Int} {i : Nat} (ha : a = 0 + (i : Int) * 3) (h : ¬ a.fmod 2 = 1) : ¬ i % 2 = 1 := by
  rw [Int.fmod_eq_emod_of_nonneg _ (by decide)] at h
  omega
theorem lt11 {i : Nat} (h1 : i < 11) (h2 : ¬ i = 10) : i + 1 < 11 := by omega
theorem up_fit (p : Int) (h0 : 0 ≤ p) (h1 : p < 5) : Builtin.Str.tooLong (Txt.upper (nameF p)).length = false := by
  obtain ⟨p, rfl⟩ := Int.eq_ofNat_of_zero_le h0
  have : ∀ p : Nat, p < 5 → Builtin.Str.tooLong (Txt.upper (nameF p)).length = false := by decide +kernel
  exact this p (by omega)
theorem item5 {prog : Program} {w : World} {A : Around} {E : Value → Shared → Prop} {s : Shared} {value slice : Expr} {p : Int} {t u : Tok} {Q : Value → Shared → Prop} (h0 : 0 ≤ p) (h1 : p < 5)
    (h : Q (.str (nameF p) s.toks) { s with toks := s.toks + 1 })
    (hs : subscripted slice false (.str (Str.ofString "abcde") t) (.int (256 + p - 256) u) = operate [.str (Str.ofString "abcde") t, .int (256 + p - 256) u] (getItem (.str (Str.ofString "abcde") t) (.int (256 + p - 256) u)) := by with_unfolding_all rfl)
    (ht : ∀ r, letTemporaryGo value (.str (Str.ofString "abcde") t) r = pure () := by intro _; with_unfolding_all rfl) :
    wpAny (model prog w) A (subscriptTail value slice (.str (Str.ofString "abcde") t) (.int (256 + p - 256) u)) Q E s := by
  have e : (256 + p - 256 : Int) = p := by omega
  have hl : ((Str.ofString "abcde").length : Int) = 5 := by decide
  rw [e] at hs ⊢
  exact item_str (fitsSsize_of (N := 9223372036854775808) (by omega) (by omega) (Int.le_refl _)) (by omega) (by omega) (fun _ => h) hs ht
local macro_rules | `(tactic| walk_at $s:str) => `(tactic| k_extra $s)
local macro_rules | `(tactic| k_all) => `(tactic| assumption)
theorem due30 {ds : List Int} (hl : ds.length = 10) : (dueF ds (pairsTo 5)).length = 30 := dueF_full ds (pairsTo 5) hl
theorem due_last {ds : List Int} (hl : ds.length = 10) : (dueF ds (pairsTo 5) ++ [0])[30]? = some 0 := by
  rw [List.getElem?_append_right (Nat.le_of_eq (due30 hl)), due30 hl]
  rfl
theorem pairs_ok9 : ∀ p ∈ pairsTo 5, 0 ≤ p.1 ∧ p.1 < 5 ∧ 0 ≤ p.2 ∧ p.2 < 5 := by decide +kernel
theorem len31 {prog : Program} {w : World} {A : Around} {E : Value → Shared → Prop} {s : Shared} {h₀ : Heap} {L S0 : Addr} {news : Ledger} {its : Array Value} {n : Nat} {Q : Value → Shared → Prop} (N : News h₀ L s.heap news) (hm : (S0, W.listOf its n) ∈ news) (hz : its.size = 31) (h : ∀ t tk, Q (.int 31 t) { s with toks := tk }) :
    wpAny (model prog w) A (call (.builtin "len") [.ref S0]) Q E s :=
  call_len_list (isList_of N hm rfl rfl) (by rw [hz]; decide) (by rw [hz]; exact h _ _)
section
variable {w : World} {mean : ExcName → Option Value} {mg mb : Str → Option Value} {dp un : Nat} {gd : Option (List Code)} {cn : Str} {cs : Scope} {a : Addr} {ccd : Value} {cl : List (Str × Addr)} {outer : List Env} {A₀ : Around} {base h₀ : Heap} {L : Addr} {m : Str → Option Value} {news : List (Addr × Obj)} {s : Shared} {Q E : Value → Shared → Prop}
theorem games_call {SY : Addr} {its : Array Value} {n : Nat} {ds : List Int} (B : Below A₀ base outer h₀) (F : Fr h₀ L s.heap m) (X : (K w.params).In h₀) (N : News h₀ L s.heap news) (T : Top qV (looseW qV looseV) mean mg mb h₀) (hk : cs.kind = .function)
    (hm : (SY, W.listOf its n) ∈ news) (hv : Paired IsInt its.toList (dueF ds (pairsTo 5) ++ [0])) (hl : ds.length = 10) (hd : dp + 6 < recursionLimit) (hu : un + 8 * 6 < cLine)
    (ret : ∀ D its' n' tl h' tk', Fr h₀ L h' m → News h₀ L h' (news ++ tl) → (∀ q ∈ news, ∀ p ∈ tl, q.1 < p.1) → (D, W.listOf its' n') ∈ tl → Paired (TupSS tl) its'.toList (gamesTo ds 10) → Q (.ref D) { s with heap := h', toks := tk' }) :
    wpAny (model rwP w) (ktrTop dp un gd cn cs L a ccd cl outer) (call (.ref 293) [.ref SY]) Q E s := by
  k_with_none
  k_with "subscriptTail Name Slice ref ref" => (k_here; (with_reducible show wpAny _ _ (subscriptTail _ (Expr.Slice (some _) (some _) none _) (Value.ref _) (Value.ref _)) _ _ _); (with_reducible rename Fr _ _ _ _ => F79); (with_reducible rename News _ _ _ _ => N79); (refine' slice3 (s := ⟨_, _, _, _, _⟩) F79 N79 ?k2 ?k3 ?k4 ?k5 ?k6 ?k7 ?k8 ?_; (case k2 => k_mem); (case k6 => assumption); (case k7 => assumption); (case k8 => assumption); (case k3 => omega); (case k4 => rfl); (case k5 => omega)); intro _ _ _ _ l77; (try k_lt l77))
  k_with "eval Name" => ((with_reducible show wpAny _ _ (eval (Expr.Name _ _) (envOf _ _ _ _ _)) _ _ _); (refine ld (by with_reducible assumption) (by first | with_reducible assumption | exact (if_neg (by decide)).trans (by with_reducible assumption) | exact (if_neg (by decide)).trans ((if_neg (by decide)).trans (by with_reducible assumption))) ?_))
  k_with "call ref" => (k_here; (with_reducible show wpAny _ _ (call (Value.ref 250) _) _ _ _); k_dflt (refine' iseof_call ?k1 ?k2 ?k3 ?k4 ?k5 ?kK ?ko ?kd ?ku ?_; (case k1 => k_asm); (case k2 => k_asm); (case k3 => k_asm); (case k4 => k_asm); (case k5 => k_asm); (case kK => first | exact rfl | assumption); (case ko => first | exact decide_eq_false (by omega) | exact decide_eq_true (by omega)); (case kd => (change _ + 2 < _; ktr_room)); (case ku => (change _ + 8 * 2 < _; ktr_units))); intro _ _ _ _)
  k_with "call ref" => (k_here; (with_reducible show wpAny _ _ (call (Value.ref 243) _) _ _ _); k_dflt (refine' isnt_call ?k1 ?k2 ?k3 ?k4 ?k5 ?kK ?ko ?kd ?ku ?_; (case k1 => k_asm); (case k2 => k_asm); (case k3 => k_asm); (case k4 => k_asm); (case k5 => k_asm); (case kK => first | exact rfl | assumption); (case ko => first | exact decide_eq_false (by omega) | exact decide_eq_true (by omega)); (case kd => (change _ + 2 < _; ktr_room)); (case ku => (change _ + 8 * 2 < _; ktr_units))); intro _ _ _ _)
  k_with "call ref" => (k_here; (with_reducible show wpAny _ _ (call (Value.ref 236) _) _ _ _); k_dflt (refine' ist_call ?k1 ?k2 ?k3 ?k4 ?k5 ?kK ?ko ?kd ?ku ?_; (case k1 => k_asm); (case k2 => k_asm); (case k3 => k_asm); (case k4 => k_asm); (case k5 => k_asm); (case kK => first | exact rfl | assumption); (case ko => first | exact decide_eq_false (by omega) | exact decide_eq_true (by omega)); (case kd => (change _ + 2 < _; ktr_room)); (case ku => (change _ + 8 * 2 < _; ktr_units))); intro _ _ _ _)
  k_with "eval ListComp" => (k_here; k_dflt (refine listComp1 (by k_asm) (by rfl) (by rfl) (by decide) (by decide) ?_))
  k_with "exec For" => (k_here; k_dflt (refine for_J (by k_asm) ?_))
  k_with "exec For Name Call cons nil" => (k_here; k_dflt (refine for_J (by k_asm) ?_))
  k_with "exec For Call" => (k_here; k_dflt (refine for_J (by k_asm) ?_))
  k_with "subscriptTail" => (k_here; (with_reducible show wpAny _ _ (subscriptTail _ _ (Value.str _ _) (Value.int _ _)) _ _ _); k_dflt (refine item5 (by assumption) (by assumption) ?_))
  k_with "subscriptTail" => (k_here; (with_reducible show wpAny _ _ (subscriptTail _ _ (Value.ref _) (Value.int _ _)) _ _ _); k_dflt (refine' item_lst2 ?k1 ?k2 ?k6 ?k7 ?k3 ?k4 ?k5 ?_; (case k1 => k_asm); (case k2 => k_mem); (case k6 => exact rfl); (case k7 => exact rfl); (case k5 => first | assumption | rfl); (case k3 => first | decide | omega); (case k4 => first | decide | omega); k_whole))
  k_with "subscriptTail Name Constant ref int" => (k_here; (with_reducible show wpAny _ _ (subscriptTail _ _ (Value.ref _) (Value.int _ _)) _ _ _); k_dflt (refine' item_lst2 ?k1 ?k2 ?k6 ?k7 ?k3 ?k4 ?k5 ?_; (case k1 => k_asm); (case k2 => k_mem); (case k6 => exact rfl); (case k7 => exact rfl); (case k5 => first | assumption | rfl); (case k3 => first | decide | omega); (case k4 => first | decide | omega); k_whole))
  k_with "call builtin:str.upper" => (k_dflt (refine PySem.SC.upper (up_fit _ (by assumption) (by assumption)) ?_))
  k_with "call builtin:len" => (k_here; k_dflt (refine' len31 ?k1 ?k2 ?k3 ?_; (case k1 => k_asm); (case k2 => k_mem); (case k3 => assumption); k_whole); intro _ _)
  have hlen : its.size = 31 := by
    have h1 := hv.length
    have h2 : (dueF ds (pairsTo 5)).length = 30 := due30 hl
    rw [List.length_append, h2] at h1
    simpa using h1
  refine wpAny_call ?_
  k_dflt ktr_enter
  rename_i g' L' h' FG F' N' B' X' T'
  have N1 : News g' L' h' ((SY, W.listOf its n) :: news) := fun p hp => by
    rcases List.mem_cons.mp hp with rfl | hp
    · exact N' _ hm
    · exact N' p hp
  clear N'
  k_steps
  rename_i T0 h1 l0 S0 h2 l1 h3 F3 N3 t4 tk4 h5 tk5 u1 u2 u3 hR F5 N5 hK5
  obtain ⟨b1, b2, N6⟩ : ∃ b1 b2, News g' L' h5 ((S0, W.listOf #[.ref T0] 0) :: (SY, W.listOf its n) :: ([(T0, tupObj #[.str (Str.ofString "abcde") b1, .str (Str.ofString "e") b2])] ++ news)) := ⟨_, _, fun p hp => N5 p (by simp only [List.cons_append, List.nil_append, List.mem_cons] at hp ⊢; rcases hp with h | h | h | h; exact .inl h; exact .inr (.inr (.inl h)); exact .inr (.inl h); exact .inr (.inr (.inr h)))⟩
  clear N5 N3
  have hS1 : S0 ≠ SY := Nat.ne_of_gt l1.2.1
  refine src_rangeC (by rfl) F5 N6 hR (by decide) (n := 11) (by decide) (av := [S0]) ?_ ?_
  · intro b hb
    rw [List.mem_singleton.mp hb]
    exact Heap.lt_size (N6 _ List.mem_cons_self).1
  intro h7 k7 S7
  refine ⟨_, _, _, _, _, S7 _ _, fun i m₁ l => m₁ (Str.ofString "games") = some (.ref S0) ∧ m₁ (Str.ofString "symbols") = some (.ref SY) ∧ i < 11 ∧ ∃ gs k ex, l = (S0, W.listOf gs k) :: (SY, W.listOf its n) :: (ex ++ news) ∧ (∀ p ∈ ex, ∀ q ∈ news, q.1 < p.1) ∧ (∀ p ∈ ex, p.1 ≠ S0) ∧ gs.size = i + 1 ∧ Paired (TupSS ex) gs.toList (gamesTo ds i), ⟨by with_unfolding_all rfl, by with_unfolding_all rfl, by decide, _, 0, [(T0, _)], rfl, ?_, ?_, rfl, ?_⟩, ?_, ?_⟩
  · intro p hp q hq
    rw [List.mem_singleton.mp hp]
    exact ktn_ltOf l0.2 q hq
  · intro p hp
    rw [List.mem_singleton.mp hp]
    exact Nat.ne_of_lt l1.1
  · exact .cons ⟨T0, b1, b2, rfl, List.mem_cons_self⟩ .nil
  · rintro i v m₁ news₁ h tk own hi ⟨tv, rfl⟩ ⟨hJ1, hJ2, hi11, gs, k, ex, rfl, hJ3, hJ4, hgz, hJ5⟩ hown F1 N1
    obtain ⟨at9, hat⟩ : ∃ at9, at9 = (0 : Int) + (i : Int) * 3 := ⟨_, rfl⟩
    rw [← hat]
    refine asgF_name F1 N1 (by rfl) (by rfl) ?_
    intro h2 tk2 m2 F2' N2 hx2 hy2
    have F2 : Fr g' L' h2 m2 := F2'
    clear F2'
    have hg2 := (hy2 (Str.ofString "games") (by decide)).trans hJ1
    have hs2 := (hy2 (Str.ofString "symbols") (by decide)).trans hJ2
    obtain ⟨R, hRd⟩ : ∃ R, R = (ex ++ news) ++ own := ⟨_, rfl⟩
    have hRS : ∀ p ∈ R, p.1 ≠ S0 := fun p hp => by
      rw [hRd] at hp
      rcases List.mem_append.mp hp with hp | hp
      · rcases List.mem_append.mp hp with hp | hp
        · exact hJ4 p hp
        · exact Nat.ne_of_lt (ktn_ltOf l1.2.2 p hp)
      · exact hown p hp S0 (by simp)
    have N3 : News g' L' h2 ((S0, W.listOf gs k) :: (SY, W.listOf its n) :: R) := fun p hp => N2 p (by rw [hRd] at hp; simpa [List.cons_append, List.append_assoc] using hp)
    clear N2 N1
    by_cases hlast : i = 10
    · subst hlast
      obtain ⟨v0, hv0, t0, rfl⟩ := paired_rev hv (i := 30) (b := 0) (due_last hl)
      have hx0 : its[at9.toNat]? = some (.int 0 t0) := by
        rw [show at9.toNat = 30 by omega]
        simpa using hv0
      k_steps
      simp only [FE]
      k_steps
      rename_i kF kN _ _
      refine ret S0 gs k ((S0, W.listOf gs k) :: ex) _ _ kF (fun p hp => kN p ?_) (fun q hq p hp => ?_) List.mem_cons_self ?_
      · rw [hRd]
        simp only [List.mem_append, List.mem_cons] at hp ⊢
        rcases hp with h | h | h <;> simp [h]
      · rcases List.mem_cons.mp hp with rfl | hp
        · exact ktn_ltOf l1.2.2 q hq
        · exact hJ3 p hp q hq
      · refine paired_mono (fun v d x => ?_) hJ5
        obtain ⟨T9, t9, u9, a1, a2⟩ := x
        exact ⟨T9, t9, u9, a1, List.mem_cons_of_mem _ a2⟩
    · obtain ⟨d, hd9⟩ : ∃ d, ds[i]? = some d := ⟨ds[i]'(by omega), by simp⟩
      have hp10 : (pairsTo 5).length = 10 := by decide
      obtain ⟨p, hp9⟩ : ∃ p, (pairsTo 5)[i]? = some p := ⟨(pairsTo 5)[i]'(by omega), by simp⟩
      obtain ⟨q1, q2, q3, q4⟩ : 0 ≤ p.1 ∧ p.1 < 5 ∧ 0 ≤ p.2 ∧ p.2 < 5 := pairs_ok9 _ (List.mem_of_getElem? hp9)
      obtain ⟨e1, e2, e3, hx0, hx1, hx2'⟩ := due_item hv hd9 hp9
      have hatn : at9.toNat = 3 * i := by omega
      rw [← hatn] at hx0 hx1 hx2'
      clear hatn
      k_steps
      refine LCg.CompEnd.intro (by assumption) (by assumption) _ (fun p hp => hp) ?off ?src ?_
      case off => assumption
      case src => lcg_src
      try dsimp only
      k_steps
      refine LCg.CompEnd.intro (by assumption) (by assumption) _ (fun p hp => hp) ?off ?src ?_
      case off => assumption
      case src => lcg_src
      try dsimp only
      k_steps
      refine LCg.CompEnd.intro (by assumption) (by assumption) _ (fun p hp => hp) ?off ?src ?_
      case off => assumption
      case src => lcg_src
      try dsimp only
      repeat (fail_if_success (with_reducible show wpAny _ _ (exec (Stmt.Assign _ (Expr.ListComp _ _ _ _) _) _) _ _ _)); (fail_if_success (with_reducible show wpAny _ _ (exec (Stmt.If _ _ _ _) _) _ _ _)); (first | (k_unfold; (try dsimp only)) | (k_end; wrow_close) | walk1 | (dsimp only; walk1))
      rename_i hFz hNz hlz
      refine cut (s := ⟨_, s.gens, s.drawn, _, s.os⟩) (fun h => ∃ NM t1 t2 m3, Fr g' L' h m3 ∧ News g' L' h ((NM, LCg.lst [.str (nameF p.1) t1, .str (nameF p.2) t2]) :: (S0, W.listOf gs k) :: (SY, W.listOf its n) :: R) ∧ m3 (Str.ofString "names") = some (.ref NM) ∧ m3 (Str.ofString "symbols") = some (.ref SY) ∧ m3 (Str.ofString "games") = some (.ref S0) ∧ m3 (Str.ofString "at") = some (.int at9 tv) ∧ (@Ne Nat S0 NM) ∧ (@Ne Nat SY NM) ∧ LCg.Off1 NM R) ?_ ?_
      · exact ⟨_, _, _, _, hFz, fun p hp => hNz p (by simp only [List.mem_cons] at hp ⊢; rcases hp with h | h; exact .inl h; exact .inr (.inr h)), if_pos rfl, (if_neg (by decide)).trans hs2, (if_neg (by decide)).trans hg2, (if_neg (by decide)).trans hx2, hlz.2.1, hlz.2.2.1, hlz.2.2.2⟩
      · clear hFz hNz hlz
        rintro h tk ⟨NM, t1, t2, m3, F4, N4, hn4, hs4, hg4, ha4, d1, d2, d3⟩
        clear hx2 hs2 hg2 hy2
        k_steps
        refine LCg.CompEnd.intro (by assumption) (by assumption) _ (fun p hp => hp) ?off ?src ?_
        case off => assumption
        case src => lcg_src
        try dsimp only
        k_steps
        refine LCg.CompEnd.intro (by assumption) (by assumption) _ (fun p hp => hp) ?off ?src ?_
        case off => assumption
        case src => lcg_src
        try dsimp only
        k_steps
        refine LCg.CompEnd.intro (by assumption) (by assumption) _ (fun p hp => hp) ?off ?src ?_
        case off => assumption
        case src => lcg_src
        try dsimp only
        repeat (fail_if_success (with_reducible show wpAny _ _ (exec (Stmt.If _ _ _ _) _) _ _ _)); (first | (k_unfold; (try dsimp only)) | (k_end; wrow_close) | walk1 | (dsimp only; walk1))
        rename_i hFz hNz hlz
        refine cut (s := ⟨_, s.gens, s.drawn, _, s.os⟩) (fun h => ∃ SG e5 m5, Fr g' L' h m5 ∧ News g' L' h ((SG, LCg.lst [.int (7 + d % 48) e5]) :: (NM, LCg.lst [.str (nameF p.1) t1, .str (nameF p.2) t2]) :: (S0, W.listOf gs k) :: (SY, W.listOf its n) :: R) ∧ m5 (Str.ofString "names") = some (.ref NM) ∧ m5 (Str.ofString "signs") = some (.ref SG) ∧ m5 (Str.ofString "games") = some (.ref S0) ∧ m5 (Str.ofString "symbols") = some (.ref SY) ∧ m5 (Str.ofString "at") = some (.int at9 tv) ∧ (@Ne Nat NM SG) ∧ (@Ne Nat S0 SG)) ?_ ?_
        · exact ⟨_, _, _, hFz, fun p hp => hNz p (by simp only [List.mem_cons] at hp ⊢; rcases hp with h | h; exact .inl h; exact .inr (.inr h)), (if_neg (by decide)).trans hn4, if_pos rfl, (if_neg (by decide)).trans hg4, (if_neg (by decide)).trans hs4, (if_neg (by decide)).trans ha4, hlz.2.1, hlz.2.2.1⟩
        · clear hFz hNz hlz hn4 hs4 hg4 ha4
          rintro h tk ⟨SG, e5, m5, F6, N6, hn6, hsg6, hg6, hs6, ha6, d4, d5⟩
          have hRN : ∀ p ∈ R, p.1 ≠ NM := off1_all _ d3
          replace N6 : News g' L' h ((SG, W.listOf #[.int (7 + d % 48) e5] 1) :: (NM, W.listOf #[.str (nameF p.1) t1, .str (nameF p.2) t2] 2) :: (S0, W.listOf gs k) :: (SY, W.listOf its n) :: R) := N6
          have f0 : (#[Value.int (7 + d % 48) e5] : Array Value)[(0 : Int).toNat]? = some (.int (7 + d % 48) e5) := rfl
          have f1 : (#[Value.str (nameF p.1) t1, Value.str (nameF p.2) t2] : Array Value)[(0 : Int).toNat]? = some (Value.str (nameF p.1) t1) := rfl
          have f2 : (#[Value.str (nameF p.1) t1, Value.str (nameF p.2) t2] : Array Value)[(1 : Int).toNat]? = some (Value.str (nameF p.2) t2) := rfl
          have f3 : (#[Value.str (nameF p.2) t2, Value.str (nameF p.1) t1] : Array Value)[(0 : Int).toNat]? = some (Value.str (nameF p.2) t2) := rfl
          have f4 : (#[Value.str (nameF p.2) t2, Value.str (nameF p.1) t1] : Array Value)[(1 : Int).toNat]? = some (Value.str (nameF p.1) t1) := rfl
          have d6 : @Ne Nat SG NM := Ne.symm d4
          have d7 : @Ne Nat SG S0 := Ne.symm d5
          have d8 : @Ne Nat NM S0 := Ne.symm d1
          have d9 : @Ne Nat SY S0 := Ne.symm hS1
          k_steps
          · rename_i c1 _ _ c2 T9 _ l9 _ F9 N9
            have g1 : d % 2 = 1 := par_yes c1
            have g2 : i % 2 = 1 := idx_yes hat c2
            have g3 : gameAt i d p = (Txt.upper (nameF p.2), nameF p.1) := by unfold gameAt; simp only [g1, g2, if_true, if_false, reduceIte]
            refine fe_tup (T := T9) hRd F9 N9 (by k_mem) (by k_mem) (by k_mem) (fun p hp => by simp [hp]) l9.2.2.1 l9.2.2.2.1 (fun p hp => ktn_ltOf l9.2.2.2.2 p hp) ⟨hg6, hs6, lt11 hi11 hlast, _, _, (T9, _) :: ex, rfl, ?_, ?_, ?_, ?_⟩
            · intro q hq r hr
              rcases List.mem_cons.mp hq with rfl | hq
              · exact ktn_ltOf l9.2.2.2.2 r (by rw [hRd]; simp [hr])
              · exact hJ3 q hq r hr
            · intro q hq
              rcases List.mem_cons.mp hq with rfl | hq
              · exact Nat.ne_of_gt l9.2.2.1
              · exact hJ4 q hq
            · rw [Array.size_push, hgz]
            · rw [gamesTo_succ hd9 hp9, Array.toList_push, g3]
              refine Paired.snoc (paired_mono (fun v d x => ?_) hJ5) ⟨T9, _, _, rfl, List.mem_cons_self⟩
              obtain ⟨T8, t8, u8, a1, a2⟩ := x
              exact ⟨T8, t8, u8, a1, List.mem_cons_of_mem _ a2⟩
          · rename_i c1 _ _ c2 T9 _ l9 _ F9 N9
            have g1 : d % 2 = 1 := par_yes c1
            have g2 : ¬ i % 2 = 1 := idx_no hat c2
            have g3 : gameAt i d p = (nameF p.2, nameF p.1) := by unfold gameAt; simp only [g1, g2, if_true, if_false, reduceIte]
            refine fe_tup (T := T9) hRd F9 N9 (by k_mem) (by k_mem) (by k_mem) (fun p hp => by simp [hp]) l9.2.2.1 l9.2.2.2.1 (fun p hp => ktn_ltOf l9.2.2.2.2 p hp) ⟨hg6, hs6, lt11 hi11 hlast, _, _, (T9, _) :: ex, rfl, ?_, ?_, ?_, ?_⟩
            · intro q hq r hr
              rcases List.mem_cons.mp hq with rfl | hq
              · exact ktn_ltOf l9.2.2.2.2 r (by rw [hRd]; simp [hr])
              · exact hJ3 q hq r hr
            · intro q hq
              rcases List.mem_cons.mp hq with rfl | hq
              · exact Nat.ne_of_gt l9.2.2.1
              · exact hJ4 q hq
            · rw [Array.size_push, hgz]
            · rw [gamesTo_succ hd9 hp9, Array.toList_push, g3]
              refine Paired.snoc (paired_mono (fun v d x => ?_) hJ5) ⟨T9, _, _, rfl, List.mem_cons_self⟩
              obtain ⟨T8, t8, u8, a1, a2⟩ := x
              exact ⟨T8, t8, u8, a1, List.mem_cons_of_mem _ a2⟩
          · rename_i c1 _ c2 T9 _ l9 _ F9 N9
            have g1 : ¬ d % 2 = 1 := par_no c1
            have g2 : i % 2 = 1 := idx_yes hat c2
            have g3 : gameAt i d p = (Txt.upper (nameF p.1), nameF p.2) := by unfold gameAt; simp only [g1, g2, if_true, if_false, reduceIte]
            refine fe_tup (T := T9) hRd F9 N9 (by k_mem) (by k_mem) (by k_mem) (fun p hp => by simp [hp]) l9.2.2.1 l9.2.2.2.1 (fun p hp => ktn_ltOf l9.2.2.2.2 p hp) ⟨hg6, hs6, lt11 hi11 hlast, _, _, (T9, _) :: ex, rfl, ?_, ?_, ?_, ?_⟩
            · intro q hq r hr
              rcases List.mem_cons.mp hq with rfl | hq
              · exact ktn_ltOf l9.2.2.2.2 r (by rw [hRd]; simp [hr])
              · exact hJ3 q hq r hr
            · intro q hq
              rcases List.mem_cons.mp hq with rfl | hq
              · exact Nat.ne_of_gt l9.2.2.1
              · exact hJ4 q hq
            · rw [Array.size_push, hgz]
            · rw [gamesTo_succ hd9 hp9, Array.toList_push, g3]
              refine Paired.snoc (paired_mono (fun v d x => ?_) hJ5) ⟨T9, _, _, rfl, List.mem_cons_self⟩
              obtain ⟨T8, t8, u8, a1, a2⟩ := x
              exact ⟨T8, t8, u8, a1, List.mem_cons_of_mem _ a2⟩
          · rename_i c1 _ c2 T9 _ l9 _ F9 N9
            have g1 : ¬ d % 2 = 1 := par_no c1
            have g2 : ¬ i % 2 = 1 := idx_no hat c2
            have g3 : gameAt i d p = (nameF p.1, nameF p.2) := by unfold gameAt; simp only [g1, g2, if_true, if_false, reduceIte]
            refine fe_tup (T := T9) hRd F9 N9 (by k_mem) (by k_mem) (by k_mem) (fun p hp => by simp [hp]) l9.2.2.1 l9.2.2.2.1 (fun p hp => ktn_ltOf l9.2.2.2.2 p hp) ⟨hg6, hs6, lt11 hi11 hlast, _, _, (T9, _) :: ex, rfl, ?_, ?_, ?_, ?_⟩
            · intro q hq r hr
              rcases List.mem_cons.mp hq with rfl | hq
              · exact ktn_ltOf l9.2.2.2.2 r (by rw [hRd]; simp [hr])
              · exact hJ3 q hq r hr
            · intro q hq
              rcases List.mem_cons.mp hq with rfl | hq
              · exact Nat.ne_of_gt l9.2.2.1
              · exact hJ4 q hq
            · rw [Array.size_push, hgz]
            · rw [gamesTo_succ hd9 hp9, Array.toList_push, g3]
              refine Paired.snoc (paired_mono (fun v d x => ?_) hJ5) ⟨T9, _, _, rfl, List.mem_cons_self⟩
              obtain ⟨T8, t8, u8, a1, a2⟩ := x
              exact ⟨T8, t8, u8, a1, List.mem_cons_of_mem _ a2⟩
  · rintro m₁ news' h tk ⟨_, _, hlt, _⟩ F1 N1
    exact absurd hlt (by decide)
end
end Mine
end
section
open PySem PySem.W PySem.Calls PyProof.Rows PyProof.V PySem.Spec
set_option maxRecDepth 100000
set_option maxHeartbeats 0
namespace Mine
section
variable {prog : Program} {w : World} {A : Around} {E : Value → Shared → Prop} {s : Shared} {h₀ : Heap} {L : Addr} {m : Str → Option Value} {news : List (Addr × Obj)}
/-- a list of tuples on the ledger -/
noncomputable def TupOf {δ : Type} (G : Array Value → δ → Prop) (l : Ledger) (v : Value) (d : δ) : Prop := ∃ T vs, v = .ref T ∧ (T, tupObj vs) ∈ l ∧ G vs d
theorem tups_pick {δ : Type} {G : Array Value → δ → Prop} {its : Array Value} {ds : List δ} (x : Paired (TupOf G news) its.toList ds) (j : Nat) : ∃ z : Addr × Array Value, j < its.size → its[j]? = some (.ref z.1) ∧ (z.1, tupObj z.2) ∈ news ∧ ∃ d, ds[j]? = some d ∧ G z.2 d := by
  by_cases hj : j < its.size
  · obtain ⟨d, h1, T, vs, h2, h3, h4⟩ := paired_get x (i := j) (a := its[j]) (by simp [hj])
    exact ⟨(T, vs), fun _ => ⟨by rw [← h2]; simp [hj], h3, d, h1, h4⟩⟩
  · exact ⟨(0, #[]), fun h => absurd h hj⟩
theorem src_tups {δ : Type} {G : Array Value → δ → Prop} {ax n : Nat} {its : Array Value} {ds : List δ} {av : List Addr} {Q : Value → Shared → Prop}
    (hh : A.handled = none) (F : Fr h₀ L s.heap m) (N : News h₀ L s.heap news) (hm : (ax, W.listOf its n) ∈ news) (hv : Paired (TupOf G news) its.toList ds)
    (hav : ∀ b ∈ av, ∃ o, (b, o) ∈ news ∧ o.cls ≠ .type "list" ∧ o.cls ≠ .type "tuple")
    (h : ∀ h', (∀ b o, s.heap.get? b = some o → h'.get? b = some o) → (∀ (elts : List Expr) (k : Nat) (pos : Pos), SrcOk prog w A h₀ L m (.Tuple elts k pos) (.ref s.heap.objs.size) h' news av its.size (fun i v h => ∃ T vs, v = .ref T ∧ h.IsTuple T vs ∧ (i < its.size → ∃ d, ds[i]? = some d ∧ G vs d))) → Q (.ref s.heap.objs.size) { s with heap := h' }) :
    wpAny (model prog w) A (pyIter (.ref ax)) Q E s := by
  have pick : ∀ j, ∃ z : Addr × Array Value, j < its.size → its[j]? = some (.ref z.1) ∧ (z.1, tupObj z.2) ∈ news ∧ ∃ d, ds[j]? = some d ∧ G z.2 d := tups_pick hv
  have hp : ∀ j, j < its.size → its[j]? = some (.ref (Classical.choose (pick j)).1) ∧ ((Classical.choose (pick j)).1, tupObj (Classical.choose (pick j)).2) ∈ news ∧ ∃ d, ds[j]? = some d ∧ G (Classical.choose (pick j)).2 d := fun j => Classical.choose_spec (pick j)
  refine src_pairs (Ts := fun j => (Classical.choose (pick j)).1) (vals := fun j => (Classical.choose (pick j)).2) (av := av) hh F N (isList_of N hm rfl rfl) (.inr ⟨_, hm⟩) (fun j hj => (hp j hj).1) (fun j hj => isTuple_of N (hp j hj).2.1) (fun j hj => .inr ⟨_, (hp j hj).2.1⟩) (fun b hb => ?_) fun h' up S => h h' up fun elts k pos => ?_
  · obtain ⟨o, h1, h2, h3⟩ := hav b hb
    exact ⟨Heap.lt_size (N _ h1).1, ne_kind N h1 hm h2, fun j hj => ne_kind N h1 (hp j hj).2.1 h3⟩
  · obtain ⟨I, fp, wr, Md, St, e, W, r⟩ := S elts k pos
    refine ⟨I, fp, wr, Md, St, e, ⟨W.sub, W.frame, W.item, fun i v s Q E hMd hQ => W.go i v s Q E hMd fun h2 hP => hQ h2 ?_, W.done⟩, r⟩
    obtain ⟨T, vs, e1, e2, e3⟩ := hP
    exact ⟨T, vs, e1, e3, fun hi => by subst e2; exact (hp i hi).2.2⟩
theorem fe_same {own rest l6 : Ledger} {m2 : Str → Option Value} {J : (Str → Option Value) → Ledger → Prop} {Q : Flow → Shared → Prop} {h6 : Heap} {tk : Nat}
    (F : Fr h₀ L h6 m2) (N : News h₀ L h6 l6) (hs : ∀ p ∈ rest ++ own, p ∈ l6) (hJ : J m2 rest) : FE h₀ L own rest J Q s .next { s with heap := h6, toks := tk } :=
  ⟨h6, tk, m2, rest, rfl, F, fun p hp => N p (hs p hp), fun p hp => .inl ⟨p, hp, rfl⟩, hJ⟩
theorem news_drop3 {h : Heap} {a b c : Addr × Obj} {l : Ledger} (N : News h₀ L h (a :: b :: c :: l)) : News h₀ L h (a :: b :: l) := fun p hp => N p (by
  simp only [List.mem_cons] at hp ⊢
  rcases hp with h | h | h <;> simp [h])
noncomputable abbrev hdObj (P : Params) (GD : Addr) (kt : Tok) : Obj := dictOf [{ hash := PyData.keyHash P (Str.ofString "_headers"), key := .str (Str.ofString "_headers") kt, val := .ref GD }] 1
end
end Mine
end
section
open PySem PySem.W PySem.Calls PyProof.Rows PyProof.V PySem.Spec
set_option maxRecDepth 100000
set_option maxHeartbeats 0
namespace Mine
section
variable {prog : Program} {w : World} {A : Around} {E : Value → Shared → Prop} {s : Shared} {env : Env} {h₀ : Heap} {L : Addr} {m : Str → Option Value}
noncomputable abbrev emptyD : Obj := { cls := .type "dict", data := .dict #[] }
theorem new_dict (Q : Value → Shared → Prop) (E : Value → Shared → Prop) (s : Shared) (h : Q (.ref s.heap.objs.size) { s with heap := s.heap.push emptyD }) : wpAny (model prog w) A newDict Q E s :=
  wpAny_newObj_type h
theorem emptyD_is : emptyD.IsDictOf (PySem.strKind prog w) [] :=
  ⟨#[], 0, ⟨rfl, rfl, rfl⟩, rfl, (fun _ h => nomatch h), .nil, List.nodup_nil⟩
theorem stored_len {kvs : List (Str × Value)} {k : Str} {v : Value} : (stored kvs k v).length ≤ kvs.length + 1 := by
  unfold stored
  split <;> simp
noncomputable abbrev cellO : Obj := { cls := .type "cell", data := .cell none }
noncomputable def exOf (xc : Option Str) (c : Addr) : List (Addr × Obj) := match xc with
  | none => []
  | some _ => [(c, cellO)]
noncomputable def clOf (xc : Option Str) (c : Addr) (cl : List (Str × Addr)) : List (Str × Addr) := match xc with
  | none => cl
  | some x => (x, c) :: cl
noncomputable def puOf (xc : Option Str) (h : Heap) : Heap := match xc with
  | none => h
  | some _ => h.push cellO
theorem newEnvC {scope : Scope} {cl : List (Str × Addr)} {xc : Option Str} {Q : Env → Shared → Prop} (hpush : ∀ h, pushCells h scope.names = puOf xc h) (hfrom : ∀ n, cellsFrom n scope.names cl = clOf xc n cl)
    (hQ : ∀ h', h'.Ns s.heap.objs.size (fun _ => none) → (∀ b o, s.heap.get? b = some o → h'.get? b = some o) → (∀ p ∈ exOf xc (s.heap.objs.size + 1), h'.get? p.1 = some p.2) →
      Q { scope, locals := s.heap.objs.size, globals := env.globals, cells := clOf xc (s.heap.objs.size + 1) cl, qual := env.qual, func := none, code := env.code, frame := env.frame, builtins := env.builtins } { s with heap := h' }) :
    wpAny (model prog w) A (newFunctionEnv scope env.globals cl [] env.qual none .none (some env)) Q E s := by
  simp only [newFunctionEnv, Option.isSome_some, if_true]
  refine wpAny_bind (wpAny_alloc ?_)
  refine wpAny_bind (wpAny_layCells _ (fun name kind cells => by cases hkc : kind == NameKind.cell <;> simp [hkc]) _ _ _ _ ?_)
  rw [hfrom, hpush, show ({ s with heap := s.heap.push { cls := .type "dict", data := .dict #[] } } : Shared).heap.objs.size = s.heap.objs.size + 1 from Heap.size_push ..]
  have hs1 : (s.heap.push { cls := .type "dict", data := .dict #[] }).objs.size = s.heap.objs.size + 1 := Heap.size_push ..
  cases xc with
  | none => exact wpAny_bind (by rw [List.forIn_nil]; exact wpAny_pure (wpAny_pure (hQ _ (Heap.Ns.new s.heap (.type "dict")) (fun b o e => Heap.get?_push_of_some _ e) (fun _ h => nomatch h))))
  | some x =>
    refine wpAny_bind ?_
    rw [List.forIn_nil]
    refine wpAny_pure (wpAny_pure (hQ _ ((Heap.Ns.new s.heap (.type "dict")).keeps fun b o e => Heap.get?_push_of_some _ e) (fun b o e => Heap.get?_push_of_some _ (Heap.get?_push_of_some _ e)) fun p hp => ?_))
    rw [List.mem_singleton.mp hp]
    show (Heap.push _ _).get? (s.heap.objs.size + 1) = _
    rw [← hs1]
    exact Heap.get?_push_size _ rfl
theorem comp_blockC {use : Option (Value → Sem Unit)} {xc : Option Str} {e : Expr} {scope : Scope} {pos : Pos} {newAcc first : Sem Value} {g : Comprehension} {gs : List Comprehension} {cl : List (Str × Addr)} {Q : Value → Shared → Prop} {oD : Obj}
    (hcl : clausesOf e = g :: gs) (hs : ∀ x, foldedSetIterable g.iter env x = pure x) (hclos : closureFor scope env = pure cl) (hkind : scope.kind = .function)
    (hnames : ∀ x ∈ scope.names, x.2 = .local → scope.names.lookup x.1 = some .local) (hpush : ∀ h, pushCells h scope.names = puOf xc h) (hfrom : ∀ n, cellsFrom n scope.names cl = clOf xc n cl)
    (hf : oD.isFreed = false) (hnew : ∀ (Q : Value → Shared → Prop) (E : Value → Shared → Prop) (s : Shared), Q (.ref s.heap.objs.size) { s with heap := s.heap.push oD } → wpAny (model prog w) A newAcc Q E s)
    (h : wpAny (model prog w) A first (fun x s₁ => wpAny (model prog w) A (pyIter x) (fun it s₂ => ∃ news, Fr h₀ L s₂.heap m ∧ News h₀ L s₂.heap news ∧
      ∀ D C oC h, (∀ b o, s₂.heap.get? b = some o → h.get? b = some o) → D = s₂.heap.objs.size → C = D + 1 → Fr h₀ L h m → News h₀ L h ((C, oC) :: (D, oD) :: (exOf xc (C + 1) ++ news)) → NsO oC (fun _ => none) →
        codeAny (model prog w) A (.compStart e 0 it (.ref D) (compEnvC scope (clOf xc (C + 1) cl) C env)) (CPost (model prog w) A E use h₀ L m Q C D) { s₂ with heap := h }) E s₁) E s) :
    wpAny (model prog w) A (comprehension e scope env pos newAcc false first use) Q E s := by
  refine wpAny_comprehension_free (use := use) hcl hs hclos hkind hnames (wpAny_mono h (fun x s₁ h₁ => wpAny_mono h₁ (fun it s₂ h₂ => ?_) fun _ _ e => e) fun _ _ e => e)
  obtain ⟨news, F, N, hk⟩ := h₂
  refine hnew _ _ _ (newEnvC hpush hfrom fun h₁ hns₁ hup₁ hex₁ => ?_)
  dsimp only at hns₁ hup₁ hex₁ ⊢
  have hsz : (s₂.heap.push oD).objs.size = s₂.heap.objs.size + 1 := Heap.size_push ..
  rw [hsz] at hns₁ hex₁
  have hD2 : (s₂.heap.push oD).get? s₂.heap.objs.size = some oD := Heap.get?_push_size _ hf
  have old : ∀ b o, s₂.heap.get? b = some o → h₁.get? b = some o := fun b o e => hup₁ b o (Heap.get?_push_of_some _ e)
  have fresh₀ : ∀ a, s₂.heap.objs.size ≤ a → h₀.get? a = none := fun a ha => by
    cases e : h₀.get? a with
    | none => rfl
    | some o' => exact absurd (Heap.lt_size (F.keep a o' e)) (Nat.not_lt.mpr ha)
  have hLlt : L < s₂.heap.objs.size := F.ns.lt
  obtain ⟨oC, hC₁, hoC⟩ := LCg.ns_obj hns₁
  have N₁ : News h₀ L h₁ ((s₂.heap.objs.size + 1, oC) :: (s₂.heap.objs.size, oD) :: (exOf xc (s₂.heap.objs.size + 1 + 1) ++ news)) := fun p hp => by
    rcases List.mem_cons.mp hp with rfl | hp
    · exact ⟨hC₁, Nat.ne_of_gt (Nat.lt_succ_of_lt hLlt), fresh₀ _ (Nat.le_succ _)⟩
    · rcases List.mem_cons.mp hp with rfl | hp
      · exact ⟨hup₁ _ _ hD2, Nat.ne_of_gt hLlt, fresh₀ _ (Nat.le_refl _)⟩
      · rcases List.mem_append.mp hp with hp | hp
        · have e1 := hex₁ p hp
          have e2 : s₂.heap.objs.size ≤ p.1 := by
            cases xc with
            | none => cases hp
            | some x => rw [List.mem_singleton.mp hp]; exact Nat.le_of_lt (Nat.lt_succ_of_lt (Nat.lt_succ_self _))
          exact ⟨e1, fun q => Nat.lt_irrefl _ (Nat.lt_of_lt_of_le (q ▸ hLlt) e2), fresh₀ _ e2⟩
        · exact ⟨old _ _ (N p hp).1, (N p hp).2⟩
  have key := hk s₂.heap.objs.size (s₂.heap.objs.size + 1) oC h₁ old rfl rfl (F.keeps old) N₁ hoC
  show codeAny (model prog w) A (.compStart e 0 it (.ref s₂.heap.objs.size) (compEnvC scope (clOf xc ((s₂.heap.push oD).objs.size + 1) cl) (s₂.heap.push oD).objs.size env))
    (compPost (model prog w) A E use Q (.ref s₂.heap.objs.size) (s₂.heap.push oD).objs.size) _
  rw [hsz]
  refine codeAny_mono key fun r s' hr => ?_
  cases r with
  | ok f =>
    obtain ⟨oC', m', news', F', N', hoC', off, fin⟩ := hr
    cases use with
    | none =>
      have zC := N' _ List.mem_cons_self
      refine ⟨m', hoC'.ns zC.1, fun h'' hs'' => fin h'' (F'.change hs'' zC.2.1 zC.2.2) fun p hp => ?_⟩
      have z := N' p (List.mem_cons_of_mem _ hp)
      exact ⟨hs''.extBut _ _ (off p hp) z.1, z.2⟩
    | some u =>
      refine wpAny_mono fin (fun _ s'' h9 => ?_) fun _ _ e => e
      obtain ⟨m2, news2, F2, N2, off2, k2⟩ := h9
      have zC := N2 _ List.mem_cons_self
      refine ⟨m', hoC'.ns zC.1, fun h'' hs'' => k2 h'' (F2.change hs'' zC.2.1 zC.2.2) fun p hp => ?_⟩
      have z := N2 p (List.mem_cons_of_mem _ hp)
      exact ⟨hs''.extBut _ _ (off2 p hp) z.1, z.2⟩
  | error x => exact hr.elim
/-- as CE, a changed object counts as one of old -/
inductive CEd (h₀ : Heap) (L : Addr) (m : Str → Option Value) (own : List (Addr × Obj)) (C : Addr) (o₁ : Obj) (D : Addr) (oD : Obj) (news₁ : List (Addr × Obj)) (J : Str → List (Addr × Obj) → Prop) (s : Shared) (kv : Value) (s' : Shared) : Prop
  | mk (k : Str) (t : Tok) (ek : kv = .str k t) (h' : Heap) (tk : Nat) (oC : Obj) (mC : Str → Option Value) (news' : List (Addr × Obj)) (e : s' = { s with heap := h', toks := tk }) (F : Fr h₀ L h' m) (N : News h₀ L h' ((C, oC) :: (D, oD) :: (news' ++ own))) (hC : NsO oC mC)
    (hn : ∀ p ∈ news', (∃ q ∈ news₁, q.1 = p.1) ∨ ∀ q ∈ (C, o₁) :: (D, oD) :: (news₁ ++ own), q.1 < p.1) (hJ : J k news') : CEd h₀ L m own C o₁ D oD news₁ J s kv s'
noncomputable def StepD (prog : Program) (w : World) (A : Around) (env : Env) (h₀ : Heap) (L : Addr) (m : Str → Option Value) (xc : Option Str) (kx vx target : Expr) (scope : Scope) (cl : List (Str × Addr)) (s₂ : Shared) (n : Nat) (P : Nat → Value → Heap → Prop) (C D : Addr) (J : Nat → List (Str × Value) → List (Addr × Obj) → Prop) : Prop :=
  ∀ i v kvs news₁ oC mC oD h tk own E', i < n → P i v h → J i kvs news₁ → Fr h₀ L h m → News h₀ L h ((C, oC) :: (D, oD) :: (news₁ ++ own)) → NsO oC mC → oD.IsDictOf (PySem.strKind prog w) kvs → C ≠ D → (∀ p ∈ news₁ ++ own, p.1 ≠ C ∧ p.1 ≠ D) → (∀ p ∈ own, p.1 < D) →
        wpAny (model prog w) A (assign target (compEnvC scope (clOf xc (C + 1) cl) C env) v) (fun _ s₃ => wpAny (model prog w) A (eval kx (compEnvC scope (clOf xc (C + 1) cl) C env)) (fun kv s₄ => wpAny (model prog w) A (eval vx (compEnvC scope (clOf xc (C + 1) cl) C env)) (fun vv s₅ =>
          CEd h₀ L m own C oC D oD news₁ (fun k => J (i + 1) (stored kvs k vv)) s₂ kv s₅) E' s₄) E' s₃) E' { s₂ with heap := h, toks := tk }
inductive DC1Ui (prog : Program) (w : World) (A : Around) (E : Value → Shared → Prop) (env : Env) (h₀ : Heap) (L : Addr) (m : Str → Option Value) (use : Option (Value → Sem Unit)) (xc : Option Str) (kx vx target : Expr) (scope : Scope) (cl : List (Str × Addr)) (Q : Value → Shared → Prop) (s₂ : Shared) (news : List (Addr × Obj)) (n : Nat) (P : Nat → Value → Heap → Prop) (C D : Addr) : Prop
  | mk (J : Nat → List (Str × Value) → List (Addr × Obj) → Prop) (h0 : J 0 [] (exOf xc (C + 1) ++ news))
      (step : StepD prog w A env h₀ L m xc kx vx target scope cl s₂ n P C D J)
      (fin : ∀ kvs news' oC oD h tk, J n kvs news' → oD.IsDictOf (PySem.strKind prog w) kvs → Fr h₀ L h m → News h₀ L h ((C, oC) :: (D, oD) :: news') → (∀ p ∈ (D, oD) :: news', p.1 ≠ C) → (∀ p ∈ news', p.1 ≠ D) → CFin (model prog w) A E use h₀ L m Q C oC D ((D, oD) :: news') { s₂ with heap := h, toks := tk }) : DC1Ui prog w A E env h₀ L m use xc kx vx target scope cl Q s₂ news n P C D
inductive DC1U (prog : Program) (w : World) (A : Around) (E : Value → Shared → Prop) (env : Env) (h₀ : Heap) (L : Addr) (m : Str → Option Value) (use : Option (Value → Sem Unit)) (xc : Option Str) (kx vx target : Expr) (scope : Scope) (cl : List (Str × Addr)) (Q : Value → Shared → Prop) (it : Value) (s₂ : Shared) : Prop
  | mk (news : List (Addr × Obj)) (n : Nat) (P : Nat → Value → Heap → Prop) (src : SrcOk prog w A h₀ L m target it s₂.heap news [] n P) (hn : n ≤ sizeLine)
      (k : ∀ C D, C = D + 1 → (∀ q ∈ news, q.1 < D) → DC1Ui prog w A E env h₀ L m use xc kx vx target scope cl Q s₂ news n P C D) : DC1U prog w A E env h₀ L m use xc kx vx target scope cl Q it s₂
inductive DC1i (prog : Program) (w : World) (A : Around) (env : Env) (h₀ : Heap) (L : Addr) (m : Str → Option Value) (xc : Option Str) (kx vx target : Expr) (scope : Scope) (cl : List (Str × Addr)) (Q : Value → Shared → Prop) (s₂ : Shared) (news : List (Addr × Obj)) (n : Nat) (P : Nat → Value → Heap → Prop) (C D : Addr) : Prop
  | mk (J : Nat → List (Str × Value) → List (Addr × Obj) → Prop) (h0 : J 0 [] (exOf xc (C + 1) ++ news))
      (step : StepD prog w A env h₀ L m xc kx vx target scope cl s₂ n P C D J)
      (fin : ∀ kvs news' oD h tk, J n kvs news' → oD.IsDictOf (PySem.strKind prog w) kvs → Fr h₀ L h m → News h₀ L h ((D, oD) :: news') → (∀ p ∈ news', p.1 ≠ D) → Q (.ref D) { s₂ with heap := h, toks := tk }) : DC1i prog w A env h₀ L m xc kx vx target scope cl Q s₂ news n P C D
inductive DC1 (prog : Program) (w : World) (A : Around) (env : Env) (h₀ : Heap) (L : Addr) (m : Str → Option Value) (xc : Option Str) (kx vx target : Expr) (scope : Scope) (cl : List (Str × Addr)) (Q : Value → Shared → Prop) (it : Value) (s₂ : Shared) : Prop
  | mk (news : List (Addr × Obj)) (n : Nat) (P : Nat → Value → Heap → Prop) (src : SrcOk prog w A h₀ L m target it s₂.heap news [] n P) (hn : n ≤ sizeLine)
      (k : ∀ C D, C = D + 1 → (∀ q ∈ news, q.1 < D) → DC1i prog w A env h₀ L m xc kx vx target scope cl Q s₂ news n P C D) : DC1 prog w A env h₀ L m xc kx vx target scope cl Q it s₂
theorem dictComp1U {use : Option (Value → Sem Unit)} {xc : Option Str} {cpos : Pos} {kx vx target iter : Expr} {scope : Scope} {pos : Pos} {cl : List (Str × Addr)} {Q : Value → Shared → Prop}
    (_F₀ : Fr h₀ L s.heap m) (hclos : closureFor scope env = pure cl) (hkind : scope.kind = .function)
    (hnames : ∀ x ∈ scope.names, x.2 = .local → scope.names.lookup x.1 = some .local) (hpush : ∀ h, pushCells h scope.names = puOf xc h) (hfrom : ∀ n, cellsFrom n scope.names cl = clOf xc n cl)
    (h : wpAny (model prog w) A (eval iter env) (fun x s₁ => wpAny (model prog w) A (pyIter x) (fun it s₂ => DC1U prog w A E env h₀ L m use xc kx vx target scope cl Q it s₂) E s₁) E s)
    (hs : ∀ x, foldedSetIterable iter env x = pure x := by intro _; rfl) :
    wpAny (model prog w) A (comprehension (.DictComp kx vx [⟨target, iter, [], 0⟩] scope pos) scope env cpos newDict false (eval iter env) use) Q E s := by
  refine comp_blockC (h₀ := h₀) (L := L) (m := m) (xc := xc) rfl hs hclos hkind hnames hpush hfrom rfl new_dict (wpAny_mono h (fun x s₁ h₁ => wpAny_mono h₁ (fun it s₂ h₂ => ?_) fun _ _ e => e) fun _ _ e => e)
  obtain ⟨news, n, P, ⟨I, fp, wr, Md, St, rfl, W, hself, hLf, _, hwr, hfp, hal, hnw, hst, F, N⟩, hn, k9⟩ := h₂
  refine ⟨news, F, N, fun D C oC h old hD hC F₁ N₁ hoC => ?_⟩
  obtain ⟨J, h0, step, fin⟩ := k9 C D hC (fun q hq => hD ▸ Heap.lt_size (N q hq).1)
  have hst₁ : St 0 h := W.frame _ _ _ hst fun b _ o e => old b o e
  have hCD : C ≠ D := by rw [hC]; exact Nat.succ_ne_self _
  have offs : ∀ b, b < s₂.heap.objs.size → b ≠ C ∧ b ≠ D := fun b hb => by
    rw [← hD] at hb
    exact ⟨Nat.ne_of_lt (hC ▸ Nat.lt_succ_of_lt hb), Nat.ne_of_lt hb⟩
  have offn : ∀ p ∈ exOf xc (C + 1) ++ news, p.1 ≠ C ∧ p.1 ≠ D := fun p hp => by
    rcases List.mem_append.mp hp with hp | hp
    · cases xc with
      | none => cases hp
      | some x =>
        rw [List.mem_singleton.mp hp]
        refine ⟨Nat.succ_ne_self _, ?_⟩
        rw [hC]
        exact Nat.ne_of_gt (Nat.lt_succ_of_lt (Nat.lt_succ_self _))
    · exact offs _ (Heap.lt_size (N p hp).1)
  have hnx : ∀ p ∈ exOf xc (C + 1) ++ news, p.1 ∉ wr := fun p hp => by
    rcases List.mem_append.mp hp with hp | hp
    · cases xc with
      | none => cases hp
      | some x =>
        rw [List.mem_singleton.mp hp]
        intro hm
        have := hfp _ (W.sub _ hm)
        rw [← hD] at this
        rw [hC] at this
        exact Nat.lt_irrefl D (Nat.lt_trans (Nat.lt_succ_of_lt (Nat.lt_succ_self D)) this)
    · exact hnw p hp
  have hCf : C ∉ fp := fun hm => (offs _ (hfp _ hm)).1 rfl
  have hDf : D ∉ fp := fun hm => (offs _ (hfp _ hm)).2 rfl
  have loop : codeAny (model prog w) A (.compLoop (.DictComp kx vx [⟨target, iter, [], 0⟩] scope pos) 0 (.ref I) (.ref D) (compEnvC scope (clOf xc (C + 1) cl) C env)) (CPost (model prog w) A E use h₀ L m Q C D) { s₂ with heap := h } := by
    refine compLoop_turns (Inn := InnD prog w A D kx vx (compEnvC scope (clOf xc (C + 1) cl) C env)) W (turn_dict1 ..) innD_ok innD_mono rfl rfl rfl hLf hwr (news := (C, oC) :: (D, emptyD) :: (exOf xc (C + 1) ++ news)) (fun p hp => ?_) hst₁ F₁ N₁
      (fun i l => ∃ kvs oD oC mC news₁, l = (C, oC) :: (D, oD) :: news₁ ∧ NsO oC mC ∧ oD.IsDictOf (PySem.strKind prog w) kvs ∧ (∀ p ∈ news₁, p.1 ≠ C ∧ p.1 ≠ D) ∧ kvs.length ≤ i ∧ J i kvs news₁) ⟨[], _, oC, _, _, rfl, hoC, emptyD_is, offn, Nat.le_refl _, h0⟩ ?_ ?_
    · rcases List.mem_cons.mp hp with rfl | hp
      · exact fun hm => hCf (W.sub _ hm)
      · rcases List.mem_cons.mp hp with rfl | hp
        · exact fun hm => hDf (W.sub _ hm)
        · exact hnx p hp
    · rintro i v news₁' h₁ tk₁ own E' hi hP ⟨kvs, oD₁, oC₁, mC, news₁, rfl, hoC₁, hoD₁, off₁, hyl, hJ⟩ hnw₁ hof hown hst₂ F₂ N₂
      have offa : ∀ p ∈ news₁ ++ own, p.1 ≠ C ∧ p.1 ≠ D := fun p hp => by
        rcases List.mem_append.mp hp with hp | hp
        · exact off₁ p hp
        · exact ⟨fun q => hCf (q ▸ hof p hp), fun q => hDf (q ▸ hof p hp)⟩
      have wrown : ∀ b ∈ wr, ∃ o, (b, o) ∈ own := fun b hb => by
        obtain ⟨o, ho⟩ := hal _ _ hst₂ b hb
        exact ⟨o, hown b (W.sub b hb) (hwr b hb) o ho⟩
      have out : ∀ (news' : List (Addr × Obj)), (∀ p ∈ news', (∃ q ∈ news₁, q.1 = p.1) ∨ ∀ q ∈ (C, oC₁) :: (D, oD₁) :: (news₁ ++ own), q.1 < p.1) → (∀ p ∈ news', p.1 ≠ C ∧ p.1 ≠ D) ∧ ∀ p ∈ news', p.1 ∉ wr := fun news' hh => by
        refine ⟨fun p hp => ?_, fun p hp hm => ?_⟩
        · rcases hh p hp with ⟨q, hq, e⟩ | hq
          · exact e ▸ off₁ q hq
          · exact ⟨Nat.ne_of_gt (hq _ List.mem_cons_self), Nat.ne_of_gt (hq (D, oD₁) (List.mem_cons_of_mem _ List.mem_cons_self))⟩
        · rcases hh p hp with ⟨q, hq, e⟩ | hq
          · exact hnw₁ q (List.mem_cons_of_mem _ (List.mem_cons_of_mem _ hq)) (e ▸ hm)
          · obtain ⟨o, ho⟩ := wrown _ hm
            exact Nat.lt_irrefl _ (hq (p.1, o) (List.mem_cons_of_mem _ (List.mem_cons_of_mem _ (List.mem_append_right _ ho))))
      have wrC : ∀ (o : Obj) (l : List (Addr × Obj)) (x : Obj), (∀ p ∈ l, p.1 ∉ wr) → ∀ p ∈ (C, o) :: (D, x) :: l, p.1 ∉ wr := fun o l x hl p hp => by
        rcases List.mem_cons.mp hp with rfl | hp
        · exact fun hm => hCf (W.sub _ hm)
        · rcases List.mem_cons.mp hp with rfl | hp
          · exact fun hm => hDf (W.sub _ hm)
          · exact hl p hp
      refine wpAny_mono (step i v kvs news₁ oC₁ mC oD₁ h₁ tk₁ own E' hi hP hJ F₂ N₂ hoC₁ hoD₁ hCD offa (fun p hp => hD ▸ hfp _ (hof p hp))) (fun _ s₃ h₃ => wpAny_tests_nil ?_) fun _ _ e => e
      simp only [if_true]
      refine wpAny_mono h₃ (fun kv s₄ h₄ => wpAny_mono h₄ (fun vv s₅ h₅ => ?_) fun _ _ e => e) fun _ _ e => e
      obtain ⟨k, t, rfl, h', tk', oC', mC', news', rfl, F₃, N₃, hoC', hh, hJ'⟩ := h₅
      obtain ⟨o1, o2⟩ := out _ hh
      have zD := N₃ (D, oD₁) (List.mem_cons_of_mem _ List.mem_cons_self)
      refine wpAny_dictSet_pairs (hsz := Nat.le_trans hyl (Nat.le_trans (Nat.le_of_lt hi) hn)) (strKind_is _ _ _ _) (Heap.dictOf_iff.mpr ⟨_, zD.1, hoD₁⟩) fun h₅ hd₅ hs₅ => ?_
      obtain ⟨oD', e1, e2⟩ := Heap.dictOf_iff.mp hd₅
      refine ⟨h₅, _, (C, oC') :: (D, oD') :: news', rfl, F₃.change hs₅ zD.2.1 zD.2.2, fun p hp => ?_, wrC _ _ _ o2, _, oD', oC', mC', news', rfl, hoC', e2, o1, Nat.le_trans stored_len (Nat.succ_le_succ hyl), hJ'⟩
      rcases List.mem_cons.mp hp with rfl | hp
      · have z := N₃ (C, oC') List.mem_cons_self
        exact ⟨hs₅.extBut _ _ hCD z.1, z.2⟩
      · rcases List.mem_cons.mp hp with rfl | hp
        · exact ⟨e1, zD.2⟩
        · have z := N₃ p (List.mem_cons_of_mem _ (List.mem_cons_of_mem _ hp))
          refine ⟨hs₅.extBut _ _ ?_ z.1, z.2⟩
          rcases List.mem_append.mp hp with hp | hp
          · exact (o1 p hp).2
          · exact (offa p (List.mem_append_right _ hp)).2
    · rintro h' tk' news' F' N' hnw' ⟨kvs, oD', oC', mC', news₁, rfl, hoC', hoD', off', _, hJ'⟩
      have offC : ∀ p ∈ (D, oD') :: news₁, p.1 ≠ C := fun p hp => by
        rcases List.mem_cons.mp hp with rfl | hp
        · exact Ne.symm hCD
        · exact (off' p hp).1
      exact ⟨oC', mC', (D, oD') :: news₁, F', N', hoC', offC, fin kvs news₁ oC' oD' h' tk' hJ' hoD' F' N' offC (fun p hp => (off' p hp).2)⟩
  exact codeAny_compStart_dict loop (hself _ _ _ hst₁ loop)
theorem dictComp1 {xc : Option Str} {kx vx target iter : Expr} {scope : Scope} {pos : Pos} {cl : List (Str × Addr)} {Q : Value → Shared → Prop}
    (_F₀ : Fr h₀ L s.heap m) (hclos : closureFor scope env = pure cl) (hkind : scope.kind = .function)
    (hnames : ∀ x ∈ scope.names, x.2 = .local → scope.names.lookup x.1 = some .local) (hpush : ∀ h, pushCells h scope.names = puOf xc h) (hfrom : ∀ n, cellsFrom n scope.names cl = clOf xc n cl)
    (h : wpAny (model prog w) A (eval iter env) (fun x s₁ => wpAny (model prog w) A (pyIter x) (fun it s₂ => DC1 prog w A env h₀ L m xc kx vx target scope cl Q it s₂) E s₁) E s)
    (hs : ∀ x, foldedSetIterable iter env x = pure x := by intro _; rfl) :
    wpAny (model prog w) A (eval (.DictComp kx vx [⟨target, iter, [], 0⟩] scope pos) env) Q E s := by
  rw [arm_eval_DictComp]
  refine dictComp1U (use := none) _F₀ hclos hkind hnames hpush hfrom (wpAny_mono h (fun x s₁ h₁ => wpAny_mono h₁ (fun it s₂ h₂ => ?_) fun _ _ e => e) fun _ _ e => e) hs
  obtain ⟨news, n, P, S, hn, k9⟩ := h₂
  refine ⟨news, n, P, S, hn, fun C D hC hlt => ?_⟩
  obtain ⟨J, h0, step, fin⟩ := k9 C D hC hlt
  exact ⟨J, h0, step, fun kvs news' oC oD h tk hJ hD F N offC offD h'' F'' N'' => fin kvs news' oD h'' tk hJ hD F'' N'' offD⟩
end
end Mine
end
section
open PySem PySem.W PySem.Calls PyProof.Rows PyProof.V PySem.Spec
set_option maxRecDepth 100000
set_option maxHeartbeats 0
namespace Mine
noncomputable abbrev IsStr (v : Value) (x : Str) : Prop := ∃ t, v = .str x t
section
variable {prog : Program} {w : World} {A : Around} {E : Value → Shared → Prop} {s : Shared} {h₀ : Heap} {L : Addr} {m : Str → Option Value} {news : List (Addr × Obj)}
/-- two names set at once in a comprehension's frame, the first of them a cell -/
theorem asg_cellpair {C D CP T : Addr} {oC oD oP : Obj} {mC : Str → Option Value} {v₀ : Option Value} {cenv : Env} {a b : Str} {pa pb tp : Pos} {kk : Nat} {x y : Value} {R : List (Addr × Obj)} {Q : Unit → Shared → Prop}
    (hh : A.handled = none) (ht : s.heap.IsTuple T #[x, y])
    (F : Fr h₀ L s.heap m) (N : News h₀ L s.heap ((C, oC) :: (D, oD) :: (CP, oP) :: R)) (hC : NsO oC mC) (hP : oP.data = .cell v₀) (hCD : D ≠ C) (hCP : CP ≠ C) (hDP : D ≠ CP) (off : ∀ p ∈ R, p.1 ≠ C) (offP : ∀ p ∈ R, p.1 ≠ CP)
    (hl : cenv.locals = C) (hk : cenv.scope.kind = .function) (ha : cenv.kindOf a = some .cell) (hc : cenv.cells.lookup a = some CP) (hb : cenv.kindOf b = some .local)
    (hp : (cenv.scope.kind == .class || (cenv.scope.kind == .module && cenv.locals != cenv.globals)) = false)
    (h : ∀ h' tk oC' oP' mC', Fr h₀ L h' m → News h₀ L h' ((C, oC') :: (D, oD) :: (CP, oP') :: R) → NsO oC' mC' → mC' b = some y → oP'.data = .cell (some x) → Q () { s with heap := h', toks := tk }) :
    wpAny (model prog w) A (assign (.Tuple [.Name a pa, .Name b pb] kk tp) cenv (.ref T)) Q E s := by
  subst hl
  have zC := N _ List.mem_cons_self
  have zP := N (CP, oP) (by simp)
  refine wpAny_assign_Tuple hh ht rfl rfl fun h₁ he₁ => ?_
  have up₁ : ∀ c o, s.heap.get? c = some o → h₁.get? c = some o := fun c o e => he₁ c o (Nat.ne_of_lt (Heap.lt_size e)) e
  show wpAny _ _ (assignInOrder [assign (.Name a pa) cenv, assign (.Name b pb) cenv] [x, y]) _ _ _
  refine assignInOrder_cons ?_
  refine wpAny_assign_Name (wpAny_storeName_cell hk ha hc ⟨oP, up₁ _ _ zP.1, hP⟩ fun h₂ hv₂ hs₂ => ?_)
  refine assignInOrder_cons ?_
  have hn : s.heap.Ns cenv.locals mC := hC.ns zC.1
  have hn₂ : h₂.Ns cenv.locals mC := hn.at' fun o e => hs₂.extBut _ o (Ne.symm hCP) (up₁ _ o e)
  refine wpAny_assign_Name (wpAny_storeName_local hb hn₂ (fun h₃ hn₃ hs₃ => ?_) hp)
  refine assignInOrder_nil ?_
  obtain ⟨oP', hoP', hdP'⟩ := hv₂
  obtain ⟨o, ho, hO⟩ := LCg.ns_obj hn₃
  refine h h₃ _ o oP' _ ⟨F.ns.at' fun o e => ?_, fun c o e => ?_, F.above⟩ (fun p hp => ?_) hO (by simp) hdP'
  · exact hs₃.extBut _ _ (Ne.symm zC.2.1) (hs₂.extBut _ _ (Ne.symm zP.2.1) (up₁ _ _ e))
  · have e1 : c ≠ cenv.locals := fun q => by rw [q, zC.2.2] at e; cases e
    have e2 : c ≠ CP := fun q => by rw [q, zP.2.2] at e; cases e
    exact hs₃.extBut _ _ e1 (hs₂.extBut _ _ e2 (up₁ _ _ (F.keep c o e)))
  · rcases List.mem_cons.mp hp with rfl | hp
    · exact ⟨ho, zC.2⟩
    · rcases List.mem_cons.mp hp with rfl | hp
      · have z := N (D, oD) (by simp)
        exact ⟨hs₃.extBut _ _ hCD (hs₂.extBut _ _ hDP (up₁ _ _ z.1)), z.2⟩
      · rcases List.mem_cons.mp hp with rfl | hp
        · exact ⟨hs₃.extBut _ _ hCP hoP', zP.2⟩
        · have z := N p (by simp [hp])
          exact ⟨hs₃.extBut _ _ (off p hp) (hs₂.extBut _ _ (offP p hp) (up₁ _ _ z.1)), z.2⟩
theorem news_rot2 {C D T T2 : Addr} {oC oD o o2 : Obj} {h : Heap} {news₁ own : Ledger} (N : News h₀ L h ((T, o) :: (T2, o2) :: (C, oC) :: (D, oD) :: (news₁ ++ own))) : News h₀ L h ((C, oC) :: (D, oD) :: (((T, o) :: news₁) ++ own)) := fun p hp => N p (by
  simp only [List.mem_cons, List.cons_append, List.mem_append] at hp ⊢
  rcases hp with h | h | h | h | h <;> simp [h])
theorem item2 {value slice : Expr} {T : Addr} {k p q : Int} {t u u' : Tok} {Q : Value → Shared → Prop} (N : News h₀ L s.heap news) (hm : (T, tupObj #[.int p t, .int q u]) ∈ news) (hk : k = 0 ∨ k = 1) (h : ∀ t', Q (.int (if k = 1 then q else p) t') s)
    (hs : subscripted slice false (.ref T) (.int k u') = operate [.ref T, .int k u'] (getItem (.ref T) (.int k u')) := by with_unfolding_all rfl) (hg : ∀ r, letTemporaryGo value (.ref T) r = pure () := by intro _; with_unfolding_all rfl) :
    wpAny (model prog w) A (subscriptTail value slice (.ref T) (.int k u')) Q E s := by
  have ht : IsTup s.heap T #[.int p t, .int q u] := ⟨_, (N _ hm).1, rfl, _, rfl⟩
  rcases hk with rfl | rfl
  · exact item_tuple ht (by decide) (by decide) (j := 0) rfl rfl (h t) hs hg
  · exact item_tuple ht (by decide) (by decide) (j := 1) rfl rfl (h u) hs hg
end
section
variable {A : Around} {s : Shared} {h : Heap}
theorem readsAll_strs : ∀ {vs : List Value} {ss : List Str}, Paired IsStr vs ss → ReadsAll h vs (ss.map PyData.str) []
  | _, _, .nil => .nil
  | _, _, .cons (b := x) ⟨t, e⟩ r => by
    subst e
    have := ReadsAll.cons (Reads.str (h := h) x t) (readsAll_strs r)
    simpa using this
theorem reads_strs {a : Addr} {its : Array Value} {ss : List Str} (hl : h.IsList a its) (hs : Paired IsStr its.toList ss) : Reads h (.ref a) (.list (ss.map PyData.str)) [a] := by
  obtain ⟨o, ho, hc, n, hd⟩ := hl
  exact Reads.list ho hc hd (readsAll_strs hs)
theorem shaped_strs {ss : List Str} (hk : ss.all PyData.strOk = true) : SeqAt.shaped (.list (ss.map PyData.str)) = true := by
  simp [SeqAt.shaped, PyData.canLay0, PyData.depth, canLayAll_strs', depthAll_strs', hk]
theorem sameAll_strs : ∀ ns ms : List Str, PySem.Spec.sameAll (ns.map PyData.str) (ms.map PyData.str) = decide (ns = ms)
  | [], [] => by simp [PySem.Spec.sameAll]
  | [], _ :: _ => by simp [PySem.Spec.sameAll]
  | _ :: _, [] => by simp [PySem.Spec.sameAll]
  | n :: r, k :: q => by
    simp only [List.map_cons, PySem.Spec.sameAll, PySem.Spec.same, sameAll_strs r q]
    by_cases h : n = k <;> simp [h]
theorem noMix_strs : ∀ ns ms : List Str, SeqAt.noMixAll (ns.map PyData.str) (ms.map PyData.str) = true
  | [], [] => by simp [SeqAt.noMixAll]
  | [], _ :: _ => by simp [SeqAt.noMixAll]
  | _ :: _, [] => by simp [SeqAt.noMixAll]
  | _ :: r, _ :: q => by simp [SeqAt.noMixAll, SeqAt.noMix, noMix_strs r q]
theorem strs_eqAt {a b : Addr} {xs ys : Array Value} {ss ts : List Str} (ha : s.heap.IsList a xs) (hb : s.heap.IsList b ys) (hx : Paired IsStr xs.toList ss) (hy : Paired IsStr ys.toList ts)
    (ks : ss.all PyData.strOk = true) (kt : ts.all PyData.strOk = true) (hu : A.in1.units + 64 < cLine) : SeqAt.EqAt A.in1 s (.ref a) (.ref b) (decide (ss = ts)) := by
  have x := keq_at (A := A) (reads_strs ha hx) (reads_strs hb hy) (shaped_strs ks) (shaped_strs kt) hu
  have e : PyData.eqv (.list (ss.map PyData.str)) (.list (ts.map PyData.str)) = decide (ss = ts) := by
    rw [← SeqAt.same_eq_eqv _ _ (by simp only [SeqAt.noMix]; exact noMix_strs ss ts)]
    simp only [PySem.Spec.same]
    exact sameAll_strs ss ts
  rw [e] at x
  exact x
end
/-- a dict's pairs, told by a list of keys with data -/
noncomputable abbrev KvIs {δ : Type} (R : Value → δ → Prop) (kv : Str × Value) (x : Str × δ) : Prop := kv.1 = x.1 ∧ R kv.2 x.2
theorem valueAt_paired {δ : Type} {R : Value → δ → Prop} {kvs : List (Str × Value)} {xs : List (Str × δ)} (p : Paired (KvIs R) kvs xs) : (xs.map (·.1)).Nodup → ∀ {i : Nat} {k : Str} {z : δ}, xs[i]? = some (k, z) → ∃ v, valueAt kvs k = some v ∧ R v z := by
  induction p with
  | nil => intro _ i k z h; simp at h
  | @cons kv x l l' hab hr ih =>
    intro nd i k z h
    rw [List.map_cons, List.nodup_cons] at nd
    cases i with
    | zero =>
      simp only [List.getElem?_cons_zero, Option.some.injEq] at h
      subst h
      refine ⟨kv.2, ?_, hab.2⟩
      unfold valueAt
      rw [List.find?_cons_of_pos (by simpa using hab.1)]
      rfl
    | succ i =>
      simp only [List.getElem?_cons_succ] at h
      obtain ⟨v, h1, h2⟩ := ih nd.2 h
      refine ⟨v, ?_, h2⟩
      have hne : ¬ kv.1 = k := by
        rw [hab.1]
        rintro rfl
        exact nd.1 (List.mem_map.mpr ⟨_, List.mem_of_getElem? h, rfl⟩)
      unfold valueAt at h1 ⊢
      rw [List.find?_cons_of_neg (by simpa using hne)]
      exact h1
theorem stored_paired {δ : Type} {R : Value → δ → Prop} {kvs : List (Str × Value)} {xs : List (Str × δ)} (p : Paired (KvIs R) kvs xs) {k : Str} {v : Value} {z : δ} (hn : k ∉ xs.map (·.1)) (hv : R v z) : Paired (KvIs R) (stored kvs k v) (xs ++ [(k, z)]) := by
  have e : kvs.map (·.1) = xs.map (·.1) := by
    clear hn
    induction p with
    | nil => rfl
    | cons hab _ ih => rw [List.map_cons, List.map_cons, hab.1, ih]
  unfold stored
  rw [if_neg (fun hq => by
    obtain ⟨kv, h1, h2⟩ := List.any_eq_true.mp hq
    exact hn (e ▸ List.mem_map.mpr ⟨kv, h1, by simpa using h2⟩))]
  exact Paired.snoc p ⟨rfl, hv⟩
theorem hits_paired {δ : Type} {A : Around} {s : Shared} {R R' : Value → δ → Prop} {ka kb : List (Str × Value)} {xs : List (Str × δ)} (pb : Paired (KvIs R') kb xs) (nd : (xs.map (·.1)).Nodup) (hR : ∀ v y z, z ∈ xs.map (·.2) → R v z → R' y z → SeqAt.EqAt A s v y true) :
    ∀ {ys : List (Str × δ)} {ka : List (Str × Value)}, Paired (KvIs R) ka ys → (∀ y ∈ ys, y ∈ xs) → KeqHits A s kb ka true := by
  intro ys ka pa
  induction pa with
  | nil => intro _; exact .nil
  | @cons kv y l l' hab hr ih =>
    intro hs
    obtain ⟨i, hi⟩ := List.mem_iff_getElem?.mp (hs y List.mem_cons_self)
    obtain ⟨v, h1, h2⟩ := valueAt_paired pb nd (i := i) (k := y.1) (z := y.2) hi
    have := KeqHits.hit (A := A) (s := s) (kb := kb) (k := kv.1) (v := kv.2) (y := v) (r := l) (e := true) (b := true) (by rw [hab.1]; exact h1) (hR _ _ y.2 (List.mem_map.mpr ⟨y, hs y List.mem_cons_self, rfl⟩) hab.2 h2) (ih fun q hq => hs q (List.mem_cons_of_mem _ hq))
    exact this
end Mine
end
section
open PySem PySem.W PySem.Calls PyProof.Rows PyProof.V PySem.Spec
set_option maxRecDepth 100000
set_option maxHeartbeats 0
namespace Mine
noncomputable def nameS (i : Nat) : Str := { cps := #[97 + i] }
noncomputable def pathS (p : List Nat) : Str := { cps := (p.map (97 + ·)).toArray }
noncomputable def extP (l : List (List Nat)) : List (List Nat) := l.flatMap fun p => ((List.range 5).filter fun x => !p.contains x).map fun x => p ++ [x]
noncomputable def P1 : List (List Nat) := (List.range 5).map fun x => [x]
noncomputable def P2 : List (List Nat) := extP P1
noncomputable def P3 : List (List Nat) := extP P2
noncomputable def P4 : List (List Nat) := extP P3
noncomputable def P5 : List (List Nat) := extP P4
/-- every way through some of the five, none twice -/
noncomputable def allP : List (List Nat) := P1 ++ P2 ++ P3 ++ P4 ++ P5
noncomputable def lastP (p : List Nat) : Nat := p.getLastD 0
noncomputable def pathOk (p : List Nat) : Bool :=
  decide (Txt.item (pathS p) (-1) = nameS (lastP p)) && decide (lastP p < 5) && decide ((pathS p).length = p.length) && decide (1 ≤ p.length) && decide (p.length ≤ 5) &&
  (List.range 5).all fun x => decide (pathS p ++ nameS x = pathS (p ++ [x])) && (p.contains x || (decide (p.length < 5) && true))
theorem path_occ (p : List Nat) (x : Nat) : (Builtin.Str.occurrences (pathS p) (nameS x) 0 (pathS p).length 1).isEmpty = !p.contains x := by
  have h := StrLaws.found_one (pathS p) (97 + x)
  have e : decide (97 + x ∈ (pathS p).cps.toList) = p.contains x := by
    unfold pathS
    rw [List.toList_toArray]
    by_cases hm : x ∈ p
    · rw [decide_eq_true (List.mem_map.mpr ⟨x, hm, rfl⟩)]
      simp [hm]
    · rw [decide_eq_false (fun hq => by
        obtain ⟨y, h1, h2⟩ := List.mem_map.mp hq
        have : y = x := by omega
        exact hm (this ▸ h1))]
      simp [hm]
  rw [e] at h
  rw [← h, Bool.not_not]
  rfl
theorem allP_ok : (allP.all pathOk) = true := by decide +kernel
theorem ext_in (k : Nat) (l l' : List (List Nat)) (h : l' = extP l) {p : List Nat} (hp : p ∈ l) {x : Nat} (hx : x < 5) (hn : p.contains x = false) : p ++ [x] ∈ l' := by
  rw [h]
  unfold extP
  exact List.mem_flatMap.mpr ⟨p, hp, List.mem_map.mpr ⟨x, List.mem_filter.mpr ⟨List.mem_range.mpr hx, by rw [hn]; rfl⟩, rfl⟩⟩
theorem P5_full : (P5.all fun p => (List.range 5).all fun x => p.contains x) = true := by decide +kernel
theorem ext_all {p : List Nat} (hp : p ∈ allP) {x : Nat} (hx : x < 5) (hn : p.contains x = false) : p ++ [x] ∈ allP := by
  unfold allP at hp ⊢
  simp only [List.mem_append] at hp ⊢
  rcases hp with (((hp | hp) | hp) | hp) | hp
  · exact .inl (.inl (.inl (.inr (ext_in 0 _ _ rfl hp hx hn))))
  · exact .inl (.inl (.inr (ext_in 0 _ _ rfl hp hx hn)))
  · exact .inl (.inr (ext_in 0 _ _ rfl hp hx hn))
  · exact .inr (ext_in 0 _ _ rfl hp hx hn)
  · have := List.all_eq_true.mp (List.all_eq_true.mp P5_full p hp) x (List.mem_range.mpr hx)
    rw [hn] at this
    cases this
theorem P1_in {x : Nat} (hx : x < 5) : [x] ∈ allP := by
  unfold allP
  simp only [List.mem_append]
  exact .inl (.inl (.inl (.inl (List.mem_map.mpr ⟨x, List.mem_range.mpr hx, rfl⟩))))
section
variable {p : List Nat} (hp : p ∈ allP)
include hp
theorem path_ok : pathOk p = true := List.all_eq_true.mp allP_ok p hp
theorem path_last : Txt.item (pathS p) (-1) = nameS (lastP p) ∧ lastP p < 5 ∧ (pathS p).length = p.length ∧ 1 ≤ p.length ∧ p.length ≤ 5 := by
  have h := path_ok hp
  unfold pathOk at h
  simp only [Bool.and_eq_true, decide_eq_true_eq] at h
  exact ⟨h.1.1.1.1.1, h.1.1.1.1.2, h.1.1.1.2, h.1.1.2, h.1.2⟩
theorem path_at {x : Nat} (hx : x < 5) : (Builtin.Str.occurrences (pathS p) (nameS x) 0 (pathS p).length 1).isEmpty = (!p.contains x) ∧ pathS p ++ nameS x = pathS (p ++ [x]) ∧ (p.contains x = false → p.length < 5) := by
  have h := path_ok hp
  unfold pathOk at h
  rw [Bool.and_eq_true] at h
  have h2 := List.all_eq_true.mp h.2 x (List.mem_range.mpr hx)
  simp only [Bool.and_eq_true, decide_eq_true_eq, Bool.or_eq_true, Bool.and_true] at h2
  exact ⟨path_occ p x, h2.1, fun hn => h2.2.resolve_left (by rw [hn]; exact Bool.false_ne_true)⟩
end
noncomputable def pathsF (nb : Nat → List Nat) : Nat → List Nat → List (List Nat)
  | 0, p => [p]
  | k + 1, p => p :: (nb (lastP p)).flatMap fun x => if p.contains x then [] else pathsF nb k (p ++ [x])
noncomputable def szP : Nat → Nat
  | 0 => 1
  | k + 1 => 1 + 5 * szP k
theorem flat_len {α β : Type} (f : α → List β) (n : Nat) : ∀ (l : List α), (∀ x ∈ l, (f x).length ≤ n) → (l.flatMap f).length ≤ l.length * n
  | [], _ => by simp
  | x :: r, h => by
    have h1 := h x List.mem_cons_self
    have h2 := flat_len f n r fun y hy => h y (List.mem_cons_of_mem _ hy)
    rw [List.flatMap_cons, List.length_append, List.length_cons, Nat.succ_mul]
    omega
theorem pathsF_len (nb : Nat → List Nat) (hn : ∀ i, (nb i).length ≤ 5) : ∀ (k : Nat) (p : List Nat), (pathsF nb k p).length ≤ szP k
  | 0, p => Nat.le_refl _
  | k + 1, p => by
    unfold pathsF szP
    rw [List.length_cons]
    have := flat_len (fun x => if p.contains x then [] else pathsF nb k (p ++ [x])) (szP k) (nb (lastP p)) fun x _ => by
      split
      · exact Nat.zero_le _
      · exact pathsF_len nb hn k _
    have h2 := Nat.mul_le_mul_right (szP k) (hn (lastP p))
    omega
theorem szP_le {k : Nat} (h : k ≤ 5) : szP k ≤ 4000 := by
  have : ∀ k, k ≤ 5 → szP k ≤ 4000 := by decide
  exact this k h
theorem flat_take {α β : Type} (f : α → List β) {l : List α} {i : Nat} {x : α} (h : l[i]? = some x) : (l.take (i + 1)).flatMap f = (l.take i).flatMap f ++ f x := by
  rw [List.take_add_one, h, List.flatMap_append]
  simp
end Mine
end
section
open PySem PySem.W PySem.Calls PyProof.Rows PyProof.V PySem.Spec
set_option maxRecDepth 100000
set_option maxHeartbeats 0
namespace Mine
theorem fillKn (h : Heap) (w : World) : PySem.Challenge.rw_sn0103_01 = PySem.Challenge.rw_sn0103_01 ∧ (K w.params).In h = (K w.params).In h := by
  k_fill
  exact ⟨rfl, rfl⟩
local macro_rules | `(tactic| walk_at $s:str) => `(tactic| k_extra $s)
local macro_rules | `(tactic| k_all) => `(tactic| assumption)
/-- who has won, who has lost -/
noncomputable def wl (d : Int) (p : Int × Int) : Int × Int := if d % 2 = 1 then (p.2, p.1) else p
noncomputable def gB (ds : List Int) : List (Int × Int) := List.zipWith wl ds (pairsTo 5)
theorem gB_len {ds : List Int} (h : ds.length = 10) : (gB ds).length = 10 := by
  unfold gB
  rw [List.length_zipWith, h]
  rfl
theorem gB_succ {ds : List Int} {i : Nat} {d : Int} {p : Int × Int} (hd : ds[i]? = some d) (hp : (pairsTo 5)[i]? = some p) : (gB ds).take (i + 1) = (gB ds).take i ++ [wl d p] := by
  have e : (gB ds)[i]? = some (wl d p) := by
    unfold gB
    rw [List.getElem?_zipWith, hd, hp]
  rw [List.take_add_one, e]
  rfl
theorem fmod2 (d : Int) : d.fmod 2 = 0 ∨ d.fmod 2 = 1 := by
  rw [Int.fmod_eq_emod_of_nonneg _ (by decide)]
  omega
theorem fmod2' (d : Int) : 1 - d.fmod 2 = 0 ∨ 1 - d.fmod 2 = 1 := by
  rw [Int.fmod_eq_emod_of_nonneg _ (by decide)]
  omega
theorem wl_eq (d : Int) (p : Int × Int) : ((if d.fmod 2 = 1 then p.2 else p.1 : Int), (if 1 - d.fmod 2 = 1 then p.2 else p.1 : Int)) = wl d p := by
  unfold wl
  rw [Int.fmod_eq_emod_of_nonneg _ (by decide)]
  by_cases h : d % 2 = 1
  · rw [if_pos h, if_pos h, if_neg (by omega)]
  · rw [if_neg h, if_neg h, if_pos (by omega)]
/-- whom each has beaten -/
noncomputable def beatF (g : List (Int × Int)) : List (Str × List Str) := (List.range 5).map fun i => (nameS i, (g.filter fun p => decide (p.1 = (i : Int))).map fun p => nameF p.2)
theorem gB_ok {ds : List Int} : ∀ g ∈ gB ds, 0 ≤ g.1 ∧ g.1 < 5 ∧ 0 ≤ g.2 ∧ g.2 < 5 := fun g hg => by
  obtain ⟨i, hi⟩ := List.mem_iff_getElem?.mp hg
  unfold gB at hi
  rw [List.getElem?_zipWith] at hi
  cases h1 : ds[i]? with
  | none => rw [h1] at hi; cases hi
  | some d =>
    cases h2 : (pairsTo 5)[i]? with
    | none => rw [h1, h2] at hi; cases hi
    | some p =>
      rw [h1, h2] at hi
      have e := Option.some.inj hi
      obtain ⟨a1, a2, a3, a4⟩ := pairs_ok9 p (List.mem_of_getElem? h2)
      rw [← e]
      unfold wl
      split
      · exact ⟨a3, a4, a1, a2⟩
      · exact ⟨a1, a2, a3, a4⟩
theorem itemN {prog : Program} {w : World} {A : Around} {E : Value → Shared → Prop} {s : Shared} {value slice : Expr} {p : Int} {t u : Tok} {Q : Value → Shared → Prop} (h0 : 0 ≤ p) (h1 : p < 5)
    (h : Q (.str (nameF p) s.toks) { s with toks := s.toks + 1 })
    (hs : subscripted slice false (.str (Str.ofString "abcde") t) (.int p u) = operate [.str (Str.ofString "abcde") t, .int p u] (getItem (.str (Str.ofString "abcde") t) (.int p u)) := by with_unfolding_all rfl)
    (ht : ∀ r, letTemporaryGo value (.str (Str.ofString "abcde") t) r = pure () := by intro _; with_unfolding_all rfl) :
    wpAny (model prog w) A (subscriptTail value slice (.str (Str.ofString "abcde") t) (.int p u)) Q E s := by
  have hl : ((Str.ofString "abcde").length : Int) = 5 := by decide
  exact item_str (fitsSsize_of (N := 9223372036854775808) (by omega) (by omega) (Int.le_refl _)) (by omega) (by omega) (fun _ => h) hs ht
theorem beat_yes {g : List (Int × Int)} {i j : Nat} {p : Int × Int} (h : g[j]? = some p) (c : p.1 = (i : Int)) : (((g.take (j + 1)).filter fun p => decide (p.1 = (i : Int))).map fun p => nameF p.2) = (((g.take j).filter fun p => decide (p.1 = (i : Int))).map fun p => nameF p.2) ++ [nameF p.2] := by
  rw [List.take_add_one, h, List.filter_append, List.map_append]
  simp [c]
theorem beat_no {g : List (Int × Int)} {i j : Nat} {p : Int × Int} (h : g[j]? = some p) (c : ¬ p.1 = (i : Int)) : (((g.take (j + 1)).filter fun p => decide (p.1 = (i : Int))).map fun p => nameF p.2) = (((g.take j).filter fun p => decide (p.1 = (i : Int))).map fun p => nameF p.2) := by
  rw [List.take_add_one, h, List.filter_append, List.map_append]
  simp [c]
theorem kv_mono {l l' : Ledger} (hs : ∀ p ∈ l, p ∈ l') {kv : Str × Value} {z : Str × List Str} (x : KvIs (fun v (z : List Str) => ∃ D2 ws, v = .ref D2 ∧ (D2, LCg.lst ws) ∈ l ∧ Paired IsStr ws z) kv z) : KvIs (fun v (z : List Str) => ∃ D2 ws, v = .ref D2 ∧ (D2, LCg.lst ws) ∈ l' ∧ Paired IsStr ws z) kv z := by
  obtain ⟨x1, D3, ws, e1, e2, e3⟩ := x
  exact ⟨x1, D3, ws, e1, hs _ e2, e3⟩
theorem beatF_succ {g : List (Int × Int)} {i : Nat} (hi : i < 5) : (beatF g).take (i + 1) = (beatF g).take i ++ [(nameS i, (g.filter fun p => decide (p.1 = (i : Int))).map fun p => nameF p.2)] := by
  have e : (beatF g)[i]? = some (nameS i, (g.filter fun p => decide (p.1 = (i : Int))).map fun p => nameF p.2) := by
    unfold beatF
    rw [List.getElem?_map, List.getElem?_range hi]
    rfl
  rw [List.take_add_one, e]
  rfl
theorem beatF_keys (g : List (Int × Int)) : (beatF g).map (·.1) = (List.range 5).map nameS := by
  unfold beatF
  rw [List.map_map]
  rfl
theorem beatF_new {g : List (Int × Int)} {i : Nat} (hi : i < 5) : nameS i ∉ ((beatF g).take i).map (·.1) := by
  rw [List.map_take, beatF_keys]
  have : ∀ i, i < 5 → nameS i ∉ ((List.range 5).map nameS).take i := by decide +kernel
  exact this i hi
theorem sign_name {i c : Nat} (hi : i < 5) (h : (Str.ofString "abcde").cps[i]? = some c) : ({ cps := #[c] } : Str) = nameS i := by
  have : ∀ i, i < 5 → (Str.ofString "abcde").cps[i]? = some (97 + i) := by decide +kernel
  rw [this i hi] at h
  rw [← Option.some.inj h]
  rfl
section
variable {w : World} {mean : ExcName → Option Value} {mg mb : Str → Option Value} {dp un : Nat} {gd : Option (List Code)} {cn : Str} {cs : Scope} {a : Addr} {ccd : Value} {cl : List (Str × Addr)} {outer : List Env} {A₀ : Around} {base h₀ : Heap} {L : Addr} {m : Str → Option Value} {news : List (Addr × Obj)} {s : Shared} {Q E : Value → Shared → Prop}
theorem beaten_call {DR : Addr} {its : List Value} {n : Nat} {ds : List Int} {o : Obj} (B : Below A₀ base outer h₀) (F : Fr h₀ L s.heap m) (X : (K w.params).In h₀) (N : News h₀ L s.heap news) (T : Top qV (looseW qV looseV) mean mg mb h₀) (hk : cs.kind = .function)
    (hm : (DR, o) ∈ news) (ho1 : o.cls = .type "list") (ho2 : o.data = .seq its.toArray n) (hv : Paired IsInt its ds) (hlen : ds.length = 10) (hd : dp + 8 < recursionLimit) (hu : un + 8 * 8 < cLine)
    (ret : ∀ D oD kvs tl h' tk', Fr h₀ L h' m → News h₀ L h' (news ++ tl) → (∀ q ∈ news, ∀ p ∈ tl, q.1 < p.1) → (D, oD) ∈ tl → oD.IsDictOf (PySem.strKind rwP w) kvs →
      Paired (KvIs fun v (z : List Str) => ∃ D2 ws, v = .ref D2 ∧ (D2, LCg.lst ws) ∈ tl ∧ Paired IsStr ws z) kvs (beatF (gB ds)) → Q (.ref D) { s with heap := h', toks := tk' }) :
    wpAny (model rwP w) (ktrTop dp un gd cn cs L a ccd cl outer) (call (.ref 298) [.ref DR]) Q E s := by
  k_with_none
  k_with "mem" => first | (with_reducible assumption) | (with_reducible exact List.mem_cons_self) | (refine List.mem_cons_of_mem _ ?_; k_extra "mem") | (refine List.mem_append_left _ ?_; k_extra "mem") | (refine List.mem_append_right _ ?_; k_extra "mem")
  k_with "sub" => first | (with_reducible exact fun _ h => h) | (refine sub_c ?_ ?_; (k_extra "mem"); (k_extra "sub")) | (refine sub_a ?_ ?_; (k_extra "sub"); (k_extra "sub")) | exact sub_n | (intro _ _; k_extra "mem")
  k_with "eval Name" => ((with_reducible show wpAny _ _ (eval (Expr.Name _ _) (envOf _ _ _ _ _)) _ _ _); (refine ld (by with_reducible assumption) (by with_reducible assumption) ?_))
  k_with "call ref" => (k_here; (with_reducible show wpAny _ _ (call (Value.ref 262) _) _ _ _); k_dflt (refine' tellsN_use ?k1 ?k2 ?k3 ?k4 ?k5 ?kK ?kR (pairs_tells _ _ _ _ ()) ?ko ?kd ?ku ?_; (case k1 => k_asm); (case k2 => k_asm); (case k3 => k_asm); (case k4 => k_asm); (case k5 => k_asm); (case kK => first | exact rfl | assumption); (case kR => exact rfl); (case ko => exact trivial); (case kd => (change _ + 2 < _; ktr_room)); (case ku => (change _ + 8 * 2 < _; ktr_units))); intro _ _ _ _ _ _ _ _ _)
  k_with "exec Assign cons ListComp" => (k_here; k_dflt (refine wpAny_Assign_Name ?_))
  k_with "eval ListComp" => (k_here; k_dflt (refine listComp1 (by k_asm) (by rfl) (by rfl) (by decide) (by decide) ?_))
  k_with "subscriptTail" => (k_here; (with_reducible show wpAny _ _ (subscriptTail _ _ (Value.ref _) (Value.int _ _)) _ _ _); k_dflt (refine' item2 ?k1 ?k2 ?k3 ?_; (case k1 => k_asm); (case k2 => k_mem); (case k3 => first | exact fmod2 _ | exact fmod2' _); k_whole); intro _)
  k_with "subscriptTail Name BinOp ref int" => (k_here; (with_reducible show wpAny _ _ (subscriptTail _ _ (Value.ref _) (Value.int _ _)) _ _ _); k_dflt (refine' item2 ?k1 ?k2 ?k3 ?_; (case k1 => k_asm); (case k2 => k_mem); (case k3 => first | exact fmod2 _ | exact fmod2' _); k_whole); intro _)
  k_with "eval DictComp" => (k_here; k_dflt (refine dictComp1 (xc := some (Str.ofString "place")) (by k_asm) (by rfl) (by rfl) (by decide) (by exact fun _ => rfl) (by exact fun _ => rfl) ?_))
  k_with "subscriptTail" => (k_here; (with_reducible show wpAny _ _ (subscriptTail _ _ (Value.str _ _) (Value.int _ _)) _ _ _); k_dflt (refine itemN (by assumption) (by assumption) ?_))
  refine wpAny_call ?_
  k_dflt (refine' code_defC ?k1 ?k2 ?k3 ?k4 ?k5 ?kA ?kF ?kK ?k6 ?k7 ?k8 ?k9 ?kB ?kD ?_ ?c2 ?c3 ?c4; (case kA => exact rfl); (case kF => exact rfl); (case kK => assumption); (case k1 => k_asm); (case k2 => k_asm); (case k3 => k_asm); (case k4 => k_asm); (case k5 => k_asm); (case k6 => k_is); (case k7 => k_is); (case k8 => ktr_room); (case k9 => exact BindsTo.of_eq rfl); (case kB => exact rfl); (case kD => decide +kernel); (case c2 => exact rfl); (case c3 => exact rfl); (case c4 => exact rfl); k_whole; intro g' L' h' tk' cells' FG' F' N' Y' B' X' T' l1; k_cells Y'; (try simp only [List.cons_append, List.nil_append] at N'); (try dsimp only); (try k_fold); (try k_lt l1))
  k_steps
  rename_i oc9 dc9 r9 tl9 h9 tk9 F9 N9 hl9 ht9 ho9
  obtain ⟨P2, ys, rfl, hp1, hp2⟩ := ho9
  have hy10 : ys.length = 10 := hp2.length.trans (by decide)
  have hx10 : its.length = 10 := hv.length.trans hlen
  have hmin : min its.toArray.size ys.toArray.size = 10 := by simp [hx10, hy10]
  refine src_zip (by rfl) F9 N9 (l1 := DR) (l2 := P2) (xs := its.toArray) (ys := ys.toArray) ?_ ?_ ?_ ?_ (av := []) (fun _ h => nomatch h) ?_
  · exact isList_of N9 (by k_extra "mem") ho1 ho2
  · exact isList_of N9 hp1 rfl rfl
  · exact .inr ⟨o, by k_extra "mem"⟩
  · exact .inr ⟨_, hp1⟩
  intro I h1 k1 S1
  rw [hmin] at S1
  obtain ⟨B0, hB0⟩ : ∃ B0, B0 = (L' + 1, oc9) :: news ++ tl9 := ⟨_, rfl⟩
  refine ⟨_, _, _, S1 _ _ _, by decide, fun i ys l => ∃ ex, l = ex ++ B0 ∧ (∀ p ∈ ex, ∀ q ∈ B0, q.1 < p.1) ∧ Paired (TupII ex) ys ((gB ds).take i), ⟨[], hB0.symm, (fun _ h => nomatch h), .nil⟩, ?_, ?_⟩
  · rintro i v zs news₁ C oC mC D h tk own E' hi ⟨T, vals, rfl, ⟨x, y, hx, hy, rfl⟩, hT⟩ ⟨ex, rfl, hJ0, hJ⟩ F1 N1 hC hCD off
    refine asg_pair (by rfl) hT F1 N1 hC (off1 hCD off) (by rfl) (by rfl) (by rfl) (by rfl) (by decide) ?_
    intro h2 tk2 oC2 mC2 F2 N2 hC2 hx2 hy2
    obtain ⟨dx, hdx, tx, rfl⟩ := paired_get hv (by simpa using hx)
    obtain ⟨py, hpy, T2, t2, u2, rfl, hT2⟩ := paired_get hp2 (by simpa using hy)
    rw [← hB0] at hT2
    have N3 : News g' L' h2 ((T2, tupObj #[Value.int py.1 t2, Value.int py.2 u2]) :: (C, oC2) :: (D, LCg.lst zs) :: ((ex ++ B0) ++ own)) := news_of N2 (by k_extra "sub")
    clear N2 N1
    k_steps
    rename_i t1 t2 T9 h9 F9 N9 l9
    refine ⟨h9, _, oC2, mC2, _ :: (ex ++ B0), rfl, F9, news_rot2 N9, hC2, newer l9.2, _ :: ex, rfl, ord_cons l9.2.2.2 hJ0, ?_⟩
    rw [gB_succ hdx hpy]
    refine Paired.snoc (paired_mono (fun _ _ x => x.mono fun _ h => List.mem_cons_of_mem _ h) hJ) ⟨T9, t1, t2, rfl, ?_⟩
    rw [← wl_eq]
    exact List.mem_cons_self
  · rintro zs news' D h tk ⟨ex, rfl, hJ0, hJz⟩ F1 N1 off hlt
    have hcB : (L' + 1, oc9) ∈ B0 := by rw [hB0]; k_extra "mem"
    obtain ⟨R2, hR2⟩ : ∃ R2, R2 = ex ++ (news ++ tl9) := ⟨_, rfl⟩
    have hne2 : ∀ p ∈ R2, p.1 ≠ L' + 1 := fun p hp => by
      rw [hR2] at hp
      rcases List.mem_append.mp hp with hp | hp
      · exact Nat.ne_of_gt (hJ0 p hp _ hcB)
      · rcases List.mem_append.mp hp with hp | hp
        · exact Nat.ne_of_lt (Nat.lt_succ_of_lt (l1 p hp))
        · exact Nat.ne_of_gt (hl9 (L' + 1, oc9) (by k_extra "mem") p hp)
    have hDc : @LT.lt Nat _ (L' + 1) D := hlt (L' + 1, oc9) (by k_extra "mem")
    have N2 : News g' L' h ((L' + 1, oc9) :: (D, LCg.lst zs) :: R2) := news_of N1 (by rw [hB0, hR2]; k_extra "sub")
    clear N1
    repeat (fail_if_success (with_reducible show wpAny _ _ (call (Value.type "enumerate") _) _ _ _)); (first | (k_unfold; (try dsimp only)) | (k_end; wrow_close) | walk1 | (dsimp only; walk1))
    rename_i h4 oc4 F4 N4 d4
    refine src_enumStr (by rfl) F4 N4 (by decide +kernel) (av := []) (fun _ h => nomatch h) ?_
    intro I4 h5 k5 S5
    refine ⟨_, _, _, S5 _ _ _, by decide, fun C₀ D₀ hC₀ hlt₀ => ?_⟩
    obtain ⟨B1, hB1⟩ : ∃ B1, B1 = (L' + 1, oc4) :: (D, LCg.lst zs) :: R2 := ⟨_, rfl⟩
    refine ⟨fun i kvs l => ∃ oP vP ex, oP.data = .cell vP ∧ l = (C₀ + 1, oP) :: (ex ++ B1) ∧ (∀ p ∈ ex, C₀ + 1 < p.1 ∧ ∀ q ∈ B1, q.1 < p.1) ∧ Paired (KvIs fun v (z : List Str) => ∃ D2 ws, v = .ref D2 ∧ (D2, LCg.lst ws) ∈ ex ∧ Paired IsStr ws z) kvs ((beatF (gB ds)).take i), ⟨_, none, [], rfl, by rw [hB1]; rfl, (fun _ h => nomatch h), .nil⟩, ?_, ?_⟩
    · rintro i v kvs news₁ oC mC oD h tk own E' hi ⟨T, vals, rfl, ⟨t, x, hx, rfl⟩, hT⟩ ⟨oP, vP, ex2, hP, rfl, hJ0, hJ⟩ F1 N1 hC hD hCD off hol
      have hi5 : i < 5 := hi
      obtain ⟨cx, ux, hcx, rfl⟩ := hx
      have hxe : ({ cps := #[cx] } : Str) = nameS i := sign_name hi5 hcx
      rw [hxe] at hT
      obtain ⟨R3, hR3⟩ : ∃ R3, R3 = (ex2 ++ B1) ++ own := ⟨_, rfl⟩
      have hltB : ∀ q ∈ B1, q.1 < D₀ := fun q hq => hlt₀ q (hB1 ▸ hq)
      have hoffP : ∀ p ∈ R3, p.1 ≠ C₀ + 1 := fun p hp => by
        rw [hR3] at hp
        rcases List.mem_append.mp hp with hp | hp
        · rcases List.mem_append.mp hp with hp | hp
          · exact Nat.ne_of_gt (hJ0 p hp).1
          · exact Nat.ne_of_lt (Nat.lt_of_lt_of_le (hltB p hp) (hC₀ ▸ Nat.le_succ_of_le (Nat.le_succ _)))
        · exact Nat.ne_of_lt (Nat.lt_of_lt_of_le (hol p hp) (hC₀ ▸ Nat.le_succ_of_le (Nat.le_succ _)))
      have hoffC : ∀ p ∈ R3, p.1 ≠ C₀ := fun p hp => by
        rw [hR3] at hp
        refine (off p ?_).1
        rw [List.cons_append]
        exact List.mem_cons_of_mem _ hp
      have hDP : D₀ ≠ C₀ + 1 := by rw [hC₀]; exact Nat.ne_of_lt (Nat.lt_succ_of_lt (Nat.lt_succ_self _))
      have N2 : News g' L' h ((C₀, oC) :: (D₀, oD) :: (C₀ + 1, oP) :: R3) := by rw [hR3]; exact N1
      refine asg_cellpair (by rfl) hT F1 N2 hC hP (Ne.symm hCD) (Nat.succ_ne_self _) hDP hoffC hoffP (by rfl) (by rfl) (by rfl) (by rfl) (by rfl) (by rfl) ?_
      intro h6 tk6 oC6 oP6 mC6 F6 N6 hC6 hx6 hP6
      clear N1 N2
      have hB1R : ∀ p ∈ B1, p ∈ R3 := fun p hp => by rw [hR3]; k_extra "mem"
      have N7 : News g' L' h6 ((L' + 1, oc4) :: (D, LCg.lst zs) :: (C₀, oC6) :: (D₀, oD) :: (C₀ + 1, oP6) :: R3) := by
        have q1 := hB1R (L' + 1, oc4) (by rw [hB1]; k_extra "mem")
        have q2 := hB1R (D, LCg.lst zs) (by rw [hB1]; k_extra "mem")
        exact news_of N6 (by k_extra "sub")
      clear N6
      obtain ⟨B2, hB2⟩ : ∃ B2, B2 = (C₀, oC6) :: (D₀, oD) :: (C₀ + 1, oP6) :: R3 := ⟨_, rfl⟩
      have hZ : Paired (TupOf (fun vs (d : Int × Int) => ∃ t u, vs = #[.int d.1 t, .int d.2 u]) ((L' + 1, oc4) :: (D, LCg.lst zs) :: (C₀, oC6) :: (D₀, oD) :: (C₀ + 1, oP6) :: R3)) zs (gB ds) := by
        rw [List.take_of_length_le (Nat.le_of_eq (gB_len hlen))] at hJz
        refine paired_mono (fun v d x => ?_) hJz
        obtain ⟨T, t, u, e1, e2⟩ := x
        exact ⟨T, _, e1, by
          have : (T, tupObj #[Value.int d.1 t, Value.int d.2 u]) ∈ R3 := hB1R _ (by rw [hB1, hR2]; k_extra "mem")
          k_extra "mem", t, u, rfl⟩
      k_steps
      refine src_tups (by rfl) F6 N7 (ax := D) (its := zs.toArray) (n := zs.length) (List.mem_cons_of_mem _ List.mem_cons_self) (by rw [List.toList_toArray]; exact hZ) (av := []) (fun _ h => nomatch h) fun h7 up7 S7 => ?_
      have hzl : zs.toArray.size = 10 := by rw [List.size_toArray, hZ.length, gB_len hlen]
      rw [hzl] at S7
      refine ⟨_, _, _, S7 _ _ _, by decide, fun j ys l => l = (L' + 1, oc4) :: (D, LCg.lst zs) :: (C₀, oC6) :: (D₀, oD) :: (C₀ + 1, oP6) :: R3 ∧ Paired IsStr ys ((((gB ds).take j).filter fun p => decide (p.1 = (i : Int))).map fun p => nameF p.2), ⟨rfl, .nil⟩, ?_, ?_⟩
      · rintro j v ys news₁ C8 oC8 mC8 D2 h tk own2 E2 hj ⟨T5, vs5, rfl, hT5, hG5⟩ ⟨rfl, hJ5⟩ F8 N8 hC8 hCD8 off8
        obtain ⟨g5, hg5, t5, u5, rfl⟩ := hG5 (hzl.symm ▸ hj)
        obtain ⟨q1, q2, q3, q4⟩ := gB_ok g5 (List.mem_of_getElem? hg5)
        refine asg_pair (by rfl) hT5 F8 N8 hC8 (off1 hCD8 off8) (by rfl) (by rfl) (by rfl) (by rfl) (by decide) ?_
        intro h9 tk9 oC9 mC9 F9 N9 hC9 hx9 hy9
        clear N8
        k_steps
        · rename_i c1
          exact ce_of F9 N9 (by k_mem) (by k_mem) (fun p hp => List.mem_cons_of_mem _ (List.mem_cons_of_mem _ hp)) hC9 ⟨rfl, by rw [beat_yes hg5 c1]; exact Paired.snoc hJ5 ⟨_, rfl⟩⟩
        · rename_i c1
          exact ce_of F9 N9 (by k_mem) (by k_mem) (fun p hp => List.mem_cons_of_mem _ (List.mem_cons_of_mem _ hp)) hC9 ⟨rfl, by rw [beat_no hg5 c1]; exact hJ5⟩
      · rintro ys news' D2 h tk ⟨rfl, hJ5⟩ F8 N8 off8 hlt8
        k_steps
        have hex : ∀ p ∈ (D2, LCg.lst ys) :: ex2, C₀ + 1 < p.1 ∧ ∀ q ∈ B1, q.1 < p.1 := fun p hp => by
          rcases List.mem_cons.mp hp with rfl | hp
          · exact ⟨hlt8 (C₀ + 1, oP6) (by k_extra "mem"), fun q hq => hlt8 q (by have q9 := hB1R q hq; k_extra "mem")⟩
          · exact hJ0 p hp
        refine ⟨_, _, rfl, _, _, oC6, mC6, (C₀ + 1, oP6) :: ((D2, LCg.lst ys) :: ex2 ++ B1), rfl, F8, fun p hp => N8 p ?_, hC6, fun p hp => ?_, oP6, _, (D2, LCg.lst ys) :: ex2, hP6, rfl, hex, ?_⟩
        · rw [hR3]
          revert p
          k_extra "sub"
        · rcases List.mem_cons.mp hp with rfl | hp
          · exact .inl ⟨_, List.mem_cons_self, rfl⟩
          · rw [List.cons_append] at hp
            rcases List.mem_cons.mp hp with rfl | hp
            · refine .inr fun q hq => ?_
              rcases List.mem_cons.mp hq with rfl | hq
              · exact hlt8 (C₀, oC6) (by k_extra "mem")
              · rcases List.mem_cons.mp hq with rfl | hq
                · exact hlt8 (D₀, oD) (by k_extra "mem")
                · rw [List.cons_append] at hq
                  rcases List.mem_cons.mp hq with rfl | hq
                  · exact hlt8 (C₀ + 1, oP6) (by k_extra "mem")
                  · have hq3 : q ∈ R3 := by rw [hR3]; exact hq
                    exact hlt8 q (by k_extra "mem")
            · exact .inl ⟨p, List.mem_cons_of_mem _ hp, rfl⟩
        · rw [beatF_succ (g := gB ds) hi5]
          rw [List.take_of_length_le (Nat.le_of_eq (gB_len hlen))] at hJ5
          exact stored_paired (paired_mono (fun kv z x => kv_mono (fun _ h => List.mem_cons_of_mem _ h) x) hJ) (beatF_new hi5) ⟨D2, ys, rfl, List.mem_cons_self, hJ5⟩
    · rintro kvs news' oD h tk ⟨oP, vP, ex2, hP, rfl, hJ0, hJ⟩ hD F1 N1 off
      k_steps
      rename_i kF kN _ _
      have hnB : ∀ q ∈ news, q ∈ B1 := fun q hq => by rw [hB1, hR2]; k_extra "mem"
      have hD3 : ∀ q ∈ news, q.1 < D₀ := fun q hq => Nat.lt_trans (Nat.lt_succ_of_lt (l1 q hq)) (hlt₀ (L' + 1, oc4) (by k_extra "mem"))
      refine ret D₀ oD kvs ((D₀, oD) :: ex2) _ _ kF (fun p hp => kN p ?_) (fun q hq p hp => ?_) List.mem_cons_self hD ?_
      · rcases List.mem_append.mp hp with hp | hp
        · have := hnB p hp
          k_extra "mem"
        · rcases List.mem_cons.mp hp with rfl | hp
          · exact List.mem_cons_self
          · k_extra "mem"
      · rcases List.mem_cons.mp hp with rfl | hp
        · exact hD3 q hq
        · exact (hJ0 p hp).2 q (hnB q hq)
      · have e5 : (beatF (gB ds)).take (Str.ofString "abcde").cps.size = beatF (gB ds) := List.take_of_length_le (by unfold beatF; rw [List.length_map, List.length_range]; decide)
        rw [e5] at hJ
        exact paired_mono (fun kv z x => kv_mono (fun _ h => List.mem_cons_of_mem _ h) x) hJ
end
end Mine
end
section
open PySem PySem.W PySem.Calls PyProof.Rows PyProof.V PySem.Spec
set_option maxRecDepth 100000
set_option maxHeartbeats 0
namespace Mine
open PySem.Builtin PySem.Builtin.Str PySem.StrLaws
noncomputable def dots : Str := Str.ofString "..."
noncomputable def eS : Str := { cps := #[] }
noncomputable def wantS (x y : Nat) : Str := { cps := #[46, 46, 46, 97 + x, 46, 46, 46, 97 + y, 46, 46, 46] }
noncomputable def findF (x y : Str) (lo : Nat) : Int := match occurrences x y lo x.length 1 with
  | k :: _ => (k : Int)
  | [] => -1
theorem find4 {prog : Program} {w : World} {A : Around} {E : Value → Shared → Prop} {s : Shared} {x y : Str} {t u v v' : Tok} {i j r : Int} {Q : Value → Shared → Prop} (hi : 0 ≤ i) (hj : j = x.length) (hr : findF x y i.toNat = r) (hq : ∀ t' k, Q (.int r t') { s with toks := k }) :
    wpAny (model prog w) A (call (.builtin "str.find") [.str x t, .str y u, .int i v, .int j v']) Q E s := by
  subst hj hr
  refine call_gives F.slot_str_find (typeIs_str _ _ _) F.entry_str_find (F.args_str_find_4 _ _ _ _) (m := .int (findF x y i.toNat)) ?_ (hq _ _)
  have e1 : fromIndex x.length i = i.toNat := by
    unfold fromIndex
    rw [if_neg (by omega), Int.max_eq_right hi]
  have e2 : fromIndex x.length (x.length : Int) = x.length := by
    unfold fromIndex
    rw [if_neg (by omega), Int.max_eq_right (by omega)]
    rfl
  show Gives (match occurrences x y (fromIndex x.length i) (min (fromIndex x.length (x.length : Int)) x.length) 1 with | k :: _ => retInt k | [] => (do rule "str.find.not-found"; retInt (-1))) _
  rw [e1, e2, Nat.min_self]
  unfold findF
  cases occurrences x y i.toNat x.length 1 with
  | nil => exact .rule (.of_eq rfl)
  | cons k _ => exact .of_eq rfl
theorem split_want {x y : Nat} (hx : x < 5) (hy : y < 5) : Txt.split (wantS x y) dots = [eS, nameS x, nameS y, eS] ∧ (occurrences (wantS x y) dots 0 (wantS x y).length 1).isEmpty = false ∧ (((dots ++ nameS x) ++ dots) ++ nameS y) ++ dots = wantS x y := by
  have : ∀ x, x < 5 → ∀ y, y < 5 → Txt.split (wantS x y) dots = [eS, nameS x, nameS y, eS] ∧ (occurrences (wantS x y) dots 0 (wantS x y).length 1).isEmpty = false ∧ (((dots ++ nameS x) ++ dots) ++ nameS y) ++ dots = wantS x y := by decide +kernel
  exact this x hx y hy
theorem split_call {prog : Program} {w : World} {A : Around} {E : Value → Shared → Prop} {s : Shared} {h₀ : Heap} {L : Addr} {m : Str → Option Value} {news : List (Addr × Obj)} {x y : Nat} {t u : Tok} {Q : Value → Shared → Prop} (hF : Fr h₀ L s.heap m) (hN : News h₀ L s.heap news) (hx : x < 5) (hy : y < 5)
    (h : ∀ D t1 t2 t3 t4 h' k, Fr h₀ L h' m → News h₀ L h' ((D, W.listOf #[.str eS t1, .str (nameS x) t2, .str (nameS y) t3, .str eS t4] 0) :: news) → (∀ p ∈ news, p.1 < D) → Q (.ref D) { s with heap := h', toks := k }) :
    wpAny (model prog w) A (call (.builtin "str.split") [.str (wantS x y) t, .str (Str.ofString "...") u]) Q E s := by
  refine KSpl.split1 hF hN (by decide) (fun D l h' k e _ F N l1 => ?_) (show 11 + 2 ≤ sizeLine by decide)
  obtain ⟨t1, l1', rfl, e1⟩ := KSpl.cons_of (e.trans (split_want hx hy).1)
  obtain ⟨t2, l2', rfl, e2⟩ := KSpl.cons_of e1
  obtain ⟨t3, l3', rfl, e3⟩ := KSpl.cons_of e2
  obtain ⟨t4, l4', rfl, e4⟩ := KSpl.cons_of e3
  have := KSpl.nil_of e4
  subst this
  exact h D t1 t2 t3 t4 h' k F N l1
theorem len_is {prog : Program} {w : World} {A : Around} {E : Value → Shared → Prop} {s : Shared} {x : Str} {n : Int} {t : Tok} {Q : Value → Shared → Prop} (hl : (x.length : Int) = n) (hn : n ≤ 1000) (h : ∀ t' k, Q (.int n t') { s with toks := k }) :
    wpAny (model prog w) A (call (.builtin "len") [.str x t]) Q E s := by
  subst hl
  exact len_str (by omega) (h _ _)
theorem find_empty {x : Str} {lo : Nat} (h : lo ≤ x.length) : findF x eS lo = lo := by
  have ha : At x eS x.length lo := ⟨h, by unfold subAt; simp [eS]; exact Nat.le_trans (Nat.min_le_left _ _) (Nat.le_refl _)⟩
  unfold findF
  rcases occ_head_from x eS lo 1 (Nat.le_refl _) with ⟨_, h2⟩ | ⟨i, r, h1, h2, h3, h4⟩
  · exact absurd ha (h2 lo (Nat.le_refl _))
  · rw [h1]
    show (i : Int) = lo
    rcases Nat.lt_or_ge lo i with h5 | h5
    · exact absurd ha (h4 lo (Nat.le_refl _) h5)
    · exact congrArg _ (Nat.le_antisymm h5 h2)
theorem at_name {p : List Nat} {x i : Nat} : At (pathS p) (nameS x) (pathS p).length i ↔ p[i]? = some x := by
  unfold At
  rw [show nameS x = (⟨#[97 + x]⟩ : Str) from rfl, subAt_one]
  unfold pathS
  rw [List.toList_toArray, List.getElem?_map]
  cases p[i]? with
  | none => simp
  | some y => simp
theorem find_name {p : List Nat} (hn : p.Nodup) {x i lo : Nat} (hi : p[i]? = some x) : findF (pathS p) (nameS x) lo = if lo ≤ i then (i : Int) else -1 := by
  have uniq : ∀ k, p[k]? = some x → k = i := fun k hk => by
    obtain ⟨a1, a2⟩ := List.getElem?_eq_some_iff.mp hk
    obtain ⟨b1, b2⟩ := List.getElem?_eq_some_iff.mp hi
    exact (List.getElem_inj hn).mp (a2.trans b2.symm)
  unfold findF
  rcases occ_head_from (pathS p) (nameS x) lo 1 (Nat.le_refl _) with ⟨h1, h2⟩ | ⟨k, r, h1, h2, h3, h4⟩
  · rw [h1]
    by_cases hl : lo ≤ i
    · exact absurd (at_name.mpr hi) (h2 i hl)
    · rw [if_neg hl]
  · rw [h1]
    have := uniq k (at_name.mp h3)
    subst this
    rw [if_pos h2]
theorem P5_ok : (P5.all fun p => decide p.Nodup && decide (p.length = 5) && (List.range 5).all fun x => decide (p[p.idxOf x]? = some x)) = true := by decide +kernel
theorem P5_at {p : List Nat} (hp : p ∈ P5) : p.Nodup ∧ p.length = 5 ∧ ∀ x, x < 5 → p[p.idxOf x]? = some x := by
  have := List.all_eq_true.mp P5_ok p hp
  simp only [Bool.and_eq_true, decide_eq_true_eq, List.all_eq_true, List.mem_range] at this
  exact ⟨this.1.1, this.1.2, this.2⟩
noncomputable def posB (p : List Nat) (x y : Nat) : Bool := decide (p.idxOf x < p.idxOf y)
end Mine
end
section
open PySem PySem.W PySem.Calls PyProof.Rows PyProof.V PySem.Spec
set_option maxRecDepth 100000
set_option maxHeartbeats 0
namespace Mine
open PySem.MeetsSeq PySem.SeqAt
noncomputable def lt2 (a b : Int × Int) : Bool := decide (a.1 < b.1) || (a.1 == b.1 && decide (a.2 < b.2))
open PySem.MeetsSeq3 PySem.AutoSeq1
section
variable (l b : Addr) (x y : Int × Int) (t1 t2 u1 u2 : Tok) (n n2 : Nat) (items items2 : Array Value)
noncomputable abbrev seqO (items : Array Value) (n : Nat) : Obj := { cls := .type "list", data := .seq items n }
noncomputable def RowIs (items : Array Value) (x : Int × Int) (t1 t2 : Tok) : Prop := items = #[.int x.1 t1, .int x.2 t2]
theorem RowIs.at0 {items : Array Value} {x : Int × Int} {t1 t2 : Tok} (h : RowIs items x t1 t2) : items[Int.toNat 0]? = some (.int x.1 t1) := by rw [h]; rfl
theorem RowIs.at1 {items : Array Value} {x : Int × Int} {t1 t2 : Tok} (h : RowIs items x t1 t2) : items[Int.toNat 1]? = some (.int x.2 t2) := by rw [h]; rfl
theorem RowIs.at2 {items : Array Value} {x : Int × Int} {t1 t2 : Tok} (h : RowIs items x t1 t2) : items[Int.toNat 2]? = none := by rw [h]; rfl
theorem RowIs.sz {items : Array Value} {x : Int × Int} {t1 t2 : Tok} (h : RowIs items x t1 t2) : items.size = 2 := by rw [h]; rfl
theorem lt_at2 (hx : RowIs items x t1 t2) (hy : RowIs items2 y u1 u2) : Meets (Builtin.«list.__eq__.loop» ⟨[.ref l, .ref b, rawInt 2, rawInt 0], []⟩)
    (fun _ R s => s.heap.get? l = some (seqO items n) ∧ s.heap.get? b = some (seqO items2 n2) ∧ R (.ok (.ret (.bool false))) s) := by
  intro prog w A R s h
  obtain ⟨hp, g, d, tk, os⟩ := s; obtain ⟨hl, hb, h⟩ := h
  wp_walk using wpAny_loadPart' hl, wpAny_loadPart' hb
  rw [hx.at2, hy.at2]
  wp_walk using wpAny_loadPart' hl, wpAny_loadPart' hb
  show R (.ok (.ret (.bool (decide (items.size < items2.size))))) _
  rw [hx.sz, hy.sz]
  exact h
theorem lt_at1 (hx : RowIs items x t1 t2) (hy : RowIs items2 y u1 u2) : Meets (Builtin.«list.__eq__.loop» ⟨[.ref l, .ref b, rawInt 1, rawInt 0], []⟩)
    (fun _ R s => s.heap.get? l = some (seqO items n) ∧ s.heap.get? b = some (seqO items2 n2) ∧ R (.ok (.ret (.bool (decide (x.2 < y.2))))) s) := by
  intro prog w A R s h
  obtain ⟨hp, g, d, tk, os⟩ := s; obtain ⟨hl, hb, h⟩ := h
  wp_walk using wpAny_loadPart' hl, wpAny_loadPart' hb
  rw [hx.at1, hy.at1]
  refine wpAny_bind (EqAt.int_int x.2 t2 y.2 u2 prog w _ _ ?_)
  cases hb' : x.2 == y.2 with
  | true =>
    have e : decide (x.2 < y.2) = false := by
      have := eq_of_beq hb'
      rw [this]
      exact decide_eq_false (Int.lt_irrefl _)
    rw [e] at h
    wp_walk
    exact ⟨plainId_quiet plain_eq_loop _, codeAny_builtin entry_eq_loop (by
      rw [Around.under_plainId plain_eq_loop _]
      exact lt_at2 l b x y t1 t2 u1 u2 n n2 items items2 hx hy prog w A R _ ⟨hl, hb, h⟩)⟩
  | false =>
    wp_walk using wpAny_loadPart' hl, wpAny_loadPart' hb
    rw [hx.at1, hy.at1]
    refine wpAny_bind (show wpAny _ _ (compareOp .Lt (.int x.2 t2) (.int y.2 u2)) _ _ _ from lt_int ?_)
    wp_walk
    exact h
theorem lt_at0 (hx : RowIs items x t1 t2) (hy : RowIs items2 y u1 u2) : Meets (Builtin.«list.__eq__.loop» ⟨[.ref l, .ref b, rawInt 0, rawInt 0], []⟩)
    (fun _ R s => s.heap.get? l = some (seqO items n) ∧ s.heap.get? b = some (seqO items2 n2) ∧ R (.ok (.ret (.bool (lt2 x y)))) s) := by
  intro prog w A R s h
  obtain ⟨hp, g, d, tk, os⟩ := s; obtain ⟨hl, hb, h⟩ := h
  wp_walk using wpAny_loadPart' hl, wpAny_loadPart' hb
  rw [hx.at0, hy.at0]
  refine wpAny_bind (EqAt.int_int x.1 t1 y.1 u1 prog w _ _ ?_)
  cases hb' : x.1 == y.1 with
  | true =>
    have e : lt2 x y = decide (x.2 < y.2) := by
      unfold lt2
      rw [hb', eq_of_beq hb', decide_eq_false (Int.lt_irrefl _)]
      simp
    rw [e] at h
    wp_walk
    exact ⟨plainId_quiet plain_eq_loop _, codeAny_builtin entry_eq_loop (by
      rw [Around.under_plainId plain_eq_loop _]
      exact lt_at1 l b x y t1 t2 u1 u2 n n2 items items2 hx hy prog w A R _ ⟨hl, hb, h⟩)⟩
  | false =>
    have e : lt2 x y = decide (x.1 < y.1) := by
      unfold lt2
      rw [hb']
      simp
    rw [e] at h
    wp_walk using wpAny_loadPart' hl, wpAny_loadPart' hb
    rw [hx.at0, hy.at0]
    refine wpAny_bind (show wpAny _ _ (compareOp .Lt (.int x.1 t1) (.int y.1 u1)) _ _ _ from lt_int ?_)
    wp_walk
    exact h
theorem list_lt2 (hx : RowIs items x t1 t2) (hy : RowIs items2 y u1 u2) : Meets (Builtin.«list.__lt__» ⟨[.ref l, .ref b], []⟩)
    (fun _ R s => s.heap.get? l = some (seqO items n) ∧ s.heap.get? b = some (seqO items2 n2) ∧ R (.ok (.ret (.bool (lt2 x y)))) s) := by
  intro prog w A R s h
  obtain ⟨hp, g, d, tk, os⟩ := s; obtain ⟨hl, hb, h⟩ := h
  have f3 := AutoSeq1.sub_list_list
  wp_walk using wpAny_loadPart' hl, wpAny_loadPart' hb
  exact ⟨plainId_quiet plain_eq_loop _, codeAny_builtin entry_eq_loop (by
    rw [Around.under_plainId plain_eq_loop _]
    exact lt_at0 l b x y t1 t2 u1 u2 n n2 items items2 hx hy prog w A R _ ⟨hl, hb, h⟩)⟩
end
section
variable {prog : Program} {w : World} {A : Around} {E : Value → Shared → Prop} {s : Shared} {h₀ : Heap} {L : Addr} {m : Str → Option Value} {news : List (Addr × Obj)}
noncomputable def RowV (l : Ledger) (v : Value) (x : Int × Int) : Prop := ∃ a its t1 t2 n, v = .ref a ∧ (a, seqO its n) ∈ l ∧ RowIs its x t1 t2
theorem RowV.mono {l l' : Ledger} (hs : ∀ p ∈ l, p ∈ l') {v : Value} {x : Int × Int} (h : RowV l v x) : RowV l' v x := by
  obtain ⟨a, its, t1, t2, n, h1, h2, h3⟩ := h
  exact ⟨a, its, t1, t2, n, h1, hs _ h2, h3⟩
theorem keyLt_rows {v v' : Value} {x y : Int × Int} {Q : Bool → Shared → Prop} (hu : A.units < cLine) (N : News h₀ L s.heap news) (hx : RowV news v x) (hy : RowV news v' y) (h : Q (lt2 x y) s) :
    wpAny (model prog w) A (keyLt' oneType' v v') Q E s := by
  obtain ⟨a, its, t1, t2, n, rfl, h2, h3⟩ := hx
  obtain ⟨b, its2, u1, u2, n2, rfl, g2, g3⟩ := hy
  rw [keyLt'_oneType, oneLt'_eq]
  simp only [if_true]
  refine wpAny_bind (wpAny_cRoomFor hu ?_)
  refine wpAny_bind (wpAny_callSpecialIfBound?_slot ⟨_, (N _ h2).1, rfl⟩ F.slot_list_lt (call_meets F.slot_list_lt ⟨_, (N _ h2).1, rfl⟩ F.entry_list_lt (F.args_list_lt_2 _ _) (list_lt2 a b x y t1 t2 u1 u2 n n2 its its2 h3 g3) ⟨(N _ h2).1, (N _ g2).1, ?_⟩))
  exact wpAny_truthy_bool h
noncomputable def kEval (lt : Nat → Nat → Bool) {α : Type} : KasT α → α
  | .ret a => a
  | .ask i j k => kEval lt (k (lt i j))
noncomputable def kOk (n : Nat) {α : Type} (P : α → Bool) : KasT α → Bool
  | .ret a => P a
  | .ask i j k => decide (i < n) && decide (j < n) && kOk n P (k true) && kOk n P (k false)
theorem kOk_eval {α : Type} {n : Nat} {P : α → Bool} (lt : Nat → Nat → Bool) : ∀ t : KasT α, kOk n P t = true → P (kEval lt t) = true
  | .ret _, h => h
  | .ask i j k, h => by
    unfold kOk at h
    simp only [Bool.and_eq_true] at h
    unfold kEval
    cases lt i j with
    | true => exact kOk_eval lt _ h.1.2
    | false => exact kOk_eval lt _ h.2
theorem kas_eval {α : Type} {n : Nat} {P : α → Bool} {cmp : Nat → Nat → (Bool → Shared → Prop) → Shared → Prop} {lt : Nat → Nat → Bool} {Q : α → Shared → Prop} {s : Shared} (hc : ∀ i j C, i < n → j < n → C (lt i j) s → cmp i j C s) : ∀ t : KasT α, kOk n P t = true → Q (kEval lt t) s → t.kasWp cmp Q s
  | .ret _, _, h => h
  | .ask i j k, hk, h => by
    unfold kOk at hk
    simp only [Bool.and_eq_true, decide_eq_true_eq] at hk
    unfold kEval at h
    refine hc i j _ hk.1.1.1 hk.1.1.2 ?_
    cases hb : lt i j with
    | true => rw [hb] at h; exact kas_eval hc _ hk.1.2 h
    | false => rw [hb] at h; exact kas_eval hc _ hk.2 h
noncomputable def okPerm (p : Array Nat) : Bool := decide (p.size = 5) && p.toList.all fun i => decide (i < 5)
theorem kas5_ok : kOk 5 okPerm (kas_sort 5) = true := by decide +kernel
noncomputable def permF (rs : List (Int × Int)) : List Nat := (kEval (fun i j => lt2 (rs.getD i (0, 0)) (rs.getD j (0, 0))) (kas_sort 5)).toList
theorem permF_ok (rs : List (Int × Int)) : (permF rs).length = 5 ∧ ∀ i ∈ permF rs, i < 5 := by
  have h := kOk_eval (fun i j => lt2 (rs.getD i (0, 0)) (rs.getD j (0, 0))) (kas_sort 5) kas5_ok
  unfold okPerm at h
  simp only [Bool.and_eq_true, decide_eq_true_eq, List.all_eq_true] at h
  exact ⟨by unfold permF; rw [Array.length_toList]; exact h.1, h.2⟩
noncomputable def sortedF (rs : List (Int × Int)) : List (Int × Int) := (permF rs).map fun i => rs.getD i (0, 0)
theorem getD_paired {α β : Type} {F : α → β → Prop} {l : List α} {l' : List β} (x : Paired F l l') {i : Nat} (hi : i < l'.length) (a : α) (b : β) : F (l.getD i a) (l'.getD i b) := by
  have h1 : i < l.length := by rw [x.length]; exact hi
  obtain ⟨c, h2, h3⟩ := paired_get x (i := i) (a := l[i]) (by simp [h1])
  rw [List.getD_eq_getElem?_getD, List.getD_eq_getElem?_getD, h2, List.getElem?_eq_getElem h1]
  exact h3
theorem map_paired {α β γ : Type} {F : α → β → Prop} {f : γ → α} {g : γ → β} : ∀ (l : List γ), (∀ c ∈ l, F (f c) (g c)) → Paired F (l.map f) (l.map g)
  | [], _ => .nil
  | c :: r, h => .cons (h c List.mem_cons_self) (map_paired r fun d hd => h d (List.mem_cons_of_mem _ hd))
theorem sorted_rows {l : Addr} {vs : List Value} {rs : List (Int × Int)} {Q : Value → Shared → Prop} (hu : A.in1.in1.units < cLine) (F : Fr h₀ L s.heap m) (N : News h₀ L s.heap news) (hl : s.heap.IsList l vs.toArray) (hv : Paired (RowV news) vs rs) (h5 : rs.length = 5)
    (h : ∀ D vs' c h', Fr h₀ L h' m → News h₀ L h' ((D, W.listOf (List.toArray vs') c) :: news) → (∀ q ∈ news, q.1 < D) → Paired (RowV news) vs' (sortedF rs) → Q (.ref D) { s with heap := h' }) :
    wpAny (model prog w) A (call (.builtin "sorted") [.ref l]) Q E s := by
  have hlen : vs.length = 5 := hv.length.trans h5
  refine kas_sorted (T := .type "list") F N hl (by omega) (by omega) (fun h' F' N' v hvm => ?_) (by decide +kernel) fun D e1 h' F' N' hlt => ?_
  · obtain ⟨i, hi⟩ := List.mem_iff_getElem?.mp hvm
    obtain ⟨x, _, a, its, t1, t2, n, rfl, h2, _⟩ := paired_get hv hi
    exact (Looks.ld (N' _ h2).1).andThen .now
  · rw [hlen]
    refine kas_eval (n := 5) (P := okPerm) (lt := fun i j => lt2 (rs.getD i (0, 0)) (rs.getD j (0, 0))) (fun i j C hi hj hC => ?_) (kas_sort 5) kas5_ok ?_
    · exact keyLt_rows hu N' ((getD_paired hv (h5 ▸ hi) _ _).mono fun _ h => List.mem_cons_of_mem _ h) ((getD_paired hv (h5 ▸ hj) _ _).mono fun _ h => List.mem_cons_of_mem _ h) hC
    · refine KasFin.intro F' N' (UpdF.head fun p hp => Nat.ne_of_lt (hlt p hp)) fun h2 c F2 N2 => ?_
      refine h D _ c h2 F2 N2 hlt ?_
      exact map_paired _ fun i hi => getD_paired hv (h5 ▸ (permF_ok rs).2 i hi) _ _
end
end Mine
end
section
open PySem PySem.W PySem.Calls PyProof.Rows PyProof.V PySem.Spec
set_option maxRecDepth 100000
set_option maxHeartbeats 0
namespace Mine
theorem fillKt (h : Heap) (w : World) : PySem.Challenge.rw_sn0103_01 = PySem.Challenge.rw_sn0103_01 ∧ (K w.params).In h = (K w.params).In h := by
  k_fill
  exact ⟨rfl, rfl⟩
local macro_rules | `(tactic| walk_at $s:str) => `(tactic| k_extra $s)
local macro_rules | `(tactic| k_all) => `(tactic| assumption)
noncomputable def scT (g : List (Int × Int)) : List Int := (List.range 5).map fun (p : Nat) => ((g.filter fun q => decide (q.1 = (p : Int))).length : Int)
theorem scT_len (g : List (Int × Int)) : (scT g).length = 5 := by unfold scT; rw [List.length_map, List.length_range]
theorem scT_get (g : List (Int × Int)) {p : Nat} (hp : p < 5) : (scT g)[p]? = some ((g.filter fun q => decide (q.1 = (p : Int))).length : Int) := by
  unfold scT
  rw [List.getElem?_map, List.getElem?_range hp]
  rfl
theorem scT_snoc (g : List (Int × Int)) (q : Int × Int) {k : Nat} (hk : k < 5) (e : q.1 = (k : Int)) (v : Int) (hv : (scT g)[k]? = some v) : (scT g).set k (v + 1) = scT (g ++ [q]) := by
  refine List.ext_getElem? fun p => ?_
  by_cases hp : p < 5
  · rw [scT_get _ hp, List.getElem?_set, List.filter_append, List.length_append]
    rw [scT_get _ hk] at hv
    have hv := Option.some.inj hv
    by_cases hkp : k = p
    · subst hkp
      rw [if_pos rfl, if_pos (by rw [scT_len]; exact hk)]
      simp [e]
      omega
    · rw [if_neg hkp, scT_get _ hp]
      have : ¬ (k : Int) = (p : Int) := by omega
      simp [e, this]
  · rw [List.getElem?_eq_none (by rw [List.length_set, scT_len]; omega), List.getElem?_eq_none (by rw [scT_len]; omega)]
noncomputable def rowsOf (g : List (Int × Int)) : List (Int × Int) := (List.range 5).map fun (p : Nat) => ((scT g).getD p 0, (p : Int))
theorem rowsOf_succ {g : List (Int × Int)} {i : Nat} (hi : i < 5) {v : Int} (hv : (scT g)[i]? = some v) : (rowsOf g).take (i + 1) = (rowsOf g).take i ++ [(v, 0 + (i : Int))] := by
  have e : (rowsOf g)[i]? = some (v, 0 + (i : Int)) := by
    unfold rowsOf
    rw [List.getElem?_map, List.getElem?_range hi]
    simp [hv]
  rw [List.take_add_one, e]
  rfl
noncomputable def clsStep (st : List Int × Int × Int) (k : Nat) (r : Int × Int) : List Int × Int × Int := (st.1.set r.2.toNat st.2.1, if st.2.2 + r.1 = ((k : Int) + 1) * k / 2 then st.2.1 + 1 else st.2.1, st.2.2 + r.1)
noncomputable def clsT (rs : List (Int × Int)) : Nat → List Int × Int × Int
  | 0 => ([0, 0, 0, 0, 0], 0, 0)
  | i + 1 => clsStep (clsT rs i) i (rs.getD i (0, 0))
noncomputable def classF (g : List (Int × Int)) : List Int := (clsT (sortedF (rowsOf g)) 5).1
section
variable {prog : Program} {w : World} {A : Around} {E : Value → Shared → Prop} {s : Shared} {h₀ : Heap} {L : Addr} {m : Str → Option Value}
theorem setitem_LL {S0 : Addr} {o : Obj} {its : Array Value} {n : Nat} {R : Ledger} {k : Int} {t : Tok} {v : Value} {Q : Unit → Shared → Prop} (F : Fr h₀ L s.heap m) (N : News h₀ L s.heap ((S0, o) :: R)) (hR : ∀ p ∈ R, p.1 ≠ S0)
    (ho : o = W.listOf its n) (h0 : 0 ≤ k) (hfit : k < 2 ^ 63) (hn : k < its.size)
    (h : ∀ h', Fr h₀ L h' m → News h₀ L h' ((S0, W.listOf (its.setIfInBounds k.toNat v) n) :: R) → Q () { s with heap := h' }) :
    wpAny (model prog w) A (setItem (.ref S0) (.int k t) v) Q E s := by
  subst ho
  have z := N _ List.mem_cons_self
  refine ki_setAt z.1 h0 hfit hn (h _ (F.change (Heap.SameBut.update ..) z.2.1 z.2.2) ?_)
  exact ki_turn (pre := []) (post := R) _ N (fun _ h => nomatch h) hR rfl (by simp)
end
section
variable {w : World} {mean : ExcName → Option Value} {mg mb : Str → Option Value} {dp un : Nat} {gd : Option (List Code)} {cn : Str} {cs : Scope} {a : Addr} {ccd : Value} {cl : List (Str × Addr)} {outer : List Env} {A₀ : Around} {base h₀ : Heap} {L : Addr} {m : Str → Option Value} {news : List (Addr × Obj)} {s : Shared} {Q E : Value → Shared → Prop}
theorem classes_call {DR : Addr} {its : List Value} {n : Nat} {ds : List Int} {o : Obj} (B : Below A₀ base outer h₀) (F : Fr h₀ L s.heap m) (X : (K w.params).In h₀) (N : News h₀ L s.heap news) (T : Top qV (looseW qV looseV) mean mg mb h₀) (hk : cs.kind = .function)
    (hm : (DR, o) ∈ news) (ho1 : o.cls = .type "list") (ho2 : o.data = .seq its.toArray n) (hv : Paired IsInt its ds) (hlen : ds.length = 10) (hd : dp + 8 < recursionLimit) (hu : un + 8 * 8 < cLine)
    (ret : ∀ D its' n' h' tk', Fr h₀ L h' m → News h₀ L h' ((D, W.listOf its' n') :: news) → (∀ q ∈ news, q.1 < D) → Paired IsInt its'.toList (classF (gB ds)) → Q (.ref D) { s with heap := h', toks := tk' }) :
    wpAny (model rwP w) (ktrTop dp un gd cn cs L a ccd cl outer) (call (.ref 310) [.ref DR]) Q E s := by
  k_with_none
  k_with "mem" => first | (with_reducible assumption) | (with_reducible exact List.mem_cons_self) | (refine List.mem_cons_of_mem _ ?_; k_extra "mem") | (refine List.mem_append_left _ ?_; k_extra "mem") | (refine List.mem_append_right _ ?_; k_extra "mem")
  k_with "sub" => first | (with_reducible exact fun _ h => h) | (refine sub_c ?_ ?_; (k_extra "mem"); (k_extra "sub")) | (refine sub_a ?_ ?_; (k_extra "sub"); (k_extra "sub")) | exact sub_n | (intro _ _; k_extra "mem")
  k_with "eval Name" => ((with_reducible show wpAny _ _ (eval (Expr.Name _ _) (envOf _ _ _ _ _)) _ _ _); (refine ld (by with_reducible assumption) (by with_reducible assumption) ?_))
  k_with "eval Name" => ((with_reducible show wpAny _ _ (eval (Expr.Name _ _) (envOfC _ _ _ _ _)) _ _ _); (refine ldC (by with_reducible assumption) (by with_reducible assumption) ?_))
  k_with "exec For Tuple Call cons nil" => (k_here; k_dflt (refine for_J (by k_asm) ?_))
  k_with "exec For Tuple Call" => (k_here; k_dflt (refine for_J (by k_asm) ?_))
  k_with "call ref" => (k_here; (with_reducible show wpAny _ _ (call (Value.ref 262) _) _ _ _); k_dflt (refine' tellsN_use ?k1 ?k2 ?k3 ?k4 ?k5 ?kK ?kR (pairs_tells _ _ _ _ ()) ?ko ?kd ?ku ?_; (case k1 => k_asm); (case k2 => k_asm); (case k3 => k_asm); (case k4 => k_asm); (case k5 => k_asm); (case kK => first | exact rfl | assumption); (case kR => exact rfl); (case ko => exact trivial); (case kd => (change _ + 2 < _; ktr_room)); (case ku => (change _ + 8 * 2 < _; ktr_units))); intro _ _ _ _ _ _ _ _ _)
  k_with "subscriptTail" => (k_here; (with_reducible show wpAny _ _ (subscriptTail _ _ (Value.ref _) (Value.int _ _)) _ _ _); k_dflt (refine' item2 ?k1 ?k2 ?k3 ?_; (case k1 => k_asm); (case k2 => k_mem); (case k3 => first | exact fmod2 _ | exact fmod2' _); k_whole); intro _)
  k_with "subscriptTail Name BinOp ref int" => (k_here; (with_reducible show wpAny _ _ (subscriptTail _ _ (Value.ref _) (Value.int _ _)) _ _ _); k_dflt (refine' item2 ?k1 ?k2 ?k3 ?_; (case k1 => k_asm); (case k2 => k_mem); (case k3 => first | exact fmod2 _ | exact fmod2' _); k_whole); intro _)
  k_with "eval ListComp" => (k_here; k_dflt (refine listComp1 (by k_asm) (by rfl) (by rfl) (by decide) (by decide) ?_))
  k_with "subscriptTail" => (k_here; (with_reducible show wpAny _ _ (subscriptTail _ _ (Value.ref _) (Value.int _ _)) _ _ _); k_dflt (refine' item_lst2 ?k1 ?k2 ?k6 ?k7 ?k3 ?k4 ?k5 ?_; (case k1 => k_asm); (case k2 => k_mem); (case k6 => first | assumption | rfl); (case k7 => first | assumption | rfl); (case k5 => assumption); (case k3 => omega); (case k4 => omega); k_whole))
  refine wpAny_call ?_
  k_dflt (refine' code_defC ?k1 ?k2 ?k3 ?k4 ?k5 ?kA ?kF ?kK ?k6 ?k7 ?k8 ?k9 ?kB ?kD ?_ ?c2 ?c3 ?c4; (case kA => exact rfl); (case kF => exact rfl); (case kK => assumption); (case k1 => k_asm); (case k2 => k_asm); (case k3 => k_asm); (case k4 => k_asm); (case k5 => k_asm); (case k6 => k_is); (case k7 => k_is); (case k8 => ktr_room); (case k9 => exact BindsTo.of_eq rfl); (case kB => exact rfl); (case kD => decide +kernel); (case c2 => exact rfl); (case c3 => exact rfl); (case c4 => exact rfl); k_whole; intro g' L' h' tk' cells' FG' F' N' Y' B' X' T' l1; k_cells Y'; (try simp only [List.cons_append, List.nil_append] at N'); (try dsimp only); (try k_fold); (try k_lt l1))
  have hne1 : ∀ p ∈ news, p.1 ≠ L' + 1 := fun p hp => Nat.ne_of_lt (Nat.lt_succ_of_lt (l1 p hp))
  repeat (fail_if_success (with_reducible show wpAny _ _ (call (Value.type "zip") _) _ _ _)); (first | (k_unfold; (try dsimp only)) | (k_end; wrow_close) | walk1 | (dsimp only; walk1))
  rename_i l0 _ l0a S0 _ _ _ _ _ _ _ l9 _ oc _ _ dc r9 tl9 h9 tk9 F9 N9 hl9 ht9 ho9
  obtain ⟨P2, ys, rfl, hp1, hp2⟩ := ho9
  have hy10 : ys.length = 10 := hp2.length.trans (by decide)
  have hx10 : its.length = 10 := hv.length.trans hlen
  have hmin : min its.toArray.size ys.toArray.size = 10 := by simp [hx10, hy10]
  obtain ⟨B0, hB0⟩ : ∃ B0, B0 = (l0, W.listOf #[Value.int 0 tk'] 0) :: (L' + 1, oc) :: news ++ tl9 := ⟨_, rfl⟩
  obtain ⟨its0, N10, hp0⟩ : ∃ its0 : Array Value, News g' L' h9 ((S0, W.listOf its0 0) :: B0) ∧ Paired IsInt its0.toList (scT []) := ⟨_, by rw [hB0]; exact N9, .cons ⟨_, rfl⟩ (.cons ⟨_, rfl⟩ (.cons ⟨_, rfl⟩ (.cons ⟨_, rfl⟩ (.cons ⟨_, rfl⟩ .nil))))⟩
  have hBS : ∀ p ∈ B0, p.1 ≠ S0 := fun p hp => by
    rw [hB0] at hp
    simp only [List.cons_append, List.mem_cons, List.mem_append] at hp
    rcases hp with rfl | rfl | hp | hp
    · exact Nat.ne_of_lt l9.1
    · exact Nat.ne_of_lt l9.2.1
    · exact Nat.ne_of_lt (ktn_ltOf l9.2.2 p hp)
    · exact Nat.ne_of_gt (hl9 (S0, _) List.mem_cons_self p hp)
  have hmB : (DR, o) ∈ B0 := by rw [hB0]; k_extra "mem"
  have hp1B : (P2, LCg.lst ys) ∈ B0 := by
    rw [hB0]
    rcases List.mem_cons.mp (show _ ∈ (S0, _) :: _ from hp1) with e | e
    · exact absurd (congrArg (fun p : Addr × Obj => match p.2.data with | .seq xs _ => xs.size | _ => 0) e) (by show ys.toArray.size ≠ 5; rw [List.size_toArray, hy10]; decide)
    · exact e
  have hp2B : Paired (TupII B0) ys (pairsTo 5) := paired_mono (fun v d x => by
    obtain ⟨T, t, u, e1, e2⟩ := x
    refine ⟨T, t, u, e1, ?_⟩
    rw [hB0]
    rcases List.mem_cons.mp (show _ ∈ (S0, _) :: _ from e2) with e | e
    · exact absurd (congrArg (fun p : Addr × Obj => p.2.cls) e) (by simp)
    · exact e) hp2
  clear N9 hp1 hp2
  refine src_zip (by rfl) F9 N10 (l1 := DR) (l2 := P2) (xs := its.toArray) (ys := ys.toArray) ?_ ?_ ?_ ?_ (av := [S0]) ?_ ?_
  · exact isList_of N10 (List.mem_cons_of_mem _ hmB) ho1 ho2
  · exact isList_of N10 (List.mem_cons_of_mem _ hp1B) rfl rfl
  · exact .inr ⟨_, List.mem_cons_of_mem _ hmB⟩
  · exact .inr ⟨_, List.mem_cons_of_mem _ hp1B⟩
  · intro b hb
    rw [List.mem_singleton.mp hb]
    exact ⟨Heap.lt_size (N10 _ List.mem_cons_self).1, Ne.symm (hBS _ hmB), Ne.symm (hBS _ hp1B)⟩
  intro I h1 k1 S1
  rw [hmin] at S1
  refine ⟨_, _, _, _, _, S1 _ _ _, fun i m₁ l => (∃ o its0 n0, l = (S0, o) :: B0 ∧ o.cls = .type "list" ∧ o.data = .seq its0 n0 ∧ Paired IsInt its0.toList (scT ((gB ds).take i))), ⟨_, its0, 0, rfl, rfl, rfl, hp0⟩, ?_, ?_⟩
  · rintro i v m₁ news₁ h tk own hi ⟨T, vals, rfl, ⟨x, y, hx, hy, rfl⟩, hT⟩ ⟨o0, is0, n0, rfl, hq1, hq2, hq3⟩ hown F1 N1
    refine asgF_pair (by rfl) hT F1 N1 (by rfl) (by rfl) (by rfl) (by decide) ?_
    intro h2 tk2 m2 F2' N2 hx2 hy2 hz2
    have F2 : Fr g' L' h2 m2 := F2'
    clear F2'
    obtain ⟨dx, hdx, tx, rfl⟩ := paired_get hv (by simpa using hx)
    obtain ⟨py, hpy, T2, t2, u2, rfl, hT2⟩ := paired_get hp2B (by simpa using hy)
    obtain ⟨R, hRd⟩ : ∃ R, R = B0 ++ own := ⟨_, rfl⟩
    obtain ⟨R', hRd'⟩ : ∃ R', R' = (T2, tupObj #[Value.int py.1 t2, Value.int py.2 u2]) :: (L' + 1, oc) :: R := ⟨_, rfl⟩
    have hcB : (L' + 1, oc) ∈ B0 := by rw [hB0]; k_extra "mem"
    have hRS : ∀ p ∈ R, p.1 ≠ S0 := fun p hp => by
      rw [hRd] at hp
      rcases List.mem_append.mp hp with hp | hp
      · exact hBS p hp
      · exact hown p hp S0 (by simp)
    have hRS' : ∀ p ∈ (T2, tupObj #[Value.int py.1 t2, Value.int py.2 u2]) :: (L' + 1, oc) :: R, p.1 ≠ S0 := fun p hp => by
      cases hp with
      | head => exact hBS _ hT2
      | tail _ hp => cases hp with
        | head => exact hBS _ hcB
        | tail _ hp => exact hRS p hp
    have N3 : News g' L' h2 ((S0, o0) :: (T2, tupObj #[Value.int py.1 t2, Value.int py.2 u2]) :: (L' + 1, oc) :: R) := news_of N2 (by rw [hRd]; k_extra "sub")
    clear N2 N1
    have hgi : (gB ds)[i]? = some (wl dx py) := by
      unfold gB
      rw [List.getElem?_zipWith, hdx, hpy]
    obtain ⟨q1, q2, _, _⟩ := gB_ok _ (List.mem_of_getElem? hgi)
    obtain ⟨q, hq⟩ := Int.eq_ofNat_of_zero_le q1
    have hq5 : q < 5 := by rw [hq] at q2; omega
    obtain ⟨v0, hv0, hv1⟩ : ∃ v, (scT ((gB ds).take i))[q]? = some v ∧ ∃ t, is0[q]? = some (.int v t) := by
      have hsz : is0.size = 5 := by have := hq3.length; rw [scT_len, Array.length_toList] at this; exact this
      obtain ⟨b, hb, t, e⟩ := paired_get hq3 (i := q) (a := is0[q]'(by omega)) (by simp [hsz, hq5])
      exact ⟨b, hb, t, by rw [← e]; simp [hsz, hq5]⟩
    obtain ⟨tv, hv1⟩ := hv1
    have hsz : is0.size = 5 := by have := hq3.length; rw [scT_len, Array.length_toList] at this; exact this
    have hke : (if dx.fmod 2 = 1 then py.2 else py.1 : Int) = (q : Int) := (congrArg Prod.fst (wl_eq dx py)).trans hq
    k_steps
    rw [hke]
    refine wpAny_getItem_list (isList_of N3 List.mem_cons_self hq1 hq2) (by omega) (by omega) (x := .int v0 tv) hv1 ?_
    k_steps
    refine setitem_L F2 N3 hRS' hq1 hq2 (by omega) (by omega) (by omega) fun h7 o7 n7 F7 N7 hq4 hq6 => ?_
    k_steps
    refine fe_one hRd F7 N7 List.mem_cons_self (by k_extra "sub") ⟨o7, _, n7, rfl, hq4, hq6, ?_⟩
    rw [List.take_add_one, hgi]
    rw [Array.toList_setIfInBounds]
    have := scT_snoc ((gB ds).take i) (wl dx py) hq5 hq v0 hv0
    show Paired IsInt (is0.toList.set q _) (scT ((gB ds).take i ++ [wl dx py]))
    rw [← this]
    exact paired_set hq3 _ _ _ ⟨_, rfl⟩
  · rintro m₁ news' h tk ⟨o0, is0, n0, rfl, hq1, hq2, hq3⟩ F1' N1
    have F1 : Fr g' L' h m₁ := F1'
    clear F1'
    have hcB : (L' + 1, oc) ∈ B0 := by rw [hB0]; k_extra "mem"
    have N2 : News g' L' h ((S0, o0) :: (L' + 1, oc) :: B0) := news_of N1 (by k_extra "sub")
    clear N1
    have eg : (gB ds).take 10 = gB ds := List.take_of_length_le (Nat.le_of_eq (gB_len hlen))
    rw [eg] at hq3
    repeat (fail_if_success (with_reducible show wpAny _ _ (pyIter _) _ _ _)); (first | (k_unfold; (try dsimp only)) | (k_end; wrow_close) | walk1 | (dsimp only; walk1))
    rename_i l10 _ l11 CD _ _ _ _ _ _ _ l12 _ _ _ _ _ h5 tk5 u1 u2 u3 hR F5 N5 hK5
    obtain ⟨B2, cits0, tz, hB2, N6, hcl0⟩ : ∃ (B2 : Ledger) (cits0 : Array Value) (tz : Tok), B2 = (CD, W.listOf cits0 0) :: (l10, W.listOf #[Value.int 0 tz] 0) :: (S0, o0) :: (L' + 1, oc) :: B0 ∧ News g' L' h5 B2 ∧ Paired IsInt cits0.toList (clsT [] 0).1 := ⟨_, (List.replicate (Int.toNat 5) [Value.int 0 _]).flatten.toArray, _, rfl, N5, .cons ⟨_, rfl⟩ (.cons ⟨_, rfl⟩ (.cons ⟨_, rfl⟩ (.cons ⟨_, rfl⟩ (.cons ⟨_, rfl⟩ .nil))))⟩
    clear N5
    have hSB : (S0, o0) ∈ B2 := by rw [hB2]; k_extra "mem"
    have hCB : (L' + 1, oc) ∈ B2 := by rw [hB2]; k_extra "mem"
    refine src_range (by rfl) F5 N6 hR (by decide) (n := 5) (by decide) (av := []) (fun _ h => nomatch h) ?_
    intro h6 k6 S6
    refine ⟨_, _, _, S6 _ _, by decide, fun i ys l => ∃ ex, l = ex ++ B2 ∧ (∀ p ∈ ex, ∀ q ∈ B2, q.1 < p.1) ∧ Paired (RowV ex) ys ((rowsOf (gB ds)).take i), ⟨[], rfl, (fun _ h => nomatch h), .nil⟩, ?_, ?_⟩
    · rintro i v zs news₁ C oC mC D h tk own E' hi ⟨t9, rfl⟩ ⟨ex, rfl, hJ0, hJ⟩ F1 N1 hC hCD off
      refine asg_name F1 N1 hC (off1 hCD off) (by rfl) (by rfl) (by rfl) ?_
      intro h2 tk2 oC2 mC2 F2 N2 hC2 hx2 hy2
      have N3 : News g' L' h2 ((L' + 1, oc) :: (S0, o0) :: (C, oC2) :: (D, LCg.lst zs) :: ((ex ++ B2) ++ own)) := news_of N2 (by k_extra "sub")
      clear N2 N1
      have hsz : is0.size = 5 := by have := hq3.length; rw [scT_len, Array.length_toList] at this; exact this
      obtain ⟨v0, hv0, tv, hv1⟩ : ∃ v, (scT (gB ds))[i]? = some v ∧ ∃ t, is0[(0 + (i : Int)).toNat]? = some (.int v t) := by
        obtain ⟨b, hb, t, e⟩ := paired_get hq3 (i := i) (a := is0[i]'(by omega)) (by simp [hsz, hi])
        exact ⟨b, hb, t, by rw [← e, show (0 + (i : Int)).toNat = i by omega]; simp [hsz, hi]⟩
      k_steps
      rename_i T9 h9 F9 N9 l9
      refine ⟨h9, _, oC2, mC2, (T9, W.listOf #[Value.int v0 tv, Value.int (0 + (i : Int)) t9] 0) :: (ex ++ B2), rfl, F9, fun p hp => N9 p ?_, hC2, newer l9.2.2, (T9, _) :: ex, rfl, ord_cons l9.2.2.2.2 hJ0, ?_⟩
      · revert p
        k_extra "sub"
      · rw [rowsOf_succ hi hv0]
        exact Paired.snoc (paired_mono (fun _ _ x => x.mono fun _ h => List.mem_cons_of_mem _ h) hJ) ⟨T9, _, tv, t9, 0, rfl, List.mem_cons_self, rfl⟩
    · rintro zs news' D h tk ⟨ex, rfl, hJ0, hJ⟩ F1 N1 off hlt
      repeat (fail_if_success (with_reducible show wpAny _ _ (call (Value.builtin "sorted") _) _ _ _)); (first | (k_unfold; (try dsimp only)) | (k_end; wrow_close) | walk1 | (dsimp only; walk1))
      have er : (rowsOf (gB ds)).take 5 = rowsOf (gB ds) := List.take_of_length_le (by unfold rowsOf; rw [List.length_map, List.length_range]; decide)
      rw [er] at hJ
      have hJ2 : Paired (RowV ((D, LCg.lst zs) :: (ex ++ B2))) zs (rowsOf (gB ds)) := paired_mono (fun _ _ x => x.mono (by k_extra "sub")) hJ
      refine sorted_rows (show un + 3 + 1 + 1 < cLine by omega) F1 N1 (isList_of N1 List.mem_cons_self rfl rfl) hJ2 (by unfold rowsOf; rw [List.length_map, List.length_range]) fun D2 vs2 c2 h7 F7 N7 hlt7 hv7 => ?_
      repeat (fail_if_success (with_reducible show wpAny _ _ (call (Value.type "enumerate") _) _ _ _)); (first | (k_unfold; (try dsimp only)) | (k_end; wrow_close) | walk1 | (dsimp only; walk1))
      obtain ⟨B3, hB3⟩ : ∃ B3, B3 = (l10, W.listOf #[Value.int 0 tz] 0) :: (S0, o0) :: (L' + 1, oc) :: B0 := ⟨_, rfl⟩
      obtain ⟨R3, hR3⟩ : ∃ R3, R3 = (D2, W.listOf vs2.toArray c2) :: (D, LCg.lst zs) :: (ex ++ B3) := ⟨_, rfl⟩
      have hCDm : (CD, W.listOf cits0 0) ∈ B2 := by rw [hB2]; exact List.mem_cons_self
      have hR3n : ∀ p ∈ R3, p.1 ≠ CD := fun p hp => by
        rw [hR3] at hp
        cases hp with
        | head => exact Nat.ne_of_gt (hlt7 (CD, W.listOf cits0 0) (by k_extra "mem"))
        | tail _ hp =>
        cases hp with
        | head => exact Nat.ne_of_gt (hlt _ hCDm)
        | tail _ hp =>
        rcases List.mem_append.mp hp with hp | hp
        · exact Nat.ne_of_gt (hJ0 p hp _ hCDm)
        · rw [hB3] at hp
          cases hp with
          | head => exact Nat.ne_of_lt l12.1
          | tail _ hp => cases hp with
            | head => exact Nat.ne_of_lt l12.2.1
            | tail _ hp => cases hp with
              | head => exact Nat.ne_of_lt l12.2.2.1
              | tail _ hp => exact Nat.ne_of_lt (ktn_ltOf l12.2.2.2 p hp)
      have N8 : News g' L' h7 ((CD, W.listOf cits0 0) :: R3) := news_of N7 (by rw [hB2, ← hB3, hR3]; k_extra "sub")
      have hv8 : Paired (RowV ((CD, W.listOf cits0 0) :: R3)) vs2 (sortedF (rowsOf (gB ds))) := paired_mono (fun _ _ x => x.mono (by rw [hB2, ← hB3, hR3]; k_extra "sub")) hv7
      clear N7 hv7
      obtain ⟨rs, hrs⟩ : ∃ rs, rs = sortedF (rowsOf (gB ds)) := ⟨_, rfl⟩
      rw [← hrs] at hv8
      have hrl : rs.length = 5 := by rw [hrs]; unfold sortedF; rw [List.length_map]; exact (permF_ok _).1
      have hrb : ∀ r ∈ rs, 0 ≤ r.2 ∧ r.2 < 5 := by
        intro r hr
        rw [hrs] at hr
        obtain ⟨j, hj, rfl⟩ := List.mem_map.mp hr
        have hj5 := (permF_ok _).2 j hj
        have e : (rowsOf (gB ds)).getD j (0, 0) = ((scT (gB ds)).getD j 0, (j : Int)) := by
          unfold rowsOf
          rw [List.getD_eq_getElem?_getD, List.getElem?_map, List.getElem?_range hj5]
          rfl
        rw [e]
        exact ⟨Int.natCast_nonneg j, by show (j : Int) < 5; omega⟩
      have hvl : vs2.toArray.size = 5 := by rw [List.size_toArray, hv8.length, hrl]
      have hD2 : (D2, W.listOf vs2.toArray c2) ∈ R3 := by rw [hR3]; k_extra "mem"
      refine src_enum (by rfl) F7 N8 (l := D2) (its := vs2.toArray) ?_ ?_ (av := [CD]) ?_ ?_
      · exact isList_of N8 (List.mem_cons_of_mem _ hD2) rfl rfl
      · exact .inr ⟨_, List.mem_cons_of_mem _ hD2⟩
      · intro b hb
        rw [List.mem_singleton.mp hb]
        exact ⟨Heap.lt_size (N8 _ List.mem_cons_self).1, Ne.symm (hR3n _ hD2)⟩
      intro I9 h9 k9 S9
      rw [hvl] at S9
      refine ⟨_, _, _, _, _, S9 _ _ _, fun i m₁ l => (∃ o its0 n0 t1 t2, l = (CD, o) :: R3 ∧ o = W.listOf its0 n0 ∧ Paired IsInt its0.toList (clsT rs i).1 ∧ m₁ (Str.ofString "level") = some (.int (clsT rs i).2.1 t1) ∧ m₁ (Str.ofString "total") = some (.int (clsT rs i).2.2 t2) ∧ m₁ (Str.ofString "classes") = some (.ref CD)), ⟨_, cits0, 0, _, _, rfl, rfl, hcl0, by rfl, by rfl, by rfl⟩, ?_, ?_⟩
      · rintro i v m₁ news₁ h tk own hi ⟨T, vals, rfl, ⟨t, x, hx, rfl⟩, hT⟩ ⟨o1, is1, n1, t1, t2, rfl, hq4, hq6, hm1, hm2, hm3⟩ hown F1 N1
        refine asgF_pair (by rfl) hT F1 N1 (by rfl) (by rfl) (by rfl) (by decide) ?_
        intro h2 tk2 m2 F2' N2 hx2 hy2 hz2
        have F2 : Fr g' L' h2 m2 := F2'
        clear F2'
        have hm1 := (hz2 (Str.ofString "level") (by decide +kernel) (by decide +kernel)).trans hm1
        have hm2 := (hz2 (Str.ofString "total") (by decide +kernel) (by decide +kernel)).trans hm2
        have hm3 := (hz2 (Str.ofString "classes") (by decide +kernel) (by decide +kernel)).trans hm3
        obtain ⟨r, hr, T9, its9, u1, u2, n9, rfl, hT9, hits9⟩ := paired_get hv8 (by simpa using hx)
        have hT9 : (T9, W.listOf #[.int r.1 u1, .int r.2 u2] n9) ∈ (CD, W.listOf cits0 0) :: R3 := by rw [hits9] at hT9; exact hT9
        clear hits9
        have hT9 : (T9, W.listOf #[.int r.1 u1, .int r.2 u2] n9) ∈ R3 := by
          rcases List.mem_cons.mp hT9 with e | e
          · have e2 : (#[.int r.1 u1, .int r.2 u2] : Array Value).size = cits0.size := congrArg (fun p : Addr × Obj => match p.2.data with | .seq xs _ => xs.size | _ => 0) e
            have e3 := hcl0.length
            rw [Array.length_toList] at e3
            rw [e3] at e2
            exact absurd (show (2 : Nat) = 5 from e2) (by decide)
          · exact e
        have hat0 : (#[.int r.1 u1, .int r.2 u2] : Array Value)[Int.toNat 0]? = some (.int r.1 u1) := rfl
        have hat1 : (#[.int r.1 u1, .int r.2 u2] : Array Value)[Int.toNat 1]? = some (.int r.2 u2) := rfl
        obtain ⟨hr0, hr5⟩ := hrb r (List.mem_of_getElem? hr)
        have hsz1 : is1.size = 5 := by
          have e := hq6.length
          have : ∀ i, (clsT rs i).1.length = 5 := fun i => by
            induction i with
            | zero => rfl
            | succ i ih => show (List.set _ _ _).length = 5; rw [List.length_set]; exact ih
          rw [this, Array.length_toList] at e
          exact e
        obtain ⟨R, hRd⟩ : ∃ R, R = R3 ++ own := ⟨_, rfl⟩
        have hRC : ∀ p ∈ R, p.1 ≠ CD := fun p hp => by
          rw [hRd] at hp
          rcases List.mem_append.mp hp with hp | hp
          · exact hR3n p hp
          · exact hown p hp CD (by simp)
        have N3 : News g' L' h2 ((CD, o1) :: (T9, W.listOf #[.int r.1 u1, .int r.2 u2] n9) :: R) := news_of N2 (by rw [hRd]; k_extra "sub")
        have hRC2 : ∀ p ∈ (T9, W.listOf #[.int r.1 u1, .int r.2 u2] n9) :: R, p.1 ≠ CD := fun p hp => by
          rcases List.mem_cons.mp hp with rfl | hp
          · exact hR3n _ hT9
          · exact hRC p hp
        clear N2 N1
        obtain ⟨c1, hc1⟩ : ∃ c, c = clsT rs i := ⟨_, rfl⟩
        rw [← hc1] at hm1 hm2 hq6
        k_steps
        refine setitem_LL (k := r.2) F2 N3 hRC2 hq4 hr0 (by omega) (by omega) fun h7 F7 N7 => ?_
        k_steps
        refine wpAny_loadName_local rfl (by rfl) F7.ns hm2 ?_
        k_steps
        rename_i F8 N8b
        obtain ⟨m3, t3, F9, e1, e2⟩ : ∃ m3 t3, Fr g' L' _ m3 ∧ m3 (Str.ofString "total") = some (.int (c1.2.2 + r.1) t3) ∧ (∀ y, y ≠ Str.ofString "total" → m3 y = m2 y) := ⟨_, _, F8, if_pos rfl, fun y hy => if_neg hy⟩
        clear F8
        have hk3 := (e2 (Str.ofString "k") (by decide +kernel)).trans hx2
        have hl3 := (e2 (Str.ofString "level") (by decide +kernel)).trans hm1
        have hc3 := (e2 (Str.ofString "classes") (by decide +kernel)).trans hm3
        have hcs : clsT rs (i + 1) = (c1.1.set r.2.toNat c1.2.1, if c1.2.2 + r.1 = ((i : Int) + 1) * i / 2 then c1.2.1 + 1 else c1.2.1, c1.2.2 + r.1) := by
          show clsStep (clsT rs i) i (rs.getD i (0, 0)) = _
          rw [List.getD_eq_getElem?_getD, hr, ← hc1]
          rfl
        have hset : Paired IsInt (is1.setIfInBounds r.2.toNat (.int c1.2.1 t1)).toList (clsT rs (i + 1)).1 := by
          rw [hcs, Array.toList_setIfInBounds]
          exact paired_set hq6 _ _ _ ⟨_, rfl⟩
        k_steps
        · refine wpAny_loadName_local rfl (by rfl) F9.ns hl3 ?_
          k_steps
          rename_i hq hh F8 N8c
          have hq : c1.2.2 + r.1 = ((i : Int) + 1) * i / 2 := by rw [← Int.fdiv_eq_ediv_of_nonneg _ (by decide)]; exact hq
          obtain ⟨m4, t4, F10, e3, e4⟩ : ∃ m4 t4, Fr g' L' _ m4 ∧ m4 (Str.ofString "level") = some (.int (c1.2.1 + 1) t4) ∧ (∀ y, y ≠ Str.ofString "level" → m4 y = m3 y) := ⟨_, _, F8, if_pos rfl, fun y hy => if_neg hy⟩
          clear F8
          refine fe_one hRd F10 N8c List.mem_cons_self (by k_extra "sub") ⟨_, _, _, t4, t3, rfl, rfl, hset, e3.trans ?_, (e4 _ (by decide +kernel)).trans (e1.trans ?_), (e4 _ (by decide +kernel)).trans hc3⟩
          · rw [hcs, if_pos hq]
          · rw [hcs]
        · have hq : ¬ c1.2.2 + r.1 = ((i : Int) + 1) * i / 2 := by rw [← Int.fdiv_eq_ediv_of_nonneg _ (by decide)]; assumption
          refine fe_one hRd F9 N8b List.mem_cons_self (by k_extra "sub") ⟨_, _, _, t1, t3, rfl, rfl, hset, hl3.trans ?_, e1.trans ?_, hc3⟩
          · rw [hcs, if_neg hq]
          · rw [hcs]
      · rintro m₁ news' h tk ⟨o1, is1, n1, t1, t2, rfl, hq4, hq6, hm1, hm2, hm3⟩ F1' N1
        have F1 : Fr g' L' h m₁ := F1'
        clear F1'
        k_steps
        rename_i kF kN _ _
        subst hq4
        refine ret CD is1 n1 h _ kF (fun p hp => kN p ?_) (fun q hq => ?_) ?_
        · rcases List.mem_cons.mp hp with rfl | hp
          · exact List.mem_cons_self
          · refine List.mem_cons_of_mem _ ?_
            rw [hR3, hB3, hB0]
            k_extra "mem"
        · exact ktn_ltOf l12.2.2.2 _ (by rw [hB0]; k_extra "mem")
        · rw [hrs] at hq6; exact hq6
end
end Mine
end
section
open PySem PySem.W PySem.Calls PyProof.Rows PyProof.V PySem.Spec
set_option maxRecDepth 100000
set_option maxHeartbeats 0
namespace Mine
theorem fillKp (h : Heap) (w : World) : PySem.Challenge.rw_sn0103_01 = PySem.Challenge.rw_sn0103_01 ∧ (K w.params).In h = (K w.params).In h := by
  k_fill
  exact ⟨rfl, rfl⟩
local macro_rules | `(tactic| walk_at $s:str) => `(tactic| k_extra $s)
local macro_rules | `(tactic| k_all) => `(tactic| assumption)
/-- a dict of lists of names -/
noncomputable abbrev ListsIn (l : Ledger) (kvs : List (Str × Value)) (bt : List (Str × List Str)) : Prop := Paired (KvIs fun v (z : List Str) => ∃ D2 ws, v = .ref D2 ∧ (D2, LCg.lst ws) ∈ l ∧ Paired IsStr ws z) kvs bt
noncomputable def nbT (nb : Nat → List Nat) : List (Str × List Str) := (List.range 5).map fun i => (nameS i, (nb i).map nameS)
theorem nbT_get (nb : Nat → List Nat) {i : Nat} (hi : i < 5) : (nbT nb)[i]? = some (nameS i, (nb i).map nameS) := by
  unfold nbT
  rw [List.getElem?_map, List.getElem?_range hi]
  rfl
theorem nbT_nodup (nb : Nat → List Nat) : ((nbT nb).map (·.1)).Nodup := by
  have e : (nbT nb).map (·.1) = (List.range 5).map nameS := by
    unfold nbT
    rw [List.map_map]
    rfl
  rw [e]
  decide +kernel
theorem notin_b {prog : Program} {w : World} {A : Around} {E : Value → Shared → Prop} {s : Shared} {x y : Str} {u t : Tok} {b : Bool} {Q : Value → Shared → Prop} (ho : (Builtin.Str.occurrences x y 0 x.length 1).isEmpty = b) (h : Q (.bool b) s) : wpAny (model prog w) A (compareOp .NotIn (.str y u) (.str x t)) Q E s :=
  notIn_str (by rw [ho, Bool.not_not]; exact h)
theorem add_two {prog : Program} {w : World} {A : Around} {E : Value → Shared → Prop} {s : Shared} {x y z : Str} {u t : Tok} {Q : Value → Shared → Prop} (hz : x ++ y = z) (hx : 1 ≤ x.length) (hy : 1 ≤ y.length) (hx2 : x.length ≤ 100) (hy2 : y.length ≤ 100) (h : ∀ t' tk, Q (.str z t') { s with toks := tk }) : wpAny (model prog w) A (binaryOp .Add (.str x t) (.str y u)) Q E s := by
  subst hz
  exact add_str (fun t' tk => h t' tk) (Nat.le_trans (m := 1000) (show x.length + y.length ≤ 1000 by omega) (by decide))
noncomputable def PathsOk (w : World) (nb : Nat → List Nat) (k : Nat) : Prop :=
  ∀ {mean : ExcName → Option Value} {mg mb : Str → Option Value} {dp un : Nat} {gd : Option (List Code)} {cn : Str} {cs : Scope} {a : Addr} {ccd : Value} {cl : List (Str × Addr)} {outer : List Env} {A₀ : Around} {base h₀ : Heap} {L : Addr} {m : Str → Option Value} {news : List (Addr × Obj)} {s : Shared} {Q E : Value → Shared → Prop}
    {BD : Addr} {oB : Obj} {kvs : List (Str × Value)} {p : List Nat} {u : Tok}, Below A₀ base outer h₀ → Fr h₀ L s.heap m → (K w.params).In h₀ → News h₀ L s.heap news → Top qV (looseW qV looseV) mean mg mb h₀ → cs.kind = .function →
    (BD, oB) ∈ news → oB.IsDictOf (PySem.strKind rwP w) kvs → ListsIn news kvs (nbT nb) → p ∈ allP → p.length + k = 5 → dp + (2 * k + 4) < recursionLimit → un + 8 * (2 * k + 4) < cLine →
    (∀ D its n tl h' tk', Fr h₀ L h' m → News h₀ L h' (news ++ tl) → (∀ q ∈ news, ∀ p ∈ tl, q.1 < p.1) → (D, W.listOf its n) ∈ tl → Paired IsStr its.toList ((pathsF nb k p).map pathS) → Q (.ref D) { s with heap := h', toks := tk' }) →
    wpAny (model rwP w) (ktrTop dp un gd cn cs L a ccd cl outer) (call (.ref 305) [.ref BD, .str (pathS p) u]) Q E s
theorem paths_step {w : World} {nb : Nat → List Nat} (hnb : ∀ i, (nb i).length ≤ 5 ∧ ∀ x ∈ nb i, x < 5) {k : Nat} (ih : ∀ j, k = j + 1 → PathsOk w nb j) : PathsOk w nb k := by
  intro mean mg mb dp un gd cn cs a ccd cl outer A₀ base h₀ L m news s Q E BD oB kvs p u B F X N T hk hBD hoB hL hp hpk hd hu ret
  obtain ⟨f1, f2, f3, f4, f5⟩ := path_last hp
  k_with_none
  k_with "eval Name" => ((with_reducible show wpAny _ _ (eval (Expr.Name _ _) (envOf _ _ _ _ _)) _ _ _); (refine ld (by with_reducible assumption) (by with_reducible assumption) ?_))
  k_with "exec For Name Subscript cons nil" => (k_here; k_dflt (refine for_J (by k_asm) ?_))
  k_with "exec For Name Subscript" => (k_here; k_dflt (refine for_J (by k_asm) ?_))
  k_with "exec For" => (k_here; k_dflt (refine for_J (by k_asm) ?_))
  k_with "compareOp NotIn str str" => (refine notin_b (by assumption) ?_)
  k_with "binaryOp Add str str" => (k_here; (with_reducible show wpAny _ _ (binaryOp _ (Value.str _ _) (Value.str _ _)) _ _ _); (refine add_two (by assumption) (by omega) (by omega) (by omega) (by omega) ?_); intro _ _)
  k_with "call ref" => (k_here; (with_reducible show wpAny _ _ (call (Value.ref 305) _) _ _ _); k_dflt (refine' ihj ?k1 ?k2 ?k3 ?k4 ?k5 ?kK ?ka ?kb ?kc ?kd ?ke ?kf ?kg ?_; (case k1 => k_asm); (case k2 => k_asm); (case k3 => k_asm); (case k4 => k_asm); (case k5 => k_asm); (case kK => first | exact rfl | assumption); (case ka => k_mem); (case kb => assumption); (case kc => exact hL2); (case kd => assumption); (case ke => assumption); (case kf => exact (show dp + 1 + (2 * j + 4) < _ by omega)); (case kg => exact (show un + 3 + 8 * (2 * j + 4) < _ by omega))); intro _ _ _ _ _ _ _ _ _ _ _)
  refine wpAny_call ?_
  k_dflt ktr_enter
  rename_i g' L' h' FG F' N' B' X' T'
  obtain ⟨v9, hv9, BL, ws, rfl, hBL, hws⟩ := valueAt_paired hL (nbT_nodup nb) (nbT_get nb f2)
  k_steps
  rename_i S0 h9 l9 h10 F10 N10 _
  rw [f1]
  refine kda_item (knd := PySem.strKind _ _) N10 (List.mem_cons_of_mem _ hBD) hoB (strKind_is _ _ _ _) hv9 ?_
  refine src_list (by rfl) F10 N10 (ax := BL) (its := ws.toArray) (isList_of N10 (List.mem_cons_of_mem _ hBL) rfl rfl) (.inr ⟨_, List.mem_cons_of_mem _ hBL⟩) (av := [S0]) ?_ ?_
  · intro b hb
    rw [List.mem_singleton.mp hb]
    exact ⟨Heap.lt_size (N10 _ List.mem_cons_self).1, Nat.ne_of_gt (l9 _ hBL)⟩
  intro h11 k11 S11
  refine ⟨_, _, _, _, _, S11 _ _, fun i m₁ l => m₁ (Str.ofString "found") = some (.ref S0) ∧ m₁ (Str.ofString "path") = some (.str (pathS p) u) ∧ m₁ (Str.ofString "beaten") = some (.ref BD) ∧ ∃ its n, l = (S0, W.listOf its n) :: news ∧ Paired IsStr its.toList ((p :: ((nb (lastP p)).take i).flatMap fun x => if p.contains x then [] else pathsF nb (k - 1) (p ++ [x])).map pathS), ⟨by with_unfolding_all rfl, by with_unfolding_all rfl, by with_unfolding_all rfl, _, 0, rfl, .cons ⟨_, rfl⟩ .nil⟩, ?_, ?_⟩
  · rintro i v m₁ news₁ h tk own hi hP ⟨hJ1, hJ2, hJ3, its, n, rfl, hJ4⟩ hown F1 N1
    refine asgF_name F1 N1 (by rfl) (by rfl) ?_
    intro h2 tk2 m2 F2' N2 hx2 hy2
    have F2 : Fr g' L' h2 m2 := F2'
    clear F2'
    have hg2 := (hy2 (Str.ofString "found") (by decide)).trans hJ1
    have hs2 := (hy2 (Str.ofString "path") (by decide)).trans hJ2
    have hb2 := (hy2 (Str.ofString "beaten") (by decide)).trans hJ3
    obtain ⟨y, hy, ty, rfl⟩ := paired_get hws (i := i) (by simpa using hP)
    rw [List.getElem?_map] at hy
    obtain ⟨x, hx, rfl⟩ := Option.map_eq_some_iff.mp hy
    have hx5 := (hnb (lastP p)).2 x (List.mem_of_getElem? hx)
    obtain ⟨a1, a2, a3⟩ := path_at hp hx5
    have hR0 : ∀ q ∈ news ++ own, q.1 ≠ S0 := fun q hq => by
      rcases List.mem_append.mp hq with hq | hq
      · exact Nat.ne_of_lt (l9 q hq)
      · exact hown q hq S0 (by simp)
    have hl1 : (nameS x).length = 1 := rfl
    cases hc : p.contains x with
    | true =>
      rw [hc] at a1
      have a1 : _ = false := a1
      k_steps
      refine fe_same F2 N2 (fun q hq => hq) ⟨hg2, hs2, hb2, its, n, rfl, ?_⟩
      rw [flat_take _ hx, hc, if_pos rfl, List.append_nil]
      exact hJ4
    | false =>
      rw [hc] at a1
      have a1 : _ = true := a1
      obtain ⟨j, rfl⟩ : ∃ j, k = j + 1 := ⟨k - 1, by have := a3 hc; omega⟩
      have ihj : PathsOk w nb j := ih j rfl
      have hin := ext_all hp hx5 hc
      have hlen : (p ++ [x]).length + j = 5 := by rw [List.length_append, List.length_singleton]; omega
      obtain ⟨R, hRd⟩ : ∃ R, R = news ++ own := ⟨_, rfl⟩
      have N3 : News g' L' h2 ((S0, W.listOf its n) :: (BD, oB) :: R) := fun q hq => N2 q (by
        rw [hRd] at hq
        simp only [List.mem_cons] at hq
        rcases hq with rfl | rfl | hq
        · exact List.mem_cons_self
        · simp [hBD]
        · exact List.mem_cons_of_mem _ hq)
      have hL2 : ListsIn ((S0, W.listOf its n) :: (BD, oB) :: R) kvs (nbT nb) := paired_mono (fun kv z x => by
        obtain ⟨x1, D3, ws, e1, e2, e3⟩ := x
        exact ⟨x1, D3, ws, e1, by rw [hRd]; simp [e2], e3⟩) hL
      clear N2 N1
      k_steps
      rename_i tk3 tk4 D4 its4 n4 tl4 h4 tk5 F4 N4 hl4 hD4 hp4
      have hSD : S0 < D4 := hl4 (S0, W.listOf its n) List.mem_cons_self _ hD4
      have N5 : News g' L' h4 ((S0, W.listOf its n) :: (D4, W.listOf its4 n4) :: R) := fun q hq => N4 q (by
        simp only [List.mem_cons] at hq
        rcases hq with rfl | rfl | hq
        · simp
        · simp [hD4]
        · simp [hq])
      have hJ5 : Paired IsStr its.toList ((p :: ((nb (lastP p)).take i).flatMap fun x => if p.contains x then [] else pathsF nb j (p ++ [x])).map pathS) := hJ4
      have z1 := hJ5.length
      have z2 := hp4.length
      rw [List.length_map, Array.length_toList] at z1 z2
      rw [List.length_cons] at z1
      have z3 := pathsF_len nb (fun i => (hnb i).1) j (p ++ [x])
      have z4 := flat_len (fun x => if p.contains x then [] else pathsF nb j (p ++ [x])) (szP j) ((nb (lastP p)).take i) fun y _ => by
        split
        · exact Nat.zero_le _
        · exact pathsF_len nb (fun i => (hnb i).1) j _
      have z5 := szP_le (k := j) (by omega)
      have z6 : ((nb (lastP p)).take i).length ≤ 5 := Nat.le_trans (by rw [List.length_take]; exact Nat.min_le_right _ _) (hnb (lastP p)).1
      have z7 := Nat.mul_le_mul z6 z5
      refine extend_L F4 N5 (List.mem_cons_of_mem _ List.mem_cons_self) (fun n' => Upd.head (fun q hq => ?_)) (by omega) fun h6 n6 F6 N6 => ?_
      · rcases List.mem_cons.mp hq with rfl | hq
        · exact Nat.ne_of_gt hSD
        · exact hR0 q (hRd ▸ hq)
      · k_steps
        refine fe_one hRd F6 N6 List.mem_cons_self (fun q hq => by simp [hq]) ⟨hg2, hs2, hb2, _, n6, rfl, ?_⟩
        rw [flat_take _ hx, hc, if_neg Bool.false_ne_true, Array.toList_append, ← List.cons_append, List.map_append]
        exact paired_app hJ5 hp4
  · rintro m₁ news' h tk ⟨hJ1, hJ2, hJ3, its, n, rfl, hJ4⟩ F1' N1
    have F1 : Fr g' L' h m₁ := F1'
    clear F1'
    k_steps
    rename_i kF kN _ _
    refine ret S0 its n [(S0, W.listOf its n)] _ _ kF (tell_one kN fun q hq => hq) (ord_one l9) List.mem_cons_self ?_
    have hw5 : (nb (lastP p)).take ws.toArray.size = nb (lastP p) := List.take_of_length_le (by
      have := hws.length
      rw [List.length_map] at this
      rw [List.size_toArray, this]
      exact Nat.le_refl _)
    rw [hw5] at hJ4
    cases k with
    | succ j => exact hJ4
    | zero =>
      have e0 : ((nb (lastP p)).flatMap fun x => if p.contains x then [] else pathsF nb (0 - 1) (p ++ [x])) = [] := List.flatMap_eq_nil_iff.mpr fun x hx => by
        have a3 := (path_at hp ((hnb (lastP p)).2 x hx)).2.2
        cases hc : p.contains x with
        | true => rw [if_pos rfl]
        | false => exact absurd (a3 hc) (by omega)
      rw [e0] at hJ4
      exact hJ4
theorem paths_call {w : World} {nb : Nat → List Nat} (hnb : ∀ i, (nb i).length ≤ 5 ∧ ∀ x ∈ nb i, x < 5) (k : Nat) : PathsOk w nb k := by
  induction k with
  | zero => exact paths_step hnb fun j h => Nat.noConfusion h
  | succ k ih =>
    refine paths_step hnb fun j h => ?_
    have e : k = j := Nat.succ.inj h
    subst e
    exact @ih
end Mine
end
section
open PySem PySem.W PySem.Calls PyProof.Rows PyProof.V PySem.Spec
set_option maxRecDepth 100000
set_option maxHeartbeats 0
namespace Mine
theorem fillKq (h : Heap) (w : World) : PySem.Challenge.rw_sn0103_01 = PySem.Challenge.rw_sn0103_01 ∧ (K w.params).In h = (K w.params).In h := by
  k_fill
  exact ⟨rfl, rfl⟩
local macro_rules | `(tactic| walk_at $s:str) => `(tactic| k_extra $s)
local macro_rules | `(tactic| k_all) => `(tactic| assumption)
section
variable {w : World} {mean : ExcName → Option Value} {mg mb : Str → Option Value} {dp un : Nat} {gd : Option (List Code)} {cn : Str} {cs : Scope} {a : Addr} {ccd : Value} {cl : List (Str × Addr)} {outer : List Env} {A₀ : Around} {base h₀ : Heap} {L : Addr} {m : Str → Option Value} {news : List (Addr × Obj)} {s : Shared} {Q E : Value → Shared → Prop}
noncomputable def spE (p : List Nat) (x y : Nat) : Nat → Int
  | 0 => 0
  | 1 => 0
  | 2 => (p.idxOf x : Int) + 1
  | _ => (p.idxOf y : Int) + 1
theorem em_call {x y : Nat} {p : List Nat} {t u : Tok} (B : Below A₀ base outer h₀) (F : Fr h₀ L s.heap m) (X : (K w.params).In h₀) (N : News h₀ L s.heap news) (T : Top qV (looseW qV looseV) mean mg mb h₀) (hk : cs.kind = .function)
    (hx : x < 5) (hy : y < 5) (hp : p ∈ P5) (hd : dp + 2 < recursionLimit) (hu : un + 8 * 2 < cLine)
    (ret : ∀ h' tk', Fr h₀ L h' m → News h₀ L h' news → Q (.bool (posB p x y)) { s with heap := h', toks := tk' }) :
    wpAny (model rwP w) (ktrTop dp un gd cn cs L a ccd cl outer) (call (.ref 180) [.str (wantS x y) t, .str (pathS p) u]) Q E s := by
  obtain ⟨p1, p2, p3⟩ := P5_at hp
  have w2 : (Builtin.Str.occurrences (wantS x y) (Str.ofString "...") 0 (wantS x y).length 1).isEmpty = false := (split_want hx hy).2.1
  k_with_none
  k_with "compareOp NotIn str str" => (refine notin_b (by assumption) ?_)
  k_with "call builtin:str.split" => (k_here; (with_reducible show wpAny _ _ (call (Value.builtin "str.split") [Value.str _ _, Value.str _ _]) _ _ _); k_dflt (refine split_call (by k_asm) (by k_asm) hx hy ?_); intro D0 t1 t2 t3 t4 _ _ _ _ l1; (try k_lt l1))
  k_with "call builtin:len" => (k_here; (with_reducible show wpAny _ _ (call (Value.builtin "len") [Value.str _ _]) _ _ _); k_dflt (refine len_is (by assumption) (by decide) ?_); intro _ _)
  have hl5 : ((pathS p).length : Int) = 5 := by
    have : (pathS p).length = p.length := by unfold pathS; show (List.toArray _).size = _; simp
    rw [this, p2]
    rfl
  have hl0 : (eS.length : Int) = 0 := rfl
  have hl1 : ((nameS x).length : Int) = 1 := rfl
  have hl2 : ((nameS y).length : Int) = 1 := rfl
  k_with "eval Name" => ((with_reducible show wpAny _ _ (eval (Expr.Name _ _) (envOf _ _ _ _ _)) _ _ _); (refine ld (by with_reducible assumption) (by first | with_reducible assumption | exact (if_neg (by decide)).trans (by with_reducible assumption) | exact (if_neg (by decide)).trans ((if_neg (by decide)).trans (by with_reducible assumption))) ?_))
  k_with "call builtin:str.find" => (k_here; (with_reducible show wpAny _ _ (call (Value.builtin "str.find") [Value.str _ _, Value.str _ _, Value.int _ _, Value.int _ _]) _ _ _); k_dflt (refine find4 (by assumption) (by assumption) (by assumption) ?_); intro _ _)
  have hl5' : (5 : Int) = (pathS p).length := hl5.symm
  refine wpAny_call ?_
  k_dflt ktr_enter
  rename_i g' L' h' FG F' N' B' X' T'
  repeat (fail_if_success (with_reducible show wpAny _ _ (exec (Stmt.For _ _ _ _ _) _) _ _ _)); (first | (k_unfold; (try dsimp only)) | (k_end; wrow_close) | walk1 | (dsimp only; walk1))
  k_here
  k_dflt (refine for_J (by k_asm) ?_)
  repeat (fail_if_success (with_reducible show wpAny _ _ (pyIter _) _ _ _)); (first | (k_unfold; (try dsimp only)) | (k_end; wrow_close) | walk1 | (dsimp only; walk1))
  (with_reducible rename Fr _ _ _ _ => F9)
  (with_reducible rename News _ _ _ _ => N9)
  refine src_list (by rfl) F9 N9 (ax := D0) (its := #[.str eS t1, .str (nameS x) t2, .str (nameS y) t3, .str eS t4]) (isList_of N9 (by k_mem) rfl rfl) (.inr ⟨_, by k_mem⟩) (av := []) (fun _ h => nomatch h) ?_
  intro h11 k11 S11
  refine ⟨_, _, _, _, _, S11 _ _, fun i m₁ l => (∃ l1, l = l1 ++ news) ∧ m₁ (Str.ofString "got") = some (.str (pathS p) u) ∧ (∃ t, m₁ (Str.ofString "endpos") = some (.int 5 t)) ∧ (i ≤ 3 → ∃ t, m₁ (Str.ofString "startpos") = some (.int (spE p x y i) t)) ∧ (3 ≤ i → posB p x y = true), ⟨⟨[_, _], rfl⟩, by with_unfolding_all rfl, ⟨_, by with_unfolding_all rfl⟩, fun _ => ⟨_, by with_unfolding_all rfl⟩, fun h => absurd h (by decide)⟩, ?_, ?_⟩
  · rintro i v m₁ news₁ h tk own hi hP ⟨⟨lr, rfl⟩, hJ1, ⟨te, hJ2⟩, hJ3, hJ4⟩ hown F1 N1
    refine asgF_name F1 N1 (by rfl) (by rfl) ?_
    intro h2 tk2 m2 F2' N2 hx2 hy2
    have F2 : Fr g' L' h2 m2 := F2'
    clear F2'
    have hg2 := (hy2 (Str.ofString "got") (by decide)).trans hJ1
    have he2 := (hy2 (Str.ofString "endpos") (by decide)).trans hJ2
    have hi4 : i < 4 := hi
    obtain ⟨ts, hJ3⟩ := hJ3 (Nat.le_of_lt_succ hi4)
    have hs2 := (hy2 (Str.ofString "startpos") (by decide)).trans hJ3
    have q3 : i = 0 ∨ i = 1 ∨ i = 2 ∨ i = 3 := (by decide : ∀ i, i < 4 → i = 0 ∨ i = 1 ∨ i = 2 ∨ i = 3) i hi4
    rcases q3 with rfl | rfl | rfl | rfl
    · have hv : v = .str eS t1 := (Option.some.inj hP).symm
      subst hv
      have hr : findF (pathS p) eS (Int.toNat (0 : Int)) = 0 := find_empty (lo := 0) (Nat.zero_le _)
      have h0 : (0 : Int) ≤ 0 := Int.le_refl _
      replace hs2 : m2 (Str.ofString "startpos") = some (.int 0 ts) := hs2
      k_steps
      (with_reducible rename Fr _ _ _ _ => F77)
      (with_reducible rename News _ _ _ _ => N77)
      exact fe_same F77 N77 (fun p hp => hp) ⟨⟨_, rfl⟩, (if_neg (by decide)).trans ((if_neg (by decide)).trans hg2), ⟨_, (if_neg (by decide)).trans ((if_neg (by decide)).trans he2)⟩, fun _ => ⟨_, if_pos rfl⟩, fun h => absurd h (by decide)⟩
    · have hv : v = .str (nameS x) t2 := (Option.some.inj hP).symm
      subst hv
      have hr : findF (pathS p) (nameS x) (Int.toNat (0 : Int)) = (p.idxOf x : Int) := (find_name p1 (p3 x hx)).trans (if_pos (Nat.zero_le _))
      have h0 : (0 : Int) ≤ 0 := Int.le_refl _
      replace hs2 : m2 (Str.ofString "startpos") = some (.int 0 ts) := hs2
      k_steps
      (with_reducible rename Fr _ _ _ _ => F77)
      (with_reducible rename News _ _ _ _ => N77)
      exact fe_same F77 N77 (fun p hp => hp) ⟨⟨_, rfl⟩, (if_neg (by decide)).trans ((if_neg (by decide)).trans hg2), ⟨_, (if_neg (by decide)).trans ((if_neg (by decide)).trans he2)⟩, fun _ => ⟨_, if_pos rfl⟩, fun h => absurd h (by decide)⟩
    · have hv : v = .str (nameS y) t3 := (Option.some.inj hP).symm
      subst hv
      obtain ⟨z, hz⟩ : ∃ z, z = spE p x y 2 := ⟨_, rfl⟩
      rw [← hz] at hs2
      have hz2 : z = (p.idxOf x : Int) + 1 := hz
      have hzn : z.toNat = p.idxOf x + 1 := by rw [hz2]; rfl
      have h0 : (0 : Int) ≤ z := by rw [hz2]; exact Int.natCast_nonneg (_ + 1)
      cases hb : posB p x y with
      | true =>
        have hlt : p.idxOf x < p.idxOf y := of_decide_eq_true hb
        have hr : findF (pathS p) (nameS y) z.toNat = (p.idxOf y : Int) := by rw [hzn]; exact (find_name p1 (p3 y hy)).trans (if_pos hlt)
        rw [hb] at ret
        k_steps
        (with_reducible rename Fr _ _ _ _ => F77)
        (with_reducible rename News _ _ _ _ => N77)
        exact fe_same F77 N77 (fun p hp => hp) ⟨⟨_, rfl⟩, (if_neg (by decide)).trans ((if_neg (by decide)).trans hg2), ⟨_, (if_neg (by decide)).trans ((if_neg (by decide)).trans he2)⟩, fun _ => ⟨_, if_pos rfl⟩, fun _ => trivial⟩
      | false =>
        have hlt : ¬ p.idxOf x < p.idxOf y := of_decide_eq_false hb
        have hr : findF (pathS p) (nameS y) z.toNat = -1 := by rw [hzn]; exact (find_name p1 (p3 y hy)).trans (if_neg hlt)
        rw [hb] at ret
        k_steps
        simp only [FE]
        k_steps
        rename_i kF kN _ _
        exact ret _ _ kF fun p hp => kN p (List.mem_append_left _ (List.mem_append_right _ hp))
    · have hv : v = .str eS t4 := (Option.some.inj hP).symm
      subst hv
      obtain ⟨z, hz⟩ : ∃ z, z = spE p x y 3 := ⟨_, rfl⟩
      rw [← hz] at hs2
      have hz2 : z = (p.idxOf y : Int) + 1 := hz
      have hzn : z.toNat = p.idxOf y + 1 := by rw [hz2]; rfl
      have h0 : (0 : Int) ≤ z := by rw [hz2]; exact Int.natCast_nonneg (_ + 1)
      have hy5 : p.idxOf y < p.length := (List.getElem?_eq_some_iff.mp (p3 y hy)).1
      have hr : findF (pathS p) eS z.toNat = z := by
        rw [hzn, hz2]
        exact find_empty (by rw [show (pathS p).length = 5 from Int.ofNat.inj hl5]; exact p2 ▸ hy5)
      k_steps
      (with_reducible rename Fr _ _ _ _ => F77)
      (with_reducible rename News _ _ _ _ => N77)
      exact fe_same F77 N77 (fun p hp => hp) ⟨⟨_, rfl⟩, (if_neg (by decide)).trans ((if_neg (by decide)).trans hg2), ⟨_, (if_neg (by decide)).trans ((if_neg (by decide)).trans he2)⟩, fun h => absurd h (by decide), fun _ => hJ4 (Nat.le_refl _)⟩
  · rintro m₁ news' h tk ⟨⟨lr, rfl⟩, hJ1, ⟨te, hJ2⟩, _, hJ4⟩ F1' N1
    have F1 : Fr g' L' h m₁ := F1'
    clear F1'
    have hpos := hJ4 (show 3 ≤ 4 by decide)
    k_steps
    rename_i kF kN _ _
    rw [hpos] at ret
    exact ret _ _ kF fun p hp => kN p (List.mem_append_right _ hp)
end
end Mine
end
section
open PySem PySem.W PySem.Calls PyProof.Rows PyProof.V PySem.Spec
set_option maxRecDepth 100000
set_option maxHeartbeats 0
namespace Mine
theorem fillKr (h : Heap) (w : World) : PySem.Challenge.rw_sn0103_01 = PySem.Challenge.rw_sn0103_01 ∧ (K w.params).In h = (K w.params).In h := by
  k_fill
  exact ⟨rfl, rfl⟩
local macro_rules | `(tactic| walk_at $s:str) => `(tactic| k_extra $s)
local macro_rules | `(tactic| k_all) => `(tactic| assumption)
theorem want_len {x y : Nat} : (dots ++ nameS x).length = 4 ∧ ((dots ++ nameS x) ++ dots).length = 7 ∧ (((dots ++ nameS x) ++ dots) ++ nameS y).length = 8 := by
  simp only [Str.length_append]
  exact ⟨rfl, rfl, rfl⟩
section
variable {w : World} {mean : ExcName → Option Value} {mg mb : Str → Option Value} {dp un : Nat} {gd : Option (List Code)} {cn : Str} {cs : Scope} {a : Addr} {ccd : Value} {cl : List (Str × Addr)} {outer : List Env} {A₀ : Around} {base h₀ : Heap} {L : Addr} {m : Str → Option Value} {news : List (Addr × Obj)} {s : Shared} {Q E : Value → Shared → Prop}
theorem always_call {LD : Addr} {its : Array Value} {n : Nat} {ps : List (List Nat)} {x y : Nat} {t u : Tok} (B : Below A₀ base outer h₀) (F : Fr h₀ L s.heap m) (X : (K w.params).In h₀) (N : News h₀ L s.heap news) (T : Top qV (looseW qV looseV) mean mg mb h₀) (hk : cs.kind = .function)
    (hm : (LD, W.listOf its n) ∈ news) (hv : Paired IsStr its.toList (ps.map pathS)) (hps : ∀ p ∈ ps, p ∈ P5) (hx : x < 5) (hy : y < 5) (hd : dp + 4 < recursionLimit) (hu : un + 8 * 4 < cLine)
    (ret : ∀ h' tk', Fr h₀ L h' m → News h₀ L h' news → Q (.bool (ps.all fun p => posB p x y)) { s with heap := h', toks := tk' }) :
    wpAny (model rwP w) (ktrTop dp un gd cn cs L a ccd cl outer) (call (.ref 317) [.ref LD, .str (nameS x) t, .str (nameS y) u]) Q E s := by
  k_with_none
  k_with "eval Name" => ((with_reducible show wpAny _ _ (eval (Expr.Name _ _) (envOf _ _ _ _ _)) _ _ _); (refine ld (by with_reducible assumption) (by with_reducible assumption) ?_))
  k_with "binaryOp Add str str" => (k_here; (with_reducible show wpAny _ _ (binaryOp _ (Value.str _ _) (Value.str _ _)) _ _ _); (refine add_two (by assumption) (by omega) (by omega) (by omega) (by omega) ?_); intro _ _)
  k_with "call ref" => (k_here; (with_reducible show wpAny _ _ (call (Value.ref 180) _ _) _ _ _); k_dflt (refine' em_call ?k1 ?k2 ?k3 ?k4 ?k5 ?kK ?ka ?kb ?kc ?kd ?ke ?_; (case k1 => k_asm); (case k2 => k_asm); (case k3 => k_asm); (case k4 => k_asm); (case k5 => k_asm); (case kK => first | exact rfl | assumption); (case ka => assumption); (case kb => assumption); (case kc => assumption); (case kd => (change _ + 2 < _; ktr_room)); (case ke => (change _ + 8 * 2 < _; ktr_units))); intro _ _ _ _)
  refine wpAny_call ?_
  k_dflt ktr_enter
  rename_i g' L' h' FG F' N' B' X' T'
  obtain ⟨D9, hD9⟩ : ∃ D9, D9 = Str.ofString "..." := ⟨_, rfl⟩
  repeat (fail_if_success (with_reducible show wpAny _ _ (exec (Stmt.For _ _ _ _ _) _) _ _ _)); (first | (k_unfold; (try dsimp only)) | (k_end; wrow_close) | walk1 | (dsimp only; walk1))
  k_here
  k_dflt (refine for_J (by k_asm) ?_)
  repeat (fail_if_success (with_reducible show wpAny _ _ (pyIter _) _ _ _)); (first | (k_unfold; (try dsimp only)) | (k_end; wrow_close) | walk1 | (dsimp only; walk1))
  refine src_list (by rfl) F' N' (ax := LD) (its := its) (isList_of N' hm rfl rfl) (.inr ⟨_, hm⟩) (av := []) (fun _ h => nomatch h) ?_
  intro h11 k11 S11
  refine ⟨_, _, _, _, _, S11 _ _, fun i m₁ l => l = news ∧ m₁ (Str.ofString "one") = some (.str (nameS x) t) ∧ m₁ (Str.ofString "other") = some (.str (nameS y) u) ∧ ((ps.take i).all fun p => posB p x y) = true, ⟨rfl, by with_unfolding_all rfl, by with_unfolding_all rfl, rfl⟩, ?_, ?_⟩
  · rintro i v m₁ news₁ h tk own hi hP ⟨rfl, hJ1, hJ2, hJ3⟩ hown F1 N1
    refine asgF_name F1 N1 (by rfl) (by rfl) ?_
    intro h2 tk2 m2 F2' N2 hx2 hy2
    have F2 : Fr g' L' h2 m2 := F2'
    clear F2'
    have hg2 := (hy2 (Str.ofString "one") (by decide)).trans hJ1
    have he2 := (hy2 (Str.ofString "other") (by decide)).trans hJ2
    obtain ⟨y9, hy9, ty, rfl⟩ := paired_get hv (i := i) (a := v) (by rw [Array.getElem?_toList]; exact hP)
    rw [List.getElem?_map] at hy9
    obtain ⟨p, hp, rfl⟩ := Option.map_eq_some_iff.mp hy9
    have hp5 := hps p (List.mem_of_getElem? hp)
    obtain ⟨z1, z2, z3⟩ := want_len (x := x) (y := y)
    cases hb : posB p x y with
    | true =>
      k_steps
      (with_reducible rename Fr _ _ _ _ => F77)
      (with_reducible rename News _ _ _ _ => N77)
      refine fe_same F77 N77 (fun p hp => hp) ⟨rfl, hg2, he2, ?_⟩
      rw [List.take_add_one, hp, List.all_append, hJ3]
      simp [hb]
    | false =>
      k_steps
      simp only [FE]
      k_steps
      rename_i kF kN _ _
      have hf : (ps.all fun p => posB p x y) = false := by
        rw [Bool.eq_false_iff]
        intro hq
        have := List.all_eq_true.mp hq p (List.mem_of_getElem? hp)
        rw [hb] at this
        cases this
      rw [hf] at ret
      exact ret _ _ kF fun q hq => kN q (List.mem_append_left _ hq)
  · rintro m₁ news' h tk ⟨rfl, hJ1, hJ2, hJ3⟩ F1' N1
    have F1 : Fr g' L' h m₁ := F1'
    clear F1'
    k_steps
    rename_i kF kN _ _
    have hl : ps.take its.size = ps := List.take_of_length_le (by
      have := hv.length
      rw [List.length_map, Array.length_toList] at this
      exact Nat.le_of_eq this.symm)
    rw [hl] at hJ3
    rw [hJ3] at ret
    exact ret _ _ kF kN
end
end Mine
end
section
open PySem PySem.W PySem.Calls PyProof.Rows PyProof.V PySem.Spec
set_option maxRecDepth 100000
set_option maxHeartbeats 0
namespace Mine
theorem fillKs (h : Heap) (w : World) : PySem.Challenge.rw_sn0103_01 = PySem.Challenge.rw_sn0103_01 ∧ (K w.params).In h = (K w.params).In h := by
  k_fill
  exact ⟨rfl, rfl⟩
local macro_rules | `(tactic| walk_at $s:str) => `(tactic| k_extra $s)
local macro_rules | `(tactic| k_all) => `(tactic| assumption)
noncomputable def okAt (ps : List (List Nat)) (cs : List Int) (i j : Nat) : Bool := i == j || ((ps.all fun p => posB p i j) == decide (cs.getD i 0 > cs.getD j 0))
noncomputable def inOrd (ps : List (List Nat)) (cs : List Int) : Bool := (List.range 5).all fun i => (List.range 5).all fun j => okAt ps cs i j
theorem okAt_no {ps : List (List Nat)} {cs : List Int} {i j : Nat} (h : (i : Int) ≠ j) (c : ((ps.all fun p => posB p i j) != decide (cs.getD j 0 < cs.getD i 0)) = true) : okAt ps cs i j = false := by
  unfold okAt
  have h1 : (i == j) = false := by
    rw [beq_eq_false_iff_ne]
    rintro rfl
    exact h rfl
  rw [h1, Bool.false_or]
  simpa [bne] using c
theorem okAt_yes {ps : List (List Nat)} {cs : List Int} {i j : Nat} (c : ((ps.all fun p => posB p i j) != decide (cs.getD j 0 < cs.getD i 0)) = false) : okAt ps cs i j = true := by
  unfold okAt
  have : ((ps.all fun p => posB p i j) == decide (cs.getD i 0 > cs.getD j 0)) = true := by simpa [bne] using c
  rw [this, Bool.or_true]
theorem okAt_same {ps : List (List Nat)} {cs : List Int} {i j : Nat} (c : (i : Int) = j) : okAt ps cs i j = true := by
  have : i = j := by omega
  subst this
  unfold okAt
  simp
theorem inOrd_no {ps : List (List Nat)} {cs : List Int} {i j : Nat} (hi : i < 5) (hj : j < 5) (h : okAt ps cs i j = false) : inOrd ps cs = false := by
  rw [Bool.eq_false_iff]
  intro hq
  have := List.all_eq_true.mp (List.all_eq_true.mp hq i (List.mem_range.mpr hi)) j (List.mem_range.mpr hj)
  rw [h] at this
  cases this
section
variable {w : World} {mean : ExcName → Option Value} {mg mb : Str → Option Value} {dp un : Nat} {gd : Option (List Code)} {cn : Str} {cs : Scope} {a : Addr} {ccd : Value} {cl : List (Str × Addr)} {outer : List Env} {A₀ : Around} {base h₀ : Heap} {L : Addr} {m : Str → Option Value} {news : List (Addr × Obj)} {s : Shared} {Q E : Value → Shared → Prop}
theorem inorder_call {LD CD : Addr} {oc : Obj} {its cits : Array Value} {n n2 : Nat} {ps : List (List Nat)} {ks : List Int} (B : Below A₀ base outer h₀) (F : Fr h₀ L s.heap m) (X : (K w.params).In h₀) (N : News h₀ L s.heap news) (T : Top qV (looseW qV looseV) mean mg mb h₀) (hk : cs.kind = .function)
    (hm : (LD, W.listOf its n) ∈ news) (hv : Paired IsStr its.toList (ps.map pathS)) (hps : ∀ p ∈ ps, p ∈ P5) (hc : (CD, oc) ∈ news) (ho1 : oc.cls = .type "list") (ho2 : oc.data = .seq cits n2) (hcv : Paired IsInt cits.toList ks) (hkl : ks.length = 5) (hd : dp + 8 < recursionLimit) (hu : un + 8 * 8 < cLine)
    (ret : ∀ h' tk', Fr h₀ L h' m → News h₀ L h' news → Q (.bool (inOrd ps ks)) { s with heap := h', toks := tk' }) :
    wpAny (model rwP w) (ktrTop dp un gd cn cs L a ccd cl outer) (call (.ref 324) [.ref LD, .ref CD]) Q E s := by
  have citem : ∀ i, i < 5 → ∃ t, cits[i]? = some (.int (ks.getD i 0) t) := fun i hi => by
    obtain ⟨b, hb, t, e⟩ := paired_get hcv (i := i) (a := cits[i]'(by have := hcv.length; rw [Array.length_toList] at this; omega)) (by simp)
    refine ⟨t, ?_⟩
    rw [List.getD_eq_getElem?_getD, hb]
    rw [Option.getD_some, ← e]
    simp
  k_with_none
  k_with "eval Name" => ((with_reducible show wpAny _ _ (eval (Expr.Name _ _) (envOf _ _ _ _ _)) _ _ _); (refine ld (by with_reducible assumption) (by with_reducible assumption) ?_))
  k_with "call ref" => (k_here; (with_reducible show wpAny _ _ (call (Value.ref 317) _ _) _ _ _); k_dflt (refine' always_call ?k1 ?k2 ?k3 ?k4 ?k5 ?kK ?ka ?kb ?kc ?kx ?ky ?kd ?ke ?_; (case k1 => k_asm); (case k2 => k_asm); (case k3 => k_asm); (case k4 => k_asm); (case k5 => k_asm); (case kK => first | exact rfl | assumption); (case ka => k_mem); (case kb => assumption); (case kc => assumption); (case kx => assumption); (case ky => assumption); (case kd => (change _ + 4 < _; ktr_room)); (case ke => (change _ + 8 * 4 < _; ktr_units))); intro _ _ _ _)
  k_with "subscriptTail" => (k_here; (with_reducible show wpAny _ _ (subscriptTail _ _ (Value.ref _) (Value.int _ _)) _ _ _); k_dflt (refine' item_lst2 ?k1 ?k2 ?k6 ?k7 ?k3 ?k4 ?k5 ?_; (case k1 => k_asm); (case k2 => k_mem); (case k6 => assumption); (case k7 => assumption); (case k5 => assumption); (case k3 => omega); (case k4 => omega); k_whole))
  refine wpAny_call ?_
  k_dflt ktr_enter
  rename_i g' L' h' FG F' N' B' X' T'
  repeat (fail_if_success (with_reducible show wpAny _ _ (exec (Stmt.For _ _ _ _ _) _) _ _ _)); (first | (k_unfold; (try dsimp only)) | (k_end; wrow_close) | walk1 | (dsimp only; walk1))
  k_here
  k_dflt (refine for_J (by k_asm) ?_)
  repeat (fail_if_success (with_reducible show wpAny _ _ (call (Value.type "enumerate") _) _ _ _)); (first | (k_unfold; (try dsimp only)) | (k_end; wrow_close) | walk1 | (dsimp only; walk1))
  refine src_enumStr (by rfl) F' N' (by decide +kernel) (av := []) (fun _ h => nomatch h) ?_
  intro I1 h1 k1 S1
  refine ⟨_, _, _, _, _, S1 _ _ _, fun i m₁ l => l = news ∧ m₁ (Str.ofString "listings") = some (.ref LD) ∧ m₁ (Str.ofString "classes") = some (.ref CD) ∧ (((List.range 5).take i).all fun i => (List.range 5).all fun j => okAt ps ks i j) = true, ⟨rfl, by with_unfolding_all rfl, by with_unfolding_all rfl, rfl⟩, ?_, ?_⟩
  · rintro i v m₁ news₁ h tk own hi ⟨T9, vals, rfl, ⟨t, x, hx, rfl⟩, hT⟩ ⟨rfl, hJ1, hJ2, hJ3⟩ hown F1 N1
    refine asgF_pair (by rfl) hT F1 N1 (by rfl) (by rfl) (by rfl) (by decide) ?_
    intro h2 tk2 m2 F2' N2 hx2 hy2 hz2
    have F2 : Fr g' L' h2 m2 := F2'
    clear F2'
    have hi5 : i < 5 := hi
    obtain ⟨cx, ux, hcx, rfl⟩ := hx
    have hxe : ({ cps := #[cx] } : Str) = nameS i := sign_name hi5 hcx
    rw [hxe] at hy2
    have hl2 := (hz2 (Str.ofString "listings") (by decide) (by decide)).trans hJ1
    have hc2 := (hz2 (Str.ofString "classes") (by decide) (by decide)).trans hJ2
    repeat (fail_if_success (with_reducible show wpAny _ _ (exec (Stmt.For _ _ _ _ _) _) _ _ _)); (first | (k_unfold; (try dsimp only)) | (k_end; wrow_close) | walk1 | (dsimp only; walk1))
    k_here
    k_dflt (refine for_J (by k_asm) ?_)
    repeat (fail_if_success (with_reducible show wpAny _ _ (call (Value.type "enumerate") _) _ _ _)); (first | (k_unfold; (try dsimp only)) | (k_end; wrow_close) | walk1 | (dsimp only; walk1))
    refine src_enumStr (by rfl) F2 N2 (by decide +kernel) (av := []) (fun _ h => nomatch h) ?_
    intro I3 h3 k3 S3
    refine ⟨_, _, _, _, _, S3 _ _ _, fun j m₁ l => l = news₁ ++ own ∧ m₁ (Str.ofString "listings") = some (.ref LD) ∧ m₁ (Str.ofString "classes") = some (.ref CD) ∧ m₁ (Str.ofString "one") = some (.int i t) ∧ m₁ (Str.ofString "name") = some (.str (nameS i) ux) ∧ (((List.range 5).take j).all fun j => okAt ps ks i j) = true, ⟨rfl, hl2, hc2, hx2, hy2, rfl⟩, ?_, ?_⟩
    · rintro j v m₃ news₃ h tk own3 hj ⟨T10, vals3, rfl, ⟨t3, x3, hx3, rfl⟩, hT3⟩ ⟨rfl, hK1, hK2, hK4, hK5, hK3⟩ hown3 F3 N3
      refine asgF_pair (by rfl) hT3 F3 N3 (by rfl) (by rfl) (by rfl) (by decide) ?_
      intro h4 tk4 m4 F4' N4 hx4 hy4 hz4
      have F4 : Fr g' L' h4 m4 := F4'
      clear F4'
      have hj5 : j < 5 := hj
      obtain ⟨cx3, ux3, hcx3, rfl⟩ := hx3
      have hxe3 : ({ cps := #[cx3] } : Str) = nameS j := sign_name hj5 hcx3
      rw [hxe3] at hy4
      have hl4 := (hz4 (Str.ofString "listings") (by decide) (by decide)).trans hK1
      have hc4 := (hz4 (Str.ofString "classes") (by decide) (by decide)).trans hK2
      have ho4 := (hz4 (Str.ofString "one") (by decide) (by decide)).trans hK4
      have hn4 := (hz4 (Str.ofString "name") (by decide) (by decide)).trans hK5
      have N5 : News g' L' h4 ((LD, W.listOf its n) :: (CD, oc) :: ((news₁ ++ own) ++ own3)) := fun p hp => N4 p (by
        simp only [List.mem_cons] at hp
        rcases hp with rfl | rfl | hp
        · simp [hm]
        · simp [hc]
        · exact hp)
      obtain ⟨ti, hti⟩ := citem i hi5
      obtain ⟨tj, htj⟩ := citem j hj5
      have hti' : cits[((i : Nat) : Int).toNat]? = some (.int (ks.getD i 0) ti) := hti
      have htj' : cits[((j : Nat) : Int).toNat]? = some (.int (ks.getD j 0) tj) := htj
      clear N4
      k_steps
      · rename_i c1 _ _ _ _ c2
        simp only [FE]
        k_steps
        rename_i kF kN _ _
        rw [inOrd_no hi5 hj5 (okAt_no c1 c2)] at ret
        exact ret _ _ kF fun q hq => kN q (by simp [hq])
      · rename_i c1 _ _ F6 N6 c2
        refine fe_same F6 N6 (fun q hq => List.mem_cons_of_mem _ (List.mem_cons_of_mem _ hq)) ⟨rfl, hl4, hc4, ho4, hn4, ?_⟩
        rw [List.take_add_one, List.getElem?_range hj5, List.all_append, hK3]
        simp [okAt_yes c2]
      · rename_i c1
        refine fe_same F4 N5 (fun q hq => List.mem_cons_of_mem _ (List.mem_cons_of_mem _ hq)) ⟨rfl, hl4, hc4, ho4, hn4, ?_⟩
        rw [List.take_add_one, List.getElem?_range hj5, List.all_append, hK3]
        simp [okAt_same c1]
    · rintro m₃ news' h tk ⟨rfl, hK1, hK2, hK4, hK5, hK3⟩ F3' N3
      have F3 : Fr g' L' h m₃ := F3'
      clear F3'
      k_steps
      refine fe_same F3 N3 (fun q hq => hq) ⟨rfl, hK1, hK2, ?_⟩
      have e5 : (List.range 5).take (Str.ofString "abcde").cps.size = List.range 5 := List.take_of_length_le (by decide)
      rw [e5] at hK3
      rw [List.take_add_one, List.getElem?_range hi5, List.all_append, hJ3]
      simpa using hK3
  · rintro m₁ news' h tk ⟨rfl, hJ1, hJ2, hJ3⟩ F1' N1
    have F1 : Fr g' L' h m₁ := F1'
    clear F1'
    have e5 : (List.range 5).take (Str.ofString "abcde").cps.size = List.range 5 := List.take_of_length_le (by decide)
    rw [e5] at hJ3
    have hJ3 : inOrd ps ks = true := hJ3
    rw [hJ3] at ret
    k_steps
    rename_i kF kN _ _
    exact ret _ _ kF kN
end
end Mine
end
section
open PySem PySem.W PySem.Calls PyProof.Rows PyProof.V PySem.Spec
set_option maxRecDepth 100000
set_option maxHeartbeats 0
namespace Mine
theorem fillKl (h : Heap) (w : World) : PySem.Challenge.rw_sn0103_01 = PySem.Challenge.rw_sn0103_01 ∧ (K w.params).In h = (K w.params).In h := by
  k_fill
  exact ⟨rfl, rfl⟩
local macro_rules | `(tactic| walk_at $s:str) => `(tactic| k_extra $s)
local macro_rules | `(tactic| k_all) => `(tactic| assumption)
section
variable {w : World} {mean : ExcName → Option Value} {mg mb : Str → Option Value} {dp un : Nat} {gd : Option (List Code)} {cn : Str} {cs : Scope} {a : Addr} {ccd : Value} {cl : List (Str × Addr)} {outer : List Env} {A₀ : Around} {base h₀ : Heap} {L : Addr} {m : Str → Option Value} {news : List (Addr × Obj)} {s : Shared} {Q E : Value → Shared → Prop}
theorem headers_call {GD : Addr} {gs : Array Value} {n : Nat} {ds : List (Str × Str)} (B : Below A₀ base outer h₀) (F : Fr h₀ L s.heap m) (X : (K w.params).In h₀) (N : News h₀ L s.heap news) (T : Top qV (looseW qV looseV) mean mg mb h₀) (hk : cs.kind = .function)
    (hm : (GD, W.listOf gs n) ∈ news) (hv : Paired (TupSS news) gs.toList ds) (hnm : ∀ d ∈ ds, d.1 ∈ names11 ∧ d.2 ∈ names11) (hd : dp + 8 < recursionLimit) (hu : un + 8 * 8 < cLine)
    (ret : ∀ I dx kt h' tk', Fr h₀ L h' m → News h₀ L h' ((I, instObj 169 dx) :: (dx, hdObj w.params GD kt) :: news) → (∀ q ∈ news, q.1 < dx) → dx < I → Q (.ref I) { s with heap := h', toks := tk' }) :
    wpAny (model rwP w) (ktrTop dp un gd cn cs L a ccd cl outer) (call (.ref 169) [.ref GD]) Q E s := by
  obtain ⟨R, hRd⟩ : ∃ R, R = news := ⟨_, rfl⟩
  have N1 : News h₀ L s.heap ((GD, W.listOf gs n) :: R) := fun p hp => by
    rcases List.mem_cons.mp hp with rfl | hp
    · exact N _ hm
    · exact N p (hRd ▸ hp)
  clear N
  refine call_cls (fI := 63) F X N1 ?k4 ?k5 ?k6 ?_
  case k4 => k_is
  case k5 => k_is
  case k6 => k_is
  intro I dx h1 F1 N2 l1 l2
  (try k_lt l1)
  (try k_lt2 l2)
  (try k_sweep)
  have X1 : (K w.params).In h1 := X.keeps F1.keep
  k_dflt (refine' code_def ?k1 ?k2 ?k3 ?k4 ?k5 ?kA ?kF ?kK ?k6 ?k7 ?k8 ?k9 ?kB ?_ ?c2 ?c3 ?c4 ?c5; (case kA => exact rfl); (case kF => exact rfl); (case kK => assumption); (case k1 => k_asm); (case k2 => k_asm); (case k3 => k_asm); (case k4 => k_asm); (case k5 => k_asm); (case k6 => k_is); (case k7 => k_is); (case k8 => ktr_room); (case k9 => exact binds_K X1 rfl (by k_is) rfl rfl rfl); (case c5 => decide); (case kB => exact locs rfl); (case c2 => exact rfl); (case c3 => exact rfl); (case c4 => exact rfl); k_whole; intro g' L' h' FG' F' N' B' X' T'; (try dsimp only); (try k_fold))
  k_with "exec For Tuple Name cons nil" => (k_here; k_dflt (refine for_J (by k_asm) ?_))
  k_with "eval Name" => ((with_reducible show wpAny _ _ (eval (Expr.Name _ _) (envOf _ _ _ _ _)) _ _ _); (refine ld (by with_reducible assumption) (by with_reducible assumption) ?_))
  k_with "call ref" => (k_here; (with_reducible show wpAny _ _ (call (Value.ref 70) _ _) _ _ _); k_dflt (refine' conv_call ?k1 ?k2 ?k3 ?k4 ?k5 ?kK ?ko ?kd ?ku ?_; (case k1 => k_asm); (case k2 => k_asm); (case k3 => k_asm); (case k4 => k_asm); (case k5 => k_asm); (case kK => first | exact rfl | assumption); (case ko => assumption); (case kd => (change _ + 2 < _; ktr_room)); (case ku => exact (show un + 1 + 3 + 8 * 2 < cLine by omega))); intro _ _ _ _ _)
  k_steps
  rename_i tk4 h4 F4 N4
  have hv' : ∀ od, Paired (TupOf (fun vs (d : Str × Str) => ∃ t u, vs = #[.str d.1 t, .str d.2 u]) ((I, instObj 169 dx) :: (dx, od) :: (GD, W.listOf gs n) :: R)) gs.toList ds := fun od => paired_mono (fun v d x => by
    obtain ⟨T, t, u, e1, e2⟩ := x
    exact ⟨T, _, e1, List.mem_cons_of_mem _ (List.mem_cons_of_mem _ (List.mem_cons_of_mem _ (hRd ▸ e2))), t, u, rfl⟩) hv
  refine src_tups (by rfl) F4 N4 (by k_mem) (hv' _) (av := []) (fun _ h => nomatch h) fun h5 up5 S5 => ?_
  refine ⟨_, _, _, _, _, S5 _ _ _, fun i m₁ l => m₁ (Str.ofString "self") = some (.ref I) ∧ l = ((I, instObj 169 dx) :: (dx, _) :: (GD, W.listOf gs n) :: R), ⟨by with_unfolding_all rfl, rfl⟩, ?_, ?_⟩
  · rintro i v m₁ news₁ h tk own hi ⟨T, vs, rfl, hT, hG⟩ ⟨hJ1, rfl⟩ hown F1 N1
    obtain ⟨d, hd1, t, u, rfl⟩ := hG hi
    obtain ⟨d1, d2⟩ := hnm d (List.mem_of_getElem? hd1)
    refine asgF_pair (by rfl) hT F1 N1 (by rfl) (by rfl) (by rfl) (by decide) ?_
    intro h2 tk2 m2 F2' N2' hx2 hy2 hz2
    have F2 : Fr g' L' h2 m2 := F2'
    have N2 : News g' L' h2 (((I, instObj 169 dx) :: (dx, _) :: (GD, W.listOf gs n) :: R) ++ own) := N2'
    clear F2' N2'
    have hs2 := (hz2 (Str.ofString "self") (by decide) (by decide)).trans hJ1
    clear N1
    k_steps
    exact fe_same (by assumption) (by assumption) (fun p hp => hp) ⟨hs2, rfl⟩
  · rintro m₁ news' h tk ⟨hJ1, rfl⟩ F1 N1
    k_steps
    rename_i kF kN _ _
    subst hRd
    exact ret I dx _ _ _ kF (news_drop3 kN) (fun q hq => ktn_ltOf l1.2 q hq) l2
end
end Mine
end
section
open PySem PySem.W PySem.Calls PyProof.Rows PyProof.V PySem.Spec
set_option maxRecDepth 100000
set_option maxHeartbeats 0
namespace Mine
theorem fillKm (h : Heap) (w : World) : PySem.Challenge.rw_sn0103_01 = PySem.Challenge.rw_sn0103_01 ∧ (K w.params).In h = (K w.params).In h := by
  k_fill
  exact ⟨rfl, rfl⟩
local macro_rules | `(tactic| walk_at $s:str) => `(tactic| k_extra $s)
local macro_rules | `(tactic| k_all) => `(tactic| assumption)
theorem low_fit : ∀ x ∈ names11, Builtin.Str.tooLong (Txt.lower x).length = false := by decide +kernel
theorem low11 : ∀ x ∈ names11, Txt.lower x ∈ names11 := by decide +kernel
section
variable {w : World} {mean : ExcName → Option Value} {mg mb : Str → Option Value} {dp un : Nat} {gd : Option (List Code)} {cn : Str} {cs : Scope} {a : Addr} {ccd : Value} {cl : List (Str × Addr)} {outer : List Env} {A₀ : Around} {base h₀ : Heap} {L : Addr} {m : Str → Option Value} {news : List (Addr × Obj)} {s : Shared} {Q E : Value → Shared → Prop}
noncomputable def wonBy (who : Str) (ds : List (Str × Str)) : List Str := (ds.filter fun d => decide (Txt.lower d.1 = Txt.lower who)).map (·.2)
theorem wonBy_yes {who : Str} {ds : List (Str × Str)} {i : Nat} {d : Str × Str} (h : ds[i]? = some d) (c : Txt.lower d.1 = Txt.lower who) : wonBy who (ds.take (i + 1)) = wonBy who (ds.take i) ++ [d.2] := by
  unfold wonBy
  rw [List.take_add_one, h, List.filter_append, List.map_append]
  simp [c]
theorem wonBy_no {who : Str} {ds : List (Str × Str)} {i : Nat} {d : Str × Str} (h : ds[i]? = some d) (c : ¬ Txt.lower d.1 = Txt.lower who) : wonBy who (ds.take (i + 1)) = wonBy who (ds.take i) := by
  unfold wonBy
  rw [List.take_add_one, h, List.filter_append, List.map_append]
  simp [c]
theorem getall_call {I dx GD : Addr} {kt u : Tok} {gs : Array Value} {n : Nat} {ds : List (Str × Str)} {who : Str} (B : Below A₀ base outer h₀) (F : Fr h₀ L s.heap m) (X : (K w.params).In h₀) (N : News h₀ L s.heap news) (T : Top qV (looseW qV looseV) mean mg mb h₀) (hk : cs.kind = .function)
    (hI : (I, instObj 169 dx) ∈ news) (hdx : (dx, hdObj w.params GD kt) ∈ news)
    (hm : (GD, W.listOf gs n) ∈ news) (hv : Paired (TupSS news) gs.toList ds) (hnm : ∀ d ∈ ds, d.1 ∈ names11 ∧ d.2 ∈ names11) (hw : who ∈ names11) (hlen : ds.length ≤ 11) (hd : dp + 8 < recursionLimit) (hu : un + 8 * 8 < cLine)
    (ret : ∀ D ys h' tk', Fr h₀ L h' m → News h₀ L h' ((D, LCg.lst ys) :: news) → (∀ q ∈ news, q.1 < D) → Paired (fun v x => ∃ t, v = .str x t) ys (wonBy who ds) → Q (.ref D) { s with heap := h', toks := tk' }) :
    wpAny (model rwP w) (ktrTop dp un gd cn cs L a ccd cl outer) (call (.ref 108) [.ref I, .str who u]) Q E s := by
  obtain ⟨R, hRd⟩ : ∃ R, R = news := ⟨_, rfl⟩
  have N1 : News h₀ L s.heap ((I, instObj 169 dx) :: (dx, hdObj w.params GD kt) :: (GD, W.listOf gs n) :: R) := fun p hp => by
    simp only [List.mem_cons] at hp
    rcases hp with rfl | rfl | rfl | hp
    · exact N _ hI
    · exact N _ hdx
    · exact N _ hm
    · exact N p (hRd ▸ hp)
  clear N
  k_with_none
  k_with "eval Name" => ((with_reducible show wpAny _ _ (eval (Expr.Name _ _) (envOf _ _ _ _ _)) _ _ _); (refine ld (by with_reducible assumption) (by with_reducible assumption) ?_))
  k_with "call ref" => (k_here; (with_reducible show wpAny _ _ (call (Value.ref 70) _ _) _ _ _); k_dflt (refine' conv_call ?k1 ?k2 ?k3 ?k4 ?k5 ?kK ?ko ?kd ?ku ?_; (case k1 => k_asm); (case k2 => k_asm); (case k3 => k_asm); (case k4 => k_asm); (case k5 => k_asm); (case kK => first | exact rfl | assumption); (case ko => first | assumption | exact low11 _ (by assumption)); (case kd => (change _ + 2 < _; ktr_room)); (case ku => (change _ + 8 * 2 < _; ktr_units))); intro _ _ _ _ _)
  k_with "call builtin:str.lower" => (k_here; (with_reducible show wpAny _ _ (call (Value.builtin "str.lower") [Value.str _ _]) _ _ _); (refine PySem.SC.lower (low_fit _ (by assumption)) ?_))
  k_with "eval ListComp" => (k_here; k_dflt (refine listComp1 (by k_asm) (by rfl) (by rfl) (by decide) (by decide) ?_))
  refine wpAny_call ?_
  k_dflt (refine' code_defC ?k1 ?k2 ?k3 ?k4 ?k5 ?kA ?kF ?kK ?k6 ?k7 ?k8 ?k9 ?kB ?kD ?_ ?c2 ?c3 ?c4; (case kA => exact rfl); (case kF => exact rfl); (case kK => assumption); (case k1 => k_asm); (case k2 => k_asm); (case k3 => k_asm); (case k4 => k_asm); (case k5 => k_asm); (case k6 => k_is); (case k7 => k_is); (case k8 => ktr_room); (case k9 => exact BindsTo.of_eq rfl); (case kB => exact rfl); (case kD => decide +kernel); (case c2 => exact rfl); (case c3 => exact rfl); (case c4 => exact rfl); k_whole; intro g' L' h' tk' cells' FG' F' N' Y' B' X' T' l1; k_cells Y'; (try simp only [List.cons_append, List.nil_append] at N'); (try dsimp only); (try k_fold); (try k_lt l1))
  have hne1 : ∀ p ∈ R, p.1 ≠ L' + 1 := fun p hp => Nat.ne_of_lt (Nat.lt_succ_of_lt (ktn_ltOf l1.2.2.2 p hp))
  k_steps
  rename_i h9 o9 F9 N9 d9
  have hTG : Paired (fun v (d : Str × Str) => ∃ T t u, v = .ref T ∧ (T, tupObj #[.str d.1 t, .str d.2 u]) ∈ R) gs.toList ds := paired_mono (fun v d x => by rw [hRd]; exact x) hv
  refine src_list (by rfl) F9 N9 (ax := GD) (its := gs) (isList_of N9 (by k_mem) rfl rfl) (.inr ⟨_, by k_mem⟩) (av := []) (fun _ h => nomatch h) ?_
  intro h5 k5 S5
  refine ⟨_, _, _, S5 _ _, ?_, fun i ys l => l = (L' + 1, o9) :: (I, instObj 169 dx) :: (dx, hdObj w.params GD kt) :: (GD, W.listOf gs n) :: R ∧ Paired (fun v x => ∃ t, v = .str x t) ys (wonBy who (ds.take i)), ⟨rfl, .nil⟩, ?_, ?_⟩
  · have := hTG.length
    rw [Array.length_toList] at this
    rw [this]
    exact Nat.le_trans hlen (by decide)
  · rintro i v ys news₁ C oC mC D h tk own E' hi hP ⟨rfl, hJ⟩ F1 N1 hC hCD off
    obtain ⟨d, hd1, T0, t, u9, rfl, hT0⟩ := paired_get hTG (i := i) (a := v) (by rw [Array.getElem?_toList]; exact hP)
    obtain ⟨d1, d2⟩ := hnm d (List.mem_of_getElem? hd1)
    refine asg_name F1 N1 hC (off1 hCD off) (by rfl) (by rfl) (by rfl) ?_
    intro h2 tk2 oC2 mC2 F2 N2 hC2 hx2 hy2
    have N3 : News g' L' h2 ((T0, tupObj #[.str d.1 t, .str d.2 u9]) :: (C, oC2) :: (D, LCg.lst ys) :: (((L' + 1, o9) :: (I, instObj 169 dx) :: (dx, hdObj w.params GD kt) :: (GD, W.listOf gs n) :: R) ++ own)) := fun p hp => N2 p (by
      simp only [List.mem_cons, List.cons_append, List.mem_append] at hp ⊢
      rcases hp with rfl | hp
      · simp [hT0]
      · exact hp)
    clear N2 N1
    k_steps
    · rename_i c1
      exact ce_of F2 N3 (by k_mem) (by k_mem) (fun p hp => List.mem_cons_of_mem _ (List.mem_cons_of_mem _ (List.mem_cons_of_mem _ hp))) hC2 ⟨rfl, by rw [wonBy_yes hd1 (eq_of_beq c1)]; exact Paired.snoc hJ ⟨_, rfl⟩⟩
    · rename_i c1
      exact ce_of F2 N3 (by k_mem) (by k_mem) (fun p hp => List.mem_cons_of_mem _ (List.mem_cons_of_mem _ (List.mem_cons_of_mem _ hp))) hC2 ⟨rfl, by rw [wonBy_no hd1 (ne_of_beq_false c1)]; exact hJ⟩
  · rintro ys news' D h tk ⟨rfl, hJ⟩ F1 N1 off hlt
    k_steps
    rename_i kF kN _ _
    have hn : ds.take gs.size = ds := List.take_of_length_le (by have := hTG.length; rw [Array.length_toList] at this; exact Nat.le_of_eq this.symm)
    rw [hn] at hJ
    subst hRd
    exact ret D ys _ _ kF (fun p hp => kN p (by simp only [List.mem_cons] at hp ⊢; rcases hp with h | h <;> simp [h])) (fun q hq => hlt q (by simp [hq])) hJ
end
end Mine
end
section
open PySem PySem.W PySem.Calls PyProof.Rows PyProof.V PySem.Spec
set_option maxRecDepth 100000
set_option maxHeartbeats 0
namespace Mine
theorem fillKf (h : Heap) (w : World) : PySem.Challenge.rw_sn0103_01 = PySem.Challenge.rw_sn0103_01 ∧ (K w.params).In h = (K w.params).In h := by
  k_fill
  exact ⟨rfl, rfl⟩
local macro_rules | `(tactic| walk_at $s:str) => `(tactic| k_extra $s)
local macro_rules | `(tactic| k_all) => `(tactic| assumption)
theorem ints_at : ∀ {vs : List Value} {ns : List Int} {x : Value}, IntsAre vs ns → x ∈ vs → ∃ nx tx, x = .int nx tx
  | _, _, _, .nil, h => nomatch h
  | _, _, _, .cons _ _ hr, h => by
    rcases List.mem_cons.mp h with rfl | h
    · exact ⟨_, _, rfl⟩
    · exact ints_at hr h
section
variable {w : World} {mean : ExcName → Option Value} {mg mb : Str → Option Value} {dp un : Nat} {gd : Option (List Code)} {cn : Str} {cs : Scope} {a : Addr} {ccd : Value} {cl : List (Str × Addr)} {outer : List Env} {A₀ : Around} {base h₀ : Heap} {L : Addr} {m : Str → Option Value} {news : List (Addr × Obj)} {s : Shared} {Q E : Value → Shared → Prop}
theorem draws_call {l : Addr} {xs : List Value} {ns : List Int} (B : Below A₀ base outer h₀) (F : Fr h₀ L s.heap m) (X : (K w.params).In h₀) (N : News h₀ L s.heap news) (T : Top qV (looseW qV looseV) mean mg mb h₀) (hk : cs.kind = .function)
    (hl : h₀.IsList l xs.toArray) (hi : IntsAre xs ns) (hn : ns.length ≤ 63) (hd : dp + 2 < recursionLimit) (hu : un + 8 * 2 < cLine)
    (ret : ∀ D o h' tk' ys ds n, Fr h₀ L h' m → News h₀ L h' ((D, o) :: news) → o.cls = .type "list" → o.data = .seq (List.toArray ys) n → Paired IsInt ys ds → ds.length = 10 → (∀ d ∈ ds, 0 ≤ d) → (∀ p ∈ news, p.1 < D) → Q (.ref D) { s with heap := h', toks := tk' }) :
    wpAny (model rwP w) (ktrTop dp un gd cn cs L a ccd cl outer) (call (.ref 257) [.ref l]) Q E s := by
  k_with_none
  k_with "eval Name" => ((with_reducible show wpAny _ _ (eval (Expr.Name _ _) (envOf _ _ _ _ _)) _ _ _); (with_unfolding_all refine ld (by assumption) (by assumption) ?_))
  k_with "exec For Tuple Call" => (k_here; k_dflt (refine for_J (by k_asm) ?_))
  refine wpAny_call ?_
  k_dflt ktr_enter
  rename_i g' L' h' FG F' N' B' X' T'
  have hl' : g'.IsList l xs.toArray := hl.at fun o e => FG.keep _ _ e
  k_steps
  rename_i S0 h2 l1 h3 D1 ws h4 F4 N4 hI hC hL l4
  obtain ⟨its0, N5, hs0, hp0⟩ : ∃ its0 : Array Value, News g' L' h4 ((S0, W.listOf its0 0) :: (D1, W.listOf ws.toArray 0) :: news) ∧ its0.size = 10 ∧ Paired IsInt its0.toList [526, 1196, 254, 2380, 232, 1149, 1958, 160, 1846, 2778] :=
    ⟨_, news_swap N4, rfl, .cons ⟨_, rfl⟩ (.cons ⟨_, rfl⟩ (.cons ⟨_, rfl⟩ (.cons ⟨_, rfl⟩ (.cons ⟨_, rfl⟩ (.cons ⟨_, rfl⟩ (.cons ⟨_, rfl⟩ (.cons ⟨_, rfl⟩ (.cons ⟨_, rfl⟩ (.cons ⟨_, rfl⟩ .nil)))))))))⟩
  have hSD : S0 < D1 := by first | exact l4.1 | (refine l4 _ ?_; simp)
  clear N4
  refine src_enum (by rfl) F4 N5 (l := D1) (its := ws.toArray) ?_ ?_ (av := [S0]) ?_ ?_
  · exact isList_of N5 (List.mem_cons_of_mem _ List.mem_cons_self) rfl rfl
  · exact .inr ⟨_, List.mem_cons_of_mem _ List.mem_cons_self⟩
  · intro b hb
    rw [List.mem_singleton.mp hb]
    exact ⟨Heap.lt_size (N5 (S0, W.listOf its0 0) List.mem_cons_self).1, Nat.ne_of_lt hSD⟩
  intro I h5 k5 S1
  refine ⟨_, _, _, _, _, S1 _ _ _, fun i m₁ l => m₁ (Str.ofString "draws") = some (.ref S0) ∧ ∃ o its n ds, l = (S0, o) :: (D1, W.listOf ws.toArray 0) :: news ∧ o.cls = .type "list" ∧ o.data = .seq its n ∧ Paired IsInt its.toList ds ∧ ds.length = 10 ∧ ∀ d ∈ ds, 0 ≤ d, ⟨by with_unfolding_all rfl, _, its0, 0, _, rfl, rfl, rfl, hp0, rfl, by decide⟩, ?_, ?_⟩
  · rintro i v m₁ news₁ h tk own hi' ⟨T, vals, rfl, ⟨t, x, hx, rfl⟩, hT⟩ ⟨hJ1, o, its, n, ds, rfl, ho1, ho2, hJ2, hJ3, hJ4⟩ hown F1 N1
    refine asgF_pair (by rfl) hT F1 N1 (by rfl) (by rfl) (by rfl) (by decide) ?_
    intro h2 tk2 m2 F2 N2 hx2 hy2 hz2
    have hs2 := (hz2 (Str.ofString "draws") (by decide) (by decide)).trans hJ1
    obtain ⟨nx, tx, rfl⟩ : ∃ nx tx, x = .int nx tx := ints_at hI (List.mem_of_getElem? (by simpa using hx))
    obtain ⟨R, hRd⟩ : ∃ R, R = ((D1, W.listOf ws.toArray 0) :: news) ++ own := ⟨_, rfl⟩
    have N3 : News g' L' h2 ((S0, o) :: R) := by rw [hRd]; exact N2
    clear N2 N1
    have f10 : 0 ≤ (i : Int).fmod 10 ∧ (i : Int).fmod 10 < 10 := by
      rw [Int.fmod_eq_emod_of_nonneg _ (by decide)]
      omega
    have hsz : its.size = 10 := by
      have := hJ2.length
      simpa [hJ3] using this
    obtain ⟨k, hk⟩ : ∃ k, k = (i : Int).fmod 10 := ⟨_, rfl⟩
    rw [← hk] at f10
    have hkl : k.toNat < its.size := by rw [hsz]; omega
    obtain ⟨dk, hdk, tk9, hdv⟩ := paired_get hJ2 (i := k.toNat) (a := its[k.toNat]) (by simp [hkl])
    k_steps
    rw [← hk]
    refine wpAny_getItem_list (isList_of N3 List.mem_cons_self ho1 ho2) f10.1 (by omega) (x := .int dk tk9) (by rw [← hdv]; exact Array.getElem?_eq_getElem hkl) ?_
    k_steps
    refine setitem_L (by assumption) N3 ?_ ho1 ho2 f10.1 (by omega) (by omega) fun h7 o' n' F7 N7 ho3 ho4 => ?_
    · intro p hp
      rw [hRd] at hp
      rcases List.mem_append.mp hp with hp | hp
      · rcases List.mem_cons.mp hp with rfl | hp
        · exact Nat.ne_of_gt hSD
        · exact Nat.ne_of_lt (l1 p hp)
      · exact hown p hp S0 (by simp)
    k_steps
    refine fe_one hRd (by assumption) (by assumption) (by k_mem) (fun p hp => by simp [hp]) ⟨hs2, o', _, n', ds.set k.toNat (dk + nx.fmod 1000000), rfl, ho3, ho4, ?_, ?_, ?_⟩
    · rw [Array.toList_setIfInBounds]
      exact paired_set hJ2 _ _ _ ⟨_, rfl⟩
    · rw [List.length_set]; exact hJ3
    · intro d hd
      rcases List.mem_or_eq_of_mem_set hd with hd | rfl
      · exact hJ4 d hd
      · have := hJ4 dk (List.mem_of_getElem? hdk)
        have : 0 ≤ nx.fmod 1000000 := by
          rw [Int.fmod_eq_emod_of_nonneg _ (by decide)]
          omega
        omega
  · rintro m₁ news' h tk ⟨hJ1, o, its, n, ds, rfl, ho1, ho2, hJ2, hJ3, hJ4⟩ F1 N1
    k_steps
    rename_i kF kN _ _
    exact ret S0 o h tk its.toList ds n kF (fun p hp => kN p (by rcases List.mem_cons.mp hp with rfl | hp <;> simp [*])) ho1 (by simpa using ho2) hJ2 hJ3 hJ4 l1
end
end Mine
end
section
open PySem PySem.W PySem.Calls PyProof.Rows PyProof.V PySem.Spec
set_option maxRecDepth 100000
set_option maxHeartbeats 0
namespace Mine
theorem fillKh (h : Heap) (w : World) : PySem.Challenge.rw_sn0103_01 = PySem.Challenge.rw_sn0103_01 ∧ (K w.params).In h = (K w.params).In h := by
  k_fill
  exact ⟨rfl, rfl⟩
theorem item0 {prog : Program} {w : World} {A : Around} {E : Value → Shared → Prop} {s : Shared} {value slice : Expr} {TT y : Str} {g : Nat} {t u : Tok} {Q : Value → Shared → Prop} (hT : TT = { cps := #[g] } ++ y)
    (h : Q (.str { cps := #[g] } s.toks) { s with toks := s.toks + 1 })
    (hs : subscripted slice false (.str TT t) (.int 0 u) = operate [.str TT t, .int 0 u] (getItem (.str TT t) (.int 0 u)) := by with_unfolding_all rfl)
    (ht : ∀ r, letTemporaryGo value (.str TT t) r = pure () := by intro _; with_unfolding_all rfl) :
    wpAny (model prog w) A (subscriptTail value slice (.str TT t) (.int 0 u)) Q E s := by
  subst hT
  have h2 : ((({ cps := #[g] } : Str) ++ y).length : Int) = 1 + y.length := by
    rw [Str.length_append]; show ((1 + y.length : Nat) : Int) = _; omega
  refine item_str (by decide) (by omega) (by omega) (fun _ => ?_) hs ht
  rw [item_hd]; exact h
local macro_rules | `(tactic| walk_at $s:str) => `(tactic| k_extra $s)
local macro_rules | `(tactic| k_all) => `(tactic| assumption)
theorem glyph_ok {g p : Nat} (hp : p < 5) (hg : isGlyph g p) : g < 128 ∨ ∃ p d, p < 5 ∧ d < 6 ∧ g = 120172 + 52 * d + p := by
  rcases hg with rfl | rfl | ⟨d, hd, rfl⟩
  · exact .inl (by omega)
  · exact .inl (by omega)
  · exact .inr ⟨p, d, hp, hd, rfl⟩
theorem b3F_is {g p : Nat} (hp : p < 5) (hg : isGlyph g p) : b3F g = { cps := #[97 + p] } := by
  have e : ∀ p, p < 5 → letterF p = { cps := #[97 + p] } := by decide +kernel
  rcases hg with rfl | rfl | ⟨d, hd, rfl⟩
  · rw [b3F_low _ (by omega), if_neg (by omega)]
  · rw [b3F_low _ (by omega), if_pos (by omega)]
    have : 65 + p + 32 = 97 + p := by omega
    rw [this]
  · rw [b3F_glyph p d hp, e p hp]
theorem occ_glyph {g p : Nat} (hp : p < 5) (hg : isGlyph g p) : Builtin.Str.occurrences (Str.ofString "abcde") (b3F g) 0 (Str.ofString "abcde").length 1 = [p] := by
  rw [b3F_is hp hg]
  have : ∀ p, p < 5 → Builtin.Str.occurrences (Str.ofString "abcde") { cps := #[97 + p] } 0 (Str.ofString "abcde").length 1 = [p] := by decide +kernel
  exact this p hp
theorem occ_sign {c : Nat} (h : c < 128 ∧ (c < 97 ∨ 101 < c) ∧ (c < 65 ∨ 90 < c)) : (Builtin.Str.occurrences (Str.ofString "abcde") (b3F c) 0 (Str.ofString "abcde").length 1).isEmpty = true := by
  rw [b3F_low c h.1, if_neg (by omega)]
  have : ∀ c, c < 128 → (c < 97 ∨ 101 < c) → (Builtin.Str.occurrences (Str.ofString "abcde") { cps := #[c] } 0 (Str.ofString "abcde").length 1).isEmpty = true := by decide +kernel
  exact this c h.1 h.2.1
section
variable {w : World} {mean : ExcName → Option Value} {mg mb : Str → Option Value} {dp un : Nat} {gd : Option (List Code)} {cn : Str} {cs : Scope} {a : Addr} {ccd : Value} {cl : List (Str × Addr)} {outer : List Env} {A₀ : Around} {base h₀ : Heap} {L : Addr} {m : Str → Option Value} {news : List (Addr × Obj)} {s : Shared} {Q E : Value → Shared → Prop}
theorem symbols_call {ds : List Int} {u : Tok} (B : Below A₀ base outer h₀) (F : Fr h₀ L s.heap m) (X : (K w.params).In h₀) (N : News h₀ L s.heap news) (T : Top qV (looseW qV looseV) mean mg mb h₀) (hk : cs.kind = .function)
    (hl : ds.length = 10) (hpos : ∀ d ∈ ds, 0 ≤ d) (hd : dp + 6 < recursionLimit) (hu : un + 8 * 6 < cLine)
    (ret : ∀ D its n h' tk', Fr h₀ L h' m → News h₀ L h' ((D, W.listOf its n) :: news) → (∀ p ∈ news, p.1 < D) → Paired IsInt its.toList (dueF ds (pairsTo 5) ++ [0]) → Q (.ref D) { s with heap := h', toks := tk' }) :
    wpAny (model rwP w) (ktrTop dp un gd cn cs L a ccd cl outer) (call (.ref 281) [.str (reportF ds (pairsTo 5)) u]) Q E s := by
  k_with_none
  k_with "subscriptTail" => (k_here; (with_reducible show wpAny _ _ (subscriptTail _ (Expr.Slice none (some _) none _) (Value.str _ _) (Value.ref _)) _ _ _); (with_reducible rename Fr _ _ _ _ => F79); (with_reducible rename News _ _ _ _ => N79); (refine slice_strN_ns (hsz := ?hsz) (s := ⟨_, _, _, _, _⟩) F79 N79 ?_); (case hsz => exact Nat.le_trans (by assumption) (show 1000 ≤ sizeLine by decide)); intro _ _ _ _ _)
  k_with "subscriptTail" => (k_here; (with_reducible show wpAny _ _ (subscriptTail _ (Expr.Slice (some _) none none _) (Value.str _ _) (Value.ref _)) _ _ _); (with_reducible rename Fr _ _ _ _ => F79); (with_reducible rename News _ _ _ _ => N79); (refine slice_strN_sn (hsz := ?hsz) (s := ⟨_, _, _, _, _⟩) F79 N79 ?_); (case hsz => exact Nat.le_trans (by assumption) (show 1000 ≤ sizeLine by decide)); intro _ _ _ _ _)
  k_with "binaryOp Add ref ref" => (k_here; k_dflt (refine' add_L ?k1 ?k2 ?k3 ?k4 ?_ ?z; (case k1 => k_asm); (case k2 => k_asm); (case k3 => exact isList_of (by k_asm) (by k_mem) rfl rfl); (case k4 => exact isList_of (by k_asm) (by k_mem) rfl rfl); (case z => first | size_fits | exact Nat.le_trans (show _ ≤ 100000 by (simp; omega)) (by decide)); k_whole); intro _ _ _ _ l77; (try k_lt l77))
  k_with "subscriptTail" => (k_here; (with_reducible show wpAny _ _ (subscriptTail _ _ (Value.str _ _) (Value.int 0 _)) _ _ _); (refine item0 (by assumption) ?_))
  k_with "call ref" => (k_here; (with_reducible show wpAny _ _ (call (Value.ref 226) _) _ _ _); k_dflt (refine' b3_call ?k1 ?k2 ?k3 ?k4 ?k5 ?kK ?ko ?kd ?ku ?_; (case k1 => k_asm); (case k2 => k_asm); (case k3 => k_asm); (case k4 => k_asm); (case k5 => k_asm); (case kK => first | exact rfl | assumption); (case ko => assumption); (case kd => (change _ + 2 < _; ktr_room)); (case ku => (change _ + 8 * 2 < _; ktr_units))); intro _ _ _ _ _)
  k_with "compareOp In str str" => first | (refine in_yes (by assumption) ?_) | (refine in_no (by assumption) ?_)
  k_with "call builtin:str.index" => (refine PySem.SC.index (by assumption) ?_)
  k_with "eval ListComp" => (k_here; k_dflt (refine listComp1 (by k_asm) (by rfl) (by rfl) (by decide) (by decide) ?_))
  k_with "eval Name" => ((with_reducible show wpAny _ _ (eval (Expr.Name _ _) (envOfC _ _ _ _ _)) _ _ _); (refine ldC (by with_reducible assumption) (by first | with_reducible assumption | exact (if_neg (by decide)).trans (by with_reducible assumption) | exact (if_neg (by decide)).trans ((if_neg (by decide)).trans (by with_reducible assumption))) ?_))
  k_with "compareOp In str ref" => (k_here; k_dflt (refine in_exact (by k_asm) (by k_asm) (by assumption) ?_))
  k_with "subscriptTail" => (k_here; (with_reducible show wpAny _ _ (subscriptTail _ _ (Value.ref 227) (Value.str _ _)) _ _ _); k_dflt (refine item_exact (by k_asm) (by k_asm) (by assumption) ?_); intro _)
  k_with "call builtin:max" => (k_here; k_dflt (refine' max_K ?k0 ?k1 ?k2 ?k3 ?k4 ?k5 ?k6 ?_; (case k0 => exact rfl); (case k1 => k_asm); (case k2 => k_asm); (case k4 => assumption); (case k3 => exact isList_of (by k_asm) (by k_mem) rfl rfl); (case k5 => assumption); (case k6 => assumption); k_whole); intro _ _ _ _ _)
  k_with "last exec While" => (k_here; k_dflt (refine while_E (by k_asm) ?_))
  k_with "eval Name" => ((with_reducible show wpAny _ _ (eval (Expr.Name _ _) (envOf _ _ _ _ _)) _ _ _); (with_unfolding_all refine ld (by assumption) (by assumption) ?_))
  refine wpAny_call ?_
  k_dflt (refine' code_defC ?k1 ?k2 ?k3 ?k4 ?k5 ?kA ?kF ?kK ?k6 ?k7 ?k8 ?k9 ?kB ?kD ?_ ?c2 ?c3 ?c4; (case kA => exact rfl); (case kF => exact rfl); (case kK => assumption); (case k1 => k_asm); (case k2 => k_asm); (case k3 => k_asm); (case k4 => k_asm); (case k5 => k_asm); (case k6 => k_is); (case k7 => k_is); (case k8 => ktr_room); (case k9 => exact BindsTo.of_eq rfl); (case kB => exact rfl); (case kD => decide +kernel); (case c2 => exact rfl); (case c3 => exact rfl); (case c4 => exact rfl); k_whole; intro g' L' h' tk' cells' FG F' N' Y' B' X' T' l1; k_cells Y'; (try simp only [List.cons_append, List.nil_append] at N'); (try dsimp only); (try k_fold))
  rename_i oc dc
  k_steps
  rename_i S0 h2 l2 h3 F2 N2
  have hne1 : ∀ p ∈ news, p.1 ≠ L' + 1 := fun p hp => Nat.ne_of_lt (Nat.lt_succ_of_lt (l1 p hp))
  have hne2 : L' + 1 < S0 := by first | exact l2.1 | exact l2 _ List.mem_cons_self
  have hne3 : ∀ p ∈ news, p.1 ≠ S0 := fun p hp => Nat.ne_of_lt (Nat.lt_trans (Nat.lt_succ_of_lt (l1 p hp)) hne2)
  have hp0 : textOf (pieces ds (pairsTo 5)) = reportF ds (pairsTo 5) := pieces_text _ _
  have hpl : (pieces ds (pairsTo 5)).length ≤ 30 := by have := pieces_len ds (pairsTo 5); omega
  refine WhileAt.of (pieces ds (pairsTo 5)).length (fun i m₁ l => m₁ (Str.ofString "symbols") = some (.ref S0) ∧ ∃ its n o t done ps, l = (L' + 1, o) :: (S0, W.listOf its n) :: news ∧ o.data = .cell (some (.str (textOf ps) t)) ∧ ps.length = i ∧ WF ps ∧ (textOf ps).length ≤ 1000 ∧ pieces ds (pairsTo 5) = done ++ ps ∧ Paired IsInt its.toList (done.map (·.2.1))) (news_swap N2) ⟨by with_unfolding_all rfl, #[], 0, oc, _, [], pieces ds (pairsTo 5), rfl, by rw [hp0]; exact dc, rfl, pieces_wf _ _ pairs_ok, ?_, rfl, .nil⟩ ?_
  · rw [hp0]
    have := reportF_len ds (pairsTo 5) 10
    rw [List.take_of_length_le (Nat.le_of_eq hl), List.take_of_length_le (by decide)] at this
    omega
  · rintro i m₁ news₁ h tk ⟨hJ1, its, n, o, t, done, ps, rfl, ho, hi, hW, hTs, hdp, hJ2⟩ F1 N1
    have hsz : its.size ≤ 30 := by
      have h1 := hJ2.length
      have h2 := congrArg List.length hdp
      rw [List.length_append] at h2
      rw [List.length_map, Array.length_toList] at h1
      omega
    k_steps
    match ps, hW, hi, ho, hTs, hdp with
    | [], hW, hi, ho, hTs, hdp =>
      refine WhlIf.no (by decide +kernel) ?_
      k_steps
      rename_i l5 h5 F5 N5 o5 D6 h6 F6 N6 kF kN _ _
      have hdn : done = pieces ds (pairsTo 5) := by rw [hdp, List.append_nil]
      refine ret _ _ _ _ _ kF (tell_first kN (fun p hp => by simp [hp])) (fun p hp => ktn_ltOf l77.2.2.2 p hp) ?_
      rw [List.toList_toArray, ← pieces_code, ← hdn]
      exact paired_app hJ2 (.cons ⟨_, rfl⟩ .nil)
    | (x, c, true) :: r, hW, hi, ho, hTs, hdp =>
      obtain ⟨⟨p, g, hp, hg, rfl, rfl⟩, hW'⟩ := hW
      refine WhlIf.yes (text_ne Nat.one_pos) ?_
      obtain ⟨TT, hTT⟩ : ∃ TT, TT = textOf (({ cps := #[g] }, 256 + (p : Int), true) :: r) := ⟨_, rfl⟩
      rw [← hTT] at ho hTs
      have hT1 : TT = { cps := #[g] } ++ textOf r := hTT
      have hg2 := glyph_ok hp hg
      have ho1 := occ_glyph hp hg
      have ho2 : (Builtin.Str.occurrences (Str.ofString "abcde") (b3F g) 0 (Str.ofString "abcde").length 1).isEmpty = false := by rw [ho1]; rfl
      k_steps
      rename_i h9 o9 F9 N9 d9
      have hsl : Txt.slice TT (some 1) none = textOf r := by rw [hT1]; exact slice_drop _ _ 1 rfl
      rw [hsl] at d9
      refine we_of F9 N9 (i' := r.length) (news' := (L' + 1, o9) :: (S0, W.listOf _ _) :: news) (fun p hp => hp) (by rw [← hi]; exact Nat.lt_succ_self _) ⟨(if_neg (by decide)).trans ((if_neg (by decide)).trans hJ1), _, _, o9, _, done ++ [({ cps := #[g] }, 256 + (p : Int), true)], r, rfl, d9, rfl, hW', ?_, by rw [hdp]; simp, ?_⟩
      · rw [hT1, Str.length_append] at hTs
        omega
      · rw [Array.toList_push, List.map_append]
        exact Paired.snoc hJ2 ⟨_, rfl⟩
    | (x, c, false) :: r, hW, hi, ho, hTs, hdp =>
      obtain ⟨⟨k, hk9, rfl, rfl⟩, ⟨y, e, r', rfl⟩, hW'⟩ := hW
      obtain ⟨c0, y0', hc0, hsg⟩ := sign_first k hk9
      obtain ⟨⟨p9, g9, hp9, hg9, rfl, rfl⟩, hW''⟩ := id hW'
      refine WhlIf.yes (text_ne (by rw [hsg, Str.length_append]; exact Nat.lt_of_lt_of_le Nat.one_pos (Nat.le_add_right _ _))) ?_
      obtain ⟨TT, hTT⟩ : ∃ TT, TT = textOf ((signK k, 7 + (k : Int), false) :: ({ cps := #[g9] }, 256 + (p9 : Int), true) :: r') := ⟨_, rfl⟩
      rw [← hTT] at ho hTs
      have hT2 : TT = signK k ++ ({ cps := #[g9] } ++ textOf r') := hTT
      have hT1 : TT = { cps := #[c0] } ++ ({ cps := y0' } ++ ({ cps := #[g9] } ++ textOf r')) := by rw [hT2, hsg, Str.append_assoc]
      have hg2 : c0 < 128 ∨ ∃ p d, p < 5 ∧ d < 6 ∧ c0 = 120172 + 52 * d + p := .inl hc0.1
      have ho2 := occ_sign hc0
      have hb2 : exactHas (Txt.slice TT none (some 2)) = b2K k := by rw [hT2]; exact has_take hp9 hg9 2
      have hb3 : exactHas (Txt.slice TT none (some 3)) = b3K k := by rw [hT2]; exact has_take hp9 hg9 3
      have hsz9 := size_K k hk9
      have hx9 := sign_exact k hk9
      obtain ⟨z, hz⟩ : ∃ z, z = (if b3K k then 3 else if b2K k then 2 else 1) := ⟨_, rfl⟩
      rw [← hz] at hsz9
      have hx8 : exactF (Txt.slice TT none (some (z : Int))) = some (7 + (k : Int)) := by rw [hT2, slice_take _ _ z hsz9]; exact hx9
      generalize b2K k = b2 at *
      generalize b3K k = b3 at *
      k_steps
      rename_i t9 h9 tk9 h10 tk10 tk11 SL h11 l11 TP h12 F12 N12 l12
      obtain ⟨u1, u2, u3, N13⟩ : ∃ u1 u2 u3, News g' L' h12 ((TP, tupObj #[.int 2 u1, .int 3 u2]) :: (SL, W.listOf #[.int 1 u3] 0) :: (L' + 1, o) :: (S0, W.listOf its n) :: news) := ⟨_, _, _, N12⟩
      refine src_tuple (by rfl) F12 N13 (ax := TP) (its := #[.int 2 u1, .int 3 u2]) ?_ ?_ (av := []) (fun _ h => nomatch h) ?_
      · exact isTuple_of N13 List.mem_cons_self
      · exact .inr ⟨_, List.mem_cons_self⟩
      intro h14 k14 S14
      refine ⟨_, _, _, S14 _ _, (show 2 ≤ sizeLine by decide), fun i ys l => l = (TP, tupObj #[.int 2 u1, .int 3 u2]) :: (SL, W.listOf #[.int 1 u3] 0) :: (L' + 1, o) :: (S0, W.listOf its n) :: news ∧ Paired IsInt ys ((if i = 0 then [] else if b2 then [2] else []) ++ (if i = 2 then (if b3 then [3] else []) else [])), ⟨rfl, .nil⟩, ?_, ?_⟩
      · rintro i v ys news₁ C oC mC D h tk own E' hi hP ⟨rfl, hJ⟩ F1 N1 hC hCD off
        have hi : i < 2 := hi
        obtain ⟨vi, tv, rfl, hcase⟩ : ∃ vi tv, v = .int vi tv ∧ (i = 0 ∧ vi = 2 ∨ i = 1 ∧ vi = 3) := by
          have : i = 0 ∨ i = 1 := (by decide : ∀ i, i < 2 → i = 0 ∨ i = 1) i hi
          rcases this with rfl | rfl
          · exact ⟨2, u1, (Option.some.inj hP).symm, .inl ⟨rfl, rfl⟩⟩
          · exact ⟨3, u2, (Option.some.inj hP).symm, .inr ⟨rfl, rfl⟩⟩
        refine asg_name F1 N1 hC (off1 hCD off) (by rfl) (by rfl) (by rfl) ?_
        intro h' tk' oC' mC' F2 N2 hC2 hx hy
        refine wpAny_tests_one ?_
        obtain ⟨bi, hbi⟩ : ∃ bi, exactHas (Txt.slice TT none (some vi)) = bi := ⟨_, rfl⟩
        k_steps
        · rename_i hbt
          refine ce_of (by assumption) (by assumption) (by k_mem) (by k_mem) (fun p hp => by simp only [List.mem_cons]; exact .inr (.inr hp)) hC2 ⟨rfl, ?_⟩
          rcases hcase with ⟨rfl, rfl⟩ | ⟨rfl, rfl⟩
          · have e : b2 = true := hb2.symm.trans (hbi.trans hbt)
            have hJ' : Paired IsInt ys [] := hJ
            simp only [e]
            exact Paired.snoc hJ' ⟨_, rfl⟩
          · have e : b3 = true := hb3.symm.trans (hbi.trans hbt)
            have hJ' : Paired IsInt ys ((if b2 then [2] else []) ++ []) := hJ
            rw [List.append_nil] at hJ'
            simp only [e]
            exact Paired.snoc hJ' ⟨_, rfl⟩
        · rename_i hbt
          refine ce_of (by assumption) (by assumption) (by k_mem) (by k_mem) (fun p hp => by simp only [List.mem_cons]; exact .inr (.inr hp)) hC2 ⟨rfl, ?_⟩
          rcases hcase with ⟨rfl, rfl⟩ | ⟨rfl, rfl⟩
          · have e : b2 = false := hb2.symm.trans (hbi.trans (by simpa using hbt))
            have hJ' : Paired IsInt ys [] := hJ
            simp only [e]
            exact hJ'
          · have e : b3 = false := hb3.symm.trans (hbi.trans (by simpa using hbt))
            have hJ' : Paired IsInt ys ((if b2 then [2] else []) ++ []) := hJ
            simp only [e]
            exact hJ'
      · rintro ys news' D h tk ⟨rfl, hJ⟩ F1 N1 off hlt
        have hJ' : Paired IsInt ys ((if b2 then [2] else []) ++ (if b3 then [3] else [])) := hJ
        have hDs := ltN (hlt (S0, W.listOf its n) (by simp))
        have hDc := ltN (hlt (L' + 1, o) (by simp))
        dsimp only at hDs hDc
        have hyi := paired_intsAre hJ'
        have hyl : ys.length ≤ 2 := by
          rw [hJ'.length]
          cases b2 <;> cases b3 <;> decide
        have hmx : IntsAre ((#[Value.int 1 u3].toList ++ ys.toArray.toList).toArray).toList (1 :: ((if b2 then [2] else []) ++ (if b3 then [3] else []))) := by
          rw [List.toList_toArray]
          exact .cons _ _ (by simpa using hyi)
        have hmn : 0 < (1 :: ((if b2 then [2] else []) ++ (if b3 then [3] else [])) : List Int).length := by simp
        have hmz : ∀ M, M ∈ (1 :: ((if b2 then [2] else []) ++ (if b3 then [3] else [])) : List Int) → (∀ a ∈ (1 :: ((if b2 then [2] else []) ++ (if b3 then [3] else [])) : List Int), a ≤ M) → M = (z : Int) := fun M a b => by rw [hz]; exact max_is a b
        k_steps
        rename_i h9 o9 F9 N9 d9
        have hsl : Txt.slice TT (some (z : Int)) none = { cps := #[g9] } ++ textOf r' := by rw [hT2]; exact slice_drop _ _ z hsz9
        rw [hsl] at d9
        refine we_two (i' := (({ cps := #[g9] }, 256 + (p9 : Int), true) :: r').length) (c := L' + 1) (oc := o9) (S := S0) F9 N9 (by k_mem) (by k_mem) (fun p hp => by simp [hp]) (by rw [← hi]; exact Nat.lt_succ_self _) ⟨(if_neg (by decide)).trans ((if_neg (by decide)).trans hJ1), _, _, o9, _, done ++ [(signK k, 7 + (k : Int), false)], ({ cps := #[g9] }, 256 + (p9 : Int), true) :: r', rfl, d9, rfl, hW', ?_, by rw [hdp]; simp, ?_⟩
        · rw [hT2, Str.length_append] at hTs
          exact Nat.le_trans (Nat.le_add_left _ _) hTs
        · rw [Array.toList_push, List.map_append]
          exact Paired.snoc hJ2 ⟨_, rfl⟩
end
end Mine
end
section
open PySem PySem.W PySem.Calls PyProof.Rows PyProof.V PySem.Spec
set_option maxRecDepth 100000
namespace Mine
noncomputable def ek (e : Int × Value) : Str := strOf e.2
theorem ek_is {k : Str} {e : Int × Value} (h : Value.isStrOf k e.2 = true) : ek e = k := by
  obtain ⟨t, ht⟩ := Value.isStrOf_shape h
  unfold ek; rw [ht]; rfl
theorem is_self (k : Str) (u : Tok) : Value.isStrOf k (.str k u) = true := by simp [Value.isStrOf, Value.isStr]
noncomputable def SetP (prog : Program) (w : World) (h : Heap) (a : Addr) (ks : List Str) : Prop :=
  ∃ o es ep t, h.get? a = some o ∧ o.ExactSet ∧ o.data = .set es ep t ∧ ElemsOf (PySem.strKind prog w) es.toList ∧ (es.toList.map ek).Perm ks ∧ ks.Nodup ∧ es.size < scanBound ∧ t.fits es.size = true ∧ (es.size = 0 ∨ t.plain = false)
theorem layNew_plain (t : SetTable) (es : Array (Int × Value)) (h : Int) (x : Value) (hp : t.plain = false) : (layNew t es h x).2.1.plain = false := by
  unfold layNew
  split
  · show (SetTable.orStandIn _ _).plain = false
    unfold SetTable.orStandIn
    split
    · exact hp
    · rfl
  · rfl
theorem relayAll_plain (t : SetTable) (es : Array (Int × Value)) (n : Nat) (hp : t.plain = false) : (relayAll t es n).2.1.plain = false := by
  unfold relayAll
  split
  · rename_i t' order e
    dsimp only
    split
    · unfold SetTable.relaid SetTable.laid at e
      simp only [Option.bind_eq_bind, Option.bind_eq_some_iff, Option.pure_def, Option.some.injEq, Prod.mk.injEq] at e
      obtain ⟨_, _, e, _⟩ := e
      rw [← e]; exact hp
    · rfl
  · rfl
section
variable {prog : Program} {w : World} {A : Around} {E : Value → Shared → Prop} {s : Shared}
theorem storeP {h : Heap} {a : Addr} {o : Obj} {es : Array (Int × Value)} {ep : Nat} {t : SetTable} {ks : List Str} (ho : h.get? a = some o) (hex : o.ExactSet) (hd : o.data = .set es ep t)
    {es' : Array (Int × Value)} {t' : SetTable} (hel : ElemsOf (PySem.strKind prog w) es'.toList) (hk : (es'.toList.map ek).Perm ks) (hn : ks.Nodup) (hb : es'.size < scanBound) (hf : t'.fits es'.size = true) (hp : t'.plain = false) :
    (h.update a (Obj.putSet es' t')).get? a = some { o with data := .set es' (ep + 1) t' } ∧ SetP prog w (h.update a (Obj.putSet es' t')) a ks := by
  have hg : (h.update a (Obj.putSet es' t')).get? a = some { o with data := .set es' (ep + 1) t' } := by
    have := Heap.get?_update_self (Obj.putSet es' t') ho (by rw [putSet_of es' t' hd]; rfl)
    rw [putSet_of es' t' hd] at this; exact this
  exact ⟨hg, _, es', ep + 1, t', hg, hex, rfl, hel, hk, hn, hb, hf, .inr hp⟩
theorem addTailP {g : Bool → Sem Unit} (hg : ∀ (b : Bool) (s₁ : Shared) (Q' : Unit → Shared → Prop), Q' () s₁ → wpAny (model prog w) A (g b) Q' E s₁)
    {a : Addr} {o : Obj} {es : Array (Int × Value)} {ep : Nat} {t : SetTable} (ho : s.heap.get? a = some o) (hex : o.ExactSet) (hd : o.data = .set es ep t)
    {es1 : Array (Int × Value)} {t2 : SetTable} {ks : List Str} (hel1 : ElemsOf (PySem.strKind prog w) es1.toList) (hk : (es1.toList.map ek).Perm ks) (hn : ks.Nodup)
    (hb1 : es1.size < scanBound) (hf2 : t2.fits es1.size = true) (hp2 : t2.plain = false) {wasDummy : Bool} {R : Option Bool → Shared → Prop}
    (h : ∀ h', Heap.SameBut a s.heap h' → SetP prog w h' a ks → R (some true) { s with heap := h' }) :
    wpAny (model prog w) A (do
        storeSet a es1 t2
        if (!wasDummy && t2.tooFull) = true then do
            g (relayAll t2 es1 (SetTable.grown es1.size)).2.2
            storeSet a (relayAll t2 es1 (SetTable.grown es1.size)).1 (relayAll t2 es1 (SetTable.grown es1.size)).2.1
            pure (some true)
          else pure (some true)) R E s := by
  refine wpAny_bind (wpAny_storeSet_of ho hd ?_ (fits_of_scanBound hb1))
  obtain ⟨ho1, hS1⟩ := storeP (prog := prog) (w := w) ho hex hd hel1 hk hn hb1 hf2 hp2
  have hsb1 := Heap.SameBut.update s.heap a (Obj.putSet es1 t2)
  split
  · have hp := relayAll_perm t2 es1 (SetTable.grown es1.size)
    have hfr := relayAll_fits t2 es1 (SetTable.grown es1.size)
    have hpl := relayAll_plain t2 es1 (SetTable.grown es1.size) hp2
    generalize hRl : relayAll t2 es1 (SetTable.grown es1.size) = Rl at hp hfr hpl ⊢
    obtain ⟨es2, t3, gave2⟩ := Rl
    dsimp only at hp hfr hpl ⊢
    have hel2 : ElemsOf (PySem.strKind prog w) es2.toList := hel1.perm hp
    have hsz : es2.size = es1.size := by rw [← Array.length_toList, hp.length_eq, Array.length_toList]
    have hb2 : es2.size < scanBound := by rw [hsz]; exact hb1
    refine wpAny_bind (hg _ _ _ ?_)
    refine wpAny_bind (wpAny_storeSet_of ho1 rfl ?_ (fits_of_scanBound hb2))
    obtain ⟨_, hS2⟩ := storeP (prog := prog) (w := w) ho1 hex rfl hel2 ((hp.map ek).trans hk) hn hb2 hfr hpl
    exact wpAny_pure (h _ (hsb1.trans (Heap.SameBut.update _ a _)) hS2)
  · exact wpAny_pure (h _ hsb1 hS1)
theorem setAddP {a : Addr} {ks : List Str} {k : Str} {u : Tok} {Q : Bool → Shared → Prop} (hS : SetP prog w s.heap a ks) (hroom : ks.length + 1 < scanBound)
    (h : ∀ b h', Heap.SameBut a s.heap h' → SetP prog w h' a (if k ∈ ks then ks else ks ++ [k]) → Q b { s with heap := h' }) :
    wpAny (model prog w) A (setAddHashed a (.str k u) (hashStr w k)) Q E s := by
  obtain ⟨o, es, ep, t, ho, hex, hd, hel, hk, hn, hb, hf, hpl⟩ := hS
  have hsc : (Value.str k u).scannable = true := rfl
  have hkey : (PySem.strKind prog w).is k (.str k u) = true := is_self k u
  have hlen : es.size = ks.length := by have := hk.length_eq; rwa [List.length_map, Array.length_toList] at this
  unfold setAddHashed setAddHashedIn
  refine wpAny_holding (wpAny_bind (wpAny_setState_of ho hd hf ?_))
  dsimp only
  rw [byScan_of hsc hb hel]
  simp only [↓reduceIte]
  unfold setAddByScan
  refine wpAny_bind ?_
  refine wpAny_bind (wpAny_rule ?_)
  refine wpAny_bind (wpAny_setScan_of hkey ho hd hf hel ?_)
  cases hr : List.findIdx? (fun e => (PySem.strKind prog w).is k e.2) es.toList with
  | some j =>
    dsimp only
    obtain ⟨hj, hpj, _⟩ := List.findIdx?_eq_some_iff_getElem.mp hr
    have hkm : k ∈ ks := hk.mem_iff.mp (List.mem_map.mpr ⟨_, List.getElem_mem hj, ek_is hpj⟩)
    refine wpAny_pure (wpAny_pure ?_)
    have e : s = { s with heap := s.heap } := by cases s; rfl
    have := h false s.heap (Heap.SameBut.refl a s.heap) ⟨o, es, ep, t, ho, hex, hd, hel, by rw [if_pos hkm]; exact hk, by rw [if_pos hkm]; exact hn, hb, hf, hpl⟩
    rw [e]; exact this
  | none =>
    dsimp only
    have hkm : ¬ k ∈ ks := fun hkm => by
      obtain ⟨e, he, e1⟩ := List.mem_map.mp (hk.mem_iff.mpr hkm)
      obtain ⟨⟨k', hk', _⟩, _⟩ := hel e he
      have := ek_is hk'
      rw [e1] at this
      subst this
      have q := List.findIdx?_eq_none_iff.mp hr e he
      have hk2 : (PySem.strKind prog w).is k e.2 = true := hk'
      rw [hk2] at q; exact Bool.noConfusion q
    rw [if_neg hkm] at h
    have hn2 : (ks ++ [k]).Nodup := by
      rw [List.nodup_append]
      refine ⟨hn, by simp, fun x hx y hy e => ?_⟩
      rw [List.mem_singleton.mp hy] at e
      exact hkm (e ▸ hx)
    have hgw : ∀ (b : Bool) {s₁ : Shared} {Q' : Unit → Shared → Prop}, Q' () s₁ → wpAny (model prog w) A (match b with | true => rule "set.scan.the-table-gave-way" | false => pure ()) Q' E s₁ :=
      fun b s₁ Q' hq => by cases b <;> first | exact wpAny_pure hq | exact wpAny_rule hq
    have hperm := layNew_perm t es (hashStr w k) (.str k u)
    have hfits := layNew_fits t es (hashStr w k) (.str k u)
    have hplain := layNew_plain t es (hashStr w k) (.str k u)
    generalize hL : layNew t es (hashStr w k) (.str k u) = L at hperm hfits hplain ⊢
    obtain ⟨es1, t1, wasDummy, gave⟩ := L
    dsimp only at hperm hfits hplain ⊢
    rw [Array.toList_push] at hperm
    have hel1 : ElemsOf (PySem.strKind prog w) es1.toList := (hel.push hkey hsc).perm hperm
    have hk1 : (es1.toList.map ek).Perm (ks ++ [k]) := by
      refine (hperm.map ek).trans ?_
      rw [List.map_append]
      exact hk.append_right _
    have hb1' : es1.size < scanBound := by rw [← Array.length_toList, hperm.length_eq, List.length_append, Array.length_toList, hlen]; simpa using hroom
    refine wpAny_bind (hgw _ ?_)
    have hend : ∀ h', Heap.SameBut a s.heap h' → SetP prog w h' a (ks ++ [k]) → Q true { s with heap := h' } := h true
    split
    · refine wpAny_bind ?_
      rw [hashByValue_scannable 8 hsc]
      refine wpAny_pure ?_
      refine addTailP ?_ ho hex hd hel1 hk1 hn2 hb1' ?_ ?_ ?_
      · intro b s₁ Q' hq; cases b <;> first | exact wpAny_pure hq | exact wpAny_rule hq
      · split
        · exact hfits
        · exact SetTable.fits_plain_off hfits
      · rfl
      · intro h' hsb hS'; dsimp only; exact wpAny_pure (hend h' hsb hS')
    · rename_i hq
      refine wpAny_bind (wpAny_pure ?_)
      simp only [↓reduceIte]
      refine addTailP ?_ ho hex hd hel1 hk1 hn2 hb1' hfits (by simpa using hq) ?_
      · intro b s₁ Q' hq; cases b <;> first | exact wpAny_pure hq | exact wpAny_rule hq
      · intro h' hsb hS'; dsimp only; exact wpAny_pure (hend h' hsb hS')
end
end Mine
end
section
open PySem PySem.W PySem.Calls PyProof.Rows PyProof.V PySem.Spec
set_option maxRecDepth 100000
set_option maxHeartbeats 0
namespace Mine
noncomputable def stepS (ks : List Str) (k : Str) : List Str := if k ∈ ks then ks else ks ++ [k]
noncomputable def metS (val : Nat → Str) (i : Nat) : List Str := ((List.range i).map val).foldl stepS []
theorem metS_succ (val : Nat → Str) (i : Nat) : metS val (i + 1) = stepS (metS val i) (val i) := by
  unfold metS; rw [List.range_succ, List.map_append, List.foldl_append]; rfl
theorem metS_le (val : Nat → Str) (i : Nat) : (metS val i).length ≤ i := by
  induction i with
  | zero => exact Nat.le_refl _
  | succ i ih =>
    rw [metS_succ]; unfold stepS
    split
    · omega
    · rw [List.length_append, List.length_singleton]; omega
theorem metS_mem (val : Nat → Str) (i : Nat) (k : Str) : k ∈ metS val i ↔ ∃ j, j < i ∧ val j = k := by
  induction i with
  | zero => simp [metS]
  | succ i ih =>
    rw [metS_succ]; unfold stepS
    have e : (∃ j, j < i + 1 ∧ val j = k) ↔ (∃ j, j < i ∧ val j = k) ∨ val i = k := by
      constructor
      · rintro ⟨j, hj, e⟩
        rcases Nat.lt_succ_iff_lt_or_eq.mp hj with h | rfl
        · exact .inl ⟨j, h, e⟩
        · exact .inr e
      · rintro (⟨j, hj, e⟩ | e)
        · exact ⟨j, Nat.lt_succ_of_lt hj, e⟩
        · exact ⟨i, Nat.lt_succ_self _, e⟩
    rw [e, ← ih]
    split
    · rename_i hm
      constructor
      · exact .inl
      · rintro (h | rfl)
        · exact h
        · exact hm
    · rw [List.mem_append, List.mem_singleton, eq_comm (a := k)]
section
variable {prog : Program} {w : World} {A : Around} {R : Result → Shared → Prop} {I : Addr} {fp wr : List Addr} {G : Array GenState → Array GenState → Prop} {n : Nat} {P : Nat → Value → Prop} {St : Nat → Shared → Prop}
theorem set_loopP (W : WalksS prog w A.in1 I fp wr G n P St) (S : Addr) (hSf : S ∉ fp)
    (val : Nat → Str) (hval : ∀ i v, P i v → ∃ t, v = .str (val i) t) (hb : n + 1 < scanBound) :
    ∀ (k i : Nat) (s : Shared), n - i = k → i ≤ n → St i s → SetP prog w s.heap S (metS val i) →
      (∀ s', Moved (S :: wr) G s s' → SetP prog w s'.heap S (metS val n) → R (.ok (.ret .none)) s') →
      codeAny (model prog w) A (.builtin "set.update.loop" ⟨[.ref S, .ref I], []⟩) R s := by
  have hSw : S ∉ wr := fun h => hSf (W.sub _ h)
  have hsub : ∀ b ∈ wr, b ∈ S :: wr := fun b hb => List.mem_cons_of_mem _ hb
  intro k
  induction k with
  | zero =>
    intro i s hk hi hst hS hR
    have hin : i = n := by omega
    subst hin
    refine codeAny_builtin PyProof.Rows.F.entry_set_update_loop ?_
    rw [Around.under_plainId PyProof.Rows.F.plain_set_update_loop _]
    show wpAny _ A.in1 (pyNext (.ref I) >>= _) _ _ s
    refine wpAny_bind (W.done s _ _ hst fun s' hm => ?_)
    show wpAny _ A.in1 (ret Value.none) _ _ s'
    exact wpAny_pure (hR s' (hm.mono hsub) (by
      obtain ⟨o, es, ep, t, ho, rest⟩ := hS
      exact ⟨o, es, ep, t, hm.heap S _ hSw ho, rest⟩))
  | succ k ih =>
    intro i s hk hi hst hS hR
    have hlt : i < n := by omega
    refine codeAny_builtin PyProof.Rows.F.entry_set_update_loop ?_
    rw [Around.under_plainId PyProof.Rows.F.plain_set_update_loop _]
    show wpAny _ A.in1 (pyNext (.ref I) >>= _) _ _ s
    refine wpAny_bind (W.item i s _ _ hlt hst fun v s' hP hst' hm => ?_)
    obtain ⟨t, rfl⟩ := hval i v hP
    have hS' : SetP prog w s'.heap S (metS val i) := by
      obtain ⟨o, es, ep, tb, ho, rest⟩ := hS
      exact ⟨o, es, ep, tb, hm.heap S _ hSw ho, rest⟩
    show wpAny _ A.in1 (holding [Value.str (val i) t] (setAdd S (.str (val i) t)) >>= _) _ _ s'
    refine wpAny_bind (wpAny_holding ?_)
    unfold setAdd
    refine wpAny_holding ?_
    refine wpAny_bind ((PySem.strKind prog w).pyHash (k := val i) (is_self (val i) t) ?_)
    have hroom : (metS val i).length + 1 < scanBound := by have := metS_le val i; omega
    refine setAddP (s := { s' with toks := s'.toks + 1 }) hS' hroom fun b h' hsb hS2 => ?_
    have hSi : SetP prog w h' S (metS val (i + 1)) := by rw [metS_succ]; exact hS2
    refine wpAny_pure ⟨plainId_quiet PyProof.Rows.F.plain_set_update_loop _, ih (i + 1) _ (by omega) hlt (W.frame _ s' _ _ hst' (Nat.le_succ _) fun b hb o e => ?_) hSi fun s'' hm'' hS'' => ?_⟩
    · rw [hsb.2 b (fun h : b = S => hSf (by rw [← h]; exact hb))]; exact e
    · refine hR s'' (Moved.trans W.gtrans ((hm.mono hsub).then_heap (Nat.le_succ _) fun b o hb e => ?_) hm'') hS''
      rw [hsb.2 b (fun h : b = S => hb (by rw [h]; exact List.mem_cons_self))]; exact e
end
section
variable {prog : Program} {w : World} {A : Around} {E : Value → Shared → Prop} {s : Shared}
theorem call_set_strs {l : Addr} {items : Array Value} {xs : List Str} {Q : Value → Shared → Prop}
    (hh : A.handled = none) (hl : s.heap.IsList l items) (hi : Paired (fun v x => ∃ t, v = .str x t) items.toList xs) (hb : items.size + 1 < scanBound)
    (h : ∀ (h' : Heap) (tk : Nat), SetP prog w h' s.heap.objs.size (metS (fun i => xs.getD i ⟨#[]⟩) items.size) →
      (∀ b o, b < s.heap.objs.size → s.heap.get? b = some o → h'.get? b = some o) → Q (.ref s.heap.objs.size) { s with heap := h', toks := tk }) :
    wpAny (model prog w) A (call (.type "set") [.ref l]) Q E s := by
  obtain ⟨c, tl, hmro⟩ := PySem.F.called_set.mro
  have hmade := PySem.F.called_set.made
  have hsub := PySem.F.called_set.sub
  refine wpAny_call (codeAny_of_tree ?_)
  show wpAny _ _ (callAny (.type "set") _) _ _ _
  refine wpAny_pure ⟨Code.quiet_builtin _ (by decide +kernel), codeAny_builtin PySem.F.entry_type_call ?_⟩
  rw [Around.under_plain (weight_type_call_type "set" [.ref l] []) rfl]
  have h1 := PySem.F.called_set.notType
  have h2 := PySem.F.called_set.canCreate
  have hct := PySem.F.typeCall_set_1 (.ref l)
  repeat (any_goals (first | assumption | wp_step))
  refine codeAny_mono (code_set_new_1 (.ref l) (E := E) (Q₁ := fun obj s₁ => ∃ led : Bool, obj = .ref s.heap.objs.size ∧ s₁ = { s with heap := s.heap.push { cls := .type "set", dict := none, data := .set #[] 0 (.fresh 0 0 led) } }) fun led => ⟨led, rfl, rfl⟩) fun r s₁ hr => ?_
  cases r with
  | error e => exact hr
  | ok fl =>
    cases fl with
    | ret obj =>
      obtain ⟨led, rfl, rfl⟩ := hr
      have hS : (s.heap.push { cls := .type "set", dict := none, data := .set #[] 0 (.fresh 0 0 led) }).get? s.heap.objs.size = some { cls := .type "set", dict := none, data := .set #[] 0 (.fresh 0 0 led) } := Heap.get?_push_size _ rfl
      have hT : Shared.TypeIs { s with heap := s.heap.push { cls := .type "set", dict := none, data := .set #[] 0 (.fresh 0 0 led) } } (.ref s.heap.objs.size) "set" := ⟨_, hS, rfl⟩
      have hli := PySem.F.called_set.init.lookup
      have hbi := PySem.F.called_set.init.bind (.ref s.heap.objs.size)
      repeat (any_goals (first | assumption | wp_step))
      refine codeAny_mono (codeAny_call_builtin (R := wants (fun r s₂ => r = .none ∧ ∃ h' tk, s₂ = { s with heap := h', toks := tk } ∧
          SetP prog w h' s.heap.objs.size (metS (fun i => xs.getD i ⟨#[]⟩) items.size) ∧
          (∀ b o, b < s.heap.objs.size → s.heap.get? b = some o → h'.get? b = some o)) E) PySem.F.called_set.init.plain PySem.F.entry_set_init (check_set_init_1 hT ?_)) fun r₂ s₂ hr₂ => ?_
      · obtain ⟨ol, hol, hcl, nl, hdl⟩ := hl
        obtain ⟨ocls, odict, odata, oslots⟩ := ol
        simp only at hcl hdl
        subst hcl; subst hdl
        have hol' : (s.heap.push { cls := .type "set", dict := none, data := .set #[] 0 (.fresh 0 0 led) }).get? l = some { cls := .type "list", dict := odict, data := .seq items nl, slots := oslots } := Heap.get?_push_of_some _ hol
        have hsls := PySem.F.sub_list_set
        have hslf := PySem.F.sub_list_frozenset
        have hne : (Value.type "list" == Value.type "dict") = false := by decide
        have hl1 : (s.heap.push { cls := .type "set", dict := none, data := .set #[] 0 (.fresh 0 0 led) }).IsList l items := ⟨_, hol', rfl, nl, rfl⟩
        unfold Builtin.«set.__init__» noKeywords Builtin.Frozenset.updateFrom
        generalize hPI : pyIter = PI
        wp_walk
        subst hPI
        refine wpAny_pyIter_list hl1 ?_
        refine wpAny_bind (wpAny_runValue ?_)
        have hlS : l < s.heap.objs.size := Heap.lt_size hol
        have hh3 : A.in1.in1.in1.handled = none := by simp [hh]
        have hneI : l ≠ (s.heap.push { cls := .type "set", dict := none, data := .set #[] 0 (.fresh 0 0 led) }).objs.size := by
          rw [Heap.size_push]; exact Nat.ne_of_lt (Nat.lt_succ_of_lt hlS)
        have hSf : s.heap.objs.size ∉ [(s.heap.push { cls := .type "set", dict := none, data := .set #[] 0 (.fresh 0 0 led) }).objs.size, l] := by
          rw [Heap.size_push]; simp only [List.mem_cons, List.mem_singleton, List.not_mem_nil, or_false, not_or]
          exact ⟨Nat.ne_of_lt (Nat.lt_succ_self _), Nat.ne_of_gt hlS⟩
        have hval : ∀ (i : Nat) (v : Value), items[i]? = some v → ∃ t, v = .str ((fun i => xs.getD i ⟨#[]⟩) i) t := fun i v hv => by
          obtain ⟨b, hb, t, e⟩ := paired_get hi (i := i) (a := v) (by rw [Array.getElem?_toList]; exact hv)
          exact ⟨t, by rw [e]; simp [hb]⟩
        refine set_loopP ((Walks.list hh3 _ l hneI items).toS) s.heap.objs.size
          hSf (fun i => xs.getD i ⟨#[]⟩) hval hb (items.size - 0) 0 _ (by omega) (Nat.zero_le _)
          ⟨⟨_, Heap.get?_push_size _ rfl, rfl, rfl⟩, (hl1.push _)⟩ ?hS0 ?hR
        case hS0 =>
          have hget : ((s.heap.push { cls := .type "set", dict := none, data := .set #[] 0 (.fresh 0 0 led) }).push { cls := .type "list_iterator", data := .fields #[.ref l, .int 0 0] }).get? s.heap.objs.size
              = some { cls := .type "set", dict := none, data := .set #[] 0 (.fresh 0 0 led) } := Heap.get?_push_of_some _ hS
          exact ⟨_, #[], 0, _, hget, ⟨rfl, rfl, rfl⟩, rfl, fun e he => by simp at he, .refl _, List.nodup_nil, by decide, by rfl, .inl rfl⟩
        case hR =>
          intro s' hm hS'
          obtain ⟨h', g', d', tk', os'⟩ := s'
          have eg : g' = s.gens := hm.gens
          have ed : d' = s.drawn := hm.drawn
          have eo : os' = s.os := hm.os
          subst eg; subst ed; subst eo
          show wpAny _ _ _ _ _ _
          refine wpAny_pure ?_
          show wpAny _ _ (ret Value.none) _ _ _
          refine wpAny_pure ⟨rfl, h', tk', rfl, hS', fun b o hb e => ?_⟩
          have hb1 : b ≠ s.heap.objs.size := Nat.ne_of_lt hb
          have hb2 : b ≠ (s.heap.push { cls := .type "set", dict := none, data := .set #[] 0 (.fresh 0 0 led) }).objs.size := by
            rw [Heap.size_push]; exact Nat.ne_of_lt (Nat.lt_succ_of_lt hb)
          exact hm.heap b o (by simp only [List.mem_cons, List.mem_singleton, List.not_mem_nil, or_false, not_or]; exact ⟨hb1, hb2⟩) (Heap.get?_push_of_some _ (Heap.get?_push_of_some _ e))
      · cases r₂ with
        | error e => exact hr₂
        | ok fl₂ =>
          cases fl₂ with
          | ret r =>
            obtain ⟨rfl, h', tk, rfl, hS', hk'⟩ := hr₂
            repeat (any_goals (first | assumption | wp_step))
            exact h _ _ hS' hk'
          | _ => exact hr₂.elim
    | _ => exact hr.elim
end
end Mine
end
section
open PySem PySem.W PySem.Calls PyProof.Rows PyProof.V PySem.Spec
set_option maxRecDepth 100000
namespace Mine
theorem erase_perm {α : Type} {l : List α} {i : Nat} (h : i < l.length) : (l[i] :: l.eraseIdx i).Perm l := by
  rw [List.eraseIdx_eq_take_drop_succ]
  refine List.perm_middle.symm.trans ?_
  rw [List.getElem_cons_drop, List.take_append_drop]
theorem pick_go {α : Type} (next : Nat → Nat) : ∀ (fuel k : Nat) (left : List α) (out : Array α), fuel = left.length → (pickOrder.go next fuel k left out).toList.Perm (out.toList ++ left) := by
  intro fuel
  induction fuel with
  | zero =>
    intro k left out e
    have : left = [] := List.length_eq_zero_iff.mp e.symm
    subst this
    unfold pickOrder.go
    simp
  | succ f ih =>
    intro k left out e
    unfold pickOrder.go
    have hlt : next k % left.length < left.length := Nat.mod_lt _ (by omega)
    rw [List.getElem?_eq_getElem hlt]
    dsimp only
    refine (ih _ _ _ (by rw [List.length_eraseIdx_of_lt hlt]; omega)).trans ?_
    rw [Array.toList_push, List.append_assoc]
    refine List.Perm.append_left _ ?_
    rw [List.singleton_append]
    exact (erase_perm hlt)
theorem pick_perm {α : Type} (next : Nat → Nat) (xs : Array α) : (pickOrder next xs).toList.Perm xs.toList := by
  unfold pickOrder
  have := pick_go next xs.size 0 xs.toList #[] (by simp)
  simpa using this
section
variable {prog : Program} {w : World} {A : Around} {E : Value → Shared → Prop} {s : Shared}
theorem wpAny_choose {src : Source} {n : Nat} {Q : Nat → Shared → Prop} (hn : n ≠ 0) (h : ∀ k d, k < n → Q k { s with drawn := d }) : wpAny (model prog w) A (choose src n) Q E s := fun Γ p _ => by
  unfold choose
  rw [Sem.wp_choose]
  refine ⟨hn, ?_⟩
  exact h _ _ (Nat.mod_lt _ (Nat.pos_of_ne_zero hn))
theorem wpAny_drawOrder {α : Type} : ∀ (n : Nat) (xs : List α) {Q : List α → Shared → Prop} {s : Shared}, n = xs.length → (∀ ys d, ys.Perm xs → Q ys { s with drawn := d }) → wpAny (model prog w) A (drawOrder n xs) Q E s := by
  intro n
  induction n with
  | zero =>
    intro xs Q s e h
    have : xs = [] := List.length_eq_zero_iff.mp e.symm
    subst this
    unfold drawOrder
    exact wpAny_pure (h [] s.drawn (.refl _))
  | succ n ih =>
    intro xs Q s e h
    have hne : xs.length ≠ 0 := by omega
    have hx : drawOrder (n + 1) xs = (do
        let i ← choose .order xs.length
        match xs[i]? with
        | some x => return x :: (← drawOrder n (xs.eraseIdx i))
        | none => unsupported "internal:drawOrder") := by
      cases xs with
      | nil => exact absurd rfl hne
      | cons a r => rfl
    rw [hx]
    refine wpAny_bind (wpAny_choose hne fun k d hk => ?_)
    rw [List.getElem?_eq_getElem hk]
    dsimp only
    refine wpAny_bind (ih _ (by rw [List.length_eraseIdx_of_lt hk]; omega) fun ys d' hp => wpAny_pure (h _ d' ?_))
    exact (hp.cons _).trans (erase_perm hk)
end
end Mine
end
section
open PySem PySem.W PySem.Calls PyProof.Rows PyProof.V PySem.Spec
set_option maxRecDepth 100000
namespace Mine
theorem set_slot_next : Slot "set_iterator" "__next__" "set_iterator.__next__" :=
  .of (owner := "set_iterator") (n := "__next__") (by rw [typeLookup_type, builtinLookup_eq_fast]; kernel_rfl) (by decide +kernel) (by decide +kernel) (by decide +kernel)
    (by first | exact .inl (by decide +kernel) | exact .inr (by decide +kernel)) (by rw [isSubtype_type]; kernel_rfl)
theorem set_entry_next : entryFor table "set_iterator.__next__" = some Builtin.«set_iterator.__next__» := entryFor_of_tree (by kernel_rfl)
theorem set_owner : Manifest.owners.lookup (String.ofList ['r', 'o', 't', 'a', 'r', 'e', 't', 'i', '_', 't', 'e', 's'].reverse) = some Manifest.sig_set_iterator := by kernel_rfl
theorem set_args_next (a : Value) : argsOk "set_iterator.__next__" ⟨[a], []⟩ := by
  unfold argsOk; rw [signature?_of (id := "set_iterator.__next__") (n := ['_', '_', 't', 'x', 'e', 'n', '_', '_']) (o := ['r', 'o', 't', 'a', 'r', 'e', 't', 'i', '_', 't', 'e', 's']) (by kernel_rfl) set_owner]; kernel_rfl
theorem set_entry_iter : entryFor table "set.__iter__" = some Builtin.«frozenset.__iter__» :=
  entryFor_alias (id' := "frozenset.__iter__") (by kernel_rfl) rfl (by decide +kernel) (by kernel_rfl)
noncomputable def itObj (f : Value) (i : Nat) (S : Addr) (n ep : Nat) : Obj := { cls := .type "set_iterator", dict := none, data := .fields #[f, .int (i : Int) 0, .ref S, .int (n : Int) 0, .int (ep : Int) 0], slots := #[] }
noncomputable def SetAt (h : Heap) (S : Addr) (es : Array (Int × Value)) (ep : Nat) (t : SetTable) : Prop := ∃ o, h.get? S = some o ∧ o.ExactSet ∧ o.data = .set es ep t
theorem SetAt.keep {h h' : Heap} {S : Addr} {es : Array (Int × Value)} {ep : Nat} {t : SetTable} (x : SetAt h S es ep t) (k : ∀ o, h.get? S = some o → h'.get? S = some o) : SetAt h' S es ep t :=
  let ⟨o, h1, h2⟩ := x; ⟨o, k o h1, h2⟩
section
variable {prog : Program} {w : World} {A : Around} {E : Value → Shared → Prop} {s : Shared} {I S T : Addr} {n i ep sl : Nat} {es : Array (Int × Value)} {t : SetTable} {Q : Option Value → Shared → Prop}
theorem stop_any {R : PySem.Fin → Shared → Prop} (hh : A.handled = none) (h : ∀ h' v, (∀ b o, s.heap.get? b = some o → h'.get? b = some o) → Shared.TypeIs { s with heap := h' } v "StopIteration" → E v { s with heap := h' }) :
    wpAny (model prog w) A (newExc (.type "StopIteration") [] >>= fun e => raiseNew e) R E s := by
  refine wpAny_bind ?_
  simp only [newExc, newTuple]
  refine wpAny_bind (wpAny_newObj_type ?_ (by size_fits))
  refine wpAny_bind (m := firstArgMember _ _) (wpAny_of_eq (a := Value.none) (by first | rfl | (simp only [firstArgMember]; rfl)) ?_)
  refine wpAny_newObj_type ?_ (by size_fits)
  simp only [raiseNew]
  refine wpAny_bind (wpAny_handled ?_)
  rw [hh]
  refine wpAny_bind (wpAny_pure (wpAny_throw ?_))
  exact h _ _ (fun b o e => Heap.get?_push_of_some _ (Heap.get?_push_of_some _ e)) ⟨_, Heap.get?_push_size _ rfl, rfl⟩
theorem by_text {Q : Bool → Shared → Prop} {b : Bool} (hb : w.params.followText "set-order" = b) (h : Q b s) : wpAny (model prog w) A setsByText Q E s := by
  unfold setsByText
  refine wpAny_bind (wpAny_askSetting (wpAny_pure ?_))
  show Q (w.params.followText "set-order") s
  rw [hb]; exact h
theorem setWalk_A {Q : Array (Int × Value) → Shared → Prop} (hbt : w.params.followText "set-order" = true) (hS : SetAt s.heap S es ep t) (hf : t.fits es.size = true) (h : Q (pickOrder (w.params.setOrder S ep) es) s) : wpAny (model prog w) A (setWalk S) Q E s := by
  obtain ⟨o, hoS, hex, hdS⟩ := id hS
  unfold setWalk
  refine wpAny_bind (wpAny_setState_of hoS hdS hf ?_)
  dsimp only
  refine wpAny_bind (by_text hbt ?_)
  rw [if_pos rfl]
  exact wpAny_bind (wpAny_askSetting (wpAny_pure h))
noncomputable def OrdA (w : World) (S : Addr) (es : Array (Int × Value)) (ep : Nat) (ord : List Value) : Prop :=
  (w.params.followText "set-order" = true ∧ ord = (pickOrder (w.params.setOrder S ep) es).toList.map (·.2)) ∨ (w.params.followText "set-order" = false ∧ es = #[] ∧ ord = [])
theorem setNext_A {ord : List Value} {Q : Option (Value × Nat) → Shared → Prop} (ho : OrdA w S es ep ord) (hS : SetAt s.heap S es ep t) (hf : t.fits es.size = true) {i : Nat}
    (h : Q ((ord[i]?).map fun v => (v, sl)) s ∨ (ord[i]? = none ∧ Q none s)) : wpAny (model prog w) A (setNext S sl i ep) Q E s := by
  obtain ⟨o, hoS, hex, hdS⟩ := id hS
  have h : Q ((ord[i]?).map fun v => (v, sl)) s := by
    rcases h with h | ⟨e, h⟩
    · exact h
    · rw [e]; exact h
  unfold setNext
  refine wpAny_bind (wpAny_setState_of hoS hdS hf ?_)
  dsimp only
  rcases ho with ⟨hbt, rfl⟩ | ⟨hbt, rfl, rfl⟩
  · refine wpAny_bind (by_text hbt ?_)
    rw [if_pos rfl, if_neg (by simp)]
    refine wpAny_bind (setWalk_A hbt hS hf (wpAny_pure ?_))
    rw [List.getElem?_map, Array.getElem?_toList, Option.map_map] at h
    exact h
  · refine wpAny_bind (by_text hbt ?_)
    rw [if_neg Bool.false_ne_true, if_neg (fun hc => by
      have hc : (!t.plain && decide ((#[] : Array (Int × Value)).size > 1)) = true := hc
      simp at hc)]
    refine wpAny_bind (wpAny_of_eq (a := ()) (show (if (!t.led && !(#[] : Array (Int × Value)).isEmpty) = true then _ else pure ()) = pure () by rw [if_neg (by simp)]) ?_)
    exact wpAny_pure h
theorem next_A {ord : List Value} {v : Value} (ho : OrdA w S es ep ord) (hit : s.heap.get? I = some (itObj (.int (sl : Int) 0) i S n ep)) (hS : SetAt s.heap S es ep t) (hf : t.fits es.size = true) (hn : es.size = n) (hx : ord[i]? = some v)
    (hQ : ∀ h' sl', h'.get? I = some (itObj (.int ((sl' : Nat) : Int) 0) (i + 1) S n ep) → (∀ b o, b ≠ I → s.heap.get? b = some o → h'.get? b = some o) → Q (some v) { s with heap := h' }) : wpAny (model prog w) A (pyNext (.ref I)) Q E s := by
  obtain ⟨o, hoS, hex, hdS⟩ := id hS
  have hT : s.TypeIs (.ref I) "set_iterator" := ⟨_, hit, rfl⟩
  unfold pyNext
  refine wpAny_bind (wpAny_attempt (wpAny_callSpecial?_slot (name := Str.ofString "__next__") hT set_slot_next (wpAny_call_entry set_slot_next hT set_entry_next ?_ (set_args_next _))))
  refine wpAny_bind (wpAny_pure ?_)
  refine wpAny_bind (wpAny_fieldsOf hit rfl ?_)
  dsimp only
  refine wpAny_bind (wpAny_setEntries_of hoS hdS hf ?_)
  rw [if_neg (by simp [hn])]
  refine wpAny_bind (setNext_A (i := i) ho hS hf (.inl ?_))
  rw [hx]
  dsimp only [Option.map]
  refine wpAny_bind (wpAny_setField_rec hit (by simp) fun h1 e1 k1 => ?_)
  refine wpAny_bind (wpAny_setField_rec (s := { s with heap := h1 }) e1 (by simp) fun h2 e2 k2 => ?_)
  exact wpAny_pure ⟨_, rfl, wpAny_pure (hQ h2 sl e2 fun b o hb e => k2.extBut b o hb (k1.extBut b o hb e))⟩
theorem done_A {ord : List Value} (hh : A.handled = none) (ho : OrdA w S es ep ord) (hit : s.heap.get? I = some (itObj (.int (sl : Int) 0) i S n ep)) (hS : SetAt s.heap S es ep t) (hf : t.fits es.size = true) (hn : es.size = n) (hx : ord[i]? = none)
    (hQ : ∀ h', (∀ b o, b ≠ I → s.heap.get? b = some o → h'.get? b = some o) → Q none { s with heap := h' }) : wpAny (model prog w) A (pyNext (.ref I)) Q E s := by
  obtain ⟨o, hoS, hex, hdS⟩ := id hS
  have hT : s.TypeIs (.ref I) "set_iterator" := ⟨_, hit, rfl⟩
  unfold pyNext
  refine wpAny_bind (wpAny_attempt (wpAny_callSpecial?_slot (name := Str.ofString "__next__") hT set_slot_next (wpAny_call_entry set_slot_next hT set_entry_next ?_ (set_args_next _))))
  refine wpAny_bind (wpAny_pure ?_)
  refine wpAny_bind (wpAny_fieldsOf hit rfl ?_)
  dsimp only
  refine wpAny_bind (wpAny_setEntries_of hoS hdS hf ?_)
  rw [if_neg (by simp [hn])]
  refine wpAny_bind (setNext_A (i := i) ho hS hf (.inl ?_))
  rw [hx]
  dsimp only [Option.map]
  refine wpAny_bind (wpAny_setField_rec hit (by simp) fun h1 e1 k1 => ?_)
  refine stop_any (A := A.in1) (s := { s with heap := h1 }) hh fun h2 v k2 hv => ?_
  refine wpAny_bind (wpAny_isInstance (T := "StopIteration") (b := true) hv isSubtype_stop ?_)
  exact wpAny_pure (hQ h2 fun b o hb e => k2 b o (k1.extBut b o hb e))
noncomputable def ordB (es : Array (Int × Value)) (ps : List Nat) : List Value := ps.map fun j => (es[j]?.map (·.2)).getD .none
noncomputable def tupB (ps : List Nat) : Obj := { cls := .type "tuple", dict := none, data := .seq (List.toArray (ps.map fun j : Nat => rawInt (j : Int))), slots := #[] }
theorem next_B {ps : List Nat} {v : Value} (hT2 : s.heap.get? T = some (tupB ps)) (hp : ∀ j ∈ ps, j < es.size) (hit : s.heap.get? I = some (itObj (.ref T) i S n ep)) (hS : SetAt s.heap S es ep t) (hf : t.fits es.size = true) (hn : es.size = n) (hx : (ordB es ps)[i]? = some v)
    (hQ : ∀ h', h'.get? I = some (itObj (.ref T) (i + 1) S n ep) → (∀ b o, b ≠ I → s.heap.get? b = some o → h'.get? b = some o) → Q (some v) { s with heap := h' }) : wpAny (model prog w) A (pyNext (.ref I)) Q E s := by
  obtain ⟨o, hoS, hex, hdS⟩ := id hS
  have hT : s.TypeIs (.ref I) "set_iterator" := ⟨_, hit, rfl⟩
  obtain ⟨j, hj, hjv⟩ : ∃ j, ps[i]? = some j ∧ (es[j]?.map (·.2)).getD .none = v := by
    unfold ordB at hx
    rw [List.getElem?_map] at hx
    cases e : ps[i]? with
    | none => rw [e] at hx; cases hx
    | some j => rw [e] at hx; exact ⟨j, rfl, Option.some.inj hx⟩
  have hjl : j < es.size := hp j (List.mem_of_getElem? hj)
  unfold pyNext
  refine wpAny_bind (wpAny_attempt (wpAny_callSpecial?_slot (name := Str.ofString "__next__") hT set_slot_next (wpAny_call_entry set_slot_next hT set_entry_next ?_ (set_args_next _))))
  refine wpAny_bind (wpAny_pure ?_)
  refine wpAny_bind (wpAny_fieldsOf hit rfl ?_)
  dsimp only
  refine wpAny_bind (wpAny_setEntries_of hoS hdS hf ?_)
  rw [if_neg (by simp [hn])]
  refine wpAny_bind (wpAny_seqItems hT2 rfl ?_)
  have hg : (List.toArray (ps.map fun j : Nat => rawInt (j : Int)))[((i : Int)).toNat]? = some (.int (j : Int) 0) := by
    show (List.toArray (ps.map fun j : Nat => rawInt (j : Int)))[i]? = _
    rw [List.getElem?_toArray, List.getElem?_map, hj]; rfl
  dsimp only
  rw [hg]
  dsimp only
  refine wpAny_bind ?_
  unfold setNextDrawn
  refine wpAny_bind (wpAny_setState_of hoS hdS hf ?_)
  dsimp only
  rw [if_neg (by simp)]
  have hge : es[((j : Int)).toNat]? = some es[j] := by
    show es[j]? = _
    exact Array.getElem?_eq_getElem hjl
  rw [Array.getElem?_eq_getElem hjl] at hjv
  rw [hge]
  refine wpAny_pure ?_
  refine wpAny_bind (wpAny_setField_rec hit (by simp) fun h1 e1 k1 => ?_)
  have hjv : es[j].2 = v := hjv
  subst hjv
  exact wpAny_pure ⟨_, rfl, wpAny_pure (hQ h1 e1 fun b o hb e => k1.extBut b o hb e)⟩
theorem done_B {ps : List Nat} (hh : A.handled = none) (hT2 : s.heap.get? T = some (tupB ps)) (hit : s.heap.get? I = some (itObj (.ref T) i S n ep)) (hS : SetAt s.heap S es ep t) (hf : t.fits es.size = true) (hn : es.size = n) (hx : ps[i]? = none)
    (hQ : ∀ h', (∀ b o, b ≠ I → s.heap.get? b = some o → h'.get? b = some o) → Q none { s with heap := h' }) : wpAny (model prog w) A (pyNext (.ref I)) Q E s := by
  obtain ⟨o, hoS, hex, hdS⟩ := id hS
  have hT : s.TypeIs (.ref I) "set_iterator" := ⟨_, hit, rfl⟩
  unfold pyNext
  refine wpAny_bind (wpAny_attempt (wpAny_callSpecial?_slot (name := Str.ofString "__next__") hT set_slot_next (wpAny_call_entry set_slot_next hT set_entry_next ?_ (set_args_next _))))
  refine wpAny_bind (wpAny_pure ?_)
  refine wpAny_bind (wpAny_fieldsOf hit rfl ?_)
  dsimp only
  refine wpAny_bind (wpAny_setEntries_of hoS hdS hf ?_)
  rw [if_neg (by simp [hn])]
  refine wpAny_bind (wpAny_seqItems hT2 rfl ?_)
  have hg : (List.toArray (ps.map fun j : Nat => rawInt (j : Int)))[((i : Int)).toNat]? = none := by
    show (List.toArray (ps.map fun j : Nat => rawInt (j : Int)))[i]? = _
    rw [List.getElem?_toArray, List.getElem?_map, hx]; rfl
  dsimp only
  rw [hg]
  dsimp only
  refine wpAny_bind (wpAny_setField_rec hit (by simp) fun h1 e1 k1 => ?_)
  refine wpAny_bind (wpAny_setField_rec (s := { s with heap := h1 }) e1 (by simp) fun h2 e2 k2 => ?_)
  refine stop_any (A := A.in1) (s := { s with heap := h2 }) hh fun h3 v k3 hv => ?_
  refine wpAny_bind (wpAny_isInstance (T := "StopIteration") (b := true) hv isSubtype_stop ?_)
  exact wpAny_pure (hQ h3 fun b o hb e => k3 b o (k2.extBut b o hb (k1.extBut b o hb e)))
end
end Mine
end
section
open PySem PySem.W PySem.Calls PyProof.Rows PyProof.V PySem.Spec
set_option maxRecDepth 100000
set_option maxHeartbeats 0
namespace Mine
theorem set_slot_iter2 : Slot "set_iterator" "__iter__" "set_iterator.__iter__" :=
  .of (owner := "set_iterator") (n := "__iter__") (by rw [typeLookup_type, builtinLookup_eq_fast]; kernel_rfl) (by decide +kernel) (by decide +kernel) (by decide +kernel)
    (by first | exact .inl (by decide +kernel) | exact .inr (by decide +kernel)) (by rw [isSubtype_type]; kernel_rfl)
theorem set_entry_iter2 : entryFor table "set_iterator.__iter__" = some Builtin.«dict_keyiterator.__iter__» :=
  entryFor_alias (id' := "dict_keyiterator.__iter__") (by kernel_rfl) (by first | rfl | decide +kernel | (unfold String.splitOn; simp +decide [String.splitOnAux])) (by decide +kernel) (by kernel_rfl)
theorem set_args_iter2 (a : Value) : argsOk "set_iterator.__iter__" ⟨[a], []⟩ := by
  unfold argsOk; rw [signature?_of (id := "set_iterator.__iter__") (n := ['_', '_', 'r', 'e', 't', 'i', '_', '_']) (o := ['r', 'o', 't', 'a', 'r', 'e', 't', 'i', '_', 't', 'e', 's']) (by kernel_rfl) set_owner]; kernel_rfl
section
variable {prog : Program} {w : World} {A : Around} {E : Value → Shared → Prop} {s : Shared} {I S T : Addr} {n ep : Nat} {es : Array (Int × Value)} {t : SetTable}
theorem iter_self {f : Value} {i : Nat} {Q : Value → Shared → Prop} (hit : s.heap.get? I = some (itObj f i S n ep)) (h : Q (.ref I) s) : wpAny (model prog w) A (pyIter (.ref I)) Q E s := by
  have hT : s.TypeIs (.ref I) "set_iterator" := ⟨_, hit, rfl⟩
  refine wpAny_pyIter_slot hT set_slot_iter2 (wpAny_call_entry set_slot_iter2 hT set_entry_iter2 ?_ (set_args_iter2 _))
  show wpAny _ _ (ret (.ref I)) _ _ s
  exact wpAny_pure ⟨_, rfl, "set_iterator", _, hT, set_slot_next.lookup, h⟩
theorem walksA {ord : List Value} (hh : A.handled = none) (hne : S ≠ I) (ho : OrdA w S es ep ord) (hf : t.fits es.size = true) (hn : es.size = n) (hl : ord.length = n) :
    Walks prog w A I [I, S] [I] n (fun i v => ord[i]? = some v) (fun i h => (∃ sl : Nat, h.get? I = some (itObj (.int (sl : Int) 0) i S n ep)) ∧ SetAt h S es ep t) where
  sub := fun b hb => by simp at hb; simp [hb]
  frame := fun _ _ _ st hk => ⟨let ⟨sl, e⟩ := st.1; ⟨sl, hk I (by simp) _ e⟩, st.2.keep fun o e => hk S (by simp) o e⟩
  item := fun i s Q E hi st hQ => by
    obtain ⟨⟨sl, hit⟩, hS⟩ := st
    refine next_A (v := ord[i]) ho hit hS hf hn (by simp [hl, hi]) fun h' sl' e1 k1 => ?_
    exact hQ _ h' s.toks (by simp [hl, hi]) ⟨⟨sl', e1⟩, hS.keep fun o e => k1 S o hne e⟩ fun b o hb e => k1 b o (fun h => hb (by simp [h])) e
  done := fun s Q E st hQ => by
    obtain ⟨⟨sl, hit⟩, hS⟩ := st
    exact done_A hh ho hit hS hf hn (by simp [hl]) fun h' k => hQ h' s.toks fun b o hb e => k b o (fun h => hb (by simp [h])) e
  self := fun _ _ _ _ st hQ => let ⟨_, e⟩ := st.1; iter_self e hQ
theorem walksB {ps : List Nat} (hh : A.handled = none) (hne : S ≠ I) (hnT : T ≠ I) (hp : ∀ j ∈ ps, j < es.size) (hf : t.fits es.size = true) (hn : es.size = n) (hl : ps.length = n) :
    Walks prog w A I [I, S, T] [I] n (fun i v => (ordB es ps)[i]? = some v) (fun i h => h.get? I = some (itObj (.ref T) i S n ep) ∧ SetAt h S es ep t ∧ h.get? T = some (tupB ps)) where
  sub := fun b hb => by simp at hb; simp [hb]
  frame := fun _ _ _ st hk => ⟨hk I (by simp) _ st.1, st.2.1.keep fun o e => hk S (by simp) o e, hk T (by simp) _ st.2.2⟩
  item := fun i s Q E hi st hQ => by
    obtain ⟨hit, hS, hT⟩ := st
    have hl2 : (ordB es ps).length = n := by unfold ordB; rw [List.length_map]; exact hl
    refine next_B (v := (ordB es ps)[i]'(by rw [hl2]; exact hi)) hT hp hit hS hf hn (by simp [hl2, hi]) fun h' e1 k1 => ?_
    exact hQ _ h' s.toks (by simp [hl2, hi]) ⟨e1, hS.keep fun o e => k1 S o hne e, k1 T _ hnT hT⟩ fun b o hb e => k1 b o (fun h => hb (by simp [h])) e
  done := fun s Q E st hQ => by
    obtain ⟨hit, hS, hT⟩ := st
    exact done_B hh hT hit hS hf hn (by simp [hl]) fun h' k => hQ h' s.toks fun b o hb e => k b o (fun h => hb (by simp [h])) e
  self := fun _ _ _ _ st hQ => iter_self st.1 hQ
theorem ordA_of (w : World) (S : Addr) (es : Array (Int × Value)) (ep : Nat) (hb : w.params.followText "set-order" = true) : OrdA w S es ep ((pickOrder (w.params.setOrder S ep) es).toList.map (·.2)) := .inl ⟨hb, rfl⟩
theorem ordB_perm {ps : List Nat} (h : ps.Perm (List.range es.size)) : (ordB es ps).Perm (es.toList.map (·.2)) := by
  refine (h.map _).trans ?_
  have : (List.range es.size).map (fun j => (es[j]?.map (·.2)).getD .none) = es.toList.map (·.2) := by
    refine List.ext_getElem? fun i => ?_
    rw [List.getElem?_map, List.getElem?_map]
    by_cases hi : i < es.size
    · rw [List.getElem?_range hi]; simp [hi]
    · rw [List.getElem?_eq_none (by rw [List.length_range]; omega), List.getElem?_eq_none (by rw [Array.length_toList]; omega)]; rfl
  rw [this]
theorem iter_set {ks : List Str} {Q : Value → Shared → Prop} (hS : SetP prog w s.heap S ks) (hn1 : ks.length ≠ 1)
    (hQ : ∀ (I : Addr) (h' : Heap) d (fp : List Addr) (ord : List Value) (St : Nat → Heap → Prop), (∀ b o, s.heap.get? b = some o → h'.get? b = some o) → s.heap.objs.size ≤ I → I < h'.objs.size →
      (∀ b ∈ fp, b < h'.objs.size ∧ (b = S ∨ s.heap.objs.size ≤ b)) → ord.length = ks.length → (ord.map strOf).Perm ks → (∀ v ∈ ord, ∃ x t, v = .str x t) →
      (∀ A' : Around, A'.handled = none → Walks prog w A' I fp [I] ks.length (fun i v => ord[i]? = some v) St) → St 0 h' → Q (.ref I) { s with heap := h', drawn := d }) :
    wpAny (model prog w) A (pyIter (.ref S)) Q E s := by
  obtain ⟨o, es, ep, t, hoS, hex, hdS, hel, hk, hnd, hb, hf, hpl⟩ := hS
  have hT : s.TypeIs (.ref S) "set" := ⟨o, hoS, hex.1⟩
  have hlS : S < s.heap.objs.size := Heap.lt_size hoS
  have hlen : es.size = ks.length := by have := hk.length_eq; rwa [List.length_map, Array.length_toList] at this
  have hstr : ∀ e ∈ es.toList, ∃ x t, e.2 = Value.str x t := fun e he => by
    obtain ⟨⟨k, hk, _⟩, _⟩ := hel e he
    obtain ⟨u, hu⟩ := Value.isStrOf_shape hk
    exact ⟨k, u, hu⟩
  have hord : ∀ ord : List Value, ord.Perm (es.toList.map (·.2)) → ord.length = ks.length ∧ (ord.map strOf).Perm ks ∧ ∀ v ∈ ord, ∃ x t, v = .str x t := fun ord hp => by
    refine ⟨by rw [hp.length_eq, List.length_map, Array.length_toList, hlen], (hp.map strOf).trans ?_, fun v hv => ?_⟩
    · rw [List.map_map]; exact hk
    · obtain ⟨e, he, rfl⟩ := List.mem_map.mp (hp.mem_iff.mp hv)
      exact hstr e he
  refine wpAny_pyIter_slot hT PySem.F.slot_set_iter (wpAny_call_entry PySem.F.slot_set_iter hT set_entry_iter ?_ (PySem.F.args_set_iter_1 _))
  unfold Builtin.«frozenset.__iter__» Builtin.Frozenset.slot0 slotArgs
  simp only [List.isEmpty_nil, Bool.not_true, Bool.false_eq_true, ↓reduceIte, bind_assoc, List.length_nil, bne_self_eq_false]
  unfold Builtin.Frozenset.addrOf Builtin.Frozenset.sizeOf
  refine wpAny_bind (wpAny_pure ?_)
  try dsimp only
  refine wpAny_bind (wpAny_pure ?_)
  simp only [bind_assoc, pure_bind]
  refine wpAny_bind (wpAny_setEntries_of hoS hdS hf ?_)
  unfold setDrawn
  simp only [bind_assoc, pure_bind]
  refine wpAny_bind (wpAny_setState_of hoS hdS hf ?_)
  dsimp only
  have plainCase : ∀ ord, OrdA w S es ep ord → ord.Perm (es.toList.map (·.2)) → wpAny (model prog w) A.in1 (do
          let ep ← setEpoch S
          let it ← newFields "set_iterator" [rawInt 0, rawInt 0, Value.ref S, rawInt (es.size : Int), rawInt (ep : Int)]
          ret it) (fun fin s' => ∃ v, fin = PySem.Fin.done (Flow.ret v) ∧ ∃ T' r, s'.TypeIs v T' ∧ typeLookup (Value.type T') (Str.ofString "__next__") = pure (some r) ∧ Q v s') E s := by
    intro ord ho hp
    obtain ⟨g1, g2, g3⟩ := hord ord hp
    refine wpAny_bind (wpAny_setEpoch_of hoS hdS hf ?_)
    unfold newFields
    refine wpAny_bind (wpAny_newObj_type ?_)
    have hI : (s.heap.push (itObj (.int ((0 : Nat) : Int) 0) 0 S es.size ep)).get? s.heap.objs.size = some (itObj (.int ((0 : Nat) : Int) 0) 0 S es.size ep) := Heap.get?_push_size _ rfl
    refine wpAny_pure ⟨_, rfl, "set_iterator", _, ⟨_, hI, rfl⟩, set_slot_next.lookup, ?_⟩
    refine hQ s.heap.objs.size (s.heap.push (itObj (.int ((0 : Nat) : Int) 0) 0 S es.size ep)) s.drawn [s.heap.objs.size, S] ord (fun i h => (∃ sl : Nat, h.get? s.heap.objs.size = some (itObj (.int (sl : Int) 0) i S es.size ep)) ∧ SetAt h S es ep t) (fun b o e => Heap.get?_push_of_some _ e) (Nat.le_refl _) (by rw [Heap.size_push]; exact Nat.lt_succ_self _) (fun b hb => ?_) g1 g2 g3 (fun A' hA => by rw [← hlen]; exact walksA hA (Nat.ne_of_lt hlS) ho hf rfl (g1.trans hlen.symm)) ⟨⟨0, hI⟩, o, Heap.get?_push_of_some _ hoS, hex, hdS⟩
    simp only [List.mem_cons, List.not_mem_nil, or_false] at hb
    rw [Heap.size_push]
    rcases hb with rfl | rfl
    · exact ⟨Nat.lt_succ_self _, .inr (Nat.le_refl _)⟩
    · exact ⟨Nat.lt_succ_of_lt hlS, .inl rfl⟩
  cases hbt : w.params.followText "set-order" with
  | true =>
    refine wpAny_bind (by_text hbt ?_)
    rw [if_neg (by simp)]
    exact plainCase _ (ordA_of w S es ep hbt) ((pick_perm _ es).map _)
  | false =>
    refine wpAny_bind (by_text hbt ?_)
    by_cases h0 : es.size = 0
    · rw [if_neg (fun hc => by
        have hc : (true && (!t.plain && decide (es.size > 1))) = true := hc
        simp [h0] at hc)]
      have he : es = #[] := Array.eq_empty_of_size_eq_zero h0
      exact plainCase [] (.inr ⟨hbt, he, rfl⟩) (by rw [he]; exact .refl _)
    · have hp : t.plain = false := hpl.resolve_left h0
      rw [if_pos (by
        show (true && (!t.plain && decide (es.size > 1))) = true
        rw [hp]
        simp
        omega)]
      refine wpAny_bind (wpAny_drawOrder _ _ (by rw [List.length_range]) fun ps d hps => ?_)
      have hpl2 : ps.length = es.size := by rw [hps.length_eq, List.length_range]
      refine wpAny_bind (wpAny_newTuple ?_ (by rw [List.length_map, hpl2]; exact fits_of_scanBound hb))
      have k1 : ∀ b o, s.heap.get? b = some o → (s.heap.push (tupB ps)).get? b = some o := fun b o e => Heap.get?_push_of_some _ e
      refine wpAny_bind (wpAny_setEpoch_of (k1 _ _ hoS) hdS hf ?_)
      unfold newFields
      refine wpAny_bind (wpAny_newObj_type ?_)
      have hI : ((s.heap.push (tupB ps)).push (itObj (.ref s.heap.objs.size) 0 S es.size ep)).get? (s.heap.push (tupB ps)).objs.size = some (itObj (.ref s.heap.objs.size) 0 S es.size ep) := Heap.get?_push_size _ rfl
      refine wpAny_pure ⟨_, rfl, "set_iterator", _, ⟨_, hI, rfl⟩, set_slot_next.lookup, ?_⟩
      obtain ⟨g1, g2, g3⟩ := hord _ (ordB_perm hps)
      have hz : (s.heap.push (tupB ps)).objs.size = s.heap.objs.size + 1 := Heap.size_push ..
      have hp2 : ∀ j ∈ ps, j < es.size := fun j hj => List.mem_range.mp (hps.mem_iff.mp hj)
      have hWB : ∀ A' : Around, A'.handled = none → Walks prog w A' (s.heap.push (tupB ps)).objs.size [(s.heap.push (tupB ps)).objs.size, S, s.heap.objs.size] [(s.heap.push (tupB ps)).objs.size] es.size (fun i v => (ordB es ps)[i]? = some v) (fun i h => h.get? (s.heap.push (tupB ps)).objs.size = some (itObj (.ref s.heap.objs.size) i S es.size ep) ∧ SetAt h S es ep t ∧ h.get? s.heap.objs.size = some (tupB ps)) := fun A' hA =>
        walksB hA (by rw [hz]; exact Nat.ne_of_lt (Nat.lt_succ_of_lt hlS)) (by rw [hz]; exact Nat.ne_of_lt (Nat.lt_succ_self _)) hp2 hf rfl hpl2
      refine hQ (s.heap.push (tupB ps)).objs.size ((s.heap.push (tupB ps)).push (itObj (.ref s.heap.objs.size) 0 S es.size ep)) d [(s.heap.push (tupB ps)).objs.size, S, s.heap.objs.size] (ordB es ps) (fun i h => h.get? (s.heap.push (tupB ps)).objs.size = some (itObj (.ref s.heap.objs.size) i S es.size ep) ∧ SetAt h S es ep t ∧ h.get? s.heap.objs.size = some (tupB ps)) (fun b o e => Heap.get?_push_of_some _ (k1 b o e)) (Nat.le_trans (Nat.le_succ _) (Nat.le_of_eq hz.symm)) (Nat.lt_of_lt_of_eq (Nat.lt_succ_self _) (Heap.size_push _ _).symm) (fun b hb => ?_) g1 g2 g3 (fun A' hA => by rw [← hlen]; exact hWB A' hA) ⟨hI, ⟨o, Heap.get?_push_of_some _ (k1 _ _ hoS), hex, hdS⟩, Heap.get?_push_of_some _ (Heap.get?_push_size _ rfl)⟩
      simp only [List.mem_cons, List.not_mem_nil, or_false] at hb
      have hz2 : ((s.heap.push (tupB ps)).push (itObj (.ref s.heap.objs.size) 0 S es.size ep)).objs.size = s.heap.objs.size + 1 + 1 := by rw [Heap.size_push, hz]
      rw [hz2]
      rcases hb with rfl | rfl | rfl
      · rw [hz]; exact ⟨Nat.lt_succ_self _, .inr (Nat.le_succ _)⟩
      · exact ⟨Nat.lt_succ_of_lt (Nat.lt_succ_of_lt hlS), .inl rfl⟩
      · exact ⟨Nat.lt_succ_of_lt (Nat.lt_succ_self _), .inr (Nat.le_refl _)⟩
end
end Mine
end
section
open PySem PySem.W PySem.Calls PyProof.Rows PyProof.V PySem.Spec
set_option maxRecDepth 100000
set_option maxHeartbeats 0
namespace Mine
section
variable {prog : Program} {w : World} {A : Around} {E : Value → Shared → Prop} {s : Shared} {r : Addr} {ks : List Str} {h₀ : Heap} {L : Addr} {m : Str → Option Value} {news : List (Addr × Obj)}
theorem SetP.typeIs (hS : SetP prog w s.heap r ks) : s.TypeIs (.ref r) "set" := let ⟨o, _, _, _, h1, h2, _⟩ := hS; ⟨o, h1, h2.1⟩
theorem SetP.keep {h h' : Heap} (hS : SetP prog w h r ks) (k : ∀ o, h.get? r = some o → h'.get? r = some o) : SetP prog w h' r ks := let ⟨o, es, ep, t, h1, h2⟩ := hS; ⟨o, es, ep, t, k o h1, h2⟩
theorem hint_set {Q : Bool → Shared → Prop} (hT : s.TypeIs (.ref r) "set") (h : Q false s) : wpAny (model prog w) A (Builtin.List.listLengthHint (.ref r)) Q E s := by
  unfold Builtin.List.listLengthHint
  refine wpAny_bind (wpAny_specialOf hT PySem.F.slot_set_len.lookup ?_)
  generalize hid : ("set.__len__" : String) = id0
  wp_delta
  rw [show splitId id0 = some ("set", "__len__") from by subst hid; decide +kernel]
  subst hid
  refine wpAny_bind (wpAny_isInstance (T := "set") (b := true) hT (by rw [isSubtype_type]; kernel_rfl) ?_)
  refine wpAny_ite_split (fun hab => absurd hab (by decide)) (fun _ => ?_)
  refine wpAny_ite_split (fun _ => ?_) (fun hab => absurd (by decide +kernel) hab)
  refine wpAny_bind (wpAny_typeOf hT ?_)
  exact wpAny_pure h
theorem extend_set {R : Result → Shared → Prop} (hS : SetP prog w s.heap r ks) (hn1 : ks.length ≠ 1) (hn : ks.length ≤ sizeLine) (hh : A.handled = none) (S : Addr) (hSr : S ≠ r) (res : Value) (c₀ : Nat) (hD : s.heap.get? S = some { cls := .type "list", data := .seq #[] c₀ })
    (hR : ∀ h' d tk (ord : List Value) c', (∀ b o, b ≠ S → s.heap.get? b = some o → h'.get? b = some o) → h'.get? S = some { cls := .type "list", dict := none, data := .seq ord.toArray c', slots := #[] } → ord.length = ks.length → (ord.map strOf).Perm ks → (∀ v ∈ ord, ∃ x t, v = .str x t) → R (.ok (.ret res)) { s with heap := h', drawn := d, toks := tk }) :
    wpAny (model prog w) A.in1 (Builtin.List.listExtendWith (.ref S) (.ref r) res)
      (fun fin s' => match fin with | .done f => R (.ok f) s' | .again c' => c'.quiet = true ∧ codeAny (model prog w) A c' R s') (fun e s' => R (.error e) s') s := by
  have hSlt : S < s.heap.objs.size := Heap.lt_size hD
  unfold Builtin.List.listExtendWith
  refine wpAny_bind (wpAny_typeOf hS.typeIs ?_)
  have h1 : Builtin.List.listSameRef (.ref S) (.ref r) = false := by simp [Builtin.List.listSameRef, hSr]
  have h2 : (Value.type "set" == Value.type "list") = false := by decide
  have h3 : (Value.type "set" == Value.type "tuple") = false := by decide
  simp only [h1, h2, h3, Bool.or_false, Bool.false_eq_true, if_false]
  refine wpAny_bind (iter_set hS hn1 fun I h₁ d fp ord St k₁ hI1 hI2 hfp g1 g2 g3 W st => ?_)
  have hSI : S ≠ I := Nat.ne_of_lt (Nat.lt_of_lt_of_le hSlt hI1)
  have hSf : S ∉ fp := fun hm => by
    rcases (hfp S hm).2 with e | e
    · exact hSr e
    · exact absurd hSlt (Nat.not_lt.mpr e)
  have hS₁ := k₁ _ _ hD
  have key : ∀ (h : Heap) (c₁ tk : Nat), St 0 h → (∀ b o, b ≠ S → s.heap.get? b = some o → h.get? b = some o) →
      h.get? S = some { cls := .type "list", data := .seq #[] c₁ } → codeAny (model prog w) A (.builtin "list.extend.loop" ⟨[.ref S, .ref I, res], []⟩) R { s with heap := h, drawn := d, toks := tk } := by
    intro h c₁ tk hst hk hS₁
    refine codeAny_extend_loopS (W A.in1 hh).toS hn S hSf res ks.length 0 _ #[] c₁ rfl (Nat.zero_le _) hst hS₁ (ItemsOf.nil _) fun s' acc' c' hm hS' hacc => ?_
    rw [Moved.eq_with hm]
    have hao : acc' = ord.toArray := by
      refine Array.ext_getElem? fun j => ?_
      by_cases hj : j < ks.length
      · have hja : j < acc'.size := by rw [hacc.1]; exact hj
        have e1 := hacc.2 j _ (Array.getElem?_eq_getElem hja)
        rw [Array.getElem?_eq_getElem hja, List.getElem?_toArray]
        exact e1.symm
      · rw [Array.getElem?_eq_none (by rw [hacc.1]; omega), Array.getElem?_eq_none (by rw [List.size_toArray, g1]; omega)]
    rw [hao] at hS'
    refine hR s'.heap d s'.toks ord c' (fun b o hb e => hm.heap b o (fun hmem => ?_) (hk b o hb e)) hS' g1 g2 g3
    rcases List.mem_cons.mp hmem with e' | hmem
    · exact hb e'
    · exact absurd (Heap.lt_size e) (by rw [List.mem_singleton.mp hmem]; exact Nat.not_lt.mpr hI1)
  refine wpAny_bind (wpAny_holding (hint_set ((hS.keep fun o e => k₁ _ _ e).typeIs (s := { s with heap := h₁, drawn := d })) ?_))
  refine wpAny_ite_split (fun _ => ?_) (fun _ => wpAny_pure ⟨plainId_quiet PySem.F.plain_extend_loop _, key _ c₀ _ st (fun b o _ e => k₁ b o e) hS₁⟩)
  refine wpAny_bind (wpAny_rule ?_)
  refine wpAny_bind ?_
  show wpAny _ _ (updateSeq S (·.push .none) >>= fun _ => updateSeq S (·.pop)) _ _ _
  refine wpAny_bind (wpAny_updateSeq hS₁ rfl ?_)
  have hS₂ := Heap.get?_update_self (Obj.mapSeq (·.push Value.none)) hS₁ rfl
  refine wpAny_updateSeq (hz := by seq_fits) hS₂ rfl ?_
  have hS₃ := Heap.get?_update_self (Obj.mapSeq (·.pop)) hS₂ rfl
  refine wpAny_pure ⟨plainId_quiet PySem.F.plain_extend_loop _, key _ _ _ ?_ (fun b o hb e => ?_) hS₃⟩
  · refine (W A.in1 hh).frame 0 _ _ st fun b hb o e => ?_
    have hbS : b ≠ S := fun h => hSf (h ▸ hb)
    exact (Heap.get?_update_other _ _ (Ne.symm hbS)).trans ((Heap.get?_update_other _ _ (Ne.symm hbS)).trans e)
  · exact (Heap.get?_update_other _ _ (Ne.symm hb)).trans ((Heap.get?_update_other _ _ (Ne.symm hb)).trans (k₁ _ _ e))
theorem collect_set {R : List Value → Shared → Prop} (hS : SetP prog w s.heap r ks) (hn1 : ks.length ≠ 1) (hn : ks.length ≤ sizeLine) (hh : A.handled = none)
    (h : ∀ (h' : Heap) d (tk : Nat) (ord : List Value), (∀ b o, s.heap.get? b = some o → h'.get? b = some o) → ord.length = ks.length → (ord.map strOf).Perm ks → (∀ v ∈ ord, ∃ x t, v = .str x t) → R ord { s with heap := h', drawn := d, toks := tk }) :
    wpAny (model prog w) A (collect (.ref r)) R E s := by
  have hlt : r < s.heap.objs.size := by obtain ⟨o, _, _, _, h1, _⟩ := id hS; exact Heap.lt_size h1
  unfold collect
  refine wpAny_bind (wpAny_runValue (codeAny_builtin entry_proto_collect' ?_))
  rw [Around.under_plainId PySem.F.plain_proto_collect _]
  show wpAny _ A.in1 (newList [] >>= fun l => again (.builtin "list.__iadd__" ⟨[l, .ref r], []⟩)) _ _ s
  refine wpAny_bind (wpAny_newObj_type ?_)
  refine wpAny_pure ⟨plainId_quiet PySem.F.plain_list_iadd _, codeAny_builtin entry_list_iadd' ?_⟩
  rw [Around.under_plainId PySem.F.plain_list_iadd _]
  have hS₁ : (s.heap.push { cls := .type "list", data := .seq ([] : List Value).toArray }).get? s.heap.objs.size = some { cls := .type "list", data := .seq #[] } := Heap.get?_push_size _ rfl
  show wpAny _ A.in1 (Builtin.List.listExtendWith (.ref s.heap.objs.size) (.ref r) (.ref s.heap.objs.size)) _ _ _
  have key := extend_set (A := A) (s := { s with heap := s.heap.push { cls := .type "list", data := .seq ([] : List Value).toArray } })
    (R := fun (q : Result) (s' : Shared) => ∃ (h' : Heap) (d : Drawn) (tk : Nat) (ord : List Value) (c' : Nat), q = .ok (.ret (.ref s.heap.objs.size)) ∧ s' = { s with heap := h', drawn := d, toks := tk } ∧
      (∀ b o, s.heap.get? b = some o → h'.get? b = some o) ∧ h'.get? s.heap.objs.size = some { cls := .type "list", dict := none, data := .seq ord.toArray c', slots := #[] } ∧ ord.length = ks.length ∧ (ord.map strOf).Perm ks ∧ (∀ v ∈ ord, ∃ x t, v = .str x t))
    (hS.keep fun o e => Heap.get?_push_of_some _ e) hn1 hn hh s.heap.objs.size (Nat.ne_of_gt hlt) (.ref s.heap.objs.size) 0 hS₁
    (fun h' d tk ord c' hk hS' g1 g2 g3 => ⟨h', d, tk, ord, c', rfl, rfl, fun b o e => hk b o (Nat.ne_of_lt (Heap.lt_size e)) (Heap.get?_push_of_some _ e), hS', g1, g2, g3⟩)
  refine wpAny_mono key (fun fin s' x => ?_) fun e s' x => ?_
  · cases fin with
    | done f =>
      obtain ⟨h', d, tk, ord, c', e, rfl, hk, hS', g1, g2, g3⟩ := x
      cases e
      show wpAny _ A (load s.heap.objs.size >>= _) _ _ _
      refine wpAny_bind (wpAny_load hS' ?_)
      exact wpAny_pure (h h' d tk ord hk g1 g2 g3)
    | again c₁ =>
      refine ⟨x.1, codeAny_mono x.2 fun q s₂ y => ?_⟩
      obtain ⟨h', d, tk, ord, c', rfl, rfl, hk, hS', g1, g2, g3⟩ := y
      show wpAny _ A (load s.heap.objs.size >>= _) _ _ _
      refine wpAny_bind (wpAny_load hS' ?_)
      exact wpAny_pure (h h' d tk ord hk g1 g2 g3)
  · obtain ⟨_, _, _, _, _, e', _⟩ := x
    cases e'
theorem sorted_set {Q : Value → Shared → Prop} (hh : A.handled = none) (F : Fr h₀ L s.heap m) (N : News h₀ L s.heap news) (hS : SetP prog w s.heap r ks) (hn1 : ks.length ≠ 1) (h64 : ks.length < 64)
    (h : ∀ D h' d tk vs ss e, Fr h₀ L h' m → News h₀ L h' ((D, W.listOf (List.toArray vs) e) :: news) → (∀ q ∈ news, q.1 < D) → StrsAre vs ss → ss.Perm ks → sortedS ss = true → Q (.ref D) { s with heap := h', drawn := d, toks := tk }) :
    wpAny (model prog w) A (call (.builtin "sorted") [.ref r]) Q E s := by
  refine call_function_entry kind_sorted plain_sorted entry_sorted (args_sorted1 _) ?_
  unfold Builtin.«sorted»
  refine wpAny_bind (m := checkCount "sorted" 1 1 _) (wpAny_pure ?_)
  have hn : ks.length ≤ sizeLine := Nat.le_trans (Nat.le_of_lt h64) (by decide)
  refine wpAny_bind (collect_set (A := A.in1) hS hn1 hn hh fun h₁ d tk ord hk g1 g2 g3 => ?_)
  refine wpAny_bind (wpAny_newList ?_ (by rw [g1]; exact hn))
  have hSA := strsAre_map ord g3
  have hoL : (h₁.push (seqObj "list" ord.toArray 0)).get? h₁.objs.size = some (seqObj "list" ord.toArray 0) := Heap.get?_push_size _ rfl
  have hlt : ∀ q ∈ news, q.1 < h₁.objs.size := fun q hq => Heap.lt_size (hk _ _ (N q hq).1)
  refine wpAny_bind (wpAny_holding (wpAny_call_entry slot_list_sort ⟨_, hoL, rfl⟩ entry_list_sort (list_sort_treeK strKind_oneLt hoL hSA.keysOf (fun v₁ v₂ rest e => keyKind_strs (by rw [← e]; exact hSA)) (by rw [g1]; exact h64) fun st' a1 a2 => ⟨_, rfl, ?_⟩) (args_list_sort _)))
  refine wpAny_pure ⟨_, rfl, ?_⟩
  obtain ⟨ss', q1, q2, q3⟩ := sorted_out_str hSA a1 a2
  obtain ⟨e, he⟩ := sortedHeap_at hoL (out := (arrOf st').map (·.2))
  have hold : ∀ b o, s.heap.get? b = some o → (sortedHeap (h₁.push (seqObj "list" ord.toArray 0)) h₁.objs.size ord ((arrOf st').map (·.2))).get? b = some o := fun b o e => by
    have e1 := hk b o e
    have e2 : (h₁.push (seqObj "list" ord.toArray 0)).get? b = some o := Heap.get?_push_of_some _ e1
    rw [sortedHeap_old (Nat.ne_of_lt (Heap.lt_size e1)) (Heap.lt_size e2)]
    exact e2
  refine h h₁.objs.size _ d tk ((arrOf st').map (·.2)).toList ss' e (F.keeps hold) (fun p hp => ?_) hlt q1 (q2.trans g2) q3
  rcases List.mem_cons.mp hp with rfl | hp
  · obtain ⟨oL, _, _, hL, _⟩ := F.ns
    refine ⟨he, Nat.ne_of_gt (Heap.lt_size (hk _ _ hL)), ?_⟩
    cases hq : h₀.get? h₁.objs.size with
    | none => rfl
    | some o => exact absurd (Heap.lt_size (hk _ _ (F.keep _ _ hq))) (Nat.lt_irrefl _)
  · exact ⟨hold _ _ (N p hp).1, (N p hp).2⟩
end
end Mine
end
section
open PySem PySem.W PySem.Calls PyProof.Rows PyProof.V PySem.Spec
set_option maxRecDepth 100000
set_option maxHeartbeats 0
namespace Mine
section
variable {w : World} {mean : ExcName → Option Value} {mg mb : Str → Option Value} {dp un : Nat} {gd : Option (List Code)} {cn : Str} {cs : Scope} {a : Addr} {ccd : Value} {cl : List (Str × Addr)} {outer : List Env} {A₀ : Around} {base h₀ : Heap} {L : Addr} {m : Str → Option Value} {news : List (Addr × Obj)} {s : Shared} {Q E : Value → Shared → Prop}
theorem report_call {DR : Addr} {its : List Value} {n : Nat} {ds : List Int} {o : Obj} (B : Below A₀ base outer h₀) (F : Fr h₀ L s.heap m) (X : (K w.params).In h₀) (N : News h₀ L s.heap news) (T : Top qV (looseW qV looseV) mean mg mb h₀) (hk : cs.kind = .function)
    (hm : (DR, o) ∈ news) (ho1 : o.cls = .type "list") (ho2 : o.data = .seq its.toArray n) (hv : Paired IsInt its ds) (hl : ds.length = 10) (hd : dp + 4 < recursionLimit) (hu : un + 8 * 4 < cLine)
    (ret : ∀ t' h' tk', Fr h₀ L h' m → News h₀ L h' news → Q (.str (reportF ds (pairsTo 5)) t') { s with heap := h', toks := tk' }) :
    wpAny (model rwP w) (ktrTop dp un gd cn cs L a ccd cl outer) (call (.ref 276) [.ref DR]) Q E s := by
  refine tellsN_use (c := cReport) (d := ds) B F X N T hk ⟨_, rfl, DR, o, its, n, rfl, hm, ho1, ho2, hv⟩ (report_tells w mean mg mb ds) hl hd hu fun r tl h' tk' F' N' _ ht ho => ?_
  obtain ⟨t', rfl⟩ := ho
  have ht : tl = [] := ht
  subst ht
  rw [List.append_nil] at N'
  exact ret t' h' tk' F' N'
theorem due_call {DR : Addr} {its : List Value} {n : Nat} {ds : List Int} {o : Obj} (B : Below A₀ base outer h₀) (F : Fr h₀ L s.heap m) (X : (K w.params).In h₀) (N : News h₀ L s.heap news) (T : Top qV (looseW qV looseV) mean mg mb h₀) (hk : cs.kind = .function)
    (hm : (DR, o) ∈ news) (ho1 : o.cls = .type "list") (ho2 : o.data = .seq its.toArray n) (hv : Paired IsInt its ds) (hl : ds.length = 10) (hd : dp + 4 < recursionLimit) (hu : un + 8 * 4 < cLine)
    (ret : ∀ D o' xs n' tl h' tk', Fr h₀ L h' m → News h₀ L h' (news ++ tl) → (∀ q ∈ news, ∀ p ∈ tl, q.1 < p.1) → (D, o') ∈ news ++ tl → o'.cls = .type "list" → o'.data = .seq (List.toArray xs) n' → Paired IsInt xs (dueF ds (pairsTo 5) ++ [0]) → Q (.ref D) { s with heap := h', toks := tk' }) :
    wpAny (model rwP w) (ktrTop dp un gd cn cs L a ccd cl outer) (call (.ref 288) [.ref DR]) Q E s := by
  refine tellsN_use (c := cDue) (d := ds) B F X N T hk ⟨_, rfl, DR, o, its, n, rfl, hm, ho1, ho2, hv⟩ (due_tells w mean mg mb ds) hl hd hu fun r tl h' tk' F' N' hlt _ ho => ?_
  obtain ⟨D, o', xs, n', rfl, h1, h2, h3, h4⟩ := ho
  exact ret D o' xs n' tl h' tk' F' N' hlt h1 h2 h3 h4
end
section
variable {prog : Program} {w : World} {A : Around} {E : Value → Shared → Prop} {s : Shared} {h : Heap}
theorem ints_of : ∀ {vs : List Value} {ds : List Int}, Paired IsInt vs ds → IntsAre vs ds
  | _, _, .nil => .nil
  | _, _, .cons ⟨t, e⟩ r => by
    subst e
    exact .cons _ t (ints_of r)
theorem strs_eq {a b : Addr} {xs ys : Array Value} {ss ts : List Str} {Q : Value → Shared → Prop} (ha : s.heap.IsList a xs) (hb : s.heap.IsList b ys) (hx : Paired IsStr xs.toList ss) (hy : Paired IsStr ys.toList ts)
    (ks : ss.all PyData.strOk = true) (kt : ts.all PyData.strOk = true) (hu : A.units + 64 < cLine) (h : Q (.bool (decide (ss = ts))) s) : wpAny (model prog w) A (compareOp .Eq (.ref a) (.ref b)) Q E s := by
  refine eq_dataH (reads_strs ha hx) (reads_strs hb hy) (shaped_strs ks) (shaped_strs kt) hu ?_
  have e : PyData.eqv (.list (ss.map PyData.str)) (.list (ts.map PyData.str)) = decide (ss = ts) := by
    rw [← SeqAt.same_eq_eqv _ _ (by simp only [SeqAt.noMix]; exact noMix_strs ss ts)]
    simp only [PySem.Spec.same]
    exact sameAll_strs ss ts
  rw [e]
  exact h
end
section
variable {prog : Program} {w : World} {A : Around} {E : Value → Shared → Prop} {s : Shared} {h₀ : Heap} {L : Addr} {m : Str → Option Value} {news : List (Addr × Obj)}
theorem ne_dueL {S D : Addr} {o o' : Obj} {its : Array Value} {xs : List Value} {n n' : Nat} {ds : List Int} {Q : Value → Shared → Prop} (N : News h₀ L s.heap news) (hS : (S, o) ∈ news) (hD : (D, o') ∈ news) (h1 : o.cls = .type "list") (h2 : o.data = .seq its n) (h3 : Paired IsInt its.toList ds)
    (g1 : o'.cls = .type "list") (g2 : o'.data = .seq (List.toArray xs) n') (g3 : Paired IsInt xs ds) (hu : A.units + 64 < cLine) (h : Q (.bool false) s) :
    wpAny (model prog w) A (compareOp .NotEq (.ref S) (.ref D)) Q E s := by
  refine ke_ne_ints (xs := its.toList) (by simpa using isList_of N hS h1 h2) (isList_of N hD g1 g2) (ints_of h3) (ints_of g3) hu ?_
  simpa using h
end
end Mine
end
section
open PySem PySem.W PySem.Calls PyProof.Rows PyProof.V PySem.Spec
set_option maxRecDepth 100000
set_option maxHeartbeats 0
namespace Mine
theorem strs_eqAtT {A : Around} {s : Shared} {a b : Addr} {xs ys : Array Value} {ss : List Str} (ha : s.heap.IsList a xs) (hb : s.heap.IsList b ys) (hx : Paired IsStr xs.toList ss) (hy : Paired IsStr ys.toList ss)
    (ks : ss.all PyData.strOk = true) (hu : A.in1.units + 64 < cLine) : SeqAt.EqAt A.in1 s (.ref a) (.ref b) true := by
  have := strs_eqAt ha hb hx hy ks ks hu
  rwa [decide_eq_true rfl] at this
noncomputable def whoS (i : Nat) : Str := { cps := #[(if i % 2 = 0 then 65 else 97) + i] }
theorem who_name {i c : Nat} (hi : i < 5) (h : (Str.ofString "AbCdE").cps[i]? = some c) : ({ cps := #[c] } : Str) = whoS i := by
  have : ∀ i, i < 5 → (Str.ofString "AbCdE").cps[i]? = some ((if i % 2 = 0 then 65 else 97) + i) := by decide +kernel
  rw [this i hi] at h
  rw [← Option.some.inj h]
  rfl
theorem who11 : ∀ i, i < 5 → whoS i ∈ names11 := by decide +kernel
theorem who_low : ∀ i, i < 5 → Txt.lower (whoS i) = nameS i := by decide +kernel
noncomputable def wonG (ds : List Int) : List (Str × List Str) := (List.range 5).map fun i => (nameS i, wonBy (whoS i) (gamesTo ds 10))
theorem wonG_succ {ds : List Int} {i : Nat} (hi : i < 5) : (wonG ds).take (i + 1) = (wonG ds).take i ++ [(nameS i, wonBy (whoS i) (gamesTo ds 10))] := by
  have e : (wonG ds)[i]? = some (nameS i, wonBy (whoS i) (gamesTo ds 10)) := by
    unfold wonG
    rw [List.getElem?_map, List.getElem?_range hi]
    rfl
  rw [List.take_add_one, e]
  rfl
theorem wonG_new {ds : List Int} {i : Nat} (hi : i < 5) : nameS i ∉ ((wonG ds).take i).map (·.1) := by
  have h1 : (wonG ds).map (·.1) = (List.range 5).map nameS := by
    unfold wonG
    rw [List.map_map]
    rfl
  rw [List.map_take, h1]
  have : ∀ i, i < 5 → nameS i ∉ ((List.range 5).map nameS).take i := by decide +kernel
  exact this i hi
theorem games_len (ds : List Int) : (gamesTo ds 10).length = 11 := by
  unfold gamesTo
  rw [List.length_cons, List.length_map, List.length_range]
theorem games11 (ds : List Int) : ∀ d ∈ gamesTo ds 10, d.1 ∈ names11 ∧ d.2 ∈ names11 := by
  intro d hd
  unfold gamesTo at hd
  rcases List.mem_cons.mp hd with rfl | hd
  · exact ⟨by decide +kernel, by decide +kernel⟩
  · obtain ⟨j, hj, rfl⟩ := List.mem_map.mp hd
    have hj := List.mem_range.mp hj
    have hp : ∀ j, j < 10 → ∀ b : Bool, ∀ c : Bool, (if c then Txt.upper (nameF (if b then ((pairsTo 5).getD j (0, 0)).2 else ((pairsTo 5).getD j (0, 0)).1)) else nameF (if b then ((pairsTo 5).getD j (0, 0)).2 else ((pairsTo 5).getD j (0, 0)).1)) ∈ names11 ∧ nameF (if b then ((pairsTo 5).getD j (0, 0)).1 else ((pairsTo 5).getD j (0, 0)).2) ∈ names11 := by decide +kernel
    have := hp j hj (decide (ds.getD j 0 % 2 = 1)) (decide (j % 2 = 1))
    simpa [gameAt] using this
theorem gB_range {ds : List Int} (h : ds.length = 10) : gB ds = (List.range 10).map fun j => wl (ds.getD j 0) ((pairsTo 5).getD j (0, 0)) := by
  unfold gB
  have hl : (List.zipWith wl ds (pairsTo 5)).length = 10 := gB_len h
  refine List.ext_getElem (by rw [hl, List.length_map, List.length_range]) fun i h1 h2 => ?_
  have h3 : i < 10 := by rw [hl] at h1; exact h1
  have e1 : i < ds.length := by rw [h]; exact h3
  have e2 : i < (pairsTo 5).length := h3
  rw [List.getElem_zipWith, List.getElem_map, List.getElem_range, List.getD_eq_getElem?_getD, List.getD_eq_getElem?_getD, List.getElem?_eq_getElem e1, List.getElem?_eq_getElem e2, Option.getD_some, Option.getD_some]
theorem won_at : ∀ j, j < 10 → ∀ i, i < 5 → ∀ b : Bool, ∀ c : Bool,
    decide (Txt.lower (if c then Txt.upper (nameF (if b then ((pairsTo 5).getD j (0, 0)).2 else ((pairsTo 5).getD j (0, 0)).1)) else nameF (if b then ((pairsTo 5).getD j (0, 0)).2 else ((pairsTo 5).getD j (0, 0)).1)) = Txt.lower (whoS i)) = decide ((if b then ((pairsTo 5).getD j (0, 0)).2 else ((pairsTo 5).getD j (0, 0)).1) = (i : Int)) := by decide +kernel
theorem wonG_eq {ds : List Int} (h : ds.length = 10) : wonG ds = beatF (gB ds) := by
  unfold wonG beatF
  refine List.map_congr_left fun i hi => ?_
  have hi5 := List.mem_range.mp hi
  refine Prod.ext rfl ?_
  show wonBy (whoS i) (gamesTo ds 10) = _
  rw [gB_range h]
  unfold wonBy gamesTo
  have h0 : ∀ i, i < 5 → decide (Txt.lower (Str.ofString "abcde") = Txt.lower (whoS i)) = false := by decide +kernel
  rw [List.filter_cons_of_neg (by rw [h0 i hi5]; exact Bool.false_ne_true), List.filter_map, List.filter_map, List.map_map, List.map_map]
  have hc : ∀ j ∈ List.range 10, ((fun d : Str × Str => decide (Txt.lower d.1 = Txt.lower (whoS i))) ∘ fun j => gameAt j (ds.getD j 0) ((pairsTo 5).getD j (0, 0))) j = ((fun p : Int × Int => decide (p.1 = (i : Int))) ∘ fun j => wl (ds.getD j 0) ((pairsTo 5).getD j (0, 0))) j := fun j hj => by
    have := won_at j (List.mem_range.mp hj) i hi5 (decide (ds.getD j 0 % 2 = 1)) (decide (j % 2 = 1))
    refine decide_eq_decide.mpr ?_
    have := decide_eq_decide.mp this
    show Txt.lower (gameAt j (ds.getD j 0) ((pairsTo 5).getD j (0, 0))).1 = _ ↔ (wl (ds.getD j 0) ((pairsTo 5).getD j (0, 0))).1 = _
    simp only [decide_eq_true_eq] at this
    unfold gameAt wl
    by_cases hd : ds.getD j 0 % 2 = 1
    · simp only [hd, if_true] at this ⊢
      exact this
    · simp only [hd, if_false] at this ⊢
      exact this
  rw [List.filter_congr hc]
  refine List.map_congr_left fun j _ => ?_
  simp only [Function.comp, gameAt, wl]
  by_cases hd : ds.getD j 0 % 2 = 1 <;> simp only [hd, if_true, if_false]
theorem beat_ok {ds : List Int} : ∀ z ∈ (beatF (gB ds)).map (·.2), z.all PyData.strOk = true := by
  intro z hz
  unfold beatF at hz
  rw [List.map_map] at hz
  obtain ⟨i, _, rfl⟩ := List.mem_map.mp hz
  rw [List.all_eq_true]
  intro x hx
  obtain ⟨p, hp, rfl⟩ := List.mem_map.mp hx
  obtain ⟨_, _, h3, h4⟩ := gB_ok p (List.mem_filter.mp hp).1
  have : ∀ k : Nat, k < 5 → PyData.strOk (nameF (k : Int)) = true := by decide +kernel
  have := this p.2.toNat (by omega)
  rwa [Int.toNat_of_nonneg h3] at this
end Mine
end
section
open PySem PySem.W PySem.Calls PyProof.Rows PyProof.V PySem.Spec
set_option maxRecDepth 100000
set_option maxHeartbeats 0
namespace Mine
noncomputable def nbG (g : List (Int × Int)) (i : Nat) : List Nat := (g.filter fun p => decide (p.1 = (i : Int))).map fun p => p.2.toNat
theorem nbG_eq (ds : List Int) : beatF (gB ds) = nbT (nbG (gB ds)) := by
  unfold beatF nbT nbG
  refine List.map_congr_left fun i _ => Prod.ext rfl ?_
  show _ = List.map nameS (List.map _ _)
  rw [List.map_map]
  refine List.map_congr_left fun p hp => ?_
  obtain ⟨_, _, h3, h4⟩ := gB_ok p (List.mem_filter.mp hp).1
  have : ∀ k : Nat, k < 5 → nameF (k : Int) = nameS k := by decide +kernel
  have := this p.2.toNat (by omega)
  rwa [Int.toNat_of_nonneg h3] at this
theorem nbG_ok {ds : List Int} (h : ds.length = 10) : ∀ i, (nbG (gB ds) i).length ≤ 5 ∧ ∀ x ∈ nbG (gB ds) i, x < 5 := by
  intro i
  constructor
  · unfold nbG
    rw [List.length_map, gB_range h, List.filter_map, List.length_map, ← List.countP_eq_length_filter]
    refine Nat.le_trans (List.countP_mono_left (q := fun j => decide (((pairsTo 5).getD j (0, 0)).1 = (i : Int)) || decide (((pairsTo 5).getD j (0, 0)).2 = (i : Int))) fun j _ hj => ?_) ?_
    · have hj' : (wl (ds.getD j 0) ((pairsTo 5).getD j (0, 0))).1 = (i : Int) := of_decide_eq_true hj
      rw [Bool.or_eq_true, decide_eq_true_eq, decide_eq_true_eq]
      unfold wl at hj'
      by_cases hd : ds.getD j 0 % 2 = 1
      · rw [if_pos hd] at hj'
        exact .inr hj'
      · rw [if_neg hd] at hj'
        exact .inl hj'
    · by_cases h5 : i < 5
      · have : ∀ i : Nat, i < 5 → (List.range 10).countP (fun j => decide (((pairsTo 5).getD j (0, 0)).1 = (i : Int)) || decide (((pairsTo 5).getD j (0, 0)).2 = (i : Int))) ≤ 5 := by decide +kernel
        exact this i h5
      · rw [List.countP_eq_zero.mpr fun j hj => ?_]
        · exact Nat.zero_le _
        · have : ∀ j, j < 10 → ((pairsTo 5).getD j (0, 0)).1 < 5 ∧ ((pairsTo 5).getD j (0, 0)).2 < 5 := by decide +kernel
          obtain ⟨h1, h2⟩ := this j (List.mem_range.mp hj)
          simp only [Bool.or_eq_true, decide_eq_true_eq]
          omega
  · intro x hx
    obtain ⟨p, hp, rfl⟩ := List.mem_map.mp hx
    obtain ⟨_, _, h3, h4⟩ := gB_ok p (List.mem_filter.mp hp).1
    omega
noncomputable def pathsTo (nb : Nat → List Nat) (i : Nat) : List (List Nat) := (List.range i).flatMap fun i => pathsF nb 4 [i]
theorem pathsTo_succ (nb : Nat → List Nat) (i : Nat) : pathsTo nb (i + 1) = pathsTo nb i ++ pathsF nb 4 [i] := by
  unfold pathsTo
  rw [List.range_succ, List.flatMap_append]
  simp
theorem pathsTo_len {nb : Nat → List Nat} (hn : ∀ i, (nb i).length ≤ 5) (i : Nat) : (pathsTo nb i).length ≤ i * 4000 := by
  have := flat_len (fun i => pathsF nb 4 [i]) 4000 (List.range i) fun x _ => Nat.le_trans (pathsF_len nb hn 4 [x]) (szP_le (by decide))
  rw [List.length_range] at this
  exact this
theorem pathsF_in {nb : Nat → List Nat} (hn : ∀ i, ∀ x ∈ nb i, x < 5) : ∀ (k : Nat) (p : List Nat), p ∈ allP → ∀ q ∈ pathsF nb k p, q ∈ allP
  | 0, p, hp, q, hq => by
    rw [List.mem_singleton.mp hq]
    exact hp
  | k + 1, p, hp, q, hq => by
    unfold pathsF at hq
    rcases List.mem_cons.mp hq with rfl | hq
    · exact hp
    · obtain ⟨x, hx, hq⟩ := List.mem_flatMap.mp hq
      by_cases hc : p.contains x = true
      · rw [if_pos hc] at hq
        cases hq
      · rw [if_neg hc] at hq
        exact pathsF_in hn k _ (ext_all hp (hn _ x hx) (by simpa using hc)) q hq
theorem pathsTo_in {nb : Nat → List Nat} (hn : ∀ i, ∀ x ∈ nb i, x < 5) {i : Nat} (hi : i ≤ 5) : ∀ q ∈ pathsTo nb i, q ∈ allP := by
  intro q hq
  obtain ⟨j, hj, hq⟩ := List.mem_flatMap.mp hq
  exact pathsF_in hn 4 [j] (P1_in (Nat.lt_of_lt_of_le (List.mem_range.mp hj) hi)) q hq
theorem five_in : ∀ p ∈ allP, p.length = 5 → p ∈ P5 := by
  have : (allP.all fun p => p.length != 5 || P5.contains p) = true := by decide +kernel
  intro p hp h5
  have := List.all_eq_true.mp this p hp
  simpa [h5] using this
theorem filt_yes {α : Type} {f : α → Bool} {l : List α} {i : Nat} {x : α} (h : l[i]? = some x) (c : f x = true) : (l.take (i + 1)).filter f = (l.take i).filter f ++ [x] := by
  rw [List.take_add_one, h, List.filter_append]
  simp [c]
theorem filt_no {α : Type} {f : α → Bool} {l : List α} {i : Nat} {x : α} (h : l[i]? = some x) (c : f x = false) : (l.take (i + 1)).filter f = (l.take i).filter f := by
  rw [List.take_add_one, h, List.filter_append]
  simp [c]
theorem len_five {n : Nat} {b : Bool} (h : ((n : Int) == 5) = b) : (n == 5) = b := by
  rw [← h]
  by_cases h5 : n = 5
  · subst h5
    rfl
  · have h6 : ¬ (n : Int) = 5 := by omega
    rw [beq_eq_false_iff_ne.mpr h5, beq_eq_false_iff_ne.mpr h6]
theorem len_yes {n : Nat} (h : (n : Int) = 5) : (n == 5) = true := len_five (beq_iff_eq.mpr h)
theorem len_no {n : Nat} (h : ¬ (n : Int) = 5) : (n == 5) = false := len_five (beq_eq_false_iff_ne.mpr h)
theorem strsAre_of : ∀ {vs : List Value} {ss : List Str}, Paired IsStr vs ss → StrsAre vs ss
  | _, _, .nil => .nil
  | _, _, .cons ⟨t, e⟩ r => by
    subst e
    exact .cons _ t (strsAre_of r)
theorem paired_of_strs {vs : List Value} {ss : List Str} (h : StrsAre vs ss) : Paired IsStr vs ss := by
  induction h with
  | nil => exact .nil
  | cons y t _ ih => exact .cons ⟨t, rfl⟩ ih
noncomputable def headP (p : List Nat) : Nat := p.headD 0
noncomputable def decS (n : Int) : Str := Str.ofString (toString n)
noncomputable def ringS (p : List Nat) : Str := nameS (headP p) ++ decS (p.length : Int)
noncomputable def ringOk (nb : Nat → List Nat) (p : List Nat) : Bool := (nb (lastP p)).contains (headP p)
theorem any_name (l : List Nat) (x : Nat) : ((l.map nameS).any (· == nameS x)) = l.contains x := by
  induction l with
  | nil => rfl
  | cons a r ih =>
    rw [List.map_cons, List.any_cons, ih, List.contains_cons]
    congr 1
    by_cases h : a = x
    · subst h
      simp
    · rw [beq_eq_false_iff_ne.mpr (fun e => h (by have := congrArg Str.cps e; simp [nameS] at this; exact this)), beq_eq_false_iff_ne.mpr (Ne.symm h)]
theorem path_item0 {p : List Nat} (hp : p ∈ allP) : Txt.item (pathS p) 0 = nameS (headP p) := by
  have : (allP.all fun p => decide (Txt.item (pathS p) 0 = nameS (headP p))) = true := by decide +kernel
  exact of_decide_eq_true (List.all_eq_true.mp this p hp)
theorem dec_len : ∀ n : Nat, n ≤ 5 → (decS (n : Int)).length = 1 := by decide +kernel
noncomputable def cntC (cs : List Int) (j : Nat) : Nat := cs.count (cs.getD j 0)
noncomputable def dueTo (cs : List Int) (i : Nat) : List Str := (List.range i).flatMap fun j => (List.range (cntC cs j - 2)).map fun (k : Nat) => nameS j ++ decS (3 + (k : Int))
theorem dueTo_succ (cs : List Int) (i : Nat) : dueTo cs (i + 1) = dueTo cs i ++ (List.range (cntC cs i - 2)).map fun (k : Nat) => nameS i ++ decS (3 + (k : Int)) := by
  unfold dueTo
  rw [List.range_succ, List.flatMap_append]
  simp
theorem cntC_le {cs : List Int} (h : cs.length = 5) (j : Nat) : cntC cs j ≤ 5 := h ▸ List.count_le_length
theorem dueTo_len {cs : List Int} (h : cs.length = 5) : ∀ i, (dueTo cs i).length ≤ i * 3
  | 0 => Nat.le_refl _
  | i + 1 => by
    rw [dueTo_succ, List.length_append, List.length_map, List.length_range]
    have h1 := dueTo_len h i
    have h2 := cntC_le h i
    omega
theorem range_due {cs : List Int} (h : cs.length = 5) (j : Nat) : Builtin.Range.rangeSize 3 ((cntC cs j : Int) + 1) 1 = ((cntC cs j - 2 : Nat) : Int) ∧ Builtin.Range.small 3 ((cntC cs j : Int) + 1) 1 = true := by
  have : ∀ n : Nat, n ≤ 5 → Builtin.Range.rangeSize 3 ((n : Int) + 1) 1 = ((n - 2 : Nat) : Int) ∧ Builtin.Range.small 3 ((n : Int) + 1) 1 = true := by decide +kernel
  exact this _ (cntC_le h j)
theorem clsT_len (rs : List (Int × Int)) : ∀ i, (clsT rs i).1.length = 5
  | 0 => rfl
  | i + 1 => by
    show ((clsT rs i).1.set _ _).length = 5
    rw [List.length_set]
    exact clsT_len rs i
theorem classF_len (g : List (Int × Int)) : (classF g).length = 5 := clsT_len _ 5
theorem wonG_keys (ds : List Int) : ((wonG ds).map (·.1)).Nodup := by
  have h1 : (wonG ds).map (·.1) = (List.range 5).map nameS := by
    unfold wonG
    rw [List.map_map]
    rfl
  rw [h1]
  decide +kernel
end Mine
end
section
open PySem PySem.W PySem.Calls PyProof.Rows PyProof.V PySem.Spec
set_option maxRecDepth 100000
set_option maxHeartbeats 0
namespace Mine
noncomputable def strC (c : Nat) : Str := nameS (c / 8) ++ decS ((c % 8 : Nat) : Int)
noncomputable def codesC : List Nat := [3, 4, 5, 11, 12, 13, 19, 20, 21, 27, 28, 29, 35, 36, 37]
noncomputable def ringC (nb : Nat → List Nat) (ps : List (List Nat)) : List Nat := (ps.filter (ringOk nb)).map fun p => 8 * headP p + p.length
noncomputable def dueC (ck : List Int) : List Nat := (List.range 5).flatMap fun j => (List.range (cntC ck j - 2)).map fun k => 8 * j + (3 + k)
noncomputable def incC : List Nat → Bool
  | a :: b :: r => Nat.blt a b && incC (b :: r)
  | _ => true
noncomputable def chkG (nb : Nat → List Nat) (ck : List Int) (ps : List (List Nat)) : Bool :=
  (ringC nb ps).all (fun c => (dueC ck).contains c) && (dueC ck).all (fun c => (ringC nb ps).contains c) && incC (dueC ck) && (dueC ck).all (fun c => codesC.contains c) && !((dueC ck).length == 1) && Nat.ble (ringC nb ps).length 100 &&
  inOrd (ps.filter fun p => p.length == 5) ck && (ps.filter fun p => p.length == 5).length % 2 == 1
noncomputable def allB : Nat → List (List Bool)
  | 0 => [[]]
  | n + 1 => (allB n).flatMap fun l => [false :: l, true :: l]
theorem allB_mem : ∀ (l : List Bool), l ∈ allB l.length
  | [] => by simp [allB]
  | b :: l => by
    show b :: l ∈ (allB l.length).flatMap _
    refine List.mem_flatMap.mpr ⟨l, allB_mem l, ?_⟩
    cases b <;> simp
noncomputable def wlB (b : Bool) (p : Nat × Nat) : Nat × Nat := if b then (p.2, p.1) else p
noncomputable def pairsN : List (Nat × Nat) := [(0, 1), (0, 2), (0, 3), (0, 4), (1, 2), (1, 3), (1, 4), (2, 3), (2, 4), (3, 4)]
noncomputable def gN (bs : List Bool) : List (Nat × Nat) := List.zipWith wlB bs pairsN
noncomputable def gI (bs : List Bool) : List (Int × Int) := (gN bs).map fun p => ((p.1 : Int), (p.2 : Int))
noncomputable def nbN (g : List (Nat × Nat)) (i : Nat) : List Nat := (g.filter fun p => p.1 == i).map fun p => p.2
noncomputable def chkB (bs : List Bool) : Bool :=
  let nb := nbN (gN bs)
  chkG nb (classF (gI bs)) (pathsTo nb 5)
noncomputable def chkA (pre : List Bool) : Bool := (allB 6).all fun ys => chkB (pre ++ ys)
lay_quick Mine.chkA
theorem quick0 : PySem.W.Fast.tw3583313287731996835 [false, false, false, false] = true := by kernel_rfl
theorem quick1 : PySem.W.Fast.tw3583313287731996835 [false, false, false, true] = true := by kernel_rfl
theorem quick2 : PySem.W.Fast.tw3583313287731996835 [false, false, true, false] = true := by kernel_rfl
theorem quick3 : PySem.W.Fast.tw3583313287731996835 [false, false, true, true] = true := by kernel_rfl
theorem quick4 : PySem.W.Fast.tw3583313287731996835 [false, true, false, false] = true := by kernel_rfl
theorem quick5 : PySem.W.Fast.tw3583313287731996835 [false, true, false, true] = true := by kernel_rfl
theorem quick6 : PySem.W.Fast.tw3583313287731996835 [false, true, true, false] = true := by kernel_rfl
theorem quick7 : PySem.W.Fast.tw3583313287731996835 [false, true, true, true] = true := by kernel_rfl
theorem quick8 : PySem.W.Fast.tw3583313287731996835 [true, false, false, false] = true := by kernel_rfl
theorem quick9 : PySem.W.Fast.tw3583313287731996835 [true, false, false, true] = true := by kernel_rfl
theorem quick10 : PySem.W.Fast.tw3583313287731996835 [true, false, true, false] = true := by kernel_rfl
theorem quick11 : PySem.W.Fast.tw3583313287731996835 [true, false, true, true] = true := by kernel_rfl
theorem quick12 : PySem.W.Fast.tw3583313287731996835 [true, true, false, false] = true := by kernel_rfl
theorem quick13 : PySem.W.Fast.tw3583313287731996835 [true, true, false, true] = true := by kernel_rfl
theorem quick14 : PySem.W.Fast.tw3583313287731996835 [true, true, true, false] = true := by kernel_rfl
theorem quick15 : PySem.W.Fast.tw3583313287731996835 [true, true, true, true] = true := by kernel_rfl
theorem chkA_all (a b c d : Bool) : chkA [a, b, c, d] = true := by
  rw [PySem.W.Fast.te3583313287731996835]
  cases a <;> cases b <;> cases c <;> cases d
  · exact quick0
  · exact quick1
  · exact quick2
  · exact quick3
  · exact quick4
  · exact quick5
  · exact quick6
  · exact quick7
  · exact quick8
  · exact quick9
  · exact quick10
  · exact quick11
  · exact quick12
  · exact quick13
  · exact quick14
  · exact quick15
theorem chkB_all {l : List Bool} (hl : l.length = 10) : chkB l = true := by
  obtain ⟨a, l1, rfl, h1⟩ := cons_of hl
  obtain ⟨b, l2, rfl, h2⟩ := cons_of h1
  obtain ⟨c, l3, rfl, h3⟩ := cons_of h2
  obtain ⟨d, r, rfl, h4⟩ := cons_of h3
  have h5 := chkA_all a b c d
  unfold chkA at h5
  exact List.all_eq_true.mp h5 r (by rw [← h4]; exact allB_mem r)
end Mine
end
section
open PySem PySem.W PySem.Calls PyProof.Rows PyProof.V PySem.Spec
set_option maxRecDepth 100000
set_option maxHeartbeats 0
namespace Mine
noncomputable def castI (p : Nat × Nat) : Int × Int := ((p.1 : Int), (p.2 : Int))
noncomputable def parB (d : Int) : Bool := decide (d % 2 = 1)
theorem wl_cast (d : Int) (p : Nat × Nat) : wl d (castI p) = castI (wlB (parB d) p) := by
  unfold wl wlB parB castI
  by_cases h : d % 2 = 1 <;> simp [h]
theorem zip_cast : ∀ (ds : List Int) (ps : List (Nat × Nat)), List.zipWith wl ds (ps.map castI) = (List.zipWith wlB (ds.map parB) ps).map castI
  | [], _ => rfl
  | _ :: _, [] => rfl
  | d :: ds, p :: ps => by
    simp only [List.map_cons, List.zipWith_cons_cons]
    rw [wl_cast, zip_cast ds ps]
theorem pairs_cast : pairsTo 5 = pairsN.map castI := by decide +kernel
theorem gB_gI (ds : List Int) : gB ds = gI (ds.map parB) := by
  unfold gB gI gN
  rw [pairs_cast]
  exact zip_cast ds pairsN
theorem nb_cast (g : List (Nat × Nat)) (i : Nat) : nbG (g.map castI) i = nbN g i := by
  unfold nbG nbN
  rw [List.filter_map, List.map_map]
  have h1 : ((fun p : Int × Int => decide (p.1 = (i : Int))) ∘ castI) = fun p : Nat × Nat => p.1 == i := by
    funext p
    by_cases h : p.1 = i
    · simp [castI, h]
    · have h2 : ¬ ((p.1 : Int) = (i : Int)) := by omega
      show decide ((p.1 : Int) = (i : Int)) = (p.1 == i)
      rw [decide_eq_false h2, beq_eq_false_iff_ne.mpr h]
  rw [h1]
  refine List.map_congr_left fun p _ => ?_
  simp [castI]
theorem plain {ds : List Int} (h : ds.length = 10) : chkG (nbG (gB ds)) (classF (gB ds)) (pathsTo (nbG (gB ds)) 5) = true := by
  have e := chkB_all (l := ds.map parB) (by rw [List.length_map, h])
  unfold chkB at e
  have hn : nbG (gB ds) = nbN (gN (ds.map parB)) := by
    funext i
    rw [gB_gI]
    exact nb_cast _ i
  rw [hn, gB_gI]
  exact e
theorem div8 {j k : Nat} (h : k < 8) : (8 * j + k) / 8 = j := by rw [Nat.mul_add_div (by decide), Nat.div_eq_of_lt h, Nat.add_zero]
theorem mod8 {j k : Nat} (h : k < 8) : (8 * j + k) % 8 = k := by rw [Nat.mul_add_mod, Nat.mod_eq_of_lt h]
theorem code_ring {p : List Nat} (hp : p ∈ allP) : ringS p = strC (8 * headP p + p.length) := by
  obtain ⟨_, _, _, _, h5⟩ := path_last hp
  unfold ringS strC
  have h1 : (8 * headP p + p.length) / 8 = headP p := div8 (Nat.lt_of_le_of_lt h5 (by decide))
  have h2 : (8 * headP p + p.length) % 8 = p.length := mod8 (Nat.lt_of_le_of_lt h5 (by decide))
  rw [h1, h2]
theorem code_due {cs : List Int} (h : cs.length = 5) : dueTo cs 5 = (dueC cs).map strC := by
  unfold dueTo dueC
  rw [List.map_flatMap]
  refine congrArg (List.flatMap · _) (funext fun j => ?_)
  rw [List.map_map]
  refine List.map_congr_left fun k hk => ?_
  have hk := List.mem_range.mp hk
  have hc := cntC_le h j
  show _ = strC (8 * j + (3 + k))
  unfold strC
  have h8 : 3 + k < 8 := Nat.lt_of_lt_of_le (Nat.add_lt_add_left (Nat.lt_of_lt_of_le hk (Nat.sub_le_sub_right hc 2)) 3) (by decide)
  have h1 : (8 * j + (3 + k)) / 8 = j := div8 h8
  have h2 : (8 * j + (3 + k)) % 8 = 3 + k := mod8 h8
  rw [h1, h2]
  rfl
noncomputable def unC (s : Str) : Nat := (codesC.find? fun c => decide (strC c = s)).getD 0
theorem unC_strC : ∀ c ∈ codesC, unC (strC c) = c := by decide +kernel
theorem ltC : ∀ a ∈ codesC, ∀ b ∈ codesC, ltCps (strC b).cps.toList (strC a).cps.toList = false → a ≤ b := by decide +kernel
theorem okC : ∀ c ∈ codesC, PyData.strOk (strC c) = true := by decide +kernel
theorem rising_codes : ∀ (cs : List Nat) (a : Nat), a ∈ codesC → (∀ c ∈ cs, c ∈ codesC) → risingS (strC a) (cs.map strC) = true → (a :: cs).Pairwise (· ≤ ·)
  | [], a, _, _, _ => List.pairwise_singleton _ _
  | b :: r, a, ha, hc, h => by
    rw [List.map_cons] at h
    unfold risingS at h
    simp only [Bool.and_eq_true, Bool.not_eq_true'] at h
    have hb := hc b List.mem_cons_self
    have h1 := ltC a ha b hb h.1
    have ih := rising_codes r b hb (fun c h => hc c (List.mem_cons_of_mem _ h)) h.2
    refine List.pairwise_cons.mpr ⟨fun x hx => ?_, ih⟩
    rcases List.mem_cons.mp hx with rfl | hx
    · exact h1
    · exact Nat.le_trans h1 ((List.pairwise_cons.mp ih).1 x hx)
theorem sorted_codes {cs : List Nat} (hc : ∀ c ∈ cs, c ∈ codesC) (h : sortedS (cs.map strC) = true) : cs.Pairwise (· ≤ ·) := by
  cases cs with
  | nil => exact .nil
  | cons a r => exact rising_codes r a (hc a List.mem_cons_self) (fun c h => hc c (List.mem_cons_of_mem _ h)) h
theorem inc_lt : ∀ (l : List Nat), incC l = true → l.Pairwise (· < ·)
  | [], _ => .nil
  | [a], _ => List.pairwise_singleton _ _
  | a :: b :: r, h => by
    unfold incC at h
    simp only [Bool.and_eq_true] at h
    have ih := inc_lt (b :: r) h.2
    have h1 : a < b := Nat.blt_eq.mp h.1
    refine List.pairwise_cons.mpr ⟨fun x hx => ?_, ih⟩
    rcases List.mem_cons.mp hx with rfl | hx
    · exact h1
    · exact Nat.lt_trans h1 ((List.pairwise_cons.mp ih).1 x hx)
theorem stepS_nodup {ks : List Str} {k : Str} (h : ks.Nodup) : (stepS ks k).Nodup := by
  unfold stepS
  split
  · exact h
  · rename_i hm
    refine List.nodup_append.mpr ⟨h, List.pairwise_singleton _ _, fun a ha b hb => ?_⟩
    rw [List.mem_singleton.mp hb]
    rintro rfl
    exact hm ha
theorem metS_nodup (val : Nat → Str) (i : Nat) : (metS val i).Nodup := by
  induction i with
  | zero => exact .nil
  | succ i ih =>
    rw [metS_succ]
    exact stepS_nodup ih
theorem getD_mem {xr : List Str} {k : Str} : (∃ j, j < xr.length ∧ xr.getD j ⟨#[]⟩ = k) ↔ k ∈ xr := by
  constructor
  · rintro ⟨j, hj, rfl⟩
    rw [List.getD_eq_getElem?_getD, List.getElem?_eq_getElem hj]
    exact List.getElem_mem hj
  · intro h
    obtain ⟨j, hj, e⟩ := List.getElem_of_mem h
    refine ⟨j, hj, ?_⟩
    rw [List.getD_eq_getElem?_getD, List.getElem?_eq_getElem hj]
    exact e
/-- what the rings, the listings and the classes say, in plain lists -/
theorem rings_plain {nb : Nat → List Nat} {ck : List Int} {ps : List (List Nat)} (h : chkG nb ck ps = true) (hc : ck.length = 5) (hin : ∀ p ∈ ps, p ∈ allP) {xr : List Str} (hx : xr = (ps.filter (ringOk nb)).map ringS) :
    xr.length ≤ 100 ∧ (metS (fun i => xr.getD i ⟨#[]⟩) xr.length).length ≠ 1 ∧ (metS (fun i => xr.getD i ⟨#[]⟩) xr.length).length < 64 ∧
    (∀ ss : List Str, ss.Perm (metS (fun i => xr.getD i ⟨#[]⟩) xr.length) → sortedS ss = true → ss = dueTo ck 5) ∧ inOrd (ps.filter fun p => p.length == 5) ck = true ∧ (ps.filter fun p => p.length == 5).length % 2 = 1 ∧ (dueTo ck 5).all PyData.strOk = true := by
  unfold chkG at h
  simp only [Bool.and_eq_true, Bool.not_eq_true', beq_iff_eq, beq_eq_false_iff_ne, List.all_eq_true, List.contains_iff_mem] at h
  obtain ⟨⟨⟨⟨⟨⟨⟨h1, h2⟩, h3⟩, h4⟩, h5⟩, h6⟩, h7⟩, h8⟩ := h
  have h6 := Nat.ble_eq.mp h6
  have hxc : xr = (ringC nb ps).map strC := by
    rw [hx]
    unfold ringC
    rw [List.map_map]
    exact List.map_congr_left fun p hp => code_ring (hin p (List.mem_filter.mp hp).1)
  have hdc := code_due hc
  have hlt := inc_lt _ h3
  have hmem : ∀ k, k ∈ xr ↔ k ∈ dueTo ck 5 := fun k => by
    rw [hxc, hdc, List.mem_map, List.mem_map]
    exact ⟨fun ⟨c, hc, e⟩ => ⟨c, h1 c hc, e⟩, fun ⟨c, hc, e⟩ => ⟨c, h2 c hc, e⟩⟩
  have hun : (dueTo ck 5).map unC = dueC ck := by
    rw [hdc, List.map_map]
    refine (List.map_congr_left fun c hc => ?_).trans (List.map_id _)
    exact unC_strC c (h4 c hc)
  have hnd : (dueTo ck 5).Nodup := by
    have : ((dueTo ck 5).map unC).Nodup := by
      rw [hun]
      exact hlt.imp fun h => Nat.ne_of_lt h
    exact List.Pairwise.imp (fun h e => h (congrArg unC e)) (List.pairwise_map.mp this)
  have hperm : (metS (fun i => xr.getD i ⟨#[]⟩) xr.length).Perm (dueTo ck 5) := by
    refine (List.perm_ext_iff_of_nodup (metS_nodup _ _) hnd).mpr fun k => ?_
    rw [metS_mem, getD_mem, hmem]
  have hdl : (dueTo ck 5).length = (dueC ck).length := by rw [hdc, List.length_map]
  refine ⟨?_, ?_, ?_, fun ss hss hs => ?_, h7, h8, ?_⟩
  · rw [hxc, List.length_map]
    exact h6
  · rw [hperm.length_eq, hdl]
    exact h5
  · rw [hperm.length_eq]
    exact Nat.lt_of_le_of_lt (dueTo_len hc 5) (by decide)
  · have hp2 := hss.trans hperm
    have hcode : ∀ s ∈ ss, unC s ∈ codesC ∧ strC (unC s) = s := fun s hs => by
      have := hp2.mem_iff.mp hs
      rw [hdc] at this
      obtain ⟨c, hc, rfl⟩ := List.mem_map.mp this
      rw [unC_strC c (h4 c hc)]
      exact ⟨h4 c hc, rfl⟩
    have hback : (ss.map unC).map strC = ss := by
      rw [List.map_map]
      exact (List.map_congr_left fun s hs => (hcode s hs).2).trans (List.map_id _)
    have hpc : (ss.map unC).Perm (dueC ck) := hun ▸ hp2.map unC
    have hsc : (ss.map unC).Pairwise (· ≤ ·) := sorted_codes (fun c hc => by
      obtain ⟨s, hs, rfl⟩ := List.mem_map.mp hc
      exact (hcode s hs).1) (by rw [hback]; exact hs)
    have he := List.Perm.eq_of_pairwise (fun a b _ _ h1 h2 => Nat.le_antisymm h1 h2) hsc (hlt.imp Nat.le_of_lt) hpc
    rw [← hback, he, hdc]
  · rw [hdc, List.all_map, List.all_eq_true]
    exact fun c hc => okC c (h4 c hc)
structure LawOk (nb : Nat → List Nat) (ck : List Int) (ps : List (List Nat)) (xr : List Str) : Prop where
  r100 : xr.length ≤ 100
  ne1 : (metS (fun i => xr.getD i ⟨#[]⟩) xr.length).length ≠ 1
  lt64 : (metS (fun i => xr.getD i ⟨#[]⟩) xr.length).length < 64
  srt : ∀ ss : List Str, ss.Perm (metS (fun i => xr.getD i ⟨#[]⟩) xr.length) → sortedS ss = true → ss = dueTo ck 5
  ord : inOrd (ps.filter fun p => p.length == 5) ck = true
  odd : (ps.filter fun p => p.length == 5).length % 2 = 1
  sok : (dueTo ck 5).all PyData.strOk = true
theorem law_ok {ds : List Int} {nb : Nat → List Nat} {ps : List (List Nat)} {xr : List Str} (hd : ds.length = 10) (hn : nb = nbG (gB ds)) (hp : ps = pathsTo nb 5) (hin : ∀ p ∈ ps, p ∈ allP) (hx : xr = (ps.filter (ringOk nb)).map ringS) : LawOk nb (classF (gB ds)) ps xr := by
  have h := plain hd
  rw [← hn, ← hp] at h
  obtain ⟨h1, h2, h3, h4, h5, h6, h7⟩ := rings_plain h (classF_len _) hin hx
  exact ⟨h1, h2, h3, h4, h5, h6, h7⟩
end Mine
end
section
open PySem PySem.W PySem.Calls PyProof.Rows PyProof.V PySem.Spec
set_option maxRecDepth 100000
set_option maxHeartbeats 0
namespace Mine
theorem fillKu (h : Heap) (w : World) : PySem.Challenge.rw_sn0103_01 = PySem.Challenge.rw_sn0103_01 ∧ (K w.params).In h = (K w.params).In h := by
  k_fill
  exact ⟨rfl, rfl⟩
local macro_rules | `(tactic| walk_at $s:str) => `(tactic| k_extra $s)
local macro_rules | `(tactic| k_all) => `(tactic| assumption)
section
variable {w : World} {mean : ExcName → Option Value} {mg mb : Str → Option Value} {dp un : Nat} {gd : Option (List Code)} {cn : Str} {cs : Scope} {a : Addr} {ccd : Value} {cl : List (Str × Addr)} {outer : List Env} {A₀ : Around} {base h₀ : Heap} {L : Addr} {m : Str → Option Value} {news : List (Addr × Obj)} {s : Shared} {Q E : Value → Shared → Prop}
theorem dec3 (j : Nat) (h : j < 3) : (Str.ofString (toString (3 + (j : Int)))).length = 1 := by
  have : ∀ j : Nat, j < 3 → (Str.ofString (toString (3 + (j : Int)))).length = 1 := by decide +kernel
  exact this j h
theorem odd_fmod {n : Nat} (h : n % 2 = 1) : ((n : Int).fmod 2 == 1) = true := by
  rw [beq_iff_eq, Int.fmod_eq_emod_of_nonneg _ (by decide)]
  omega
theorem mem5 {α : Type} {x a b c d e : α} {l : List α} (h : x ∈ l) : x ∈ a :: b :: c :: d :: e :: l := .tail _ (.tail _ (.tail _ (.tail _ (.tail _ h))))
theorem sys_ne {L x : Nat} (h : L + 1 + 1 + 1 < x) : (x == sysModules) = false := by
  rw [beq_eq_false_iff_ne]
  show x ≠ 1
  omega
theorem ne_bool {a b : Nat} (h : a < b) : (!(b == a)) = true := by
  rw [beq_eq_false_iff_ne.mpr (Nat.ne_of_gt h)]
  rfl
theorem ne31 (L : Nat) : L + 1 + 1 + 1 ≠ L + 1 := by omega
theorem ne32 (L : Nat) : L + 1 + 1 + 1 ≠ L + 1 + 1 := by omega
theorem off3 {L p : Nat} (h : p < L ∨ L + 1 + 1 + 1 < p) : p ≠ L + 1 ∧ p ≠ L + 1 + 1 ∧ p ≠ L + 1 + 1 + 1 := by omega
theorem tupSS_mono {l l' : Ledger} (hs : ∀ p ∈ l, p ∈ l') {v : Value} {d : Str × Str} (x : TupSS l v d) : TupSS l' v d := by
  obtain ⟨T, t, u, h1, h2⟩ := x
  exact ⟨T, t, u, h1, hs _ h2⟩
theorem law_body {l fa : Addr} {cd9 : Value} {xs : List Value} {ns : List Int} {g' h' : Heap} {L' : Addr} {tk' : Nat} {o1 o2 o3 : Obj} {QF : Flow → Shared → Prop} (B' : Below A₀ base outer g')
    (F' : Fr g' L' h' (bindL (envOfC (Str.ofString "law") sc80 L' fa cd9).kindOf [(Str.ofString "script", .ref l)] fun _ => none)) (X' : (K w.params).In g') (T' : Top qV (looseW qV looseV) mean mg mb g')
    (N' : News g' L' h' ((L' + 1 + 1 + 1, o1) :: (L' + 1 + 1, o2) :: (L' + 1, o3) :: news)) (d1 : o1.data = .cell none) (d2 : o2.data = .cell none) (d3 : o3.data = .cell none) (l1 : ∀ p ∈ news, p.1 < L')
    (hl' : g'.IsList l xs.toArray) (hi : IntsAre xs ns) (hn : ns.length ≤ 63) (hd : dp + 30 < recursionLimit) (hu : un + 8 * 30 < cLine)
    (ret : ∀ h'' d'' tk'', (∃ m'', Fr g' L' h'' m'') → QF (.ret (.bool true)) { s with heap := h'', drawn := d'', toks := tk'' }) :
    wpAny (model rwP w) (({ handled := none, depth := dp, frames := some outer, guards := gd, units := un } : Around).deeper (envOfC (Str.ofString "law") sc80 L' fa cd9)) (execs bd80 (envOfC (Str.ofString "law") sc80 L' fa cd9)) QF E { s with heap := h', toks := tk' } := by
  delta sc80 bd80
  delta sc80 at F'
  k_with_none
  k_with "mem" => first | (with_reducible assumption) | (with_reducible exact List.mem_cons_self) | (refine List.mem_cons_of_mem _ ?_; k_extra "mem") | (refine List.mem_append_left _ ?_; k_extra "mem") | (refine List.mem_append_right _ ?_; k_extra "mem")
  k_with "sub" => first | (with_reducible exact fun _ h => h) | (refine sub_c ?_ ?_; (k_extra "mem"); (k_extra "sub")) | (refine sub_a ?_ ?_; (k_extra "sub"); (k_extra "sub")) | exact sub_n | (intro _ _; k_extra "mem")
  k_with "eval Name" => ((with_reducible show wpAny _ _ (eval (Expr.Name _ _) (envOf _ _ _ _ _)) _ _ _); (refine ld (by with_reducible assumption) (by with_reducible assumption) ?_))
  k_with "eval Name" => ((with_reducible show wpAny _ _ (eval (Expr.Name _ _) (envOfC _ _ _ _ _)) _ _ _); (refine ldC (by with_reducible assumption) (by first | with_reducible assumption | exact (if_neg (by decide)).trans (by with_reducible assumption) | exact (if_neg (by decide)).trans ((if_neg (by decide)).trans (by with_reducible assumption))) ?_))
  k_with "call ref" => (k_here; (with_reducible show wpAny _ _ (call (Value.ref 257) _ _) _ _ _); k_dflt (refine' draws_call ?k1 ?k2 ?k3 ?k4 ?k5 ?kK ?ka ?kb ?kc ?kd ?ke ?_; (case k1 => k_asm); (case k2 => k_asm); (case k3 => k_asm); (case k4 => k_asm); (case k5 => k_asm); (case kK => first | exact rfl | assumption); (case ka => assumption); (case kb => assumption); (case kc => assumption); (case kd => (change _ + 2 < _; ktr_room)); (case ke => (change _ + 8 * 2 < _; ktr_units))); intro DR oD h1 tk1 ys ds n1 F1 N1 hD1 hD2 hD3 hD4 hD5 hD6)
  k_with "call ref" => (k_here; (with_reducible show wpAny _ _ (call (Value.ref 276) _ _) _ _ _); k_dflt (refine' report_call ?k1 ?k2 ?k3 ?k4 ?k5 ?kK ?ka ?kb ?kc ?kd ?ke ?kf ?kg ?_; (case k1 => k_asm); (case k2 => k_asm); (case k3 => k_asm); (case k4 => k_asm); (case k5 => k_asm); (case kK => first | exact rfl | assumption); (case ka => k_mem); (case kb => exact hD1); (case kc => exact hD2); (case kd => exact hD3); (case ke => exact hD4); (case kf => (change _ + 4 < _; ktr_room)); (case kg => (change _ + 8 * 4 < _; ktr_units))); intro t2 h2 tk2 F2 N2)
  k_with "call ref" => (k_here; (with_reducible show wpAny _ _ (call (Value.ref 281) _ _) _ _ _); k_dflt (refine' symbols_call ?k1 ?k2 ?k3 ?k4 ?k5 ?kK ?ka ?kb ?kc ?kd ?_; (case k1 => k_asm); (case k2 => k_asm); (case k3 => k_asm); (case k4 => k_asm); (case k5 => k_asm); (case kK => first | exact rfl | assumption); (case ka => exact hD4); (case kb => exact hD5); (case kc => (change _ + 6 < _; ktr_room)); (case kd => (change _ + 8 * 6 < _; ktr_units))); intro S its nS h3 tk3 F3 N3 lt3 hS)
  k_with "call ref" => (k_here; (with_reducible show wpAny _ _ (call (Value.ref 288) _ _) _ _ _); k_dflt (refine' due_call ?k1 ?k2 ?k3 ?k4 ?k5 ?kK ?ka ?kb ?kc ?kd ?ke ?kf ?kg ?_; (case k1 => k_asm); (case k2 => k_asm); (case k3 => k_asm); (case k4 => k_asm); (case k5 => k_asm); (case kK => first | exact rfl | assumption); (case ka => k_mem); (case kb => exact hD1); (case kc => exact hD2); (case kd => exact hD3); (case ke => exact hD4); (case kf => (change _ + 4 < _; ktr_room)); (case kg => (change _ + 8 * 4 < _; ktr_units))); intro DD oDD xs2 n2 tl2 h4 tk4 F4 N4 lt4 hDD1 hDD2 hDD3 hDD4)
  k_with "call ref" => (k_here; (with_reducible show wpAny _ _ (call (Value.ref 293) _ _) _ _ _); k_dflt (refine' games_call ?k1 ?k2 ?k3 ?k4 ?k5 ?kK ?ka ?kb ?kc ?kd ?ke ?_; (case k1 => k_asm); (case k2 => k_asm); (case k3 => k_asm); (case k4 => k_asm); (case k5 => k_asm); (case kK => first | exact rfl | assumption); (case ka => k_mem); (case kb => exact hS); (case kc => exact hD4); (case kd => (change _ + 6 < _; ktr_room)); (case ke => (change _ + 8 * 6 < _; ktr_units))); intro GD gs nG tl5 h5 tk5 F5 N5 lt5 hG1 hG2)
  k_with "compareOp NotEq ref ref" => (k_here; (refine ne_dueL (o := W.listOf its nS) N4 (by k_extra "mem") hDD1 rfl rfl hS hDD2 hDD3 hDD4 (by units_room) ?_))
  k_with "call builtin:str.lower" => (k_here; (with_reducible show wpAny _ _ (call (Value.builtin "str.lower") [Value.str _ _]) _ _ _); (refine PySem.SC.lower (low_fit _ (by assumption)) ?_))
  k_with "eval DictComp" => (k_here; k_dflt (refine dictComp1 (xc := none) (by k_asm) (by rfl) (by rfl) (by decide) (by exact fun _ => rfl) (by exact fun _ => rfl) ?_))
  k_with "call builtin:len" => (k_here; (with_reducible show wpAny _ _ (call (Value.builtin "len") [Value.str _ _]) _ _ _); (refine len_is (by assumption) (by omega) ?_); intro _ _)
  k_with "eval ListComp" => (k_here; k_dflt (refine listComp1 (by k_asm) (by rfl) (by rfl) (by decide) (by decide) ?_))
  k_with "subscriptTail" => (k_here; (with_reducible show wpAny _ _ (subscriptTail _ _ (Value.ref _) (Value.str _ _)) _ _ _); rw [pa1]; (refine kda_item (knd := PySem.strKind _ _) N3 (hin9 _ hBD) hD (strKind_is _ _ _ _) hv9 ?_))
  k_with "compareOp In str ref" => (k_here; (with_reducible show wpAny _ _ (compareOp CmpOp.In (Value.str _ _) (Value.ref _)) _ _ _); rw [pa0]; (refine in_list_strs (isList_of N3 (hin9 _ hBL) rfl rfl) (strsAre_of hws) ?_); rw [any_name])
  k_with "subscriptTail" => (k_here; (with_reducible show wpAny _ _ (subscriptTail _ _ (Value.ref _) (Value.int _ _)) _ _ _); (refine item_lst2 N3 (.tail _ (.head _)) rfl rfl hi0 hi1 hti' ?_))
  k_with "getMethod ref" => (k_here; (with_reducible show wpAny _ _ (getMethod (Value.ref _) (PySem.Str.ofString "count") _) _ _ _); k_dflt (refine' kl_method N3 (.tail _ (.head _)) PySem.F.slot_list_count PySem.F.type_list_count ?_))
  k_with "call builtin:list.count" => (k_here; (with_reducible show wpAny _ _ (call (Value.builtin _) [Value.ref _, Value.int _ _]) _ _ _); k_dflt (refine count_list_ints (vs := citsA.toList) (by simpa using isList_of N3 (.tail _ (.head _)) rfl rfl) (ints_of hc3) ?_))
  k_with "exec Assign cons ListComp" => (k_here; (with_reducible show wpAny _ _ (exec (Stmt.Assign _ (Expr.ListComp _ [_, _] _ _) _) _) _ _ _); k_dflt (refine listCompA2 (by k_asm) (by rfl) (by rfl) (by decide) (by decide) ?_ (by rfl)))
  k_with "exec Assign cons ListComp" => (k_here; (with_reducible show wpAny _ _ (exec (Stmt.Assign _ (Expr.ListComp _ [_] _ _) _) _) _ _ _); k_dflt (refine listCompA1 (by k_asm) (by rfl) (by rfl) (by decide) (by decide) ?_ (by rfl)))
  k_steps
  k_here
  k_dflt (refine' headers_call ?k1 ?k2 ?k3 ?k4 ?k5 ?kK ?ka ?kb ?kc ?kd ?ke ?_; (case k1 => k_asm); (case k2 => k_asm); (case k3 => k_asm); (case k4 => k_asm); (case k5 => k_asm); (case kK => first | exact rfl | assumption); (case ka => exact List.mem_append_right _ hG1); (case kb => exact paired_mono (fun _ _ x => tupSS_mono (fun _ h => List.mem_append_right _ h) x) hG2); (case kc => exact games11 ds); (case kd => (change _ + 8 < _; ktr_room)); (case ke => (change _ + 8 * 8 < _; ktr_units)))
  intro I dx kt h6 tk6 F6 N6 lt6 lt6'
  obtain ⟨R, hR⟩ : ∃ R, R = (((S, W.listOf its nS) :: (DR, oD) :: news) ++ tl2) ++ tl5 := ⟨_, rfl⟩
  have a3 : @LT.lt Nat _ (L' + 1 + 1 + 1) DR := hD6 (L' + 1 + 1 + 1, o1) (by k_extra "mem")
  have a2 : @LT.lt Nat _ (L' + 1 + 1 + 1) S := lt3 (L' + 1 + 1 + 1, o1) (by k_extra "mem")
  have offR : ∀ p ∈ R, p.1 ≠ L' + 1 ∧ p.1 ≠ L' + 1 + 1 ∧ p.1 ≠ L' + 1 + 1 + 1 := fun p hp => by
    have h9 : @LT.lt Nat _ p.1 L' ∨ @LT.lt Nat _ (L' + 1 + 1 + 1) p.1 := by
      rw [hR] at hp
      rcases List.mem_append.mp hp with hp | hp
      rcases List.mem_append.mp hp with hp | hp
      cases hp with
      | head => exact .inr a2
      | tail _ hp => cases hp with
        | head => exact .inr a3
        | tail _ hp => exact .inl (l1 p hp)
      · exact .inr (lt4 (L' + 1 + 1 + 1, o1) (by k_extra "mem") p hp)
      · exact .inr (lt5 (L' + 1 + 1 + 1, o1) (by k_extra "mem") p hp)
    exact off3 h9
  have N7 : News g' L' h6 ((L' + 1, o3) :: (L' + 1 + 1, o2) :: (L' + 1 + 1 + 1, o1) :: (I, instObj 169 dx) :: (dx, hdObj w.params GD kt) :: (GD, W.listOf gs nG) :: R) := news_of N6 (by rw [hR]; k_extra "sub")
  clear N6
  have aI : @LT.lt Nat _ (L' + 1 + 1 + 1) dx := lt6 (L' + 1 + 1 + 1, o1) (by k_extra "mem")
  have aG : @LT.lt Nat _ (L' + 1 + 1 + 1) GD := lt5 (L' + 1 + 1 + 1, o1) (by k_extra "mem") _ hG1
  have aI2 : @LT.lt Nat _ (L' + 1 + 1 + 1) I := Nat.lt_trans aI lt6'
  obtain ⟨R1, hR1⟩ : ∃ R1, R1 = (I, instObj 169 dx) :: (dx, hdObj w.params GD kt) :: (GD, W.listOf gs nG) :: R := ⟨_, rfl⟩
  have offR1 : ∀ p ∈ R1, p.1 ≠ L' + 1 ∧ p.1 ≠ L' + 1 + 1 ∧ p.1 ≠ L' + 1 + 1 + 1 := fun p hp => by
    rw [hR1] at hp
    cases hp with
    | head => exact off3 (.inr aI2)
    | tail _ hp => cases hp with
      | head => exact off3 (.inr aI)
      | tail _ hp => cases hp with
        | head => exact off3 (.inr aG)
        | tail _ hp => exact offR p hp
  k_here
  refine stCN (own := []) F6 N7 (by rfl) d3 (fun _ h => nomatch h) (fun p hp => ?_) ?_
  · rcases List.mem_cons.mp hp with rfl | hp
    · exact Nat.succ_ne_self _
    · rcases List.mem_cons.mp hp with rfl | hp
      · exact ne31 L'
      · exact (offR1 p (by rw [hR1]; exact hp)).1
  intro h8 oT F8 N8' dT
  have N8 : News g' L' h8 ((L' + 1, oT) :: (I, instObj 169 dx) :: (dx, hdObj w.params GD kt) :: (L' + 1 + 1, o2) :: (L' + 1 + 1 + 1, o1) :: R1) := news_of N8' (by rw [hR1]; k_extra "sub")
  clear N7 N8'
  k_steps
  refine src_str (by rfl) F8 N8 (by decide +kernel) (av := []) (fun _ h => nomatch h) ?_
  intro h9 k9 S9
  refine ⟨_, _, _, S9 _ _, by decide, fun C₀ D₀ hC₀ hlt₀ => ?_⟩
  obtain ⟨B0, hB0⟩ : ∃ B0, B0 = (L' + 1, oT) :: (I, instObj 169 dx) :: (dx, hdObj w.params GD kt) :: (L' + 1 + 1, o2) :: (L' + 1 + 1 + 1, o1) :: R1 := ⟨_, rfl⟩
  refine ⟨fun i kvs l => ∃ ex, l = ex ++ B0 ∧ (∀ p ∈ ex, ∀ q ∈ B0, q.1 < p.1) ∧ Paired (KvIs fun v (z : List Str) => ∃ D2 ws, v = .ref D2 ∧ (D2, LCg.lst ws) ∈ ex ∧ Paired IsStr ws z) kvs ((wonG ds).take i), ⟨[], by rw [hB0]; rfl, (fun _ h => nomatch h), .nil⟩, ?_, ?_⟩
  · rintro i v kvs news₁ oC mC oE h tk own E' hi hv ⟨ex, rfl, hJ0, hJ⟩ F1 N1 hC hD hCD off hol
    have hi5 : i < 5 := hi
    obtain ⟨cx, ux, hcx, rfl⟩ := hv
    rw [who_name hi5 hcx]
    have hw11 := who11 i hi5
    refine asg_name F1 N1 hC (off1 hCD off) (by rfl) (by rfl) (by rfl) ?_
    intro h2 tk2 oC2 mC2 F2 N2 hC2 hx2 hy2
    obtain ⟨R2, hR2⟩ : ∃ R2, R2 = (ex ++ B0) ++ own := ⟨_, rfl⟩
    have hBR : ∀ p ∈ B0, p ∈ R2 := fun p hp => by rw [hR2]; k_extra "mem"
    have N3 : News g' L' h2 ((L' + 1, oT) :: (I, instObj 169 dx) :: (dx, hdObj w.params GD kt) :: (C₀, oC2) :: (D₀, oE) :: R2) := by
      have q1 := hBR (L' + 1, oT) (by rw [hB0]; k_extra "mem")
      have q2 := hBR (I, instObj 169 dx) (by rw [hB0]; k_extra "mem")
      have q3 := hBR (dx, hdObj w.params GD kt) (by rw [hB0]; k_extra "mem")
      rw [← hR2] at N2
      exact news_of N2 (by k_extra "sub")
    clear N2 N1
    k_steps
    k_here
    have hGR : (GD, W.listOf gs nG) ∈ R2 := hBR _ (by rw [hB0, hR1]; k_extra "mem")
    have hRR : ∀ p ∈ tl5, p ∈ R2 := fun p hp => hBR _ (by rw [hB0, hR1, hR]; k_extra "mem")
    k_dflt (refine' getall_call (ds := gamesTo ds 10) ?k1 ?k2 ?k3 ?k4 ?k5 ?kK ?ka ?kb ?kc ?kd ?ke ?kf ?kg ?kh ?ki ?_; (case k1 => k_asm); (case k2 => k_asm); (case k3 => k_asm); (case k4 => k_asm); (case k5 => k_asm); (case kK => first | exact rfl | assumption); (case ka => k_mem); (case kb => k_mem); (case kc => exact mem5 hGR); (case kd => exact paired_mono (fun _ _ x => tupSS_mono (fun p hp => mem5 (hRR p hp)) x) hG2); (case ke => exact games11 ds); (case kf => exact hw11); (case kg => exact Nat.le_of_eq (games_len ds)); (case kh => (change _ + 8 < _; ktr_room)); (case ki => (change _ + 8 * 8 < _; ktr_units)))
    intro D2 ws h5 tk5 F5 N5 lt5 hws
    rw [who_low i hi5]
    have hex : ∀ p ∈ (D2, LCg.lst ws) :: ex, ∀ q ∈ B0, q.1 < p.1 := fun p hp q hq => by
      rcases List.mem_cons.mp hp with rfl | hp
      · exact lt5 q (mem5 (hBR q hq))
      · exact hJ0 p hp q hq
    refine ⟨_, _, rfl, _, _, oC2, mC2, ((D2, LCg.lst ws) :: ex) ++ B0, rfl, F5, fun p hp => N5 p ?_, hC2, fun p hp => ?_, (D2, LCg.lst ws) :: ex, rfl, hex, ?_⟩
    · rw [hR2]
      revert p
      k_extra "sub"
    · rcases List.mem_cons.mp hp with rfl | hp
      · refine .inr fun q hq => ?_
        rcases List.mem_cons.mp hq with rfl | hq
        · exact lt5 (C₀, oC2) (by k_extra "mem")
        · rcases List.mem_cons.mp hq with rfl | hq
          · exact lt5 (D₀, oE) (by k_extra "mem")
          · have hq3 : q ∈ R2 := by rw [hR2]; exact hq
            exact lt5 q (mem5 hq3)
      · exact .inl ⟨p, hp, rfl⟩
    · rw [wonG_succ hi5]
      exact stored_paired (paired_mono (fun kv z x => kv_mono (fun _ h => List.mem_cons_of_mem _ h) x) hJ) (wonG_new hi5) ⟨D2, ws, rfl, List.mem_cons_self, hws⟩
  · rintro kvs news' oE h tk ⟨ex, rfl, hJ0, hJ⟩ hD F1 N1 off
    have e5 : (wonG ds).take (Str.ofString "AbCdE").cps.size = wonG ds := List.take_of_length_le (by unfold wonG; rw [List.length_map, List.length_range]; decide)
    rw [e5] at hJ
    have hDC : @LT.lt Nat _ (L' + 1 + 1 + 1) D₀ := hlt₀ (L' + 1 + 1 + 1, o1) (by k_extra "mem")
    have hexC : ∀ p ∈ ex, @LT.lt Nat _ (L' + 1 + 1 + 1) p.1 := fun p hp => hJ0 p hp (L' + 1 + 1 + 1, o1) (by rw [hB0]; k_extra "mem")
    obtain ⟨R3, hR3⟩ : ∃ R3, R3 = (D₀, oE) :: (ex ++ R1) := ⟨_, rfl⟩
    have offR3 : ∀ p ∈ R3, p.1 ≠ L' + 1 ∧ p.1 ≠ L' + 1 + 1 ∧ p.1 ≠ L' + 1 + 1 + 1 := fun p hp => by
      rw [hR3] at hp
      rcases List.mem_cons.mp hp with rfl | hp
      · exact off3 (.inr hDC)
      · rcases List.mem_append.mp hp with hp | hp
        · exact off3 (.inr (hexC p hp))
        · exact offR1 p hp
    have N2 : News g' L' h ((L' + 1 + 1, o2) :: (L' + 1 + 1 + 1, o1) :: R3) := news_of N1 (by rw [hR3, hB0]; k_extra "sub")
    clear N1
    k_here
    refine stCN (own := []) F1 N2 (by rfl) d2 (fun _ h => nomatch h) (fun p hp => ?_) ?_
    · rcases List.mem_cons.mp hp with rfl | hp
      · exact ne32 L'
      · exact (offR3 p hp).2.1
    intro h8 oB F8 N8 dB
    have N8 : News g' L' h8 ((L' + 1 + 1, oB) :: (L' + 1 + 1 + 1, o1) :: R3) := N8
    have hBD : (D₀, oE) ∈ R3 := by rw [hR3]; k_extra "mem"
    have hDRm : (DR, oD) ∈ R3 := by rw [hR3, hR1, hR]; k_extra "mem"
    have hJB : Paired (KvIs fun v (z : List Str) => ∃ D2 ws, v = .ref D2 ∧ (D2, LCg.lst ws) ∈ R3 ∧ Paired IsStr ws z) kvs (wonG ds) := paired_mono (fun kv z x => kv_mono (fun p hp => by rw [hR3]; k_extra "mem") x) hJ
    k_steps
    k_here
    k_dflt (refine' beaten_call ?k1 ?k2 ?k3 ?k4 ?k5 ?kK ?ka ?kb ?kc ?kd ?ke ?kf ?kg ?_; (case k1 => k_asm); (case k2 => k_asm); (case k3 => k_asm); (case k4 => k_asm); (case k5 => k_asm); (case kK => first | exact rfl | assumption); (case ka => exact .tail _ (.tail _ hDRm)); (case kb => exact hD1); (case kc => exact hD2); (case kd => exact hD3); (case ke => exact hD4); (case kf => (change _ + 8 < _; ktr_room)); (case kg => (change _ + 8 * 8 < _; ktr_units)))
    intro D4 oD4 kv4 tl6 h9 tk9 F9 N9 lt9 hm9 hd9 hp9
    have hsys : ∀ x, @LT.lt Nat _ (L' + 1 + 1 + 1) x → (x == sysModules) = false := fun x hx => sys_ne hx
    rw [← wonG_eq hD4] at hp9
    have hlen2 : kvs.length = kv4.length := hJB.length.trans hp9.length.symm
    k_here
    refine kne_pairs (r := true) N9 (a := D₀) (oa := oE) (by k_extra "mem") (by k_extra "mem") hD hd9 (hsys _ hDC) (hsys _ (lt9 (L' + 1 + 1 + 1, o1) (by k_extra "mem") _ hm9)) hlen2 (by units_room) ?_ ?_
    · refine hits_paired (ka := []) hp9 ?_ ?_ hJB (fun _ h => h)
      · exact wonG_keys ds
      · rintro v y z hz ⟨D2, ws, rfl, m2, p2⟩ ⟨D3, ws3, rfl, m3, p3⟩
        have hzo := beat_ok (ds := ds) z (by rw [← wonG_eq hD4]; exact hz)
        exact strs_eqAtT (isList_of N9 (List.mem_append_left _ (.tail _ (.tail _ m2))) rfl rfl) (isList_of N9 (List.mem_append_right _ m3) rfl rfl) (by simpa using p2) (by simpa using p3) hzo (by units_room)
    k_steps
    obtain ⟨B4, hB4⟩ : ∃ B4, B4 = ((L' + 1 + 1, oB) :: (L' + 1 + 1 + 1, o1) :: R3) ++ tl6 := ⟨_, rfl⟩
    obtain ⟨nb, hnbd⟩ : ∃ nb, nb = nbG (gB ds) := ⟨_, rfl⟩
    have hnb : ∀ i, (nb i).length ≤ 5 ∧ ∀ x ∈ nb i, x < 5 := by rw [hnbd]; exact nbG_ok hD4
    rw [wonG_eq hD4, nbG_eq, ← hnbd] at hJB
    k_steps
    refine src_str (by rfl) F9 N9 (by decide +kernel) (av := []) (fun _ h => nomatch h) ?_
    intro h10 k10 S10
    refine ⟨_, _, _, S10 _ _, fun i ys l => ∃ ex, l = ex ++ B4 ∧ (∀ p ∈ ex, ∀ q ∈ B4, q.1 < p.1) ∧ Paired IsStr ys ((pathsTo nb i).map pathS), ⟨[], by rw [hB4]; rfl, (fun _ h => nomatch h), .nil⟩, ?_, ?_⟩
    · rintro i v ys1 news₁ C oC mC D h tk own E' hi hv ⟨ex4, rfl, hJ40, hJ4⟩ F1 N1 hC hCD off
      have hi5 : i < 5 := hi
      obtain ⟨cx, ux, hcx, rfl⟩ := hv
      have hxe : ({ cps := #[cx] } : Str) = nameS i := sign_name hi5 hcx
      rw [hxe]
      refine asg_name F1 N1 hC (off1 hCD off) (by rfl) (by rfl) (by rfl) ?_
      intro h2 tk2 oC2 mC2 F2 N2 hC2 hx2 hy2
      obtain ⟨R4, hR4⟩ : ∃ R4, R4 = (ex4 ++ B4) ++ own := ⟨_, rfl⟩
      have hB4R : ∀ p ∈ B4, p ∈ R4 := fun p hp => by rw [hR4]; k_extra "mem"
      have hoB : (L' + 1 + 1, oB) ∈ R4 := hB4R _ (by rw [hB4]; k_extra "mem")
      have N3 : News g' L' h2 ((L' + 1 + 1, oB) :: (C, oC2) :: (D, LCg.lst ys1) :: R4) := fun p hp => by
        rcases List.mem_cons.mp hp with rfl | hp
        · exact N2 _ (by rw [← hR4]; k_extra "mem")
        · exact N2 p (by rw [← hR4]; exact hp)
      clear N2 N1
      k_steps
      have ihj : PathsOk w nb 4 := paths_call hnb 4
      have hBDm : (D₀, oE) ∈ R4 := hB4R _ (by rw [hB4]; k_extra "mem")
      have hL2 : ListsIn ((L' + 1 + 1, oB) :: (C, oC2) :: (D, LCg.lst ys1) :: R4) kvs (nbT nb) := paired_mono (fun kv z x => kv_mono (fun p hp => .tail _ (.tail _ (.tail _ (hB4R _ (by rw [hB4]; k_extra "mem"))))) x) hJB
      k_here
      k_dflt (refine' ihj (p := [i]) ?k1 ?k2 ?k3 ?k4 ?k5 ?kK ?ka ?kb ?kc ?kd ?ke ?kf ?kg ?_; (case k1 => k_asm); (case k2 => k_asm); (case k3 => k_asm); (case k4 => k_asm); (case k5 => k_asm); (case kK => first | exact rfl | assumption); (case ka => exact .tail _ (.tail _ (.tail _ hBDm))); (case kb => exact hD); (case kc => exact hL2); (case kd => exact P1_in hi5); (case ke => exact rfl); (case kf => (change _ + 12 < _; ktr_room)); (case kg => (change _ + 8 * 12 < _; ktr_units)))
      intro D5 its5 n5 tl7 h5 tk5 F5 N5 lt5 hm5 hp5
      have N6 : News g' L' h5 ((C, oC2) :: (D, LCg.lst ys1) :: ((tl7 ++ (ex4 ++ B4)) ++ own)) := news_of N5 (by rw [hR4]; k_extra "sub")
      have hm6 : (D5, W.listOf its5 n5) ∈ (C, oC2) :: (D, LCg.lst ys1) :: ((tl7 ++ (ex4 ++ B4)) ++ own) := .tail _ (.tail _ (List.mem_append_left _ (List.mem_append_left _ hm5)))
      refine src_list (by rfl) F5 N6 (ax := D5) (its := its5) (isList_of N6 hm6 rfl rfl) (.inr ⟨_, hm6⟩) (av := [C, D]) ?_ ?_
      · intro b hb
        rcases List.mem_cons.mp hb with rfl | hb
        · exact ⟨Heap.lt_size (N6 (b, oC2) List.mem_cons_self).1, Nat.ne_of_lt (lt5 (b, oC2) (by k_extra "mem") _ hm5)⟩
        · rw [List.mem_singleton.mp hb]
          exact ⟨Heap.lt_size (N6 (D, LCg.lst ys1) (by k_extra "mem")).1, Nat.ne_of_lt (lt5 (D, LCg.lst ys1) (by k_extra "mem") _ hm5)⟩
      intro h6 k6 S6
      have hex7 : ∀ p ∈ tl7 ++ ex4, ∀ q ∈ B4, q.1 < p.1 := fun p hp q hq => by
        rcases List.mem_append.mp hp with hp | hp
        · exact lt5 q (.tail _ (.tail _ (.tail _ (hB4R q hq)))) p hp
        · exact hJ40 p hp q hq
      have hsz5 : its5.size = (pathsF nb 4 [i]).length := by
        have := hp5.length
        rwa [Array.length_toList, List.length_map] at this
      refine ⟨oC2, mC2, tl7 ++ (ex4 ++ B4), _, _, hC2, ⟨_, _, rfl⟩, fun p hp => ?_, S6 _ _, fun j mC ys l => ∃ ex, l = ex ++ B4 ∧ (∀ p ∈ ex, ∀ q ∈ B4, q.1 < p.1) ∧ Paired IsStr ys ((pathsTo nb i ++ (pathsF nb 4 [i]).take j).map pathS), ⟨tl7 ++ ex4, by simp, hex7, by simpa using hJ4⟩, ?_, ?_, ?_⟩
      · rcases List.mem_append.mp hp with hp | hp
        · refine .inr fun q hq => ?_
          rcases List.mem_cons.mp hq with rfl | hq
          · exact lt5 (C, oC2) (by k_extra "mem") p hp
          · rcases List.mem_cons.mp hq with rfl | hq
            · exact lt5 (D, LCg.lst ys1) (by k_extra "mem") p hp
            · have hq3 : q ∈ R4 := by rw [hR4]; exact hq
              exact lt5 q (.tail _ (.tail _ (.tail _ hq3))) p hp
        · exact .inl hp
      · rintro j mC ys l hj ⟨_, _, _, hp⟩
        have z1 := hp.length
        rw [List.length_map, List.length_append, List.length_take] at z1
        have z2 := pathsTo_len (fun i => (hnb i).1) i
        have z3 := pathsF_len nb (fun i => (hnb i).1) 4 [i]
        have z4 := szP_le (k := 4) (by decide)
        exact Nat.le_trans (show ys.length ≤ 100000 by omega) (by decide)
      · rintro j v₂ ys₂ news₃ oC₃ mC₃ h₃ tk₃ own₂ E'' hj hP2 ⟨ex8, rfl, hJ80, hJ8⟩ F3 N3 hC3 off3
        obtain ⟨q, hq0, tq, rfl⟩ := paired_get hp5 (i := j) (a := v₂) (by rw [Array.getElem?_toList]; exact hP2)
        rw [List.getElem?_map] at hq0
        obtain ⟨q, hq, rfl⟩ := Option.map_eq_some_iff.mp hq0
        clear hq0
        refine asg_name F3 N3 hC3 (off1 hCD off3) (by rfl) (by rfl) (by rfl) ?_
        intro h4 tk4 oC4 mC4 F4 N4 hC4 hx4 hy4
        k_steps
        refine ce_of F4 N4 (by k_extra "mem") (by k_extra "mem") (fun p hp => .tail _ (.tail _ hp)) hC4 ⟨ex8, rfl, hJ80, ?_⟩
        rw [List.take_add_one, hq, ← List.append_assoc, List.map_append]
        exact Paired.snoc hJ8 ⟨_, rfl⟩
      · rintro mC ys' news' ⟨ex8, rfl, hJ80, hJ8⟩
        refine ⟨ex8, rfl, hJ80, ?_⟩
        rw [List.take_of_length_le (Nat.le_of_eq hsz5.symm)] at hJ8
        rw [pathsTo_succ]
        exact hJ8
    · rintro ys1 news' C oC D h tk ⟨ex4, rfl, hJ40, hJ4⟩ F1 N1 offC offD hlt
      have e5 : pathsTo nb (Str.ofString "abcde").cps.size = pathsTo nb 5 := rfl
      rw [e5] at hJ4
      refine asgF_name F1 N1 (by rfl) (by rfl) ?_
      intro h2 tk2 m2 F2' N2 hx2 hy2
      have F2 : Fr g' L' h2 m2 := F2'
      clear F2'
      have hdr2 := (hy2 (Str.ofString "draws") (by decide)).trans (by with_unfolding_all rfl : _ = some (.ref DR))
      refine ⟨m2, (D, LCg.lst ys1) :: (ex4 ++ B4), F2, N2, offC, fun h3 F3 N3 => ?_⟩
      clear N1 N2 F1 F2
      k_steps
      obtain ⟨ps, hps⟩ : ∃ ps, ps = pathsTo nb 5 := ⟨_, rfl⟩
      have hpin : ∀ p ∈ ps, p ∈ allP := by rw [hps]; exact pathsTo_in (fun i => (hnb i).2) (by decide)
      have hpl : ps.length ≤ 20000 := by rw [hps]; exact pathsTo_len (fun i => (hnb i).1) 5
      rw [← hps] at hJ4
      have hyl : ys1.length = ps.length := by rw [hJ4.length, List.length_map]
      obtain ⟨B5, hB5⟩ : ∃ B5, B5 = (D, LCg.lst ys1) :: (ex4 ++ B4) := ⟨_, rfl⟩
      refine src_list (by rfl) F3 N3 (ax := D) (its := ys1.toArray) (isList_of N3 List.mem_cons_self rfl rfl) (.inr ⟨_, List.mem_cons_self⟩) (av := []) (fun _ h => nomatch h) ?_
      intro h4 k4 S4
      refine ⟨_, _, _, S4 _ _, ?_, fun i zs l => l = B5 ∧ Paired IsStr zs (((ps.take i).filter fun p => p.length == 5).map pathS), ⟨hB5.symm, .nil⟩, ?_, ?_⟩
      · rw [List.size_toArray, hyl]
        exact Nat.le_trans hpl (by decide)
      · rintro i v zs news₁ C5 oC5 mC5 D5 h tk own E' hi hP ⟨rfl, hJ⟩ F1 N1 hC hCD off
        obtain ⟨p, hp0, up, rfl⟩ := paired_get hJ4 (i := i) (a := v) (by simpa using hP)
        rw [List.getElem?_map] at hp0
        obtain ⟨p, hp, rfl⟩ := Option.map_eq_some_iff.mp hp0
        clear hp0
        obtain ⟨_, _, pl, pl1, pl2⟩ := path_last (hpin p (List.mem_of_getElem? hp))
        have pli : ((pathS p).length : Int) = (p.length : Int) := congrArg _ pl
        refine asg_name F1 N1 hC (off1 hCD off) (by rfl) (by rfl) (by rfl) ?_
        intro h2 tk2 oC2 mC2 F2 N2 hC2 hx2 hy2
        k_steps
        · rename_i c1
          exact ce_of F2 N2 (by k_extra "mem") (by k_extra "mem") (fun p hp => .tail _ (.tail _ hp)) hC2 ⟨rfl, by rw [filt_yes hp (len_yes c1), List.map_append]; exact Paired.snoc hJ ⟨_, rfl⟩⟩
        · rename_i c1
          exact ce_of F2 N2 (by k_extra "mem") (by k_extra "mem") (fun p hp => .tail _ (.tail _ hp)) hC2 ⟨rfl, by rw [filt_no hp (len_no c1)]; exact hJ⟩
      · rintro zs news' C5 oC5 D5 h tk ⟨hnB, hJz⟩ F1 N1 offC offD hlt
        rw [hnB] at N1 offC offD
        clear hnB
        have hoC5 : (L' + 1 + 1 + 1, o1) ∈ B5 := by rw [hB5, hB4]; exact .tail _ (List.mem_append_right _ (List.mem_append_left _ (.tail _ (.head _))))
        have hD5c : @LT.lt Nat _ (L' + 1 + 1 + 1) D5 := hlt (L' + 1 + 1 + 1, o1) (by rw [hB5] at hoC5; exact hoC5)
        have e6 : ps.take ys1.toArray.size = ps := List.take_of_length_le (by rw [List.size_toArray, hyl]; exact Nat.le_refl _)
        rw [e6] at hJz
        have hpa2 := hx2
        refine asgF_name F1 N1 (by rfl) (by rfl) ?_
        intro h5 tk5 m5 F2' N2 hx5 hy5
        have F2 : Fr g' L' h5 m5 := F2'
        clear F2'
        have hdr5 := (hy5 (Str.ofString "draws") (by decide)).trans hdr2
        have hpa5 := (hy5 (Str.ofString "paths") (by decide)).trans hx2
        refine ⟨m5, (D5, LCg.lst zs) :: B5, F2, N2, offC, fun h6 F6 N6 => ?_⟩
        clear N1 N2 F1 F2 F3 N3
        k_steps
        obtain ⟨B6, hB6⟩ : ∃ B6, B6 = (D5, LCg.lst zs) :: B5 := ⟨_, rfl⟩
        have hoB6 : (L' + 1 + 1, oB) ∈ B6 := by rw [hB6, hB5, hB4]; k_extra "mem"
        have hD6 : (D, LCg.lst ys1) ∈ B6 := by rw [hB6, hB5]; k_extra "mem"
        have hR36 : ∀ p ∈ R3, p ∈ B6 := fun p hp => by rw [hB6, hB5, hB4]; k_extra "mem"
        refine src_list (by rfl) F6 N6 (ax := D) (its := ys1.toArray) (isList_of N6 (by rw [← hB6]; exact hD6) rfl rfl) (.inr ⟨_, by rw [← hB6]; exact hD6⟩) (av := []) (fun _ h => nomatch h) ?_
        intro h7 k7 S7
        refine ⟨_, _, _, S7 _ _, ?_, fun i rs l => l = B6 ∧ Paired IsStr rs (((ps.take i).filter (ringOk nb)).map ringS), ⟨hB6.symm, .nil⟩, ?_, ?_⟩
        · rw [List.size_toArray, hyl]
          exact Nat.le_trans hpl (by decide)
        · rintro i v rs news₁ C7 oC7 mC7 D7 h tk own E' hi hP ⟨rfl, hJ⟩ F1 N1 hC hCD off
          obtain ⟨p, hp0, up, rfl⟩ := paired_get hJ4 (i := i) (a := v) (by simpa using hP)
          rw [List.getElem?_map] at hp0
          obtain ⟨p, hp, rfl⟩ := Option.map_eq_some_iff.mp hp0
          clear hp0
          have hpP := hpin p (List.mem_of_getElem? hp)
          obtain ⟨pa1, pa2, pl, pl1, pl2⟩ := path_last hpP
          have pa0 := path_item0 hpP
          have pli : ((pathS p).length : Int) = (p.length : Int) := congrArg _ pl
          refine asg_name F1 N1 hC (off1 hCD off) (by rfl) (by rfl) (by rfl) ?_
          intro h2 tk2 oC2 mC2 F2 N2 hC2 hx2 hy2
          obtain ⟨R6, hR6⟩ : ∃ R6, R6 = news₁ ++ own := ⟨_, rfl⟩
          rw [← hR6] at N2
          have N3 : News g' L' h2 ((L' + 1 + 1, oB) :: (C7, oC2) :: (D7, LCg.lst rs) :: R6) := fun p hp => by
            rcases List.mem_cons.mp hp with rfl | hp
            · exact N2 _ (.tail _ (.tail _ (by rw [hR6]; exact List.mem_append_left _ hoB6)))
            · exact N2 p hp
          clear N2 N1
          obtain ⟨v9, hv9, BL, ws, rfl, hBL, hws⟩ := valueAt_paired hJB (nbT_nodup nb) (nbT_get nb pa2)
          have hin9 : ∀ p ∈ R3, p ∈ (L' + 1 + 1, oB) :: (C7, oC2) :: (D7, LCg.lst rs) :: R6 := fun p hp => .tail _ (.tail _ (.tail _ (by rw [hR6]; exact List.mem_append_left _ (hR36 _ hp))))
          have hdl := dec_len p.length pl2
          have hnl : (nameS (headP p)).length = 1 := rfl
          have e9 : Txt.item (pathS p) 0 ++ Str.ofString (toString (p.length : Int)) = ringS p := by rw [pa0]; rfl
          k_steps
          · have c2 : ringOk nb p = true := (by assumption : (nb (lastP p)).contains (headP p) = true)
            exact ce_of F2 N3 (by k_extra "mem") (by k_extra "mem") (fun p hp => .tail _ (.tail _ (.tail _ (by rw [hR6]; exact hp)))) hC2 ⟨rfl, by rw [filt_yes hp c2, List.map_append]; exact Paired.snoc hJ ⟨_, by rw [← e9]⟩⟩
          · rename_i c1
            have c2 : ringOk nb p = false := by simpa [ringOk] using c1
            exact ce_of F2 N3 (by k_extra "mem") (by k_extra "mem") (fun p hp => .tail _ (.tail _ (.tail _ (by rw [hR6]; exact hp)))) hC2 ⟨rfl, by rw [filt_no hp c2]; exact hJ⟩
        · rintro rs news' D7 h tk ⟨hnB, hJr⟩ F1 N1 offD hlt
          rw [hnB] at N1 offD
          clear hnB
          have e7 : ps.take ys1.toArray.size = ps := List.take_of_length_le (by rw [List.size_toArray, hyl]; exact Nat.le_refl _)
          rw [e7] at hJr
          obtain ⟨xr, hxr⟩ : ∃ xr, xr = (ps.filter (ringOk nb)).map ringS := ⟨_, rfl⟩
          rw [← hxr] at hJr
          have hrl : rs.length = xr.length := hJr.length
          have hpk : LawOk nb (classF (gB ds)) ps xr := law_ok hD4 hnbd hps hpin hxr
          k_steps
          k_here
          refine call_set_strs (by rfl) (isList_of N1 List.mem_cons_self rfl rfl) (by simpa using hJr) (by rw [List.size_toArray, hrl]; exact Nat.lt_of_le_of_lt (Nat.succ_le_succ hpk.r100) (by decide)) ?_
          intro h8 tk8 hS8 hk8
          have hk8' : ∀ b o, h.get? b = some o → h8.get? b = some o := fun b o e => hk8 b o (Heap.lt_size e) e
          have F8 := F1.keeps hk8'
          have N8 := N1.grown hk8'
          obtain ⟨ks, hks⟩ : ∃ ks, ks = metS (fun i => xr.getD i ⟨#[]⟩) xr.length := ⟨_, rfl⟩
          have hS8 : SetP rwP w h8 h.objs.size ks := by rw [hks, ← hrl]; exact hS8
          have hk1 : ks.length ≠ 1 := by rw [hks]; exact hpk.ne1
          have hk64 : ks.length < 64 := by rw [hks]; exact hpk.lt64
          clear N1 F1
          k_steps
          k_here
          refine sorted_set (by rfl) F8 N8 hS8 hk1 hk64 ?_
          intro D8 h9 d9 tk9 vs9 ss9 e9 F9 N9 lt9 hv9 hp9 hs9
          clear F8 N8
          have hdr9 := hdr5
          k_steps
          have hR37 : ∀ p ∈ R3, p ∈ (D8, W.listOf vs9.toArray e9) :: (D7, LCg.lst rs) :: B6 := fun p hp => .tail _ (.tail _ (hR36 p hp))
          have hoC6 : (L' + 1 + 1 + 1, o1) ∈ (D8, W.listOf vs9.toArray e9) :: (D7, LCg.lst rs) :: B6 := .tail _ (.tail _ (by rw [hB6]; exact .tail _ hoC5))
          k_here
          k_dflt (refine' classes_call ?k1 ?k2 ?k3 ?k4 ?k5 ?kK ?ka ?kb ?kc ?kd ?ke ?kf ?kg ?_; (case k1 => k_asm); (case k2 => k_asm); (case k3 => k_asm); (case k4 => k_asm); (case k5 => k_asm); (case kK => first | exact rfl | assumption); (case ka => exact hR37 _ hDRm); (case kb => exact hD1); (case kc => exact hD2); (case kd => exact hD3); (case ke => exact hD4); (case kf => (change _ + 8 < _; ktr_room)); (case kg => (change _ + 8 * 8 < _; ktr_units)))
          intro CD citsA nC h10 tk10 F10 N10 lt10 hc3
          k_here
          have hcl : (L' + 1 + 1 + 1, o1) ∈ (CD, W.listOf citsA nC) :: (D8, W.listOf vs9.toArray e9) :: (D7, LCg.lst rs) :: B6 := .tail _ hoC6
          have hCDc : @LT.lt Nat _ (L' + 1 + 1 + 1) CD := lt10 (L' + 1 + 1 + 1, o1) hoC6
          have hD8c : @LT.lt Nat _ (L' + 1 + 1 + 1) D8 := lt9 (L' + 1 + 1 + 1, o1) (.tail _ (by rw [hB6]; exact .tail _ hoC5))
          obtain ⟨B9, hB9⟩ : ∃ B9, B9 = ((CD, W.listOf citsA nC) :: (D8, W.listOf vs9.toArray e9) :: (D7, LCg.lst rs) :: B6).filter fun p => !(p.1 == L' + 1 + 1 + 1) := ⟨_, rfl⟩
          have hoff9 : ∀ p ∈ B9, p.1 ≠ L' + 1 + 1 + 1 := fun p hp => by
            rw [hB9] at hp
            have := (List.mem_filter.mp hp).2
            simpa using this
          have hin9 : ∀ p ∈ (CD, W.listOf citsA nC) :: (D8, W.listOf vs9.toArray e9) :: (D7, LCg.lst rs) :: B6, @LT.lt Nat _ (L' + 1 + 1 + 1) p.1 → p ∈ B9 := fun p hp hlt => by
            rw [hB9]
            exact List.mem_filter.mpr ⟨hp, ne_bool hlt⟩
          have N11 : News g' L' h10 ((L' + 1 + 1 + 1, o1) :: B9) := fun p hp => by
            rcases List.mem_cons.mp hp with rfl | hp
            · exact N10 _ hcl
            · rw [hB9] at hp
              exact N10 p (List.mem_filter.mp hp).1
          refine stCN (own := []) F10 N11 (by rfl) d1 (fun _ h => nomatch h) hoff9 ?_
          intro h11 oK F11 N12 dK
          have mCD : (CD, W.listOf citsA nC) ∈ B9 := hin9 _ (.head _) hCDc
          have mD8 : (D8, W.listOf vs9.toArray e9) ∈ B9 := hin9 _ (.tail _ (.head _)) hD8c
          have mD5 : (D5, LCg.lst zs) ∈ B9 := hin9 _ (by rw [hB6]; k_extra "mem") hD5c
          have N12 : News g' L' h11 ((L' + 1 + 1 + 1, oK) :: B9) := N12
          clear N10 N11 F10 hcl hin9 hB9
          obtain ⟨ck, hck⟩ : ∃ ck, ck = classF (gB ds) := ⟨_, rfl⟩
          have hc5 : ck.length = 5 := by rw [hck]; exact classF_len _
          rw [← hck] at hc3
          have citem : ∀ i, i < 5 → ∃ t, citsA[i]? = some (.int (ck.getD i 0) t) := fun i hi => by
            obtain ⟨b, hb, t, e⟩ := paired_get hc3 (i := i) (a := citsA[i]'(by have := hc3.length; rw [Array.length_toList] at this; omega)) (by simp)
            refine ⟨t, ?_⟩
            rw [List.getD_eq_getElem?_getD, hb]
            rw [Option.getD_some, ← e]
            simp
          obtain ⟨B10, hB10⟩ : ∃ B10, B10 = (L' + 1 + 1 + 1, oK) :: B9 := ⟨_, rfl⟩
          repeat (fail_if_success (with_reducible show wpAny _ _ (call (Value.type "enumerate") _) _ _ _)); (first | (k_unfold; (try dsimp only)) | (k_end; wrow_close) | walk1 | (dsimp only; walk1))
          refine src_enumStr (by rfl) F11 N12 (by decide +kernel) (av := []) (fun _ h => nomatch h) ?_
          intro I12 h12 k12 S12
          refine ⟨_, _, _, S12 _ _ _, fun i ys l => l = B10 ∧ Paired IsStr ys (dueTo ck i), ⟨hB10.symm, .nil⟩, ?_, ?_⟩
          · rintro i v ys2 news₁ C oC mC D0 h tk own E' hi ⟨T9, vals, rfl, ⟨t9, x9, hx9, rfl⟩, hT⟩ ⟨hnl, hJd⟩ F1 N1 hC hCD off
            have hi5 : i < 5 := hi
            obtain ⟨cx, ux, hcx, rfl⟩ := hx9
            have hxe : ({ cps := #[cx] } : Str) = nameS i := sign_name hi5 hcx
            rw [hxe] at hT
            refine asg_pair (by rfl) hT F1 N1 hC (off1 hCD off) (by rfl) (by rfl) (by rfl) (by rfl) (by decide) ?_
            intro h2 tk2 oC2 mC2 F2 N2 hC2 hx2 hy2
            obtain ⟨ti, hti⟩ := citem i hi5
            have hti' : citsA[((i : Nat) : Int).toNat]? = some (.int (ck.getD i 0) ti) := hti
            have hi0 : (0 : Int) ≤ ((i : Nat) : Int) := Int.natCast_nonneg _
            have hi1 : ((i : Nat) : Int) < 1000 := by omega
            obtain ⟨R12, hR12⟩ : ∃ R12, R12 = news₁ ++ own := ⟨_, rfl⟩
            rw [← hR12] at N2
            have hoK : (L' + 1 + 1 + 1, oK) ∈ R12 := by rw [hR12, hnl, hB10]; exact .head _
            have mCD2 : (CD, W.listOf citsA nC) ∈ R12 := by rw [hR12, hnl, hB10]; exact .tail _ (List.mem_append_left _ mCD)
            have N3 : News g' L' h2 ((L' + 1 + 1 + 1, oK) :: (CD, W.listOf citsA nC) :: (C, oC2) :: (D0, LCg.lst ys2) :: R12) := fun p hp => by
              rcases List.mem_cons.mp hp with rfl | hp
              · exact N2 _ (.tail _ (.tail _ hoK))
              · rcases List.mem_cons.mp hp with rfl | hp
                · exact N2 _ (.tail _ (.tail _ mCD2))
                · exact N2 p hp
            clear N2 N1
            repeat (fail_if_success (with_reducible show wpAny _ _ (pyIter _) _ _ _)); (first | (k_unfold; (try dsimp only)) | (k_end; wrow_close) | walk1 | (dsimp only; walk1))
            obtain ⟨hr1, hr2⟩ := range_due hc5 i
            (with_reducible rename Fr _ _ _ _ => F4)
            (with_reducible rename News _ _ _ _ => N4)
            have N5 : News g' L' _ ((C, oC2) :: (D0, LCg.lst ys2) :: (news₁ ++ own)) := fun p hp => N4 p (.tail _ (.tail _ (hR12 ▸ hp)))
            (with_reducible rename IsRange _ _ _ _ _ _ _ _ => HR9)
            refine src_range (by rfl) F4 N5 HR9 hr2 (n := cntC ck i - 2) hr1 (av := [C, D0]) (av2 N5) ?_
            intro h6 k6 S6
            refine ⟨oC2, mC2, news₁, _, _, hC2, ⟨_, _, rfl⟩, sub_self, S6 _ _, fun j mC ys l => mC (Str.ofString "who") = some (.str (nameS i) ux) ∧ l = B10 ∧ Paired IsStr ys (dueTo ck i ++ (List.range j).map fun (k : Nat) => nameS i ++ decS (3 + (k : Int))), ⟨hy2, hnl, by simpa using hJd⟩, ?_, ?_, ?_⟩
            · rintro j mC ys l hj ⟨_, _, hp⟩
              have z1 := hp.length
              rw [List.length_append, List.length_map, List.length_range] at z1
              have z2 := dueTo_len hc5 i
              have z3 := cntC_le hc5 i
              exact Nat.le_trans (show ys.length ≤ 100000 by omega) (by decide)
            · rintro j v₂ ys₂ news₃ oC₃ mC₃ h₃ tk₃ own₂ E'' hj ⟨t2, rfl⟩ ⟨hw3, hnl3, hJ3⟩ F5 N6 hC3 off3
              refine asg_name F5 N6 hC3 (off1 hCD off3) (by rfl) (by rfl) (by rfl) ?_
              intro h7 tk7 oC4 mC4 F7 N7 hC4 hx4 hy4
              have hw4 := (hy4 (Str.ofString "who") (by decide)).trans hw3
              have hj3 : (j : Int) < 3 := by
                have z3 := cntC_le hc5 i
                omega
              have hj0 : (0 : Int) ≤ (j : Int) := Int.natCast_nonneg _
              have hj9 : j < 3 := by omega
              clear N4 N5 F4 hr1 hr2 hj3 hj0
              k_steps
              have hdl : (Str.ofString (toString (3 + (j : Int)))).length = 1 := dec3 j hj9
              have hnl9 : (nameS i).length = 1 := rfl
              k_steps
              exact ce_of F7 N7 (by k_extra "mem") (by k_extra "mem") (fun p hp => .tail _ (.tail _ hp)) hC4 ⟨hw4, hnl3, by rw [List.range_succ, List.map_append, ← List.append_assoc]; exact Paired.snoc hJ3 ⟨_, rfl⟩⟩
            · rintro mC ys' l' ⟨_, h5, h6⟩
              exact ⟨h5, by rw [dueTo_succ]; exact h6⟩
          · rintro ys2 news' C0 oC0 D0 h tk ⟨hnB, hJd⟩ F1 N1 offC offD hlt
            rw [hnB] at N1 offC offD
            have e5 : dueTo ck (Str.ofString "abcde").cps.size = dueTo ck 5 := rfl
            rw [e5] at hJd
            refine asgF_name F1 N1 (by rfl) (by rfl) ?_
            intro h2 tk2 m12 F2' N2 hx12 hy12
            have F2 : Fr g' L' h2 m12 := F2'
            clear F2'
            have hri := (hy12 (Str.ofString "rings") (by decide)).trans (if_pos rfl)
            have hli := (hy12 (Str.ofString "listings") (by decide)).trans ((if_neg (by decide)).trans hx5)
            refine ⟨m12, (D0, LCg.lst ys2) :: B10, F2, N2, offC, fun h13 F13 N13 => ?_⟩
            clear N1 N2 F1 F2
            rw [hB10] at N13
            have N14 : News g' L' h13 ((L' + 1 + 1 + 1, oK) :: (D0, LCg.lst ys2) :: B9) := news_swap N13
            clear N13
            have hss : ss9 = dueTo ck 5 := by rw [hck]; exact hpk.srt ss9 (by rw [hks] at hp9; exact hp9) hs9
            rw [← hck] at hpk
            k_steps
            k_here
            refine strs_eq (isList_of N14 (.tail _ (.tail _ mD8)) rfl rfl) (isList_of N14 (.tail _ (.head _)) rfl rfl) (by simpa using paired_of_strs hv9) (by simpa using hJd) (by rw [hss]; exact hpk.sok) hpk.sok (by units_room) ?_
            rw [decide_eq_true hss]
            k_steps
            k_here
            have hzl : zs.length = (ps.filter fun p => p.length == 5).length := by rw [hJz.length, List.length_map]
            k_dflt (refine' inorder_call (its := zs.toArray) (n := zs.length) (ps := ps.filter fun p => p.length == 5) (ks := ck) ?k1 ?k2 ?k3 ?k4 ?k5 ?kK ?ka ?kb ?kx ?kc ?ky ?kz ?kd ?ke ?kf ?kg ?_; (case k1 => k_asm); (case k2 => k_asm); (case k3 => k_asm); (case k4 => k_asm); (case k5 => k_asm); (case kK => first | exact rfl | assumption); (case ka => exact .tail _ (.tail _ mD5)); (case kb => simpa using hJz); (case kx => exact fun p hp => five_in p (hpin p (List.mem_filter.mp hp).1) (by simpa using (List.mem_filter.mp hp).2)); (case kc => exact .tail _ (.tail _ mCD)); (case ky => rfl); (case kz => rfl); (case kd => exact hc3); (case ke => exact hc5); (case kf => (change _ + 8 < _; ktr_room)); (case kg => (change _ + 8 * 8 < _; ktr_units)))
            intro h14 tk14 F14 N15
            rw [hpk.ord]
            k_steps
            k_here
            refine KM.len_K N15 (its := zs.toArray) (c := zs.length) (n := zs.length) (.tail _ (.tail _ mD5)) (by simp) (by have := List.length_filter_le (fun p : List Nat => p.length == 5) ps; omega) ?_
            k_steps
            rw [odd_fmod (by rw [hzl]; exact hpk.odd : zs.length % 2 = 1)]
            exact ret h14 d9 _ ⟨m12, F14⟩
end
end Mine
end
set_option maxRecDepth 100000 in
set_option maxHeartbeats 0 in
open PySem PySem.W PySem.Calls PyProof.Rows PyProof.V PySem.Spec Mine in
theorem PySem.Challenge.cw_sn0103_01_holds : PySem.Challenge.rw_sn0103_01.Holds := by
  w_on
  refine holds_law Mine.said fun said => ?_
  refine holds_open (q := qV) (loose := looseV) (Xt := fun s => xtV s) (XP := XL qV []) (Yf := Hook.obs HK) (Ya := Hook.val HK) (YP := Hook.says HK) (N := 400000) (left_of mega_eq) (Hook.of HK) (Hook.keeps HK) (fun s e => xl_of s (Bool.and_eq_true_iff.mp e).1) XL.keeps (by rfl) (by rfl) (by rfl) (fun s e => recFacts_of (Bool.and_eq_true_iff.mp e).2) (by rfl) (by first | assumption | decide +kernel) (by decide +kernel) ⟨rfl, rfl, rfl, rfl, rfl, by decide +kernel⟩ ?hw ?hc
  case hw => w_witness2
  w_strict (k_fill; intro w s₀ s₁ mg mb G Y fa o pm cd doc dV kV ho hd hcd hD hmg hg args vals as hpre hlay hrd hwl hlo; have KX := kIn_of Y; have X := (Ground.X G).1; have V := (Ground.X G).2; refine Ground.open G ?_; intro T B D TE TW; (try (refine guard_noD D (by decide +kernel) ?_; clear D)); obtain ⟨_, _, M⟩ := bmod_of_top T; have TA := at_of_top T; (try (obtain ⟨_, _, he, B0⟩ := based_of_top T rfl hmg ho hd; have he' : cd = _ := he; subst he'; clear he)); clear hmg; wrow_args hpre hlay hrd hwl hlo; (all_goals ((first | refine callC_kw (enter_call ?_) | refine enter_call ?_ | refine callC_kw (enter_callW ?_) | refine enter_callW ?_ | w_how); w_top on; (try refine codeAny_mono ?_ (fun _ _ g => GoodW.toG g)); have K0 := below_caller (Top.heap T); w_call any ho hd hcd hD T F; clear hd TA; k_drop)); (with_reducible rename Shared => s9); refine Mine.law_body (s := s9) (news := []) (by assumption) (by assumption) (by assumption) (by assumption) (by assumption) (by assumption) (by assumption) (by assumption) (fun _ h => nomatch h) (by assumption) (by assumption) (by omega) (dp := 1 + claimMargin) (un := 4) (by decide +kernel) (by decide +kernel) ?_; rintro h2 d2 tk2 ⟨m2, F2⟩; (show GoodW _ _ _ _ _ (.ok (.ret (.bool true))) _); refine goodW_bool F2 (by assumption) (raisesW_false ?_) ?_; (· wrow_none_raised); (· wrow_post))
