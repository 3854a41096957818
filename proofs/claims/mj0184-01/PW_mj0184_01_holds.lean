import PyProof.Rows.All
import Wide.All
import OpenK.AllK
import Wide.FinOn
import PySem.Challenge.RW_mj0184_01
section T_HdGo
open PySem PySem.W PyProof.Rows
set_option Elab.async false
namespace Mine
abbrev P0 : Program := PySem.Challenge.pw_mj0184_01
abbrev ann0 : Option Value := some (.ref 6)
abbrev sr (w : World) (N : Nat) (s : Shared) (t : Thread) : Option (Flow × Shared × Code × Pos) := segRun treeTable P0 w 11 ann0 1 N s t

theorem sr_mono {w : World} (k : Nat) : ∀ (n : Nat) (s : Shared) (t : Thread) (r : Flow × Shared × Code × Pos), sr w n s t = some r → sr w (n + k) s t = some r
  | 0, _, _, _, h => by simp [segRun] at h
  | n + 1, s, t, r, h => by
    rw [show n + 1 + k = n + k + 1 by omega]
    unfold sr segRun at h ⊢
    cases he : endAt 1 t with
    | some f => rw [he] at h; exact h
    | none =>
      rw [he] at h
      cases hk : stepOk 11 ann0 t with
      | false => rw [hk] at h; cases h
      | true =>
        rw [hk] at h
        cases hs : step (denote treeTable) P0 w s t with
        | halt o s₂ => rw [hs] at h; cases h
        | go s₂ t₂ => rw [hs] at h; exact sr_mono k n s₂ t₂ r h

/-- m, begun at s and pos, gives a at s' and pos' within n steps, whatever is behind it. -/
noncomputable def Go (w : World) (n : Nat) {α : Type} (m : Sem α) (s : Shared) (pos : Pos) (a : α) (s' : Shared) (pos' : Pos) : Prop :=
  ∀ (K : α → Sem Fin) (H : Value → Sem Fin) (gd : Bool → Bool) (lv : List Value → List Value) (c : Code) (b : Frame) (N : Nat) (r : Flow × Shared × Code × Pos),
    sr w N s' ⟨K a, c, pos', [b]⟩ = some r → sr w (n + N) s ⟨m.wrap K H gd lv, c, pos, [b]⟩ = some r

section
variable {w : World} {α β : Type} {s s₁ s₂ : Shared} {pos p₁ p₂ : Pos}

theorem Go.mono {n n' : Nat} {m : Sem α} {a : α} (h : Go w n m s pos a s₁ p₁) (hn : n ≤ n') : Go w n' m s pos a s₁ p₁ := by
  intro K H gd lv c b N r k
  have := sr_mono (n' - n) _ _ _ _ (h K H gd lv c b N r k)
  rw [show n + N + (n' - n) = n' + N by omega] at this
  exact this
theorem Go.pure {a : α} : Go w 0 (pure a : Sem α) s pos a s pos := by
  intro K H gd lv c b N r k
  rw [Nat.zero_add]; exact k
theorem Go.bind {n n' : Nat} {m : Sem α} {f : α → Sem β} {a : α} {z : β} (h : Go w n m s pos a s₁ p₁) (h' : Go w n' (f a) s₁ p₁ z s₂ p₂) : Go w (n + n') (m >>= f) s pos z s₂ p₂ := by
  intro K H gd lv c b N r k
  rw [Sem.bind_eq_wrap', Sem.wrap_wrap, Nat.add_assoc]
  exact h _ _ _ _ c b _ r (h' K H gd lv c b N r k)
theorem Go.map {n : Nat} {m : Sem α} {f : α → β} {a : α} (h : Go w n m s pos a s₁ p₁) : Go w n (f <$> m) s pos (f a) s₁ p₁ := by
  have e : f <$> m = m >>= fun x => Pure.pure (f x) := rfl
  rw [e]
  exact Go.bind (f := fun x => (Pure.pure (f x) : Sem β)) h Go.pure
theorem Go.keep {n : Nat} {m : Sem α} {a : α} {vs : List Value} (h : Go w n m s pos a s₁ p₁) : Go w n (m.keep vs) s pos a s₁ p₁ := by
  intro K H gd lv c b N r k
  rw [Sem.keep_eq_wrap, Sem.wrap_wrap]
  exact h _ _ _ _ c b N r k
theorem Go.holding {n : Nat} {m : Sem α} {a : α} {vs : List Value} (h : Go w n m s pos a s₁ p₁) : Go w n (holding vs m) s pos a s₁ p₁ := by
  unfold PySem.holding
  split
  · exact h
  · exact h.keep
theorem Go.onRaise {n : Nat} {m : Sem α} {a : α} {f : Value → Sem Unit} (h : Go w n m s pos a s₁ p₁) : Go w n (m.onRaise f) s pos a s₁ p₁ := by
  intro K H gd lv c b N r k
  rw [Sem.onRaise_eq_wrap, Sem.wrap_wrap]
  exact h _ _ _ _ c b N r k
theorem sr_step {t t' : Thread} {N : Nat} {r : Flow × Shared × Code × Pos} (h1 : endAt 1 t = none) (h2 : stepOk 11 ann0 t = true) (h3 : step (denote treeTable) P0 w s t = .go s₁ t') (h : sr w N s₁ t' = some r) : sr w (1 + N) s t = some r := by
  rw [Nat.add_comm]
  unfold sr segRun
  rw [h1, h2, h3]
  exact h
theorem Go.rule {tag : String} : Go w 1 (rule tag) s pos () s pos := fun _ _ _ _ _ _ _ _ k => sr_step (by simp [endAt, PySem.rule, Sem.wrap]) rfl rfl k
theorem Go.standAt {p : Pos} : Go w 1 (standAt p) s pos () s p := fun _ _ _ _ _ _ _ _ k => sr_step (by simp [endAt, PySem.standAt, Sem.wrap]) rfl rfl k
theorem Go.fresh : Go w 1 (fresh) s pos s.toks { s with toks := s.toks + 1 } pos := fun _ _ _ _ _ _ _ _ k => sr_step (by simp [endAt, PySem.fresh, Sem.wrap]) rfl rfl k
theorem Go.alloc {o : Obj} : Go w 1 (alloc o) s pos s.heap.objs.size { s with heap := s.heap.push o } pos := fun _ _ _ _ _ _ _ _ k => sr_step (by simp [endAt, PySem.alloc, Sem.wrap]) rfl rfl k
theorem Go.ask : Go w 1 (ask) s pos ⟨P0, w.params⟩ s pos := fun _ _ _ _ _ _ _ _ k => sr_step (by simp [endAt, PySem.ask, Sem.wrap]) rfl rfl k
theorem Go.loadPart {a : Addr} {part : Option Value} {o : Obj} (ho : s.heap.get? a = some o) : Go w 1 (loadPart a part) s pos o s pos := by
  intro K H gd lv c b N r k
  obtain ⟨heap, gens, drawn, toks, os⟩ := s
  exact sr_step (t' := ⟨K o, c, pos, [b]⟩) (by simp [endAt, PySem.loadPart, Sem.wrap]) rfl (by simp only [PySem.loadPart, Sem.wrap, step]; rw [show heap.get? a = some o from ho]) k
theorem Go.load {a : Addr} {o : Obj} (ho : s.heap.get? a = some o) : Go w 1 (load a) s pos o s pos := Go.loadPart ho
theorem Go.updatePart {a : Addr} {part : Option Value} {f : Obj → Obj} {o : Obj} (ha : 11 ≤ a) (ho : s.heap.get? a = some o) : Go w 1 (updatePart a part f) s pos () { s with heap := s.heap.update a f } pos := by
  intro K H gd lv c b N r k
  obtain ⟨heap, gens, drawn, toks, os⟩ := s
  refine sr_step (t' := ⟨K (), c, pos, [b]⟩) (by simp [endAt, PySem.updatePart, Sem.wrap]) ?_ (by simp only [PySem.updatePart, Sem.wrap, step]; rw [show heap.get? a = some o from ho]; rfl) k
  show (Thread.calm _ && (Nat.ble 11 a || _ || _ || _)) = true
  rw [Nat.ble_eq_true_of_le ha]
  rfl
theorem Go.of_eq {n : Nat} {m m' : Sem α} {a : α} (e : m = m') (h : Go w n m' s pos a s₁ p₁) : Go w n m s pos a s₁ p₁ := e ▸ h
end
end Mine
end T_HdGo

section T_HdDict
open PySem PySem.W PyProof.Rows
set_option Elab.async false
namespace Mine
set_option maxRecDepth 100000
/-- the hash of a small int, up to its reduction: five steps of the machine, by evaluation with every datum a letter -/
noncomputable def HashP (w : World) : Prop := ∀ (heap : Heap) (gens : Array GenState) (drawn : Drawn) (toks : Nat) (os : OsState) (k : Int) (t : Tok) (K : Int → Sem Fin) (H : Value → Sem Fin) (gd : Bool → Bool) (lv : List Value → List Value) (c : Code) (pos : Pos) (b : Frame),
  segGo treeTable P0 w 11 ann0 1 5 ⟨heap, gens, drawn, toks, os⟩ ⟨(pyHash (.int k t)).wrap K H gd lv, c, pos, [b]⟩ =
   some (⟨heap, gens, drawn, toks + 1, os⟩, ⟨(pyHashByItsType.reduced (rawHash k)).wrap K H gd lv, c, pos, [b]⟩)
theorem hash_run (w : World) : HashP w := byRow2 "special-get-raises" (P := HashP) (fun w => by unfold HashP; intros; kernel_rfl) (fun w => by unfold HashP; intros; kernel_rfl) w

section
variable {w : World} {s : Shared} {pos : Pos}
theorem reduced_raw (k : Int) : pyHashByItsType.reduced (rawHash k) = pure (hashInt k) := by
  have hr := rawHash_range k
  unfold pyHashByItsType.reduced
  rw [if_pos (by rw [decide_eq_true hr.1, decide_eq_true hr.2]; rfl)]
  rfl
theorem go_hash {k : Int} {t : Tok} : Go w 5 (pyHash (.int k t)) s pos (hashInt k) { s with toks := s.toks + 1 } pos := by
  intro K H gd lv c b N r h
  obtain ⟨heap, gens, drawn, toks, os⟩ := s
  refine seg_go (hash_run w heap gens drawn toks os k t K H gd lv c pos b) ?_
  rw [reduced_raw]
  exact h
theorem go_entries {d : Addr} {part : Option Value} {o : Obj} {es ep} (ho : s.heap.get? d = some o) (hd : o.data = .dict es ep) : Go w 1 (dictEntries d part) s pos es s pos := by
  unfold dictEntries
  refine Go.bind (n := 1) (n' := 0) (Go.loadPart ho) ?_
  rw [hd]
  exact Go.pure
theorem go_epoch {d : Addr} {part : Option Value} {o : Obj} {es ep} (ho : s.heap.get? d = some o) (hd : o.data = .dict es ep) : Go w 1 (dictEpoch d part) s pos ep s pos := by
  unfold dictEpoch
  refine Go.bind (n := 1) (n' := 0) (Go.loadPart ho) ?_
  rw [hd]
  exact Go.pure
theorem places_none {es : Array DictEntry} {h : Int} (hn : ∀ e ∈ es, e.hash ≠ h) : placesWithHash es.size (fun i => es[i]?.map (·.hash)) h = [] := by
  unfold placesWithHash
  rw [List.filter_eq_nil_iff]
  intro i hi
  have hi := List.mem_range.mp hi
  show ¬ ((es[i]?.map (·.hash)) == some h) = true
  rw [Array.getElem?_eq_getElem hi, Option.map_some]
  simp only [beq_iff_eq, Option.some.injEq]
  exact hn _ (Array.getElem_mem hi)
theorem go_find_none {d : Addr} {o : Obj} {es ep} {k h : Int} {t : Tok} (ho : s.heap.get? d = some o) (hd : o.data = .dict es ep) (hn : ∀ e ∈ es, e.hash ≠ h) :
    Go w 1 (dictFind d (.int k t) h) s pos none s pos := by
  unfold dictFind
  refine Go.holding (Go.bind (n := 1) (n' := 0) (go_entries ho hd) ?_)
  dsimp only
  rw [places_none hn]
  exact Go.pure
theorem go_push {d : Addr} {part : Option Value} {o : Obj} {es ep} {e : DictEntry} (hlo : 11 ≤ d) (ho : s.heap.get? d = some o) (hd : o.data = .dict es ep) (hz : es.size ≤ sizeLine) :
    Go w 3 (updateDictKeys d (·.push e) part) s pos () { s with heap := s.heap.update d (Obj.mapDictKeys (·.push e)) } pos := by
  obtain ⟨c, dd, dt, sl⟩ := o
  simp only at hd; subst hd
  unfold updateDictKeys
  refine Go.bind (n := 1) (n' := 2) (Go.loadPart ho) ?_
  dsimp only
  refine Go.bind (n := 1) (n' := 1) (Go.updatePart hlo ho) ?_
  unfold lookBehind
  refine Go.bind (n := 1) (n' := 0) (Go.loadPart (o := Obj.mapDictKeys (·.push e) ⟨c, dd, .dict es ep, sl⟩) (Heap.get?_update_self _ ho rfl)) ?_
  have hp : (Obj.mapDictKeys (·.push e) ⟨c, dd, .dict es ep, sl⟩).data.pastItsLine = none := pastItsLine_dict (by rw [Array.size_push]; omega)
  rw [hp]
  exact Go.pure
theorem go_dictSet {d : Addr} {o : Obj} {es ep} {k : Int} {t : Tok} {v : Value} (hlo : 11 ≤ d) (ho : s.heap.get? d = some o) (hd : o.data = .dict es ep) (hz : es.size ≤ sizeLine) (hn : ∀ e ∈ es, e.hash ≠ hashInt k) :
    Go w 10 (dictSet d (.int k t) v) s pos () { s with heap := s.heap.update d (Obj.mapDictKeys (·.push ⟨hashInt k, .int k t, v⟩)), toks := s.toks + 1 } pos := by
  unfold dictSet
  refine Go.holding (Go.bind (n := 5) (n' := 5) go_hash ?_)
  unfold dictSetHashed
  refine Go.holding (Go.bind (n := 1) (n' := 4) (go_find_none (s := { s with toks := s.toks + 1 }) ho hd hn) ?_)
  dsimp only
  refine Go.bind (n := 1) (n' := 3) Go.rule ?_
  exact go_push (s := { s with toks := s.toks + 1 }) hlo ho hd hz
theorem go_dictPut {d : Addr} {o : Obj} {es ep} {k : Int} {t : Tok} {v : Value} (hlo : 11 ≤ d) (ho : s.heap.get? d = some o) (hd : o.data = .dict es ep) (hz : es.size ≤ sizeLine) (hn : ∀ e ∈ es, e.hash ≠ hashInt k) :
    Go w 4 (dictPut d (hashInt k) (.int k t) v) s pos () { s with heap := s.heap.update d (Obj.mapDictKeys (·.push ⟨hashInt k, .int k t, v⟩)) } pos := by
  unfold dictPut
  refine Go.bind (n := 1) (n' := 3) (go_find_none ho hd hn) ?_
  exact go_push hlo ho hd hz
end

theorem go_forIn {w : World} {γ : Type} {n : Nat} {f : γ → PUnit → Sem (ForInStep PUnit)} : ∀ (l : List γ) (S : Nat → Shared) (P : Nat → Pos),
    (∀ i (hi : i < l.length), Go w n (f l[i] ⟨⟩) (S i) (P i) (.yield ⟨⟩) (S (i + 1)) (P (i + 1))) → Go w (n * l.length) (forIn l PUnit.unit f) (S 0) (P 0) ⟨⟩ (S l.length) (P l.length)
  | [], S, P, _ => by rw [List.forIn_nil]; exact Go.pure
  | x :: l, S, P, h => by
    rw [List.forIn_cons, List.length_cons, Nat.mul_succ, Nat.add_comm]
    refine Go.bind (h 0 (by simp)) ?_
    exact go_forIn l (fun i => S (i + 1)) (fun i => P (i + 1)) (fun i hi => h (i + 1) (by simpa using hi))
end Mine
end T_HdDict

section T_HdDict2
open PySem PySem.W PyProof.Rows
set_option Elab.async false
namespace Mine
set_option maxRecDepth 100000
abbrev KV := Int × Str
noncomputable def hp (l : List Obj) : Heap := ⟨l.toArray, {}⟩
noncomputable def dO (es : List DictEntry) : Obj := { cls := .type "dict", data := .dict es.toArray es.length }
noncomputable def ents : Nat → List KV → List DictEntry
  | _, [] => []
  | t, (k, v) :: l => ⟨hashInt k, .int k t, .str v (t + 1)⟩ :: ents (t + 3) l
noncomputable def ents2 : Nat → List KV → List DictEntry
  | _, [] => []
  | t, (k, v) :: l => ⟨hashInt k, .int k t, .str v (t + 1)⟩ :: ents2 (t + 2) l
noncomputable def prog (pd : Pos) (p : KV) : Sem Value × Sem Value := (mkInt p.1, do let x ← mkText p.2; standAt pd; pure x)
noncomputable def item (p : Sem Value × Sem Value) : Option (Sem Value) × Sem Value := (some p.1, p.2)

theorem hp_get {L R : List Obj} {x : Obj} (hx : x.isFreed = false) : (hp (L ++ x :: R)).get? L.length = some x := by
  unfold Heap.get? hp
  obtain ⟨c, d, dt, sl⟩ := x
  simp only [List.getElem?_toArray]
  rw [List.getElem?_append_right (Nat.le_refl _), Nat.sub_self]
  cases dt <;> first | rfl | cases hx
theorem hp_update {L R : List Obj} {x : Obj} {f : Obj → Obj} : (hp (L ++ x :: R)).update L.length f = hp (L ++ f x :: R) := by
  show Heap.mk ((L ++ x :: R).toArray.modify L.length f) {} = Heap.mk _ {}
  congr 1
  apply Array.ext_getElem?
  intro i
  rw [Array.getElem?_modify]
  simp only [List.getElem?_toArray]
  by_cases h : L.length = i
  · subst h
    rw [if_pos rfl, List.getElem?_append_right (Nat.le_refl _), List.getElem?_append_right (Nat.le_refl _), Nat.sub_self]
    rfl
  · rw [if_neg h]
    by_cases h' : i < L.length
    · rw [List.getElem?_append_left h', List.getElem?_append_left h']
    · rw [List.getElem?_append_right (by omega), List.getElem?_append_right (by omega)]
      obtain ⟨j, hj⟩ : ∃ j, i - L.length = j + 1 := ⟨i - L.length - 1, by omega⟩
      rw [hj]
      rfl
theorem hp_push {L : List Obj} {x : Obj} : (hp L).push x = hp (L ++ [x]) := by
  show Heap.mk (L.toArray.push x) {} = Heap.mk _ {}
  rw [List.push_toArray]
theorem hp_size {L : List Obj} : (hp L).objs.size = L.length := by simp [hp]
theorem dO_push {es : List DictEntry} {e : DictEntry} : Obj.mapDictKeys (·.push e) (dO es) = dO (es ++ [e]) := by
  show Obj.mk _ _ (Data.dict (es.toArray.push e) (es.length + 1)) _ = Obj.mk _ _ (Data.dict _ _) _
  rw [List.push_toArray, List.length_append]
  rfl
theorem ents_length : ∀ (l : List KV) (t : Nat), (ents t l).length = l.length
  | [], _ => rfl
  | _ :: l, t => by simp [ents, ents_length l]
theorem ents2_length : ∀ (l : List KV) (t : Nat), (ents2 t l).length = l.length
  | [], _ => rfl
  | _ :: l, t => by simp [ents2, ents2_length l]
theorem ents_hash : ∀ (l : List KV) (t : Nat), (ents t l).map (·.hash) = l.map fun p => hashInt p.1
  | [], _ => rfl
  | _ :: l, t => by simp [ents, ents_hash l]
theorem ents2_hash : ∀ (l : List KV) (t : Nat), (ents2 t l).map (·.hash) = l.map fun p => hashInt p.1
  | [], _ => rfl
  | _ :: l, t => by simp [ents2, ents2_hash l]
noncomputable def IntE (e : DictEntry) : Prop := ∃ k t v, e = ⟨hashInt k, .int k t, v⟩
theorem ents_int : ∀ (l : List KV) (t : Nat), ∀ e ∈ ents t l, IntE e
  | (k, v) :: l, t, e, h => by
    rcases List.mem_cons.mp h with rfl | h
    · exact ⟨k, t, _, rfl⟩
    · exact ents_int l _ e h
theorem ents2_int : ∀ (l : List KV) (t : Nat), ∀ e ∈ ents2 t l, IntE e
  | (k, v) :: l, t, e, h => by
    rcases List.mem_cons.mp h with rfl | h
    · exact ⟨k, t, _, rfl⟩
    · exact ents2_int l _ e h

section
variable {w : World} {g : Array GenState} {dr : Drawn} {os : OsState} {pos pd : Pos}

theorem go_key {k : Int} {s : Shared} : Go w 1 (mkInt k) s pos (.int k s.toks) { s with toks := s.toks + 1 } pos :=
  Go.bind (n := 1) (n' := 0) Go.fresh Go.pure
theorem go_val {v : Str} {s : Shared} : Go w 2 (do let x ← mkText v; standAt pd; pure x : Sem Value) s pos (.str v s.toks) { s with toks := s.toks + 1 } pd :=
  Go.bind (n := 1) (n' := 1) (Go.bind (n := 1) (n' := 0) Go.fresh Go.pure) (Go.bind (n := 1) (n' := 0) Go.standAt Go.pure)

theorem nodup_head {es : List DictEntry} {k : Int} {hs : List Int} (hn : (es.map (·.hash) ++ hashInt k :: hs).Nodup) : ∀ e ∈ es.toArray, e.hash ≠ hashInt k := by
  intro e he h
  have he := List.mem_toArray.mp he
  have := (List.nodup_append.mp hn).2.2 _ (List.mem_map_of_mem he) _ (List.mem_cons_self)
  exact this h
theorem nodup_shift {es : List DictEntry} {k : Int} {t : Tok} {v : Value} {hs : List Int} (hn : (es.map (·.hash) ++ hashInt k :: hs).Nodup) : ((es ++ [(⟨hashInt k, .int k t, v⟩ : DictEntry)]).map (·.hash) ++ hs).Nodup := by
  simpa using hn
theorem go_fill {L : List Obj} (hL : 11 ≤ L.length) : ∀ (l : List KV) (es : List DictEntry) (t : Nat) (p0 : Pos), (es.map (·.hash) ++ l.map fun p => hashInt p.1).Nodup → es.length + l.length ≤ sizeLine → (l = [] → p0 = pd) →
    Go w (13 * l.length) (forIn (l.map (prog pd)) PUnit.unit fun (x : Sem Value × Sem Value) (_ : PUnit) => (match x with
      | (k, v) => do
        let kv ← k
        let vv ← holding [kv] v
        holding [kv, vv] (dictSet L.length kv vv)
        pure (ForInStep.yield PUnit.unit) : Sem (ForInStep PUnit)))
      ⟨hp (L ++ [dO es]), g, dr, t, os⟩ p0 ⟨⟩ ⟨hp (L ++ [dO (es ++ ents t l)]), g, dr, t + 3 * l.length, os⟩ pd
  | [], es, t, p0, _, _, hp0 => by
    rw [List.map_nil, List.forIn_nil, hp0 rfl]
    simp only [ents, List.append_nil, List.length_nil, Nat.mul_zero, Nat.add_zero]
    exact Go.pure
  | (k, v) :: l, es, t, p0, hn, hz, _ => by
    rw [List.map_cons, List.forIn_cons, List.length_cons, Nat.mul_succ, Nat.add_comm (13 * l.length)]
    rw [List.map_cons] at hn
    simp only [List.length_cons] at hz
    refine Go.bind (a := ForInStep.yield PUnit.unit) (s₁ := ⟨hp (L ++ [dO (es ++ [⟨hashInt k, .int k t, .str v (t + 1)⟩])]), g, dr, t + 3, os⟩) (p₁ := pd) ?_ ?_
    · refine Go.bind (n := 1) (n' := 12) go_key ?_
      refine Go.bind (n := 2) (n' := 10) (Go.holding go_val) ?_
      refine Go.bind (n := 10) (n' := 0) (Go.holding (go_dictSet (es := es.toArray) (ep := es.length) hL (hp_get (R := []) rfl) rfl (by simp only [List.size_toArray]; omega) (nodup_head hn))) ?_
      dsimp only
      rw [hp_update, dO_push]
      exact Go.pure
    · have := go_fill hL l (es ++ [⟨hashInt k, .int k t, .str v (t + 1)⟩]) (t + 3) pd (nodup_shift hn) (by simp only [List.length_append, List.length_cons, List.length_nil]; omega) (fun _ => rfl)
      simp only [ents, List.append_assoc, List.cons_append, List.nil_append] at this ⊢
      rw [show t + 3 * (l.length + 1) = t + 3 + 3 * l.length by omega]
      exact this
theorem go_sub_long {L : List Obj} (hL : 11 ≤ L.length) (l : List KV) (t : Nat) (h15 : 15 < l.length) (hz : l.length ≤ sizeLine) (hn : (l.map fun p => hashInt p.1).Nodup) :
    Go w (2 + 13 * l.length) (subDict (l.map (prog pd))) ⟨hp L, g, dr, t, os⟩ pos L.length ⟨hp (L ++ [dO (ents t l)]), g, dr, t + 3 * l.length, os⟩ pd := by
  unfold subDict
  rw [show 2 + 13 * l.length = 1 + (1 + 13 * l.length) by omega]
  refine Go.bind (n := 1) Go.alloc ?_
  dsimp only
  rw [hp_push, hp_size]
  refine Go.bind (n := 1 + 13 * l.length) (n' := 0) (Go.holding ?_) Go.pure (a := ())
  rw [if_neg (by rw [List.length_map]; omega)]
  refine Go.bind (n := 1) Go.rule ?_
  have := go_fill (w := w) (g := g) (dr := dr) (os := os) (pd := pd) hL l [] t pos (by simpa using hn) (by simpa using hz) (fun e => by subst e; simp at h15)
  exact Go.bind (n' := 0) this Go.pure
end
end Mine
end T_HdDict2

section T_HdDict3
open PySem PySem.W PyProof.Rows
set_option Elab.async false
namespace Mine
set_option maxRecDepth 100000
section
variable {w : World} {g : Array GenState} {dr : Drawn} {os : OsState} {pos pd : Pos} {h : Heap}

noncomputable def vals2 : Nat → List KV → List (Value × Value)
  | _, [] => []
  | t, (k, v) :: l => (.int k t, .str v (t + 1)) :: vals2 (t + 2) l
theorem go_evalPairs : ∀ (l : List KV) (t : Nat) (p0 : Pos), (l = [] → p0 = pd) →
    Go w (3 * l.length) (evalPairs (l.map (prog pd))) ⟨h, g, dr, t, os⟩ p0 (vals2 t l) ⟨h, g, dr, t + 2 * l.length, os⟩ pd
  | [], t, p0, hp0 => by rw [hp0 rfl]; exact Go.pure
  | (k, v) :: l, t, p0, _ => by
    rw [List.map_cons, List.length_cons, Nat.mul_succ, Nat.add_comm (3 * l.length)]
    show Go w _ (evalPairs ((mkInt k, _) :: _)) _ _ _ _ _
    rw [evalPairs]
    rw [show 3 + 3 * l.length = 1 + (2 + 3 * l.length) by omega]
    refine Go.bind go_key (Go.bind (Go.holding go_val) ?_)
    have := go_evalPairs l (t + 2) pd (fun _ => rfl)
    rw [show t + 2 * (l.length + 1) = t + 2 + 2 * l.length by omega]
    exact Go.bind (n' := 0) (Go.holding this) Go.pure
theorem go_fill2 {L : List Obj} (hL : 11 ≤ L.length) : ∀ (l : List KV) (es : List DictEntry) (t tk : Nat), (es.map (·.hash) ++ l.map fun p => hashInt p.1).Nodup → es.length + l.length ≤ sizeLine →
    Go w (10 * l.length) (forIn (vals2 tk l) PUnit.unit fun (x : Value × Value) (_ : PUnit) => (match x with
      | (k, v) => do
        dictSet L.length k v
        pure (ForInStep.yield PUnit.unit) : Sem (ForInStep PUnit)))
      ⟨hp (L ++ [dO es]), g, dr, t, os⟩ pd ⟨⟩ ⟨hp (L ++ [dO (es ++ ents2 tk l)]), g, dr, t + l.length, os⟩ pd
  | [], es, t, tk, _, _ => by
    rw [vals2, List.forIn_nil]
    simp only [ents2, List.append_nil, List.length_nil, Nat.mul_zero, Nat.add_zero]
    exact Go.pure
  | (k, v) :: l, es, t, tk, hn, hz => by
    rw [vals2, List.forIn_cons, List.length_cons, Nat.mul_succ, Nat.add_comm (10 * l.length)]
    rw [List.map_cons] at hn
    simp only [List.length_cons] at hz
    refine Go.bind (a := ForInStep.yield PUnit.unit) (s₁ := ⟨hp (L ++ [dO (es ++ [⟨hashInt k, .int k tk, .str v (tk + 1)⟩])]), g, dr, t + 1, os⟩) (p₁ := pd) ?_ ?_
    · refine Go.bind (n := 10) (n' := 0) (go_dictSet (es := es.toArray) (ep := es.length) hL (hp_get (R := []) rfl) rfl (by simp only [List.size_toArray]; omega) (nodup_head hn)) ?_
      dsimp only
      rw [hp_update, dO_push]
      exact Go.pure
    · have := go_fill2 hL l (es ++ [⟨hashInt k, .int k tk, .str v (tk + 1)⟩]) (t + 1) (tk + 2) (nodup_shift hn) (by simp only [List.length_append, List.length_cons, List.length_nil]; omega)
      simp only [ents2, List.append_assoc, List.cons_append, List.nil_append] at this ⊢
      rw [show t + (l.length + 1) = t + 1 + l.length by omega]
      exact this
theorem go_sub_short {L : List Obj} (hL : 11 ≤ L.length) (l : List KV) (t : Nat) (h15 : l.length ≤ 15) (h0 : l ≠ []) (hn : (l.map fun p => hashInt p.1).Nodup) :
    Go w (1 + 13 * l.length) (subDict (l.map (prog pd))) ⟨hp L, g, dr, t, os⟩ pos L.length ⟨hp (L ++ [dO (ents2 t l)]), g, dr, t + 3 * l.length, os⟩ pd := by
  unfold subDict
  refine Go.bind (n := 1) Go.alloc ?_
  dsimp only
  rw [hp_push, hp_size]
  refine Go.bind (n := 13 * l.length) (n' := 0) (Go.holding ?_) Go.pure (a := ())
  rw [if_pos (by rw [List.length_map]; omega)]
  rw [show 13 * l.length = 3 * l.length + 10 * l.length by omega]
  refine Go.bind (go_evalPairs l t pos (fun e => absurd e h0)) (Go.holding ?_)
  have := go_fill2 (w := w) (g := g) (dr := dr) (os := os) (pd := pd) hL l [] (t + 2 * l.length) t (by simpa using hn) (by rw [sizeLine_eq]; simp; omega)
  rw [show t + 3 * l.length = t + 2 * l.length + l.length by omega]
  exact Go.bind (n' := 0) this Go.pure

theorem look_dict_iter : typeLookup (.type "dict") (Str.ofString "__iter__") = pure (some (.builtin "dict.__iter__")) := by rw [typeLookup_type, builtinLookup_eq_fast]; kernel_rfl
theorem go_typeOf {a : Addr} {o : Obj} {s : Shared} (ho : s.heap.get? a = some o) : Go w 1 (typeOf (.ref a)) s pos o.cls s pos := Go.bind (n := 1) (n' := 0) (Go.loadPart ho) Go.pure
theorem go_isDict {a : Addr} {o : Obj} {s : Shared} (ho : s.heap.get? a = some o) (hc : o.cls = .type "dict") : Go w 1 (isInstance (.ref a) (.type "dict")) s pos true s pos := by
  unfold PySem.isInstance
  refine Go.bind (n := 1) (n' := 0) (go_typeOf ho) ?_
  rw [hc, PyProof.Rows.sub_dict_dict]
  exact Go.pure
theorem go_iterOf {a : Addr} {o : Obj} {s : Shared} (ho : s.heap.get? a = some o) (hc : o.cls = .type "dict") : Go w 1 (specialOf (.ref a) (Str.ofString "__iter__")) s pos (some (.builtin "dict.__iter__")) s pos := by
  unfold specialOf
  refine Go.bind (n := 1) (n' := 0) (go_typeOf ho) ?_
  rw [hc, look_dict_iter]
  exact Go.pure
/-- the loop of a merge, over the places that are left -/
theorem go_mergeLoop {L R : List Obj} {es' : List DictEntry} {A : Addr} {t : Nat} (hL : 11 ≤ L.length) (hA : A = L.length + 1 + R.length) (hz : 2 * es'.length ≤ sizeLine) :
    ∀ (rest done : List DictEntry) (es : List DictEntry), es' = done ++ rest → (∀ e ∈ rest, IntE e) → (es.map (·.hash) ++ rest.map (·.hash)).Nodup → es.length + rest.length ≤ sizeLine →
    Go w (6 * rest.length) (forIn (List.range' done.length rest.length) PUnit.unit fun (i : Nat) (_ : PUnit) => (do
        let x ← dictEntries A
        match x[i]? with
          | some e => do
            holding [e.key, e.val]
                (if false = true then do
                  let y ← dictFind L.length e.key e.hash
                  if y.isSome = true then do
                      rule "dict.merge.duplicate-key"
                      let z ← newExc (Value.type "KeyError") [e.key]
                      raiseNew z
                      dictPut L.length e.hash e.key e.val
                    else dictPut L.length e.hash e.key e.val
                else dictPut L.length e.hash e.key e.val)
            let y ← dictEpoch A
            if (y != es'.length) = true then do
                unsupported "dict.changed-during-merge"
                pure (ForInStep.yield PUnit.unit)
              else pure (ForInStep.yield PUnit.unit)
          | _ => do
            unsupported "dict.changed-during-merge"
            pure (ForInStep.yield PUnit.unit) : Sem (ForInStep PUnit)))
      ⟨hp (L ++ dO es :: (R ++ [dO es'])), g, dr, t, os⟩ pos ⟨⟩ ⟨hp (L ++ dO (es ++ rest) :: (R ++ [dO es'])), g, dr, t, os⟩ pos
  | [], done, es, _, _, _, _ => by
    rw [List.length_nil, List.range'_zero, List.forIn_nil, List.append_nil]
    exact Go.pure
  | e :: rest, done, es, he, hi, hn, hs => by
    obtain ⟨k, tk, v, rfl⟩ := hi e (.head _)
    rw [List.length_cons, List.range'_succ, List.forIn_cons, Nat.mul_succ, Nat.add_comm (6 * rest.length)]
    rw [List.map_cons] at hn
    simp only [List.length_cons] at hs
    have gA : ∀ x : List DictEntry, (hp (L ++ dO x :: (R ++ [dO es']))).get? A = some (dO es') := fun x => by
      have := hp_get (L := L ++ dO x :: R) (R := []) (x := dO es') rfl
      rw [List.append_assoc, List.cons_append] at this
      rw [hA, show L.length + 1 + R.length = (L ++ dO x :: R).length by simp; omega]
      exact this
    have hix : es'.toArray[done.length]? = some ⟨hashInt k, .int k tk, v⟩ := by
      rw [List.getElem?_toArray, he, List.getElem?_append_right (Nat.le_refl _), Nat.sub_self]; rfl
    refine Go.bind (a := ForInStep.yield PUnit.unit) (s₁ := ⟨hp (L ++ dO (es ++ [⟨hashInt k, .int k tk, v⟩]) :: (R ++ [dO es'])), g, dr, t, os⟩) (p₁ := pos) ?_ ?_
    · refine Go.bind (n := 1) (n' := 5) (go_entries (gA es) rfl) ?_
      rw [hix]
      dsimp only
      refine Go.bind (n := 4) (n' := 1) (Go.holding (go_dictPut (es := es.toArray) (ep := es.length) hL (hp_get rfl) rfl (by simp only [List.size_toArray]; omega) (nodup_head hn))) ?_
      dsimp only
      rw [hp_update, dO_push]
      refine Go.bind (n := 1) (n' := 0) (go_epoch (gA _) rfl) ?_
      rw [if_neg (by simp)]
      exact Go.pure
    · have := go_mergeLoop (t := t) hL hA hz rest (done ++ [⟨hashInt k, .int k tk, v⟩]) (es ++ [⟨hashInt k, .int k tk, v⟩]) (by rw [he]; simp) (fun e h => hi e (.tail _ h)) (by simpa using hn) (by simp only [List.length_append, List.length_cons, List.length_nil]; omega)
      simp only [List.append_assoc, List.cons_append, List.nil_append, List.length_append, List.length_cons, List.length_nil] at this ⊢
      exact this
theorem go_merge {L R : List Obj} {es es' : List DictEntry} {A : Addr} {t : Nat} (hL : 11 ≤ L.length) (hA : A = L.length + 1 + R.length) (hz : 2 * es'.length ≤ sizeLine) (h0 : es ≠ []) (hi : ∀ e ∈ es', IntE e)
    (hn : (es.map (·.hash) ++ es'.map (·.hash)).Nodup) (hs : es.length + es'.length ≤ sizeLine) :
    Go w (5 + 6 * es'.length) (mergeMapping L.length (.ref A) false) ⟨hp (L ++ dO es :: (R ++ [dO es'])), g, dr, t, os⟩ pos () ⟨hp (L ++ dO (es ++ es') :: (R ++ [dO es'])), g, dr, t, os⟩ pos := by
  have gA : ∀ x : List DictEntry, (hp (L ++ dO x :: (R ++ [dO es']))).get? A = some (dO es') := fun x => by
    have := hp_get (L := L ++ dO x :: R) (R := []) (x := dO es') rfl
    rw [List.append_assoc, List.cons_append] at this
    rw [hA, show L.length + 1 + R.length = (L ++ dO x :: R).length by simp; omega]
    exact this
  unfold mergeMapping
  dsimp only
  rw [show 5 + 6 * es'.length = 1 + (1 + (1 + (1 + (1 + 6 * es'.length)))) by omega]
  refine Go.bind (go_isDict (gA es) rfl) ?_
  rw [if_pos rfl]
  refine Go.bind (go_iterOf (gA es) rfl) ?_
  refine Go.bind (n := 0) (n' := 1 + (1 + (1 + 6 * es'.length))) Go.pure ?_ |>.mono (by omega)
  have hb : ((some (Value.builtin "dict.__iter__") : Option Value) == some (Value.builtin "dict.__iter__")) = true := by simp
  rw [hb]
  dsimp only
  have hsy : (A == sysModules) = false := by
    have : sysModules < 11 := by decide
    refine beq_eq_false_iff_ne.mpr fun e => ?_
    have h2 : A < 11 := e ▸ this
    have h3 : L.length < 11 := Nat.lt_of_le_of_lt (by rw [hA]; exact Nat.le_trans (Nat.le_succ _) (Nat.le_add_right _ _)) h2
    exact absurd hL (Nat.not_le.mpr h3)
  rw [hsy]
  rw [if_neg Bool.false_ne_true]
  refine Go.bind (go_entries (hp_get (x := dO es) rfl) rfl) ?_
  rw [if_neg (by simp [h0])]
  refine Go.bind (go_entries (gA es) rfl) (Go.bind (go_epoch (gA es) rfl) ?_)
  have := go_mergeLoop (w := w) (g := g) (dr := dr) (os := os) (pos := pos) (t := t) hL hA hz es' [] es rfl hi hn hs
  rw [List.length_nil, ← List.range_eq_range'] at this
  refine Go.bind (n' := 0) (a := ⟨⟩) ?_ Go.pure
  rw [show es'.toArray.size = es'.length from List.size_toArray]
  exact this
end
end Mine
end T_HdDict3

section T_HdDict4
open PySem PySem.W PyProof.Rows
set_option Elab.async false
namespace Mine
set_option maxRecDepth 100000
abbrev SV := Sem Value × Sem Value
abbrev LSt := Option Addr × List SV
noncomputable def flushed (run : List SV) (main : Option Addr) : Sem (Option Addr) :=
  if run.isEmpty = true then pure main else match main with
    | none => do
      let d ← subDict run
      pure (some d)
    | some d => do
      let sub ← holding [Value.ref d] (subDict run)
      (holding [Value.ref d, Value.ref sub] (mergeMapping d (Value.ref sub) false)).onRaise fun x => do
        let _ ← holding [Value.ref d, x] (runValue (Code.builtin "proto.let_go" {}))
        pure ()
      pure (some d)
theorem gather_less {f : (Option (Sem Value) × Sem Value) → LSt → Sem (ForInStep LSt)}
    (hf : ∀ (p : SV) (main : Option Addr) (run : List SV), run.length + 1 ≠ 17 → f (item p) (main, run) = pure (.yield (main, run ++ [p]))) :
    ∀ (l run : List SV) (main : Option Addr), run.length + l.length < 17 → forIn (l.map item) (main, run) f = (pure (main, run ++ l) : Sem LSt)
  | [], run, main, _ => by simp
  | p :: rest, run, main, h => by
    rw [List.map_cons, List.forIn_cons, hf p main run (by simp at h; omega), pure_bind]
    have := gather_less hf rest (run ++ [p]) main (by simp at h ⊢; omega)
    simpa using this
theorem gather_full {f : (Option (Sem Value) × Sem Value) → LSt → Sem (ForInStep LSt)}
    (hf : ∀ (p : SV) (main : Option Addr) (run : List SV), run.length + 1 ≠ 17 → f (item p) (main, run) = pure (.yield (main, run ++ [p])))
    (hg : ∀ (p : SV) (main : Option Addr) (run : List SV), run.length + 1 = 17 → f (item p) (main, run) = (do let m ← flushed (run ++ [p]) main; pure (.yield (m, [])))) (rest : List (Option (Sem Value) × Sem Value)) :
    ∀ (l run : List SV) (main : Option Addr), run.length + l.length = 17 → l ≠ [] → forIn (l.map item ++ rest) (main, run) f = (do let m ← flushed (run ++ l) main; forIn rest (m, []) f : Sem LSt)
  | [], run, main, _, h0 => absurd rfl h0
  | [p], run, main, h, _ => by
    rw [List.map_cons, List.map_nil, List.cons_append, List.nil_append, List.forIn_cons, hg p main run (by simpa using h), bind_assoc]
    simp only [pure_bind]
  | p :: p' :: l, run, main, h, _ => by
    rw [List.map_cons, List.cons_append, List.forIn_cons, hf p main run (by simp at h; omega), pure_bind]
    have := gather_full hf hg rest (p' :: l) (run ++ [p]) main (by simp at h ⊢; omega) (by simp)
    simpa using this
section
variable {w : World} {g : Array GenState} {dr : Drawn} {os : OsState} {pos pd : Pos}
/-- the chunks behind the first: the main dict grows, each chunk's own dict is laid behind -/
noncomputable def behind : Nat → List (List KV) → List Obj
  | _, [] => []
  | t, c :: cs => dO (ents t c) :: behind (t + 51) cs
noncomputable def entsAll : Nat → List (List KV) → List DictEntry
  | _, [] => []
  | t, c :: cs => ents t c ++ entsAll (t + 51) cs
theorem go_flush_long {L R : List Obj} {es : List DictEntry} (hL : 11 ≤ L.length) (c : List KV) (t : Nat) (hc : c.length = 17) (h0 : es ≠ []) (hn : (es.map (·.hash) ++ c.map fun p => hashInt p.1).Nodup) (hs : es.length + 17 ≤ sizeLine) :
    Go w 330 (flushed (c.map (prog pd)) (some L.length)) ⟨hp (L ++ dO es :: R), g, dr, t, os⟩ pos (some L.length) ⟨hp (L ++ dO (es ++ ents t c) :: (R ++ [dO (ents t c)])), g, dr, t + 51, os⟩ pd := by
  have hz : 17 ≤ sizeLine := by rw [sizeLine_eq]; decide
  have hz2 : 34 ≤ sizeLine := by rw [sizeLine_eq]; decide
  unfold flushed
  rw [if_neg (by rw [List.isEmpty_map]; cases c with | nil => simp at hc | cons => simp)]
  dsimp only
  have e1 := go_sub_long (w := w) (g := g) (dr := dr) (os := os) (pos := pos) (pd := pd) (L := L ++ dO es :: R) (by simp; omega) c t (by omega) (by omega) ((List.nodup_append.mp hn).2.1)
  rw [hc] at e1
  have e2 := go_merge (w := w) (g := g) (dr := dr) (os := os) (pos := pd) (t := t + 3 * 17) (L := L) (R := R) (es := es) (es' := ents t c) (A := (L ++ dO es :: R).length) hL (by rw [List.length_append, List.length_cons, Nat.add_assoc, Nat.add_comm 1]) (by rw [ents_length, hc]; omega) h0 (ents_int _ _) (by rw [ents_hash]; exact hn) (by rw [ents_length, hc]; omega)
  rw [ents_length, hc] at e2
  rw [List.append_assoc, List.cons_append] at e1
  refine Go.mono (Go.bind (Go.holding e1) (Go.bind (Go.onRaise (Go.holding e2)) (n' := 0) Go.pure)) (by omega)
theorem go_loop {L : List Obj} (hL : 11 ≤ L.length) {f : (Option (Sem Value) × Sem Value) → LSt → Sem (ForInStep LSt)}
    (hf : ∀ (p : SV) (main : Option Addr) (run : List SV), run.length + 1 ≠ 17 → f (item p) (main, run) = pure (.yield (main, run ++ [p])))
    (hg : ∀ (p : SV) (main : Option Addr) (run : List SV), run.length + 1 = 17 → f (item p) (main, run) = (do let m ← flushed (run ++ [p]) main; pure (.yield (m, [])))) (last : List KV) (hlast : last.length < 17) :
    ∀ (cs : List (List KV)) (R : List Obj) (es : List DictEntry) (t : Nat) (p0 : Pos), (∀ c ∈ cs, c.length = 17) → es ≠ [] → (es.map (·.hash) ++ cs.flatten.map fun p => hashInt p.1).Nodup → es.length + 17 * cs.length ≤ sizeLine → (cs = [] → p0 = pd) →
    Go w (330 * cs.length) (forIn ((cs.flatten.map (prog pd)).map item ++ (last.map (prog pd)).map item) (some L.length, []) f : Sem LSt) ⟨hp (L ++ dO es :: R), g, dr, t, os⟩ p0 (some L.length, last.map (prog pd))
      ⟨hp (L ++ dO (es ++ entsAll t cs) :: (R ++ behind t cs)), g, dr, t + 51 * cs.length, os⟩ pd
  | [], R, es, t, p0, _, _, _, _, hp0 => by
    rw [List.flatten_nil, List.map_nil, List.map_nil, List.nil_append, gather_less hf _ _ _ (by simpa using hlast), hp0 rfl]
    simp only [entsAll, behind, List.append_nil, List.nil_append, List.length_nil, Nat.mul_zero, Nat.add_zero]
    exact Go.pure
  | c :: cs, R, es, t, p0, hc, h0, hn, hs, _ => by
    have hc0 := hc c (.head _)
    simp only [List.length_cons] at hs
    rw [List.flatten_cons, List.map_append] at hn
    rw [List.flatten_cons, List.map_append, List.map_append, List.append_assoc, gather_full hf hg _ _ _ _ (by simpa using hc0) (by intro e; have := congrArg List.length e; simp [hc0] at this), List.nil_append]
    rw [List.length_cons, Nat.mul_succ, Nat.add_comm (330 * cs.length)]
    have e1 := go_flush_long (w := w) (g := g) (dr := dr) (os := os) (pos := p0) (pd := pd) (R := R) hL c t hc0 h0 (by rw [← List.append_assoc] at hn; exact (List.nodup_append.mp hn).1) (by omega)
    refine Go.bind e1 ?_
    have e2 := go_loop hL hf hg last hlast cs (R ++ [dO (ents t c)]) (es ++ ents t c) (t + 51) pd (fun c h => hc c (.tail _ h)) (by simp [h0]) (by rw [List.map_append, ents_hash, List.append_assoc]; exact hn)
      (by rw [List.length_append, ents_length, hc0]; omega) (fun _ => rfl)
    simp only [entsAll, behind, List.append_assoc, List.cons_append, List.nil_append] at e2 ⊢
    rw [show t + 51 * (cs.length + 1) = t + 51 + 51 * cs.length by omega]
    exact e2
theorem go_display {L : List Obj} (hL : 11 ≤ L.length) (c0 : List KV) (cs : List (List KV)) (last : List KV) (t : Nat) (h0 : c0.length = 17) (hc : ∀ c ∈ cs, c.length = 17) (hl : last.length ≤ 15) (hl0 : last ≠ [])
    (hn : ((c0 ++ cs.flatten ++ last).map fun p => hashInt p.1).Nodup) (hs : 17 + 17 * cs.length + 17 ≤ sizeLine) :
    Go w (223 + 330 * cs.length + 300) (dictDisplay (((c0 ++ cs.flatten ++ last).map (prog pd)).map item)) ⟨hp L, g, dr, t, os⟩ pos (.ref L.length)
      ⟨hp (L ++ dO (ents t c0 ++ entsAll (t + 51) cs ++ ents2 (t + 51 + 51 * cs.length) last) :: (behind (t + 51) cs ++ [dO (ents2 (t + 51 + 51 * cs.length) last)])), g, dr, t + 51 + 51 * cs.length + 3 * last.length, os⟩ pd := by
  have hz : 34 ≤ sizeLine := by rw [sizeLine_eq]; decide
  have hn' := hn
  rw [List.map_append, List.map_append, List.append_assoc] at hn
  have hnA := (List.nodup_append.mp hn).1
  unfold dictDisplay
  dsimp only
  rw [List.map_append, List.map_append, List.map_append, List.map_append, List.append_assoc]
  rw [gather_full (f := _) ?hf ?hg _ _ _ _ (by simpa using h0) (by intro e; have := congrArg List.length e; simp [h0] at this), List.nil_append, bind_assoc]
  case hf =>
    intro p main run h
    have hne : ((run ++ [p]).length == 17) = false := by simp; omega
    show (if ((run ++ [p]).length == 17) = true then _ else _) = _
    rw [hne, if_neg Bool.false_ne_true]
    rfl
  case hg =>
    intro p main run h
    have hne : ((run ++ [p]).length == 17) = true := by simp; omega
    show (if ((run ++ [p]).length == 17) = true then _ else _) = _
    rw [if_pos hne]
    rfl
  have e0 := go_sub_long (w := w) (g := g) (dr := dr) (os := os) (pos := pos) (pd := pd) hL c0 t (by omega) (by omega) hnA
  rw [h0] at e0
  refine Go.mono (Go.bind (n := 223) (n' := 330 * cs.length + 300) (a := some L.length) (s₁ := ⟨hp (L ++ [dO (ents t c0)]), g, dr, t + 51, os⟩) (p₁ := pd) ?_ ?_) (by omega)
  · unfold flushed
    rw [if_neg (by rw [List.isEmpty_map]; cases c0 with | nil => simp at h0 | cons => simp)]
    exact Go.bind (n := 2 + 13 * 17) (n' := 0) e0 Go.pure
  · have hne0 : ents t c0 ≠ [] := by intro e; have := congrArg List.length e; rw [ents_length, h0] at this; simp at this
    have e1 := fun f hf hg => go_loop (w := w) (g := g) (dr := dr) (os := os) (pd := pd) hL (f := f) hf hg last (by omega) cs [] (ents t c0) (t + 51) pd hc hne0
      (by rw [ents_hash]; rw [← List.append_assoc] at hn; exact (List.nodup_append.mp hn).1) (by rw [ents_length, h0]; omega) (fun _ => rfl)
    refine Go.bind (n := 330 * cs.length) (n' := 300) (e1 _ ?hf ?hg) ?_
    case hf =>
      intro p main run h
      have hne : ((run ++ [p]).length == 17) = false := by simp; omega
      show (if ((run ++ [p]).length == 17) = true then _ else _) = _
      rw [hne, if_neg Bool.false_ne_true]
      rfl
    case hg =>
      intro p main run h
      have hne : ((run ++ [p]).length == 17) = true := by simp; omega
      show (if ((run ++ [p]).length == 17) = true then _ else _) = _
      rw [if_pos hne]
      rfl
    rw [List.nil_append]
    have hlen : (ents t c0 ++ entsAll (t + 51) cs).length = 17 + 17 * cs.length := by
      have : ∀ (cs : List (List KV)) (t : Nat), (∀ c ∈ cs, c.length = 17) → (entsAll t cs).length = 17 * cs.length := by
        intro cs
        induction cs with
        | nil => intro t _; rfl
        | cons c cs ih => intro t h; rw [entsAll, List.length_append, ents_length, h c (.head _), ih _ (fun c q => h c (.tail _ q)), List.length_cons]; omega
      rw [List.length_append, ents_length, h0, this cs _ hc]
    have hhash : (ents t c0 ++ entsAll (t + 51) cs).map (·.hash) = (c0.map fun p => hashInt p.1) ++ cs.flatten.map fun p => hashInt p.1 := by
      have : ∀ (cs : List (List KV)) (t : Nat), (entsAll t cs).map (·.hash) = cs.flatten.map fun p => hashInt p.1 := by
        intro cs
        induction cs with
        | nil => intro t; rfl
        | cons c cs ih => intro t; rw [entsAll, List.map_append, ents_hash, ih, List.flatten_cons, List.map_append]
      rw [List.map_append, ents_hash, this]
    have e2 := go_sub_short (w := w) (g := g) (dr := dr) (os := os) (pos := pd) (pd := pd) (L := L ++ dO (ents t c0 ++ entsAll (t + 51) cs) :: behind (t + 51) cs) (by simp; omega) last (t + 51 + 51 * cs.length) hl hl0
      (by rw [← List.append_assoc] at hn; exact (List.nodup_append.mp hn).2.1)
    have e3 := go_merge (w := w) (g := g) (dr := dr) (os := os) (pos := pd) (t := t + 51 + 51 * cs.length + 3 * last.length) (L := L) (R := behind (t + 51) cs) (es := ents t c0 ++ entsAll (t + 51) cs) (es' := ents2 (t + 51 + 51 * cs.length) last)
      (A := (L ++ dO (ents t c0 ++ entsAll (t + 51) cs) :: behind (t + 51) cs).length) hL (by rw [List.length_append, List.length_cons, Nat.add_assoc, Nat.add_comm 1]) (by rw [ents2_length]; omega) (by simp [hne0]) (ents2_int _ _)
      (by rw [hhash, ents2_hash, List.append_assoc]; exact hn) (by rw [hlen, ents2_length]; omega)
    rw [List.append_assoc, List.cons_append] at e2
    rw [ents2_length] at e3
    refine Go.mono (Go.bind (n := 1 + 13 * last.length + (5 + 6 * last.length)) (n' := 0) (a := some L.length) ?_ Go.pure) (by omega)
    show Go w _ (flushed (last.map (prog pd)) (some L.length)) _ _ _ _ _
    unfold flushed
    rw [if_neg (by rw [List.isEmpty_map]; cases last with | nil => exact absurd rfl hl0 | cons => simp)]
    exact Go.bind (Go.holding e2) (Go.bind (Go.onRaise (Go.holding e3)) (n' := 0) Go.pure)
end
end Mine
end T_HdDict4

section T_HdTop
open PySem PySem.W PyProof.Rows
set_option Elab.async false
namespace Mine
set_option maxRecDepth 100000
noncomputable def stm (i : Nat) : Stmt := (behindTheImports P0).getD i (.Pass default)
noncomputable def fdat (i g : Nat) (m c : Value) : FuncData := match stm i with
  | .FunctionDef name args body _ _ _ scope _ _ _ => { name := name, qualname := name, params := args, body := .stmts body, scope := scope, globals := g, closure := [], defaults := .none, kwdefaults := .none, pyModule := m, code := c }
  | _ => default
noncomputable def env0 : Env := { scope := P0.main.scope, locals := mainNs, globals := mainNs, cells := [], code := .ref 13, frame := some 14 }
noncomputable def cE : Code := .body (behindTheImports P0) env0
abbrev q0 : Pos := ⟨0, 0, 0, 0⟩
abbrev B0 : List Frame := [topFrame q0]
noncomputable def mk (l : List Obj) : BT := (l.foldl (fun (a : BT × Nat) o => (a.1.ins a.2 o, a.2 + 1)) (BT.nil, 0)).1
noncomputable def es0 (P : Params) (nm : Value) : List DictEntry := [⟨PyData.keyHash P "__name__", .str "__name__" 165, nm⟩,
  ⟨PyData.keyHash P "__doc__", .str "__doc__" 166, .none⟩, ⟨PyData.keyHash P "__package__", .str "__package__" 167, .none⟩,
  ⟨PyData.keyHash P "__loader__", .str "__loader__" 168, .builtin "__main__.__loader__#opaque"⟩, ⟨PyData.keyHash P "__spec__", .str "__spec__" 169, .none⟩,
  ⟨PyData.keyHash P "__annotations__", .str "__annotations__" 170, .ref 6⟩, ⟨PyData.keyHash P "__builtins__", .str "__builtins__" 171, .ref 4⟩,
  ⟨PyData.keyHash P "__file__", .str "__file__" 173, .str "/claim/cut.py" 172⟩, ⟨PyData.keyHash P "__cached__", .str "__cached__" 174, .none⟩]
noncomputable def mainO (P : Params) (nm : Value) (more : List DictEntry) : Obj := { cls := .type "dict", data := .dict (es0 P nm ++ more).toArray (9 + more.length) }
noncomputable def tup0 : Obj := { cls := .type "tuple", data := .seq #[] }
noncomputable def flds (l : List Value) : Obj := { cls := .none, data := .fields l.toArray }
noncomputable def codeO (nm : Str) (t line argc nl : Nat) (a b names args fn : Value) (fast : Bool) (x : Nat) : Obj :=
  { cls := .type "code", data := .fields #[.str nm t, .str nm (t + 1), .str "/claim/cut.py" (t + 2), .int line 0, .int argc 0, .int 0 0, .int 0 0, .int nl 0, a, .bool fast, .int 181 0, b, .none, names, args, fn, .int x 0, .int line 0, .str "/claim/cut.py" (x + 1)] }
noncomputable def preO (P : Params) (m : Obj) (c : List Value) : List Obj := [boot_o_0 P, boot_o_1 P, boot_o_2 P, m, boot_o_4 P, boot_o_5 P, boot_o_6 P, boot_o_7 P, boot_o_8 P, boot_o_9 P, boot_o_10 P,
   tup0, flds c, codeO "<module>" 182 1 0 0 (.ref 11) (.ref 12) .none .none .none false 185,
   { cls := .type "frame", slots := #[some (.ref 13), some (.ref 3), some (.ref 3), none, some (.str "__main__" 164), none, some (.ref 0)] }]
noncomputable def varO : List Str → Nat → List Value
  | [], _ => []
  | x :: l, t => .str x t :: varO l (t + 1)
/-- what a def of the top lays: with fast names (n of them) seven objects, without five -/
noncomputable def defV (i base tok line argc : Nat) (nm : Str) (vars : List Str) (m : Value) : List Obj :=
  [tup0, flds [], { cls := .type "tuple", data := .seq (varO vars (tok + 3)).toArray }, tup0, { cls := .none, data := .func (fdat i 0 .none .none) },
   codeO nm tok line argc 3 (.ref base) (.ref (base + 1)) (.ref (base + 2)) (.ref (base + 3)) (.ref (base + 4)) true (tok + 3 + vars.length), { cls := .type "function", data := .func (fdat i 3 m (.ref (base + 5))) }]
noncomputable def defN (i base tok line argc : Nat) (nm : Str) (m : Value) : List Obj :=
  [tup0, flds [], { cls := .none, data := .func (fdat i 0 .none .none) },
   codeO nm tok line argc 3 (.ref base) (.ref (base + 1)) .none .none (.ref (base + 2)) true (tok + 3), { cls := .type "function", data := .func (fdat i 3 m (.ref (base + 3))) }]
noncomputable def nE (P : Params) (nm : Str) (t a : Nat) : DictEntry := ⟨PyData.keyHash P nm, .str nm t, .ref a⟩
noncomputable def m1 : Value := .str "cpy313.doctest" 187
noncomputable def m2 : Value := .str "cpy313.stringprep" 196
noncomputable def m3 : Value := .str "law_mj0184_01" 2224
noncomputable def ch (line a : Nat) : List Value := [.int line 0, .int 0 0, .ref a]
noncomputable def D1 : List Obj := defV 1 15 189 2 1 "_comment_line" ["line"] m1
noncomputable def D4 : List Obj := defV 4 33 258 10 1 "in_table_b1" ["code"] m2
noncomputable def D6 : List Obj := defV 6 79 2216 13 1 "map_table_b3" ["code", "r"] m2
noncomputable def D8 : List Obj := defV 8 86 2226 19 1 "_law_nothing" ["k", "row", "place"] m3
noncomputable def D9 : List Obj := defN 9 93 2235 25 0 "_law_blanks" m3
noncomputable def D10 : List Obj := defV 10 98 2241 27 1 "_law_any" ["k", "place"] m3
noncomputable def D11 : List Obj := defV 11 105 2249 32 1 "_law_pair" ["x", "kind", "rest", "blank", "several", "alike", "sign"] m3
noncomputable def D12 : List Obj := defN 12 112 2262 52 1 "_law_pairs" m3
noncomputable def D13 : List Obj := defN 13 117 2268 55 1 "_law_prepared" m3
noncomputable def D14 : List Obj := defN 14 122 2274 57 2 "_law_commented" m3
noncomputable def D15 : List Obj := defN 15 127 2280 65 1 "law" m3
noncomputable def i11 : List Value := [.int 173 198, .int 847 199, .int 6150 200, .int 6155 201, .int 6156 202, .int 6157 203, .int 8203 204, .int 8204 205, .int 8205 206, .int 8288 207, .int 65279 208]
noncomputable def i16 : List Value := (List.range 16).map fun (i : Nat) => .int (65024 + i) (214 + i)
noncomputable def b1Items : Array (Int × Value) := #[(65024, .int 65024 214), (65025, .int 65025 215), (65026, .int 65026 216), (65027, .int 65027 217), (65028, .int 65028 218), (65029, .int 65029 219), (6150, .int 6150 200), (65030, .int 65030 220), (65031, .int 65031 221),
  (65032, .int 65032 222), (65033, .int 65033 223), (6155, .int 6155 201), (6156, .int 6156 202), (6157, .int 6157 203), (8203, .int 8203 204), (8204, .int 8204 205), (8205, .int 8205 206), (65034, .int 65034 224), (65035, .int 65035 225),
  (65036, .int 65036 226), (65037, .int 65037 227), (65038, .int 65038 228), (65039, .int 65039 229), (173, .int 173 198), (847, .int 847 199), (8288, .int 8288 207), (65279, .int 65279 208)]
noncomputable def setO (b : Bool) : Obj := { cls := .type "set", data := .set b1Items 29 (SetTable.mk 127 #[0, 1, 2, 3, 4, 5, 6, 7, 8, 9, 10, 11, 12, 13, 14, 15, 16, 17, 18, 19, 20, 21, 22, 45, 79, 96, 127] #[] 0 b 2 true) }
noncomputable def stopO (a : Nat) : Obj := { cls := .type "StopIteration", data := .fields #[.ref a, .none, .none, .none, .bool false, .none] }
noncomputable def S3 (P : Params) : List Obj := [{ cls := .type "list", data := .seq i11.toArray }, { cls := .type "range", data := .fields #[.int 65024 209, .int 65040 210, .int 1 211] }, { cls := .type "list", data := .seq i16.toArray 18 },
   { cls := .type "range_iterator", data := .fields #[.int 65040 0, .int 0 0, .int 1 0] }, tup0, stopO 26, { cls := .type "list", data := .seq (i11 ++ i16).toArray }, setO (!P.followText "set-order"),
   { cls := .type "list_iterator", data := .fields #[.none, .int 27 0] }, tup0, stopO 31]
noncomputable def E1 (P : Params) : List DictEntry := [nE P "_comment_line" 195 21]
noncomputable def E3 (P : Params) : List DictEntry := E1 P ++ [nE P "b1_set" 257 29]
noncomputable def E4 (P : Params) : List DictEntry := E3 P ++ [nE P "in_table_b1" 264 39]
noncomputable def E5 (P : Params) : List DictEntry := E4 P ++ [nE P "b3_exceptions" 2215 40]
noncomputable def E15 (P : Params) : List DictEntry := E5 P ++ [nE P "map_table_b3" 2223 85, nE P "_law_nothing" 2234 92, nE P "_law_blanks" 2240 97, nE P "_law_any" 2248 104, nE P "_law_pair" 2261 111, nE P "_law_pairs" 2267 116, nE P "_law_prepared" 2273 121, nE P "_law_commented" 2279 126, nE P "law" 2285 131]
noncomputable def C15 : List Value := ch 2 20 ++ ch 10 38 ++ ch 13 84 ++ ch 19 91 ++ ch 25 96 ++ ch 27 103 ++ ch 32 110 ++ ch 52 115 ++ ch 55 120 ++ ch 57 125 ++ ch 65 130
noncomputable def objsA (P : Params) : List Obj := preO P (boot_o_3 P) []
noncomputable def objs2 (P : Params) : List Obj := preO P (mainO P m2 (E1 P)) (ch 2 20) ++ D1
noncomputable def objs3 (P : Params) : List Obj := preO P (mainO P m2 (E3 P)) (ch 2 20) ++ D1 ++ S3 P
noncomputable def objs4 (P : Params) : List Obj := preO P (mainO P m2 (E4 P)) (ch 2 20 ++ ch 10 38) ++ D1 ++ S3 P ++ D4
-- the table
noncomputable def kvOf : Stmt → List KV
  | .Assign _ (.Dict ks vs _) _ => (ks.zip vs).filterMap fun
    | (some (.Constant (.int k) _ _), .Constant (.str v) _ _) => some (k, v)
    | _ => none
  | _ => []
noncomputable def kvs : List KV := kvOf (stm 5)
noncomputable def cuts : Nat → List KV → List (List KV)
  | 0, _ => []
  | n + 1, l => l.take 17 :: cuts n (l.drop 17)
noncomputable def kv0 : List KV := kvs.take 17
noncomputable def kvC : List (List KV) := cuts 37 (kvs.drop 17)
noncomputable def kvL : List KV := kvs.drop 646
noncomputable def b3E : List DictEntry := ents 265 kv0 ++ entsAll 316 kvC ++ ents2 2203 kvL
noncomputable def T5 : List Obj := dO b3E :: (behind 316 kvC ++ [dO (ents2 2203 kvL)])
noncomputable def objs5 (P : Params) : List Obj := preO P (mainO P m2 (E5 P)) (ch 2 20 ++ ch 10 38) ++ D1 ++ S3 P ++ D4 ++ T5
noncomputable def objs15 (P : Params) : List Obj := preO P (mainO P m3 (E15 P)) C15 ++ D1 ++ S3 P ++ D4 ++ T5 ++ D6 ++ D8 ++ D9 ++ D10 ++ D11 ++ D12 ++ D13 ++ D14 ++ D15
noncomputable def st (os : OsState) (l : List Obj) (toks : Nat) : SharedT := ⟨mk l, l.length, {}, #[], {}, toks, os⟩
end Mine
end T_HdTop

section T_HdRun
open PySem PySem.W PyProof.Rows
set_option Elab.async false
namespace Mine
set_option maxRecDepth 100000
theorem r012 (w : World) : (fun os => segRunT treeTable P0 w 11 ann0 1 60 (st os (objsA w.params) 187) (piecesOf [stm 0, stm 1, stm 2] env0 cE q0 B0)) = fun os => some (.next, st os (objs2 w.params) 198, cE, ⟨8, 0, 8, 8⟩) := by kernel_rfl
noncomputable def P3 (w : World) : Prop := (fun os => PySem.W.Fast.tw10110043849684766642 PySem.W.Fast.tw14364793385576792824 P0 w 11 ann0 1 999 (st os (objs2 w.params) 198) (piecesOf [stm 3] env0 cE ⟨8, 0, 8, 8⟩ B0)) = fun os => some (.next, st os (objs3 w.params) 258, cE, ⟨9, 0, 9, 6⟩)
theorem r3f (w : World) : P3 (w.withFollow "special-get-raises" false) := by unfold P3; kernel_rfl
theorem r3t (w : World) : P3 (w.withFollow "special-get-raises" true) := by unfold P3; kernel_rfl
theorem r3q (w : World) : P3 w := byRow2 "special-get-raises" (P := P3) r3f r3t w
theorem r3 (w : World) : (fun os => segRunT treeTable P0 w 11 ann0 1 999 (st os (objs2 w.params) 198) (piecesOf [stm 3] env0 cE ⟨8, 0, 8, 8⟩ B0)) = fun os => some (.next, st os (objs3 w.params) 258, cE, ⟨9, 0, 9, 6⟩) := by
  rw [PySem.W.Fast.te10110043849684766642, PySem.W.Fast.te14364793385576792824]
  exact r3q w
theorem r4 (w : World) : (fun os => segRunT treeTable P0 w 11 ann0 1 40 (st os (objs3 w.params) 258) (piecesOf [stm 4] env0 cE ⟨9, 0, 9, 6⟩ B0)) = fun os => some (.next, st os (objs4 w.params) 265, cE, ⟨10, 0, 11, 30⟩) := by kernel_rfl
theorem r6 (w : World) : (fun os => segRunT treeTable P0 w 11 ann0 1 300 (st os (objs5 w.params) 2216) (piecesOf [stm 6, stm 7, stm 8, stm 9, stm 10, stm 11, stm 12, stm 13, stm 14, stm 15] env0 cE ⟨12, 0, 12, 13⟩ B0)) = fun os => some (.next, st os (objs15 w.params) 2286, cE, ⟨65, 0, 72, 181⟩) := by kernel_rfl
end Mine
end T_HdRun

section T_HdRun2
open PySem PySem.W PyProof.Rows
set_option Elab.async false
namespace Mine
set_option maxRecDepth 100000
noncomputable def ks5 : List (Option Expr) := match stm 5 with | .Assign _ (.Dict ks _ _) _ => ks | _ => []
noncomputable def vs5 : List Expr := match stm 5 with | .Assign _ (.Dict _ vs _) _ => vs | _ => []
noncomputable def pd5 : Pos := match stm 5 with | .Assign _ (.Dict _ _ p) _ => p | _ => default
noncomputable def pa5 : Pos := match stm 5 with | .Assign _ _ p => p | _ => default
theorem stm5 : stm 5 = .Assign [.Name "b3_exceptions" ⟨12, 0, 12, 13⟩] (.Dict ks5 vs5 pd5) pa5 := by kernel_rfl
theorem items5 : (evalEachOpt ks5 env0).zip ((evalEach vs5 env0).map fun v => do let x ← v; standAt pd5; pure x) = (kvs.map (prog pd5)).map item := by kernel_rfl
theorem kvs_cut : kvs = kv0 ++ kvC.flatten ++ kvL := by kernel_rfl
noncomputable def asc : List Int → Bool
  | a :: b :: l => decide (a < b) && asc (b :: l)
  | _ => true
theorem asc_pairwise : ∀ (l : List Int), asc l = true → l.Pairwise (· < ·)
  | [], _ => .nil
  | [a], _ => List.pairwise_singleton _ _
  | a :: b :: l, h => by
    obtain ⟨h1, h2⟩ := Bool.and_eq_true_iff.mp h
    have ih := asc_pairwise (b :: l) h2
    refine List.pairwise_cons.mpr ⟨fun x hx => ?_, ih⟩
    have hab : a < b := of_decide_eq_true h1
    rcases List.mem_cons.mp hx with rfl | hx
    · exact hab
    · exact Int.lt_trans hab ((List.pairwise_cons.mp ih).1 x hx)
theorem keys_len : (kv0.length == 17 && kvC.all (fun c => c.length == 17) && kvC.length == 37 && kvL.length == 4) = true := by decide +kernel
theorem keys_asc : asc (kvs.map fun p => hashInt p.1) = true := by decide +kernel
theorem hash_nodup : (kvs.map fun p => hashInt p.1).Nodup := (asc_pairwise _ keys_asc).imp fun q e => by subst e; exact absurd q (by omega)
theorem listA (P : Params) : (mk (objs4 P)).list (objs4 P).length = objs4 P := by kernel_rfl
theorem listB (P : Params) : (mk (objs4 P ++ T5)).list (objs4 P ++ T5).length = objs4 P ++ T5 := by kernel_rfl
theorem heapA (P : Params) : absHeap (mk (objs4 P)) (objs4 P).length {} = hp (objs4 P) := congrArg (fun x : List Obj => Heap.mk x.toArray {}) (listA P)
theorem heapB (P : Params) : absHeap (mk (objs4 P ++ T5)) (objs4 P ++ T5).length {} = hp (objs4 P ++ T5) := congrArg (fun x : List Obj => Heap.mk x.toArray {}) (listB P)
theorem r5tail (w : World) : (fun os => segRunT treeTable P0 w 11 ann0 1 20 (st os (objs4 w.params ++ T5) 2215) ⟨(do standAt ⟨12, 0, 12, 13⟩; bindName env0 "b3_exceptions" (.ref 40); pure .next : Sem Flow).wrap doneF deadEnd id id, cE, pd5, B0⟩) = fun os => some (.next, st os (objs5 w.params) 2216, cE, ⟨12, 0, 12, 13⟩) := by kernel_rfl


theorem run_disp {w : World} {S0 S1 : Shared} {v : Value} {n m : Nat} {items : List (Option (Sem Value) × Sem Value)} {tail : Value → Sem Flow} {l : List Stmt} {env : Env} {c : Code} {pos pa pd : Pos} {b : Frame} {r : Flow × Shared × Code × Pos}
    (D : Go w n (dictDisplay items) S0 pd v S1 pd) (T : sr w m S1 ⟨(tail v).wrap doneF deadEnd id id, c, pd, [b]⟩ = some r) (e : execs l env = (do standAt pa; standAt pd; let v ← dictDisplay items; tail v)) :
    sr w (1 + (1 + (n + m))) S0 (piecesOf l env c pos [b]) = some r := by
  show sr w _ S0 ⟨(execs l env).wrap doneF deadEnd id id, c, pos, [b]⟩ = some r
  rw [e, Sem.bind_eq_wrap', Sem.wrap_wrap]
  refine Go.standAt _ _ _ _ c b _ r ?_
  rw [Sem.bind_eq_wrap', Sem.wrap_wrap]
  refine Go.standAt _ _ _ _ c b _ r ?_
  rw [Sem.bind_eq_wrap', Sem.wrap_wrap]
  exact D _ _ _ _ c b _ r T
theorem execs5 : execs [stm 5] env0 = (do standAt pa5; standAt pd5; let v ← dictDisplay ((kvs.map (prog pd5)).map item); (fun v => do standAt ⟨12, 0, 12, 13⟩; bindName env0 "b3_exceptions" v; pure .next : Value → Sem Flow) v) := by
  have hs : swapsWith (.Dict ks5 vs5 pd5) (some (.Name "b3_exceptions" ⟨12, 0, 12, 13⟩)) pa5.line env0 = pure false := by kernel_rfl
  rw [stm5, execs_cons, exec_Assign_Name env0 _ _ _ _ hs, arm_eval_Dict, items5]
  simp only [bind_assoc, pure_bind]
  rfl
theorem len4 (P : Params) : (objs4 P).length = 40 := by kernel_rfl
theorem abs_of {os : OsState} {l : List Obj} {t : Nat} (h : absHeap (mk l) l.length {} = hp l) : (st os l t).abs = ⟨hp l, #[], {}, t, os⟩ := congrArg (fun x => Shared.mk x #[] {} t os) h
theorem disp5 (w : World) (os : OsState) : Go w (223 + 330 * 37 + 300) (dictDisplay ((kvs.map (prog pd5)).map item)) ⟨hp (objs4 w.params), #[], {}, 265, os⟩ pd5 (.ref 40) ⟨hp (objs4 w.params ++ T5), #[], {}, 2215, os⟩ pd5 := by
  have hl := keys_len
  simp only [Bool.and_eq_true, beq_iff_eq, List.all_eq_true] at hl
  obtain ⟨⟨⟨h1, h2⟩, h3⟩, h4⟩ := hl
  have hn := hash_nodup
  rw [kvs_cut] at hn
  have D := go_display (w := w) (g := #[]) (dr := {}) (os := os) (pos := pd5) (pd := pd5) (L := objs4 w.params) (by rw [len4]; decide) kv0 kvC kvL 265 h1 h2 (by rw [h4]; decide) (by intro e; rw [e] at h4; cases h4) hn (by rw [h3, sizeLine_eq]; decide)
  rw [← kvs_cut, h3, h4, len4] at D
  exact D
theorem r5 (w : World) (os : OsState) : segRun treeTable P0 w 11 ann0 1 (1 + (1 + (223 + 330 * 37 + 300 + 20))) (st os (objs4 w.params) 265).abs (piecesOf [stm 5] env0 cE ⟨10, 0, 11, 30⟩ B0) = some (.next, (st os (objs5 w.params) 2216).abs, cE, ⟨12, 0, 12, 13⟩) := by
  have T := segRun_of (congrFun (r5tail w) os)
  rw [abs_of (heapB w.params)] at T
  rw [abs_of (heapA w.params)]
  exact run_disp (disp5 w os) T execs5
end Mine
end T_HdRun2

section T_HdLeft
open PySem PySem.W PyProof.Rows
set_option Elab.async false
namespace Mine
set_option maxRecDepth 100000
theorem rpre (w : World) : (fun os => topGo treeTable P0 w 11 ann0 12 ⟨boot_heap w.params, Array.mk [], boot_drawn, boot_toks, os⟩ (topStub P0)) = fun os => some (⟨hp (objsA w.params), #[], {}, 187, os⟩, ⟨denote treeTable cE, cE, q0, B0⟩) := by kernel_rfl
theorem rblock (w : World) : (fun os => segRun treeTable P0 w 11 ann0 1 1 ⟨hp (objsA w.params), #[], {}, 187, os⟩ (blockOf (behindTheImports P0) env0 cE q0 B0)) = fun os => some (.next, (st os (objsA w.params) 187).abs, cE, q0) := by kernel_rfl
theorem list15 (P : Params) : (mk (objs15 P)).list (objs15 P).length = objs15 P := by kernel_rfl
theorem heap15 (P : Params) : absHeap (mk (objs15 P)) (objs15 P).length {} = hp (objs15 P) := congrArg (fun x : List Obj => Heap.mk x.toArray {}) (list15 P)
theorem rfin (w : World) : (fun os => topRun treeTable P0 w 11 ann0 2 ⟨hp (objs15 w.params), #[], {}, 2286, os⟩ ⟨doneF .next, cE, ⟨65, 0, 72, 181⟩, B0⟩) = fun os => some ⟨hp (objs15 w.params), #[], {}, 2286, os⟩ := by kernel_rfl
theorem body_is : behindTheImports P0 = [stm 0, stm 1, stm 2] ++ ([stm 3] ++ ([stm 4] ++ ([stm 5] ++ ([stm 6, stm 7, stm 8, stm 9, stm 10, stm 11, stm 12, stm 13, stm 14, stm 15] ++ [])))) := by kernel_rfl
theorem run (w : World) (os : OsState) : topRun treeTable P0 w 11 ann0 (12 + (1 + (60 + (999 + (40 + ((1 + (1 + (223 + 330 * 37 + 300 + 20))) + (300 + 2))))))) ⟨boot_heap w.params, Array.mk [], boot_drawn, boot_toks, os⟩ (topStub P0) = some ⟨hp (objs15 w.params), #[], {}, 2286, os⟩ := by
  refine go_top (congrFun (rpre w) os) (piece_block (b := behindTheImports P0) (env := env0) (congrFun (rblock w) os) ?_)
  have f := congrFun (rfin w) os
  have a6 := segRun_of (congrFun (r6 w) os)
  rw [abs_of (heap15 w.params)] at a6
  have k6 := piece_app (rest := []) a6 (piece_nil f)
  have k5 := piece_app (r5 w os) k6
  have k4 := piece_app (segRun_of (congrFun (r4 w) os)) k5
  have k3 := piece_app (segRun_of (congrFun (r3 w) os)) k4
  have k0 := piece_app (segRun_of (congrFun (r012 w) os)) k3
  rw [← body_is] at k0
  exact k0
end Mine
end T_HdLeft

section T_HdLook
open PySem PySem.W PyProof.Rows
set_option Elab.async false
namespace Mine
set_option maxRecDepth 100000
noncomputable def keep0 : List Nat := [1, 4, 6, 8, 9, 10, 11, 12, 13, 14, 15]
noncomputable def qv : Program := view P0 keep0
noncomputable def loose0 : List Str := ["b1_set", "b3_exceptions"]
abbrev law0 := PySem.Challenge.rw_mj0184_01
noncomputable def Xt0 (s : Shared) : Bool := xlAt qv [] s && recOk (RowW.records law0.row.toRowW) s
noncomputable abbrev fS (w : World) (os : OsState) : Shared := ⟨hp (objs15 w.params), #[], {}, 2286, os⟩
theorem size0 (w : World) : ((boot_heap w.params).isNs mainGlobals && (Array.mk [] : Array GenState).size == 0, (boot_heap w.params).objs.size, (boot_heap w.params).nsMap mainGlobals "__annotations__") = (true, 11, ann0) := by kernel_rfl
theorem look1 (w : World) : (fun os => (staticsOk (importedModules P0.main.body) (boot_heap w.params) (hp (objs15 w.params)) && namesBound P0 (hp (objs15 w.params)) && gensDone (fS w os) && laidKept (boot_heap w.params) (hp (objs15 w.params)))) = fun _ => true := by kernel_rfl
theorem look2a (w : World) : (fun os => seen ((recsOf qv).map (·.name)) (ownsOf qv) [] { fS w os with gens := #[] }) = fun _ => expectedOf qv := by kernel_rfl
theorem look2b (w : World) : (fun os => (fS w os).heap.bltView) = fun _ => bltViewBooted := by kernel_rfl
theorem look2c (w : World) : (fun os => ((fS w os).heap.keysOk (looseW qv loose0) ((recsOf qv).map (·.name)) ((litsOf qv).map (·.1)) ((clssOf qv (looseW qv loose0)).map (·.name)) && (fS w os).heap.accountedOkI (importedModules P0.main.body) && (fS w os).heap.isNs mainGlobals && (fS w os).heap.isNs builtinsNs && tablesOk qv (fS w os).heap && Xt0 (fS w os) && (if true then (fS w os).gens.size == 0 else !leftWithCleanup (fS w os).gens))) = fun _ => true := by kernel_rfl
theorem look2d (w : World) : (fun os => tabsOk qv (fS w os)) = fun _ => true := by kernel_rfl
theorem look2e (w : World) : (fun os => pinSeenD qv (drecsOf qv) (fS w os)) = fun _ => pinGoodD (drecsOf qv) := by kernel_rfl
theorem look2f (w : World) : (fun os => plainSeenE qv (looseW qv loose0) (fS w os)) = fun _ => plainGoodE qv (looseW qv loose0) := by kernel_rfl
theorem look2g (w : World) : (fun os => plainSeenD qv loose0 (fS w os)) = fun _ => plainGoodD qv loose0 := by kernel_rfl
theorem look2h (w : World) : (fun os => wideSeen qv (fS w os)) = fun _ => wideGood qv := by kernel_rfl
theorem look2i (w : World) : (fun os => clsSeenW qv loose0 (fS w os)) = fun _ => clsGoodW qv loose0 := by kernel_rfl
noncomputable def finHeap (P : Params) : Heap := hp (objs15 P)
/-- what the walk is told of the top: every object that it left stands -/
noncomputable def hook0 : Hook where
  α := Heap
  obs := fun s => s.heap
  val := fun w => finHeap w.params
  says := fun w h => ∀ b o, (finHeap w.params).get? b = some o → h.get? b = some o
  of := fun w s e b o q => by rw [e]; exact q
  keeps := fun w h h' x k b o q => k b o (x b o q)
theorem look2 (w : World) (os : OsState) : openSeen qv loose0 (importedModules P0.main.body) Xt0 true (fS w os) = openGood qv loose0 := by
  exact looks_pair (congrFun (look2a w) os) (looks_pair (congrFun (look2b w) os) (looks_pair (congrFun (look2c w) os) (looks_pair (congrFun (look2d w) os) (looks_pair (congrFun (look2e w) os) (looks_pair (congrFun (look2f w) os) (looks_pair (congrFun (look2g w) os) (looks_pair (congrFun (look2h w) os) (congrFun (look2i w) os))))))))
theorem plain_opening : opening P0 = plainProg P0.main.scope.names := by kernel_rfl
theorem no_fence (s : Shared) : fenceModules? P0 s = some s := by kernel_rfl
theorem left0 : LeftO P0 qv loose0 Xt0 hook0.obs hook0.val 30000 := by
  refine LeftO.of_pieces (H₀ := boot_heap) (H₁ := finHeap) (boot_open plain_opening (by decide +kernel) no_fence) size0 run (by decide +kernel) fun w => funext fun os => ?_
  exact looks_pair (congrFun (look1 w) os) (looks_pair (look2 w os) rfl)
set_option maxHeartbeats 8000000 in
/-- the head: what is left is the walk of the call -/
theorem head0 (call : WalkO qv loose0 (XL qv []) hook0.says law0.row.toRowW
    ⟨(Str.ofString "law"), (fdat 15 0 .none .none).params, (match (fdat 15 0 .none .none).body with | .stmts b => b | _ => []), (fdat 15 0 .none .none).scope, ⟨65, 0, 72, 181⟩⟩ [] fun f vs => PySem.call f vs) : law0.Holds := by
  w_on
  o_law
  refine holds_open (q := qv) (loose := loose0) (Xt := Xt0) (XP := XL qv []) (Yf := hook0.obs) (Ya := hook0.val) (YP := hook0.says) (N := 30000) left0 hook0.of hook0.keeps (fun s e => xl_of s (Bool.and_eq_true_iff.mp e).1) XL.keeps (by kernel_rfl) (by kernel_rfl) (by kernel_rfl) (fun s e => recFacts_of (Bool.and_eq_true_iff.mp e).2) (by rfl) (by assumption) (by decide +kernel) ⟨rfl, rfl, rfl, rfl, rfl, by decide +kernel⟩ ?hw call
  case hw => w_witness2
end Mine
end T_HdLook

section T_WkBase
open PySem PySem.W PyProof.Rows
set_option Elab.async false
namespace Mine
set_option maxRecDepth 100000
noncomputable def TopIn (w : World) (h : Heap) : Prop := ∀ b o, (finHeap w.params).get? b = some o → h.get? b = some o
theorem TopIn.keeps {w : World} {h h' : Heap} (x : TopIn w h) (k : ∀ b o, h.get? b = some o → h'.get? b = some o) : TopIn w h' := fun b o e => k b o (x b o e)
noncomputable def bodyOf (i : Nat) : List Stmt := match stm i with | .FunctionDef _ _ b _ _ _ _ _ _ _ => b | _ => []
noncomputable def scopeOf (i : Nat) : Scope := match stm i with | .FunctionDef _ _ _ _ _ _ s _ _ _ => s | _ => default
noncomputable def paramsOf (i : Nat) : Arguments := match stm i with | .FunctionDef _ p _ _ _ _ _ _ _ _ => p | _ => default
/-- room for k more calls -/
noncomputable def AOk (A : Around) (k : Nat) : Prop := A.handled = none ∧ A.depth + k < 900 ∧ A.units + 10 * k < 900
theorem AOk.deeper {A : Around} {k : Nat} {env : Env} (h : AOk A (k + 1)) : AOk (A.deeper env) k := ⟨h.1, by have := h.2.1; show A.depth + 1 + k < 900; omega, by have := h.2.2; show A.units + 3 + 10 * k < 900; omega⟩
theorem AOk.room {A : Around} {k : Nat} (h : AOk A k) : A.depth < recursionLimit := by have := h.2.1; show A.depth < 1000; omega
theorem AOk.less {A : Around} {k j : Nat} (h : AOk A k) (hj : j ≤ k) : AOk A j := ⟨h.1, by have := h.2.1; omega, by have := h.2.2; omega⟩
theorem AOk.room1 {A : Around} {k : Nat} {env : Env} (h : AOk A (k + 1)) : (A.deeper env).depth < recursionLimit := (h.deeper (env := env)).room
section
variable {w : World} {A : Around} {s : Shared} {Q : Value → Shared → Prop} {E : Value → Shared → Prop}
theorem nolimit (T : TopIn w s.heap) : s.heap.NoLimit := by
  have e : (finHeap w.params).get? 2 = some { cls := .none, data := .dict #[] } := by kernel_rfl
  exact ⟨fun _ => none, ⟨_, #[], 0, T _ _ e, rfl, fun e he => by simp at he, fun _ => rfl⟩, rfl⟩
theorem fin_main (w : World) : (finHeap w.params).isNs mainGlobals = true := by kernel_rfl
theorem fin_blt (w : World) : (finHeap w.params).isNs builtinsNs = true := by kernel_rfl
theorem main_ns (T : TopIn w s.heap) : s.heap.Ns mainGlobals ((finHeap w.params).nsMap mainGlobals) := (Heap.Ns.of_isNs (fin_main w)).keeps T
theorem blt_ns (T : TopIn w s.heap) : s.heap.Ns builtinsNs ((finHeap w.params).nsMap builtinsNs) := (Heap.Ns.of_isNs (fin_blt w)).keeps T
theorem gname {env : Env} {x : Str} {pos : Pos} {v : Value} (T : TopIn w s.heap) (hv : (finHeap w.params).nsMap mainGlobals x = some v) (h : Q v s)
    (hk : env.scope.kind = .function := by rfl) (hx : env.kindOf x = some .globalImplicit := by rfl) (hg : env.globals = mainGlobals := by rfl) (hd : (x == ("__debug__" : Str)) = false := by decide) :
    wpAny (model P0 w) A (eval (.Name x pos) env) Q E s :=
  Calls.Name_function_global hk hx (Calls.loadGlobal_global (hg ▸ main_ns T) hv h) hd
theorem bname {env : Env} {x : Str} {pos : Pos} {v : Value} (T : TopIn w s.heap) (hm : (finHeap w.params).nsMap mainGlobals x = none) (hv : (finHeap w.params).nsMap builtinsNs x = some v) (h : Q v s)
    (hk : env.scope.kind = .function := by rfl) (hx : env.kindOf x = some .globalImplicit := by rfl) (hg : env.globals = mainGlobals := by rfl) (hb : env.builtins = builtinsNs := by rfl) (hd : (x == ("__debug__" : Str)) = false := by decide) :
    wpAny (model P0 w) A (eval (.Name x pos) env) Q E s :=
  Calls.Name_function_global hk hx (Calls.loadGlobal_builtin (hg ▸ main_ns T) hm (hb ▸ blt_ns T) hv h) hd
theorem code_at {ca : Addr} {nm : Str} {o : Obj} {vs : Array Value} {t : Tok} (T : TopIn w s.heap) (ho : (finHeap w.params).get? ca = some o) (hd : o.data = .fields vs) (hv : vs[1]? = some (.str nm t)) : s.heap.CodeRec (.ref ca) nm :=
  ⟨ca, o, vs, t, rfl, T _ _ ho, hd, hv⟩
/-- a call of a def of the top, entered: its frame at L, all that stood still stands -/
theorem enter {i fa ca : Nat} {nm : Str} {m : Value} {args : List Value} {binds : List (Str × Value)} {o : Obj} {vs : Array Value} {t : Tok} (T : TopIn w s.heap) (hA : A.depth < recursionLimit)
    (hfn : (finHeap w.params).get? fa = some ⟨.type "function", none, .func (Calls.docDef nm (paramsOf i) (bodyOf i) (scopeOf i) m (.ref ca) .none), #[]⟩)
    (ho : (finHeap w.params).get? ca = some o) (hd : o.data = .fields vs) (hv : vs[1]? = some (.str nm t))
    (hbind : bindArgs (Calls.docDef nm (paramsOf i) (bodyOf i) (scopeOf i) m (.ref ca) .none) ⟨args, []⟩ = pure binds) (hloc : ∀ x ∈ binds, (scopeOf i).names.lookup x.1 = some .local)
    (hsc : ((scopeOf i).isCoroutine, (scopeOf i).isGenerator, (scopeOf i).kind) = (false, false, .function)) (hcell : ∀ x ∈ (scopeOf i).names, x.2 ≠ .cell)
    (h : ∀ L h₁, Fr s.heap L h₁ (fun x => binds.reverse.lookup x) → wpAny (model P0 w) (A.deeper (envOf nm (scopeOf i) L fa (.ref ca))) (execs (bodyOf i) (envOf nm (scopeOf i) L fa (.ref ca)))
        (fun f s' => Q (match f with | .ret v => v | _ => .none) s') (fun _ _ => False) { s with heap := h₁, toks := s.toks + binds.length }) :
    wpAny (model P0 w) A (call (.ref fa) args) Q E s := by
  refine wpAny_call ?_
  simp only [Prod.mk.injEq] at hsc
  exact call_plain_ret hA (T _ _ hfn) rfl (nolimit T) (code_at T ho hd hv) hbind hloc (fun h₁ F => h _ h₁ F) hsc.1 hsc.2.1 hsc.2.2 hcell
end
end Mine
end T_WkBase

section T_WkTab
open PySem PySem.W PyProof.Rows PyProof.V PySem.Spec
set_option Elab.async false
namespace Mine
set_option maxRecDepth 100000
set_option linter.unusedVariables false
-- B.1: the set
noncomputable def b1L : List Int := b1Items.toList.map (·.1)
noncomputable def inB1 (c : Int) : Bool := b1L.contains c
theorem b1_elems : (b1Items.toList.all fun e => match e.2 with | .int i _ => i == e.1 && hashInt i == e.1 | _ => false) = true := by decide +kernel
theorem b1_at (w : World) : (finHeap w.params).get? 29 = some (setO (!w.params.followText "set-order")) := by kernel_rfl
theorem b1_elem {e : Int × Value} (he : e ∈ b1Items.toList) : ∃ t, e.2 = .int e.1 t ∧ hashInt e.1 = e.1 := by
  have := List.all_eq_true.mp b1_elems e he
  obtain ⟨h, v⟩ := e
  cases v <;> simp at this
  rename_i i t
  obtain ⟨rfl, h2⟩ := this
  exact ⟨t, rfl, h2⟩
theorem b1_set {w : World} {h : Heap} (T : TopIn w h) : h.SetOf (intKind P0 w) 29 inB1 27 := by
  refine ⟨_, b1Items, 29, _, T _ _ (b1_at w), ⟨rfl, rfl, rfl⟩, rfl, fun e he => ?_, fun k => ?_, by decide, rfl, rfl⟩
  · obtain ⟨t, h1, h2⟩ := b1_elem he
    exact ⟨⟨e.1, by rw [h1]; exact intKind_is P0 w e.1 t, h2.symm⟩, by rw [h1]; rfl⟩
  · unfold inB1 b1L
    rw [List.contains_iff_mem, List.mem_map]
    constructor
    · rintro ⟨e, he, rfl⟩
      obtain ⟨t, h1, _⟩ := b1_elem he
      exact ⟨e, he, by rw [h1]; exact intKind_is P0 w e.1 t⟩
    · rintro ⟨e, he, hk⟩
      obtain ⟨t, h1, _⟩ := b1_elem he
      rw [h1] at hk
      exact ⟨e, he, by have : (e.1 == k) = true := hk; simpa using this⟩
-- B.3: the table
noncomputable def dd (l : List KV) : List (PyData × PyData) := l.map fun p => (PyData.int p.1, PyData.str p.2)
noncomputable def kvV (es : List DictEntry) : List (Int × Value) := es.map fun e => ((match e.key with | .int k _ => k | _ => 0), e.val)
theorem flat_app {enc : Int → PyData} : ∀ {a b : List (Int × Value)} {c d : List (PyData × PyData)}, FlatPairs enc a c → FlatPairs enc b d → FlatPairs enc (a ++ b) (c ++ d)
  | [], _, [], _, .nil, h => h
  | _ :: _, _, _ :: _, _, .cons f r, h => .cons f (flat_app r h)
theorem flat_ents : ∀ (l : List KV) (t : Nat), FlatPairs PyData.int (kvV (ents t l)) (dd l)
  | [], _ => .nil
  | (k, v) :: l, t => .cons (Flat.str v _) (flat_ents l _)
theorem flat_ents2 : ∀ (l : List KV) (t : Nat), FlatPairs PyData.int (kvV (ents2 t l)) (dd l)
  | [], _ => .nil
  | (k, v) :: l, t => .cons (Flat.str v _) (flat_ents2 l _)
theorem flat_all : ∀ (cs : List (List KV)) (t : Nat), FlatPairs PyData.int (kvV (entsAll t cs)) (dd cs.flatten)
  | [], _ => .nil
  | c :: cs, t => by
    rw [entsAll, List.flatten_cons]
    unfold kvV dd
    rw [List.map_append, List.map_append]
    exact flat_app (flat_ents c t) (flat_all cs _)
theorem flat_b3 : FlatPairs PyData.int (kvV b3E) (dd kvs) := by
  rw [kvs_cut]
  unfold b3E kvV dd
  rw [List.map_append, List.map_append, List.map_append, List.map_append]
  exact flat_app (flat_app (flat_ents _ _) (flat_all _ _)) (flat_ents2 _ _)
theorem b3_int : ∀ e ∈ b3E, IntE e := by
  intro e he
  unfold b3E at he
  rcases List.mem_append.mp he with he | he
  · rcases List.mem_append.mp he with he | he
    · exact ents_int _ _ e he
    · have : ∀ (cs : List (List KV)) (t : Nat), ∀ e ∈ entsAll t cs, IntE e := by
        intro cs
        induction cs with
        | nil => intro t e h; cases h
        | cons c cs ih =>
          intro t e h
          rw [entsAll] at h
          rcases List.mem_append.mp h with h | h
          · exact ents_int _ _ e h
          · exact ih _ e h
      exact this _ _ e he
  · exact ents2_int _ _ e he
theorem pairs_of {w : World} : ∀ (es : List DictEntry), (∀ e ∈ es, IntE e) → Pairs (intKind P0 w) es (kvV es)
  | [], _ => .nil
  | e :: es, h => by
    obtain ⟨k, t, v, rfl⟩ := h e (.head _)
    exact .cons (intKind_is P0 w k t) rfl (pairs_of es fun e q => h e (.tail _ q))
theorem keys_of_flat : ∀ {a : List (Int × Value)} {l : List KV}, FlatPairs PyData.int a (dd l) → a.map (·.1) = l.map (·.1)
  | [], [], _ => rfl
  | (k, v) :: a, (k', v') :: l, h => by
    cases h with
    | cons f r => rw [List.map_cons, List.map_cons, keys_of_flat r]
theorem kvs_keys : (kvs.map (·.1)).Nodup := by
  have h := hash_nodup
  have e : (kvs.map fun p => hashInt p.1) = (kvs.map (·.1)).map hashInt := by rw [List.map_map]; rfl
  rw [e] at h
  exact (List.pairwise_map.mp h).imp fun q e => q (congrArg hashInt e)
theorem b3_at (w : World) : (finHeap w.params).get? 40 = some (dO b3E) := by kernel_rfl
theorem b3_tab {w : World} {h : Heap} (T : TopIn w h) : IntTab P0 w h 40 (dd kvs) := by
  refine ⟨by decide, kvV b3E, ⟨_, b3E.toArray, b3E.length, T _ _ (b3_at w), ⟨rfl, rfl, rfl⟩, rfl, fun e he => ?_, pairs_of _ b3_int, ?_⟩, flat_b3⟩
  · obtain ⟨k, t, v, rfl⟩ := b3_int e (List.mem_toArray.mp he)
    exact ⟨k, intKind_is P0 w k t, rfl⟩
  · rw [keys_of_flat flat_b3]; exact kvs_keys
noncomputable def b3? (c : Int) : Option Str := (kvs.find? fun p => p.1 == c).map (·.2)
theorem look_dd : ∀ (l : List KV) (c : Int), Spec.lookup (.int c) (dd l) = ((l.find? fun p => p.1 == c).map fun p => PyData.str p.2)
  | [], _ => rfl
  | (k, v) :: l, c => by
    show (if same (PyData.int k) (PyData.int c) = true then some (PyData.str v) else Spec.lookup (.int c) (dd l)) = _
    rw [look_dd l c, List.find?_cons]
    show (if (k == c) = true then _ else _) = _
    cases k == c <;> simp
theorem look_b3 (c : Int) : Spec.lookup (.int c) (dd kvs) = (b3? c).map PyData.str := by
  rw [look_dd, b3?, Option.map_map]; rfl
end Mine
end T_WkTab

section T_WkNames
open PySem PySem.W PyProof.Rows PyProof.V PySem.Spec
set_option Elab.async false
namespace Mine
set_option maxRecDepth 100000
section
variable {w : World} {A : Around} {s : Shared} {Q : Value → Shared → Prop} {E : Value → Shared → Prop} {env : Env} {pos : Pos}
theorem n_ord (T : TopIn w s.heap) (h : Q (.builtin "ord") s) (hk : env.scope.kind = .function := by rfl) (hx : env.kindOf (Str.ofString "ord") = some .globalImplicit := by rfl) (hg : env.globals = mainGlobals := by rfl) (hb : env.builtins = builtinsNs := by rfl) :
    wpAny (model P0 w) A (eval (.Name (Str.ofString "ord") pos) env) Q E s := bname T (by kernel_rfl) (by kernel_rfl) h hk hx hg hb
theorem n_chr (T : TopIn w s.heap) (h : Q (.builtin "chr") s) (hk : env.scope.kind = .function := by rfl) (hx : env.kindOf (Str.ofString "chr") = some .globalImplicit := by rfl) (hg : env.globals = mainGlobals := by rfl) (hb : env.builtins = builtinsNs := by rfl) :
    wpAny (model P0 w) A (eval (.Name (Str.ofString "chr") pos) env) Q E s := bname T (by kernel_rfl) (by kernel_rfl) h hk hx hg hb
theorem n_range (T : TopIn w s.heap) (h : Q (.type "range") s) (hk : env.scope.kind = .function := by rfl) (hx : env.kindOf (Str.ofString "range") = some .globalImplicit := by rfl) (hg : env.globals = mainGlobals := by rfl) (hb : env.builtins = builtinsNs := by rfl) :
    wpAny (model P0 w) A (eval (.Name (Str.ofString "range") pos) env) Q E s := bname T (by kernel_rfl) (by kernel_rfl) h hk hx hg hb
theorem n_len (T : TopIn w s.heap) (h : Q (.builtin "len") s) (hk : env.scope.kind = .function := by rfl) (hx : env.kindOf (Str.ofString "len") = some .globalImplicit := by rfl) (hg : env.globals = mainGlobals := by rfl) (hb : env.builtins = builtinsNs := by rfl) :
    wpAny (model P0 w) A (eval (.Name (Str.ofString "len") pos) env) Q E s := bname T (by kernel_rfl) (by kernel_rfl) h hk hx hg hb
theorem n_comment_line (T : TopIn w s.heap) (h : Q (.ref 21) s) (hk : env.scope.kind = .function := by rfl) (hx : env.kindOf (Str.ofString "_comment_line") = some .globalImplicit := by rfl) (hg : env.globals = mainGlobals := by rfl) :
    wpAny (model P0 w) A (eval (.Name (Str.ofString "_comment_line") pos) env) Q E s := gname T (by kernel_rfl) h hk hx hg
theorem n_b1_set (T : TopIn w s.heap) (h : Q (.ref 29) s) (hk : env.scope.kind = .function := by rfl) (hx : env.kindOf (Str.ofString "b1_set") = some .globalImplicit := by rfl) (hg : env.globals = mainGlobals := by rfl) :
    wpAny (model P0 w) A (eval (.Name (Str.ofString "b1_set") pos) env) Q E s := gname T (by kernel_rfl) h hk hx hg
theorem n_in_table_b1 (T : TopIn w s.heap) (h : Q (.ref 39) s) (hk : env.scope.kind = .function := by rfl) (hx : env.kindOf (Str.ofString "in_table_b1") = some .globalImplicit := by rfl) (hg : env.globals = mainGlobals := by rfl) :
    wpAny (model P0 w) A (eval (.Name (Str.ofString "in_table_b1") pos) env) Q E s := gname T (by kernel_rfl) h hk hx hg
theorem n_b3_exceptions (T : TopIn w s.heap) (h : Q (.ref 40) s) (hk : env.scope.kind = .function := by rfl) (hx : env.kindOf (Str.ofString "b3_exceptions") = some .globalImplicit := by rfl) (hg : env.globals = mainGlobals := by rfl) :
    wpAny (model P0 w) A (eval (.Name (Str.ofString "b3_exceptions") pos) env) Q E s := gname T (by kernel_rfl) h hk hx hg
theorem n_map_table_b3 (T : TopIn w s.heap) (h : Q (.ref 85) s) (hk : env.scope.kind = .function := by rfl) (hx : env.kindOf (Str.ofString "map_table_b3") = some .globalImplicit := by rfl) (hg : env.globals = mainGlobals := by rfl) :
    wpAny (model P0 w) A (eval (.Name (Str.ofString "map_table_b3") pos) env) Q E s := gname T (by kernel_rfl) h hk hx hg
theorem n_law_nothing (T : TopIn w s.heap) (h : Q (.ref 92) s) (hk : env.scope.kind = .function := by rfl) (hx : env.kindOf (Str.ofString "_law_nothing") = some .globalImplicit := by rfl) (hg : env.globals = mainGlobals := by rfl) :
    wpAny (model P0 w) A (eval (.Name (Str.ofString "_law_nothing") pos) env) Q E s := gname T (by kernel_rfl) h hk hx hg
theorem n_law_blanks (T : TopIn w s.heap) (h : Q (.ref 97) s) (hk : env.scope.kind = .function := by rfl) (hx : env.kindOf (Str.ofString "_law_blanks") = some .globalImplicit := by rfl) (hg : env.globals = mainGlobals := by rfl) :
    wpAny (model P0 w) A (eval (.Name (Str.ofString "_law_blanks") pos) env) Q E s := gname T (by kernel_rfl) h hk hx hg
theorem n_law_any (T : TopIn w s.heap) (h : Q (.ref 104) s) (hk : env.scope.kind = .function := by rfl) (hx : env.kindOf (Str.ofString "_law_any") = some .globalImplicit := by rfl) (hg : env.globals = mainGlobals := by rfl) :
    wpAny (model P0 w) A (eval (.Name (Str.ofString "_law_any") pos) env) Q E s := gname T (by kernel_rfl) h hk hx hg
theorem n_law_pair (T : TopIn w s.heap) (h : Q (.ref 111) s) (hk : env.scope.kind = .function := by rfl) (hx : env.kindOf (Str.ofString "_law_pair") = some .globalImplicit := by rfl) (hg : env.globals = mainGlobals := by rfl) :
    wpAny (model P0 w) A (eval (.Name (Str.ofString "_law_pair") pos) env) Q E s := gname T (by kernel_rfl) h hk hx hg
theorem n_law_pairs (T : TopIn w s.heap) (h : Q (.ref 116) s) (hk : env.scope.kind = .function := by rfl) (hx : env.kindOf (Str.ofString "_law_pairs") = some .globalImplicit := by rfl) (hg : env.globals = mainGlobals := by rfl) :
    wpAny (model P0 w) A (eval (.Name (Str.ofString "_law_pairs") pos) env) Q E s := gname T (by kernel_rfl) h hk hx hg
theorem n_law_prepared (T : TopIn w s.heap) (h : Q (.ref 121) s) (hk : env.scope.kind = .function := by rfl) (hx : env.kindOf (Str.ofString "_law_prepared") = some .globalImplicit := by rfl) (hg : env.globals = mainGlobals := by rfl) :
    wpAny (model P0 w) A (eval (.Name (Str.ofString "_law_prepared") pos) env) Q E s := gname T (by kernel_rfl) h hk hx hg
theorem n_law_commented (T : TopIn w s.heap) (h : Q (.ref 126) s) (hk : env.scope.kind = .function := by rfl) (hx : env.kindOf (Str.ofString "_law_commented") = some .globalImplicit := by rfl) (hg : env.globals = mainGlobals := by rfl) :
    wpAny (model P0 w) A (eval (.Name (Str.ofString "_law_commented") pos) env) Q E s := gname T (by kernel_rfl) h hk hx hg
end
end Mine
end T_WkNames

section T_WkFn1
open PySem PySem.W PyProof.Rows PyProof.V PySem.Spec
set_option Elab.async false
namespace Mine
set_option maxRecDepth 100000
set_option linter.unusedVariables false
noncomputable def S1 (c : Nat) : Str := ⟨#[c]⟩
noncomputable def cmt (x : Str) : Str := if (Txt.rstrip x).length = 0 then "#" else ("# " : Str) ++ Txt.rstrip x
theorem comment_line {w : World} {A : Around} {s : Shared} {Q : Value → Shared → Prop} {E : Value → Shared → Prop} {x : Str} {t : Tok} (T : TopIn w s.heap) (hA : AOk A 1) (hx : x.length ≤ 1000)
    (h : ∀ t' s', Keeps s s' → Q (.str (cmt x) t') s') : wpAny (model P0 w) A (call (.ref 21) [.str x t]) Q E s := by
  refine enter (i := 1) (ca := 20) (nm := "_comment_line") (m := m1) (binds := [("line", .str x t)]) T hA.room (by kernel_rfl) (o := codeO "_comment_line" 189 2 1 3 (.ref 15) (.ref 16) (.ref 17) (.ref 18) (.ref 19) true 193) (by kernel_rfl) rfl (t := 190) rfl (by kernel_rfl) (locs (by kernel_rfl)) (by kernel_rfl) (by decide +kernel) fun L h₁ F => ?_
  conv in (bodyOf 1) => whnf
  conv in (occs := *) (scopeOf 1) => all_goals whnf
  have N : News s.heap L h₁ [] := News.nil
  repeat' (first | walk1 | (dsimp only; walk1))
  all_goals (rename Fr _ _ _ _ => F')
  · rename (↑(Txt.rstrip x).length ≠ (0 : Int)) => hne
    have e : cmt x = ("# " : Str) ++ Txt.rstrip x := if_neg (by omega)
    rw [e] at h
    dsimp only
    exact h _ _ ⟨_, _, rfl, F'.keep⟩
  · have e : cmt x = ("#" : Str) := if_pos (by omega)
    rw [e] at h
    dsimp only
    exact h _ _ ⟨_, _, rfl, F'.keep⟩
-- names of the top
local macro_rules | `(tactic| walk_at "eval Name") => `(tactic| (first
  | ((with_reducible show wpAny _ _ (eval (Expr.Name (Str.ofString "ord") _) _) _ _ _); refine n_ord (by first | assumption | exact TopIn.keeps (by assumption) (Fr.keep (by assumption))) ?_)
  | ((with_reducible show wpAny _ _ (eval (Expr.Name (Str.ofString "b1_set") _) _) _ _ _); refine n_b1_set (by first | assumption | exact TopIn.keeps (by assumption) (Fr.keep (by assumption))) ?_)
  | ((with_reducible show wpAny _ _ (eval (Expr.Name (Str.ofString "b3_exceptions") _) _) _ _ _); refine n_b3_exceptions (by first | assumption | exact TopIn.keeps (by assumption) (Fr.keep (by assumption))) ?_)))
theorem get_b3 {w : World} {A : Around} {s : Shared} {Q : Value → Shared → Prop} {E : Value → Shared → Prop} {c : Int} {t : Tok} (T : TopIn w s.heap)
    (h1 : ∀ y, b3? c = some y → ∀ t' k, Q (.str y t') { s with toks := k }) (h2 : b3? c = none → ∀ k, Q .none { s with toks := k }) : wpAny (model P0 w) A (call (.builtin "dict.get") [.ref 40, .int c t]) Q E s := by
  refine call_get1_intTab (b3_tab T) fun v hv => ?_
  rw [look_b3] at hv
  cases e : b3? c with
  | none => rw [e] at hv; obtain rfl := Flat.none_inv hv; exact h2 e _
  | some y => rw [e] at hv; obtain ⟨t', rfl⟩ := Flat.str_inv hv; exact h1 y e _ _
local macro_rules | `(tactic| walk_at "call builtin:dict.get") => `(tactic| (refine get_b3 (by first | assumption | exact TopIn.keeps (by assumption) (Fr.keep (by assumption))) (fun y hy t' k => ?_) (fun hy k => ?_)))
local macro_rules | `(tactic| walk_at "compareOp IsNot none") => `(tactic| (refine Looks.here (Looks.of_pure rfl) ?_))
theorem table_b1 {w : World} {A : Around} {s : Shared} {Q : Value → Shared → Prop} {E : Value → Shared → Prop} {c : Nat} {t : Tok} (T : TopIn w s.heap) (hA : AOk A 1)
    (h : ∀ s', Keeps s s' → Q (.bool (inB1 c)) s') : wpAny (model P0 w) A (call (.ref 39) [.str (S1 c) t]) Q E s := by
  refine enter (i := 4) (ca := 38) (nm := "in_table_b1") (m := m2) (binds := [("code", .str (S1 c) t)]) T hA.room (by kernel_rfl) (o := codeO "in_table_b1" 258 10 1 3 (.ref 33) (.ref 34) (.ref 35) (.ref 36) (.ref 37) true 262) (by kernel_rfl) rfl (t := 259) rfl (by kernel_rfl) (locs (by kernel_rfl)) (by kernel_rfl) (by decide +kernel) fun L h₁ F => ?_
  conv in (bodyOf 4) => whnf
  conv in (occs := *) (scopeOf 4) => all_goals whnf
  have N : News s.heap L h₁ [] := News.nil
  repeat' (first | walk1 | (dsimp only; walk1))
  refine wpAny_inSet_of (intKind_is P0 w _ _) rfl (b1_set (T.keeps F.keep)) ?_
  exact h _ ⟨_, _, rfl, F.keep⟩
noncomputable def low (c : Nat) : Str := Txt.lower (S1 c)
noncomputable def b3 (c : Nat) : Str := (b3? c).getD (low c)
theorem table_b3 {w : World} {A : Around} {s : Shared} {Q : Value → Shared → Prop} {E : Value → Shared → Prop} {c : Nat} {t : Tok} (T : TopIn w s.heap) (hA : AOk A 1)
    (h : ∀ t' s', Keeps s s' → Q (.str (b3 c) t') s') : wpAny (model P0 w) A (call (.ref 85) [.str (S1 c) t]) Q E s := by
  refine enter (i := 6) (ca := 84) (nm := "map_table_b3") (m := m2) (binds := [("code", .str (S1 c) t)]) T hA.room (by kernel_rfl) (o := codeO "map_table_b3" 2216 13 1 3 (.ref 79) (.ref 80) (.ref 81) (.ref 82) (.ref 83) true 2221) (by kernel_rfl) rfl (t := 2217) rfl (by kernel_rfl) (locs (by kernel_rfl)) (by kernel_rfl) (by decide +kernel) fun L h₁ F => ?_
  conv in (bodyOf 6) => whnf
  conv in (occs := *) (scopeOf 6) => all_goals whnf
  have N : News s.heap L h₁ [] := News.nil
  have TT := b3_tab (T.keeps F.keep)
  have hl : (S1 c).length = 1 := rfl
  repeat' (first | walk1 | (dsimp only; walk1))
  all_goals (rename Fr _ _ _ _ => F')
  · rename b3? _ = some _ => hy
    rename Str => y
    have e : b3 c = y := by unfold b3; rw [show b3? (c : Int) = some y from hy]; rfl
    rw [e] at h
    exact h _ _ ⟨_, _, rfl, F'.keep⟩
  · rename b3? _ = none => hy
    have e : b3 c = Txt.lower (S1 c) := by unfold b3; rw [show b3? (c : Int) = none from hy]; rfl
    rw [e] at h
    exact h _ _ ⟨_, _, rfl, F'.keep⟩
end Mine
end T_WkFn1

section T_WkFn2
local macro_rules | `(tactic| walk_at "mine pad") => `(tactic| fail "pad")
local macro_rules | `(tactic| walk_at "mine pad") => `(tactic| fail "pad")
local macro_rules | `(tactic| walk_at "mine pad") => `(tactic| fail "pad")
local macro_rules | `(tactic| walk_at "mine pad") => `(tactic| fail "pad")
local macro_rules | `(tactic| walk_at "mine pad") => `(tactic| fail "pad")
open PySem PySem.W PyProof.Rows PyProof.V PySem.Spec
set_option Elab.async false
namespace Mine
set_option maxRecDepth 100000
set_option linter.unusedVariables false
local macro_rules | `(tactic| walk_at "eval Name") => `(tactic| (first
  | ((with_reducible show wpAny _ _ (eval (Expr.Name (Str.ofString "chr") _) _) _ _ _); refine n_chr (by first | assumption | exact TopIn.keeps (by assumption) (Fr.keep (by assumption))) ?_)
  | ((with_reducible show wpAny _ _ (eval (Expr.Name (Str.ofString "ord") _) _) _ _ _); refine n_ord (by first | assumption | exact TopIn.keeps (by assumption) (Fr.keep (by assumption))) ?_)))

theorem fm {k : Int} (n : Int) (hn : 0 < n) : 0 ≤ k.fmod n ∧ k.fmod n < n := ⟨Int.fmod_nonneg_of_pos _ hn, Int.fmod_lt_of_pos _ hn⟩
noncomputable def row11 : List Int := [173, 847, 6150, 6155, 6156, 6157, 8203, 8204, 8205, 8288, 65279]
theorem row11_bound (n : Nat) : 0 ≤ row11.getD n 0 ∧ row11.getD n 0 ≤ 65279 := by
  by_cases h : n < 11
  · exact (by decide : ∀ n < 11, 0 ≤ row11.getD n 0 ∧ row11.getD n 0 ≤ 65279) n h
  · rw [List.getD_eq_getElem?_getD, List.getElem?_eq_none (by show 11 ≤ n; omega)]; decide
noncomputable def nothing (k : Int) : Nat := if k.fmod 27 < 11 then (row11.getD (k.fmod 27).toNat 0).toNat else (65024 + k.fmod 27 - 11).toNat
theorem law_nothing {w : World} {A : Around} {s : Shared} {Q : Value → Shared → Prop} {E : Value → Shared → Prop} {k : Int} {t : Tok} (T : TopIn w s.heap) (hA : AOk A 1)
    (h : ∀ t' s', Keeps s s' → Q (.str (S1 (nothing k)) t') s') : wpAny (model P0 w) A (call (.ref 92) [.int k t]) Q E s := by
  refine enter (i := 8) (ca := 91) (nm := "_law_nothing") (m := m3) (binds := [("k", .int k t)]) T hA.room (by kernel_rfl) (o := codeO "_law_nothing" 2226 19 1 3 (.ref 86) (.ref 87) (.ref 88) (.ref 89) (.ref 90) true 2232) (by kernel_rfl) rfl (t := 2227) rfl (by kernel_rfl) (locs (by kernel_rfl)) (by kernel_rfl) (by decide +kernel) fun L h₁ F => ?_
  conv in (bodyOf 8) => whnf
  conv in (occs := *) (scopeOf 8) => all_goals whnf
  have N : News s.heap L h₁ [] := News.nil
  have hm := fm (k := k) 27 (by decide)
  repeat' (first | walk1 | (dsimp only; walk1))
  · rename (k.fmod 27 < 11) => hlt
    have hb := row11_bound (k.fmod 27).toNat
    refine chr_of_range hb.1 (by show row11.getD _ _ ≤ _; omega) ?_
    have e : nothing k = (row11.getD (k.fmod 27).toNat 0).toNat := if_pos hlt
    rw [e] at h
    exact h _ _ ⟨_, _, rfl, Fr.keep (by assumption)⟩
  · rename (¬ k.fmod 27 < 11) => hlt
    have e : nothing k = (65024 + k.fmod 27 - 11).toNat := if_neg hlt
    rw [e] at h
    exact h _ _ ⟨_, _, rfl, Fr.keep (by assumption)⟩
noncomputable def anyc (k : Int) : Nat := if k.fmod 1112064 < 55296 then (k.fmod 1112064).toNat else (k.fmod 1112064 + 2048).toNat
theorem law_any {w : World} {A : Around} {s : Shared} {Q : Value → Shared → Prop} {E : Value → Shared → Prop} {k : Int} {t : Tok} (T : TopIn w s.heap) (hA : AOk A 1)
    (h : ∀ t' s', Keeps s s' → Q (.str (S1 (anyc k)) t') s') : wpAny (model P0 w) A (call (.ref 104) [.int k t]) Q E s := by
  refine enter (i := 10) (ca := 103) (nm := "_law_any") (m := m3) (binds := [("k", .int k t)]) T hA.room (by kernel_rfl) (o := codeO "_law_any" 2241 27 1 3 (.ref 98) (.ref 99) (.ref 100) (.ref 101) (.ref 102) true 2246) (by kernel_rfl) rfl (t := 2242) rfl (by kernel_rfl) (locs (by kernel_rfl)) (by kernel_rfl) (by decide +kernel) fun L h₁ F => ?_
  conv in (bodyOf 10) => whnf
  conv in (occs := *) (scopeOf 10) => all_goals whnf
  have N : News s.heap L h₁ [] := News.nil
  have hm := fm (k := k) 1112064 (by decide)
  repeat' (first | walk1 | (dsimp only; walk1))
  · rename (k.fmod 1112064 < 55296) => hlt
    have e : anyc k = (k.fmod 1112064).toNat := if_pos hlt
    rw [e] at h
    exact h _ _ ⟨_, _, rfl, Fr.keep (by assumption)⟩
  · rename (¬ k.fmod 1112064 < 55296) => hlt
    have e : anyc k = (k.fmod 1112064 + 2048).toNat := if_neg hlt
    rw [e] at h
    exact h _ _ ⟨_, _, rfl, Fr.keep (by assumption)⟩
end Mine
end T_WkFn2

section T_WkComp
open PySem PySem.W PyProof.Rows PyProof.V PySem.Spec
set_option Elab.async false
namespace Mine
set_option maxRecDepth 100000
set_option linter.unusedVariables false

section
variable {w : World} {A : Around} {s : Shared} {Q : Value → Shared → Prop} {E : Value → Shared → Prop}
theorem lname {env : Env} {x : Str} {pos : Pos} {v : Value} {m : Str → Option Value} (hn : s.heap.Ns env.locals m) (hv : m x = some v) (h : Q v s)
    (hk : env.scope.kind = .function := by rfl) (hl : env.kindOf x = some .local := by rfl) (hd : (x == ("__debug__" : Str)) = false := by decide) : wpAny (model P0 w) A (eval (.Name x pos) env) Q E s :=
  wpAny_Name (wpAny_loadName_local hk hl hn hv h) hd
theorem free_new {h : Heap} {a : Addr} (ha : h.objs.size ≤ a) : h.get? a = none := by
  cases e : h.get? a with
  | none => rfl
  | some o => exact absurd (Heap.lt_size e) (Nat.not_lt.mpr ha)
/-- range(n) made and walked -/
theorem iter_range {r : Addr} {n : Nat} {t u v : Tok} {Q : Value → Shared → Prop} (hA : A.handled = none) (hr : IsRange s.heap r 0 n 1 t u v) (hn : n < 1000)
    (hQ : ∀ I h', h' = s.heap.push { cls := .type "range_iterator", data := .fields #[rawInt 0, rawInt (n : Int), rawInt 1] } → I = s.heap.objs.size → Walks P0 w A I [I] [I] n (fun i v => ∃ t, v = .int (0 + i * 1) t) (fun i h => IsRangeIter h I (0 + (i : Nat) * 1) ((n : Int) - (i : Nat)) 1) →
      IsRangeIter h' I (0 + (0 : Nat) * 1) ((n : Int) - (0 : Nat)) 1 → Q (.ref I) { s with heap := h' }) : wpAny (model P0 w) A (pyIter (.ref r)) Q E s := by
  have hz : Builtin.Range.rangeSize 0 (n : Int) 1 = (n : Int) := by
    unfold Builtin.Range.rangeSize
    simp
    omega
  have f : ∀ k : Int, -1000 < k → k < 2000 → Builtin.Range.rangeFitsLong k = true := by
    intro k h1 h2
    unfold Builtin.Range.rangeFitsLong
    simp only [Bool.and_eq_true, decide_eq_true_eq]
    constructor <;> omega
  have hs : Builtin.Range.small 0 (n : Int) 1 = true := by
    unfold Builtin.Range.small
    rw [hz, f 0 (by decide) (by decide), f n (by omega) (by omega), f 1 (by decide) (by decide), if_pos (by decide), f _ (by omega) (by omega)]
    simp
  refine wpAny_pyIter_range hr hs ?_
  rw [hz]
  exact hQ _ _ rfl rfl (Walks.range hA _ 0 1 n) (by have := Heap.get?_push_size (o := { cls := .type "range_iterator", data := .fields #[rawInt 0, rawInt (n : Int), rawInt 1] }) s.heap rfl; simpa [IsRangeIter] using this)

/-- what a comprehension asks once its iterator stands: the rule's own list of parts -/
noncomputable def CompAsk (w : World) (A : Around) (env : Env) (scope : Scope) (x : Str) (ifs : List Expr) (elt : Expr) (p : Value → Bool) (F : Value → Value → Prop) (Q : Value → Shared → Prop) (it : Value) (s₂ : Shared) : Prop :=
  ∃ I fp wr n P St, it = .ref I ∧ Walks P0 w A I fp wr n P St ∧ n ≤ sizeLine ∧ St 0 s₂.heap ∧ (∀ b ∈ fp, b < s₂.heap.objs.size) ∧ QuietOnC P0 w A env scope [] x ifs elt wr P p F s₂ ∧
      (∀ D h' tk ys (vs : List Value), s₂.heap.get? D = none → h'.IsList D ys → h'.PlainList D ys → vs.length = n → (∀ j v, vs[j]? = some v → P j v) → Paired F (vs.filter p) ys.toList →
        (∀ b o, b ∉ wr → s₂.heap.get? b = some o → h'.get? b = some o) → Q (.ref D) { s₂ with heap := h', toks := tk })
abbrev compTest (ifs : List Expr) (cenv : Env) : Sem Bool := forIn ifs true fun c r => if r = true then do let ok ← isTrue c cenv (eval c cenv); pure (ForInStep.yield ok) else pure (ForInStep.yield r)
/-- the iterator is new (o at the heap's end) and alone written: then all that stood before it stands -/
theorem ask_new {env : Env} {scope : Scope} {x : Str} {ifs : List Expr} {elt : Expr} {p : Value → Bool} {F : Value → Value → Prop} {h : Heap} {s₂ : Shared} {I : Addr} {o : Obj} {fp : List Addr} {n : Nat} {P : Nat → Value → Prop} {St : Nat → Heap → Prop}
    (eI : I = h.objs.size) (e₂ : s₂.heap = h.push o) (W : Walks P0 w A I fp [I] n P St) (hn : n ≤ sizeLine) (hst : St 0 s₂.heap) (hfp : ∀ b ∈ fp, b ≤ I)
    (htest : ∀ C i v s₃ m₃ E', P i v → s₃.heap.Ns C m₃ → m₃ x = some v → (∀ b o, h.get? b = some o → s₃.heap.get? b = some o) → wpAny (model P0 w) A (compTest ifs (compEnvC scope [] C env)) (fun ok s₄ => ok = p v ∧ Keeps s₃ s₄) E' s₃)
    (helt : ∀ C i v s₃ m₃ E', P i v → p v = true → s₃.heap.Ns C m₃ → m₃ x = some v → (∀ b o, h.get? b = some o → s₃.heap.get? b = some o) → wpAny (model P0 w) A (eval elt (compEnvC scope [] C env)) (fun y s₄ => F v y ∧ Keeps s₃ s₄) E' s₃)
    (hQ : ∀ D h' tk ys (vs : List Value), h.get? D = none → h'.IsList D ys → h'.PlainList D ys → vs.length = n → (∀ j v, vs[j]? = some v → P j v) → Paired F (vs.filter p) ys.toList →
      (∀ b o, h.get? b = some o → h'.get? b = some o) → Q (.ref D) { s₂ with heap := h', toks := tk }) :
    CompAsk w A env scope x ifs elt p F Q (.ref I) s₂ := by
  subst eI
  have up : ∀ {h' : Heap}, (∀ b o', b ∉ [h.objs.size] → s₂.heap.get? b = some o' → h'.get? b = some o') → ∀ b o', h.get? b = some o' → h'.get? b = some o' := fun k b o' e =>
    k b o' (by simp; exact Nat.ne_of_lt (Heap.lt_size e)) (by rw [e₂]; exact Heap.get?_push_of_some _ e)
  refine ⟨_, fp, _, n, P, St, rfl, W, hn, hst, fun b hb => ?_, ⟨fun C i v s₃ m₃ E' _ hv hns hm hk _ => htest C i v s₃ m₃ E' hv hns hm (up hk), fun C i v s₃ m₃ E' _ hv hpv hns hm hk _ => helt C i v s₃ m₃ E' hv hpv hns hm (up hk)⟩, fun D h' tk ys vs hD hl hpl hlen hP hF hk => ?_⟩
  · rw [e₂, Heap.size_push]; exact Nat.lt_succ_of_le (hfp b hb)
  · refine hQ D h' tk ys vs ?_ hl hpl hlen hP hF (up hk)
    cases e : h.get? D with
    | none => rfl
    | some o' => rw [e₂, Heap.get?_push_of_some _ e] at hD; cases hD
theorem comp {elt iter : Expr} {x : Str} {px : Pos} {ifs : List Expr} {scope : Scope} {pos : Pos} {env : Env} (p : Value → Bool) (F : Value → Value → Prop)
    (hfree : ∀ y ∈ scope.names, y.2 ≠ .free) (hcell : ∀ y ∈ scope.names, y.2 ≠ .cell) (hkind : scope.kind = .function)
    (hnames : ∀ y ∈ scope.names, y.2 = .local → scope.names.lookup y.1 = some .local) (hx : scope.names.lookup x = some .local)
    (h : wpAny (model P0 w) A (eval iter env) (fun xv s₁ => wpAny (model P0 w) A (pyIter xv) (fun it s₂ => CompAsk w A env scope x ifs elt p F Q it s₂) E s₁) E s)
    (hs : ∀ x, foldedSetIterable iter env x = pure x := by intro _; rfl) :
    wpAny (model P0 w) A (eval (.ListComp elt [⟨.Name x px, iter, ifs, 0⟩] scope pos) env) Q E s :=
  wpAny_ListComp_free p F (closureFor_none hfree) hcell hkind hnames hx h hs
theorem Fr.ext {h₀ h h' : Heap} {L : Addr} {m : Str → Option Value} (F : Fr h₀ L h m) (k : ∀ b o, h.get? b = some o → h'.get? b = some o) : Fr h₀ L h' m := ⟨F.ns.keeps k, fun b o e => k b o (F.keep b o e), F.above⟩
end
local macro_rules | `(tactic| walk_at "eval Name") => `(tactic| (first
  | ((with_reducible show wpAny _ _ (eval (Expr.Name (Str.ofString "chr") _) _) _ _ _); refine n_chr (by first | assumption | exact TopIn.keeps (by assumption) (Fr.keep (by assumption))) ?_)
  | ((with_reducible show wpAny _ _ (eval (Expr.Name (Str.ofString "ord") _) _) _ _ _); refine n_ord (by first | assumption | exact TopIn.keeps (by assumption) (Fr.keep (by assumption))) ?_)
  | ((with_reducible show wpAny _ _ (eval (Expr.Name (Str.ofString "range") _) _) _ _ _); refine n_range (by first | assumption | exact TopIn.keeps (by assumption) (Fr.keep (by assumption))) ?_)))

noncomputable def blankL : List Int := [9, 10, 11, 12, 13, 28, 29, 30, 31, 32, 133, 160, 5760] ++ (List.range 11).map (fun (i : Nat) => 8192 + (i : Int)) ++ [8232, 8233, 8239, 8287, 12288]
theorem ints_range : ∀ (ys vs : List Value) (k : Nat), (∀ j v, vs[j]? = some v → ∃ t, v = Value.int (0 + ((k + j : Nat) : Int) * 1) t) → Paired (fun v y => ∀ n t, v = Value.int n t → ∃ t', y = Value.int (8192 + n) t') vs ys →
    IntsAre ys ((List.range' k vs.length).map fun (i : Nat) => 8192 + (i : Int))
  | [], [], k, _, _ => .nil
  | y :: ys, v :: vs, k, hP, .cons hy hr => by
    obtain ⟨t, rfl⟩ := hP 0 v rfl
    obtain ⟨t', rfl⟩ := hy _ _ rfl
    rw [List.length_cons, List.range'_succ, List.map_cons]
    have := ints_range ys vs (k + 1) (fun j v hj => by obtain ⟨t, e⟩ := hP (j + 1) v (by simpa using hj); exact ⟨t, by rw [e, show k + (j + 1) = k + 1 + j by omega]⟩) hr
    have e : (8192 + (0 + ((k + 0 : Nat) : Int) * 1)) = 8192 + (k : Int) := by omega
    rw [e]
    exact .cons _ _ this
theorem law_blanks {w : World} {A : Around} {s : Shared} {Q : Value → Shared → Prop} {E : Value → Shared → Prop} (T : TopIn w s.heap) (hA : AOk A 1)
    (h : ∀ D s' vs, Keeps s s' → s.heap.get? D = none → s'.heap.IsList D vs.toArray → IntsAre vs blankL → Q (.ref D) s') : wpAny (model P0 w) A (call (.ref 97) []) Q E s := by
  refine enter (i := 9) (ca := 96) (nm := "_law_blanks") (m := m3) (binds := []) T hA.room (by kernel_rfl) (o := codeO "_law_blanks" 2235 25 0 3 (.ref 93) (.ref 94) .none .none (.ref 95) true 2238) (by kernel_rfl) rfl (t := 2236) rfl (by kernel_rfl) (locs (by kernel_rfl)) (by kernel_rfl) (by decide +kernel) fun L h₁ F => ?_
  conv in (bodyOf 9) => whnf
  conv in (occs := *) (scopeOf 9) => all_goals whnf
  have N : News s.heap L h₁ [] := News.nil
  repeat' (first | ((fail_if_success (with_reducible show wpAny _ _ (eval (Expr.ListComp _ _ _ _) _) _ _ _)); (first | walk1 | (dsimp only; walk1))))
  refine comp (fun _ => true) (fun v y => ∀ n t, v = Value.int n t → ∃ t', y = Value.int (8192 + n) t') (by decide) (by decide) rfl (by decide) rfl ?_
  repeat' (first | ((fail_if_success (with_reducible show wpAny _ _ (pyIter _) _ _ _)); (first | walk1 | (dsimp only; walk1))))
  rename IsRange _ _ _ _ _ _ _ _ => hR
  rename Fr _ _ _ _ => F'
  rename News _ _ _ _ => N'
  refine iter_range (n := 11) hA.1 hR (by decide) ?_
  rintro I h' rfl rfl W hst
  refine ask_new rfl rfl W (by rw [sizeLine_eq]; decide) hst (by simp) (fun C i v s₃ m₃ E' hv hns hm hk => wpAny_tests_nil ⟨rfl, _, _, rfl, fun _ _ e => e⟩) (fun C i v s₃ m₃ E' hv _ hns hm hk => ?_) (fun D h' tk ys vs hD hl hpl hlen hP hF hk => ?_)
  · obtain ⟨t, rfl⟩ := hv
    walk1
    walk1
    refine lname hns hm ?_
    walk1
    exact ⟨fun n t' e => by cases e; exact ⟨_, rfl⟩, _, _, rfl, fun _ _ e => e⟩
  · have F2 := Fr.ext F' hk
    have N2 := News.grown N' hk
    have e : (fun _ : Value => true) = fun _ => true := rfl
    rw [List.filter_eq_self.mpr (fun _ _ => rfl)] at hF
    have hys := hF.length
    rw [hlen, Array.length_toList] at hys
    have hI := ints_range ys.toList vs 0 (fun j v hj => by rw [Nat.zero_add]; exact hP j v hj) hF
    rw [hlen] at hI
    refine add_arrays F2 N2 (News.isList N2 (.head _)) hl (fun h3 F3 N3 => ?_) (by rw [← hys, sizeLine_eq]; exact (by decide : 13 + 11 ≤ 16777216))
    repeat' (first | ((fail_if_success (with_reducible show wpAny _ _ (binaryOp _ _ _) _ _ _)); (first | walk1 | (dsimp only; walk1))))
    rename Fr _ _ _ _ => F4
    rename News _ _ _ _ => N4
    refine add_arrays F4 N4 (News.isList N4 (.tail _ (.head _))) (News.isList N4 (.head _)) (fun h5 F5 N5 => ?_) (by simp only [List.size_toArray, List.length_append, Array.length_toList, ← hys]; rw [sizeLine_eq]; exact (by decide : 13 + 11 + 5 ≤ 16777216))
    refine h _ _ _ ⟨_, _, rfl, F5.keep⟩ (News.fresh N5 (.head _)) (News.isList N5 (.head _)) ?_
    refine IntsAre.append (IntsAre.append ?_ hI) ?_
    · repeat' (first | exact IntsAre.nil | refine IntsAre.cons _ _ ?_)
    · repeat' (first | exact IntsAre.nil | refine IntsAre.cons _ _ ?_)
end Mine
end T_WkComp

section T_WkCall
open PySem PySem.W PyProof.Rows PyProof.V PySem.Spec
set_option Elab.async false
namespace Mine
set_option maxRecDepth 100000
set_option linter.unusedVariables false

noncomputable def isFn (w : World) (f : Addr) : Prop := ∃ o fd, (finHeap w.params).get? f = some o ∧ o.data = .func fd
theorem isFn_21 (w : World) : isFn w 21 := ⟨{ cls := .type "function", data := .func (fdat 1 3 m1 (.ref 20)) }, _, by kernel_rfl, rfl⟩
theorem isFn_39 (w : World) : isFn w 39 := ⟨{ cls := .type "function", data := .func (fdat 4 3 m2 (.ref 38)) }, _, by kernel_rfl, rfl⟩
theorem isFn_85 (w : World) : isFn w 85 := ⟨{ cls := .type "function", data := .func (fdat 6 3 m2 (.ref 84)) }, _, by kernel_rfl, rfl⟩
theorem isFn_92 (w : World) : isFn w 92 := ⟨{ cls := .type "function", data := .func (fdat 8 3 m3 (.ref 91)) }, _, by kernel_rfl, rfl⟩
theorem isFn_97 (w : World) : isFn w 97 := ⟨{ cls := .type "function", data := .func (fdat 9 3 m3 (.ref 96)) }, _, by kernel_rfl, rfl⟩
theorem isFn_104 (w : World) : isFn w 104 := ⟨{ cls := .type "function", data := .func (fdat 10 3 m3 (.ref 103)) }, _, by kernel_rfl, rfl⟩
theorem isFn_111 (w : World) : isFn w 111 := ⟨{ cls := .type "function", data := .func (fdat 11 3 m3 (.ref 110)) }, _, by kernel_rfl, rfl⟩
theorem isFn_116 (w : World) : isFn w 116 := ⟨{ cls := .type "function", data := .func (fdat 12 3 m3 (.ref 115)) }, _, by kernel_rfl, rfl⟩
theorem isFn_121 (w : World) : isFn w 121 := ⟨{ cls := .type "function", data := .func (fdat 13 3 m3 (.ref 120)) }, _, by kernel_rfl, rfl⟩
theorem isFn_126 (w : World) : isFn w 126 := ⟨{ cls := .type "function", data := .func (fdat 14 3 m3 (.ref 125)) }, _, by kernel_rfl, rfl⟩
theorem fnIs (w : World) {f : Addr} (hf : f ∈ ([21, 39, 85, 92, 97, 104, 111, 116, 121, 126] : List Nat)) : isFn w f := by
  simp only [List.mem_cons, List.mem_nil_iff, or_false] at hf
  rcases hf with rfl | rfl | rfl | rfl | rfl | rfl | rfl | rfl | rfl | rfl
  · exact isFn_21 w
  · exact isFn_39 w
  · exact isFn_85 w
  · exact isFn_92 w
  · exact isFn_97 w
  · exact isFn_104 w
  · exact isFn_111 w
  · exact isFn_116 w
  · exact isFn_121 w
  · exact isFn_126 w

section
variable {w : World} {A : Around} {s : Shared} {Q : Value → Shared → Prop} {E : Value → Shared → Prop}
/-- a call of one of the top's defs, its arguments first -/
theorem cw1 {env : Env} {pos : Pos} {f : Addr} {first : List Value} {e : Expr} {rest : List Expr} (hf : f ∈ ([21, 39, 85, 92, 97, 104, 111, 116, 121, 126] : List Nat))
    (h : wpAny (model P0 w) A (spliced (backTo pos (starEach (e :: rest) env))) (fun vs s₁ => TopIn w s₁.heap ∧ wpAny (model P0 w) A (call (.ref f) (first ++ vs)) Q E s₁) E s)
    (he : starEach (e :: rest) env = (false, eval e env) :: starEach rest env := by rfl) :
    wpAny (model P0 w) A (callWith pos (.ref f) first (backTo pos (starEach (e :: rest) env)) []) Q E s := by
  obtain ⟨o, fd, ho, hdat⟩ := fnIs w hf
  rw [he] at h ⊢
  exact Calls.callWith_function (o := o) (fd := fd) (Calls.evalArgs_plain (wpAny_mono h (fun vs s₁ h₁ => ⟨⟨h₁.1 _ _ ho, hdat⟩, h₁.2⟩) fun _ _ x => x))
theorem cw0 {env : Env} {pos : Pos} {f : Addr} {first : List Value} (hf : f ∈ ([21, 39, 85, 92, 97, 104, 111, 116, 121, 126] : List Nat)) (T : TopIn w s.heap)
    (h : wpAny (model P0 w) A (call (.ref f) first) Q E s) : wpAny (model P0 w) A (callWith pos (.ref f) first (backTo pos (starEach [] env)) []) Q E s := by
  obtain ⟨o, fd, ho, hdat⟩ := fnIs w hf
  exact callWith_meth0 hdat (T _ _ ho) h

theorem c_nothing {k : Int} {t : Tok} (T : TopIn w s.heap) (hA : AOk A 1) (h : ∀ t' h' tk, (∀ b o, s.heap.get? b = some o → h'.get? b = some o) → Q (.str (S1 (nothing k)) t') { s with heap := h', toks := tk }) :
    wpAny (model P0 w) A (call (.ref 92) [.int k t]) Q E s := law_nothing T hA fun t' s' hK => by obtain ⟨h', tk, rfl, hk⟩ := hK; exact h t' h' tk hk
theorem c_any {k : Int} {t : Tok} (T : TopIn w s.heap) (hA : AOk A 1) (h : ∀ t' h' tk, (∀ b o, s.heap.get? b = some o → h'.get? b = some o) → Q (.str (S1 (anyc k)) t') { s with heap := h', toks := tk }) :
    wpAny (model P0 w) A (call (.ref 104) [.int k t]) Q E s := law_any T hA fun t' s' hK => by obtain ⟨h', tk, rfl, hk⟩ := hK; exact h t' h' tk hk
theorem c_b1 {c : Nat} {t : Tok} (T : TopIn w s.heap) (hA : AOk A 1) (h : ∀ h' tk, (∀ b o, s.heap.get? b = some o → h'.get? b = some o) → Q (.bool (inB1 c)) { s with heap := h', toks := tk }) :
    wpAny (model P0 w) A (call (.ref 39) [.str (S1 c) t]) Q E s := table_b1 T hA fun s' hK => by obtain ⟨h', tk, rfl, hk⟩ := hK; exact h h' tk hk
theorem c_b3 {c : Nat} {t : Tok} (T : TopIn w s.heap) (hA : AOk A 1) (h : ∀ t' h' tk, (∀ b o, s.heap.get? b = some o → h'.get? b = some o) → Q (.str (b3 c) t') { s with heap := h', toks := tk }) :
    wpAny (model P0 w) A (call (.ref 85) [.str (S1 c) t]) Q E s := table_b3 T hA fun t' s' hK => by obtain ⟨h', tk, rfl, hk⟩ := hK; exact h t' h' tk hk
theorem c_line {x : Str} {t : Tok} (T : TopIn w s.heap) (hA : AOk A 1) (hx : x.length ≤ 1000) (h : ∀ t' h' tk, (∀ b o, s.heap.get? b = some o → h'.get? b = some o) → Q (.str (cmt x) t') { s with heap := h', toks := tk }) :
    wpAny (model P0 w) A (call (.ref 21) [.str x t]) Q E s := comment_line T hA hx fun t' s' hK => by obtain ⟨h', tk, rfl, hk⟩ := hK; exact h t' h' tk hk
theorem c_blanks (T : TopIn w s.heap) (hA : AOk A 1) (h : ∀ D vs h' tk, (∀ b o, s.heap.get? b = some o → h'.get? b = some o) → s.heap.get? D = none → h'.IsList D vs.toArray → IntsAre vs blankL → Q (.ref D) { s with heap := h', toks := tk }) :
    wpAny (model P0 w) A (call (.ref 97) []) Q E s := law_blanks T hA fun D s' vs hK hD hl hI => by obtain ⟨h', tk, rfl, hk⟩ := hK; exact h D vs h' tk hk hD hl hI
end
end Mine
end T_WkCall

section T_WkFold
open PySem PySem.W PyProof.Rows PyProof.V PySem.Spec
set_option Elab.async false
namespace Mine
set_option maxRecDepth 100000
set_option linter.unusedVariables false
noncomputable def alikeL : List Int := [35, 6158, 8206, 8289, 10240, 12644, 65440, 917536]
noncomputable def sevL : List Int := [890, 223, 304, 64259, 8451, 13255, 13254, 8119]
noncomputable def fold (c : Nat) : Str := if inB1 c then ⟨#[]⟩ else b3 c
noncomputable def code (x : Int) : Nat :=
  if x.fmod 6 = 0 then (blankL.getD ((x.fdiv 6).fmod 29).toNat 0).toNat
  else if x.fmod 6 = 1 then nothing (x.fdiv 6)
  else if x.fmod 6 = 2 then (65 + (x.fdiv 6).fmod 26).toNat
  else if x.fmod 6 = 3 then (sevL.getD ((x.fdiv 6).fmod 8).toNat 0).toNat
  else if x.fmod 6 = 4 then (alikeL.getD ((x.fdiv 6).fmod 8).toNat 0).toNat
  else anyc (x.fdiv 6)
theorem fold_blank : ∀ i < 29, fold (blankL.getD i 0).toNat = S1 (blankL.getD i 0).toNat := by decide +kernel
theorem fold_great : ∀ i < 26, fold (65 + i) = S1 (97 + i) := by decide +kernel
theorem fold_alike : ∀ i < 8, fold (alikeL.getD i 0).toNat = S1 (alikeL.getD i 0).toNat := by decide +kernel
theorem b1_nothing : ∀ i : Nat, i < 27 → inB1 (if (i : Int) < 11 then (row11.getD i 0).toNat else (65024 + (i : Int) - 11).toNat : Nat) = true := by decide +kernel
theorem fold_nothing (k : Int) : fold (nothing k) = ⟨#[]⟩ := by
  have hm := fm (k := k) 27 (by decide)
  have h := b1_nothing (k.fmod 27).toNat (by omega)
  have e : ((k.fmod 27).toNat : Int) = k.fmod 27 := by omega
  rw [e] at h
  unfold fold nothing
  rw [if_pos h]
noncomputable def sevV : List Str := [⟨#[32, 953]⟩, ⟨#[115, 115]⟩, ⟨#[105, 775]⟩, ⟨#[102, 102, 105]⟩, ⟨#[176, 99]⟩, ⟨#[99, 111, 46]⟩, ⟨#[99, 8725, 107, 103]⟩, ⟨#[945, 834, 953]⟩]
theorem fold_sev : ∀ i < 8, fold (sevL.getD i 0).toNat = sevV.getD i ⟨#[]⟩ := by decide +kernel
section
variable {w : World} {A : Around} {s : Shared} {Q : Value → Shared → Prop} {E : Value → Shared → Prop}
theorem ints_get : ∀ {vs : List Value} {ns : List Int} {i : Nat}, IntsAre vs ns → i < ns.length → ∃ t, vs[i]? = some (.int (ns.getD i 0) t)
  | _, _, 0, .cons n t _, _ => ⟨t, rfl⟩
  | _, _, i + 1, .cons n t r, h => by
    obtain ⟨t', e⟩ := ints_get r (i := i) (by simpa using h)
    exact ⟨t', by simpa using e⟩
theorem item_ints {value slice : Expr} {D : Addr} {vs : List Value} {ns : List Int} {k : Int} {u : Tok} (hl : s.heap.IsList D vs.toArray) (hI : IntsAre vs ns) (h0 : 0 ≤ k) (hk : k < ns.length) (hz : ns.length < 1000)
    (h : ∀ t, Q (.int (ns.getD k.toNat 0) t) s)
    (hs : subscripted slice false (.ref D) (.int k u) = operate [.ref D, .int k u] (getItem (.ref D) (.int k u)) := by with_unfolding_all rfl) :
    wpAny (model P0 w) A (subscriptTail value slice (.ref D) (.int k u)) Q E s := by
  obtain ⟨t, e⟩ := ints_get hI (i := k.toNat) (by omega)
  exact tail_any hl.typeIs slot_list_getitem.lookup (wpAny_getItem_list hl h0 (by omega) (by simpa using e) (h t)) hs
theorem item_any {value slice : Expr} {D : Addr} {vs : List Value} {v : Value} {k : Int} {u : Tok} (hl : s.heap.IsList D vs.toArray) (h0 : 0 ≤ k) (hk : k < 1000) (hv : vs[k.toNat]? = some v) (h : Q v s)
    (hs : subscripted slice false (.ref D) (.int k u) = operate [.ref D, .int k u] (getItem (.ref D) (.int k u)) := by with_unfolding_all rfl) :
    wpAny (model P0 w) A (subscriptTail value slice (.ref D) (.int k u)) Q E s :=
  tail_any hl.typeIs slot_list_getitem.lookup (wpAny_getItem_list hl h0 (by omega) (by simpa using hv) h) hs
theorem blank_bound : ∀ i < 29, 0 ≤ blankL.getD i 0 ∧ blankL.getD i 0 ≤ 1114111 := by decide
theorem alike_bound : ∀ i < 8, 0 ≤ alikeL.getD i 0 ∧ alikeL.getD i 0 ≤ 1114111 := by decide
end
end Mine
end T_WkFold

section T_WkPair
local macro_rules | `(tactic| walk_at "mine pad") => `(tactic| fail "pad")
local macro_rules | `(tactic| walk_at "mine pad") => `(tactic| fail "pad")
local macro_rules | `(tactic| walk_at "mine pad") => `(tactic| fail "pad")
local macro_rules | `(tactic| walk_at "mine pad") => `(tactic| fail "pad")
local macro_rules | `(tactic| walk_at "mine pad") => `(tactic| fail "pad")
open PySem PySem.W PyProof.Rows PyProof.V PySem.Spec
set_option Elab.async false
namespace Mine
set_option maxRecDepth 100000
set_option linter.unusedVariables false
local macro_rules | `(tactic| walk_at "eval Name") => `(tactic| (first
  | ((with_reducible show wpAny _ _ (eval (Expr.Name (Str.ofString "chr") _) _) _ _ _); refine n_chr (by first | assumption | exact TopIn.keeps (by assumption) (Fr.keep (by assumption))) ?_)
  | ((with_reducible show wpAny _ _ (eval (Expr.Name (Str.ofString "ord") _) _) _ _ _); refine n_ord (by first | assumption | exact TopIn.keeps (by assumption) (Fr.keep (by assumption))) ?_)
  | ((with_reducible show wpAny _ _ (eval (Expr.Name (Str.ofString "range") _) _) _ _ _); refine n_range (by first | assumption | exact TopIn.keeps (by assumption) (Fr.keep (by assumption))) ?_)
  | ((with_reducible show wpAny _ _ (eval (Expr.Name (Str.ofString "_law_blanks") _) _) _ _ _); refine n_law_blanks (by first | assumption | exact TopIn.keeps (by assumption) (Fr.keep (by assumption))) ?_)
  | ((with_reducible show wpAny _ _ (eval (Expr.Name (Str.ofString "_law_nothing") _) _) _ _ _); refine n_law_nothing (by first | assumption | exact TopIn.keeps (by assumption) (Fr.keep (by assumption))) ?_)
  | ((with_reducible show wpAny _ _ (eval (Expr.Name (Str.ofString "_law_any") _) _) _ _ _); refine n_law_any (by first | assumption | exact TopIn.keeps (by assumption) (Fr.keep (by assumption))) ?_)
  | ((with_reducible show wpAny _ _ (eval (Expr.Name (Str.ofString "in_table_b1") _) _) _ _ _); refine n_in_table_b1 (by first | assumption | exact TopIn.keeps (by assumption) (Fr.keep (by assumption))) ?_)
  | ((with_reducible show wpAny _ _ (eval (Expr.Name (Str.ofString "map_table_b3") _) _) _ _ _); refine n_map_table_b3 (by first | assumption | exact TopIn.keeps (by assumption) (Fr.keep (by assumption))) ?_)))
local macro_rules | `(tactic| walk_at "callWith ref") => `(tactic| (first | (refine cw1 (by decide) ?_) | (refine cw0 (by decide) (by first | assumption | exact TopIn.keeps (by assumption) (Fr.keep (by assumption))) ?_)))
local macro_rules | `(tactic| walk_at "And") => `(tactic| ((with_reducible show TopIn _ _ ∧ _); refine ⟨(by first | assumption | exact TopIn.keeps (by assumption) (Fr.keep (by assumption))), ?_⟩; (try dsimp only [List.nil_append])))
local macro_rules | `(tactic| walk_at "call ref") => `(tactic| (first
  | ((with_reducible show wpAny _ _ (call (Value.ref 92) _) _ _ _); refine c_nothing (by first | assumption | exact TopIn.keeps (by assumption) (Fr.keep (by assumption))) (AOk.less (AOk.deeper (by assumption)) (by decide)) (fun t' h' tk' hk' => ?_); (have F' := Fr.ext (by assumption) hk'); (have N' := News.grown (by assumption) hk'))
  | ((with_reducible show wpAny _ _ (call (Value.ref 104) _) _ _ _); refine c_any (by first | assumption | exact TopIn.keeps (by assumption) (Fr.keep (by assumption))) (AOk.less (AOk.deeper (by assumption)) (by decide)) (fun t' h' tk' hk' => ?_); (have F' := Fr.ext (by assumption) hk'); (have N' := News.grown (by assumption) hk'))
  | ((with_reducible show wpAny _ _ (call (Value.ref 39) _) _ _ _); refine c_b1 (by first | assumption | exact TopIn.keeps (by assumption) (Fr.keep (by assumption))) (AOk.less (AOk.deeper (by assumption)) (by decide)) (fun  h' tk' hk' => ?_); (have F' := Fr.ext (by assumption) hk'); (have N' := News.grown (by assumption) hk'))
  | ((with_reducible show wpAny _ _ (call (Value.ref 85) _) _ _ _); refine c_b3 (by first | assumption | exact TopIn.keeps (by assumption) (Fr.keep (by assumption))) (AOk.less (AOk.deeper (by assumption)) (by decide)) (fun t' h' tk' hk' => ?_); (have F' := Fr.ext (by assumption) hk'); (have N' := News.grown (by assumption) hk'))))

theorem tup_conv {h : Heap} {a : Addr} {p q p' q' : Str} {t u : Tok} (x : IsTup h a #[.str p t, .str q u]) (e : p = p') (e' : q = q') : IsTup h a #[.str p' t, .str q' u] := by rw [← e, ← e']; exact x
set_option maxHeartbeats 4000000 in
theorem law_pair {w : World} {A : Around} {s : Shared} {Q : Value → Shared → Prop} {E : Value → Shared → Prop} {x : Int} {t : Tok} (T : TopIn w s.heap) (hA : AOk A 2)
    (h : ∀ a h' tk t1 t2, (∀ b o, s.heap.get? b = some o → h'.get? b = some o) → s.heap.get? a = none → IsTup h' a #[.str (S1 (code x)) t1, .str (fold (code x)) t2] → Q (.ref a) { s with heap := h', toks := tk }) : wpAny (model P0 w) A (call (.ref 111) [.int x t]) Q E s := by
  refine enter (i := 11) (ca := 110) (nm := "_law_pair") (m := m3) (binds := [("x", .int x t)]) T hA.room (by kernel_rfl) (o := codeO "_law_pair" 2249 32 1 3 (.ref 105) (.ref 106) (.ref 107) (.ref 108) (.ref 109) true 2259) (by kernel_rfl) rfl (t := 2250) rfl (by kernel_rfl) (locs (by kernel_rfl)) (by kernel_rfl) (by decide +kernel) fun L h₁ F => ?_
  conv in (bodyOf 11) => whnf
  conv in (occs := *) (scopeOf 11) => all_goals whnf
  have N : News s.heap L h₁ [] := News.nil
  have h6 := fm (k := x) 6 (by decide)
  have h29 := fm (k := x.fdiv 6) 29 (by decide)
  have h26 := fm (k := x.fdiv 6) 26 (by decide)
  have h8 := fm (k := x.fdiv 6) 8 (by decide)
  repeat' (first | walk1 | (dsimp only; walk1))
  · -- 0: a blank
    rename (x.fmod 6 = 0) => hk0
    refine c_blanks (TopIn.keeps T (Fr.keep (by assumption))) (AOk.less (AOk.deeper hA) (by decide)) (fun D vs h' tk' hk' hD hl hI => ?_)
    have F' := Fr.ext (by assumption) hk'
    have N' := News.grown (by assumption) hk'
    repeat' (first | ((fail_if_success (with_reducible show wpAny _ _ (subscriptTail _ _ _ _) _ _ _)); (first | walk1 | (dsimp only; walk1))))
    have hb := blank_bound ((x.fdiv 6).fmod 29).toNat (by omega)
    refine item_ints hl hI h29.1 h29.2 (by decide) (fun t => ?_)
    repeat' (first | walk1 | (dsimp only; walk1))
    rename Fr _ _ _ _ => F9
    rename News _ _ _ _ => N9
    have e : code x = (blankL.getD ((x.fdiv 6).fmod 29).toNat 0).toNat := if_pos hk0
    have ef : fold (code x) = S1 (blankL.getD ((x.fdiv 6).fmod 29).toNat 0).toNat := by rw [e]; exact fold_blank _ (by omega)
    rw [ef, e] at h
    exact h _ _ _ _ _ F9.keep (News.fresh N9 (.head _)) (News.isTup N9 (.head _))
  · -- 1: nothing
    rename (x.fmod 6 = 1) => hk1
    rename Fr _ _ _ _ => F9
    rename News _ _ _ _ => N9
    have e : code x = nothing (x.fdiv 6) := by unfold code; rw [if_neg (by omega), if_pos hk1]
    have ef : fold (code x) = Str.ofString "" := by rw [e, fold_nothing]; decide +kernel
    rw [ef, e] at h
    exact h _ _ _ _ _ F9.keep (News.fresh N9 (.head _)) (News.isTup N9 (.head _))
  · -- 2: a great letter
    rename (x.fmod 6 = 2) => hk2
    rename Fr _ _ _ _ => F9
    rename News _ _ _ _ => N9
    have e : code x = (65 + (x.fdiv 6).fmod 26).toNat := by unfold code; rw [if_neg (by omega), if_neg (by omega), if_pos hk2]
    have ef : fold (code x) = S1 (97 + (x.fdiv 6).fmod 26).toNat := by
      rw [e]
      have := fold_great ((x.fdiv 6).fmod 26).toNat (by omega)
      rw [show (65 + (x.fdiv 6).fmod 26).toNat = 65 + ((x.fdiv 6).fmod 26).toNat by omega, show (97 + (x.fdiv 6).fmod 26).toNat = 97 + ((x.fdiv 6).fmod 26).toNat by omega]
      exact this
    rw [ef, e] at h
    exact h _ _ _ _ _ F9.keep (News.fresh N9 (.head _)) (News.isTup N9 (.head _))
  · -- 3: several
    rename (x.fmod 6 = 3) => hk3
    rename Fr _ _ _ _ => F9
    rename News _ _ _ _ => N9
    have e : code x = (sevL.getD ((x.fdiv 6).fmod 8).toNat 0).toNat := by unfold code; rw [if_neg (by omega), if_neg (by omega), if_neg (by omega), if_pos hk3]
    have ef : fold (code x) = sevV.getD ((x.fdiv 6).fmod 8).toNat ⟨#[]⟩ := by rw [e]; exact fold_sev _ (by omega)
    rw [ef, e] at h
    have hc : (x.fdiv 6).fmod 8 = 0 ∨ (x.fdiv 6).fmod 8 = 1 ∨ (x.fdiv 6).fmod 8 = 2 ∨ (x.fdiv 6).fmod 8 = 3 ∨ (x.fdiv 6).fmod 8 = 4 ∨ (x.fdiv 6).fmod 8 = 5 ∨ (x.fdiv 6).fmod 8 = 6 ∨ (x.fdiv 6).fmod 8 = 7 := by omega
    rcases hc with q | q | q | q | q | q | q | q
    all_goals
      rw [q] at h ⊢
      refine item_any (News.isList N9 (.head _)) (by decide) (by decide) rfl ?_
      exact h _ _ _ _ _ F9.keep (News.fresh N9 (by k_mem)) (tup_conv (News.isTup N9 (by k_mem)) (by decide +kernel) (by decide +kernel))
  · -- 4: alike
    rename (x.fmod 6 = 4) => hk4
    rename Fr _ _ _ _ => F9
    rename News _ _ _ _ => N9
    have hb := alike_bound ((x.fdiv 6).fmod 8).toNat (by omega)
    refine item_ints (ns := alikeL) (News.isList N9 (.head _)) ?_ h8.1 h8.2 (by decide) (fun t => ?_)
    · repeat' (first | exact IntsAre.nil | refine IntsAre.cons _ _ ?_)
    repeat' (first | walk1 | (dsimp only; walk1))
    rename Fr _ _ _ _ => F8
    rename News _ _ _ _ => N8
    have e : code x = (alikeL.getD ((x.fdiv 6).fmod 8).toNat 0).toNat := by unfold code; rw [if_neg (by omega), if_neg (by omega), if_neg (by omega), if_neg (by omega), if_pos hk4]
    have ef : fold (code x) = S1 (alikeL.getD ((x.fdiv 6).fmod 8).toNat 0).toNat := by rw [e]; exact fold_alike _ (by omega)
    rw [ef, e] at h
    exact h _ _ _ _ _ F8.keep (News.fresh N8 (.head _)) (News.isTup N8 (.head _))
  · -- 5: any sign, of B.1
    rename Fr _ _ _ _ => F9
    rename News _ _ _ _ => N9
    rename (inB1 _ = true) => hb
    have e : code x = anyc (x.fdiv 6) := by unfold code; rw [if_neg (by omega), if_neg (by omega), if_neg (by omega), if_neg (by omega), if_neg (by omega)]
    have ef : fold (code x) = Str.ofString "" := by rw [e]; unfold fold; rw [if_pos hb]; decide +kernel
    rw [ef, e] at h
    exact h _ _ _ _ _ F9.keep (News.fresh N9 (.head _)) (News.isTup N9 (.head _))
  · -- 5: any other sign
    rename Fr _ _ _ _ => F9
    rename News _ _ _ _ => N9
    have hb : inB1 (anyc (x.fdiv 6)) = false := by assumption
    have e : code x = anyc (x.fdiv 6) := by unfold code; rw [if_neg (by omega), if_neg (by omega), if_neg (by omega), if_neg (by omega), if_neg (by omega)]
    have ef : fold (code x) = b3 (anyc (x.fdiv 6)) := by rw [e]; unfold fold; rw [hb]; rfl
    rw [ef, e] at h
    exact h _ _ _ _ _ F9.keep (News.fresh N9 (.head _)) (News.isTup N9 (.head _))
end Mine
end T_WkPair

section T_WkPairs
open PySem PySem.W PyProof.Rows PyProof.V PySem.Spec
set_option Elab.async false
namespace Mine
set_option maxRecDepth 100000
set_option linter.unusedVariables false

/-- v is a pair of the line: a sign and its folding -/
noncomputable def IsPair (h : Heap) (v : Value) (c : Nat) : Prop := ∃ a t1 t2, v = .ref a ∧ IsTup h a #[.str (S1 c) t1, .str (fold c) t2]
theorem IsPair.keeps {h h' : Heap} {v : Value} {c : Nat} (x : IsPair h v c) (k : ∀ b o, h.get? b = some o → h'.get? b = some o) : IsPair h' v c := by
  obtain ⟨a, t1, t2, rfl, o, ho, r⟩ := x
  exact ⟨a, t1, t2, rfl, o, k _ _ ho, r⟩
noncomputable def PairsAre (h : Heap) (vs : List Value) (cs : List Nat) : Prop := Paired (IsPair h) vs cs
theorem PairsAre.keeps {h h' : Heap} {vs : List Value} {cs : List Nat} (x : PairsAre h vs cs) (k : ∀ b o, h.get? b = some o → h'.get? b = some o) : PairsAre h' vs cs := Paired.mono (fun _ _ p => p.keeps k) x
theorem paired_app {α β : Type} {F : α → β → Prop} : ∀ {a b : List α} {c d : List β}, Paired F a c → Paired F b d → Paired F (a ++ b) (c ++ d)
  | [], _, [], _, .nil, h => h
  | _ :: _, _, _ :: _, _, .cons f r, h => .cons f (paired_app r h)
theorem paired_take {α β : Type} {F : α → β → Prop} : ∀ {a : List α} {c : List β} (n : Nat), Paired F a c → Paired F (a.take n) (c.take n)
  | _, _, 0, _ => by simpa using Paired.nil
  | [], [], _ + 1, .nil => .nil
  | _ :: _, _ :: _, n + 1, .cons f r => .cons f (paired_take n r)
theorem pairs_of_tups {h : Heap} : ∀ {vs : List Value} {ns : List Int} {ys : List Value}, IntsAre vs ns → Paired (TupIs (fun v its => ∀ n t, v = Value.int n t → ∃ t1 t2, its = #[.str (S1 (code n)) t1, .str (fold (code n)) t2]) h) vs ys → PairsAre h ys (ns.map code)
  | _, _, _, .nil, .nil => .nil
  | _, _, _, .cons n t r, .cons hy hr => by
    obtain ⟨a, its, rfl, hT, hG⟩ := hy
    obtain ⟨t1, t2, rfl⟩ := hG n t rfl
    exact .cons ⟨a, t1, t2, rfl, hT⟩ (pairs_of_tups r hr)
noncomputable def codes (ns : List Int) : List Nat := (ns.take 10).map code ++ [160, 8203, 32]
section
variable {w : World} {A : Around} {s : Shared} {Q : Value → Shared → Prop} {E : Value → Shared → Prop}
noncomputable def TupAsk (w : World) (A : Around) (env : Env) (scope : Scope) (x : Str) (ifs : List Expr) (elt : Expr) (p : Value → Bool) (G : Value → Array Value → Prop) (Q : Value → Shared → Prop) (xv : Value) (s₁ : Shared) : Prop :=
  ∃ ax items, xv = .ref ax ∧ s₁.heap.IsList ax items ∧ items.size ≤ sizeLine ∧
      (∀ C v s₂ m₂ E', v ∈ items → s₂.heap.Ns C m₂ → m₂ x = some v → (∀ b o, s₁.heap.get? b = some o → s₂.heap.get? b = some o) →
        wpAny (model P0 w) A (forIn ifs true fun c r => if r = true then do let ok ← isTrue c (compEnv scope C env) (eval c (compEnv scope C env)); pure (ForInStep.yield ok) else pure (ForInStep.yield r))
          (fun ok s₃ => ok = p v ∧ Keeps s₂ s₃) E' s₂) ∧
      (∀ C v s₂ m₂ E', v ∈ items → p v = true → s₂.heap.Ns C m₂ → m₂ x = some v → (∀ b o, s₁.heap.get? b = some o → s₂.heap.get? b = some o) →
        wpAny (model P0 w) A (eval elt (compEnv scope C env)) (fun y s₃ => (∃ T vs, y = .ref T ∧ s₂.heap.get? T = none ∧ s₃.heap.IsTuple T vs ∧ G v vs) ∧ Keeps s₂ s₃) E' s₂) ∧
      (∀ D h' tk ys, s₁.heap.get? D = none → h'.IsList D ys → Paired (TupIs G h') (items.toList.filter p) ys.toList → (∀ b o, s₁.heap.get? b = some o → h'.get? b = some o) →
        Q (.ref D) { s₁ with heap := h', toks := tk })
theorem add_push {l b : Addr} {vs ws : List Value} (hl : s.heap.IsList l vs.toArray) (hb : s.heap.IsList b ws.toArray) (hsz : vs.length + ws.length ≤ sizeLine)
    (h : Q (.ref s.heap.objs.size) { s with heap := s.heap.push { cls := .type "list", data := .seq (vs ++ ws).toArray } }) : wpAny (model P0 w) A (binaryOp .Add (.ref l) (.ref b)) Q E s := by
  obtain ⟨⟨c1, d1, x1, sl1⟩, ho, hc, n1, hd⟩ := hl
  obtain ⟨⟨c2, d2, x2, sl2⟩, ho2, hc2, n2, hd2⟩ := hb
  simp only at hc hd hc2 hd2
  subst hc hd hc2 hd2
  refine concat_meets ⟨_, ho, rfl⟩ ⟨_, ho2, rfl⟩ noFill_list_add seq_list_add PySem.F.slot_list_add PySem.F.entry_list_add (PySem.F.args_list_add_2 _ _) (list_addW l b vs.toArray ws.toArray n1 n2 d1 d2 sl1 sl2 (by simpa using hsz)) ⟨ho, ho2, ?_⟩
  rw [show vs.toArray ++ ws.toArray = (vs ++ ws).toArray by simp]
  exact h
theorem comp_tup {elt iter : Expr} {x : Str} {px : Pos} {ifs : List Expr} {scope : Scope} {pos : Pos} {env : Env} (p : Value → Bool) (G : Value → Array Value → Prop)
    (hh : A.handled = none) (hfree : ∀ y ∈ scope.names, y.2 ≠ .free) (hcell : ∀ y ∈ scope.names, y.2 ≠ .cell) (hkind : scope.kind = .function)
    (hnames : ∀ y ∈ scope.names, y.2 = .local → scope.names.lookup y.1 = some .local) (hx : scope.names.lookup x = some .local)
    (h : wpAny (model P0 w) A (eval iter env) (fun xv s₁ => TupAsk w A env scope x ifs elt p G Q xv s₁) E s) (hs : ∀ x, foldedSetIterable iter env x = pure x := by intro _; rfl) :
    wpAny (model P0 w) A (eval (.ListComp elt [⟨.Name x px, iter, ifs, 0⟩] scope pos) env) Q E s := wpAny_ListComp_tup p G hh hfree hcell hkind hnames hx h hs
end
local macro_rules | `(tactic| walk_at "eval Name") => `(tactic| (first
  | ((with_reducible show wpAny _ _ (eval (Expr.Name (Str.ofString "_law_pair") _) _) _ _ _); refine n_law_pair (by first | assumption | exact TopIn.keeps (by assumption) (Fr.keep (by assumption))) ?_)))
local macro_rules | `(tactic| walk_at "callWith ref") => `(tactic| (first | (refine cw1 (by decide) ?_) | (refine cw0 (by decide) (by first | assumption | exact TopIn.keeps (by assumption) (Fr.keep (by assumption))) ?_)))
local macro_rules | `(tactic| walk_at "And") => `(tactic| ((with_reducible show TopIn _ _ ∧ _); refine ⟨(by first | assumption | exact TopIn.keeps (by assumption) (Fr.keep (by assumption))), ?_⟩; (try dsimp only [List.nil_append])))

set_option maxHeartbeats 4000000 in
theorem law_pairs {w : World} {A : Around} {s : Shared} {Q : Value → Shared → Prop} {E : Value → Shared → Prop} {sA : Addr} {vs0 : List Value} {ns : List Int} (T : TopIn w s.heap) (hA : AOk A 3) (hS : s.heap.IsList sA vs0.toArray) (hI : IntsAre vs0 ns) (hlen : ns.length ≤ 63)
    (h : ∀ D vs h' tk, (∀ b o, s.heap.get? b = some o → h'.get? b = some o) → s.heap.get? D = none → h'.IsList D vs.toArray → PairsAre h' vs (codes ns) → Q (.ref D) { s with heap := h', toks := tk }) : wpAny (model P0 w) A (call (.ref 116) [.ref sA]) Q E s := by
  refine enter (i := 12) (ca := 115) (nm := "_law_pairs") (m := m3) (binds := [("script", .ref sA)]) T hA.room (by kernel_rfl) (o := codeO "_law_pairs" 2262 52 1 3 (.ref 112) (.ref 113) .none .none (.ref 114) true 2265) (by kernel_rfl) rfl (t := 2263) rfl (by kernel_rfl) (locs (by kernel_rfl)) (by kernel_rfl) (by decide +kernel) fun L h₁ F => ?_
  conv in (bodyOf 12) => whnf
  conv in (occs := *) (scopeOf 12) => all_goals whnf
  have N : News s.heap L h₁ [] := News.nil
  repeat' (first | ((fail_if_success (with_reducible show wpAny _ _ (eval (Expr.ListComp _ _ _ _) _) _ _ _)); (first | walk1 | (dsimp only; walk1))))
  refine comp_tup (fun _ => true) (fun v its => ∀ n t, v = Value.int n t → ∃ t1 t2, its = #[.str (S1 (code n)) t1, .str (fold (code n)) t2]) hA.1 (by decide) (by decide) rfl (by decide) rfl ?_
  repeat' (first | ((fail_if_success (with_reducible show TupAsk _ _ _ _ _ _ _ _ _ _ _ _)); (first | walk1 | (dsimp only; walk1))))
  rename Fr _ _ _ _ => F1
  rename News _ _ _ _ => N1
  have e10 : slicePick vs0.toArray none (some 10) none = (vs0.take 10).toArray := slicePick_upto' vs0.toArray 10
  have hLs := News.isList N1 (.head _)
  rw [e10] at hLs
  have hI10 := hI.take 10
  refine ⟨_, _, rfl, hLs, ?_, fun C v s₂ m₂ E' hv hn hm hk => wpAny_tests_nil ⟨rfl, _, _, rfl, fun _ _ e => e⟩, fun C v s₂ m₂ E' hv _ hn hm hk => ?_, fun D h' tk ys hD hl hP hk => ?_⟩
  · simp only [List.size_toArray, List.length_take]
    rw [sizeLine_eq]
    omega
  · obtain ⟨j, hj⟩ := List.mem_iff_getElem?.mp (List.mem_toArray.mp hv)
    obtain ⟨n, t, rfl, _⟩ := IntsAre.at hI10 j v hj
    have T2 : TopIn w s₂.heap := (T.keeps F1.keep).keeps hk
    walk1
    refine n_law_pair T2 ?_
    refine cw1 (by decide) ?_
    walk1
    refine lname hn hm ?_
    walk1
    refine ⟨T2, ?_⟩
    refine law_pair T2 (AOk.less (AOk.deeper hA) (by decide)) fun a h'' tk'' t1 t2 hk'' hfr hT => ?_
    exact ⟨⟨a, _, rfl, hfr, hT, fun n' t' e => by cases e; exact ⟨t1, t2, rfl⟩⟩, _, _, rfl, hk''⟩
  · have F2 := Fr.ext F1 hk
    have N2 := News.grown N1 hk
    rw [List.filter_eq_self.mpr (fun _ _ => rfl)] at hP
    have hP1 := pairs_of_tups hI10 hP
    have hys := hP.length
    have hys2 : ys.size ≤ 10 := by
      have : (vs0.take 10).length ≤ 10 := List.length_take_le _ _
      have hy : (vs0.take 10).length = ys.size := by simpa using hys
      rw [← hy]
      exact this
    dsimp only
    walk1
    have hl' : h'.IsList D ys.toList.toArray := by simpa using hl
    refine add_push hl' (News.isList N2 (.tail _ (.head _))) (by rw [sizeLine_eq, Array.length_toList]; show ys.size + 3 ≤ _; omega) ?_
    have hk3 : ∀ (o' : Obj) b o, h'.get? b = some o → (h'.push o').get? b = some o := fun o' b o e => Heap.get?_push_of_some _ e
    have N3 := fun o' => News.grown N2 (hk3 o')
    refine h _ _ _ _ (fun b o e => hk3 _ b o (F2.keep b o e)) ?_ ⟨_, Heap.get?_push_size _ rfl, rfl, _, rfl⟩ (paired_app (PairsAre.keeps hP1 (hk3 _)) ?_)
    · cases e : s.heap.get? h'.objs.size with
      | none => rfl
      | some o => exact absurd (Heap.lt_size (F2.keep _ _ e)) (Nat.lt_irrefl _)
    · refine .cons ⟨_, _, _, rfl, tup_conv (News.isTup (N3 _) (by k_mem)) (by decide +kernel) (by decide +kernel)⟩ (.cons ⟨_, _, _, rfl, tup_conv (News.isTup (N3 _) (by k_mem)) (by decide +kernel) (by decide +kernel)⟩ (.cons ⟨_, _, _, rfl, tup_conv (News.isTup (N3 _) (by k_mem)) (by decide +kernel) (by decide +kernel)⟩ .nil))
end Mine
end T_WkPairs

section T_WkPrep
local macro_rules | `(tactic| walk_at "mine pad") => `(tactic| fail "pad")
local macro_rules | `(tactic| walk_at "mine pad") => `(tactic| fail "pad")
local macro_rules | `(tactic| walk_at "mine pad") => `(tactic| fail "pad")
local macro_rules | `(tactic| walk_at "mine pad") => `(tactic| fail "pad")
local macro_rules | `(tactic| walk_at "mine pad") => `(tactic| fail "pad")
open PySem PySem.W PyProof.Rows PyProof.V PySem.Spec
set_option Elab.async false
namespace Mine
set_option maxRecDepth 100000
set_option linter.unusedVariables false

noncomputable def okB (v : Value) : Bool := match v with | .str x _ => !inB1 (x.cps.getD 0 0 : Nat) | _ => false
noncomputable def jn (l : List Str) : Str := Txt.join (Str.ofString "") l
noncomputable def prep (x : Str) : Str := jn ((x.cps.toList.filter fun (c : Nat) => !inB1 c).map b3)
theorem kvs_len : (kvs.all fun p => p.2.length ≤ 4) = true := by decide +kernel
theorem b3_len (c : Nat) : (b3 c).length ≤ 4 := by
  unfold b3
  cases e : b3? c with
  | none => have := len_lower (S1 c); have h1 : (S1 c).length = 1 := rfl; show (Txt.lower (S1 c)).length ≤ 4; omega
  | some y =>
    unfold b3? at e
    obtain ⟨p, hp, rfl⟩ := Option.map_eq_some_iff.mp e
    have := List.all_eq_true.mp kvs_len p (List.mem_of_find?_eq_some hp)
    simpa using this
theorem sum_le {f : Str → Nat} {k : Nat} : ∀ (l : List Str), (∀ x ∈ l, f x ≤ k) → (l.map f).sum ≤ k * l.length
  | [], _ => by simp
  | x :: l, h => by
    have := sum_le l (fun y hy => h y (.tail _ hy))
    have h1 := h x (.head _)
    rw [List.map_cons, List.sum_cons, List.length_cons, Nat.mul_succ]
    omega
/-- the comprehension's list: the foldings of the signs that are let by -/
theorem strs_of_prep {x : Str} : ∀ (vs ys : List Value) (k : Nat), (∀ j v, vs[j]? = some v → SignAt x (k + j) v) → k + vs.length = x.cps.size → Paired (fun v y => ∀ c u, v = Value.str (S1 c) u → ∃ t, y = Value.str (b3 c) t) (vs.filter okB) ys →
    StrsAre ys (((x.cps.toList.drop k).filter fun (c : Nat) => !inB1 c).map b3)
  | [], ys, k, hP, hl, hF => by
    cases hF
    rw [List.drop_eq_nil_of_le (by simp at hl; simp; omega)]
    exact .nil
  | v :: vs, ys, k, hP, hl, hF => by
    obtain ⟨c, u, hc, rfl⟩ := hP 0 v rfl
    have hc' : x.cps.toList[k]? = some c := by simpa using hc
    have hlt : k < x.cps.toList.length := (List.getElem?_eq_some_iff.mp hc').1
    have hd : x.cps.toList.drop k = c :: x.cps.toList.drop (k + 1) := by
      rw [List.drop_eq_getElem_cons hlt]
      congr 1
      exact (List.getElem?_eq_some_iff.mp hc').2
    have ih := fun ys' => strs_of_prep vs ys' (k + 1) (fun j v hj => by have := hP (j + 1) v (by simpa using hj); rwa [show k + (j + 1) = k + 1 + j by omega] at this) (by simp at hl; omega)
    rw [hd, List.filter_cons]
    rw [List.filter_cons] at hF
    have eo : okB (Value.str { cps := #[c] } u) = !inB1 c := rfl
    rw [eo] at hF
    cases hb : inB1 c with
    | true => rw [hb] at hF; exact ih ys hF
    | false =>
      rw [hb] at hF
      cases hF with
      | cons hy hr =>
        obtain ⟨t, rfl⟩ := hy c u rfl
        exact .cons _ _ (ih _ hr)
local macro_rules | `(tactic| walk_at "eval Name") => `(tactic| (first
  | ((with_reducible show wpAny _ _ (eval (Expr.Name (Str.ofString "in_table_b1") _) _) _ _ _); refine n_in_table_b1 (by first | assumption | exact TopIn.keeps (by assumption) (Fr.keep (by assumption))) ?_)
  | ((with_reducible show wpAny _ _ (eval (Expr.Name (Str.ofString "map_table_b3") _) _) _ _ _); refine n_map_table_b3 (by first | assumption | exact TopIn.keeps (by assumption) (Fr.keep (by assumption))) ?_)))
local macro_rules | `(tactic| walk_at "callWith ref") => `(tactic| (first | (refine cw1 (by decide) ?_) | (refine cw0 (by decide) (by first | assumption | exact TopIn.keeps (by assumption) (Fr.keep (by assumption))) ?_)))
local macro_rules | `(tactic| walk_at "And") => `(tactic| ((with_reducible show TopIn _ _ ∧ _); refine ⟨(by first | assumption | exact TopIn.keeps (by assumption) (Fr.keep (by assumption))), ?_⟩; (try dsimp only [List.nil_append])))

set_option maxHeartbeats 4000000 in
theorem law_prepared {w : World} {A : Around} {s : Shared} {Q : Value → Shared → Prop} {E : Value → Shared → Prop} {x : Str} {t : Tok} (T : TopIn w s.heap) (hA : AOk A 2) (hx : x.length ≤ 1000)
    (h : ∀ t' h' tk, (∀ b o, s.heap.get? b = some o → h'.get? b = some o) → Q (.str (prep x) t') { s with heap := h', toks := tk }) : wpAny (model P0 w) A (call (.ref 121) [.str x t]) Q E s := by
  refine enter (i := 13) (ca := 120) (nm := "_law_prepared") (m := m3) (binds := [("text", .str x t)]) T hA.room (by kernel_rfl) (o := codeO "_law_prepared" 2268 55 1 3 (.ref 117) (.ref 118) .none .none (.ref 119) true 2271) (by kernel_rfl) rfl (t := 2269) rfl (by kernel_rfl) (locs (by kernel_rfl)) (by kernel_rfl) (by decide +kernel) fun L h₁ F => ?_
  conv in (bodyOf 13) => whnf
  conv in (occs := *) (scopeOf 13) => all_goals whnf
  have N : News s.heap L h₁ [] := News.nil
  repeat' (first | ((fail_if_success (with_reducible show wpAny _ _ (eval (Expr.ListComp _ _ _ _) _) _ _ _)); (first | walk1 | (dsimp only; walk1))))
  refine comp okB (fun v y => ∀ c u, v = Value.str (S1 c) u → ∃ t, y = Value.str (b3 c) t) (by decide) (by decide) rfl (by decide) rfl ?_
  repeat' (first | ((fail_if_success (with_reducible show wpAny _ _ (pyIter _) _ _ _)); (first | walk1 | (dsimp only; walk1))))
  refine wpAny_pyIter_str fun o St hW hst => ?_
  refine ask_new rfl rfl (hW _ hA.1) (by rw [sizeLine_eq]; exact Nat.le_trans hx (by decide)) hst (by simp) (fun C i v s₃ m₃ E' hv hns hm hk => ?_) (fun C i v s₃ m₃ E' hv _ hns hm hk => ?_) (fun D h' tk ys vs hD hl hpl hlen hP hF hk => ?_)
  · obtain ⟨c, u, hc, rfl⟩ := hv
    have T3 : TopIn w s₃.heap := (T.keeps F.keep).keeps hk
    refine wpAny_tests_one ?_
    walk1
    walk1
    walk1
    refine n_in_table_b1 T3 ?_
    refine cw1 (by decide) ?_
    walk1
    refine lname hns hm ?_
    walk1
    refine ⟨T3, ?_⟩
    refine c_b1 T3 (AOk.less (AOk.deeper hA) (by decide)) fun h'' tk'' hk'' => ?_
    walk1
    exact ⟨rfl, _, _, rfl, hk''⟩
  · obtain ⟨c, u, hc, rfl⟩ := hv
    have T3 : TopIn w s₃.heap := (T.keeps F.keep).keeps hk
    walk1
    refine n_map_table_b3 T3 ?_
    refine cw1 (by decide) ?_
    walk1
    refine lname hns hm ?_
    walk1
    refine ⟨T3, ?_⟩
    refine c_b3 T3 (AOk.less (AOk.deeper hA) (by decide)) fun t'' h'' tk'' hk'' => ?_
    exact ⟨fun c' u' e => by cases e; exact ⟨_, rfl⟩, _, _, rfl, hk''⟩
  · have hI := strs_of_prep vs ys.toList 0 (fun j v hj => by rw [Nat.zero_add]; exact hP j v hj) (by rw [Nat.zero_add]; exact hlen) hF
    rw [List.drop_zero] at hI
    repeat' (first | ((fail_if_success (with_reducible show wpAny _ _ (call (Value.builtin _) _) _ _ _)); (first | walk1 | (dsimp only; walk1))))
    refine join_listW hl hI (by decide) ?_ (fun t' k => ?_)
    · have h1 := sum_le (f := (·.length)) (k := 4) (((x.cps.toList).filter fun (c : Nat) => !inB1 c).map b3) (fun y hy => by obtain ⟨c, _, rfl⟩ := List.mem_map.mp hy; exact b3_len c)
      have h2 : (((x.cps.toList).filter fun (c : Nat) => !inB1 c).map b3).length ≤ 1000 := by
        rw [List.length_map]
        exact Nat.le_trans (List.length_filter_le _ _) (by rw [Array.length_toList]; exact hx)
      omega
    · exact h _ _ _ (fun b o e => hk b o (F.keep b o e))
end Mine
end T_WkPrep

section T_WkCmtd
open PySem PySem.W PyProof.Rows PyProof.V PySem.Spec
set_option Elab.async false
namespace Mine
set_option maxRecDepth 100000
set_option linter.unusedVariables false

noncomputable def gone (b : Bool) (c : Nat) : Bool := blankL.any (· == (c : Int)) || (b && (fold c == Str.ofString ""))
noncomputable def cutR (b : Bool) (cs : List Nat) : List Nat := (cs.reverse.dropWhile (gone b)).reverse
noncomputable def cmtd (b : Bool) (cs : List Nat) : Str := if cutR b cs = [] then Str.ofString "#" else Str.ofString "# " ++ jn ((cutR b cs).map fold)
theorem cutR_snoc {b : Bool} {cs : List Nat} {c : Nat} : cutR b (cs ++ [c]) = if gone b c then cutR b cs else cs ++ [c] := by
  unfold cutR
  rw [List.reverse_append, List.reverse_singleton, List.singleton_append, List.dropWhile_cons]
  cases gone b c <;> simp
theorem news_one {h₀ h hB : Heap} {L D : Addr} {m : Str → Option Value} {o : Obj} (F : Fr h₀ L hB m) (hk : ∀ b o, hB.get? b = some o → h.get? b = some o) (hD : hB.get? D = none) (ho : h.get? D = some o) : News h₀ L h [(D, o)] := by
  intro p hp
  obtain rfl := List.mem_singleton.mp hp
  refine ⟨ho, fun e => ?_, ?_⟩
  · obtain ⟨oL, es, ep, hL, _⟩ := F.ns
    have e : D = L := e
    rw [e, hL] at hD; cases hD
  · cases e : h₀.get? D with
    | none => rfl
    | some o' => have := F.keep _ _ e; rw [hD] at this; cases this
theorem pair_get {h : Heap} : ∀ {vs : List Value} {cs : List Nat} {i : Nat}, PairsAre h vs cs → i < cs.length → ∃ a t1 t2 c, vs[i]? = some (.ref a) ∧ cs[i]? = some c ∧ IsTup h a #[.str (S1 c) t1, .str (fold c) t2]
  | _, _, 0, .cons ⟨a, t1, t2, e, hT⟩ _, _ => ⟨a, t1, t2, _, by rw [e]; rfl, rfl, hT⟩
  | _, _, i + 1, .cons _ r, h => by
    obtain ⟨a, t1, t2, c, h1, h2, h3⟩ := pair_get r (i := i) (by simpa using h)
    exact ⟨a, t1, t2, c, by simpa using h1, by simpa using h2, h3⟩
theorem jn_len {l : List Str} : (jn l).length = (l.map (·.length)).sum := by
  have := PySem.size_glued (Str.ofString "") l
  rw [show (Str.ofString "").length = 0 from rfl, Nat.mul_zero, Nat.add_zero] at this
  exact this
theorem IsPair.inj {h : Heap} {v : Value} {c c' : Nat} (x : IsPair h v c) (y : IsPair h v c') : c = c' := by
  obtain ⟨a, t1, t2, rfl, o, ho, _, n, hd⟩ := x
  obtain ⟨a', t1', t2', e, o', ho', _, n', hd'⟩ := y
  cases e
  rw [ho] at ho'; cases ho'
  rw [hd] at hd'
  injection hd' with e1 e2
  have := congrArg (fun a : Array Value => match a[0]? with | some (.str x _) => x.cps.getD 0 0 | _ => 0) e1
  simpa [S1] using this
theorem strs_of_pairs {h : Heap} : ∀ {vs : List Value} {cs : List Nat} {ys : List Value}, PairsAre h vs cs → Paired (fun v y => ∀ c, IsPair h v c → ∃ t, y = Value.str (fold c) t) vs ys → StrsAre ys (cs.map fold)
  | _, _, _, .nil, .nil => .nil
  | _, _, _, .cons hp rp, .cons hf rf => by
    obtain ⟨t, rfl⟩ := hf _ hp
    exact .cons _ _ (strs_of_pairs rp rf)
theorem fold_len (c : Nat) : (fold c).length ≤ 4 := by
  unfold fold
  split
  · exact Nat.zero_le _
  · exact b3_len c
local macro_rules | `(tactic| walk_at "eval Name") => `(tactic| (first
  | ((with_reducible show wpAny _ _ (eval (Expr.Name (Str.ofString "_law_blanks") _) _) _ _ _); refine n_law_blanks (by first | assumption | exact TopIn.keeps (by assumption) (Fr.keep (by assumption))) ?_)
  | ((with_reducible show wpAny _ _ (eval (Expr.Name (Str.ofString "len") _) _) _ _ _); refine n_len (by first | assumption | exact TopIn.keeps (by assumption) (Fr.keep (by assumption))) ?_)
  | ((with_reducible show wpAny _ _ (eval (Expr.Name (Str.ofString "ord") _) _) _ _ _); refine n_ord (by first | assumption | exact TopIn.keeps (by assumption) (Fr.keep (by assumption))) ?_)))
local macro_rules | `(tactic| walk_at "callWith ref") => `(tactic| (first | (refine cw1 (by decide) ?_) | (refine cw0 (by decide) (by first | assumption | exact TopIn.keeps (by assumption) (Fr.keep (by assumption))) ?_)))
local macro_rules | `(tactic| walk_at "And") => `(tactic| ((with_reducible show TopIn _ _ ∧ _); refine ⟨(by first | assumption | exact TopIn.keeps (by assumption) (Fr.keep (by assumption))), ?_⟩; (try dsimp only [List.nil_append])))

local macro_rules | `(tactic| walk_at "eval Name") => `(tactic| (refine ld (by with_reducible assumption) (by first | with_reducible assumption | rfl) ?_))
set_option maxHeartbeats 4000000 in
theorem law_commented {w : World} {A : Around} {s : Shared} {Q : Value → Shared → Prop} {E : Value → Shared → Prop} {pA : Addr} {vs : List Value} {cs : List Nat} {b : Bool} (T : TopIn w s.heap) (hA : AOk A 2) (hS : s.heap.IsList pA vs.toArray) (hPs : PairsAre s.heap vs cs) (hlen : cs.length ≤ 13)
    (h : ∀ t' h' tk, (∀ b o, s.heap.get? b = some o → h'.get? b = some o) → Q (.str (cmtd b cs) t') { s with heap := h', toks := tk }) : wpAny (model P0 w) A (call (.ref 126) [.ref pA, .bool b]) Q E s := by
  refine enter (i := 14) (ca := 125) (nm := "_law_commented") (m := m3) (binds := [("pairs", .ref pA), ("loose", .bool b)]) T hA.room (by kernel_rfl) (o := codeO "_law_commented" 2274 57 2 3 (.ref 122) (.ref 123) .none .none (.ref 124) true 2277) (by kernel_rfl) rfl (t := 2275) rfl (by kernel_rfl) (locs (by kernel_rfl)) (by kernel_rfl) (by decide +kernel) fun L h₁ F => ?_
  conv in (bodyOf 14) => whnf
  conv in (occs := *) (scopeOf 14) => all_goals whnf
  have N : News s.heap L h₁ [] := News.nil
  have hvl : vs.length = cs.length := hPs.length
  repeat' (first | ((fail_if_success (with_reducible show wpAny _ _ (call (Value.ref _) _) _ _ _)); (first | walk1 | (dsimp only; walk1))))
  refine c_blanks (TopIn.keeps T F.keep) (AOk.less (AOk.deeper hA) (by decide)) (fun D bs h' tk' hk' hD hl hI => ?_)
  obtain ⟨oB, hoB, hcB, nB, hdB⟩ := hl
  have F1 := Fr.ext F hk'
  have N1 := news_one F hk' hD hoB
  clear N
  repeat' (first | ((fail_if_success (with_reducible show wpAny _ _ (call (Value.builtin _) _) _ _ _)); (first | walk1 | (dsimp only; walk1))))
  rename Fr _ _ _ _ => F2
  refine len_list (hS.at fun o e => F2.keep _ _ e) (by rw [List.size_toArray, hvl]; omega) ?_
  repeat' (first | ((fail_if_success (with_reducible show wpAny _ _ (exec (Stmt.While _ _ _ _) _) _ _ _)); (first | walk1 | (dsimp only; walk1))))
  rename Fr _ _ _ _ => F3
  rename News _ _ _ _ => N3
  refine wpAny_mono (Q := fun f s' => f = .next ∧ ∃ h' tk t m' n, s' = { s with heap := h', toks := tk } ∧ Fr s.heap L h' m' ∧ m' (Str.ofString "count") = some (.int ((n : Nat) : Int) t) ∧ m' (Str.ofString "pairs") = some (.ref pA) ∧ n ≤ cs.length ∧ cutR b cs = cs.take n) (E := fun _ _ => False) ?_ (fun f s' hj => ?_) (fun _ _ x => x.elim)
  · refine wpAny_While (codeAny_whileLoop (fun n s' => ∃ h' tk t m', s' = { s with heap := h', toks := tk } ∧ Fr s.heap L h' m' ∧ News s.heap L h' [(D, oB)] ∧ m' (Str.ofString "count") = some (.int (n : Int) t) ∧ m' (Str.ofString "pairs") = some (.ref pA) ∧
      m' (Str.ofString "blanks") = some (.ref D) ∧ m' (Str.ofString "loose") = some (.bool b) ∧ n ≤ cs.length ∧ cutR b cs = cutR b (cs.take n)) ?_ cs.length ⟨_, _, _, _, rfl, F3, N3, by rw [← hvl]; rfl, rfl, rfl, rfl, Nat.le_refl _, by rw [List.take_length]⟩)
    rintro n s' ⟨h4, tk4, t4, m4, rfl, F4, N4, mc, mp, mb, ml, hn, hcut⟩
    have hblank : h4.IsList D bs.toArray := ⟨oB, (N4 _ (.head _)).1, hcB, nB, hdB⟩
    have hS4 : h4.IsList pA vs.toArray := hS.at fun o e => F4.keep _ _ e
    repeat' (first | ((fail_if_success (with_reducible show wpAny _ _ (subscriptTail _ _ _ _) _ _ _)); (first | walk1 | (dsimp only; walk1))))
    · rename_i hp
      obtain ⟨a, t1, t2, c, hv, hc, hT⟩ := pair_get hPs (i := n - 1) (by omega)
      have hT4 : IsTup h4 a [.str (S1 c) t1, .str (fold c) t2].toArray := hT.keeps F4.keep
      have htk : cs.take n = cs.take (n - 1) ++ [c] := by
        obtain ⟨hlt, e⟩ := List.getElem?_eq_some_iff.mp hc
        rw [← e, ← List.take_succ_eq_append_getElem hlt, show n - 1 + 1 = n by omega]
      have hst : cutR b cs = if gone b c then cutR b (cs.take (n - 1)) else cs.take n := by rw [hcut, htk, cutR_snoc]
      refine item_any hS4 (by omega) (by omega) (by rw [show (↑n - 1 : Int).toNat = n - 1 by omega]; exact hv) ?_
      repeat' (first | ((fail_if_success (with_reducible show wpAny _ _ (subscriptTail _ _ _ _) _ _ _)); (first | walk1 | (dsimp only; walk1))))
      refine item_tupleT hT4 (by omega) (by omega) (by rfl) (by rfl) ?_
      repeat' (first | ((fail_if_success (with_reducible show wpAny _ _ (compareOp _ _ _) _ _ _)); (first | walk1 | (dsimp only; walk1))))
      refine in_list_ints hblank hI ?_
      have e1 : ((n - 1 : Nat) : Int) = (n : Int) - 1 := by omega
      cases hbl : blankL.any (· == (c : Int)) <;> cases b
      all_goals repeat' (first | ((fail_if_success (with_reducible show wpAny _ _ (subscriptTail _ _ _ _) _ _ _)); (fail_if_success (with_reducible show _ ∧ _)); (fail_if_success (with_reducible show Exists _)); (first | walk1 | (dsimp only; walk1))))
      · exact ⟨rfl, _, _, _, _, n, rfl, F4, mc, mp, hn, by rw [hst, if_neg (by simp [gone, hbl])]⟩
      · refine item_any hS4 (by omega) (by omega) (by rw [show (↑n - 1 : Int).toNat = n - 1 by omega]; exact hv) ?_
        repeat' (first | ((fail_if_success (with_reducible show wpAny _ _ (subscriptTail _ _ _ _) _ _ _)); (first | walk1 | (dsimp only; walk1))))
        refine item_tupleT hT4 (by omega) (by omega) (by rfl) (by rfl) ?_
        repeat' (first | ((fail_if_success (with_reducible show wpAny _ _ (compareOp _ _ _) _ _ _)); (first | walk1 | (dsimp only; walk1))))
        walk1
        cases hf : (fold c == Str.ofString "")
        all_goals repeat' (first | ((fail_if_success (with_reducible show _ ∧ _)); (fail_if_success (with_reducible show Exists _)); (first | walk1 | (dsimp only; walk1))))
        · exact ⟨rfl, _, _, _, _, n, rfl, F4, mc, mp, hn, by rw [hst, if_neg (by simp [gone, hbl, hf])]⟩
        · rename Fr _ _ _ _ => F6
          rename News _ _ _ _ => N6
          exact ⟨n - 1, by omega, _, _, _, _, rfl, F6, N6, by rw [e1]; rfl, (if_neg (by decide)).trans mp, (if_neg (by decide)).trans mb, (if_neg (by decide)).trans ml, by omega, by rw [hst, if_pos (by simp [gone, hbl, hf])]⟩
      · rename Fr _ _ _ _ => F6
        rename News _ _ _ _ => N6
        exact ⟨n - 1, by omega, _, _, _, _, rfl, F6, N6, by rw [e1]; rfl, (if_neg (by decide)).trans mp, (if_neg (by decide)).trans mb, (if_neg (by decide)).trans ml, by omega, by rw [hst, if_pos (by simp [gone, hbl])]⟩
      · rename Fr _ _ _ _ => F6
        rename News _ _ _ _ => N6
        exact ⟨n - 1, by omega, _, _, _, _, rfl, F6, N6, by rw [e1]; rfl, (if_neg (by decide)).trans mp, (if_neg (by decide)).trans mb, (if_neg (by decide)).trans ml, by omega, by rw [hst, if_pos (by simp [gone, hbl])]⟩
    · exact F4
    · exact hn
    · have : n = 0 := by omega
      rw [hcut, this]; rfl
  · obtain ⟨rfl, h5, tk5, t5, m5, n, rfl, F5, mc, mp, hn, hcut⟩ := hj
    have N5 : News s.heap L h5 [] := News.nil
    have hS5 : h5.IsList pA vs.toArray := hS.at fun o e => F5.keep _ _ e
    clear F F1 F2 F3 N1 N3
    repeat' (first | ((fail_if_success (with_reducible show wpAny _ _ (eval (Expr.ListComp _ _ _ _) _) _ _ _)); (first | walk1 | (dsimp only; walk1))))
    · rename_i hz
      have e0 : n = 0 := by omega
      have e : cmtd b cs = Str.ofString "#" := by unfold cmtd; rw [hcut, e0, List.take_zero, if_pos rfl]
      have hq : ∀ t' tk, Q (.str (cmtd b cs) t') { s with heap := h5, toks := tk } := fun t' tk => h t' h5 tk F5.keep
      rw [e] at hq
      exact hq _ _
    · rename_i hz
      refine comp (fun _ => true) (fun v y => ∀ c, IsPair s.heap v c → ∃ t, y = Value.str (fold c) t) (by decide) (by decide) rfl (by decide) rfl ?_
      repeat' (first | ((fail_if_success (with_reducible show wpAny _ _ (pyIter _) _ _ _)); (first | walk1 | (dsimp only; walk1))))
      rename Fr _ _ _ _ => F6
      rename News _ _ _ _ => N6
      have hLs := News.isList N6 (.head _)
      rw [slicePick_upto' vs.toArray n] at hLs
      have hPt : PairsAre s.heap (vs.take n) (cs.take n) := paired_take n hPs
      have hlt := (let ⟨_, e, _⟩ := hLs; Heap.lt_size e)
      refine wpAny_pyIter_list hLs ?_
      refine ask_new rfl rfl (Walks.list (A := A.deeper _) hA.1 _ _ (Nat.ne_of_lt hlt) (vs.toArray.toList.take n).toArray) ?_ ⟨⟨_, Heap.get?_push_size _ rfl, rfl, rfl⟩, hLs.push _⟩ ?_ (fun C i v s₃ m₃ E' hv hns hm hk => wpAny_tests_nil ⟨rfl, _, _, rfl, fun _ _ e => e⟩) (fun C i v s₃ m₃ E' hv _ hns hm hk => ?_) (fun D h' tk ys vs' hD hl hpl hlen' hP hF hk => ?_)
      · simp only [List.size_toArray, List.length_take]
        rw [sizeLine_eq]
        omega
      · simp
        exact Nat.le_of_lt hlt
      · have hv' : (vs.take n)[i]? = some v := by simpa using hv
        obtain ⟨hi, _⟩ := List.getElem?_eq_some_iff.mp hv'
        obtain ⟨a, t1, t2, c, e1, e2, hT⟩ := pair_get hPt (i := i) (by have := hPt.length; omega)
        rw [hv'] at e1; cases e1
        have hT3 : IsTup s₃.heap a [.str (S1 c) t1, .str (fold c) t2].toArray := (hT.keeps F6.keep).keeps hk
        walk1
        refine lname hns hm ?_
        repeat' (first | ((fail_if_success (with_reducible show wpAny _ _ (subscriptTail _ _ _ _) _ _ _)); (first | walk1 | (dsimp only; walk1))))
        refine item_tupleT hT3 (by omega) (by omega) (by rfl) (by rfl) ?_
        exact ⟨fun c' hc' => ⟨t2, by have e := IsPair.inj hc' ⟨_, _, _, rfl, hT⟩; rw [e]⟩, _, _, rfl, fun _ _ e => e⟩
      · rw [List.filter_eq_self.mpr (fun _ _ => rfl)] at hF
        have ev : vs' = vs.take n := List.ext_getElem? fun j => by
          cases e : vs'[j]? with
          | none =>
            have := List.getElem?_eq_none_iff.mp e
            rw [hlen'] at this
            exact (List.getElem?_eq_none_iff.mpr (by simpa using this)).symm
          | some v => have := hP j v e; simpa using this.symm
        rw [ev] at hF
        have hI := strs_of_pairs hPt hF
        repeat' (first | ((fail_if_success (with_reducible show wpAny _ _ (call (Value.builtin _) _) _ _ _)); (first | walk1 | (dsimp only; walk1))))
        have hjl : ((cs.take n).map fold |>.map (·.length)).sum ≤ 52 := by
          have h1 := sum_le (f := (·.length)) (k := 4) ((cs.take n).map fold) (fun y hy => by obtain ⟨c, _, rfl⟩ := List.mem_map.mp hy; exact fold_len c)
          have h2 : ((cs.take n).map fold).length ≤ 13 := by
            rw [List.length_map, List.length_take]; omega
          omega
        have hjn : ((cs.take n).map fold).length ≤ 13 := by rw [List.length_map, List.length_take]; omega
        refine join_listW hl hI (by decide) (by omega) (fun t' k => ?_)
        · have hne : ¬ cutR b cs = [] := by
            rw [hcut]
            intro e
            have := congrArg List.length e
            rw [List.length_take, List.length_nil] at this
            omega
          have e : cmtd b cs = Str.ofString "# " ++ jn ((cs.take n).map fold) := by unfold cmtd; rw [if_neg hne, hcut]
          have hq : ∀ t' h' tk, (∀ b o, s.heap.get? b = some o → h'.get? b = some o) → Q (.str (cmtd b cs) t') { s with heap := h', toks := tk } := h
          rw [e] at hq
          refine add_str (fun t'' tk'' => hq _ _ _ fun b o e => hk b o (F6.keep b o e)) ?_
          have := jn_len (l := (cs.take n).map fold)
          show (Str.ofString "# ").length + (jn ((cs.take n).map fold)).length ≤ _
          rw [this, sizeLine_eq, show (Str.ofString "# ").length = 2 from rfl]
          omega
end Mine
end T_WkCmtd

section T_WkLaw0
open PySem PySem.W PyProof.Rows PyProof.V PySem.Spec
set_option Elab.async false
namespace Mine
set_option maxRecDepth 100000
set_option linter.unusedVariables false

section
variable {w : World} {A : Around} {s : Shared} {Q : Value → Shared → Prop} {E : Value → Shared → Prop}
/-- a comprehension whose result is a list of texts, over an iterator that is new -/
theorem comp_new {elt : Expr} {x : Str} {scope : Scope} {env : Env} {cl : List (Str × Addr)} {n : Nat} {h : Heap} {o : Obj} {fp : List Addr} {P : Nat → Value → Prop} {St : Nat → Heap → Prop} (F : Value → Value → Prop)
    {s₂ : Shared} (e₂ : s₂.heap = h.push o) (W : Walks P0 w A h.objs.size fp [h.objs.size] n P St) (hn : n ≤ sizeLine) (hst : St 0 s₂.heap) (hfp : ∀ b ∈ fp, b ≤ h.objs.size)
    (helt : ∀ C i v s₃ m₃ E', P i v → s₃.heap.Ns C m₃ → m₃ x = some v → (∀ b o, h.get? b = some o → s₃.heap.get? b = some o) → wpAny (model P0 w) A (eval elt (compEnvC scope cl C env)) (fun y s₄ => F v y ∧ Keeps s₃ s₄) E' s₃)
    (hQ : ∀ D h' tk ys (vs : List Value), h.get? D = none → h'.IsList D ys → vs.length = n → (∀ j v, vs[j]? = some v → P j v) → Paired F vs ys.toList →
      (∀ b o, h.get? b = some o → h'.get? b = some o) → Q (.ref D) { s₂ with heap := h', toks := tk }) :
    ∃ I fp wr n P St, (Value.ref h.objs.size) = .ref I ∧ Walks P0 w A I fp wr n P St ∧ n ≤ sizeLine ∧ St 0 s₂.heap ∧ (∀ b ∈ fp, b < s₂.heap.objs.size) ∧
      QuietOnC P0 w A env scope cl x [] elt wr P (fun _ => true) F s₂ ∧
      (∀ D h' tk ys (vs : List Value), s₂.heap.get? D = none → h'.IsList D ys → h'.PlainList D ys → vs.length = n → (∀ j v, vs[j]? = some v → P j v) → Paired F (vs.filter fun _ => true) ys.toList →
        (∀ b o, b ∉ wr → s₂.heap.get? b = some o → h'.get? b = some o) → Q (.ref D) { s₂ with heap := h', toks := tk }) := by
  have up : ∀ {h' : Heap}, (∀ b o', b ∉ [h.objs.size] → s₂.heap.get? b = some o' → h'.get? b = some o') → ∀ b o', h.get? b = some o' → h'.get? b = some o' := fun k b o' e =>
    k b o' (by simp; exact Nat.ne_of_lt (Heap.lt_size e)) (by rw [e₂]; exact Heap.get?_push_of_some _ e)
  refine ⟨_, fp, _, n, P, St, rfl, W, hn, hst, fun b hb => ?_, ⟨fun C i v s₃ m₃ E' _ hv hns hm hk _ => wpAny_tests_nil ⟨rfl, _, _, rfl, fun _ _ e => e⟩, fun C i v s₃ m₃ E' _ hv hpv hns hm hk _ => helt C i v s₃ m₃ E' hv hns hm (up hk)⟩, fun D h' tk ys vs hD hl hpl hlen hP hF hk => ?_⟩
  · rw [e₂, Heap.size_push]; exact Nat.lt_succ_of_le (hfp b hb)
  · rw [List.filter_eq_self.mpr (fun _ _ => rfl)] at hF
    refine hQ D h' tk ys vs ?_ hl hlen hP hF (up hk)
    cases e : h.get? D with
    | none => rfl
    | some o' => rw [e₂, Heap.get?_push_of_some _ e] at hD; cases hD
theorem strs_get {vs : List Value} {xs : List Str} (h : StrsAre vs xs) : ∀ {j : Nat} {v : Value}, vs[j]? = some v → ∃ x t, xs[j]? = some x ∧ v = .str x t := by
  induction h with
  | nil => intro j v e; simp at e
  | cons x t r ih =>
    intro j v e
    cases j with
    | zero => exact ⟨x, t, rfl, by simpa using e.symm⟩
    | succ j => simpa using ih (by simpa using e)
theorem strs_map {f : Str → Str} : ∀ {vs ys : List Value} {xs : List Str}, StrsAre vs xs → Paired (fun v y => ∀ x t, v = Value.str x t → ∃ t', y = Value.str (f x) t') vs ys → StrsAre ys (xs.map f)
  | _, _, _, .nil, .nil => .nil
  | _, _, _, .cons x t r, .cons hy hr => by
    obtain ⟨t', rfl⟩ := hy x t rfl
    exact .cons _ _ (strs_map r hr)
theorem strs_ints {f : Nat → Str} : ∀ (ys vs : List Value) (k : Nat), (∀ j v, vs[j]? = some v → ∃ t, v = Value.int (0 + ((k + j : Nat) : Int) * 1) t) → Paired (fun v y => ∀ n t, v = Value.int n t → ∃ t', y = Value.str (f n.toNat) t') vs ys →
    StrsAre ys ((List.range' k vs.length).map f)
  | [], [], k, _, _ => .nil
  | y :: ys, v :: vs, k, hP, .cons hy hr => by
    obtain ⟨t, rfl⟩ := hP 0 v rfl
    obtain ⟨t', rfl⟩ := hy _ _ rfl
    rw [List.length_cons, List.range'_succ, List.map_cons]
    have := strs_ints ys vs (k + 1) (fun j v hj => by obtain ⟨t, e⟩ := hP (j + 1) v (by simpa using hj); exact ⟨t, by rw [e, show k + (j + 1) = k + 1 + j by omega]⟩) hr
    have e : (0 + ((k + 0 : Nat) : Int) * 1).toNat = k := by omega
    rw [e]
    exact .cons _ _ this
/-- the texts of a list, each through f -/
theorem comp_strs {elt iter : Expr} {x : Str} {px : Pos} {scope : Scope} {pos : Pos} {env : Env} (f : Str → Str) {l : Addr} {its : List Value} {xs : List Str} (hh : A.handled = none)
    (hfree : ∀ y ∈ scope.names, y.2 ≠ .free) (hcell : ∀ y ∈ scope.names, y.2 ≠ .cell) (hkind : scope.kind = .function)
    (hnames : ∀ y ∈ scope.names, y.2 = .local → scope.names.lookup y.1 = some .local) (hx : scope.names.lookup x = some .local)
    (hl : s.heap.IsList l its.toArray) (hI : StrsAre its xs) (hsz : its.length ≤ 1000)
    (hiter : ∀ {Q : Value → Shared → Prop}, Q (.ref l) s → wpAny (model P0 w) A (eval iter env) Q E s)
    (helt : ∀ C y t s₃ m₃ E', y ∈ xs → s₃.heap.Ns C m₃ → m₃ x = some (.str y t) → (∀ b o, s.heap.get? b = some o → s₃.heap.get? b = some o) → wpAny (model P0 w) A (eval elt (compEnvC scope [] C env)) (fun z s₄ => (∃ t', z = .str (f y) t') ∧ Keeps s₃ s₄) E' s₃)
    (h : ∀ D h' tk ys, s.heap.get? D = none → h'.IsList D ys.toArray → StrsAre ys (xs.map f) → (∀ b o, s.heap.get? b = some o → h'.get? b = some o) → Q (.ref D) { s with heap := h', toks := tk })
    (hs : ∀ x, foldedSetIterable iter env x = pure x := by intro _; rfl) :
    wpAny (model P0 w) A (eval (.ListComp elt [⟨.Name x px, iter, [], 0⟩] scope pos) env) Q E s := by
  refine wpAny_ListComp_free (fun _ => true) (fun v y => ∀ x t, v = Value.str x t → ∃ t', y = Value.str (f x) t') (closureFor_none hfree) hcell hkind hnames hx (hiter ?_) hs
  have hlt : l < s.heap.objs.size := (let ⟨_, e, _⟩ := hl; Heap.lt_size e)
  refine wpAny_pyIter_list hl ?_
  refine comp_new _ rfl (Walks.list hh _ _ (Nat.ne_of_lt hlt) its.toArray) (by rw [List.size_toArray, sizeLine_eq]; omega) ⟨⟨_, Heap.get?_push_size _ rfl, rfl, rfl⟩, hl.push _⟩ (by simp; exact Nat.le_of_lt hlt) (fun C i v s₃ m₃ E' hv hns hm hk => ?_) (fun D h' tk ys vs hD hl' hlen hP hF hk => ?_)
  · have hv' : its[i]? = some v := by simpa using hv
    obtain ⟨y, t, e, rfl⟩ := strs_get hI hv'
    refine wpAny_mono (helt C y t s₃ m₃ E' (List.mem_of_getElem? e) hns hm hk) (fun z s₄ hz => ?_) (fun _ _ e => e)
    obtain ⟨⟨t', rfl⟩, k⟩ := hz
    exact ⟨fun y' t'' e => by cases e; exact ⟨_, rfl⟩, k⟩
  · have ev : vs = its := List.ext_getElem? fun j => by
      cases e : vs[j]? with
      | none =>
        have := List.getElem?_eq_none_iff.mp e
        rw [hlen] at this
        exact (List.getElem?_eq_none_iff.mpr (by simpa using this)).symm
      | some v => have := hP j v e; simpa using this.symm
    rw [ev] at hF
    exact h D h' tk ys.toList hD (by simpa using hl') (strs_map hI hF) hk
/-- a text for each number below n -/
theorem comp_range {elt iter : Expr} {x : Str} {px : Pos} {scope : Scope} {pos : Pos} {env : Env} {cl : List (Str × Addr)} (f : Nat → Str) {r : Addr} {n : Nat} {t u v : Tok} (hh : A.handled = none)
    (hclos : closureFor scope env = pure cl) (hcell : ∀ y ∈ scope.names, y.2 ≠ .cell) (hkind : scope.kind = .function)
    (hnames : ∀ y ∈ scope.names, y.2 = .local → scope.names.lookup y.1 = some .local) (hx : scope.names.lookup x = some .local)
    (hr : IsRange s.heap r 0 n 1 t u v) (hsz : n < 1000)
    (hiter : ∀ {Q : Value → Shared → Prop}, Q (.ref r) s → wpAny (model P0 w) A (eval iter env) Q E s)
    (helt : ∀ C i t s₃ m₃ E', i < n → s₃.heap.Ns C m₃ → m₃ x = some (.int ((i : Nat) : Int) t) → (∀ b o, s.heap.get? b = some o → s₃.heap.get? b = some o) → wpAny (model P0 w) A (eval elt (compEnvC scope cl C env)) (fun z s₄ => (∃ t', z = .str (f i) t') ∧ Keeps s₃ s₄) E' s₃)
    (h : ∀ D h' tk ys, s.heap.get? D = none → h'.IsList D ys.toArray → StrsAre ys ((List.range n).map f) → (∀ b o, s.heap.get? b = some o → h'.get? b = some o) → Q (.ref D) { s with heap := h', toks := tk })
    (hs : ∀ x, foldedSetIterable iter env x = pure x := by intro _; rfl) :
    wpAny (model P0 w) A (eval (.ListComp elt [⟨.Name x px, iter, [], 0⟩] scope pos) env) Q E s := by
  refine wpAny_ListComp_free (fun _ => true) (fun v y => ∀ n t, v = Value.int n t → ∃ t', y = Value.str (f n.toNat) t') hclos hcell hkind hnames hx (hiter ?_) hs
  refine iter_range hh hr hsz ?_
  rintro I h' rfl rfl W hst
  have hW : Walks P0 w A s.heap.objs.size [s.heap.objs.size] [s.heap.objs.size] n (fun i v => i < n ∧ ∃ t, v = .int (0 + i * 1) t) (fun i h => IsRangeIter h s.heap.objs.size (0 + (i : Nat) * 1) ((n : Int) - (i : Nat)) 1) := ⟨W.sub, W.frame, fun i s Q E hi st hQ => W.item i s Q E hi st fun v h' tk hv => hQ v h' tk ⟨hi, hv⟩, W.done, W.self⟩
  refine comp_new _ rfl hW (by rw [sizeLine_eq]; omega) hst (by simp) (fun C i v s₃ m₃ E' hv hns hm hk => ?_) (fun D h' tk ys vs hD hl' hlen hP hF hk => ?_)
  · obtain ⟨hi, t, rfl⟩ := hv
    rw [show (0 + (i : Int) * 1) = (i : Int) by omega] at hm ⊢
    refine wpAny_mono (helt C i t s₃ m₃ E' hi hns hm hk) (fun z s₄ hz => ?_) (fun _ _ e => e)
    obtain ⟨⟨t', rfl⟩, k⟩ := hz
    exact ⟨fun y' t'' e => by cases e; exact ⟨_, rfl⟩, k⟩
  · have hI := strs_ints ys.toList vs 0 (fun j v hj => by rw [Nat.zero_add]; exact (hP j v hj).2) hF
    rw [hlen, ← List.range_eq_range'] at hI
    exact h D h' tk ys.toList hD (by simpa using hl') hI hk
theorem eq_strs {a b : Addr} {vs us : List Value} {xs ys : List Str} (ha : s.heap.IsList a vs.toArray) (hb : s.heap.IsList b us.toArray) (hx : StrsAre vs xs) (hy : StrsAre us ys) (e : xs = ys) (hu : A.units < cLine)
    (h : Q (.bool true) s) : wpAny (model P0 w) A (compareOp .Eq (.ref a) (.ref b)) Q E s := by
  subst e
  have hl : vs.length = us.length := hx.length.trans hy.length.symm
  refine SeqAt.eq_listAt (e := fun _ => true) ha hb (by simpa using hl) hu (fun j h1 h2 => ?_) (by rw [show (List.range vs.toArray.size).all (fun _ => true) = true from List.all_eq_true.mpr fun _ _ => rfl]; exact h)
  simp only [List.size_toArray] at h1 h2
  obtain ⟨p, t, e1, e2⟩ := strs_get hx (List.getElem?_eq_getElem h1)
  obtain ⟨q, u, e3, e4⟩ := strs_get hy (List.getElem?_eq_getElem h2)
  rw [e1] at e3; cases e3
  rw [List.getElem_toArray, List.getElem_toArray, e2, e4]
  have := SeqAt.EqAt.str_str (A := A.in1) (s := s) p t p u
  simpa using this
end
end Mine
end T_WkLaw0

section T_WkLaw1
open PySem PySem.W PyProof.Rows PyProof.V PySem.Spec
set_option Elab.async false
namespace Mine
set_option maxRecDepth 100000
set_option linter.unusedVariables false

section
variable {w : World} {A : Around} {s : Shared} {Q : Flow → Shared → Prop} {E : Value → Shared → Prop}
/-- the same, where the list is bound to a name at once -/
theorem comp_newA {elt : Expr} {x y : Str} {scope : Scope} {env : Env} {cl : List (Str × Addr)} {n : Nat} {h : Heap} {o : Obj} {fp : List Addr} {P : Nat → Value → Prop} {St : Nat → Heap → Prop} {m : Str → Option Value} (F : Value → Value → Prop)
    {s₂ : Shared} (e₂ : s₂.heap = h.push o) (W : Walks P0 w A h.objs.size fp [h.objs.size] n P St) (hn : n ≤ sizeLine) (hst : St 0 s₂.heap) (hfp : ∀ b ∈ fp, b ≤ h.objs.size) (hns : h.Ns env.locals m)
    (helt : ∀ C i v s₃ m₃ E', P i v → s₃.heap.Ns C m₃ → m₃ x = some v → (∀ b o, h.get? b = some o → s₃.heap.get? b = some o) → wpAny (model P0 w) A (eval elt (compEnvC scope cl C env)) (fun y s₄ => F v y ∧ Keeps s₃ s₄) E' s₃)
    (hQ : ∀ D h' tk ys (vs : List Value), h.get? D = none → h'.IsList D ys → vs.length = n → (∀ j v, vs[j]? = some v → P j v) → Paired F vs ys.toList →
      h'.Ns env.locals (fun z => if z = y then some (.ref D) else m z) → (∀ b o, b ≠ env.locals → h.get? b = some o → h'.get? b = some o) → Q .next { s₂ with heap := h', toks := tk }) :
    ∃ I fp wr n P St m, (Value.ref h.objs.size) = .ref I ∧ Walks P0 w A I fp wr n P St ∧ n ≤ sizeLine ∧ St 0 s₂.heap ∧ (∀ b ∈ fp, b < s₂.heap.objs.size) ∧ env.locals ∉ wr ∧ s₂.heap.Ns env.locals m ∧
      QuietOnC P0 w A env scope cl x [] elt wr P (fun _ => true) F s₂ ∧
      (∀ D h' tk ys (vs : List Value), s₂.heap.get? D = none → h'.IsList D ys → h'.PlainList D ys → vs.length = n → (∀ j v, vs[j]? = some v → P j v) → Paired F (vs.filter fun _ => true) ys.toList →
        h'.Ns env.locals (fun z => if z = y then some (.ref D) else m z) → (∀ b o, b ≠ env.locals → b ∉ wr → s₂.heap.get? b = some o → h'.get? b = some o) → Q .next { s₂ with heap := h', toks := tk }) := by
  have up : ∀ {h' : Heap}, (∀ b o', b ∉ [h.objs.size] → s₂.heap.get? b = some o' → h'.get? b = some o') → ∀ b o', h.get? b = some o' → h'.get? b = some o' := fun k b o' e =>
    k b o' (by simp; exact Nat.ne_of_lt (Heap.lt_size e)) (by rw [e₂]; exact Heap.get?_push_of_some _ e)
  have hlt : env.locals < h.objs.size := by obtain ⟨_, _, _, e, _⟩ := hns; exact Heap.lt_size e
  refine ⟨_, fp, _, n, P, St, m, rfl, W, hn, hst, fun b hb => ?_, by simp; exact Nat.ne_of_lt hlt, by rw [e₂]; exact hns.keeps fun b o' e => Heap.get?_push_of_some _ e, ⟨fun C i v s₃ m₃ E' _ hv hns hm hk _ => wpAny_tests_nil ⟨rfl, _, _, rfl, fun _ _ e => e⟩, fun C i v s₃ m₃ E' _ hv hpv hns hm hk _ => helt C i v s₃ m₃ E' hv hns hm (up hk)⟩, fun D h' tk ys vs hD hl hpl hlen hP hF hns' hk => ?_⟩
  · rw [e₂, Heap.size_push]; exact Nat.lt_succ_of_le (hfp b hb)
  · rw [List.filter_eq_self.mpr (fun _ _ => rfl)] at hF
    refine hQ D h' tk ys vs ?_ hl hlen hP hF hns' fun b o' hb e => hk b o' hb (by simp; exact Nat.ne_of_lt (Heap.lt_size e)) (by rw [e₂]; exact Heap.get?_push_of_some _ e)
    cases e : h.get? D with
    | none => rfl
    | some o' => rw [e₂, Heap.get?_push_of_some _ e] at hD; cases hD
theorem asg_strs {elt iter : Expr} {x y : Str} {px py : Pos} {scope : Scope} {pos spos : Pos} {env : Env} {m : Str → Option Value} (f : Str → Str) {l : Addr} {its : List Value} {xs : List Str} (hh : A.handled = none)
    (hsw : swapsWith (.ListComp elt [⟨.Name x px, iter, [], 0⟩] scope pos) (some (.Name y py)) spos.line env = pure true)
    (hfree : ∀ y ∈ scope.names, y.2 ≠ .free) (hcell : ∀ y ∈ scope.names, y.2 ≠ .cell) (hkind : scope.kind = .function)
    (hnames : ∀ y ∈ scope.names, y.2 = .local → scope.names.lookup y.1 = some .local) (hx : scope.names.lookup x = some .local) (hy : env.kindOf y = some .local) (hp : (env.scope.kind == .class || (env.scope.kind == .module && env.locals != env.globals)) = false)
    (hns : s.heap.Ns env.locals m)
    (hl : s.heap.IsList l its.toArray) (hI : StrsAre its xs) (hsz : its.length ≤ 1000)
    (hiter : ∀ {Q : Value → Shared → Prop}, Q (.ref l) s → wpAny (model P0 w) A (eval iter env) Q E s)
    (helt : ∀ C y t s₃ m₃ E', y ∈ xs → s₃.heap.Ns C m₃ → m₃ x = some (.str y t) → (∀ b o, s.heap.get? b = some o → s₃.heap.get? b = some o) → wpAny (model P0 w) A (eval elt (compEnvC scope [] C env)) (fun z s₄ => (∃ t', z = .str (f y) t') ∧ Keeps s₃ s₄) E' s₃)
    (h : ∀ D h' tk ys, s.heap.get? D = none → h'.IsList D ys.toArray → StrsAre ys (xs.map f) → h'.Ns env.locals (fun z => if z = y then some (.ref D) else m z) → (∀ b o, b ≠ env.locals → s.heap.get? b = some o → h'.get? b = some o) → Q .next { s with heap := h', toks := tk })
    (hs : ∀ x, foldedSetIterable iter env x = pure x := by intro _; rfl) :
    wpAny (model P0 w) A (exec (.Assign [.Name y py] (.ListComp elt [⟨.Name x px, iter, [], 0⟩] scope pos) spos) env) Q E s := by
  refine wpAny_Assign_ListComp_free (fun _ => true) (fun v y => ∀ x t, v = Value.str x t → ∃ t', y = Value.str (f x) t') hsw (closureFor_none hfree) hcell hkind hnames hx hy hp (hiter ?_) hs
  have hlt : l < s.heap.objs.size := (let ⟨_, e, _⟩ := hl; Heap.lt_size e)
  refine wpAny_pyIter_list hl ?_
  refine comp_newA _ rfl (Walks.list hh _ _ (Nat.ne_of_lt hlt) its.toArray) (by rw [List.size_toArray, sizeLine_eq]; omega) ⟨⟨_, Heap.get?_push_size _ rfl, rfl, rfl⟩, hl.push _⟩ (by simp; exact Nat.le_of_lt hlt) hns (fun C i v s₃ m₃ E' hv hns hm hk => ?_) (fun D h' tk ys vs hD hl' hlen hP hF hns' hk => ?_)
  · have hv' : its[i]? = some v := by simpa using hv
    obtain ⟨y, t, e, rfl⟩ := strs_get hI hv'
    refine wpAny_mono (helt C y t s₃ m₃ E' (List.mem_of_getElem? e) hns hm hk) (fun z s₄ hz => ?_) (fun _ _ e => e)
    obtain ⟨⟨t', rfl⟩, k⟩ := hz
    exact ⟨fun y' t'' e => by cases e; exact ⟨_, rfl⟩, k⟩
  · have ev : vs = its := List.ext_getElem? fun j => by
      cases e : vs[j]? with
      | none =>
        have := List.getElem?_eq_none_iff.mp e
        rw [hlen] at this
        exact (List.getElem?_eq_none_iff.mpr (by simpa using this)).symm
      | some v => have := hP j v e; simpa using this.symm
    rw [ev] at hF
    exact h D h' tk ys.toList hD (by simpa using hl') (strs_map hI hF) hns' hk
theorem asg_range {elt iter : Expr} {x y : Str} {px py : Pos} {scope : Scope} {pos spos : Pos} {env : Env} {cl : List (Str × Addr)} {m : Str → Option Value} (f : Nat → Str) {r : Addr} {n : Nat} {t u v : Tok} (hh : A.handled = none)
    (hsw : swapsWith (.ListComp elt [⟨.Name x px, iter, [], 0⟩] scope pos) (some (.Name y py)) spos.line env = pure true)
    (hclos : closureFor scope env = pure cl) (hcell : ∀ y ∈ scope.names, y.2 ≠ .cell) (hkind : scope.kind = .function)
    (hnames : ∀ y ∈ scope.names, y.2 = .local → scope.names.lookup y.1 = some .local) (hx : scope.names.lookup x = some .local) (hy : env.kindOf y = some .local) (hp : (env.scope.kind == .class || (env.scope.kind == .module && env.locals != env.globals)) = false)
    (hns : s.heap.Ns env.locals m)
    (hr : IsRange s.heap r 0 n 1 t u v) (hsz : n < 1000)
    (hiter : ∀ {Q : Value → Shared → Prop}, Q (.ref r) s → wpAny (model P0 w) A (eval iter env) Q E s)
    (helt : ∀ C i t s₃ m₃ E', i < n → s₃.heap.Ns C m₃ → m₃ x = some (.int ((i : Nat) : Int) t) → (∀ b o, s.heap.get? b = some o → s₃.heap.get? b = some o) → wpAny (model P0 w) A (eval elt (compEnvC scope cl C env)) (fun z s₄ => (∃ t', z = .str (f i) t') ∧ Keeps s₃ s₄) E' s₃)
    (h : ∀ D h' tk ys, s.heap.get? D = none → h'.IsList D ys.toArray → StrsAre ys ((List.range n).map f) → h'.Ns env.locals (fun z => if z = y then some (.ref D) else m z) → (∀ b o, b ≠ env.locals → s.heap.get? b = some o → h'.get? b = some o) → Q .next { s with heap := h', toks := tk })
    (hs : ∀ x, foldedSetIterable iter env x = pure x := by intro _; rfl) :
    wpAny (model P0 w) A (exec (.Assign [.Name y py] (.ListComp elt [⟨.Name x px, iter, [], 0⟩] scope pos) spos) env) Q E s := by
  refine wpAny_Assign_ListComp_free (fun _ => true) (fun v y => ∀ n t, v = Value.int n t → ∃ t', y = Value.str (f n.toNat) t') hsw hclos hcell hkind hnames hx hy hp (hiter ?_) hs
  refine iter_range hh hr hsz ?_
  rintro I h' rfl rfl W hst
  have hW : Walks P0 w A s.heap.objs.size [s.heap.objs.size] [s.heap.objs.size] n (fun i v => i < n ∧ ∃ t, v = .int (0 + i * 1) t) (fun i h => IsRangeIter h s.heap.objs.size (0 + (i : Nat) * 1) ((n : Int) - (i : Nat)) 1) := ⟨W.sub, W.frame, fun i s Q E hi st hQ => W.item i s Q E hi st fun v h' tk hv => hQ v h' tk ⟨hi, hv⟩, W.done, W.self⟩
  refine comp_newA _ rfl hW (by rw [sizeLine_eq]; omega) hst (by simp) hns (fun C i v s₃ m₃ E' hv hns hm hk => ?_) (fun D h' tk ys vs hD hl' hlen hP hF hns' hk => ?_)
  · obtain ⟨hi, t, rfl⟩ := hv
    rw [show (0 + (i : Int) * 1) = (i : Int) by omega] at hm ⊢
    refine wpAny_mono (helt C i t s₃ m₃ E' hi hns hm hk) (fun z s₄ hz => ?_) (fun _ _ e => e)
    obtain ⟨⟨t', rfl⟩, k⟩ := hz
    exact ⟨fun y' t'' e => by cases e; exact ⟨_, rfl⟩, k⟩
  · have hI := strs_ints ys.toList vs 0 (fun j v hj => by rw [Nat.zero_add]; exact (hP j v hj).2) hF
    rw [hlen, ← List.range_eq_range'] at hI
    exact h D h' tk ys.toList hD (by simpa using hl') hI hns' hk
/-- what the law's frame keeps: its names at L; all of h₂ but L -/
structure LF (h₂ : Heap) (L : Addr) (h : Heap) (m : Str → Option Value) : Prop where
  ns : h.Ns L m
  keep : ∀ b o, b ≠ L → h₂.get? b = some o → h.get? b = some o
theorem LF.ext {h₂ h h' : Heap} {L : Addr} {m : Str → Option Value} (F : LF h₂ L h m) (k : ∀ b o, h.get? b = some o → h'.get? b = some o) : LF h₂ L h' m := ⟨F.ns.keeps k, fun b o hb e => k b o (F.keep b o hb e)⟩
theorem LF.next {h₂ h h' : Heap} {L : Addr} {m m' : Str → Option Value} (F : LF h₂ L h m) (hn : h'.Ns L m') (k : ∀ b o, b ≠ L → h.get? b = some o → h'.get? b = some o) : LF h₂ L h' m' := ⟨hn, fun b o hb e => k b o hb (F.keep b o hb e)⟩
end
end Mine
end T_WkLaw1

section T_WkLaw2
open PySem PySem.W PyProof.Rows PyProof.V PySem.Spec
set_option Elab.async false
namespace Mine
set_option maxRecDepth 100000
set_option linter.unusedVariables false

section
variable {w : World} {A : Around} {s : Shared} {Q : Value → Shared → Prop} {E : Value → Shared → Prop}
theorem slice_n {env : Env} {x y : Str} {px py p1 p2 : Pos} {D : Addr} {vs : List Value} {i : Nat} {t : Tok} (hp : ∀ {Q : Value → Shared → Prop}, Q (.ref D) s → wpAny (model P0 w) A (eval (.Name x px) env) Q E s)
    (hn : ∀ {Q : Value → Shared → Prop}, Q (.int i t) s → wpAny (model P0 w) A (eval (.Name y py) env) Q E s) (hl : s.heap.IsList D vs.toArray) (hlen : vs.length ≤ 1000)
    (h : ∀ h', h'.IsList (s.heap.objs.size + 1) (vs.take i).toArray → (∀ b o, s.heap.get? b = some o → h'.get? b = some o) → s.heap.get? (s.heap.objs.size + 1) = none → Q (.ref (s.heap.objs.size + 1)) { s with heap := h' }) :
    wpAny (model P0 w) A (eval (.Subscript (.Name x px) (.Slice none (some (.Name y py)) none p1) p2) env) Q E s := by
  walk1
  refine hp ?_
  walk1
  walk1
  walk1
  refine hn ?_
  walk1
  refine slice_listK hl .none (.int _ _) ?_ (by with_unfolding_all rfl) (by intro _; with_unfolding_all rfl) (by rw [List.size_toArray, sizeLine_eq]; omega)
  rw [slicePick_upto' vs.toArray i]
  refine h _ ⟨_, Heap.get?_push_size (s.heap.push _) rfl |> fun e => by rw [Heap.size_push] at e; exact e, rfl, _, rfl⟩ (fun b o e => Heap.get?_push_of_some _ (Heap.get?_push_of_some _ e)) (free_new (Nat.le_succ _))
theorem S1_len (c : Nat) : (S1 c).length = 1 := rfl
theorem strs_of_pairs0 {h : Heap} : ∀ {vs : List Value} {cs : List Nat} {ys : List Value}, PairsAre h vs cs → Paired (fun v y => ∀ c, IsPair h v c → ∃ t, y = Value.str (S1 c) t) vs ys → StrsAre ys (cs.map S1)
  | _, _, _, .nil, .nil => .nil
  | _, _, _, .cons hp rp, .cons hf rf => by
    obtain ⟨t, rfl⟩ := hf _ hp
    exact .cons _ _ (strs_of_pairs0 rp rf)
noncomputable def lineOf (cs : List Nat) : Str := jn (cs.map S1)
end
/-- what stands all through the law's body: its names, the cell of `pairs`, the list and its pairs, and all that stood before -/
structure LK (h₀ : Heap) (L c D : Addr) (vs : List Value) (cs : List Nat) (h : Heap) (m : Str → Option Value) : Prop where
  ns : h.Ns L m
  cell : h.IsCell c (some (.ref D))
  lst : h.IsList D vs.toArray
  prs : PairsAre h vs cs
  base : ∀ b o, h₀.get? b = some o → h.get? b = some o
  fresh : h₀.get? L = none
theorem LK.ext {h₀ h h' : Heap} {L c D : Addr} {vs : List Value} {cs : List Nat} {m : Str → Option Value} (F : LK h₀ L c D vs cs h m) (k : ∀ b o, h.get? b = some o → h'.get? b = some o) : LK h₀ L c D vs cs h' m :=
  ⟨F.ns.keeps k, F.cell.keeps k, F.lst.at fun o e => k _ o e, F.prs.keeps k, fun b o e => k b o (F.base b o e), F.fresh⟩
theorem ns_ne {h : Heap} {L a : Addr} {m : Str → Option Value} {o : Obj} (hn : h.Ns L m) (e : h.get? a = some o) (hd : ∀ es ep, o.data ≠ .dict es ep) : a ≠ L := by
  rintro rfl
  obtain ⟨o', es, ep, e', hd', _⟩ := hn
  rw [e] at e'; cases e'
  exact hd es ep hd'
theorem PairsAre.but {h h' : Heap} {c : Addr} (hc : ∀ o, h.get? c = some o → ∀ its n, o.data ≠ .seq its n) (k : ∀ b o, b ≠ c → h.get? b = some o → h'.get? b = some o) :
    ∀ {vs : List Value} {cs : List Nat}, PairsAre h vs cs → PairsAre h' vs cs
  | _, _, .nil => .nil
  | _, _, .cons ⟨a, t1, t2, e, o, ho, hcl, n, hd⟩ r => .cons ⟨a, t1, t2, e, o, k a o (by rintro rfl; exact hc o ho _ _ hd) ho, hcl, n, hd⟩ (PairsAre.but hc k r)
theorem LK.next {h₀ h h' : Heap} {L c D : Addr} {vs : List Value} {cs : List Nat} {m m' : Str → Option Value} (F : LK h₀ L c D vs cs h m) (hn : h'.Ns L m') (k : ∀ b o, b ≠ L → h.get? b = some o → h'.get? b = some o) : LK h₀ L c D vs cs h' m' := by
  refine ⟨hn, ?_, ?_, ?_, fun b o e => k b o (by rintro rfl; rw [F.fresh] at e; cases e) (F.base b o e), F.fresh⟩
  · obtain ⟨o, e, hd⟩ := F.cell
    exact ⟨o, k _ o (ns_ne F.ns e (by rw [hd]; intro _ _ x; cases x)) e, hd⟩
  · obtain ⟨o, e, hc, n, hd⟩ := F.lst
    exact ⟨o, k _ o (ns_ne F.ns e (by rw [hd]; intro _ _ x; cases x)) e, hc, n, hd⟩
  · refine PairsAre.but (c := L) (fun o e its n hd => ?_) k F.prs
    obtain ⟨o', es, ep, e', hd', _⟩ := F.ns
    rw [e] at e'; cases e'
    rw [hd] at hd'; cases hd'
theorem lst_next {h h' : Heap} {L D : Addr} {vs : Array Value} {m : Str → Option Value} (hn : h.Ns L m) (x : h.IsList D vs) (k : ∀ b o, b ≠ L → h.get? b = some o → h'.get? b = some o) : h'.IsList D vs := by
  obtain ⟨o, e, hc, n, hd⟩ := x
  exact ⟨o, k _ o (ns_ne hn e (by rw [hd]; intro _ _ x; cases x)) e, hc, n, hd⟩
theorem rng_next {h h' : Heap} {L D : Addr} {a b c : Int} {t u v : Tok} {m : Str → Option Value} (hn : h.Ns L m) (x : IsRange h D a b c t u v) (k : ∀ b o, b ≠ L → h.get? b = some o → h'.get? b = some o) : IsRange h' D a b c t u v :=
  k _ _ (ns_ne hn x (by intro _ _ y; cases y)) x
theorem rng_keeps {h h' : Heap} {D : Addr} {a b c : Int} {t u v : Tok} (x : IsRange h D a b c t u v) (k : ∀ b o, h.get? b = some o → h'.get? b = some o) : IsRange h' D a b c t u v := k _ _ x
theorem prep_len (x : Str) : (prep x).length ≤ 4 * x.length := by
  unfold prep
  rw [jn_len]
  have h1 := sum_le (f := (·.length)) (k := 4) (((x.cps.toList).filter fun (c : Nat) => !inB1 c).map b3) (fun y hy => by obtain ⟨c, _, rfl⟩ := List.mem_map.mp hy; exact b3_len c)
  have h2 : (((x.cps.toList).filter fun (c : Nat) => !inB1 c).map b3).length ≤ x.length := by
    rw [List.length_map]
    exact Nat.le_trans (List.length_filter_le _ _) (by rw [Array.length_toList]; exact Nat.le_refl _)
  omega
theorem cmt_len (x : Str) : (cmt x).length ≤ x.length + 2 := by
  unfold cmt
  split
  · exact Nat.le_trans (show (Str.ofString "#").length ≤ 2 by decide) (Nat.le_add_left _ _)
  · have := len_rstrip x
    have e : (Str.ofString "# " ++ Txt.rstrip x).length = (Str.ofString "# ").length + (Txt.rstrip x).length := by
      show ((Str.ofString "# ").cps ++ (Txt.rstrip x).cps).size = _
      rw [Array.size_append]; rfl
    rw [e, show (Str.ofString "# ").length = 2 from rfl]
    omega
theorem line_len {cs : List Nat} : (lineOf cs).length = cs.length := by
  unfold lineOf
  rw [jn_len, List.map_map]
  induction cs with
  | nil => rfl
  | cons c cs ih => rw [List.map_cons, List.sum_cons, ih, List.length_cons]; show 1 + _ = _; omega
theorem mem_lines {cs : List Nat} {y : Str} {n : Nat} (hn : cs.length ≤ 13) (h : y ∈ (List.range n).map fun i => lineOf (cs.take i)) : y.length ≤ 13 := by
  obtain ⟨i, _, rfl⟩ := List.mem_map.mp h
  rw [line_len, List.length_take]; omega
theorem AOk.cl {A : Around} {k : Nat} (h : AOk A k) : A.units < cLine := Nat.lt_of_lt_of_le (show A.units < 900 by have := h.2.2; omega) (by decide)
theorem map_eq2 {l : List Nat} {f : Nat → Str} {g : Str → Str} {k : Nat → Str} (P : ∀ i, g (f i) = k i) : (l.map f).map g = l.map k := by
  rw [List.map_map]; exact List.map_congr_left fun i _ => P i
theorem map_eq3 {l : List Nat} {f : Nat → Str} {g k c d : Str → Str} (P : ∀ i, c (g (f i)) = d (k (f i))) : ((l.map f).map g).map c = ((l.map f).map k).map d := by
  rw [List.map_map, List.map_map, List.map_map, List.map_map]; exact List.map_congr_left fun i _ => P i
end Mine
end T_WkLaw2

section T_WkLaw
local macro_rules | `(tactic| walk_at "mine pad") => `(tactic| fail "pad")
local macro_rules | `(tactic| walk_at "mine pad") => `(tactic| fail "pad")
local macro_rules | `(tactic| walk_at "mine pad") => `(tactic| fail "pad")
local macro_rules | `(tactic| walk_at "mine pad") => `(tactic| fail "pad")
local macro_rules | `(tactic| walk_at "mine pad") => `(tactic| fail "pad")
open PySem PySem.W PyProof.Rows PyProof.V PySem.Spec
set_option Elab.async false
namespace Mine
set_option maxRecDepth 100000
set_option linter.unusedVariables false

local macro_rules | `(tactic| walk_at "eval Name") => `(tactic| (first
  | ((with_reducible show wpAny _ _ (eval (Expr.Name (Str.ofString "_law_pairs") _) _) _ _ _); refine n_law_pairs (by first | assumption | exact TopIn.keeps (by assumption) (Fr.keep (by assumption))) ?_)
  | ((with_reducible show wpAny _ _ (eval (Expr.Name (Str.ofString "script") _) _) _ _ _); refine lname (Fr.ns (by assumption)) (by rfl) ?_)
  | ((with_reducible show wpAny _ _ (eval (Expr.Name (Str.ofString "len") _) _) _ _ _); refine n_len (TopIn.keeps (by assumption) (LK.base (by assumption))) ?_)
  | ((with_reducible show wpAny _ _ (eval (Expr.Name (Str.ofString "range") _) _) _ _ _); refine n_range (TopIn.keeps (by assumption) (LK.base (by assumption))) ?_)
  | ((with_reducible show wpAny _ _ (eval (Expr.Name (Str.ofString "pairs") _) _) _ _ _); refine wpAny_Name (wpAny_loadName_cell rfl rfl rfl (LK.cell (by assumption)) ?_) (by decide))))
local macro_rules | `(tactic| walk_at "callWith ref") => `(tactic| (first | (refine cw1 (by decide) ?_) | (refine cw0 (by decide) (by first | assumption | exact TopIn.keeps (by assumption) (Fr.keep (by assumption))) ?_)))
local macro_rules | `(tactic| walk_at "And") => `(tactic| ((with_reducible show TopIn _ _ ∧ _); refine ⟨(by first | assumption | exact TopIn.keeps (by assumption) (Fr.keep (by assumption))), ?_⟩; (try dsimp only [List.nil_append])))

set_option maxHeartbeats 4000000 in
theorem law_law {w : World} {A : Around} {s : Shared} {Q : Value → Shared → Prop} {E : Value → Shared → Prop} {sA : Addr} {vs0 : List Value} {ns : List Int} (T : TopIn w s.heap) (hA : AOk A 5) (hS : s.heap.IsList sA vs0.toArray) (hI : IntsAre vs0 ns) (hlen : ns.length ≤ 63)
    (P1 : ∀ cs, cmt (prep (lineOf cs)) = cmtd true cs) (P2 : ∀ cs, prep (cmt (lineOf cs)) = cmtd false cs) (P3 : ∀ cs, cmt (prep (cmt (lineOf cs))) = Str.ofString "# " ++ cmt (prep (lineOf cs)))
    (h : ∀ h' tk, (∀ b o, s.heap.get? b = some o → h'.get? b = some o) → Q (.bool true) { s with heap := h', toks := tk }) : wpAny (model P0 w) A (call (.ref 131) [.ref sA]) Q E s := by
  refine wpAny_call ?_
  have hfn : (finHeap w.params).get? 131 = some ⟨.type "function", none, .func (Calls.docDef "law" (paramsOf 15) (bodyOf 15) (scopeOf 15) m3 (.ref 130) .none), #[]⟩ := by kernel_rfl
  have hcode : (finHeap w.params).get? 130 = some (codeO "law" 2280 65 1 3 (.ref 127) (.ref 128) .none .none (.ref 129) true 2283) := by kernel_rfl
  refine call_cellsN_ret (binds := [("script", .ref sA)]) hA.room (T _ _ hfn) rfl (nolimit T) (code_at T hcode rfl (t := 2281) rfl) (by kernel_rfl) (fun x hx => .inl (locs (by kernel_rfl) x hx)) (by decide +kernel) (fun h₁ tk cells F N X => ?_) (by kernel_rfl) (by kernel_rfl) (by kernel_rfl)
  generalize hL : s.heap.objs.size = L at *
  have X' : CellsAre (bindC (envOfC "law" (scopeOf 15) L 131 (.ref 130)).kindOf [("script", .ref sA)] fun _ => none) [("pairs", L + 1)] cells := X
  obtain ⟨oc, rfl, hdc⟩ := CellsAre.one X'
  conv in (bodyOf 15) => whnf
  conv in (occs := *) (scopeOf 15) => all_goals whnf
  repeat' (first | ((fail_if_success (with_reducible show wpAny _ _ (call (Value.ref _) _) _ _ _)); (first | walk1 | (dsimp only; walk1))))
  refine law_pairs (TopIn.keeps T F.keep) (AOk.less (AOk.deeper hA) (by decide)) (hS.at fun o e => F.keep _ o e) hI hlen (fun D vs h2 tk2 hk2 hD hlD hPD => ?_)
  have hcg := (N (L + 1, oc) (.head _)).1
  have hdat : ∀ es ep, oc.data ≠ .dict es ep := by rw [hdc]; intro _ _ x; cases x
  have hDne : D ≠ L + 1 := by rintro rfl; rw [show h₁.get? (L + 1) = some oc from hcg] at hD; cases hD
  have hc2 : h2.get? (L + 1) = some oc := hk2 _ _ hcg
  repeat' (first | ((fail_if_success (with_reducible show wpAny _ _ (storeName _ _ _) _ _ _)); (first | walk1 | (dsimp only; walk1))))
  refine wpAny_storeName_cell (c := L + 1) rfl rfl rfl ⟨oc, hc2, hdc⟩ fun h3 hv3 hs3 => ?_
  have hfr : s.heap.get? L = none := free_new (Nat.le_of_eq hL)
  have hcfree : s.heap.get? (L + 1) = none := free_new (by rw [hL]; exact Nat.le_succ _)
  obtain ⟨ml, K3⟩ : ∃ m, LK s.heap L (L + 1) D vs (codes ns) h3 m := by
    refine ⟨_, (F.ns.keeps hk2).sameBut hs3 ?_, hv3, hlD.at fun o e => hs3.extBut _ o hDne e, PairsAre.but (c := L + 1) (fun o e its n hd => ?_) (fun b o hb e => hs3.extBut b o hb e) hPD, fun b o e => hs3.extBut b o (by rintro rfl; rw [hcfree] at e; cases e) (hk2 b o (F.keep b o e)), hfr⟩
    · exact Nat.ne_of_lt (Nat.lt_succ_self _)
    · rw [hc2] at e; cases e
      rw [hdc] at hd; cases hd
  have hcl : (codes ns).length ≤ 13 := by
    unfold codes
    simp only [List.length_append, List.length_map, List.length_take, List.length_cons, List.length_nil]
    omega
  have hvl : vs.length = (codes ns).length := K3.prs.length
  generalize codes ns = cs at *
  clear hlD hPD hk2 hD F N X X' hdc hcg hdat hDne hc2 hv3 hs3 hcfree hfr
  repeat' (first | ((fail_if_success (with_reducible show wpAny _ _ (call (Value.builtin _) _) _ _ _)); (first | walk1 | (dsimp only; walk1))))
  refine len_list K3.lst (by rw [List.size_toArray, hvl]; omega) ?_
  repeat' (first | ((fail_if_success (with_reducible show wpAny _ _ (call (Value.type _) _) _ _ _)); (first | walk1 | (dsimp only; walk1))))
  refine call_range_1 ?_
  have hRn := IsRange.new h3 0 ((vs.toArray.size : Int) + 1) 1 (tk2 + 1 + 1 + 1 + 1) (tk2 + 1 + 1 + 1) (tk2 + 1 + 1 + 1 + 1 + 1)
  have K4 := K3.ext (h' := h3.push { cls := .type "range", data := .fields #[.int 0 (tk2 + 1 + 1 + 1 + 1), .int ((vs.toArray.size : Int) + 1) (tk2 + 1 + 1 + 1), .int 1 (tk2 + 1 + 1 + 1 + 1 + 1)] }) fun b o e => Heap.get?_push_of_some _ e
  repeat' (first | ((fail_if_success (with_reducible show wpAny _ _ (storeName _ _ _) _ _ _)); (first | walk1 | (dsimp only; walk1))))
  refine wpAny_storeName_local rfl K4.ns (fun h5 hn5 hs5 => ?_)
  have K5 := K4.next hn5 (fun b o hb e => hs5.extBut b o hb e)
  have hR5 := rng_next K4.ns hRn (fun b o hb e => hs5.extBut b o hb e)
  rw [show ((vs.toArray.size : Int) + 1) = ((cs.length + 1 : Nat) : Int) by rw [List.size_toArray, hvl]; rfl] at hR5
  clear K4 hRn K3 hn5 hs5
  walk1
  refine asg_range (n := cs.length + 1) (cl := [("pairs", L + 1)]) (m := _) (fun i => lineOf (cs.take i)) hA.1 (by rfl) (by rfl) (by decide) rfl (by decide) rfl rfl rfl K5.ns hR5 (by omega) (fun hq => lname K5.ns rfl hq) (fun C i t s₃ m₃ E' hi hns hm hk => ?_) (fun D1 h6 tk6 ys1 hD1 hl1 hS1 hn6 hk6 => ?_)
  · have K := K5.ext hk
    repeat' (first | ((fail_if_success (with_reducible show wpAny _ _ (eval (Expr.ListComp _ _ _ _) _) _ _ _)); (first | walk1 | (dsimp only; walk1))))
    refine comp (fun _ => true) (fun v y => ∀ c, IsPair s₃.heap v c → ∃ t, y = Value.str (S1 c) t) (by decide) (by decide) rfl (by decide) rfl ?_
    refine slice_n (fun hq => ldCellK rfl K.cell hq) (fun hq => lname hns hm hq) K.lst (by omega) (fun h7 hl7 hk7 hf7 => ?_)
    have hPt : PairsAre s₃.heap (vs.take i) (cs.take i) := paired_take i K.prs
    have hlt := (let ⟨_, e, _⟩ := hl7; Heap.lt_size e)
    refine wpAny_pyIter_list hl7 ?_
    refine ask_new rfl rfl (Walks.list (A := A.deeper _) hA.1 _ _ (Nat.ne_of_lt hlt) (vs.take i).toArray) ?_ ⟨⟨_, Heap.get?_push_size _ rfl, rfl, rfl⟩, hl7.push _⟩ ?_ (fun C i v s₃ m₃ E' hv hns hm hk => wpAny_tests_nil ⟨rfl, _, _, rfl, fun _ _ e => e⟩) (fun C j v s₄ m₄ E' hv _ hns4 hm4 hk4 => ?_) (fun D h' tk ys vs' hD hl hpl hlen' hP hF hk => ?_)
    · simp only [List.size_toArray, List.length_take]
      rw [sizeLine_eq]
      omega
    · simp
      exact Nat.le_of_lt hlt
    · have hv' : (vs.take i)[j]? = some v := by simpa using hv
      obtain ⟨hi, _⟩ := List.getElem?_eq_some_iff.mp hv'
      obtain ⟨a, t1, t2, c, e1, e2, hT⟩ := pair_get hPt (i := j) (by have := hPt.length; omega)
      rw [hv'] at e1; cases e1
      have hT3 : IsTup s₄.heap a [.str (S1 c) t1, .str (fold c) t2].toArray := (hT.keeps hk7).keeps hk4
      walk1
      refine lname hns4 hm4 ?_
      repeat' (first | ((fail_if_success (with_reducible show wpAny _ _ (subscriptTail _ _ _ _) _ _ _)); (first | walk1 | (dsimp only; walk1))))
      refine item_tupleT hT3 (by omega) (by omega) (by rfl) (by rfl) ?_
      exact ⟨fun c' hc' => ⟨t1, by have e := IsPair.inj hc' ⟨_, _, _, rfl, hT⟩; rw [e]⟩, _, _, rfl, fun _ _ e => e⟩
    · rw [List.filter_eq_self.mpr (fun _ _ => rfl)] at hF
      have ev : vs' = vs.take i := List.ext_getElem? fun j => by
        cases e : vs'[j]? with
        | none =>
          have := List.getElem?_eq_none_iff.mp e
          rw [hlen'] at this
          exact (List.getElem?_eq_none_iff.mpr (by simpa using this)).symm
        | some v => have := hP j v e; simpa using this.symm
      rw [ev] at hF
      have hI := strs_of_pairs0 hPt hF
      repeat' (first | ((fail_if_success (with_reducible show wpAny _ _ (call (Value.builtin _) _) _ _ _)); (first | walk1 | (dsimp only; walk1))))
      have hjl : ((cs.take i).map S1 |>.map (·.length)).sum ≤ 52 := by
        have h1 := sum_le (f := (·.length)) (k := 1) ((cs.take i).map S1) (fun y hy => by obtain ⟨c, _, rfl⟩ := List.mem_map.mp hy; exact Nat.le_of_eq (S1_len c))
        have h2 : ((cs.take i).map S1).length ≤ 13 := by
          rw [List.length_map, List.length_take]; omega
        omega
      have hjn : ((cs.take i).map S1).length ≤ 13 := by rw [List.length_map, List.length_take]; omega
      refine join_listW hl hI (by decide) (by omega) (fun t' k => ?_)
      exact ⟨⟨_, rfl⟩, _, _, rfl, fun b o e => hk b o (hk7 b o e)⟩
  have K6 := K5.next hn6 hk6
  have hR6 := rng_next K5.ns hR5 hk6
  clear hR5 hn6 hk6 hD1
  dsimp only
  walk1
  refine asg_strs (m := _) (fun x => cmt (prep x)) hA.1 (by rfl) (by decide) (by decide) rfl (by decide) rfl rfl rfl K6.ns hl1 hS1 (by rw [hS1.length, List.length_map, List.length_range]; omega) (fun hq => lname K6.ns rfl hq) (fun C y t s₃ m₃ E' hy hns hm hk => ?_) (fun D2 h7 tk7 ys2 hD2 hl2 hS2 hn7 hk7 => ?_)
  · have T3 : TopIn w s₃.heap := (T.keeps K6.base).keeps hk
    have hy13 := mem_lines hcl hy
    walk1
    refine n_comment_line T3 ?_
    refine cw1 (by decide) ?_
    walk1
    walk1
    refine n_law_prepared T3 ?_
    refine cw1 (by decide) ?_
    walk1
    refine lname hns hm ?_
    walk1
    refine ⟨T3, ?_⟩
    refine law_prepared T3 (AOk.less (AOk.deeper hA) (by decide)) (by omega) (fun t' h' tk hk' => ?_)
    walk1
    refine ⟨T3.keeps hk', ?_⟩
    refine c_line (T3.keeps hk') (AOk.less (AOk.deeper hA) (by decide)) (by have := prep_len y; omega) (fun t'' h'' tk'' hk'' => ?_)
    exact ⟨⟨_, rfl⟩, _, _, rfl, fun b o e => hk'' b o (hk' b o e)⟩
  have K7 := K6.next hn7 hk7
  have hR7 := rng_next K6.ns hR6 hk7
  have hl1' := lst_next K6.ns hl1 hk7
  clear hR6 hn7 hk7 hD2 hl1
  dsimp only
  walk1
  refine asg_strs (m := _) (fun x => prep (cmt x)) hA.1 (by rfl) (by decide) (by decide) rfl (by decide) rfl rfl rfl K7.ns hl1' hS1 (by rw [hS1.length, List.length_map, List.length_range]; omega) (fun hq => lname K7.ns rfl hq) (fun C y t s₃ m₃ E' hy hns hm hk => ?_) (fun D3 h8 tk8 ys3 hD3 hl3 hS3 hn8 hk8 => ?_)
  · have T3 : TopIn w s₃.heap := (T.keeps K7.base).keeps hk
    have hy13 := mem_lines hcl hy
    walk1
    refine n_law_prepared T3 ?_
    refine cw1 (by decide) ?_
    walk1
    walk1
    refine n_comment_line T3 ?_
    refine cw1 (by decide) ?_
    walk1
    refine lname hns hm ?_
    walk1
    refine ⟨T3, ?_⟩
    refine c_line T3 (AOk.less (AOk.deeper hA) (by decide)) (by omega) (fun t' h' tk hk' => ?_)
    walk1
    refine ⟨T3.keeps hk', ?_⟩
    refine law_prepared (T3.keeps hk') (AOk.less (AOk.deeper hA) (by decide)) (by have := cmt_len y; omega) (fun t'' h'' tk'' hk'' => ?_)
    exact ⟨⟨_, rfl⟩, _, _, rfl, fun b o e => hk'' b o (hk' b o e)⟩
  have K8 := K7.next hn8 hk8
  have hR8 := rng_next K7.ns hR7 hk8
  have hl2' := lst_next K7.ns hl2 hk8
  clear hR7 hn8 hk8 hD3 hl2 hl1'
  dsimp only
  walk1
  refine asg_strs (m := _) cmt hA.1 (by rfl) (by decide) (by decide) rfl (by decide) rfl rfl rfl K8.ns hl3 hS3 (by rw [hS3.length, List.length_map, List.length_map, List.length_range]; omega) (fun hq => lname K8.ns rfl hq) (fun C y t s₃ m₃ E' hy hns hm hk => ?_) (fun D4 h9 tk9 ys4 hD4 hl4 hS4 hn9 hk9 => ?_)
  · have T3 : TopIn w s₃.heap := (T.keeps K8.base).keeps hk
    obtain ⟨x, hx, rfl⟩ := List.mem_map.mp hy
    have hx13 := mem_lines hcl hx
    have h1 := cmt_len x
    have h2 := prep_len (cmt x)
    walk1
    refine n_comment_line T3 ?_
    refine cw1 (by decide) ?_
    walk1
    refine lname hns hm ?_
    walk1
    refine ⟨T3, ?_⟩
    refine c_line T3 (AOk.less (AOk.deeper hA) (by decide)) (by omega) (fun t' h' tk hk' => ?_)
    exact ⟨⟨_, rfl⟩, _, _, rfl, hk'⟩
  have K9 := K8.next hn9 hk9
  have hR9 := rng_next K8.ns hR8 hk9
  have hl2'' := lst_next K8.ns hl2' hk9
  have hl3' := lst_next K8.ns hl3 hk9
  clear hR8 hn9 hk9 hD4 hl2' hl3
  dsimp only
  repeat' (first | ((fail_if_success (with_reducible show wpAny _ _ (eval (Expr.Name _ _) _) _ _ _)); (first | walk1 | (dsimp only; walk1))))
  refine lname K9.ns rfl ?_
  repeat' (first | ((fail_if_success (with_reducible show wpAny _ _ (eval (Expr.Name _ _) _) _ _ _)); (fail_if_success (with_reducible show wpAny _ _ (eval (Expr.ListComp _ _ _ _) _) _ _ _)); (fail_if_success (with_reducible show Q _ _)); (first | walk1 | (dsimp only; walk1))))
  refine comp_range (n := cs.length + 1) (cl := [("pairs", L + 1)]) (fun i => cmtd true (cs.take i)) hA.1 (by rfl) (by decide) rfl (by decide) rfl hR9 (by omega) (fun hq => lname K9.ns rfl hq) (fun C i t s₃ m₃ E' hi hns hm hk => ?_) (fun D5 h10 tk10 ys5 hD5 hl5 hS5 hk10 => ?_)
  · have K := K9.ext hk
    have T3 : TopIn w s₃.heap := (T.keeps K9.base).keeps hk
    walk1
    refine n_law_commented T3 ?_
    refine cw1 (by decide) ?_
    walk1
    refine slice_n (fun hq => ldCellK rfl K.cell hq) (fun hq => lname hns hm hq) K.lst (by omega) (fun h' hl' hk' hf' => ?_)
    walk1
    walk1
    walk1
    refine ⟨T3.keeps hk', ?_⟩
    refine law_commented (b := true) (cs := cs.take i) (T3.keeps hk') (AOk.less (AOk.deeper hA) (by decide)) hl' (paired_take i (K.prs.keeps hk')) (by rw [List.length_take]; omega) (fun t' h'' tk'' hk'' => ?_)
    exact ⟨⟨_, rfl⟩, _, _, rfl, fun b o e => hk'' b o (hk' b o e)⟩
  have K10 := K9.ext hk10
  have hR10 := rng_keeps hR9 hk10
  have hl2a := hl2''.at (h' := h10) fun o e => hk10 _ o e
  have hl3a := hl3'.at (h' := h10) fun o e => hk10 _ o e
  have hl4a := hl4.at (h' := h10) fun o e => hk10 _ o e
  clear hl2'' hl3' hl4 hR9 hD5 hk10
  refine eq_strs hl2a hl5 hS2 hS5 (map_eq2 fun i => P1 (cs.take i)) (AOk.cl (AOk.deeper hA)) ?_
  repeat' (first | ((fail_if_success (with_reducible show wpAny _ _ (eval (Expr.Name _ _) _) _ _ _)); (fail_if_success (with_reducible show wpAny _ _ (eval (Expr.ListComp _ _ _ _) _) _ _ _)); (fail_if_success (with_reducible show Q _ _)); (first | walk1 | (dsimp only; walk1))))
  refine lname K10.ns rfl ?_
  repeat' (first | ((fail_if_success (with_reducible show wpAny _ _ (eval (Expr.Name _ _) _) _ _ _)); (fail_if_success (with_reducible show wpAny _ _ (eval (Expr.ListComp _ _ _ _) _) _ _ _)); (fail_if_success (with_reducible show Q _ _)); (first | walk1 | (dsimp only; walk1))))
  refine comp_range (n := cs.length + 1) (cl := [("pairs", L + 1)]) (fun i => cmtd false (cs.take i)) hA.1 (by rfl) (by decide) rfl (by decide) rfl hR10 (by omega) (fun hq => lname K10.ns rfl hq) (fun C i t s₃ m₃ E' hi hns hm hk => ?_) (fun D6 h11 tk11 ys6 hD6 hl6 hS6 hk11 => ?_)
  · have K := K10.ext hk
    have T3 : TopIn w s₃.heap := (T.keeps K10.base).keeps hk
    walk1
    refine n_law_commented T3 ?_
    refine cw1 (by decide) ?_
    walk1
    refine slice_n (fun hq => ldCellK rfl K.cell hq) (fun hq => lname hns hm hq) K.lst (by omega) (fun h' hl' hk' hf' => ?_)
    walk1
    walk1
    walk1
    refine ⟨T3.keeps hk', ?_⟩
    refine law_commented (b := false) (cs := cs.take i) (T3.keeps hk') (AOk.less (AOk.deeper hA) (by decide)) hl' (paired_take i (K.prs.keeps hk')) (by rw [List.length_take]; omega) (fun t' h'' tk'' hk'' => ?_)
    exact ⟨⟨_, rfl⟩, _, _, rfl, fun b o e => hk'' b o (hk' b o e)⟩
  have K11 := K10.ext hk11
  have hl2b := hl2a.at (h' := h11) fun o e => hk11 _ o e
  have hl3b := hl3a.at (h' := h11) fun o e => hk11 _ o e
  have hl4b := hl4a.at (h' := h11) fun o e => hk11 _ o e
  clear hl2a hl3a hl4a hR10 hD6 hk11
  refine eq_strs hl3b hl6 hS3 hS6 (map_eq2 fun i => P2 (cs.take i)) (AOk.cl (AOk.deeper hA)) ?_
  repeat' (first | ((fail_if_success (with_reducible show wpAny _ _ (eval (Expr.Name _ _) _) _ _ _)); (fail_if_success (with_reducible show wpAny _ _ (eval (Expr.ListComp _ _ _ _) _) _ _ _)); (fail_if_success (with_reducible show Q _ _)); (first | walk1 | (dsimp only; walk1))))
  refine lname K11.ns rfl ?_
  repeat' (first | ((fail_if_success (with_reducible show wpAny _ _ (eval (Expr.Name _ _) _) _ _ _)); (fail_if_success (with_reducible show wpAny _ _ (eval (Expr.ListComp _ _ _ _) _) _ _ _)); (fail_if_success (with_reducible show Q _ _)); (first | walk1 | (dsimp only; walk1))))
  refine comp_strs (fun x => Str.ofString "# " ++ x) hA.1 (by decide) (by decide) rfl (by decide) rfl hl2b hS2 (by rw [hS2.length, List.length_map, List.length_map, List.length_range]; omega) (fun hq => lname K11.ns rfl hq) (fun C y t s₃ m₃ E' hy hns hm hk => ?_) (fun D7 h12 tk12 ys7 hD7 hl7 hS7 hk12 => ?_)
  · obtain ⟨x, hx, rfl⟩ := List.mem_map.mp hy
    have hx13 := mem_lines hcl hx
    have h1 := prep_len x
    have h2 := cmt_len (prep x)
    walk1
    walk1
    refine lname hns hm ?_
    refine add_str (fun t'' tk'' => ⟨⟨_, rfl⟩, _, _, rfl, fun b o e => e⟩) ?_
    rw [sizeLine_eq, show (Str.ofString "# ").length = 2 from rfl]
    omega
  have K12 := K11.ext hk12
  refine eq_strs (hl4b.at fun o e => hk12 _ o e) hl7 hS4 hS7 (map_eq3 fun i => P3 (cs.take i)) (AOk.cl (AOk.deeper hA)) ?_
  repeat' (first | ((fail_if_success (with_reducible show wpAny _ _ (eval (Expr.Name _ _) _) _ _ _)); (fail_if_success (with_reducible show wpAny _ _ (eval (Expr.ListComp _ _ _ _) _) _ _ _)); (fail_if_success (with_reducible show Q _ _)); (first | walk1 | (dsimp only; walk1))))
  exact h _ _ K12.base
end Mine
end T_WkLaw

section T_WkPlain0
open PySem PySem.W PyProof.Rows PyProof.V PySem.Spec
set_option Elab.async false
namespace Mine
set_option maxRecDepth 100000
set_option linter.unusedVariables false
set_option linter.unusedSimpArgs false

abbrev sp (c : Nat) : Bool := Unicode.isSpace c
theorem any_blank (c : Nat) : blankL.any (· == (c : Int)) = (decide (9 ≤ c) && decide (c ≤ 13) || decide (28 ≤ c) && decide (c ≤ 32) || decide (c = 133) || decide (c = 160) || decide (c = 5760) || decide (8192 ≤ c) && decide (c ≤ 8202) || decide (c = 8232) || decide (c = 8233) || decide (c = 8239) || decide (c = 8287) || decide (c = 12288)) := by
  rw [show blankL = [9, 10, 11, 12, 13, 28, 29, 30, 31, 32, 133, 160, 5760, 8192, 8193, 8194, 8195, 8196, 8197, 8198, 8199, 8200, 8201, 8202, 8232, 8233, 8239, 8287, 12288] by decide +kernel]
  rw [Bool.eq_iff_iff]
  simp only [List.any_cons, List.any_nil, Bool.or_eq_true, Bool.and_eq_true, beq_iff_eq, decide_eq_true_eq, Bool.false_eq_true, or_false]
  omega
theorem sp_cases (c : Nat) : Unicode.isSpace c = (decide (9 ≤ c) && decide (c ≤ 13) || decide (28 ≤ c) && decide (c ≤ 32) || decide (c = 133) || decide (c = 160) || decide (c = 5760) || decide (8192 ≤ c) && decide (c ≤ 8202) || decide (c = 8232) || decide (c = 8233) || decide (c = 8239) || decide (c = 8287) || decide (c = 12288)) := by
  rw [Bool.eq_iff_iff]
  simp only [Unicode.isSpace, UnicodeData.space, UnicodeData.space0, Unicode.within, Bool.or_eq_true, Bool.and_eq_true, decide_eq_true_eq]
  repeat' split
  all_goals simp only [Bool.or_eq_true, Bool.and_eq_true, decide_eq_true_eq, Bool.false_eq_true, or_false, false_or]
  all_goals first | omega | (constructor <;> intro h <;> first | (exact h.elim) | omega)
theorem blank_sp (c : Nat) : blankL.any (· == (c : Int)) = sp c := (any_blank c).trans (sp_cases c).symm
/-- lower of one sign -/
theorem low_list (c : Nat) : (low c).cps.toList = Unicode.lowerAt #[c] 0 := by
  show (placed (S1 c) fun i _ => Unicode.lowerAt (S1 c).cps i).toList = _
  unfold placed S1
  simp
noncomputable def fl (c : Nat) : List Nat := (fold c).cps.toList
/-- not empty, and its last sign is no blank -/
noncomputable def endsWell (l : List Nat) : Bool := match l.getLast? with | some d => !sp d | none => false
theorem kvs_end : (kvs.all fun p => p.2.cps.toList == [] || endsWell p.2.cps.toList) = true := by decide +kernel
theorem several_end : (UnicodeData.severalLower.all fun p => endsWell p.2) = true := by decide +kernel
theorem one_end : (UnicodeData.oneLower.all fun p => (List.range (p.2.1 - p.1 + 1)).all fun i => !sp (p.2.2 + i)) = true := by decide +kernel
theorem shifted_mem : ∀ (l : List (Nat × Nat × Nat)) (c d : Nat), Unicode.shifted l c = some d → ∃ p ∈ l, p.1 ≤ c ∧ c ≤ p.2.1 ∧ d = p.2.2 + (c - p.1)
  | [], c, d, h => by cases h
  | (a, b, t) :: l, c, d, h => by
    unfold Unicode.shifted at h
    split at h
    · cases h
    · rename_i h1
      split at h
      · rename_i h2
        cases h
        exact ⟨(a, b, t), .head _, Nat.le_of_not_lt h1, h2, rfl⟩
      · obtain ⟨p, hp, r⟩ := shifted_mem l c d h
        exact ⟨p, .tail _ hp, r⟩
theorem lookup_mem {β : Type} : ∀ (l : List (Nat × β)) (c : Nat) (v : β), l.lookup c = some v → (c, v) ∈ l
  | [], _, _, h => by cases h
  | (k, u) :: l, c, v, h => by
    rw [List.lookup_cons] at h
    cases e : c == k with
    | true => rw [e] at h; cases h; rw [eq_of_beq e]; exact .head _
    | false => rw [e] at h; exact .tail _ (lookup_mem l c v h)
theorem lowerOf_end {c : Nat} (h : sp c = false) : endsWell (Unicode.lowerOf c) = true := by
  unfold Unicode.lowerOf Unicode.image
  split
  · rename_i cs e
    exact List.all_eq_true.mp several_end (c, cs) (lookup_mem _ _ _ e)
  · cases e : Unicode.shifted UnicodeData.oneLower c with
    | none => show (!sp c) = true; rw [h]; rfl
    | some d =>
      obtain ⟨p, hp, h1, h2, rfl⟩ := shifted_mem _ _ _ e
      have := List.all_eq_true.mp one_end p hp
      exact List.all_eq_true.mp this (c - p.1) (List.mem_range.mpr (by omega))
theorem low_end {c : Nat} (h : sp c = false) : endsWell (low c).cps.toList = true := by
  rw [low_list]
  show endsWell (if c == 0x3A3 && Unicode.endsWord #[c] 0 then [0x3C2] else Unicode.lowerOf c) = true
  split
  · decide +kernel
  · exact lowerOf_end h
/-- what is no blank folds to nothing, or to signs whose last is no blank -/
theorem fl_end {c : Nat} (h : sp c = false) (hne : fl c ≠ []) : endsWell (fl c) = true := by
  unfold fl fold at *
  split at hne
  · exact absurd rfl hne
  · rename_i hb
    rw [if_neg hb]
    unfold b3 at *
    cases e : b3? c with
    | none => exact low_end h
    | some y =>
      rw [e] at hne
      unfold b3? at e
      obtain ⟨p, hp, rfl⟩ := Option.map_eq_some_iff.mp e
      have := List.all_eq_true.mp kvs_end p (List.mem_of_find?_eq_some hp)
      rw [Bool.or_eq_true] at this
      rcases this with h1 | h1
      · exact absurd (by simpa using h1) hne
      · exact h1
end Mine
end T_WkPlain0

section T_WkPlain
open PySem PySem.W PyProof.Rows PyProof.V PySem.Spec
set_option Elab.async false
namespace Mine
set_option maxRecDepth 100000
set_option linter.unusedVariables false

theorem str_ext {x y : Str} (h : x.cps.toList = y.cps.toList) : x = y := by
  cases x; cases y; simp only at h; congr 1; exact Array.toList_inj.mp h
noncomputable def rs (l : List Nat) : List Nat := (l.reverse.dropWhile sp).reverse
theorem take_rs (p : Nat → Bool) : ∀ l : List Nat, (l.reverse.dropWhile p).reverse = l.take (l.length - (l.reverse.takeWhile p).length) := by
  intro l
  have h := List.takeWhile_append_dropWhile (p := p) (l := l.reverse)
  have h2 : l = (l.reverse.dropWhile p).reverse ++ (l.reverse.takeWhile p).reverse := by
    rw [← List.reverse_append, h, List.reverse_reverse]
  have hl : l.length = (l.reverse.dropWhile p).reverse.length + (l.reverse.takeWhile p).length := by
    conv => lhs; rw [h2]
    rw [List.length_append, List.length_reverse (as := l.reverse.takeWhile p)]
  rw [hl, Nat.add_sub_cancel]
  conv => rhs; arg 2; rw [h2]
  rw [List.take_left']
  rfl
theorem rstrip_list (x : Str) : (Txt.rstrip x).cps.toList = rs x.cps.toList := by
  unfold Txt.rstrip
  rw [PyProof.Rows.stripBy_eq]
  show (x.cps.extract 0 (x.length - ((x.cps.toList.drop 0).reverse.takeWhile Unicode.isSpace).length)).toList = _
  unfold rs
  rw [take_rs, Array.toList_extract]
  simp [Str.length]
theorem len_list' (x : Str) : x.length = x.cps.toList.length := rfl
theorem app_list (x y : Str) : (x ++ y).cps.toList = x.cps.toList ++ y.cps.toList := by
  show (x.cps ++ y.cps).toList = _
  rw [Array.toList_append]
theorem jn_list (l : List Str) : (jn l).cps.toList = (l.map fun x => x.cps.toList).flatten := by
  have h : ∀ (rest : List Str) (acc : Array Nat), (rest.foldl (fun acc p => acc ++ (Str.ofString "").cps ++ p.cps) acc).toList = acc.toList ++ (rest.map fun x => x.cps.toList).flatten := by
    intro rest
    induction rest with
    | nil => intro acc; simp
    | cons x r ih =>
      intro acc
      rw [List.foldl_cons, ih]
      simp [show (Str.ofString "").cps = #[] from rfl]
  cases l with
  | nil => rfl
  | cons x r => exact h r x.cps
theorem line_list (cs : List Nat) : (lineOf cs).cps.toList = cs := by
  unfold lineOf
  rw [jn_list, List.map_map]
  induction cs with
  | nil => rfl
  | cons c cs ih => rw [List.map_cons, List.flatten_cons, ih]; rfl
theorem folds_list (cs : List Nat) : (jn (cs.map fold)).cps.toList = cs.flatMap fl := by
  rw [jn_list, List.map_map]
  rfl
theorem prep_list (x : Str) : (prep x).cps.toList = x.cps.toList.flatMap fl := by
  unfold prep
  rw [jn_list, List.map_map]
  induction x.cps.toList with
  | nil => rfl
  | cons c cs ih =>
    rw [List.filter_cons, List.flatMap_cons]
    cases hb : inB1 c with
    | true =>
      have : fl c = [] := by unfold fl fold; rw [hb]; rfl
      rw [this]; exact ih
    | false =>
      have : fl c = (b3 c).cps.toList := by unfold fl fold; rw [hb]; rfl
      rw [this]
      show ((b3 c).cps.toList :: _).flatten = _
      rw [List.flatten_cons]
      congr 1
theorem rs_snoc (l : List Nat) (c : Nat) : rs (l ++ [c]) = if sp c then rs l else l ++ [c] := by
  unfold rs
  rw [List.reverse_append, List.reverse_singleton, List.singleton_append, List.dropWhile_cons]
  cases sp c <;> simp
theorem rs_app_sp (l : List Nat) : ∀ m : List Nat, (∀ c ∈ m, sp c = true) → rs (l ++ m) = rs l := by
  intro m h
  unfold rs
  rw [List.reverse_append, List.dropWhile_append_of_pos (fun c hc => h c (List.mem_reverse.mp hc))]
theorem rs_app_end {l m : List Nat} (h : endsWell m = true) : rs (l ++ m) = l ++ m := by
  unfold endsWell at h
  cases e : m.getLast? with
  | none => rw [e] at h; cases h
  | some d =>
    rw [e] at h
    obtain ⟨ini, rfl⟩ := List.getLast?_eq_some_iff.mp e
    rw [← List.append_assoc, rs_snoc, if_neg (by simpa using h)]
theorem drop_nil (p : Nat → Bool) : ∀ l : List Nat, l.dropWhile p = [] → ∀ c ∈ l, p c = true
  | [], _, c, h => by cases h
  | a :: l, h, c, hc => by
    rw [List.dropWhile_cons] at h
    cases e : p a with
    | false => rw [e] at h; cases h
    | true =>
      rw [e] at h
      cases hc with
      | head => exact e
      | tail _ hc => exact drop_nil p l h c hc
theorem rs_nil {l : List Nat} (h : rs l = []) : ∀ c ∈ l, sp c = true := by
  unfold rs at h
  rw [List.reverse_eq_nil_iff] at h
  exact fun c hc => drop_nil _ _ h c (List.mem_reverse.mpr hc)
theorem gone_false (c : Nat) : gone false c = sp c := by unfold gone; rw [blank_sp]; simp
theorem gone_true (c : Nat) : gone true c = (sp c || (fold c == Str.ofString "")) := by unfold gone; rw [blank_sp]; simp
theorem cut_false (cs : List Nat) : cutR false cs = rs cs := by
  unfold cutR rs
  rw [show gone false = sp from funext gone_false]
theorem fl_nil {c : Nat} : fl c = [] ↔ fold c = Str.ofString "" := by
  constructor
  · intro h; exact str_ext (by rw [show (Str.ofString "").cps.toList = [] from rfl]; exact h)
  · intro h; unfold fl; rw [h]; rfl
theorem blank_folds : (blankL.all fun k => (fl k.toNat).all sp) = true := by decide +kernel
theorem fl_sp {c : Nat} (h : sp c = true) : ∀ d ∈ fl c, sp d = true := by
  rw [← blank_sp] at h
  obtain ⟨k, hk, e⟩ := List.any_eq_true.mp h
  have e : k = (c : Int) := by simpa using e
  have := List.all_eq_true.mp blank_folds k hk
  rw [e, Int.toNat_natCast] at this
  exact fun d hd => List.all_eq_true.mp this d hd
theorem fl_gone {c : Nat} (h : gone true c = true) : ∀ d ∈ fl c, sp d = true := by
  rw [gone_true, Bool.or_eq_true] at h
  rcases h with h | h
  · exact fl_sp h
  · rw [fl_nil.mpr (by simpa using h)]; simp
theorem fl_stays {c : Nat} (h : gone true c = false) : endsWell (fl c) = true := by
  rw [gone_true, Bool.or_eq_false_iff] at h
  exact fl_end h.1 fun e => by rw [fl_nil.mp e] at h; simp at h
theorem snoc_ind {P : List Nat → Prop} (h0 : P []) (h1 : ∀ l c, P l → P (l ++ [c])) (l : List Nat) : P l := by
  have : ∀ l : List Nat, P l.reverse := by
    intro l
    induction l with
    | nil => exact h0
    | cons c l ih => rw [List.reverse_cons]; exact h1 _ _ ih
  simpa using this l.reverse
theorem rs_folds (cs : List Nat) : rs (cs.flatMap fl) = (cutR true cs).flatMap fl := by
  refine snoc_ind (P := fun cs => rs (cs.flatMap fl) = (cutR true cs).flatMap fl) ?_ (fun l c ih => ?_) cs
  · rfl
  · rw [List.flatMap_append, List.flatMap_singleton, cutR_snoc]
    cases hg : gone true c with
    | true => rw [rs_app_sp _ _ (fl_gone hg), ih]; rfl
    | false => rw [rs_app_end (fl_stays hg)]; simp
theorem cut_nil {cs : List Nat} : (cutR true cs).flatMap fl = [] → cutR true cs = [] := by
  refine snoc_ind (P := fun cs => (cutR true cs).flatMap fl = [] → cutR true cs = []) ?_ (fun l c ih => ?_) cs
  · intro _; rfl
  · rw [cutR_snoc]
    cases hg : gone true c with
    | true => exact ih
    | false =>
      intro h
      have h : (l ++ [c]).flatMap fl = [] := h
      rw [List.flatMap_append, List.flatMap_singleton] at h
      have := fl_stays hg
      rw [(List.append_eq_nil_iff.mp h).2] at this
      cases this
theorem cmt_list (x : Str) : (cmt x).cps.toList = if rs x.cps.toList = [] then [35] else [35, 32] ++ rs x.cps.toList := by
  unfold cmt
  have e : ((Txt.rstrip x).length = 0) = (rs x.cps.toList = []) := by
    rw [len_list', rstrip_list, List.length_eq_zero_iff]
  rw [← rstrip_list] at *
  by_cases h : (Txt.rstrip x).length = 0
  · rw [if_pos h, if_pos (e.mp h)]; rfl
  · rw [if_neg h, if_neg (fun x => h (e.mpr x)), app_list]; rfl
theorem cmtd_list (b : Bool) (cs : List Nat) : (cmtd b cs).cps.toList = if cutR b cs = [] then [35] else [35, 32] ++ (cutR b cs).flatMap fl := by
  unfold cmtd
  by_cases h : cutR b cs = []
  · rw [if_pos h, if_pos h]; rfl
  · rw [if_neg h, if_neg h, app_list, folds_list]; rfl
theorem plain1 (cs : List Nat) : cmt (prep (lineOf cs)) = cmtd true cs := by
  apply str_ext
  rw [cmt_list, cmtd_list, prep_list, line_list, rs_folds]
  by_cases h : cutR true cs = []
  · rw [if_pos h, if_pos (by rw [h]; rfl)]
  · rw [if_neg h, if_neg (fun e => h (cut_nil e))]
theorem fl_hash : fl 35 = [35] := by decide +kernel
theorem fl_blank : fl 32 = [32] := by decide +kernel
theorem plain2 (cs : List Nat) : prep (cmt (lineOf cs)) = cmtd false cs := by
  apply str_ext
  rw [prep_list, cmt_list, cmtd_list, line_list, cut_false]
  by_cases h : rs cs = []
  · rw [if_pos h, if_pos h, List.flatMap_singleton, fl_hash]
  · rw [if_neg h, if_neg h, List.flatMap_append]
    congr 1
theorem rs_split (cs : List Nat) : ∃ m, cs = rs cs ++ m ∧ ∀ c ∈ m, sp c = true := by
  refine snoc_ind (P := fun cs => ∃ m, cs = rs cs ++ m ∧ ∀ c ∈ m, sp c = true) ⟨[], rfl, by simp⟩ (fun l c ih => ?_) cs
  obtain ⟨m, e, hm⟩ := ih
  rw [rs_snoc]
  cases hs : sp c with
  | true =>
    refine ⟨m ++ [c], ?_, fun d hd => ?_⟩
    · rw [if_pos rfl, ← List.append_assoc, ← e]
    · rcases List.mem_append.mp hd with hd | hd
      · exact hm d hd
      · rw [List.mem_singleton.mp hd]; exact hs
  | false => exact ⟨[], by simp, by simp⟩
theorem plain3 (cs : List Nat) : cmt (prep (cmt (lineOf cs))) = Str.ofString "# " ++ cmt (prep (lineOf cs)) := by
  have key : rs ((rs cs).flatMap fl) = rs (cs.flatMap fl) := by
    obtain ⟨m, e, hm⟩ := rs_split cs
    conv => rhs; rw [e, List.flatMap_append]
    refine (rs_app_sp _ _ fun d hd => ?_).symm
    obtain ⟨c, hc, hd⟩ := List.mem_flatMap.mp hd
    exact fl_sp (hm c hc) d hd
  apply str_ext
  rw [app_list, cmt_list, plain2, cmtd_list, cut_false, cmt_list, prep_list, line_list, ← key]
  have hh : sp 35 = false := by decide +kernel
  have hb : sp 32 = true := by decide +kernel
  by_cases h : rs cs = []
  · rw [h]
    show (if rs [35] = [] then [35] else [35, 32] ++ rs [35]) = [35, 32] ++ (if rs [] = [] then [35] else _)
    rw [show rs [35] = [35] by decide +kernel]
    rfl
  · rw [if_neg h]
    by_cases h2 : rs ((rs cs).flatMap fl) = []
    · rw [if_pos h2, rs_app_sp _ _ (rs_nil h2), show rs [35, 32] = [35] by decide +kernel]
      rfl
    · rw [if_neg h2]
      have e : rs ([35, 32] ++ (rs cs).flatMap fl) = [35, 32] ++ rs ((rs cs).flatMap fl) := by
        rw [rs_folds] at h2 ⊢
        have e1 : (rs cs).flatMap fl = (rs cs).flatMap fl := rfl
        obtain ⟨m, e, hm⟩ := rs_split ((rs cs).flatMap fl)
        rw [rs_folds] at e
        conv => lhs; rw [e]
        rw [← List.append_assoc, rs_app_sp _ _ hm]
        refine rs_app_end ?_
        refine snoc_ind (P := fun cs => (cutR true cs).flatMap fl ≠ [] → endsWell ((cutR true cs).flatMap fl) = true) (fun h => absurd rfl h) (fun l c ih => ?_) (rs cs) h2
        rw [cutR_snoc]
        cases hg : gone true c with
        | true => exact ih
        | false =>
          intro _
          show endsWell ((l ++ [c]).flatMap fl) = true
          rw [List.flatMap_append, List.flatMap_singleton]
          have := fl_stays hg
          unfold endsWell at this ⊢
          cases e : (fl c).getLast? with
          | none => rw [e] at this; cases this
          | some d => rw [List.getLast?_append, e]; rw [e] at this; exact this
      rw [e, if_neg (by simp)]
      rfl
end Mine
end T_WkPlain

section T_WkEnd
open PySem PySem.W PyProof.Rows PyProof.V PySem.Spec
set_option Elab.async false
namespace Mine
set_option maxRecDepth 100000
set_option linter.unusedVariables false
theorem fn_at (w : World) : (finHeap w.params).nsMap mainGlobals "law" = some (.ref 131) := by kernel_rfl
set_option maxHeartbeats 8000000 in
theorem done : law0.Holds := by
  refine head0 ?_
  intro w s₀ s₁ mg mb G Y fa o pm cd doc dV kV ho hd hcd hD hmg hg args vals as hpre hlay hrd hwl hlo
  wrow_args hpre hlay hrd hwl hlo
  have T : TopIn w s₁.heap := Y
  have e1 : mg "law" = some (.ref 131) := by
    have h1 := G.T.g
    have h2 := main_ns T
    obtain ⟨o1, es1, ep1, g1, d1, k1, f1⟩ := h1
    obtain ⟨o2, es2, ep2, g2, d2, k2, f2⟩ := h2
    rw [g1] at g2; cases g2
    rw [d1] at d2; cases d2
    rw [← f1, f2]; exact fn_at w
  rw [hmg] at e1
  cases e1
  rename IntsAre _ _ => hI
  rename Heap.IsList _ _ _ => hS
  rename ¬ ((63 : Nat) : Int) < _ => hc
  refine law_law T ⟨rfl, by decide, by decide⟩ hS hI (by omega) plain1 plain2 plain3 (fun h' tk hk => ?_)
  exact GoodW.toG ⟨.inl ⟨_, .bool true, [], rfl, fun cls => rfl, .bool true, by first | kernel_rfl | (with_unfolding_all rfl), fun _ => ⟨List.nodup_nil, fun a ha => by cases ha⟩⟩, hk, rfl, hg⟩
end Mine
end T_WkEnd

theorem PySem.Challenge.cw_mj0184_01_holds : PySem.Challenge.rw_mj0184_01.Holds :=
  Mine.done
